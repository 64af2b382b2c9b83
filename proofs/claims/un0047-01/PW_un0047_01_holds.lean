import PyProof.Rows.All
import Wide.All
import OpenK.AllK
import Wide.FinOn
import PySem.Challenge.RW_un0047_01
open PySem PySem.W PyProof.Rows PySem.Calls
set_option Elab.async false
set_option maxRecDepth 100000
set_option maxHeartbeats 0
set_option linter.all false
namespace Mine
local macro_rules | `(tactic| walk_at $s:str) => `(tactic| k_extra $s)
theorem room_le {a b R : Nat} (h : a + b < R) (c : Nat) (hc : Nat.ble c b = true) : a + c < R := Nat.lt_of_le_of_lt (Nat.add_le_add_left (Nat.le_of_ble_eq_true hc) a) h
theorem rows0 : True := by
  k_with "my room" => (first | exact room_le hdp 0 rfl | exact room_le hdp 1 rfl | exact room_le hdp 2 rfl | exact room_le hdp 3 rfl | exact room_le hdp 4 rfl | exact room_le hdp 5 rfl | exact room_le hdp 6 rfl | exact room_le hdp 7 rfl | exact room_le hdp 8 rfl | exact room_le hdp 9 rfl | exact room_le hdp 10 rfl | exact room_le hdp 11 rfl | exact room_le hdp 12 rfl | exact room_le hdp 13 rfl | exact room_le hdp 14 rfl | exact room_le hdp 15 rfl | exact room_le hdp 16 rfl | exact room_le hdp 17 rfl | exact room_le hdp 18 rfl | exact room_le hdp 19 rfl | exact room_le hdp 20 rfl | exact room_le hdp 21 rfl | exact room_le hdp 22 rfl | exact room_le hdp 23 rfl | exact room_le hdp 24 rfl | exact room_le hdp 25 rfl | exact room_le hdp 26 rfl | exact room_le hdp 27 rfl | exact room_le hdp 28 rfl | exact room_le hdp 29 rfl | exact room_le hdp 30 rfl | exact room_le hdp 31 rfl | exact room_le hdp 32 rfl | exact room_le hdp 33 rfl | exact room_le hdp 34 rfl | exact room_le hdp 35 rfl | exact room_le hdp 36 rfl | exact room_le hdp 37 rfl | exact room_le hdp 38 rfl | exact room_le hdp 39 rfl | exact room_le hdp 40 rfl | fail)
  k_with "my units" => (first | exact room_le hun 0 rfl | exact room_le hun 1 rfl | exact room_le hun 2 rfl | exact room_le hun 3 rfl | exact room_le hun 4 rfl | exact room_le hun 5 rfl | exact room_le hun 6 rfl | exact room_le hun 7 rfl | exact room_le hun 8 rfl | exact room_le hun 9 rfl | exact room_le hun 10 rfl | exact room_le hun 11 rfl | exact room_le hun 12 rfl | exact room_le hun 13 rfl | exact room_le hun 14 rfl | exact room_le hun 15 rfl | exact room_le hun 16 rfl | exact room_le hun 17 rfl | exact room_le hun 18 rfl | exact room_le hun 19 rfl | exact room_le hun 20 rfl | exact room_le hun 21 rfl | exact room_le hun 22 rfl | exact room_le hun 23 rfl | exact room_le hun 24 rfl | exact room_le hun 25 rfl | exact room_le hun 26 rfl | exact room_le hun 27 rfl | exact room_le hun 28 rfl | exact room_le hun 29 rfl | exact room_le hun 30 rfl | exact room_le hun 31 rfl | exact room_le hun 32 rfl | exact room_le hun 33 rfl | exact room_le hun 34 rfl | exact room_le hun 35 rfl | exact room_le hun 36 rfl | exact room_le hun 37 rfl | exact room_le hun 38 rfl | exact room_le hun 39 rfl | exact room_le hun 40 rfl | exact room_le hun 41 rfl | exact room_le hun 42 rfl | exact room_le hun 43 rfl | exact room_le hun 44 rfl | exact room_le hun 45 rfl | exact room_le hun 46 rfl | exact room_le hun 47 rfl | exact room_le hun 48 rfl | exact room_le hun 49 rfl | exact room_le hun 50 rfl | exact room_le hun 51 rfl | exact room_le hun 52 rfl | exact room_le hun 53 rfl | exact room_le hun 54 rfl | exact room_le hun 55 rfl | exact room_le hun 56 rfl | exact room_le hun 57 rfl | exact room_le hun 58 rfl | exact room_le hun 59 rfl | exact room_le hun 60 rfl | exact room_le hun 61 rfl | exact room_le hun 62 rfl | exact room_le hun 63 rfl | exact room_le hun 64 rfl | exact room_le hun 65 rfl | exact room_le hun 66 rfl | exact room_le hun 67 rfl | exact room_le hun 68 rfl | exact room_le hun 69 rfl | exact room_le hun 70 rfl | exact room_le hun 71 rfl | exact room_le hun 72 rfl | exact room_le hun 73 rfl | exact room_le hun 74 rfl | exact room_le hun 75 rfl | exact room_le hun 76 rfl | exact room_le hun 77 rfl | exact room_le hun 78 rfl | exact room_le hun 79 rfl | exact room_le hun 80 rfl | exact room_le hun 81 rfl | exact room_le hun 82 rfl | exact room_le hun 83 rfl | exact room_le hun 84 rfl | exact room_le hun 85 rfl | exact room_le hun 86 rfl | exact room_le hun 87 rfl | exact room_le hun 88 rfl | exact room_le hun 89 rfl | exact room_le hun 90 rfl | exact room_le hun 91 rfl | exact room_le hun 92 rfl | exact room_le hun 93 rfl | exact room_le hun 94 rfl | exact room_le hun 95 rfl | exact room_le hun 96 rfl | exact room_le hun 97 rfl | exact room_le hun 98 rfl | exact room_le hun 99 rfl | exact room_le hun 100 rfl | exact room_le hun 101 rfl | exact room_le hun 102 rfl | exact room_le hun 103 rfl | exact room_le hun 104 rfl | exact room_le hun 105 rfl | exact room_le hun 106 rfl | exact room_le hun 107 rfl | exact room_le hun 108 rfl | exact room_le hun 109 rfl | exact room_le hun 110 rfl | exact room_le hun 111 rfl | exact room_le hun 112 rfl | exact room_le hun 113 rfl | exact room_le hun 114 rfl | exact room_le hun 115 rfl | exact room_le hun 116 rfl | exact room_le hun 117 rfl | exact room_le hun 118 rfl | exact room_le hun 119 rfl | exact room_le hun 120 rfl | exact room_le hun 121 rfl | exact room_le hun 122 rfl | exact room_le hun 123 rfl | exact room_le hun 124 rfl | exact room_le hun 125 rfl | exact room_le hun 126 rfl | exact room_le hun 127 rfl | exact room_le hun 128 rfl | exact room_le hun 129 rfl | exact room_le hun 130 rfl | exact room_le hun 131 rfl | exact room_le hun 132 rfl | exact room_le hun 133 rfl | exact room_le hun 134 rfl | exact room_le hun 135 rfl | exact room_le hun 136 rfl | exact room_le hun 137 rfl | exact room_le hun 138 rfl | exact room_le hun 139 rfl | exact room_le hun 140 rfl | exact room_le hun 141 rfl | exact room_le hun 142 rfl | exact room_le hun 143 rfl | exact room_le hun 144 rfl | exact room_le hun 145 rfl | exact room_le hun 146 rfl | exact room_le hun 147 rfl | exact room_le hun 148 rfl | exact room_le hun 149 rfl | exact room_le hun 150 rfl | exact room_le hun 151 rfl | exact room_le hun 152 rfl | exact room_le hun 153 rfl | exact room_le hun 154 rfl | exact room_le hun 155 rfl | exact room_le hun 156 rfl | exact room_le hun 157 rfl | exact room_le hun 158 rfl | exact room_le hun 159 rfl | exact room_le hun 160 rfl | exact room_le hun 161 rfl | exact room_le hun 162 rfl | exact room_le hun 163 rfl | exact room_le hun 164 rfl | exact room_le hun 165 rfl | exact room_le hun 166 rfl | exact room_le hun 167 rfl | exact room_le hun 168 rfl | exact room_le hun 169 rfl | exact room_le hun 170 rfl | fail)
  trivial
local macro_rules | `(tactic| ktr_room) => `(tactic| walk_at "my room")
local macro_rules | `(tactic| ktr_units) => `(tactic| walk_at "my units")
noncomputable def fnStmt : Stmt → Arguments × List Stmt × Scope
  | .FunctionDef _ ps bd _ _ _ sc _ _ _ => (ps, bd, sc)
  | _ => (⟨[], [], none, [], [], none, []⟩, [], { kind := .function, names := [], isGenerator := false, isCoroutine := false })
noncomputable def clStmt : Stmt → List Stmt
  | .ClassDef _ _ _ b _ _ _ _ _ _ _ => b
  | _ => []
noncomputable def fnAt (l : List Stmt) (k : Nat) : Arguments × List Stmt × Scope := match l.drop k with
  | st :: _ => fnStmt st
  | [] => fnStmt (.Pass ⟨0, 0, 0, 0⟩)
noncomputable def clAt (l : List Stmt) (k : Nat) : List Stmt := match l.drop k with
  | st :: _ => clStmt st
  | [] => []
noncomputable abbrev PB : List Stmt := PySem.Challenge.pw_un0047_01.main.body
noncomputable def heapOf (p21 : Arguments) (b21 : List Stmt) (c21 : Scope) (p28 : Arguments) (b28 : List Stmt) (c28 : Scope) (p42 : Arguments) (b42 : List Stmt) (c42 : Scope) (p61 : Arguments) (b61 : List Stmt) (c61 : Scope) (p68 : Arguments) (b68 : List Stmt) (c68 : Scope) (p75 : Arguments) (b75 : List Stmt) (c75 : Scope) (p87 : Arguments) (b87 : List Stmt) (c87 : Scope) (p94 : Arguments) (b94 : List Stmt) (c94 : Scope) (p101 : Arguments) (b101 : List Stmt) (c101 : Scope) (p108 : Arguments) (b108 : List Stmt) (c108 : Scope) (p115 : Arguments) (b115 : List Stmt) (c115 : Scope) (p122 : Arguments) (b122 : List Stmt) (c122 : Scope) (p129 : Arguments) (b129 : List Stmt) (c129 : Scope) (p134 : Arguments) (b134 : List Stmt) (c134 : Scope) (p148 : Arguments) (b148 : List Stmt) (c148 : Scope) (p155 : Arguments) (b155 : List Stmt) (c155 : Scope) (p162 : Arguments) (b162 : List Stmt) (c162 : Scope) (p169 : Arguments) (b169 : List Stmt) (c169 : Scope) (p183 : Arguments) (b183 : List Stmt) (c183 : Scope) (p223 : Arguments) (b223 : List Stmt) (c223 : Scope) (p230 : Arguments) (b230 : List Stmt) (c230 : Scope) (p235 : Arguments) (b235 : List Stmt) (c235 : Scope) (p242 : Arguments) (b242 : List Stmt) (c242 : Scope) (p247 : Arguments) (b247 : List Stmt) (c247 : Scope)
  (_ : fnAt PB 0 = (p21, b21, c21)) (_ : fnAt PB 2 = (p28, b28, c28)) (_ : fnAt (clAt PB 4) 0 = (p42, b42, c42)) (_ : fnAt (clAt PB 6) 0 = (p61, b61, c61)) (_ : fnAt (clAt PB 6) 1 = (p68, b68, c68)) (_ : fnAt (clAt PB 6) 2 = (p75, b75, c75)) (_ : fnAt PB 7 = (p87, b87, c87)) (_ : fnAt PB 9 = (p94, b94, c94)) (_ : fnAt PB 11 = (p101, b101, c101)) (_ : fnAt PB 13 = (p108, b108, c108)) (_ : fnAt PB 14 = (p115, b115, c115)) (_ : fnAt PB 15 = (p122, b122, c122)) (_ : fnAt PB 16 = (p129, b129, c129)) (_ : fnAt PB 17 = (p134, b134, c134)) (_ : fnAt (clAt PB 19) 0 = (p148, b148, c148)) (_ : fnAt (clAt PB 19) 1 = (p155, b155, c155)) (_ : fnAt (clAt PB 19) 2 = (p162, b162, c162)) (_ : fnAt (clAt PB 19) 3 = (p169, b169, c169)) (_ : fnAt PB 21 = (p183, b183, c183)) (_ : fnAt PB 42 = (p223, b223, c223)) (_ : fnAt PB 44 = (p230, b230, c230)) (_ : fnAt PB 45 = (p235, b235, c235)) (_ : fnAt PB 46 = (p242, b242, c242)) (_ : fnAt PB 47 = (p247, b247, c247)) : Params → Frag := fun P =>
  (nat_lit 2, { cls := Value.none, data := Data.dict #[] }) ::
   (nat_lit 3, { cls := Value.type "dict", data := Data.dict #[{ hash := PyData.keyHash P (Str.ofString "__name__"), key := Value.str (Str.ofString "__name__") (165 : Nat), val := Value.str (Str.ofString "law_un0047_01") (501 : Nat) }, { hash := PyData.keyHash P (Str.ofString "__doc__"), key := Value.str (Str.ofString "__doc__") (166 : Nat), val := Value.none }, { hash := PyData.keyHash P (Str.ofString "__package__"), key := Value.str (Str.ofString "__package__") (167 : Nat), val := Value.none }, { hash := PyData.keyHash P (Str.ofString "__loader__"), key := Value.str (Str.ofString "__loader__") (168 : Nat), val := Value.builtin "__main__.__loader__#opaque" }, { hash := PyData.keyHash P (Str.ofString "__spec__"), key := Value.str (Str.ofString "__spec__") (169 : Nat), val := Value.none }, { hash := PyData.keyHash P (Str.ofString "__annotations__"), key := Value.str (Str.ofString "__annotations__") (170 : Nat), val := Value.ref (6 : Nat) }, { hash := PyData.keyHash P (Str.ofString "__builtins__"), key := Value.str (Str.ofString "__builtins__") (171 : Nat), val := Value.ref (4 : Nat) }, { hash := PyData.keyHash P (Str.ofString "__file__"), key := Value.str (Str.ofString "__file__") (173 : Nat), val := Value.str (Str.ofString "/claim/cut.py") (172 : Nat) }, { hash := PyData.keyHash P (Str.ofString "__cached__"), key := Value.str (Str.ofString "__cached__") (174 : Nat), val := Value.none }, { hash := PyData.keyHash P (Str.ofString "_wall"), key := Value.str (Str.ofString "_wall") (193 : Nat), val := Value.ref (21 : Nat) }, { hash := PyData.keyHash P (Str.ofString "_plain_name"), key := Value.str (Str.ofString "_plain_name") (204 : Nat), val := Value.ref (28 : Nat) }, { hash := PyData.keyHash P (Str.ofString "ABCMeta"), key := Value.str (Str.ofString "ABCMeta") (230 : Nat), val := Value.ref (45 : Nat) }, { hash := PyData.keyHash P (Str.ofString "_ABCLike"), key := Value.str (Str.ofString "_ABCLike") (273 : Nat), val := Value.ref (78 : Nat) }, { hash := PyData.keyHash P (Str.ofString "_abc_plain_meta"), key := Value.str (Str.ofString "_abc_plain_meta") (280 : Nat), val := Value.ref (87 : Nat) }, { hash := PyData.keyHash P (Str.ofString "fspath"), key := Value.str (Str.ofString "fspath") (292 : Nat), val := Value.ref (94 : Nat) }, { hash := PyData.keyHash P (Str.ofString "_check_arg_types"), key := Value.str (Str.ofString "_check_arg_types") (305 : Nat), val := Value.ref (101 : Nat) }, { hash := PyData.keyHash P (Str.ofString "_get_sep"), key := Value.str (Str.ofString "_get_sep") (314 : Nat), val := Value.ref (108 : Nat) }, { hash := PyData.keyHash P (Str.ofString "join"), key := Value.str (Str.ofString "join") (325 : Nat), val := Value.ref (115 : Nat) }, { hash := PyData.keyHash P (Str.ofString "splitroot"), key := Value.str (Str.ofString "splitroot") (334 : Nat), val := Value.ref (122 : Nat) }, { hash := PyData.keyHash P (Str.ofString "normpath"), key := Value.str (Str.ofString "normpath") (349 : Nat), val := Value.ref (129 : Nat) }, { hash := PyData.keyHash P (Str.ofString "commonpath"), key := Value.str (Str.ofString "commonpath") (355 : Nat), val := Value.ref (134 : Nat) }, { hash := PyData.keyHash P (Str.ofString "_netrclex"), key := Value.str (Str.ofString "_netrclex") (415 : Nat), val := Value.ref (172 : Nat) }, { hash := PyData.keyHash P (Str.ofString "S_IFMT"), key := Value.str (Str.ofString "S_IFMT") (424 : Nat), val := Value.ref (183 : Nat) }, { hash := PyData.keyHash P (Str.ofString "S_IFDIR"), key := Value.str (Str.ofString "S_IFDIR") (426 : Nat), val := Value.int 16384 (425 : Nat) }, { hash := PyData.keyHash P (Str.ofString "S_IFCHR"), key := Value.str (Str.ofString "S_IFCHR") (428 : Nat), val := Value.int 8192 (427 : Nat) }, { hash := PyData.keyHash P (Str.ofString "S_IFBLK"), key := Value.str (Str.ofString "S_IFBLK") (430 : Nat), val := Value.int 24576 (429 : Nat) }, { hash := PyData.keyHash P (Str.ofString "S_IFREG"), key := Value.str (Str.ofString "S_IFREG") (432 : Nat), val := Value.int 32768 (431 : Nat) }, { hash := PyData.keyHash P (Str.ofString "S_IFIFO"), key := Value.str (Str.ofString "S_IFIFO") (434 : Nat), val := Value.int 4096 (433 : Nat) }, { hash := PyData.keyHash P (Str.ofString "S_IFLNK"), key := Value.str (Str.ofString "S_IFLNK") (436 : Nat), val := Value.int 40960 (435 : Nat) }, { hash := PyData.keyHash P (Str.ofString "S_IFSOCK"), key := Value.str (Str.ofString "S_IFSOCK") (438 : Nat), val := Value.int 49152 (437 : Nat) }, { hash := PyData.keyHash P (Str.ofString "S_ISUID"), key := Value.str (Str.ofString "S_ISUID") (440 : Nat), val := Value.int 2048 (439 : Nat) }, { hash := PyData.keyHash P (Str.ofString "S_ISGID"), key := Value.str (Str.ofString "S_ISGID") (442 : Nat), val := Value.int 1024 (441 : Nat) }, { hash := PyData.keyHash P (Str.ofString "S_ISVTX"), key := Value.str (Str.ofString "S_ISVTX") (444 : Nat), val := Value.int 512 (443 : Nat) }, { hash := PyData.keyHash P (Str.ofString "S_IRUSR"), key := Value.str (Str.ofString "S_IRUSR") (446 : Nat), val := Value.int 256 (445 : Nat) }, { hash := PyData.keyHash P (Str.ofString "S_IWUSR"), key := Value.str (Str.ofString "S_IWUSR") (448 : Nat), val := Value.int 128 (447 : Nat) }, { hash := PyData.keyHash P (Str.ofString "S_IXUSR"), key := Value.str (Str.ofString "S_IXUSR") (450 : Nat), val := Value.int 64 (449 : Nat) }, { hash := PyData.keyHash P (Str.ofString "S_IRGRP"), key := Value.str (Str.ofString "S_IRGRP") (452 : Nat), val := Value.int 32 (451 : Nat) }, { hash := PyData.keyHash P (Str.ofString "S_IWGRP"), key := Value.str (Str.ofString "S_IWGRP") (454 : Nat), val := Value.int 16 (453 : Nat) }, { hash := PyData.keyHash P (Str.ofString "S_IXGRP"), key := Value.str (Str.ofString "S_IXGRP") (456 : Nat), val := Value.int 8 (455 : Nat) }, { hash := PyData.keyHash P (Str.ofString "S_IROTH"), key := Value.str (Str.ofString "S_IROTH") (458 : Nat), val := Value.int 4 (457 : Nat) }, { hash := PyData.keyHash P (Str.ofString "S_IWOTH"), key := Value.str (Str.ofString "S_IWOTH") (460 : Nat), val := Value.int 2 (459 : Nat) }, { hash := PyData.keyHash P (Str.ofString "S_IXOTH"), key := Value.str (Str.ofString "S_IXOTH") (462 : Nat), val := Value.int 1 (461 : Nat) }, { hash := PyData.keyHash P (Str.ofString "_filemode_table"), key := Value.str (Str.ofString "_filemode_table") (488 : Nat), val := Value.ref (216 : Nat) }, { hash := PyData.keyHash P (Str.ofString "filemode"), key := Value.str (Str.ofString "filemode") (500 : Nat), val := Value.ref (223 : Nat) }, { hash := PyData.keyHash P (Str.ofString "_law_lexer"), key := Value.str (Str.ofString "_law_lexer") (512 : Nat), val := Value.ref (230 : Nat) }, { hash := PyData.keyHash P (Str.ofString "_law_walked"), key := Value.str (Str.ofString "_law_walked") (518 : Nat), val := Value.ref (235 : Nat) }, { hash := PyData.keyHash P (Str.ofString "_law_names"), key := Value.str (Str.ofString "_law_names") (528 : Nat), val := Value.ref (242 : Nat) }, { hash := PyData.keyHash P (Str.ofString "law"), key := Value.str (Str.ofString "law") (534 : Nat), val := Value.ref (247 : Nat) }] 48 }) ::
   (nat_lit 15, { cls := Value.type "tuple", data := Data.seq #[] }) ::
   (nat_lit 17, { cls := Value.type "tuple", data := Data.seq #[Value.str (Str.ofString "k") (190 : Nat)] }) ::
   (nat_lit 18, { cls := Value.type "tuple", data := Data.seq #[] }) ::
   (nat_lit 20, { cls := Value.type "code", data := Data.fields #[Value.str (Str.ofString "_wall") (187 : Nat), Value.str (Str.ofString "_wall") (188 : Nat), Value.str (Str.ofString "/claim/cut.py") (189 : Nat), Value.int 1 (0 : Nat), Value.int 1 (0 : Nat), Value.int 0 (0 : Nat), Value.int 0 (0 : Nat), Value.int 3 (0 : Nat), Value.ref (15 : Nat), Value.bool true, Value.int 181 (0 : Nat), Value.ref (16 : Nat), Value.none, Value.ref (17 : Nat), Value.ref (18 : Nat), Value.ref (19 : Nat), Value.int 191 (0 : Nat), Value.int 1 (0 : Nat), Value.str (Str.ofString "/claim/cut.py") (192 : Nat)] }) ::
   (nat_lit 21, { cls := Value.type "function", data := Data.func { name := Str.ofString "_wall", qualname := Str.ofString "_wall", params := p21, body := FuncBody.stmts b21, scope := c21, globals := (3 : Nat), closure := [], defaults := Value.none, kwdefaults := Value.none, pyModule := Value.str (Str.ofString "__main__") (164 : Nat), code := Value.ref (20 : Nat) } }) ::
   (nat_lit 22, { cls := Value.type "tuple", data := Data.seq #[] }) ::
   (nat_lit 24, { cls := Value.type "tuple", data := Data.seq #[Value.str (Str.ofString "x") (199 : Nat), Value.str (Str.ofString "what") (200 : Nat), Value.str (Str.ofString "kind") (201 : Nat)] }) ::
   (nat_lit 25, { cls := Value.type "tuple", data := Data.seq #[] }) ::
   (nat_lit 27, { cls := Value.type "code", data := Data.fields #[Value.str (Str.ofString "_plain_name") (196 : Nat), Value.str (Str.ofString "_plain_name") (197 : Nat), Value.str (Str.ofString "/claim/cut.py") (198 : Nat), Value.int 5 (0 : Nat), Value.int 2 (0 : Nat), Value.int 0 (0 : Nat), Value.int 0 (0 : Nat), Value.int 3 (0 : Nat), Value.ref (22 : Nat), Value.bool true, Value.int 181 (0 : Nat), Value.ref (23 : Nat), Value.none, Value.ref (24 : Nat), Value.ref (25 : Nat), Value.ref (26 : Nat), Value.int 202 (0 : Nat), Value.int 5 (0 : Nat), Value.str (Str.ofString "/claim/cut.py") (203 : Nat)] }) ::
   (nat_lit 28, { cls := Value.type "function", data := Data.func { name := Str.ofString "_plain_name", qualname := Str.ofString "_plain_name", params := p28, body := FuncBody.stmts b28, scope := c28, globals := (3 : Nat), closure := [], defaults := Value.none, kwdefaults := Value.none, pyModule := Value.str (Str.ofString "os") (194 : Nat), code := Value.ref (27 : Nat) } }) ::
   (nat_lit 29, { cls := Value.type "tuple", data := Data.seq #[Value.type "type"] }) ::
   (nat_lit 36, { cls := Value.type "tuple", data := Data.seq #[] }) ::
   (nat_lit 38, { cls := Value.type "tuple", data := Data.seq #[Value.str (Str.ofString "cls") (222 : Nat), Value.str (Str.ofString "subclass") (223 : Nat)] }) ::
   (nat_lit 39, { cls := Value.type "tuple", data := Data.seq #[] }) ::
   (nat_lit 41, { cls := Value.type "code", data := Data.fields #[Value.str (Str.ofString "register") (219 : Nat), Value.str (Str.ofString "ABCMeta.register") (220 : Nat), Value.str (Str.ofString "/claim/cut.py") (221 : Nat), Value.int 13 (0 : Nat), Value.int 2 (0 : Nat), Value.int 0 (0 : Nat), Value.int 0 (0 : Nat), Value.int 3 (0 : Nat), Value.ref (36 : Nat), Value.bool true, Value.int 181 (0 : Nat), Value.ref (37 : Nat), Value.none, Value.ref (38 : Nat), Value.ref (39 : Nat), Value.ref (40 : Nat), Value.int 224 (0 : Nat), Value.int 13 (0 : Nat), Value.str (Str.ofString "/claim/cut.py") (225 : Nat)] }) ::
   (nat_lit 42, { cls := Value.type "function", data := Data.func { name := Str.ofString "register", qualname := Str.ofString "ABCMeta.register", params := p42, body := FuncBody.stmts b42, scope := c42, globals := (3 : Nat), closure := [], defaults := Value.none, kwdefaults := Value.none, pyModule := Value.str (Str.ofString "abc") (205 : Nat), code := Value.ref (41 : Nat) } }) ::
   (nat_lit 43, { cls := Value.type "tuple", data := Data.seq #[] }) ::
   (nat_lit 44, { cls := Value.type "dict", data := Data.dict #[{ hash := PyData.keyHash P (Str.ofString "__module__"), key := Value.str (Str.ofString "__module__") (214 : Nat), val := Value.str (Str.ofString "abc") (205 : Nat) }, { hash := PyData.keyHash P (Str.ofString "__firstlineno__"), key := Value.str (Str.ofString "__firstlineno__") (218 : Nat), val := Value.int 11 (217 : Nat) }, { hash := PyData.keyHash P (Str.ofString "register"), key := Value.str (Str.ofString "register") (226 : Nat), val := Value.ref (42 : Nat) }, { hash := PyData.keyHash P (Str.ofString "__static_attributes__"), key := Value.str (Str.ofString "__static_attributes__") (227 : Nat), val := Value.ref (43 : Nat) }, { hash := PyData.keyHash P (Str.ofString "__doc__"), key := Value.str (Str.ofString "__doc__") (228 : Nat), val := Value.none }] 2 }) ::
   (nat_lit 45, { cls := Value.type "type", data := Data.cls { name := Str.ofString "ABCMeta", bases := [Value.type "type"], mro := [Value.ref (45 : Nat), Value.type "type", Value.type "object"], ns := 44, qualname := Str.ofString "ABCMeta", subclasses := [Value.ref (78 : Nat)] }, slots := #[some (Value.ref (29 : Nat)), none, some (Value.str (Str.ofString "ABCMeta") (207 : Nat)), some (Value.str (Str.ofString "ABCMeta") (215 : Nat)), some (Value.builtin "type.__new__"), some (Value.bool true)] }) ::
   (nat_lit 48, { cls := Value.type "tuple", data := Data.seq #[Value.ref (45 : Nat)] }) ::
   (nat_lit 55, { cls := Value.type "tuple", data := Data.seq #[] }) ::
   (nat_lit 57, { cls := Value.type "tuple", data := Data.seq #[Value.str (Str.ofString "cls") (248 : Nat), Value.str (Str.ofString "instance") (249 : Nat), Value.str (Str.ofString "C") (250 : Nat)] }) ::
   (nat_lit 58, { cls := Value.type "tuple", data := Data.seq #[] }) ::
   (nat_lit 60, { cls := Value.type "code", data := Data.fields #[Value.str (Str.ofString "__instancecheck__") (245 : Nat), Value.str (Str.ofString "_ABCLike.__instancecheck__") (246 : Nat), Value.str (Str.ofString "/claim/cut.py") (247 : Nat), Value.int 18 (0 : Nat), Value.int 2 (0 : Nat), Value.int 0 (0 : Nat), Value.int 0 (0 : Nat), Value.int 3 (0 : Nat), Value.ref (55 : Nat), Value.bool true, Value.int 181 (0 : Nat), Value.ref (56 : Nat), Value.none, Value.ref (57 : Nat), Value.ref (58 : Nat), Value.ref (59 : Nat), Value.int 251 (0 : Nat), Value.int 18 (0 : Nat), Value.str (Str.ofString "/claim/cut.py") (252 : Nat)] }) ::
   (nat_lit 61, { cls := Value.type "function", data := Data.func { name := Str.ofString "__instancecheck__", qualname := Str.ofString "_ABCLike.__instancecheck__", params := p61, body := FuncBody.stmts b61, scope := c61, globals := (3 : Nat), closure := [], defaults := Value.none, kwdefaults := Value.none, pyModule := Value.str (Str.ofString "collections.abc") (231 : Nat), code := Value.ref (60 : Nat) } }) ::
   (nat_lit 62, { cls := Value.type "tuple", data := Data.seq #[] }) ::
   (nat_lit 64, { cls := Value.type "tuple", data := Data.seq #[Value.str (Str.ofString "cls") (257 : Nat), Value.str (Str.ofString "C") (258 : Nat)] }) ::
   (nat_lit 65, { cls := Value.type "tuple", data := Data.seq #[] }) ::
   (nat_lit 67, { cls := Value.type "code", data := Data.fields #[Value.str (Str.ofString "__subclasscheck__") (254 : Nat), Value.str (Str.ofString "_ABCLike.__subclasscheck__") (255 : Nat), Value.str (Str.ofString "/claim/cut.py") (256 : Nat), Value.int 24 (0 : Nat), Value.int 2 (0 : Nat), Value.int 0 (0 : Nat), Value.int 0 (0 : Nat), Value.int 3 (0 : Nat), Value.ref (62 : Nat), Value.bool true, Value.int 181 (0 : Nat), Value.ref (63 : Nat), Value.none, Value.ref (64 : Nat), Value.ref (65 : Nat), Value.ref (66 : Nat), Value.int 259 (0 : Nat), Value.int 24 (0 : Nat), Value.str (Str.ofString "/claim/cut.py") (260 : Nat)] }) ::
   (nat_lit 68, { cls := Value.type "function", data := Data.func { name := Str.ofString "__subclasscheck__", qualname := Str.ofString "_ABCLike.__subclasscheck__", params := p68, body := FuncBody.stmts b68, scope := c68, globals := (3 : Nat), closure := [], defaults := Value.none, kwdefaults := Value.none, pyModule := Value.str (Str.ofString "collections.abc") (231 : Nat), code := Value.ref (67 : Nat) } }) ::
   (nat_lit 69, { cls := Value.type "tuple", data := Data.seq #[] }) ::
   (nat_lit 71, { cls := Value.type "tuple", data := Data.seq #[Value.str (Str.ofString "cls") (265 : Nat), Value.str (Str.ofString "subclass") (266 : Nat)] }) ::
   (nat_lit 72, { cls := Value.type "tuple", data := Data.seq #[] }) ::
   (nat_lit 74, { cls := Value.type "code", data := Data.fields #[Value.str (Str.ofString "register") (262 : Nat), Value.str (Str.ofString "_ABCLike.register") (263 : Nat), Value.str (Str.ofString "/claim/cut.py") (264 : Nat), Value.int 29 (0 : Nat), Value.int 2 (0 : Nat), Value.int 0 (0 : Nat), Value.int 0 (0 : Nat), Value.int 3 (0 : Nat), Value.ref (69 : Nat), Value.bool true, Value.int 181 (0 : Nat), Value.ref (70 : Nat), Value.none, Value.ref (71 : Nat), Value.ref (72 : Nat), Value.ref (73 : Nat), Value.int 267 (0 : Nat), Value.int 29 (0 : Nat), Value.str (Str.ofString "/claim/cut.py") (268 : Nat)] }) ::
   (nat_lit 75, { cls := Value.type "function", data := Data.func { name := Str.ofString "register", qualname := Str.ofString "_ABCLike.register", params := p75, body := FuncBody.stmts b75, scope := c75, globals := (3 : Nat), closure := [], defaults := Value.none, kwdefaults := Value.none, pyModule := Value.str (Str.ofString "collections.abc") (231 : Nat), code := Value.ref (74 : Nat) } }) ::
   (nat_lit 76, { cls := Value.type "tuple", data := Data.seq #[] }) ::
   (nat_lit 77, { cls := Value.type "dict", data := Data.dict #[{ hash := PyData.keyHash P (Str.ofString "__module__"), key := Value.str (Str.ofString "__module__") (240 : Nat), val := Value.str (Str.ofString "collections.abc") (231 : Nat) }, { hash := PyData.keyHash P (Str.ofString "__firstlineno__"), key := Value.str (Str.ofString "__firstlineno__") (244 : Nat), val := Value.int 16 (243 : Nat) }, { hash := PyData.keyHash P (Str.ofString "__instancecheck__"), key := Value.str (Str.ofString "__instancecheck__") (253 : Nat), val := Value.ref (61 : Nat) }, { hash := PyData.keyHash P (Str.ofString "__subclasscheck__"), key := Value.str (Str.ofString "__subclasscheck__") (261 : Nat), val := Value.ref (68 : Nat) }, { hash := PyData.keyHash P (Str.ofString "register"), key := Value.str (Str.ofString "register") (269 : Nat), val := Value.ref (75 : Nat) }, { hash := PyData.keyHash P (Str.ofString "__static_attributes__"), key := Value.str (Str.ofString "__static_attributes__") (270 : Nat), val := Value.ref (76 : Nat) }, { hash := PyData.keyHash P (Str.ofString "__doc__"), key := Value.str (Str.ofString "__doc__") (271 : Nat), val := Value.none }] 2 }) ::
   (nat_lit 78, { cls := Value.type "type", data := Data.cls { name := Str.ofString "_ABCLike", bases := [Value.ref (45 : Nat)], mro := [Value.ref (78 : Nat), Value.ref (45 : Nat), Value.type "type", Value.type "object"], ns := 77, qualname := Str.ofString "_ABCLike" }, slots := #[some (Value.ref (48 : Nat)), none, some (Value.str (Str.ofString "_ABCLike") (233 : Nat)), some (Value.str (Str.ofString "_ABCLike") (241 : Nat)), some (Value.builtin "type.__new__"), some (Value.bool true)] }) ::
   (nat_lit 81, { cls := Value.type "tuple", data := Data.seq #[] }) ::
   (nat_lit 83, { cls := Value.type "tuple", data := Data.seq #[Value.str (Str.ofString "C") (277 : Nat)] }) ::
   (nat_lit 84, { cls := Value.type "tuple", data := Data.seq #[] }) ::
   (nat_lit 86, { cls := Value.type "code", data := Data.fields #[Value.str (Str.ofString "_abc_plain_meta") (274 : Nat), Value.str (Str.ofString "_abc_plain_meta") (275 : Nat), Value.str (Str.ofString "/claim/cut.py") (276 : Nat), Value.int 31 (0 : Nat), Value.int 1 (0 : Nat), Value.int 0 (0 : Nat), Value.int 0 (0 : Nat), Value.int 3 (0 : Nat), Value.ref (81 : Nat), Value.bool true, Value.int 181 (0 : Nat), Value.ref (82 : Nat), Value.none, Value.ref (83 : Nat), Value.ref (84 : Nat), Value.ref (85 : Nat), Value.int 278 (0 : Nat), Value.int 31 (0 : Nat), Value.str (Str.ofString "/claim/cut.py") (279 : Nat)] }) ::
   (nat_lit 87, { cls := Value.type "function", data := Data.func { name := Str.ofString "_abc_plain_meta", qualname := Str.ofString "_abc_plain_meta", params := p87, body := FuncBody.stmts b87, scope := c87, globals := (3 : Nat), closure := [], defaults := Value.none, kwdefaults := Value.none, pyModule := Value.str (Str.ofString "collections.abc") (231 : Nat), code := Value.ref (86 : Nat) } }) ::
   (nat_lit 88, { cls := Value.type "tuple", data := Data.seq #[] }) ::
   (nat_lit 90, { cls := Value.type "tuple", data := Data.seq #[Value.str (Str.ofString "path") (286 : Nat), Value.str (Str.ofString "kind") (287 : Nat), Value.str (Str.ofString "hook") (288 : Nat), Value.str (Str.ofString "given") (289 : Nat)] }) ::
   (nat_lit 91, { cls := Value.type "tuple", data := Data.seq #[] }) ::
   (nat_lit 93, { cls := Value.type "code", data := Data.fields #[Value.str (Str.ofString "fspath") (283 : Nat), Value.str (Str.ofString "fspath") (284 : Nat), Value.str (Str.ofString "/claim/cut.py") (285 : Nat), Value.int 35 (0 : Nat), Value.int 1 (0 : Nat), Value.int 0 (0 : Nat), Value.int 0 (0 : Nat), Value.int 3 (0 : Nat), Value.ref (88 : Nat), Value.bool true, Value.int 181 (0 : Nat), Value.ref (89 : Nat), Value.none, Value.ref (90 : Nat), Value.ref (91 : Nat), Value.ref (92 : Nat), Value.int 290 (0 : Nat), Value.int 35 (0 : Nat), Value.str (Str.ofString "/claim/cut.py") (291 : Nat)] }) ::
   (nat_lit 94, { cls := Value.type "function", data := Data.func { name := Str.ofString "fspath", qualname := Str.ofString "fspath", params := p94, body := FuncBody.stmts b94, scope := c94, globals := (3 : Nat), closure := [], defaults := Value.none, kwdefaults := Value.none, pyModule := Value.str (Str.ofString "os") (281 : Nat), code := Value.ref (93 : Nat) } }) ::
   (nat_lit 95, { cls := Value.type "tuple", data := Data.seq #[] }) ::
   (nat_lit 97, { cls := Value.type "tuple", data := Data.seq #[Value.str (Str.ofString "funcname") (298 : Nat), Value.str (Str.ofString "args") (299 : Nat), Value.str (Str.ofString "hasstr") (300 : Nat), Value.str (Str.ofString "hasbytes") (301 : Nat), Value.str (Str.ofString "s") (302 : Nat)] }) ::
   (nat_lit 98, { cls := Value.type "tuple", data := Data.seq #[] }) ::
   (nat_lit 100, { cls := Value.type "code", data := Data.fields #[Value.str (Str.ofString "_check_arg_types") (295 : Nat), Value.str (Str.ofString "_check_arg_types") (296 : Nat), Value.str (Str.ofString "/claim/cut.py") (297 : Nat), Value.int 52 (0 : Nat), Value.int 1 (0 : Nat), Value.int 0 (0 : Nat), Value.int 0 (0 : Nat), Value.int 7 (0 : Nat), Value.ref (95 : Nat), Value.bool true, Value.int 181 (0 : Nat), Value.ref (96 : Nat), Value.none, Value.ref (97 : Nat), Value.ref (98 : Nat), Value.ref (99 : Nat), Value.int 303 (0 : Nat), Value.int 52 (0 : Nat), Value.str (Str.ofString "/claim/cut.py") (304 : Nat)] }) ::
   (nat_lit 101, { cls := Value.type "function", data := Data.func { name := Str.ofString "_check_arg_types", qualname := Str.ofString "_check_arg_types", params := p101, body := FuncBody.stmts b101, scope := c101, globals := (3 : Nat), closure := [], defaults := Value.none, kwdefaults := Value.none, pyModule := Value.str (Str.ofString "cpy313.genericpath") (293 : Nat), code := Value.ref (100 : Nat) } }) ::
   (nat_lit 102, { cls := Value.type "tuple", data := Data.seq #[] }) ::
   (nat_lit 104, { cls := Value.type "tuple", data := Data.seq #[Value.str (Str.ofString "path") (311 : Nat)] }) ::
   (nat_lit 105, { cls := Value.type "tuple", data := Data.seq #[] }) ::
   (nat_lit 107, { cls := Value.type "code", data := Data.fields #[Value.str (Str.ofString "_get_sep") (308 : Nat), Value.str (Str.ofString "_get_sep") (309 : Nat), Value.str (Str.ofString "/claim/cut.py") (310 : Nat), Value.int 64 (0 : Nat), Value.int 1 (0 : Nat), Value.int 0 (0 : Nat), Value.int 0 (0 : Nat), Value.int 3 (0 : Nat), Value.ref (102 : Nat), Value.bool true, Value.int 181 (0 : Nat), Value.ref (103 : Nat), Value.none, Value.ref (104 : Nat), Value.ref (105 : Nat), Value.ref (106 : Nat), Value.int 312 (0 : Nat), Value.int 64 (0 : Nat), Value.str (Str.ofString "/claim/cut.py") (313 : Nat)] }) ::
   (nat_lit 108, { cls := Value.type "function", data := Data.func { name := Str.ofString "_get_sep", qualname := Str.ofString "_get_sep", params := p108, body := FuncBody.stmts b108, scope := c108, globals := (3 : Nat), closure := [], defaults := Value.none, kwdefaults := Value.none, pyModule := Value.str (Str.ofString "cpy313.posixpath") (306 : Nat), code := Value.ref (107 : Nat) } }) ::
   (nat_lit 109, { cls := Value.type "tuple", data := Data.seq #[] }) ::
   (nat_lit 111, { cls := Value.type "tuple", data := Data.seq #[Value.str (Str.ofString "a") (318 : Nat), Value.str (Str.ofString "p") (319 : Nat), Value.str (Str.ofString "sep") (320 : Nat), Value.str (Str.ofString "path") (321 : Nat), Value.str (Str.ofString "b") (322 : Nat)] }) ::
   (nat_lit 112, { cls := Value.type "tuple", data := Data.seq #[] }) ::
   (nat_lit 114, { cls := Value.type "code", data := Data.fields #[Value.str (Str.ofString "join") (315 : Nat), Value.str (Str.ofString "join") (316 : Nat), Value.str (Str.ofString "/claim/cut.py") (317 : Nat), Value.int 69 (0 : Nat), Value.int 1 (0 : Nat), Value.int 0 (0 : Nat), Value.int 0 (0 : Nat), Value.int 7 (0 : Nat), Value.ref (109 : Nat), Value.bool true, Value.int 181 (0 : Nat), Value.ref (110 : Nat), Value.none, Value.ref (111 : Nat), Value.ref (112 : Nat), Value.ref (113 : Nat), Value.int 323 (0 : Nat), Value.int 69 (0 : Nat), Value.str (Str.ofString "/claim/cut.py") (324 : Nat)] }) ::
   (nat_lit 115, { cls := Value.type "function", data := Data.func { name := Str.ofString "join", qualname := Str.ofString "join", params := p115, body := FuncBody.stmts b115, scope := c115, globals := (3 : Nat), closure := [], defaults := Value.none, kwdefaults := Value.none, pyModule := Value.str (Str.ofString "cpy313.posixpath") (306 : Nat), code := Value.ref (114 : Nat) } }) ::
   (nat_lit 116, { cls := Value.type "tuple", data := Data.seq #[] }) ::
   (nat_lit 118, { cls := Value.type "tuple", data := Data.seq #[Value.str (Str.ofString "p") (329 : Nat), Value.str (Str.ofString "sep") (330 : Nat), Value.str (Str.ofString "empty") (331 : Nat)] }) ::
   (nat_lit 119, { cls := Value.type "tuple", data := Data.seq #[] }) ::
   (nat_lit 121, { cls := Value.type "code", data := Data.fields #[Value.str (Str.ofString "splitroot") (326 : Nat), Value.str (Str.ofString "splitroot") (327 : Nat), Value.str (Str.ofString "/claim/cut.py") (328 : Nat), Value.int 86 (0 : Nat), Value.int 1 (0 : Nat), Value.int 0 (0 : Nat), Value.int 0 (0 : Nat), Value.int 3 (0 : Nat), Value.ref (116 : Nat), Value.bool true, Value.int 181 (0 : Nat), Value.ref (117 : Nat), Value.none, Value.ref (118 : Nat), Value.ref (119 : Nat), Value.ref (120 : Nat), Value.int 332 (0 : Nat), Value.int 86 (0 : Nat), Value.str (Str.ofString "/claim/cut.py") (333 : Nat)] }) ::
   (nat_lit 122, { cls := Value.type "function", data := Data.func { name := Str.ofString "splitroot", qualname := Str.ofString "splitroot", params := p122, body := FuncBody.stmts b122, scope := c122, globals := (3 : Nat), closure := [], defaults := Value.none, kwdefaults := Value.none, pyModule := Value.str (Str.ofString "cpy313.posixpath") (306 : Nat), code := Value.ref (121 : Nat) } }) ::
   (nat_lit 123, { cls := Value.type "tuple", data := Data.seq #[] }) ::
   (nat_lit 125, { cls := Value.type "tuple", data := Data.seq #[Value.str (Str.ofString "path") (338 : Nat), Value.str (Str.ofString "sep") (339 : Nat), Value.str (Str.ofString "dot") (340 : Nat), Value.str (Str.ofString "dotdot") (341 : Nat), Value.str (Str.ofString "_") (342 : Nat), Value.str (Str.ofString "initial_slashes") (343 : Nat), Value.str (Str.ofString "comps") (344 : Nat), Value.str (Str.ofString "new_comps") (345 : Nat), Value.str (Str.ofString "comp") (346 : Nat)] }) ::
   (nat_lit 126, { cls := Value.type "tuple", data := Data.seq #[] }) ::
   (nat_lit 128, { cls := Value.type "code", data := Data.fields #[Value.str (Str.ofString "normpath") (335 : Nat), Value.str (Str.ofString "normpath") (336 : Nat), Value.str (Str.ofString "/claim/cut.py") (337 : Nat), Value.int 100 (0 : Nat), Value.int 1 (0 : Nat), Value.int 0 (0 : Nat), Value.int 0 (0 : Nat), Value.int 3 (0 : Nat), Value.ref (123 : Nat), Value.bool true, Value.int 181 (0 : Nat), Value.ref (124 : Nat), Value.none, Value.ref (125 : Nat), Value.ref (126 : Nat), Value.ref (127 : Nat), Value.int 347 (0 : Nat), Value.int 100 (0 : Nat), Value.str (Str.ofString "/claim/cut.py") (348 : Nat)] }) ::
   (nat_lit 129, { cls := Value.type "function", data := Data.func { name := Str.ofString "normpath", qualname := Str.ofString "normpath", params := p129, body := FuncBody.stmts b129, scope := c129, globals := (3 : Nat), closure := [], defaults := Value.none, kwdefaults := Value.none, pyModule := Value.str (Str.ofString "cpy313.posixpath") (306 : Nat), code := Value.ref (128 : Nat) } }) ::
   (nat_lit 130, { cls := Value.type "tuple", data := Data.seq #[] }) ::
   (nat_lit 133, { cls := Value.type "code", data := Data.fields #[Value.str (Str.ofString "commonpath") (350 : Nat), Value.str (Str.ofString "commonpath") (351 : Nat), Value.str (Str.ofString "/claim/cut.py") (352 : Nat), Value.int 125 (0 : Nat), Value.int 1 (0 : Nat), Value.int 0 (0 : Nat), Value.int 0 (0 : Nat), Value.int 3 (0 : Nat), Value.ref (130 : Nat), Value.bool true, Value.int 181 (0 : Nat), Value.ref (131 : Nat), Value.none, Value.none, Value.none, Value.ref (132 : Nat), Value.int 353 (0 : Nat), Value.int 125 (0 : Nat), Value.str (Str.ofString "/claim/cut.py") (354 : Nat)] }) ::
   (nat_lit 134, { cls := Value.type "function", data := Data.func { name := Str.ofString "commonpath", qualname := Str.ofString "commonpath", params := p134, body := FuncBody.stmts b134, scope := c134, globals := (3 : Nat), closure := [], defaults := Value.none, kwdefaults := Value.none, pyModule := Value.str (Str.ofString "cpy313.posixpath") (306 : Nat), code := Value.ref (133 : Nat) } }) ::
   (nat_lit 142, { cls := Value.type "tuple", data := Data.seq #[] }) ::
   (nat_lit 144, { cls := Value.type "tuple", data := Data.seq #[Value.str (Str.ofString "self") (373 : Nat), Value.str (Str.ofString "fp") (374 : Nat)] }) ::
   (nat_lit 145, { cls := Value.type "tuple", data := Data.seq #[] }) ::
   (nat_lit 147, { cls := Value.type "code", data := Data.fields #[Value.str (Str.ofString "__init__") (370 : Nat), Value.str (Str.ofString "_netrclex.__init__") (371 : Nat), Value.str (Str.ofString "/claim/cut.py") (372 : Nat), Value.int 157 (0 : Nat), Value.int 2 (0 : Nat), Value.int 0 (0 : Nat), Value.int 0 (0 : Nat), Value.int 3 (0 : Nat), Value.ref (142 : Nat), Value.bool true, Value.int 181 (0 : Nat), Value.ref (143 : Nat), Value.none, Value.ref (144 : Nat), Value.ref (145 : Nat), Value.ref (146 : Nat), Value.int 375 (0 : Nat), Value.int 157 (0 : Nat), Value.str (Str.ofString "/claim/cut.py") (376 : Nat)] }) ::
   (nat_lit 148, { cls := Value.type "function", data := Data.func { name := Str.ofString "__init__", qualname := Str.ofString "_netrclex.__init__", params := p148, body := FuncBody.stmts b148, scope := c148, globals := (3 : Nat), closure := [], defaults := Value.none, kwdefaults := Value.none, pyModule := Value.str (Str.ofString "cpy313.netrc") (356 : Nat), code := Value.ref (147 : Nat) } }) ::
   (nat_lit 149, { cls := Value.type "tuple", data := Data.seq #[] }) ::
   (nat_lit 151, { cls := Value.type "tuple", data := Data.seq #[Value.str (Str.ofString "self") (381 : Nat), Value.str (Str.ofString "ch") (382 : Nat)] }) ::
   (nat_lit 152, { cls := Value.type "tuple", data := Data.seq #[] }) ::
   (nat_lit 154, { cls := Value.type "code", data := Data.fields #[Value.str (Str.ofString "_read_char") (378 : Nat), Value.str (Str.ofString "_netrclex._read_char") (379 : Nat), Value.str (Str.ofString "/claim/cut.py") (380 : Nat), Value.int 163 (0 : Nat), Value.int 1 (0 : Nat), Value.int 0 (0 : Nat), Value.int 0 (0 : Nat), Value.int 3 (0 : Nat), Value.ref (149 : Nat), Value.bool true, Value.int 181 (0 : Nat), Value.ref (150 : Nat), Value.none, Value.ref (151 : Nat), Value.ref (152 : Nat), Value.ref (153 : Nat), Value.int 383 (0 : Nat), Value.int 163 (0 : Nat), Value.str (Str.ofString "/claim/cut.py") (384 : Nat)] }) ::
   (nat_lit 155, { cls := Value.type "function", data := Data.func { name := Str.ofString "_read_char", qualname := Str.ofString "_netrclex._read_char", params := p155, body := FuncBody.stmts b155, scope := c155, globals := (3 : Nat), closure := [], defaults := Value.none, kwdefaults := Value.none, pyModule := Value.str (Str.ofString "cpy313.netrc") (356 : Nat), code := Value.ref (154 : Nat) } }) ::
   (nat_lit 156, { cls := Value.type "tuple", data := Data.seq #[] }) ::
   (nat_lit 158, { cls := Value.type "tuple", data := Data.seq #[Value.str (Str.ofString "self") (389 : Nat), Value.str (Str.ofString "token") (390 : Nat), Value.str (Str.ofString "fiter") (391 : Nat), Value.str (Str.ofString "ch") (392 : Nat)] }) ::
   (nat_lit 159, { cls := Value.type "tuple", data := Data.seq #[] }) ::
   (nat_lit 161, { cls := Value.type "code", data := Data.fields #[Value.str (Str.ofString "get_token") (386 : Nat), Value.str (Str.ofString "_netrclex.get_token") (387 : Nat), Value.str (Str.ofString "/claim/cut.py") (388 : Nat), Value.int 169 (0 : Nat), Value.int 1 (0 : Nat), Value.int 0 (0 : Nat), Value.int 0 (0 : Nat), Value.int 3 (0 : Nat), Value.ref (156 : Nat), Value.bool true, Value.int 181 (0 : Nat), Value.ref (157 : Nat), Value.none, Value.ref (158 : Nat), Value.ref (159 : Nat), Value.ref (160 : Nat), Value.int 393 (0 : Nat), Value.int 169 (0 : Nat), Value.str (Str.ofString "/claim/cut.py") (394 : Nat)] }) ::
   (nat_lit 162, { cls := Value.type "function", data := Data.func { name := Str.ofString "get_token", qualname := Str.ofString "_netrclex.get_token", params := p162, body := FuncBody.stmts b162, scope := c162, globals := (3 : Nat), closure := [], defaults := Value.none, kwdefaults := Value.none, pyModule := Value.str (Str.ofString "cpy313.netrc") (356 : Nat), code := Value.ref (161 : Nat) } }) ::
   (nat_lit 163, { cls := Value.type "tuple", data := Data.seq #[] }) ::
   (nat_lit 165, { cls := Value.type "tuple", data := Data.seq #[Value.str (Str.ofString "self") (399 : Nat), Value.str (Str.ofString "token") (400 : Nat)] }) ::
   (nat_lit 166, { cls := Value.type "tuple", data := Data.seq #[] }) ::
   (nat_lit 168, { cls := Value.type "code", data := Data.fields #[Value.str (Str.ofString "push_token") (396 : Nat), Value.str (Str.ofString "_netrclex.push_token") (397 : Nat), Value.str (Str.ofString "/claim/cut.py") (398 : Nat), Value.int 196 (0 : Nat), Value.int 2 (0 : Nat), Value.int 0 (0 : Nat), Value.int 0 (0 : Nat), Value.int 3 (0 : Nat), Value.ref (163 : Nat), Value.bool true, Value.int 181 (0 : Nat), Value.ref (164 : Nat), Value.none, Value.ref (165 : Nat), Value.ref (166 : Nat), Value.ref (167 : Nat), Value.int 401 (0 : Nat), Value.int 196 (0 : Nat), Value.str (Str.ofString "/claim/cut.py") (402 : Nat)] }) ::
   (nat_lit 169, { cls := Value.type "function", data := Data.func { name := Str.ofString "push_token", qualname := Str.ofString "_netrclex.push_token", params := p169, body := FuncBody.stmts b169, scope := c169, globals := (3 : Nat), closure := [], defaults := Value.none, kwdefaults := Value.none, pyModule := Value.str (Str.ofString "cpy313.netrc") (356 : Nat), code := Value.ref (168 : Nat) } }) ::
   (nat_lit 170, { cls := Value.type "tuple", data := Data.seq #[Value.str (Str.ofString "instream") (404 : Nat), Value.str (Str.ofString "lineno") (405 : Nat), Value.str (Str.ofString "pushback") (406 : Nat), Value.str (Str.ofString "whitespace") (407 : Nat)] }) ::
   (nat_lit 171, { cls := Value.type "dict", data := Data.dict #[{ hash := PyData.keyHash P (Str.ofString "__module__"), key := Value.str (Str.ofString "__module__") (365 : Nat), val := Value.str (Str.ofString "cpy313.netrc") (356 : Nat) }, { hash := PyData.keyHash P (Str.ofString "__firstlineno__"), key := Value.str (Str.ofString "__firstlineno__") (369 : Nat), val := Value.int 155 (368 : Nat) }, { hash := PyData.keyHash P (Str.ofString "__init__"), key := Value.str (Str.ofString "__init__") (377 : Nat), val := Value.ref (148 : Nat) }, { hash := PyData.keyHash P (Str.ofString "_read_char"), key := Value.str (Str.ofString "_read_char") (385 : Nat), val := Value.ref (155 : Nat) }, { hash := PyData.keyHash P (Str.ofString "get_token"), key := Value.str (Str.ofString "get_token") (395 : Nat), val := Value.ref (162 : Nat) }, { hash := PyData.keyHash P (Str.ofString "push_token"), key := Value.str (Str.ofString "push_token") (403 : Nat), val := Value.ref (169 : Nat) }, { hash := PyData.keyHash P (Str.ofString "__static_attributes__"), key := Value.str (Str.ofString "__static_attributes__") (408 : Nat), val := Value.ref (170 : Nat) }, { hash := PyData.keyHash P (Str.ofString "__dict__"), key := Value.str (Str.ofString "__dict__") (410 : Nat), val := Value.ref (173 : Nat) }, { hash := PyData.keyHash P (Str.ofString "__weakref__"), key := Value.str (Str.ofString "__weakref__") (412 : Nat), val := Value.ref (174 : Nat) }, { hash := PyData.keyHash P (Str.ofString "__doc__"), key := Value.str (Str.ofString "__doc__") (413 : Nat), val := Value.none }] 4 }) ::
   (nat_lit 172, { cls := Value.type "type", data := Data.cls { name := Str.ofString "_netrclex", bases := [Value.type "object"], mro := [Value.ref (172 : Nat), Value.type "object"], ns := 171, qualname := Str.ofString "_netrclex" }, slots := #[none, none, some (Value.str (Str.ofString "_netrclex") (358 : Nat)), some (Value.str (Str.ofString "_netrclex") (366 : Nat)), some (Value.builtin "object.__new__"), some (Value.bool true)] }) ::
   (nat_lit 173, { cls := Value.type "getset_descriptor", data := Data.fields #[Value.str (Str.ofString "__dict__") (409 : Nat), Value.ref (172 : Nat), Value.builtin "function.__dict__", Value.builtin "function.__dict__#set"] }) ::
   (nat_lit 174, { cls := Value.type "getset_descriptor", data := Data.fields #[Value.str (Str.ofString "__weakref__") (411 : Nat), Value.ref (172 : Nat), Value.builtin "ExceptionGroup.__weakref__", Value.none] }) ::
   (nat_lit 177, { cls := Value.type "tuple", data := Data.seq #[] }) ::
   (nat_lit 179, { cls := Value.type "tuple", data := Data.seq #[Value.str (Str.ofString "mode") (421 : Nat)] }) ::
   (nat_lit 180, { cls := Value.type "tuple", data := Data.seq #[] }) ::
   (nat_lit 182, { cls := Value.type "code", data := Data.fields #[Value.str (Str.ofString "S_IFMT") (418 : Nat), Value.str (Str.ofString "S_IFMT") (419 : Nat), Value.str (Str.ofString "/claim/cut.py") (420 : Nat), Value.int 199 (0 : Nat), Value.int 1 (0 : Nat), Value.int 0 (0 : Nat), Value.int 0 (0 : Nat), Value.int 3 (0 : Nat), Value.ref (177 : Nat), Value.bool true, Value.int 181 (0 : Nat), Value.ref (178 : Nat), Value.none, Value.ref (179 : Nat), Value.ref (180 : Nat), Value.ref (181 : Nat), Value.int 422 (0 : Nat), Value.int 199 (0 : Nat), Value.str (Str.ofString "/claim/cut.py") (423 : Nat)] }) ::
   (nat_lit 183, { cls := Value.type "function", data := Data.func { name := Str.ofString "S_IFMT", qualname := Str.ofString "S_IFMT", params := p183, body := FuncBody.stmts b183, scope := c183, globals := (3 : Nat), closure := [], defaults := Value.none, kwdefaults := Value.none, pyModule := Value.str (Str.ofString "cpy313.stat") (416 : Nat), code := Value.ref (182 : Nat) } }) ::
   (nat_lit 184, { cls := Value.type "tuple", data := Data.seq #[Value.int 40960 (435 : Nat), Value.str (Str.ofString "l") (463 : Nat)] }) ::
   (nat_lit 185, { cls := Value.type "tuple", data := Data.seq #[Value.int 49152 (437 : Nat), Value.str (Str.ofString "s") (464 : Nat)] }) ::
   (nat_lit 186, { cls := Value.type "tuple", data := Data.seq #[Value.int 32768 (431 : Nat), Value.str (Str.ofString "-") (465 : Nat)] }) ::
   (nat_lit 187, { cls := Value.type "tuple", data := Data.seq #[Value.int 24576 (429 : Nat), Value.str (Str.ofString "b") (466 : Nat)] }) ::
   (nat_lit 188, { cls := Value.type "tuple", data := Data.seq #[Value.int 16384 (425 : Nat), Value.str (Str.ofString "d") (467 : Nat)] }) ::
   (nat_lit 189, { cls := Value.type "tuple", data := Data.seq #[Value.int 8192 (427 : Nat), Value.str (Str.ofString "c") (468 : Nat)] }) ::
   (nat_lit 190, { cls := Value.type "tuple", data := Data.seq #[Value.int 4096 (433 : Nat), Value.str (Str.ofString "p") (469 : Nat)] }) ::
   (nat_lit 191, { cls := Value.type "tuple", data := Data.seq #[Value.ref (184 : Nat), Value.ref (185 : Nat), Value.ref (186 : Nat), Value.ref (187 : Nat), Value.ref (188 : Nat), Value.ref (189 : Nat), Value.ref (190 : Nat)] }) ::
   (nat_lit 192, { cls := Value.type "tuple", data := Data.seq #[Value.int 256 (445 : Nat), Value.str (Str.ofString "r") (470 : Nat)] }) ::
   (nat_lit 193, { cls := Value.type "tuple", data := Data.seq #[Value.ref (192 : Nat)] }) ::
   (nat_lit 194, { cls := Value.type "tuple", data := Data.seq #[Value.int 128 (447 : Nat), Value.str (Str.ofString "w") (471 : Nat)] }) ::
   (nat_lit 195, { cls := Value.type "tuple", data := Data.seq #[Value.ref (194 : Nat)] }) ::
   (nat_lit 196, { cls := Value.type "tuple", data := Data.seq #[Value.int 2112 (472 : Nat), Value.str (Str.ofString "s") (473 : Nat)] }) ::
   (nat_lit 197, { cls := Value.type "tuple", data := Data.seq #[Value.int 2048 (439 : Nat), Value.str (Str.ofString "S") (474 : Nat)] }) ::
   (nat_lit 198, { cls := Value.type "tuple", data := Data.seq #[Value.int 64 (449 : Nat), Value.str (Str.ofString "x") (475 : Nat)] }) ::
   (nat_lit 199, { cls := Value.type "tuple", data := Data.seq #[Value.ref (196 : Nat), Value.ref (197 : Nat), Value.ref (198 : Nat)] }) ::
   (nat_lit 200, { cls := Value.type "tuple", data := Data.seq #[Value.int 32 (451 : Nat), Value.str (Str.ofString "r") (476 : Nat)] }) ::
   (nat_lit 201, { cls := Value.type "tuple", data := Data.seq #[Value.ref (200 : Nat)] }) ::
   (nat_lit 202, { cls := Value.type "tuple", data := Data.seq #[Value.int 16 (453 : Nat), Value.str (Str.ofString "w") (477 : Nat)] }) ::
   (nat_lit 203, { cls := Value.type "tuple", data := Data.seq #[Value.ref (202 : Nat)] }) ::
   (nat_lit 204, { cls := Value.type "tuple", data := Data.seq #[Value.int 1032 (478 : Nat), Value.str (Str.ofString "s") (479 : Nat)] }) ::
   (nat_lit 205, { cls := Value.type "tuple", data := Data.seq #[Value.int 1024 (441 : Nat), Value.str (Str.ofString "S") (480 : Nat)] }) ::
   (nat_lit 206, { cls := Value.type "tuple", data := Data.seq #[Value.int 8 (455 : Nat), Value.str (Str.ofString "x") (481 : Nat)] }) ::
   (nat_lit 207, { cls := Value.type "tuple", data := Data.seq #[Value.ref (204 : Nat), Value.ref (205 : Nat), Value.ref (206 : Nat)] }) ::
   (nat_lit 208, { cls := Value.type "tuple", data := Data.seq #[Value.int 4 (457 : Nat), Value.str (Str.ofString "r") (482 : Nat)] }) ::
   (nat_lit 209, { cls := Value.type "tuple", data := Data.seq #[Value.ref (208 : Nat)] }) ::
   (nat_lit 210, { cls := Value.type "tuple", data := Data.seq #[Value.int 2 (459 : Nat), Value.str (Str.ofString "w") (483 : Nat)] }) ::
   (nat_lit 211, { cls := Value.type "tuple", data := Data.seq #[Value.ref (210 : Nat)] }) ::
   (nat_lit 212, { cls := Value.type "tuple", data := Data.seq #[Value.int 513 (484 : Nat), Value.str (Str.ofString "t") (485 : Nat)] }) ::
   (nat_lit 213, { cls := Value.type "tuple", data := Data.seq #[Value.int 512 (443 : Nat), Value.str (Str.ofString "T") (486 : Nat)] }) ::
   (nat_lit 214, { cls := Value.type "tuple", data := Data.seq #[Value.int 1 (461 : Nat), Value.str (Str.ofString "x") (487 : Nat)] }) ::
   (nat_lit 215, { cls := Value.type "tuple", data := Data.seq #[Value.ref (212 : Nat), Value.ref (213 : Nat), Value.ref (214 : Nat)] }) ::
   (nat_lit 216, { cls := Value.type "tuple", data := Data.seq #[Value.ref (191 : Nat), Value.ref (193 : Nat), Value.ref (195 : Nat), Value.ref (199 : Nat), Value.ref (201 : Nat), Value.ref (203 : Nat), Value.ref (207 : Nat), Value.ref (209 : Nat), Value.ref (211 : Nat), Value.ref (215 : Nat)] }) ::
   (nat_lit 217, { cls := Value.type "tuple", data := Data.seq #[] }) ::
   (nat_lit 219, { cls := Value.type "tuple", data := Data.seq #[Value.str (Str.ofString "mode") (492 : Nat), Value.str (Str.ofString "perm") (493 : Nat), Value.str (Str.ofString "index") (494 : Nat), Value.str (Str.ofString "table") (495 : Nat), Value.str (Str.ofString "bit") (496 : Nat), Value.str (Str.ofString "char") (497 : Nat)] }) ::
   (nat_lit 220, { cls := Value.type "tuple", data := Data.seq #[] }) ::
   (nat_lit 222, { cls := Value.type "code", data := Data.fields #[Value.str (Str.ofString "filemode") (489 : Nat), Value.str (Str.ofString "filemode") (490 : Nat), Value.str (Str.ofString "/claim/cut.py") (491 : Nat), Value.int 221 (0 : Nat), Value.int 1 (0 : Nat), Value.int 0 (0 : Nat), Value.int 0 (0 : Nat), Value.int 3 (0 : Nat), Value.ref (217 : Nat), Value.bool true, Value.int 181 (0 : Nat), Value.ref (218 : Nat), Value.none, Value.ref (219 : Nat), Value.ref (220 : Nat), Value.ref (221 : Nat), Value.int 498 (0 : Nat), Value.int 221 (0 : Nat), Value.str (Str.ofString "/claim/cut.py") (499 : Nat)] }) ::
   (nat_lit 223, { cls := Value.type "function", data := Data.func { name := Str.ofString "filemode", qualname := Str.ofString "filemode", params := p223, body := FuncBody.stmts b223, scope := c223, globals := (3 : Nat), closure := [], defaults := Value.none, kwdefaults := Value.none, pyModule := Value.str (Str.ofString "cpy313.stat") (416 : Nat), code := Value.ref (222 : Nat) } }) ::
   (nat_lit 224, { cls := Value.type "tuple", data := Data.seq #[] }) ::
   (nat_lit 226, { cls := Value.type "tuple", data := Data.seq #[Value.str (Str.ofString "text") (506 : Nat), Value.str (Str.ofString "stream") (507 : Nat), Value.str (Str.ofString "_law_next") (508 : Nat)] }) ::
   (nat_lit 227, { cls := Value.type "tuple", data := Data.seq #[Value.str (Str.ofString "left") (509 : Nat)] }) ::
   (nat_lit 229, { cls := Value.type "code", data := Data.fields #[Value.str (Str.ofString "_law_lexer") (503 : Nat), Value.str (Str.ofString "_law_lexer") (504 : Nat), Value.str (Str.ofString "/claim/cut.py") (505 : Nat), Value.int 239 (0 : Nat), Value.int 1 (0 : Nat), Value.int 0 (0 : Nat), Value.int 0 (0 : Nat), Value.int 3 (0 : Nat), Value.ref (224 : Nat), Value.bool true, Value.int 181 (0 : Nat), Value.ref (225 : Nat), Value.none, Value.ref (226 : Nat), Value.ref (227 : Nat), Value.ref (228 : Nat), Value.int 510 (0 : Nat), Value.int 239 (0 : Nat), Value.str (Str.ofString "/claim/cut.py") (511 : Nat)] }) ::
   (nat_lit 230, { cls := Value.type "function", data := Data.func { name := Str.ofString "_law_lexer", qualname := Str.ofString "_law_lexer", params := p230, body := FuncBody.stmts b230, scope := c230, globals := (3 : Nat), closure := [], defaults := Value.none, kwdefaults := Value.none, pyModule := Value.str (Str.ofString "law_un0047_01") (501 : Nat), code := Value.ref (229 : Nat) } }) ::
   (nat_lit 231, { cls := Value.type "tuple", data := Data.seq #[] }) ::
   (nat_lit 234, { cls := Value.type "code", data := Data.fields #[Value.str (Str.ofString "_law_walked") (513 : Nat), Value.str (Str.ofString "_law_walked") (514 : Nat), Value.str (Str.ofString "/claim/cut.py") (515 : Nat), Value.int 247 (0 : Nat), Value.int 2 (0 : Nat), Value.int 0 (0 : Nat), Value.int 0 (0 : Nat), Value.int 3 (0 : Nat), Value.ref (231 : Nat), Value.bool true, Value.int 181 (0 : Nat), Value.ref (232 : Nat), Value.none, Value.none, Value.none, Value.ref (233 : Nat), Value.int 516 (0 : Nat), Value.int 247 (0 : Nat), Value.str (Str.ofString "/claim/cut.py") (517 : Nat)] }) ::
   (nat_lit 235, { cls := Value.type "function", data := Data.func { name := Str.ofString "_law_walked", qualname := Str.ofString "_law_walked", params := p235, body := FuncBody.stmts b235, scope := c235, globals := (3 : Nat), closure := [], defaults := Value.none, kwdefaults := Value.none, pyModule := Value.str (Str.ofString "law_un0047_01") (501 : Nat), code := Value.ref (234 : Nat) } }) ::
   (nat_lit 236, { cls := Value.type "tuple", data := Data.seq #[] }) ::
   (nat_lit 238, { cls := Value.type "tuple", data := Data.seq #[Value.str (Str.ofString "words") (522 : Nat), Value.str (Str.ofString "modes") (523 : Nat), Value.str (Str.ofString "lists") (524 : Nat), Value.str (Str.ofString "word") (525 : Nat)] }) ::
   (nat_lit 239, { cls := Value.type "tuple", data := Data.seq #[] }) ::
   (nat_lit 241, { cls := Value.type "code", data := Data.fields #[Value.str (Str.ofString "_law_names") (519 : Nat), Value.str (Str.ofString "_law_names") (520 : Nat), Value.str (Str.ofString "/claim/cut.py") (521 : Nat), Value.int 256 (0 : Nat), Value.int 2 (0 : Nat), Value.int 0 (0 : Nat), Value.int 0 (0 : Nat), Value.int 3 (0 : Nat), Value.ref (236 : Nat), Value.bool true, Value.int 181 (0 : Nat), Value.ref (237 : Nat), Value.none, Value.ref (238 : Nat), Value.ref (239 : Nat), Value.ref (240 : Nat), Value.int 526 (0 : Nat), Value.int 256 (0 : Nat), Value.str (Str.ofString "/claim/cut.py") (527 : Nat)] }) ::
   (nat_lit 242, { cls := Value.type "function", data := Data.func { name := Str.ofString "_law_names", qualname := Str.ofString "_law_names", params := p242, body := FuncBody.stmts b242, scope := c242, globals := (3 : Nat), closure := [], defaults := Value.none, kwdefaults := Value.none, pyModule := Value.str (Str.ofString "law_un0047_01") (501 : Nat), code := Value.ref (241 : Nat) } }) ::
   (nat_lit 243, { cls := Value.type "tuple", data := Data.seq #[] }) ::
   (nat_lit 246, { cls := Value.type "code", data := Data.fields #[Value.str (Str.ofString "law") (529 : Nat), Value.str (Str.ofString "law") (530 : Nat), Value.str (Str.ofString "/claim/cut.py") (531 : Nat), Value.int 266 (0 : Nat), Value.int 1 (0 : Nat), Value.int 0 (0 : Nat), Value.int 0 (0 : Nat), Value.int 3 (0 : Nat), Value.ref (243 : Nat), Value.bool true, Value.int 181 (0 : Nat), Value.ref (244 : Nat), Value.none, Value.none, Value.none, Value.ref (245 : Nat), Value.int 532 (0 : Nat), Value.int 266 (0 : Nat), Value.str (Str.ofString "/claim/cut.py") (533 : Nat)] }) ::
   (nat_lit 247, { cls := Value.type "function", data := Data.func { name := Str.ofString "law", qualname := Str.ofString "law", params := p247, body := FuncBody.stmts b247, scope := c247, globals := (3 : Nat), closure := [], defaults := Value.none, kwdefaults := Value.none, pyModule := Value.str (Str.ofString "law_un0047_01") (501 : Nat), code := Value.ref (246 : Nat) } }) :: []
noncomputable def hd.heap_39 : Params → Frag := fun P => (fun (K : Frag) (_ : K = heapOf _ _ _ _ _ _ _ _ _ _ _ _ _ _ _ _ _ _ _ _ _ _ _ _ _ _ _ _ _ _ _ _ _ _ _ _ _ _ _ _ _ _ _ _ _ _ _ _ _ _ _ _ _ _ _ _ _ _ _ _ _ _ _ _ _ _ _ _ _ _ _ _ rfl rfl rfl rfl rfl rfl rfl rfl rfl rfl rfl rfl rfl rfl rfl rfl rfl rfl rfl rfl rfl rfl rfl rfl P) => K) _ (by delta heapOf; rfl)
noncomputable abbrev asL : List Addr := [2, 3, 15, 17, 18, 20, 21, 22, 24, 25, 27, 28, 29, 36, 38, 39, 41, 42, 43, 44, 45, 48, 55, 57, 58, 60, 61, 62, 64, 65, 67, 68, 69, 71, 72, 74, 75, 76, 77, 78, 81, 83, 84, 86, 87, 88, 90, 91, 93, 94, 95, 97, 98, 100, 101, 102, 104, 105, 107, 108, 109, 111, 112, 114, 115, 116, 118, 119, 121, 122, 123, 125, 126, 128, 129, 130, 133, 134, 142, 144, 145, 147, 148, 149, 151, 152, 154, 155, 156, 158, 159, 161, 162, 163, 165, 166, 168, 169, 170, 171, 172, 173, 174, 177, 179, 180, 182, 183, 184, 185, 186, 187, 188, 189, 190, 191, 192, 193, 194, 195, 196, 197, 198, 199, 200, 201, 202, 203, 204, 205, 206, 207, 208, 209, 210, 211, 212, 213, 214, 215, 216, 217, 219, 220, 222, 223, 224, 226, 227, 229, 230, 231, 234, 235, 236, 238, 239, 241, 242, 243, 246, 247]
theorem as_ok : ∀ P, asL = (hd.heap_39 P).map (·.1) := fun _ => by kernel_rfl
noncomputable abbrev LV : List (Str × WData) := [(Str.ofString "_filemode_table",
          WData.tuple
            [WData.tuple
                [WData.tuple [WData.int 40960, WData.str { cps := #[108] }],
                  WData.tuple [WData.int 49152, WData.str { cps := #[115] }],
                  WData.tuple [WData.int 32768, WData.str { cps := #[45] }],
                  WData.tuple [WData.int 24576, WData.str { cps := #[98] }],
                  WData.tuple [WData.int 16384, WData.str { cps := #[100] }],
                  WData.tuple [WData.int 8192, WData.str { cps := #[99] }],
                  WData.tuple [WData.int 4096, WData.str { cps := #[112] }]],
              WData.tuple [WData.tuple [WData.int 256, WData.str { cps := #[114] }]],
              WData.tuple [WData.tuple [WData.int 128, WData.str { cps := #[119] }]],
              WData.tuple
                [WData.tuple [WData.int 2112, WData.str { cps := #[115] }],
                  WData.tuple [WData.int 2048, WData.str { cps := #[83] }],
                  WData.tuple [WData.int 64, WData.str { cps := #[120] }]],
              WData.tuple [WData.tuple [WData.int 32, WData.str { cps := #[114] }]],
              WData.tuple [WData.tuple [WData.int 16, WData.str { cps := #[119] }]],
              WData.tuple
                [WData.tuple [WData.int 1032, WData.str { cps := #[115] }],
                  WData.tuple [WData.int 1024, WData.str { cps := #[83] }],
                  WData.tuple [WData.int 8, WData.str { cps := #[120] }]],
              WData.tuple [WData.tuple [WData.int 4, WData.str { cps := #[114] }]],
              WData.tuple [WData.tuple [WData.int 2, WData.str { cps := #[119] }]],
              WData.tuple
                [WData.tuple [WData.int 513, WData.str { cps := #[116] }],
                  WData.tuple [WData.int 512, WData.str { cps := #[84] }],
                  WData.tuple [WData.int 1, WData.str { cps := #[120] }]]])]
noncomputable def hd.view_39 : Program := view PySem.Challenge.pw_un0047_01 [0, 2, 4, 6, 7, 9, 11, 13, 14, 15, 16, 17, 19, 21, 22, 23, 24, 25, 26, 27, 28, 29, 30, 31, 32, 33, 34, 35, 36, 37, 38, 39, 40, 41, 42, 44, 45, 46, 47]
noncomputable abbrev HK : Hook := kmHook hd.heap_39 asL as_ok [225]
theorem ready (w : World) : PySem.Challenge.rw_un0047_01.writes = false ∧ hd.heap_39 w.params = hd.heap_39 w.params := by
  k_fill
  exact ⟨rfl, rfl⟩
noncomputable def kAt (P : Params) (a : Addr) : Obj := ((hd.heap_39 P).lookup a).getD { cls := .none, data := .plain }
noncomputable abbrev lf (o : Obj) : BT := .node o .nil .nil
noncomputable def treeEnd (P : Params) : BT := (.node (boot_o_0 P)
  (.node (boot_o_1 P)
  (.node (kAt P 3)
  (.node (boot_o_7 P)
  (.node (kAt P 15)
  (.node { cls := Value.type "dict", data := Data.dict #[{ hash := PyData.keyHash P (Str.ofString "__module__"), key := Value.str (Str.ofString "__module__") 214, val := Value.str (Str.ofString "abc") 205 }, { hash := PyData.keyHash P (Str.ofString "__qualname__"), key := Value.str (Str.ofString "__qualname__") 216, val := Value.str (Str.ofString "ABCMeta") 215 }, { hash := PyData.keyHash P (Str.ofString "__firstlineno__"), key := Value.str (Str.ofString "__firstlineno__") 218, val := Value.int 11 217 }, { hash := PyData.keyHash P (Str.ofString "register"), key := Value.str (Str.ofString "register") 226, val := Value.ref 42 }, { hash := PyData.keyHash P (Str.ofString "__static_attributes__"), key := Value.str (Str.ofString "__static_attributes__") 227, val := Value.ref 43 }] 5 }
  (.node { cls := Value.none, data := Data.fields #[] }
  (lf { cls := Value.none, data := Data.func { name := Str.ofString "normpath", qualname := Str.ofString "normpath", params := (fnAt PB 16).1, body := FuncBody.stmts ((fnAt PB 16).2.1), scope := (fnAt PB 16).2.2, globals := 0, closure := [], defaults := Value.none, kwdefaults := Value.none } }) (lf (kAt P 191))) (.node (kAt P 95)
  (lf (kAt P 159)) (lf (kAt P 223)))) (.node { cls := Value.type "builtin_function_or_method", data := Data.fields #[Value.builtin "object.__init_subclass__", Value.ref 45] }
  (.node { cls := Value.type "super", data := Data.fields #[Value.ref 78, Value.ref 78, Value.ref 78] }
  (lf { cls := Value.none, data := Data.fields #[] }) (lf (kAt P 207))) (.node (kAt P 111)
  (lf { cls := Value.type "super", data := Data.fields #[Value.ref 172, Value.ref 172, Value.ref 172] }) (lf (kAt P 239))))) (.node { cls := Value.none, data := Data.fields #[] }
  (.node (kAt P 39)
  (.node (kAt P 71)
  (lf { cls := Value.type "tuple", data := Data.seq #[] }) (lf (kAt P 199))) (.node { cls := Value.none, data := Data.fields #[] }
  (lf { cls := Value.none, data := Data.func { name := Str.ofString "push_token", qualname := Str.ofString "_netrclex.push_token", params := (fnAt (clAt PB 19) 3).1, body := FuncBody.stmts ((fnAt (clAt PB 19) 3).2.1), scope := (fnAt (clAt PB 19) 3).2.2, globals := 0, closure := [], defaults := Value.none, kwdefaults := Value.none } }) (lf (kAt P 231)))) (.node (kAt P 55)
  (.node (kAt P 87)
  (lf (kAt P 151)) (lf (kAt P 215))) (.node (kAt P 119)
  (lf (kAt P 183)) (lf (kAt P 247)))))) (.node { cls := Value.type "tuple", data := Data.seq #[] }
  (.node { cls := Value.none, data := Data.func { name := Str.ofString "_wall", qualname := Str.ofString "_wall", params := (fnAt PB 0).1, body := FuncBody.stmts ((fnAt PB 0).2.1), scope := (fnAt PB 0).2.2, globals := 0, closure := [], defaults := Value.none, kwdefaults := Value.none } }
  (.node { cls := Value.type "frame", slots := #[some (Value.ref 34), some (Value.ref 3), some (Value.ref 31), none, some (Value.str (Str.ofString "abc") 205), none, some (Value.ref 0)] }
  (.node (kAt P 67)
  (lf { cls := Value.none, data := Data.fields #[] }) (lf (kAt P 195))) (.node { cls := Value.none, data := Data.func { name := Str.ofString "_check_arg_types", qualname := Str.ofString "_check_arg_types", params := (fnAt PB 11).1, body := FuncBody.stmts ((fnAt PB 11).2.1), scope := (fnAt PB 11).2.2, globals := 0, closure := [], defaults := Value.none, kwdefaults := Value.none } }
  (lf (kAt P 163)) (lf (kAt P 227)))) (.node { cls := Value.type "tuple", data := Data.seq #[] }
  (.node (kAt P 83)
  (lf (kAt P 147)) (lf (kAt P 211))) (.node (kAt P 115)
  (lf (kAt P 179)) (lf (kAt P 243))))) (.node (kAt P 27)
  (.node (kAt P 43)
  (.node (kAt P 75)
  (lf { cls := Value.none, data := Data.fields #[Value.int 157 0, Value.int 4 0, Value.ref 147, Value.int 163 0, Value.int 4 0, Value.ref 154, Value.int 169 0, Value.int 4 0, Value.ref 161, Value.int 196 0, Value.int 4 0, Value.ref 168] }) (lf (kAt P 203))) (.node (kAt P 107)
  (lf (kAt P 171)) (lf (kAt P 235)))) (.node { cls := Value.none, data := Data.func { name := Str.ofString "__instancecheck__", qualname := Str.ofString "_ABCLike.__instancecheck__", params := (fnAt (clAt PB 6) 0).1, body := FuncBody.stmts ((fnAt (clAt PB 6) 0).2.1), scope := (fnAt (clAt PB 6) 0).2.2, globals := 0, closure := [], defaults := Value.none, kwdefaults := Value.none } }
  (.node (kAt P 91)
  (lf (kAt P 155)) (lf (kAt P 219))) (.node (kAt P 123)
  (lf (kAt P 187)) .nil))))) (.node (boot_o_5 P)
  (.node (boot_o_9 P)
  (.node (kAt P 17)
  (.node { cls := Value.none, data := Data.fields #[Value.int 13 0, Value.int 4 0, Value.ref 41] }
  (.node (kAt P 65)
  (lf (kAt P 129)) (lf (kAt P 193))) (.node (kAt P 97)
  (lf (kAt P 161)) (lf { cls := Value.none, data := Data.fields #[] }))) (.node { cls := Value.type "builtin_function_or_method", data := Data.fields #[Value.builtin "type.__prepare__", Value.type "type"] }
  (.node (kAt P 81)
  (lf (kAt P 145)) (lf (kAt P 209))) (.node { cls := Value.none, data := Data.func { name := Str.ofString "join", qualname := Str.ofString "join", params := (fnAt PB 14).1, body := FuncBody.stmts ((fnAt PB 14).2.1), scope := (fnAt PB 14).2.2, globals := 0, closure := [], defaults := Value.none, kwdefaults := Value.none } }
  (lf (kAt P 177)) (lf (kAt P 241))))) (.node (kAt P 25)
  (.node (kAt P 41)
  (.node { cls := Value.none, data := Data.func { name := Str.ofString "register", qualname := Str.ofString "_ABCLike.register", params := (fnAt (clAt PB 6) 2).1, body := FuncBody.stmts ((fnAt (clAt PB 6) 2).2.1), scope := (fnAt (clAt PB 6) 2).2.2, globals := 0, closure := [], defaults := Value.none, kwdefaults := Value.none } }
  (lf { cls := Value.type "dict", data := Data.dict #[{ hash := PyData.keyHash P (Str.ofString "__module__"), key := Value.str (Str.ofString "__module__") 365, val := Value.str (Str.ofString "cpy313.netrc") 356 }, { hash := PyData.keyHash P (Str.ofString "__qualname__"), key := Value.str (Str.ofString "__qualname__") 367, val := Value.str (Str.ofString "_netrclex") 366 }, { hash := PyData.keyHash P (Str.ofString "__firstlineno__"), key := Value.str (Str.ofString "__firstlineno__") 369, val := Value.int 155 368 }, { hash := PyData.keyHash P (Str.ofString "__init__"), key := Value.str (Str.ofString "__init__") 377, val := Value.ref 148 }, { hash := PyData.keyHash P (Str.ofString "_read_char"), key := Value.str (Str.ofString "_read_char") 385, val := Value.ref 155 }, { hash := PyData.keyHash P (Str.ofString "get_token"), key := Value.str (Str.ofString "get_token") 395, val := Value.ref 162 }, { hash := PyData.keyHash P (Str.ofString "push_token"), key := Value.str (Str.ofString "push_token") 403, val := Value.ref 169 }, { hash := PyData.keyHash P (Str.ofString "__static_attributes__"), key := Value.str (Str.ofString "__static_attributes__") 408, val := Value.ref 170 }] 8 }) (lf (kAt P 201))) (.node (kAt P 105)
  (lf (kAt P 169)) (lf { cls := Value.none, data := Data.func { name := Str.ofString "_law_walked", qualname := Str.ofString "_law_walked", params := (fnAt PB 45).1, body := FuncBody.stmts ((fnAt PB 45).2.1), scope := (fnAt PB 45).2.2, globals := 0, closure := [], defaults := Value.none, kwdefaults := Value.none } }))) (.node (kAt P 57)
  (.node { cls := Value.none, data := Data.fields #[] }
  (lf { cls := Value.none, data := Data.func { name := Str.ofString "_read_char", qualname := Str.ofString "_netrclex._read_char", params := (fnAt (clAt PB 19) 1).1, body := FuncBody.stmts ((fnAt (clAt PB 19) 1).2.1), scope := (fnAt (clAt PB 19) 1).2.2, globals := 0, closure := [], defaults := Value.none, kwdefaults := Value.none } }) (lf (kAt P 217))) (.node (kAt P 121)
  (lf (kAt P 185)) .nil)))) (.node { cls := Value.type "code", data := Data.fields #[Value.str (Str.ofString "<module>") 182, Value.str (Str.ofString "<module>") 183, Value.str (Str.ofString "/claim/cut.py") 184, Value.int 1 0, Value.int 0 0, Value.int 0 0, Value.int 0 0, Value.int 0 0, Value.ref 11, Value.bool false, Value.int 181 0, Value.ref 12, Value.none, Value.none, Value.none, Value.none, Value.int 185 0, Value.int 1 0, Value.str (Str.ofString "/claim/cut.py") 186] }
  (.node (kAt P 21)
  (.node { cls := Value.none, data := Data.fields #[] }
  (.node (kAt P 69)
  (lf (kAt P 133)) (lf (kAt P 197))) (.node (kAt P 101)
  (lf (kAt P 165)) (lf (kAt P 229)))) (.node { cls := Value.type "code", data := Data.fields #[Value.str (Str.ofString "_ABCLike") 235, Value.str (Str.ofString "_ABCLike") 236, Value.str (Str.ofString "/claim/cut.py") 237, Value.int 16 0, Value.int 0 0, Value.int 0 0, Value.int 0 0, Value.int 0 0, Value.ref 51, Value.bool false, Value.int 181 0, Value.ref 52, Value.none, Value.none, Value.none, Value.none, Value.int 238 0, Value.int 16 0, Value.str (Str.ofString "/claim/cut.py") 239] }
  (.node { cls := Value.none, data := Data.func { name := Str.ofString "_abc_plain_meta", qualname := Str.ofString "_abc_plain_meta", params := (fnAt PB 7).1, body := FuncBody.stmts ((fnAt PB 7).2.1), scope := (fnAt PB 7).2.2, globals := 0, closure := [], defaults := Value.none, kwdefaults := Value.none } }
  (lf (kAt P 149)) (lf (kAt P 213))) (.node { cls := Value.none, data := Data.fields #[] }
  (lf { cls := Value.none, data := Data.func { name := Str.ofString "S_IFMT", qualname := Str.ofString "S_IFMT", params := (fnAt PB 21).1, body := FuncBody.stmts ((fnAt PB 21).2.1), scope := (fnAt PB 21).2.2, globals := 0, closure := [], defaults := Value.none, kwdefaults := Value.none } }) (lf { cls := Value.none, data := Data.func { name := Str.ofString "law", qualname := Str.ofString "law", params := (fnAt PB 47).1, body := FuncBody.stmts ((fnAt PB 47).2.1), scope := (fnAt PB 47).2.2, globals := 0, closure := [], defaults := Value.none, kwdefaults := Value.none } })))) (.node (kAt P 29)
  (.node (kAt P 45)
  (.node (kAt P 77)
  (lf { cls := Value.type "frame", slots := #[some (Value.ref 140), some (Value.ref 3), some (Value.ref 137), none, some (Value.str (Str.ofString "cpy313.netrc") 356), none, some (Value.ref 0)] }) (lf (kAt P 205))) (.node (kAt P 109)
  (lf (kAt P 173)) (lf { cls := Value.none, data := Data.fields #[] }))) (.node (kAt P 61)
  (.node (kAt P 93)
  (lf { cls := Value.none, data := Data.fields #[] }) (lf { cls := Value.none, data := Data.func { name := Str.ofString "filemode", qualname := Str.ofString "filemode", params := (fnAt PB 42).1, body := FuncBody.stmts ((fnAt PB 42).2.1), scope := (fnAt PB 42).2.2, globals := 0, closure := [], defaults := Value.none, kwdefaults := Value.none } })) (.node (kAt P 125)
  (lf (kAt P 189)) .nil)))))) (.node (boot_o_2 P)
  (.node (boot_o_4 P)
  (.node (boot_o_8 P)
  (.node { cls := Value.none, data := Data.fields #[] }
  (.node { cls := Value.type "tuple", data := Data.seq #[] }
  (.node (kAt P 64)
  (lf (kAt P 128)) (lf (kAt P 192))) (.node { cls := Value.none, data := Data.fields #[] }
  (lf { cls := Value.none, data := Data.func { name := Str.ofString "get_token", qualname := Str.ofString "_netrclex.get_token", params := (fnAt (clAt PB 19) 2).1, body := FuncBody.stmts ((fnAt (clAt PB 19) 2).2.1), scope := (fnAt (clAt PB 19) 2).2.2, globals := 0, closure := [], defaults := Value.none, kwdefaults := Value.none } }) (lf (kAt P 224)))) (.node (kAt P 48)
  (.node { cls := Value.type "builtin_function_or_method", data := Data.fields #[Value.builtin "object.__init_subclass__", Value.ref 78] }
  (lf (kAt P 144)) (lf (kAt P 208))) (.node (kAt P 112)
  (lf { cls := Value.type "builtin_function_or_method", data := Data.fields #[Value.builtin "object.__init_subclass__", Value.ref 172] }) (lf { cls := Value.none, data := Data.func { name := Str.ofString "_law_names", qualname := Str.ofString "_law_names", params := (fnAt PB 46).1, body := FuncBody.stmts ((fnAt PB 46).2.1), scope := (fnAt PB 46).2.2, globals := 0, closure := [], defaults := Value.none, kwdefaults := Value.none } })))) (.node (kAt P 24)
  (.node { cls := Value.none, data := Data.func { name := Str.ofString "register", qualname := Str.ofString "ABCMeta.register", params := (fnAt (clAt PB 4) 0).1, body := FuncBody.stmts ((fnAt (clAt PB 4) 0).2.1), scope := (fnAt (clAt PB 4) 0).2.2, globals := 0, closure := [], defaults := Value.none, kwdefaults := Value.none } }
  (.node (kAt P 72)
  (lf { cls := Value.type "builtin_function_or_method", data := Data.fields #[Value.builtin "type.__prepare__", Value.type "type"] }) (lf (kAt P 200))) (.node (kAt P 104)
  (lf (kAt P 168)) (lf { cls := Value.none, data := Data.fields #[] }))) (.node { cls := Value.none, data := Data.fields #[] }
  (.node (kAt P 88)
  (lf (kAt P 152)) (lf (kAt P 216))) (.node { cls := Value.none, data := Data.func { name := Str.ofString "splitroot", qualname := Str.ofString "splitroot", params := (fnAt PB 15).1, body := FuncBody.stmts ((fnAt PB 15).2.1), scope := (fnAt PB 15).2.2, globals := 0, closure := [], defaults := Value.none, kwdefaults := Value.none } }
  (lf (kAt P 184)) .nil)))) (.node { cls := Value.none, data := Data.fields #[Value.int 1 0, Value.int 0 0, Value.ref 20, Value.int 5 0, Value.int 0 0, Value.ref 27, Value.int 11 0, Value.int 0 0, Value.ref 34, Value.int 16 0, Value.int 0 0, Value.ref 53, Value.int 31 0, Value.int 0 0, Value.ref 86, Value.int 35 0, Value.int 0 0, Value.ref 93, Value.int 52 0, Value.int 0 0, Value.ref 100, Value.int 64 0, Value.int 0 0, Value.ref 107, Value.int 69 0, Value.int 0 0, Value.ref 114, Value.int 86 0, Value.int 0 0, Value.ref 121, Value.int 100 0, Value.int 0 0, Value.ref 128, Value.int 125 0, Value.int 0 0, Value.ref 133, Value.int 155 0, Value.int 0 0, Value.ref 140, Value.int 199 0, Value.int 0 0, Value.ref 182, Value.int 221 0, Value.int 0 0, Value.ref 222, Value.int 239 0, Value.int 0 0, Value.ref 229, Value.int 247 0, Value.int 0 0, Value.ref 234, Value.int 256 0, Value.int 0 0, Value.ref 241, Value.int 266 0, Value.int 0 0, Value.ref 246] }
  (.node (kAt P 20)
  (.node (kAt P 36)
  (.node (kAt P 68)
  (lf { cls := Value.none, data := Data.func { name := Str.ofString "commonpath", qualname := Str.ofString "commonpath", params := (fnAt PB 17).1, body := FuncBody.stmts ((fnAt PB 17).2.1), scope := (fnAt PB 17).2.2, globals := 0, closure := [], defaults := Value.none, kwdefaults := Value.none } }) (lf (kAt P 196))) (.node (kAt P 100)
  (lf { cls := Value.none, data := Data.fields #[] }) (lf { cls := Value.none, data := Data.func { name := Str.ofString "_law_lexer", qualname := Str.ofString "_law_lexer", params := (fnAt PB 44).1, body := FuncBody.stmts ((fnAt PB 44).2.1), scope := (fnAt PB 44).2.2, globals := 0, closure := [], defaults := Value.none, kwdefaults := Value.none } }))) (.node { cls := Value.none, data := Data.fields #[Value.int 18 0, Value.int 4 0, Value.ref 60, Value.int 24 0, Value.int 4 0, Value.ref 67, Value.int 29 0, Value.int 4 0, Value.ref 74] }
  (.node (kAt P 84)
  (lf (kAt P 148)) (lf (kAt P 212))) (.node (kAt P 116)
  (lf (kAt P 180)) (lf { cls := Value.none, data := Data.fields #[] })))) (.node (kAt P 28)
  (.node (kAt P 44)
  (.node (kAt P 76)
  (lf { cls := Value.type "code", data := Data.fields #[Value.str (Str.ofString "_netrclex") 360, Value.str (Str.ofString "_netrclex") 361, Value.str (Str.ofString "/claim/cut.py") 362, Value.int 155 0, Value.int 0 0, Value.int 0 0, Value.int 0 0, Value.int 0 0, Value.ref 138, Value.bool false, Value.int 181 0, Value.ref 139, Value.none, Value.none, Value.none, Value.none, Value.int 363 0, Value.int 155 0, Value.str (Str.ofString "/claim/cut.py") 364] }) (lf (kAt P 204))) (.node (kAt P 108)
  (lf (kAt P 172)) (lf (kAt P 236)))) (.node (kAt P 60)
  (.node { cls := Value.none, data := Data.func { name := Str.ofString "fspath", qualname := Str.ofString "fspath", params := (fnAt PB 9).1, body := FuncBody.stmts ((fnAt PB 9).2.1), scope := (fnAt PB 9).2.2, globals := 0, closure := [], defaults := Value.none, kwdefaults := Value.none } }
  (lf (kAt P 156)) (lf (kAt P 220))) (.node { cls := Value.none, data := Data.fields #[] }
  (lf (kAt P 188)) .nil))))) (.node (boot_o_6 P)
  (.node (boot_o_10 P)
  (.node (kAt P 18)
  (.node { cls := Value.type "code", data := Data.fields #[Value.str (Str.ofString "ABCMeta") 209, Value.str (Str.ofString "ABCMeta") 210, Value.str (Str.ofString "/claim/cut.py") 211, Value.int 11 0, Value.int 0 0, Value.int 0 0, Value.int 0 0, Value.int 0 0, Value.ref 32, Value.bool false, Value.int 181 0, Value.ref 33, Value.none, Value.none, Value.none, Value.none, Value.int 212 0, Value.int 11 0, Value.str (Str.ofString "/claim/cut.py") 213] }
  (.node { cls := Value.none, data := Data.func { name := Str.ofString "__subclasscheck__", qualname := Str.ofString "_ABCLike.__subclasscheck__", params := (fnAt (clAt PB 6) 1).1, body := FuncBody.stmts ((fnAt (clAt PB 6) 1).2.1), scope := (fnAt (clAt PB 6) 1).2.2, globals := 0, closure := [], defaults := Value.none, kwdefaults := Value.none } }
  (lf (kAt P 130)) (lf (kAt P 194))) (.node (kAt P 98)
  (lf (kAt P 162)) (lf (kAt P 226)))) (.node { cls := Value.type "dict", data := Data.dict #[{ hash := PyData.keyHash P (Str.ofString "__module__"), key := Value.str (Str.ofString "__module__") 240, val := Value.str (Str.ofString "collections.abc") 231 }, { hash := PyData.keyHash P (Str.ofString "__qualname__"), key := Value.str (Str.ofString "__qualname__") 242, val := Value.str (Str.ofString "_ABCLike") 241 }, { hash := PyData.keyHash P (Str.ofString "__firstlineno__"), key := Value.str (Str.ofString "__firstlineno__") 244, val := Value.int 16 243 }, { hash := PyData.keyHash P (Str.ofString "__instancecheck__"), key := Value.str (Str.ofString "__instancecheck__") 253, val := Value.ref 61 }, { hash := PyData.keyHash P (Str.ofString "__subclasscheck__"), key := Value.str (Str.ofString "__subclasscheck__") 261, val := Value.ref 68 }, { hash := PyData.keyHash P (Str.ofString "register"), key := Value.str (Str.ofString "register") 269, val := Value.ref 75 }, { hash := PyData.keyHash P (Str.ofString "__static_attributes__"), key := Value.str (Str.ofString "__static_attributes__") 270, val := Value.ref 76 }] 7 }
  (.node { cls := Value.none, data := Data.fields #[] }
  (lf { cls := Value.none, data := Data.func { name := Str.ofString "__init__", qualname := Str.ofString "_netrclex.__init__", params := (fnAt (clAt PB 19) 0).1, body := FuncBody.stmts ((fnAt (clAt PB 19) 0).2.1), scope := (fnAt (clAt PB 19) 0).2.2, globals := 0, closure := [], defaults := Value.none, kwdefaults := Value.none } }) (lf (kAt P 210))) (.node (kAt P 114)
  (lf { cls := Value.none, data := Data.fields #[] }) (lf (kAt P 242))))) (.node { cls := Value.none, data := Data.func { name := Str.ofString "_plain_name", qualname := Str.ofString "_plain_name", params := (fnAt PB 2).1, body := FuncBody.stmts ((fnAt PB 2).2.1), scope := (fnAt PB 2).2.2, globals := 0, closure := [], defaults := Value.none, kwdefaults := Value.none } }
  (.node (kAt P 42)
  (.node (kAt P 74)
  (lf { cls := Value.type "tuple", data := Data.seq #[] }) (lf (kAt P 202))) (.node { cls := Value.none, data := Data.func { name := Str.ofString "_get_sep", qualname := Str.ofString "_get_sep", params := (fnAt PB 13).1, body := FuncBody.stmts ((fnAt PB 13).2.1), scope := (fnAt PB 13).2.2, globals := 0, closure := [], defaults := Value.none, kwdefaults := Value.none } }
  (lf (kAt P 170)) (lf (kAt P 234)))) (.node (kAt P 58)
  (.node (kAt P 90)
  (lf (kAt P 154)) (lf { cls := Value.none, data := Data.fields #[] })) (.node (kAt P 122)
  (lf (kAt P 186)) .nil)))) (.node { cls := Value.type "frame", slots := #[some (Value.ref 13), some (Value.ref 3), some (Value.ref 3), none, some (Value.str (Str.ofString "__main__") 164), none, some (Value.ref 0)] }
  (.node (kAt P 22)
  (.node (kAt P 38)
  (.node { cls := Value.none, data := Data.fields #[] }
  (lf (kAt P 134)) (lf (kAt P 198))) (.node (kAt P 102)
  (lf (kAt P 166)) (lf (kAt P 230)))) (.node { cls := Value.type "frame", slots := #[some (Value.ref 53), some (Value.ref 3), some (Value.ref 50), none, some (Value.str (Str.ofString "collections.abc") 231), none, some (Value.ref 0)] }
  (.node (kAt P 86)
  (lf { cls := Value.none, data := Data.fields #[] }) (lf (kAt P 214))) (.node (kAt P 118)
  (lf (kAt P 182)) (lf (kAt P 246))))) (.node { cls := Value.type "builtin_function_or_method", data := Data.fields #[Value.builtin "type.__prepare__", Value.type "type"] }
  (.node { cls := Value.type "super", data := Data.fields #[Value.ref 45, Value.ref 45, Value.ref 45] }
  (.node (kAt P 78)
  (lf (kAt P 142)) (lf (kAt P 206))) (.node { cls := Value.none, data := Data.fields #[] }
  (lf (kAt P 174)) (lf (kAt P 238)))) (.node (kAt P 62)
  (.node (kAt P 94)
  (lf (kAt P 158)) (lf (kAt P 222))) (.node (kAt P 126)
  (lf (kAt P 190)) .nil)))))))
noncomputable def tAt (P : Params) (a : Nat) : Obj := ((treeEnd P).get a).getD { cls := .none, data := .plain }
noncomputable def heapEnd (P : Params) : Heap := { objs := ⟨
  tAt P 0 ::
  tAt P 1 ::
  tAt P 2 ::
  tAt P 3 ::
  tAt P 4 ::
  tAt P 5 ::
  tAt P 6 ::
  tAt P 7 ::
  tAt P 8 ::
  tAt P 9 ::
  tAt P 10 ::
  tAt P 11 ::
  tAt P 12 ::
  tAt P 13 ::
  tAt P 14 ::
  tAt P 15 ::
  tAt P 16 ::
  tAt P 17 ::
  tAt P 18 ::
  tAt P 19 ::
  tAt P 20 ::
  tAt P 21 ::
  tAt P 22 ::
  tAt P 23 ::
  tAt P 24 ::
  tAt P 25 ::
  tAt P 26 ::
  tAt P 27 ::
  tAt P 28 ::
  tAt P 29 ::
  tAt P 30 ::
  tAt P 31 ::
  tAt P 32 ::
  tAt P 33 ::
  tAt P 34 ::
  tAt P 35 ::
  tAt P 36 ::
  tAt P 37 ::
  tAt P 38 ::
  tAt P 39 ::
  tAt P 40 ::
  tAt P 41 ::
  tAt P 42 ::
  tAt P 43 ::
  tAt P 44 ::
  tAt P 45 ::
  tAt P 46 ::
  tAt P 47 ::
  tAt P 48 ::
  tAt P 49 ::
  tAt P 50 ::
  tAt P 51 ::
  tAt P 52 ::
  tAt P 53 ::
  tAt P 54 ::
  tAt P 55 ::
  tAt P 56 ::
  tAt P 57 ::
  tAt P 58 ::
  tAt P 59 ::
  tAt P 60 ::
  tAt P 61 ::
  tAt P 62 ::
  tAt P 63 ::
  tAt P 64 ::
  tAt P 65 ::
  tAt P 66 ::
  tAt P 67 ::
  tAt P 68 ::
  tAt P 69 ::
  tAt P 70 ::
  tAt P 71 ::
  tAt P 72 ::
  tAt P 73 ::
  tAt P 74 ::
  tAt P 75 ::
  tAt P 76 ::
  tAt P 77 ::
  tAt P 78 ::
  tAt P 79 ::
  tAt P 80 ::
  tAt P 81 ::
  tAt P 82 ::
  tAt P 83 ::
  tAt P 84 ::
  tAt P 85 ::
  tAt P 86 ::
  tAt P 87 ::
  tAt P 88 ::
  tAt P 89 ::
  tAt P 90 ::
  tAt P 91 ::
  tAt P 92 ::
  tAt P 93 ::
  tAt P 94 ::
  tAt P 95 ::
  tAt P 96 ::
  tAt P 97 ::
  tAt P 98 ::
  tAt P 99 ::
  tAt P 100 ::
  tAt P 101 ::
  tAt P 102 ::
  tAt P 103 ::
  tAt P 104 ::
  tAt P 105 ::
  tAt P 106 ::
  tAt P 107 ::
  tAt P 108 ::
  tAt P 109 ::
  tAt P 110 ::
  tAt P 111 ::
  tAt P 112 ::
  tAt P 113 ::
  tAt P 114 ::
  tAt P 115 ::
  tAt P 116 ::
  tAt P 117 ::
  tAt P 118 ::
  tAt P 119 ::
  tAt P 120 ::
  tAt P 121 ::
  tAt P 122 ::
  tAt P 123 ::
  tAt P 124 ::
  tAt P 125 ::
  tAt P 126 ::
  tAt P 127 ::
  tAt P 128 ::
  tAt P 129 ::
  tAt P 130 ::
  tAt P 131 ::
  tAt P 132 ::
  tAt P 133 ::
  tAt P 134 ::
  tAt P 135 ::
  tAt P 136 ::
  tAt P 137 ::
  tAt P 138 ::
  tAt P 139 ::
  tAt P 140 ::
  tAt P 141 ::
  tAt P 142 ::
  tAt P 143 ::
  tAt P 144 ::
  tAt P 145 ::
  tAt P 146 ::
  tAt P 147 ::
  tAt P 148 ::
  tAt P 149 ::
  tAt P 150 ::
  tAt P 151 ::
  tAt P 152 ::
  tAt P 153 ::
  tAt P 154 ::
  tAt P 155 ::
  tAt P 156 ::
  tAt P 157 ::
  tAt P 158 ::
  tAt P 159 ::
  tAt P 160 ::
  tAt P 161 ::
  tAt P 162 ::
  tAt P 163 ::
  tAt P 164 ::
  tAt P 165 ::
  tAt P 166 ::
  tAt P 167 ::
  tAt P 168 ::
  tAt P 169 ::
  tAt P 170 ::
  tAt P 171 ::
  tAt P 172 ::
  tAt P 173 ::
  tAt P 174 ::
  tAt P 175 ::
  tAt P 176 ::
  tAt P 177 ::
  tAt P 178 ::
  tAt P 179 ::
  tAt P 180 ::
  tAt P 181 ::
  tAt P 182 ::
  tAt P 183 ::
  tAt P 184 ::
  tAt P 185 ::
  tAt P 186 ::
  tAt P 187 ::
  tAt P 188 ::
  tAt P 189 ::
  tAt P 190 ::
  tAt P 191 ::
  tAt P 192 ::
  tAt P 193 ::
  tAt P 194 ::
  tAt P 195 ::
  tAt P 196 ::
  tAt P 197 ::
  tAt P 198 ::
  tAt P 199 ::
  tAt P 200 ::
  tAt P 201 ::
  tAt P 202 ::
  tAt P 203 ::
  tAt P 204 ::
  tAt P 205 ::
  tAt P 206 ::
  tAt P 207 ::
  tAt P 208 ::
  tAt P 209 ::
  tAt P 210 ::
  tAt P 211 ::
  tAt P 212 ::
  tAt P 213 ::
  tAt P 214 ::
  tAt P 215 ::
  tAt P 216 ::
  tAt P 217 ::
  tAt P 218 ::
  tAt P 219 ::
  tAt P 220 ::
  tAt P 221 ::
  tAt P 222 ::
  tAt P 223 ::
  tAt P 224 ::
  tAt P 225 ::
  tAt P 226 ::
  tAt P 227 ::
  tAt P 228 ::
  tAt P 229 ::
  tAt P 230 ::
  tAt P 231 ::
  tAt P 232 ::
  tAt P 233 ::
  tAt P 234 ::
  tAt P 235 ::
  tAt P 236 ::
  tAt P 237 ::
  tAt P 238 ::
  tAt P 239 ::
  tAt P 240 ::
  tAt P 241 ::
  tAt P 242 ::
  tAt P 243 ::
  tAt P 244 ::
  tAt P 245 ::
  tAt P 246 ::
  tAt P 247 :: []⟩ }
noncomputable def cutB : BT → Nat → BT
  | .nil, _ => .nil
  | .node v l r, n => match Nat.beq n 0 with
    | true => .nil
    | false => .node v (cutB l (n / 2)) (cutB r ((n - 1) / 2))
noncomputable def glCut (m n : Nat) (v : Value) (o : Obj) : Obj := match o.data with
  | .dict es _ => match es.toList.take m with
    | e :: t => { o with data := .dict ⟨{ e with val := v } :: t⟩ n }
    | [] => o
  | _ => o
noncomputable def fdCut (m : Nat) (o : Obj) : Obj := match o.data with
  | .fields a => { o with data := .fields ⟨a.toList.take m⟩ }
  | _ => o
noncomputable def midT (P : Params) (n m k j : Nat) (v : Value) : BT := ((cutB (treeEnd P) n).set 3 (glCut m k v)).set 12 (fdCut j)
noncomputable abbrev stT (t : BT) (n k : Nat) (os : OsState) : SharedT := { tree := t, n := n, life := {}, gens := Array.mk [], drawn := {}, toks := k, os := os }
noncomputable def tops : List Stmt := behindTheImports PySem.Challenge.pw_un0047_01
noncomputable def topE : Env := { scope := PySem.Challenge.pw_un0047_01.main.scope, locals := mainNs, globals := mainNs, cells := [], code := .ref 13, frame := some 14 }
noncomputable abbrev topC : Code := .body tops topE
noncomputable abbrev p0 : Pos := { line := 0, col := 0, endLine := 0, endCol := 0 }
noncomputable def t47 (P : Params) : BT := midT P 15 9 9 0 (.str (Str.ofString "__main__") 164)
noncomputable def t83 (P : Params) : BT := (midT P 48 12 12 9 (.str (Str.ofString "collections.abc") 231)).set 45 fun _ => { cls := Value.type "type", data := Data.cls { name := Str.ofString "ABCMeta", bases := [Value.type "type"], mro := [Value.ref 45, Value.type "type", Value.type "object"], ns := 44, qualname := Str.ofString "ABCMeta" }, slots := #[some (Value.ref 29), none, some (Value.str (Str.ofString "ABCMeta") 207), some (Value.str (Str.ofString "ABCMeta") 215), some (Value.builtin "type.__new__"), some (Value.bool true)] }
noncomputable def t133 (P : Params) : BT := midT P 95 15 15 18 (.str (Str.ofString "cpy313.genericpath") 293)
noncomputable def t175 (P : Params) : BT := midT P 135 21 21 36 (.str (Str.ofString "cpy313.netrc") 356)
noncomputable def t226 (P : Params) : BT := midT P 184 27 27 42 (.str (Str.ofString "cpy313.stat") 416)
noncomputable def t280 (P : Params) : BT := midT P 236 46 46 51 (.str (Str.ofString "law_un0047_01") 501)
theorem run_0 (w : World) (os : OsState) : topGo treeTable PySem.Challenge.pw_un0047_01 w 11 (some (.ref 6)) 12 { heap := boot_heap w.params, gens := Array.mk [], drawn := boot_drawn, toks := boot_toks, os := os } (topStub PySem.Challenge.pw_un0047_01) = some ((stT (t47 w.params) 15 187 os).abs, { cur := denote treeTable topC, code := topC, pos := p0, stack := [topFrame p0] }) := by
  rw [PySem.W.Fast.te14364793385576792824]
  kernel_rfl
theorem run_1 (w : World) (os : OsState) : segRunT treeTable PySem.Challenge.pw_un0047_01 w 11 (some (.ref 6)) 1 1 (stT (t47 w.params) 15 187 os) (blockOf tops topE topC p0 [topFrame p0]) = some (.next, stT (t47 w.params) 15 187 os, topC, p0) := by
  rw [PySem.W.Fast.te14364793385576792824]
  kernel_rfl
theorem run_2 (w : World) (os : OsState) : segRunT treeTable PySem.Challenge.pw_un0047_01 w 11 (some (.ref 6)) 1 297 (stT (t47 w.params) 15 187 os) (piecesOf ((tops.drop 0).take 6) topE topC p0 [topFrame p0]) = some (.next, stT (t83 w.params) 48 233 os, topC, { line := 15, col := 0, endLine := 15, endCol := 8 }) := by
  rw [PySem.W.Fast.te14364793385576792824]
  kernel_rfl
theorem run_3 (w : World) (os : OsState) : segRunT treeTable PySem.Challenge.pw_un0047_01 w 11 (some (.ref 6)) 1 389 (stT (t83 w.params) 48 233 os) (piecesOf ((tops.drop 6).take 5) topE topC { line := 15, col := 0, endLine := 15, endCol := 8 } [topFrame p0]) = some (.next, stT (t133 w.params) 95 295 os, topC, { line := 51, col := 0, endLine := 51, endCol := 8 }) := by
  rw [PySem.W.Fast.te14364793385576792824]
  kernel_rfl
theorem run_4 (w : World) (os : OsState) : segRunT treeTable PySem.Challenge.pw_un0047_01 w 11 (some (.ref 6)) 1 208 (stT (t133 w.params) 95 295 os) (piecesOf ((tops.drop 11).take 8) topE topC { line := 51, col := 0, endLine := 51, endCol := 8 } [topFrame p0]) = some (.next, stT (t175 w.params) 135 358 os, topC, { line := 154, col := 0, endLine := 154, endCol := 8 }) := by
  rw [PySem.W.Fast.te14364793385576792824]
  kernel_rfl
theorem run_5 (w : World) (os : OsState) : segRunT treeTable PySem.Challenge.pw_un0047_01 w 11 (some (.ref 6)) 1 398 (stT (t175 w.params) 135 358 os) (piecesOf ((tops.drop 19).take 7) topE topC { line := 154, col := 0, endLine := 154, endCol := 8 } [topFrame p0]) = some (.next, stT (t226 w.params) 184 433 os, topC, { line := 204, col := 0, endLine := 204, endCol := 7 }) := by
  rw [PySem.W.Fast.te14364793385576792824]
  kernel_rfl
theorem run_6 (w : World) (os : OsState) : segRunT treeTable PySem.Challenge.pw_un0047_01 w 11 (some (.ref 6)) 1 398 (stT (t226 w.params) 184 433 os) (piecesOf ((tops.drop 26).take 20) topE topC { line := 204, col := 0, endLine := 204, endCol := 7 } [topFrame p0]) = some (.next, stT (t280 w.params) 236 519 os, topC, { line := 247, col := 0, endLine := 255, endCol := 17 }) := by
  rw [PySem.W.Fast.te14364793385576792824]
  kernel_rfl
theorem run_7 (w : World) (os : OsState) : segRunT treeTable PySem.Challenge.pw_un0047_01 w 11 (some (.ref 6)) 1 59 (stT (t280 w.params) 236 519 os) (piecesOf ((tops.drop 46).take 2) topE topC { line := 247, col := 0, endLine := 255, endCol := 17 } [topFrame p0]) = some (.next, stT (treeEnd w.params) 248 535 os, topC, { line := 266, col := 0, endLine := 281, endCol := 15 }) := by
  rw [PySem.W.Fast.te14364793385576792824]
  kernel_rfl
theorem run_8 (w : World) (os : OsState) : topRun treeTable PySem.Challenge.pw_un0047_01 w 11 (some (.ref 6)) 2 (stT (treeEnd w.params) 248 535 os).abs { cur := doneF .next, code := topC, pos := { line := 266, col := 0, endLine := 281, endCol := 15 }, stack := [topFrame p0] } = some { heap := heapEnd w.params, gens := Array.mk [], drawn := {}, toks := 535, os := os } := by
  rw [PySem.W.Fast.te14364793385576792824]
  kernel_rfl
theorem cut_app {tb : String → Option Builtin} {p : Program} {w : World} {n₀ : Nat} {ann : Option Value} {env : Env} {q : Pos} {n N i k : Nat} {s s' : SharedT} {r : Shared} {c : Code} {pos p' : Pos} (h : segRunT tb p w n₀ ann 1 n s (piecesOf ((tops.drop i).take k) env c pos [topFrame q]) = some (.next, s', c, p'))
    (g : topRun tb p w n₀ ann N s'.abs (restOf (tops.drop (i + k)) env c p' [topFrame q]) = some r) : topRun tb p w n₀ ann (n + N) s.abs (restOf (tops.drop i) env c pos [topFrame q]) = some r := by
  have e := piece_app (segRun_of h) (rest := tops.drop (i + k)) g
  rw [← List.drop_drop, List.take_append_drop] at e
  exact e
theorem head_run (w : World) (os : OsState) : topRun treeTable PySem.Challenge.pw_un0047_01 w 11 (some (.ref 6)) 1764 { heap := boot_heap w.params, gens := Array.mk [], drawn := boot_drawn, toks := boot_toks, os := os } (topStub PySem.Challenge.pw_un0047_01) = some { heap := heapEnd w.params, gens := Array.mk [], drawn := {}, toks := 535, os := os } := by
  have e8 := run_8 w os
  have d : tops.drop 48 = [] := by kernel_rfl
  have e7 := cut_app (i := 46) (k := 2) (run_7 w os) (by rw [show (46 + 2 : Nat) = 48 from rfl, d]; exact piece_nil e8)
  have e6 := cut_app (i := 26) (k := 20) (run_6 w os) e7
  have e5 := cut_app (i := 19) (k := 7) (run_5 w os) e6
  have e4 := cut_app (i := 11) (k := 8) (run_4 w os) e5
  have e3 := cut_app (i := 6) (k := 5) (run_3 w os) e4
  have e2 := cut_app (i := 0) (k := 6) (run_2 w os) e3
  exact go_top (run_0 w os) (piece_block (segRun_of (run_1 w os)) e2)
theorem head_looks (w : World) : (fun os => (staticsOk (importedModules PySem.Challenge.pw_un0047_01.main.body) (boot_heap w.params) (heapEnd w.params) && namesBound PySem.Challenge.pw_un0047_01 (heapEnd w.params) && gensDone { heap := heapEnd w.params, gens := Array.mk [], drawn := {}, toks := 535, os := os } && laidKept (boot_heap w.params) (heapEnd w.params),
    openSeen hd.view_39 [Str.ofString "_filemode_table"] (importedModules PySem.Challenge.pw_un0047_01.main.body) (fun s => xlAt hd.view_39 LV s && recOk (RowW.records PySem.Challenge.rw_un0047_01.row.toRowW) s) true { heap := heapEnd w.params, gens := Array.mk [], drawn := {}, toks := 535, os := os },
    Hook.obs HK { heap := heapEnd w.params, gens := Array.mk [], drawn := {}, toks := 535, os := os })) = fun _ => (true, openGood hd.view_39 [Str.ofString "_filemode_table"], Hook.val HK w) := by
  rw [PySem.W.Fast.te5923862056798008813, PySem.W.Fast.te4187177175401517315]
  kernel_rfl
theorem head_left : LeftO PySem.Challenge.pw_un0047_01 hd.view_39 [Str.ofString "_filemode_table"] (fun s => xlAt hd.view_39 LV s && recOk (RowW.records PySem.Challenge.rw_un0047_01.row.toRowW) s) (Hook.obs HK) (Hook.val HK) 3612 :=
  LeftO.of_pieces (H₀ := boot_heap) (H₁ := heapEnd) (boot_open (by kernel_rfl) rfl (fun _ => rfl)) (fun _ => by kernel_rfl) head_run rfl head_looks
theorem head_said : PySem.Challenge.rw_un0047_01.wellSaid = true := by
  rw [PySem.W.Fast.te9446332074065402090]
  kernel_rfl
theorem hd {d : DefRec} (e : defOf hd.view_39 PySem.Challenge.rw_un0047_01.row.name = some (d, [])) (e2 : PySem.Challenge.pw_un0047_01.theDef PySem.Challenge.rw_un0047_01.row.name = some (d.params, d.body, d.scope)) (e3 : kwWritten? d.params.kwonlyargs d.params.kw_defaults = some [])
    (walk : WalkO hd.view_39 [Str.ofString "_filemode_table"] (XL hd.view_39 LV) (Hook.says HK) PySem.Challenge.rw_un0047_01.row.toRowW d [] fun f vs => call f vs) : PySem.Challenge.rw_un0047_01.Holds := by
  refine holds_law head_said fun said => ?_
  refine holds_open (q := hd.view_39) (loose := [Str.ofString "_filemode_table"]) (Xt := fun s => xlAt hd.view_39 LV s && recOk (RowW.records PySem.Challenge.rw_un0047_01.row.toRowW) s) (XP := XL hd.view_39 LV) (Yf := Hook.obs HK) (Ya := Hook.val HK) (YP := Hook.says HK) (N := 3612) head_left (Hook.of HK) (Hook.keeps HK) (fun s e => xl_of s (Bool.and_eq_true_iff.mp e).1) XL.keeps e e2 e3 (fun s e => recFacts_of (Bool.and_eq_true_iff.mp e).2) (by rfl) said (by decide +kernel) ⟨rfl, rfl, rfl, rfl, rfl, by decide +kernel⟩ ?hw walk
  case hw => w_witness2
noncomputable abbrev PW := PySem.Challenge.pw_un0047_01
section
variable {prog : Program} {w : World} {A : Around} {E : Value → Shared → Prop} {s : Shared}

theorem isub_str : isSubtype (.type "str") (.type "str") = pure true := by rw [isSubtype_type]; kernel_rfl
theorem isub_nested_str {dep : Int} {tk : Tok} {Q : Fin → Shared → Prop} (hq : Q (.done (.ret (.bool true))) s) :
    wpAny (model prog w) A (Builtin.«issubclass.nested» ⟨[.type "str", .type "str", .int dep tk], []⟩) Q E s := by
  have hm : typeOf (.type "str") = pure (.type "type") := rfl
  have hself := isub_str
  repeat (any_goals (first | assumption | (rw [if_pos hm]) | (rw [hself]) | wp_step))

theorem code_fn_meets {id : String} {B : Builtin} {args : List Value} {S : PySem.Spec} {Q : Value → Shared → Prop} (kind : builtinKind id = none) (plain : plainId id = true)
    (entry : entryFor table id = some B) (ok : argsOk id ⟨args, []⟩) (g : Meets (B ⟨args, []⟩) S) (h : S A (wants Q E) s) : codeAny (model prog w) A (.call (.builtin id) ⟨args, []⟩) (wants Q E) s := by
  refine codeAny_call_builtin plain entry ?_
  have hfin := g prog w A (wants Q E) s h
  simp only [checkBuiltinCall, kind]
  cases hsig : Manifest.signature? id with
  | none => exact wpAny_pure hfin
  | some sig =>
    simp only [argsOk, hsig] at ok
    have h2 : Bind.checkArgs id sig ⟨args, []⟩ = pure () := ok
    show wpAny _ _ (Bind.checkArgs id sig ⟨args, []⟩) _ _ s
    rw [h2]; exact wpAny_pure hfin
theorem isub_tup {tp : Addr} {tk : Tok} {Q : Fin → Shared → Prop} (htp : s.heap.get? tp = some { cls := .type "tuple", data := .seq ([Value.type "str", Value.type "bytes"] : List Value).toArray })
    (hq : Q (.done (.ret (.bool true))) s) : wpAny (model prog w) A (Builtin.«issubclass.nested» ⟨[.type "str", .ref tp, .int 0 tk], []⟩) Q E s := by
  obtain ⟨h, g, d, t, os⟩ := s
  have hT2 : (⟨h, g, d, t, os⟩ : Shared).TypeIs (.ref tp) "tuple" := ⟨_, htp, rfl⟩
  have f1 := F.isi_sub_tuple
  repeat (any_goals (first | assumption | wp_step))
  show codeAny _ _ (Code.call (Value.builtin "issubclass.nested") ⟨[.type "str", .type "str", rawInt 1], []⟩) _ _
  refine code_fn_meets (S := fun _ R s => R (.ok (.ret (.bool true))) s) (B := Builtin.«issubclass.nested») (by decide +kernel) (by decide +kernel) F.entry_issubclass_nested (by unfold argsOk; kernel_rfl) (fun _ _ _ _ _ hs => isub_nested_str hs) ?_
  show wpAny _ _ (truthy (.bool true) >>= _) _ _ _
  refine wpAny_bind (m := truthy (.bool true)) (wpAny_pure ?_)
  repeat (any_goals (first | assumption | wp_step))
theorem call_isub_str {tp : Addr} {Q : Value → Shared → Prop} (htp : s.heap.get? tp = some { cls := .type "tuple", data := .seq ([Value.type "str", Value.type "bytes"] : List Value).toArray })
    (hq : Q (.bool true) s) : wpAny (model prog w) A (call (.builtin "issubclass") [.type "str", .ref tp]) Q E s := by
  refine call_issubclass (S := fun _ R s => s.heap.get? tp = some { cls := .type "tuple", data := .seq ([Value.type "str", Value.type "bytes"] : List Value).toArray } ∧ R (.ok (.ret (.bool true))) s) ?_ ⟨htp, hq⟩
  exact fun _ _ _ _ _ hs => issubclass_outer (isub_tup hs.1 hs.2)
end
theorem rows1 : True := by
  k_with "call builtin:issubclass" => ((k_here; (with_reducible show wpAny _ _ (call _ [Value.type "str", Value.ref _]) _ _ _); k_dflt (refine' call_isub_str (by exact (News.get (by k_asm) (by k_mem))) ?_; k_whole)))
  trivial

local macro_rules | `(tactic| k_room) => `(tactic| ktr_room)
local macro_rules | `(tactic| k_units) => `(tactic| ktr_units)
theorem try_calm {prog : Program} {w : World} {A : Around} {E : Value → Shared → Prop} {s : Shared} {env : Env} {body : List Stmt} {h₀ : ExceptHandler} {hs : List ExceptHandler} {pos : Pos} {Q : Flow → Shared → Prop}
    (h : wpAny (model prog w) A (execs body env) Q (fun _ _ => False) s) : wpAny (model prog w) A (exec (.Try body (h₀ :: hs) [] [] pos) env) Q E s := by
  refine wpAny_Try_except (wpAny_mono h (fun f s' hq => ?_) fun _ _ h => h.elim)
  cases f with
  | next => exact wpAny_pure hq
  | _ => exact hq
theorem rows2 : True := by
  k_with "exec Try" => ((k_here; k_dflt (refine try_calm ?_)))
  trivial

/-- everything but what stands at the addresses of hid is kept -/
noncomputable def Ext (hid : List Addr) (h h' : Heap) : Prop := ∀ b o, h.get? b = some o → b ∉ hid → h'.get? b = some o
theorem Ext.fr {hid : List Addr} {h h' h₀ : Heap} {L : Addr} {m : Str → Option Value} (X : Ext hid h h') (F : Fr h₀ L h m) (hL : L ∉ hid) (h0 : ∀ b ∈ hid, h₀.get? b = none) : Fr h₀ L h' m :=
  ⟨let ⟨o, es, ep, x, r⟩ := F.ns; ⟨o, es, ep, X L o x hL, r⟩, fun b o e => X b o (F.keep b o e) fun hb => (by rw [h0 b hb] at e; cases e), F.above⟩
theorem Ext.fr0 {h h' h₀ : Heap} {L : Addr} {m : Str → Option Value} (X : Ext [] h h') (F : Fr h₀ L h m) : Fr h₀ L h' m := X.fr F (fun h => nomatch h) fun _ h => nomatch h
theorem Ext.news0 {h h' h₀ : Heap} {L : Addr} {news : List (Addr × Obj)} (X : Ext [] h h') (N : News h₀ L h news) : News h₀ L h' news :=
  fun p hp => ⟨X _ _ (N p hp).1 (fun h => nomatch h), (N p hp).2⟩
theorem Ext.trans {hid : List Addr} {h h' h'' : Heap} (X : Ext hid h h') (Y : Ext hid h' h'') : Ext hid h h'' := fun b o e n => Y b o (X b o e n) n

noncomputable abbrev AR (dp : Nat) (fr : Option (List Env)) (gd : Option (List Code)) (un : Nat) : Around := { handled := none, depth := dp, frames := fr, guards := gd, units := un }

section
variable {prog : Program} {w : World} {A : Around} {s : Shared} {h₀ : Heap} {pre : List (Addr × Obj)} {K : Frag}
  {E : Value → Shared → Prop} {Q : Value → Shared → Prop} {name qual : Str} {params : Arguments} {body : List Stmt} {scope : Scope} {dV kV doc pm cdv ct oc : Value} {an od : Option Addr} {osl : Array (Option Value)} {f : Addr} {args : List Value} {binds : List (Str × Value)}
  {p : Program} {loose : List Str} {mean : ExcName → Option Value} {mg mb : Str → Option Value}

/-- a def is entered: no cells -/
theorem enter0 (X : K.In h₀) (T : Top p loose mean mg mb h₀) (keep : ∀ b o, h₀.get? b = some o → s.heap.get? b = some o) (hpre : ∀ q ∈ pre, s.heap.get? q.1 = some q.2 ∧ h₀.get? q.1 = none)
    (ho : K.lookup f = some ⟨oc, od, .func (fnOf name qual params body scope dV kV doc pm an cdv ct), osl⟩) (hcd : codeIn K cdv qual = true) (hroom : A.depth < recursionLimit)
    (hbind : BindsTo s (fnOf name qual params body scope dV kV doc pm an cdv ct) ⟨args, []⟩ binds) (hloc : ∀ y ∈ binds, scope.names.lookup y.1 = some .local)
    (h : ∀ g L' h₁, Ext (pre.map (·.1)) s.heap g → (∀ b ∈ pre.map (·.1), g.get? b = none) → Fr g L' h₁ (fun y => binds.reverse.lookup y) → News g L' h₁ pre → K.In g → Top p loose mean mg mb g →
      wpAny (model prog w) (A.deeper (envOf qual scope L' f cdv)) (execs body (envOf qual scope L' f cdv)) (fun fl s' => Q (match fl with | .ret v => v | _ => .none) s') (fun _ _ => False) { s with heap := h₁, toks := s.toks + binds.length })
    (hco : scope.isCoroutine = false) (hgen : scope.isGenerator = false) (hk : scope.kind = .function)
    (hcell : ∀ x ∈ scope.names, x.2 ≠ .cell) : wpAny (model prog w) A (call (.ref f) args) Q E s := by
  have X' := X.keeps keep
  have nm : ∀ b o, h₀.get? b = some o → b ∉ pre.map (·.1) := fun b o e q => by
    obtain ⟨x, hx, rfl⟩ := List.mem_map.mp q
    rw [(hpre x hx).2] at e; cases e
  have st : ∀ b o, h₀.get? b = some o → (hideAll s.heap (pre.map (·.1))).get? b = some o := fun b o e => hideAll_get _ (keep b o e) (nm b o e)
  refine wpAny_call (codeAny_call_def (fd := fnOf name qual params body scope dV kV doc pm an cdv ct) (body := body) (binds := binds) hroom (X' _ _ ho) rfl (T.nolimit.keeps keep) (codeRec_of X' hcd) rfl hbind hcell hloc (fun h₁ hns hk₁ => ?_) hco hgen hk)
  refine wpAny_mono (h (hideAll s.heap (pre.map (·.1))) s.heap.objs.size h₁ (fun b o e n => hideAll_get _ e n) (fun b hb => hideAll_none _ hb) ⟨hns, fun b o e => hk₁ b o (of_hideAll _ e), Nat.le_of_eq (hideAll_size _ _)⟩
    (fun q hq => ⟨hk₁ _ _ (hpre q hq).1, Nat.ne_of_lt (Heap.lt_size (hpre q hq).1), hideAll_none _ (List.mem_map_of_mem hq)⟩) (X.keeps st) (T.keeps st)) (fun fl s' hl => hl) fun _ _ y => y.elim
end
theorem rows3 : True := by
  k_with "my enter" => ((refine' enter0 (by assumption) (by assumption) (by assumption) (by assumption) (by k_is) (by k_is) (by ktr_room) (by exact BindsTo.of_eq rfl) (by exact locs rfl) ?_ (by exact rfl) (by exact rfl) (by exact rfl) (by decide); k_whole; intro _ _ _ _ _ _ _ _ _; (try dsimp only)))
  trivial

section
variable {w : World} {p : Program} {loose : List Str} {mean : ExcName → Option Value} {mg mb : Str → Option Value} {dp un : Nat} {fr : Option (List Env)} {gd : Option (List Code)} {h₀ : Heap} {s : Shared} {Q E : Value → Shared → Prop} {L : Addr} {m : Str → Option Value} {news : List (Addr × Obj)}
theorem fin0 {hid : List Addr} {h g h' : Heap} {L' : Addr} {m' : Str → Option Value} (gE : Ext hid h g) (F : Fr g L' h' m') : Ext hid h h' := fun b o e n => F.keep b o (gE b o e n)
theorem nopre {s : Shared} {h₀ : Heap} : ∀ q ∈ ([] : List (Addr × Obj)), s.heap.get? q.1 = some q.2 ∧ h₀.get? q.1 = none := fun _ h => nomatch h
theorem fspath_c (x : Str) (t : Tok) (X : (hd.heap_39 w.params).In h₀) (T : Top p loose mean mg mb h₀) (keep : ∀ b o, h₀.get? b = some o → s.heap.get? b = some o) (hdp : dp + 3 < recursionLimit) (hun : un + 12 < cLine)
    (h : ∀ h' tk', Ext [] s.heap h' → Q (.str x t) { s with heap := h', toks := tk' }) : wpAny (model PW w) (AR dp fr gd un) (call (.ref 94) [.str x t]) Q E s := by
  have P := nopre (s := s) (h₀ := h₀)
  k_dflt (walk_at "my enter")
  k_steps
  exact h _ _ (fin0 (by assumption) (by assumption))
theorem fspath_u (x : Str) (t : Tok) (F : Fr h₀ L s.heap m) (N : News h₀ L s.heap news) (X : (hd.heap_39 w.params).In h₀) (T : Top p loose mean mg mb h₀) (hdp : dp + 3 < recursionLimit) (hun : un + 12 < cLine)
    (h : ∀ h' tk', Ext [] s.heap h' → Fr h₀ L h' m → News h₀ L h' news → Q (.str x t) { s with heap := h', toks := tk' }) : wpAny (model PW w) (AR dp fr gd un) (call (.ref 94) [.str x t]) Q E s :=
  fspath_c x t X T F.keep hdp hun fun h' tk' e => h h' tk' e (e.fr0 F) (e.news0 N)
end
theorem rows4 : True := by
  k_with "call ref" => ((k_here; (with_reducible show wpAny _ _ (call (Value.ref 94) [Value.str _ _]) _ _ _); k_dflt (refine' fspath_u _ _ (by k_asm) (by k_asm) (by k_asm) (by k_asm) (by ktr_room) (by ktr_units) ?_; k_whole); intro _ _ _ _ _; (try k_sweep)))
  trivial

section
variable {w : World} {p : Program} {loose : List Str} {mean : ExcName → Option Value} {mg mb : Str → Option Value} {dp un : Nat} {fr : Option (List Env)} {gd : Option (List Code)} {h₀ : Heap} {s : Shared} {Q E : Value → Shared → Prop} {L : Addr} {m : Str → Option Value} {news : List (Addr × Obj)}
theorem getsep_c (x : Str) (t : Tok) (X : (hd.heap_39 w.params).In h₀) (T : Top p loose mean mg mb h₀) (keep : ∀ b o, h₀.get? b = some o → s.heap.get? b = some o) (hdp : dp + 3 < recursionLimit) (hun : un + 12 < cLine)
    (h : ∀ t h' tk', Ext [] s.heap h' → Q (.str "/" t) { s with heap := h', toks := tk' }) : wpAny (model PW w) (AR dp fr gd un) (call (.ref 108) [.str x t]) Q E s := by
  have P := nopre (s := s) (h₀ := h₀)
  k_dflt (walk_at "my enter")
  k_steps
  exact h _ _ _ (fin0 (by assumption) (by assumption))
theorem getsep_u (x : Str) (t : Tok) (F : Fr h₀ L s.heap m) (N : News h₀ L s.heap news) (X : (hd.heap_39 w.params).In h₀) (T : Top p loose mean mg mb h₀) (hdp : dp + 3 < recursionLimit) (hun : un + 12 < cLine)
    (h : ∀ t h' tk', Ext [] s.heap h' → Fr h₀ L h' m → News h₀ L h' news → Q (.str "/" t) { s with heap := h', toks := tk' }) : wpAny (model PW w) (AR dp fr gd un) (call (.ref 108) [.str x t]) Q E s :=
  getsep_c x t X T F.keep hdp hun fun t h' tk' e => h t h' tk' e (e.fr0 F) (e.news0 N)
end
theorem rows5 : True := by
  k_with "call ref" => ((k_here; (with_reducible show wpAny _ _ (call (Value.ref 108) [Value.str _ _]) _ _ _); k_dflt (refine' getsep_u _ _ (by k_asm) (by k_asm) (by k_asm) (by k_asm) (by ktr_room) (by ktr_units) ?_; k_whole); intro _ _ _ _ _ _; (try k_sweep)))
  trivial
/-- a tree that reads the written part, makes one object and then only reads -/
theorem wp_push1 {α : Type} {K : Frag} {M : Model} {A : Around} {E : Value → Shared → Prop} {Q : α → Shared → Prop} {s : Shared} {o : Obj} {r : Addr → α}
    (X : K.In s.heap) (q : Q (r s.heap.objs.size) { s with heap := s.heap.push o }) :
    ∀ (t : Sem α) (g : Addr → Option α), peek1 K ⟨M.prog, M.w.params⟩ t = some (o, g) → (∀ D, g D = some (r D)) → wpAny M A t Q E s := by
  intro t
  induction t with
  | rule _ k ih => exact fun g e hg Γ p hΓ => ih () g e hg Γ p hΓ
  | point _ k ih => exact fun g e hg Γ p hΓ => ih () g e hg Γ p hΓ
  | ask k ih => exact fun g e hg Γ p hΓ => ih _ g e hg Γ p hΓ
  | load a _ k ih =>
    intro g e hg Γ p hΓ
    simp only [peek1] at e
    split at e
    · exact ⟨_, X _ _ (by assumption), ih _ g e hg Γ p hΓ⟩
    · cases e
  | alloc ob k _ =>
    intro g e hg
    obtain ⟨e1, e2⟩ := Prod.mk.inj (Option.some.inj (show some (ob, fun D => peek K ⟨M.prog, M.w.params⟩ (k D)) = some (o, g) from e))
    subst e1 e2
    show wpAny M A (alloc ob >>= k) Q E s
    exact wpAny_bind (wpAny_alloc ((Looks.of_peek (M := M) (h := s.heap.push ob) (X.keeps fun b x hb => Heap.get?_push_of_some _ hb) (hg s.heap.objs.size)).here (s := { s with heap := s.heap.push ob }) q))
  | _ => intro g e; cases e

section
variable {prog : Program} {w : World} {A : Around} {s : Shared} {h₀ : Heap} {pre : List (Addr × Obj)} {K : Frag}
  {E : Value → Shared → Prop} {Q : Value → Shared → Prop} {name qual : Str} {params : Arguments} {body : List Stmt} {scope : Scope} {dV kV doc pm cdv ct oc : Value} {an od : Option Addr} {osl : Array (Option Value)} {f : Addr} {args vs : List Value}
  {p : Program} {loose : List Str} {mean : ExcName → Option Value} {mg mb : Str → Option Value} {g₁ : Addr → Option (List (Str × Value))} {binds : Addr → List (Str × Value)}

/-- a def with a starred parameter is entered: no cells -/
theorem enterS (X : K.In h₀) (T : Top p loose mean mg mb h₀) (keep : ∀ b o, h₀.get? b = some o → s.heap.get? b = some o) (hpre : ∀ q ∈ pre, s.heap.get? q.1 = some q.2 ∧ h₀.get? q.1 = none)
    (ho : K.lookup f = some ⟨oc, od, .func (fnOf name qual params body scope dV kV doc pm an cdv ct), osl⟩) (hcd : codeIn K cdv qual = true) (hroom : A.depth < recursionLimit)
    (hv : args.drop (params.posonlyargs.length + params.args.length) = vs)
    (hp : peek1 K ⟨prog, w.params⟩ (bindArgs (fnOf name qual params body scope dV kV doc pm an cdv ct) ⟨args, []⟩) = some (({ cls := .type "tuple", data := .seq vs.toArray } : Obj), g₁))
    (hg : ∀ D, g₁ D = some (binds D)) (hloc : ∀ D, ∀ y ∈ binds D, scope.names.lookup y.1 = some .local)
    (h : ∀ D g L' h₁, Ext (pre.map (·.1)) s.heap g → (∀ b ∈ pre.map (·.1), g.get? b = none) → Fr g L' h₁ (fun y => (binds D).reverse.lookup y) → News g L' h₁ ((D, ({ cls := .type "tuple", data := .seq vs.toArray } : Obj)) :: pre) → K.In g → Top p loose mean mg mb g →
      wpAny (model prog w) (A.deeper (envOf qual scope L' f cdv)) (execs body (envOf qual scope L' f cdv)) (fun fl s' => Q (match fl with | .ret v => v | _ => .none) s') (fun _ _ => False) { s with heap := h₁, toks := s.toks + (binds D).length })
    (hco : scope.isCoroutine = false) (hgen : scope.isGenerator = false) (hk : scope.kind = .function)
    (hcell : ∀ x ∈ scope.names, x.2 ≠ .cell) : wpAny (model prog w) A (call (.ref f) args) Q E s := by
  have _ := hv
  have X' := X.keeps keep
  have nm : ∀ b o, h₀.get? b = some o → b ∉ pre.map (·.1) := fun b o e q => by
    obtain ⟨x, hx, rfl⟩ := List.mem_map.mp q
    rw [(hpre x hx).2] at e; cases e
  have up : ∀ b o, s.heap.get? b = some o → (s.heap.push ({ cls := .type "tuple", data := .seq vs.toArray } : Obj)).get? b = some o := fun b o e => Heap.get?_push_of_some _ e
  have st : ∀ b o, h₀.get? b = some o → (hideAll s.heap (pre.map (·.1))).get? b = some o := fun b o e => hideAll_get _ (keep b o e) (nm b o e)
  refine wpAny_call (codeAny_call_function (fd := fnOf name qual params body scope dV kV doc pm an cdv ct) (body := body) hroom (X' _ _ ho) rfl hco hgen rfl (codeRec_of X' hcd) ?_)
  refine wp_push1 (r := binds) (o := ({ cls := .type "tuple", data := .seq vs.toArray } : Obj)) X' ?_ _ g₁ hp hg
  refine wpAny_newFunctionEnv hcell (hloc _) (fun h₁ hns hsb => ⟨(T.nolimit.keeps fun b o e => up b o (keep b o e)).fresh _ hsb, codeAny_func ?_⟩) hk
  dsimp only at hns hsb ⊢
  have hk₁ : ∀ b o, (s.heap.push ({ cls := .type "tuple", data := .seq vs.toArray } : Obj)).get? b = some o → h₁.get? b = some o := fun b o e => hsb.extBut b o (Nat.ne_of_lt (Heap.lt_size e)) (Heap.get?_push_of_some _ e)
  have hsz : s.heap.objs.size < (s.heap.push ({ cls := .type "tuple", data := .seq vs.toArray } : Obj)).objs.size := by rw [Heap.size_push]; exact Nat.lt_succ_self _
  refine wpAny_mono (h s.heap.objs.size (hideAll s.heap (pre.map (·.1))) _ h₁ (fun b o e n => hideAll_get _ e n) (fun b hb => hideAll_none _ hb)
    ⟨hns, fun b o e => hk₁ b o (up b o (of_hideAll _ e)), by rw [hideAll_size]; exact Nat.le_of_lt hsz⟩
    (fun q hq => ?_) (X.keeps st) (T.keeps st)) (fun fl s' hl => hl) fun _ _ y => y.elim
  rcases List.mem_cons.mp hq with rfl | hq
  · refine ⟨hk₁ _ _ (Heap.get?_push_size _ rfl), Nat.ne_of_lt hsz, ?_⟩
    cases e : (hideAll s.heap (pre.map (·.1))).get? s.heap.objs.size with
    | none => rfl
    | some o => exact absurd (Heap.lt_size (of_hideAll _ e)) (Nat.lt_irrefl _)
  · exact ⟨hk₁ _ _ (up _ _ (hpre q hq).1), Nat.ne_of_lt (Nat.lt_trans (Heap.lt_size (hpre q hq).1) hsz), hideAll_none _ (List.mem_map_of_mem hq)⟩
end
theorem rows6 : True := by
  k_with "my enterS" => ((refine' enterS (by assumption) (by assumption) (by assumption) (by assumption) (by k_is) (by k_is) (by ktr_room) (by kl_lit) (by exact rfl) (by exact fun _ => rfl) (by exact fun _ => locs rfl) ?_ (by exact rfl) (by exact rfl) (by exact rfl) (by decide); k_whole; intro _ _ _ _ _ _ _ _ _ _; (try dsimp only)))
  trivial
section
variable {w : World} {p : Program} {loose : List Str} {mean : ExcName → Option Value} {mg mb : Str → Option Value} {dp un : Nat} {fr : Option (List Env)} {gd : Option (List Code)} {h₀ : Heap} {s : Shared} {Q E : Value → Shared → Prop} {L : Addr} {m : Str → Option Value} {news : List (Addr × Obj)}
theorem fresh_of {h g : Heap} {D : Addr} (E : Ext [] h g) (hD : g.get? D = none) : h.get? D = none := by
  cases e : h.get? D with
  | none => rfl
  | some o => rw [E D o e (fun h => nomatch h)] at hD; cases hD
theorem join_c (x y z : Str) (t u : Tok) (hx : x.length ≤ 1000) (hy : y.length ≤ 1000) (hs : Txt.startswith y (Str.ofString "/") = false) (hn : 0 < x.length)
    (hz : z = if Txt.endswith x (Str.ofString "/") then x ++ y else x ++ (Str.ofString "/" ++ y))
    (X : (hd.heap_39 w.params).In h₀) (T : Top p loose mean mg mb h₀) (keep : ∀ b o, h₀.get? b = some o → s.heap.get? b = some o) (hdp : dp + 8 < recursionLimit) (hun : un + 24 < cLine)
    (h : ∀ t h' tk', Ext [] s.heap h' → Q (.str z t) { s with heap := h', toks := tk' }) : wpAny (model PW w) (AR dp fr gd un) (call (.ref 115) [.str x t, .str y u]) Q E s := by
  have P := nopre (s := s) (h₀ := h₀)
  k_dflt (walk_at "my enterS")
  k_steps
  all_goals dsimp only
  all_goals first
    | (exfalso; simp_all; done)
    | (exfalso; omega)
    | (simp only [*] at hz; simp only [if_true, if_false, Bool.false_eq_true] at hz; subst hz; exact h _ _ _ (fin0 (by assumption) (by assumption)))
theorem splitroot_c (x : Str) (t : Tok) (hx : x.length ≤ 1000) (h1 : Txt.slice x none (some 1) = Str.ofString "/") (h2 : Txt.slice x (some 1) (some 2) ≠ Str.ofString "/") (X : (hd.heap_39 w.params).In h₀) (T : Top p loose mean mg mb h₀) (keep : ∀ b o, h₀.get? b = some o → s.heap.get? b = some o) (hdp : dp + 8 < recursionLimit) (hun : un + 24 < cLine)
    (h : ∀ D t1 t2 t3 h' tk', Ext [] s.heap h' → s.heap.get? D = none → h'.get? D = some { cls := .type "tuple", data := .seq #[.str (Str.ofString "") t1, .str (Str.ofString "/") t2, .str (Txt.slice x (some 1) none) t3] } → Q (.ref D) { s with heap := h', toks := tk' }) : wpAny (model PW w) (AR dp fr gd un) (call (.ref 122) [.str x t]) Q E s := by
  have P := nopre (s := s) (h₀ := h₀)
  k_dflt (walk_at "my enter")
  k_steps
  all_goals dsimp only
  all_goals first
    | (exfalso; simp_all; done)
    | exact h _ _ _ _ _ _ (fin0 (by assumption) (by assumption)) (fresh_of (by assumption) (News.fresh (by assumption) (.head _))) (News.get (by assumption) (.head _))
end
noncomputable abbrev lob (vs : List Value) (n : Nat) : Obj := { cls := .type "list", data := .seq vs.toArray n }
noncomputable def AllNe (I : Addr) : List (Addr × Obj) → Prop
  | [] => True
  | p :: r => (@Ne Nat p.1 I) ∧ AllNe I r
theorem AllNe.of {I : Addr} : ∀ {l : List (Addr × Obj)}, (∀ p ∈ l, p.1 ≠ I) → AllNe I l
  | [], _ => trivial
  | _ :: _, h => ⟨h _ (.head _), AllNe.of fun p hp => h p (.tail _ hp)⟩
section
variable {prog : Program} {w : World} {A : Around} {E : Value → Shared → Prop} {s : Shared} {env : Env} {h₀ : Heap} {x : Str} {body : List Stmt} {Q : Flow → Shared → Prop}
noncomputable def TurnE {σ : Type} (h₀ : Heap) (L : Addr) (x : Str) (m₀ : Str → Option Value) (Led : σ → List (Addr × Obj)) (P : σ → Prop) (I : Addr) (oI : Obj) (s : Shared) (s₂ : Shared) : Prop :=
  ∃ c' v' h' tk', s₂ = { s with heap := h', toks := tk' } ∧ Fr h₀ L h' (fun z => if z = x then v' else m₀ z) ∧ News h₀ L h' ((I, oI) :: Led c') ∧ P c'
noncomputable def TurnP {σ : Type} (h₀ : Heap) (L : Addr) (x : Str) (m₀ : Str → Option Value) (Led : σ → List (Addr × Obj)) (P : σ → Prop) (I : Addr) (oI : Obj) (s : Shared) (Q : Flow → Shared → Prop) (f : Flow) (s₂ : Shared) : Prop :=
  match f with
  | .ret v => Q (.ret v) s₂
  | .brk => Q .next s₂
  | _ => TurnE h₀ L x m₀ Led P I oI s s₂
theorem TurnE.intro {σ : Type} {L : Addr} {m₀ m' : Str → Option Value} {Led : σ → List (Addr × Obj)} {P : σ → Prop} {I : Addr} {oI : Obj} {h' : Heap} {tk' : Nat} {news : List (Addr × Obj)} (c' : σ) (F : Fr h₀ L h' m') (N : News h₀ L h' news)
    (hm : ∀ z, z ≠ x → m' z = m₀ z) (hn : ∀ p ∈ (I, oI) :: Led c', p ∈ news) (hp : P c') : TurnE h₀ L x m₀ Led P I oI s { s with heap := h', toks := tk' } := by
  refine ⟨c', m' x, h', tk', rfl, ?_, fun p hp => N p (hn p hp), hp⟩
  have e : (fun z => if z = x then m' x else m₀ z) = m' := by
    funext z
    by_cases h : z = x
    · rw [if_pos h, h]
    · rw [if_neg h]; exact (hm z h).symm
  rw [e]; exact F
/-- a for over a list that the frame has made: the ledger Led c turns, P says what holds of it -/
theorem loop_made {σ : Type} {l : Addr} {vs : List Value} {nn : Nat} {m₀ : Str → Option Value} (Led : σ → List (Addr × Obj)) (P : Nat → σ → Prop) (c₀ : σ)
    (hh : A.handled = none) (hadr : ∀ c, (Led c).map (·.1) = (Led c₀).map (·.1)) (hl : ∀ c, (l, lob vs nn) ∈ Led c) (F : Fr h₀ env.locals s.heap m₀) (N : News h₀ env.locals s.heap (Led c₀)) (hp : P 0 c₀)
    (turn : ∀ c i v I oI h tk, vs[i]? = some v → P i c → AllNe I (Led c) → Fr h₀ env.locals h (fun z => if z = x then some v else m₀ z) → News h₀ env.locals h ((I, oI) :: Led c) →
      wpAny (model prog w) A (execs body env) (TurnP h₀ env.locals x m₀ Led (P (i + 1)) I oI s Q) E { s with heap := h, toks := tk })
    (done : ∀ c u h tk, P vs.length c → Fr h₀ env.locals h (fun z => if z = x then u else m₀ z) → News h₀ env.locals h (Led c) → Q .next { s with heap := h, toks := tk }) :
    wpAny (model prog w) A (pyIter (.ref l)) (fun it s₂ => LoopAtV prog w A h₀ env x body Q E it s₂) E s := by
  have hls : s.heap.IsList l vs.toArray := ⟨_, (N _ (hl c₀)).1, rfl, _, rfl⟩
  have hlt : l < s.heap.objs.size := Heap.lt_size (N _ (hl c₀)).1
  have hl0 : h₀.get? l = none := (N _ (hl c₀)).2.2
  have hlL : l ≠ env.locals := (N _ (hl c₀)).2.1
  refine wpAny_pyIter_list hls ?_
  have W := Walks.list (prog := prog) (w := w) hh s.heap.objs.size l (Nat.ne_of_lt hlt) vs.toArray
  have hlen : vs.toArray.size = vs.length := by simp
  rw [hlen] at W
  have hI0 : h₀.get? s.heap.objs.size = none := next_is_new F
  let J' : Nat → (Str → Option Value) → List (Addr × Obj) → Prop := fun i m₁ news₁ => ∃ c v', news₁ = Led c ∧ P i c ∧ m₁ = fun z => if z = x then v' else m₀ z
  refine ⟨_, _, _, vs.length, _, _, m₀, Led c₀, J', rfl, W, ?_, ?_, ?_, ⟨⟨_, Heap.get?_push_size _ rfl, rfl, rfl⟩, hls.at fun o e => Heap.get?_push_of_some _ e⟩, F.push _, (fun p hp => ⟨Heap.get?_push_of_some _ (N p hp).1, (N p hp).2⟩), ⟨c₀, m₀ x, rfl, hp, ?_⟩, ?_, ?_⟩
  · intro hm
    rcases List.mem_cons.mp hm with e | hm
    · exact absurd F.ns.lt (e ▸ Nat.lt_irrefl _)
    · exact hlL (List.mem_singleton.mp hm).symm
  · intro b hb
    rw [List.mem_singleton.mp hb]
    exact hI0
  · intro p hp hI
    exact absurd (Heap.lt_size (N p hp).1) ((List.mem_singleton.mp hI) ▸ Nat.lt_irrefl _)
  · funext z
    by_cases h : z = x
    · rw [if_pos h, h]
    · rw [if_neg h]
  · rintro i v m₁ news₁ s₁ own ⟨hh', tk', rfl⟩ hin hP ⟨c, v', rfl, hPc, rfl⟩ hoff hown howng hall hst F₁ N₁
    obtain ⟨⟨oI, hoI, _⟩, _⟩ := hst
    have hIo : (s.heap.objs.size, oI) ∈ own := hall _ (.head _) hI0 _ hoI
    have hP' : vs[i]? = some v := by simpa using hP
    have e : (fun y => if y = x then some v else (fun z => if z = x then v' else m₀ z) y) = fun z => if z = x then some v else m₀ z := by
      funext z
      by_cases h : z = x
      · rw [if_pos h, if_pos h]
      · rw [if_neg h, if_neg h]; exact if_neg h
    rw [e] at F₁
    have N₂ : News h₀ env.locals hh' ((s.heap.objs.size, oI) :: Led c) := fun p hp => by
      rcases List.mem_cons.mp hp with rfl | hp
      · exact N₁ _ (List.mem_append_left _ hIo)
      · exact N₁ _ (List.mem_append_right _ hp)
    refine wpAny_mono (turn c i v s.heap.objs.size oI hh' tk' hP' hPc (AllNe.of fun p hp h => hoff p hp (by rw [h]; exact .head _)) F₁ N₂) (fun f s₂ p => ?_) fun _ _ e => e
    have fin : TurnE h₀ env.locals x m₀ Led (P (i + 1)) s.heap.objs.size oI s s₂ → LoopStepU h₀ env.locals [s.heap.objs.size] own (J' (i + 1)) { s with heap := hh', toks := tk' } .next s₂ := by
      rintro ⟨c', v₂, h', tk, e, F', N', hp'⟩
      refine ⟨rfl, h', tk, _, Led c', e, F', fun p hp => ?_, fun p hp hI => ?_, c', v₂, rfl, hp', rfl⟩
      · rcases List.mem_append.mp hp with hp | hp
        · rcases List.mem_cons.mp (hown p hp) with h1 | h1
          · have : p = (s.heap.objs.size, oI) := by
              have h2 := howng p hp
              rw [h1] at h2
              exact Prod.ext h1 (Option.some.inj (h2.symm.trans hoI))
            rw [this]; exact N' _ (.head _)
          · have h1 := List.mem_singleton.mp h1
            have : p = (l, lob vs nn) := by
              have h2 := howng p hp
              rw [h1] at h2
              exact Prod.ext h1 (Option.some.inj (h2.symm.trans (N₁ _ (List.mem_append_right _ (hl c))).1))
            rw [this]; exact N' _ (.tail _ (hl c'))
        · exact N' _ (.tail _ hp)
      · have h1 : p.1 ∈ (Led c).map (·.1) := by rw [hadr c, ← hadr c']; exact List.mem_map_of_mem hp
        obtain ⟨q, hq, hq'⟩ := List.mem_map.mp h1
        exact hoff q hq (by rw [hq']; exact hI)
    cases f with
    | ret v => exact .ret p
    | brk => exact .brk p
    | next => exact .next (fin p)
    | cont => exact .cont (fin p)
  · rintro h' tk m' news' F' N' _ ⟨c, v', rfl, hPc, rfl⟩
    exact done c v' h' tk hPc F' N'
end
theorem rows7 : True := by
  k_with "my mem" => (repeat' (first | exact List.forall_mem_nil _ | (refine List.forall_mem_cons.mpr ⟨?_, ?_⟩) | k_mem))
  trivial
theorem strs_vals : ∀ {vs : List Value} {ys : List Str}, StrsAre vs ys → ∃ l : List (Str × Tok), vs = strValues l ∧ l.map (·.1) = ys
  | _, _, .nil => ⟨[], rfl, rfl⟩
  | _, _, .cons y t h => by
    obtain ⟨l, h1, h2⟩ := strs_vals h
    exact ⟨(y, t) :: l, by rw [h1]; rfl, by rw [← h2]; rfl⟩
section
variable {prog : Program} {w : World} {A : Around} {E : Value → Shared → Prop} {s : Shared} {h₀ : Heap} {L : Addr} {m : Str → Option Value} {news news' : List (Addr × Obj)} {D : Addr} {vs : List Value} {n : Nat} {v : Value}
theorem l_append {Q : Value → Shared → Prop} (F : Fr h₀ L s.heap m) (N : News h₀ L s.heap news) (U : Upd D (lob vs n) (lob (vs ++ [v]) (n + 1)) news news') (hsz : vs.length ≤ 1000)
    (h : ∀ h', Fr h₀ L h' m → News h₀ L h' news' → Q .none { s with heap := h' }) : wpAny (model prog w) A (call (.builtin "list.append") [.ref D, v]) Q E s := by
  refine append_K (its := vs.toArray) (n := n) F N ?_ h (by rw [List.size_toArray, sizeLine_eq]; omega)
  have e : vs.toArray.push v = (vs ++ [v]).toArray := by simp
  rw [e]; exact U
theorem l_truthy {Q : Bool → Shared → Prop} (N : News h₀ L s.heap news) (hm : (D, lob vs n) ∈ news) (hsz : vs.length ≤ 1000) (h : Q (!vs.isEmpty) { s with toks := s.toks + 1 + 1 }) : wpAny (model prog w) A (truthy (.ref D)) Q E s := by
  refine wpAny_truthy_list ⟨_, N.get hm, rfl, _, rfl⟩ (by rw [List.size_toArray]; omega) ?_
  have e : (!vs.toArray.isEmpty) = !vs.isEmpty := by simp
  rw [e]; exact h
theorem l_truthy1 {Q : Bool → Shared → Prop} (N : News h₀ L s.heap news) (hm : (D, lob (vs ++ [v]) n) ∈ news) (hsz : (vs ++ [v]).length ≤ 1000) (h : Q true { s with toks := s.toks + 1 + 1 }) : wpAny (model prog w) A (truthy (.ref D)) Q E s := by
  refine l_truthy N hm hsz ?_
  have e : (!(vs ++ [v]).isEmpty) = true := by simp
  rw [e]; exact h
theorem l_last {Q : Value → Shared → Prop} {value slice : Expr} {k : Int} {u : Tok} (N : News h₀ L s.heap news) (hm : (D, lob (vs ++ [v]) n) ∈ news) (hk : k = -1) (h : Q v s)
    (hs : subscripted slice false (.ref D) (.int k u) = operate [.ref D, .int k u] (getItem (.ref D) (.int k u)) := by with_unfolding_all rfl) :
    wpAny (model prog w) A (subscriptTail value slice (.ref D) (.int k u)) Q E s := by
  subst hk
  have hl : s.heap.IsList D (vs ++ [v]).toArray := ⟨_, N.get hm, rfl, _, rfl⟩
  refine tail_any hl.typeIs slot_list_getitem.lookup (wpAny_getItem_list_neg hl (by decide) (by simp; omega) (by decide) ?_ h) hs
  have e : ((-1 : Int) + (((vs ++ [v]).toArray.size : Nat) : Int)).toNat = vs.length := by simp; omega
  rw [e]; simp
theorem l_pop {Q : Value → Shared → Prop} (F : Fr h₀ L s.heap m) (N : News h₀ L s.heap news) (U : Upd D (lob (vs ++ [v]) n) (lob vs (n + 1)) news news') (hsz : (vs ++ [v]).length ≤ 1000)
    (h : ∀ h', Fr h₀ L h' m → News h₀ L h' news' → Q v { s with heap := h' }) : wpAny (model prog w) A (call (.builtin "list.pop") [.ref D]) Q E s := by
  obtain ⟨pre, post, rfl, rfl, a, b⟩ := U.split
  have z := N (D, lob (vs ++ [v]) n) (List.mem_append.mpr (.inr (.head _)))
  have hz : s.heap.get? D = some { cls := .type "list", dict := none, data := .seq (vs ++ [v]).toArray n, slots := #[] } := z.1
  have hlen : (vs ++ [v]).toArray.size - 1 = vs.length := by simp
  refine call_meets PySem.F.slot_list_pop ⟨_, z.1, rfl⟩ PySem.F.entry_list_pop (PySem.F.args_list_pop_1 _) (PySem.MeetsSeq.list_pop_last D (vs ++ [v]).toArray n v (by rw [hlen]; simp) (by rw [List.size_toArray, sizeLine_eq]; omega)) ⟨hz, ?_⟩
  have hs : Heap.SameBut D s.heap (s.heap.update D (Obj.mapSeq fun xs => xs.eraseIdxIfInBounds ((vs ++ [v]).toArray.size - 1))) := Heap.SameBut.update ..
  refine h _ (F.change hs z.2.1 z.2.2) (news_set N a b hs ?_)
  rw [Heap.get?_update_self _ hz rfl]
  have e1 : (vs ++ [v]).toArray.eraseIdxIfInBounds ((vs ++ [v]).toArray.size - 1) = vs.toArray := by
    rw [hlen]
    apply Array.ext'
    simp [Array.eraseIdxIfInBounds]
    rw [List.eraseIdx_append_of_length_le (Nat.le_refl _)]; simp
  show some (Obj.mapSeq _ _) = _
  unfold Obj.mapSeq
  simp only [e1]
  simp
theorem l_join {Q : Value → Shared → Prop} {sep : Str} {t : Tok} {ys : List Str} (N : News h₀ L s.heap news) (hm : (D, lob vs n) ∈ news) (ha : StrsAre vs ys) (hw : (ys.map (·.length)).sum + ys.length ≤ 1048576) (hs : sep.length ≤ 16)
    (h : ∀ t' k, Q (.str (Txt.join sep ys) t') { s with toks := k }) : wpAny (model prog w) A (call (.builtin "str.join") [.str sep t, .ref D]) Q E s := by
  obtain ⟨l, rfl, h2⟩ := strs_vals ha
  exact SC.join ⟨_, N.get hm, rfl, _, rfl⟩ h2 (joinOk_of_weight hw hs) h
end
theorem rows8 : True := by
  k_with "my size" => (first | assumption | omega | ((try simp only [List.length_append, List.length_cons, List.length_nil, List.length_concat]); omega))
  k_with "call builtin:list.append" => ((k_here; (with_reducible show wpAny _ _ (call (Value.builtin _) [Value.ref _, _]) _ _ _); k_dflt (refine' l_append (by k_asm) (by k_asm) (by k_upd) (by walk_at "my size") ?_; k_whole); intro _ _ _; (try k_sweep)))
  k_with "truthy ref" => ((k_here; k_dflt (refine' l_truthy1 (by k_asm) (by k_mem) (by walk_at "my size") ?_; k_whole)))
  k_with "subscriptTail Name UnaryOp ref int" => ((k_here; k_dflt (refine' l_last (by k_asm) (by k_mem) (by rfl) ?_; k_whole)))
  k_with "call builtin:list.pop" => ((k_here; (with_reducible show wpAny _ _ (call (Value.builtin _) [Value.ref _]) _ _ _); k_dflt (refine' l_pop (by k_asm) (by k_asm) (by k_upd) (by walk_at "my size") ?_; k_whole); intro _ _ _; (try k_sweep)))
  k_with "call builtin:str.join" => ((k_here; (with_reducible show wpAny _ _ (call (Value.builtin _) [Value.str _ _, Value.ref _]) _ _ _); k_dflt (refine' l_join (by k_asm) (by k_mem) (by assumption) (by assumption) (by decide +kernel) ?_; k_whole); intro _ _))
  k_with "my steps" => (repeat' (first | (k_unfold; (try dsimp only)) | walk1 | (dsimp only; walk1) | fail "no step"))
  trivial
noncomputable def isN (y : Str) : Prop := y = Str.ofString "ab" ∨ y = Str.ofString "a b" ∨ y = Str.ofString "c\"d"
noncomputable def isW (y : Str) : Prop := isN y ∨ y = Str.ofString ".." ∨ y = Str.ofString "."
noncomputable def nstep (acc : List Str) (c : Str) : List Str := if c = Str.ofString ".." then acc.dropLast else if c = Str.ofString "." then acc else acc ++ [c]
theorem nstep_name {acc : List Str} {y : Str} (h : isN y) : nstep acc y = acc ++ [y] := by
  unfold nstep
  rcases h with rfl | rfl | rfl
  · rw [if_neg (by decide +kernel), if_neg (by decide +kernel)]
  · rw [if_neg (by decide +kernel), if_neg (by decide +kernel)]
  · rw [if_neg (by decide +kernel), if_neg (by decide +kernel)]
theorem nstep_dd {acc : List Str} : nstep acc (Str.ofString "..") = acc.dropLast := by unfold nstep; rw [if_pos rfl]
theorem nstep_d {acc : List Str} : nstep acc (Str.ofString ".") = acc := by unfold nstep; rw [if_neg (by decide +kernel), if_pos rfl]
theorem isN_len {y : Str} (h : isN y) : y.length ≤ 3 := by rcases h with rfl | rfl | rfl <;> decide +kernel
theorem isN_pos {y : Str} (h : isN y) : 0 < y.length := by rcases h with rfl | rfl | rfl <;> decide +kernel
theorem nstep_all {acc : List Str} {y : Str} (ha : ∀ z ∈ acc, isN z) (h : isW y) : ∀ z ∈ nstep acc y, isN z := by
  rcases h with h | rfl | rfl
  · rw [nstep_name h]
    intro z hz
    rcases List.mem_append.mp hz with hz | hz
    · exact ha z hz
    · rw [List.mem_singleton.mp hz]; exact h
  · rw [nstep_dd]; exact fun z hz => ha z (List.dropLast_subset _ hz)
  · rw [nstep_d]; exact ha
theorem nstep_len {acc : List Str} {y : Str} (h : isW y) : (nstep acc y).length ≤ acc.length + 1 := by
  rcases h with h | rfl | rfl
  · rw [nstep_name h]; simp
  · rw [nstep_dd]; simp; omega
  · rw [nstep_d]; omega
theorem strs_snoc : ∀ {vs : List Value} {v : Value} {ys : List Str}, StrsAre (vs ++ [v]) ys → ∃ y t ys', v = .str y t ∧ ys = ys' ++ [y] ∧ StrsAre vs ys'
  | [], _, _, .cons y t .nil => ⟨y, t, [], rfl, rfl, .nil⟩
  | _ :: vs, v, _, .cons y t h => by
    obtain ⟨y', t', ys', h1, h2, h3⟩ := strs_snoc (vs := vs) h
    exact ⟨y', t', y :: ys', h1, by rw [h2]; rfl, .cons y t h3⟩
theorem names_weight : ∀ {ys : List Str}, (∀ y ∈ ys, isN y) → (ys.map (·.length)).sum ≤ 3 * ys.length
  | [], _ => Nat.le_refl _
  | y :: ys, h => by
    have h1 := isN_len (h y (.head _))
    have h2 := names_weight (ys := ys) fun z hz => h z (.tail _ hz)
    simp only [List.map_cons, List.sum_cons, List.length_cons]
    omega
theorem join_len (ys : List Str) (h : ∀ y ∈ ys, isN y) (hl : ys.length ≤ 100) : (Txt.join (Str.ofString "/") ys).length ≤ 400 := by
  have h1 := StrLaws.join_length_le (Str.ofString "/") ys
  have h2 := names_weight h
  have h3 : (Str.ofString "/").length = 1 := by decide +kernel
  rw [h3] at h1
  have h4 : Txt.join (Str.ofString "/") ys = Str.join (Str.ofString "/") ys := StrLaws.glued_eq_join _ _
  rw [h4]
  omega
section
variable {w : World} {p : Program} {loose : List Str} {mean : ExcName → Option Value} {mg mb : Str → Option Value} {dp un : Nat} {fr : Option (List Env)} {gd : Option (List Code)} {h₀ : Heap} {s : Shared} {Q E : Value → Shared → Prop} {L : Addr} {m : Str → Option Value} {news : List (Addr × Obj)}
theorem news_cons {h₀ h : Heap} {L : Addr} {m : Str → Option Value} {news : List (Addr × Obj)} {D : Addr} {o : Obj} (N : News h₀ L h news) (hD : h.get? D = some o) (hL : D ≠ L) (h0 : h₀.get? D = none) : News h₀ L h ((D, o) :: news) := fun q hq => by
  rcases List.mem_cons.mp hq with rfl | hq
  · exact ⟨hD, hL, h0⟩
  · exact N q hq
theorem not_old {h h₀ : Heap} {L D : Addr} {m : Str → Option Value} (F : Fr h₀ L h m) (hD : h.get? D = none) : h₀.get? D = none ∧ D ≠ L := by
  refine ⟨?_, fun e => ?_⟩
  · cases e : h₀.get? D with
    | none => rfl
    | some o => rw [F.keep D o e] at hD; cases hD
  · obtain ⟨oL, es, ep, hL, r⟩ := F.ns
    rw [← e, hD] at hL; cases hL
end
section
variable {w : World} {p : Program} {loose : List Str} {mean : ExcName → Option Value} {mg mb : Str → Option Value} {dp un : Nat} {fr : Option (List Env)} {gd : Option (List Code)} {h₀ : Heap} {s : Shared} {Q E : Value → Shared → Prop} {L : Addr} {m : Str → Option Value} {news : List (Addr × Obj)}
theorem splitroot_u (x : Str) (t : Tok) (F : Fr h₀ L s.heap m) (N : News h₀ L s.heap news) (X : (hd.heap_39 w.params).In h₀) (T : Top p loose mean mg mb h₀)
    (hx : x.length ≤ 1000) (h1 : Txt.slice x none (some 1) = Str.ofString "/") (h2 : Txt.slice x (some 1) (some 2) ≠ Str.ofString "/") (hdp : dp + 8 < recursionLimit) (hun : un + 24 < cLine)
    (h : ∀ D t1 t2 t3 h' tk', Ext [] s.heap h' → Fr h₀ L h' m → News h₀ L h' ((D, { cls := .type "tuple", data := .seq #[.str (Str.ofString "") t1, .str (Str.ofString "/") t2, .str (Txt.slice x (some 1) none) t3] }) :: news) → Q (.ref D) { s with heap := h', toks := tk' }) :
    wpAny (model PW w) (AR dp fr gd un) (call (.ref 122) [.str x t]) Q E s :=
  splitroot_c x t hx h1 h2 X T F.keep hdp hun fun D t1 t2 t3 h' tk' e hN hD => h D t1 t2 t3 h' tk' e (e.fr0 F) (news_cons (m := m) (e.news0 N) hD (not_old F hN).2 (not_old F hN).1)
end
theorem rows9 : True := by
  k_with "call ref" => ((k_here; (with_reducible show wpAny _ _ (call (Value.ref 122) [Value.str _ _]) _ _ _); k_dflt (refine' splitroot_u _ _ (by k_asm) (by k_asm) (by k_asm) (by k_asm) (by assumption) (by assumption) (by assumption) (by ktr_room) (by ktr_units) ?_; k_whole); intro _ _ _ _ _ _ _ _ _; (try k_sweep)))
  trivial
theorem eq_str_no {prog : Program} {w : World} {A : Around} {E : Value → Shared → Prop} {s : Shared} {Q : Value → Shared → Prop} {x y : Str} {t u : Tok} (hk : x ≠ y) (h : Q (.bool false) s) : wpAny (model prog w) A (compareOp .Eq (.str x t) (.str y u)) Q E s :=
  PyProof.Rows.eq_str (by rw [beq_eq_false_iff_ne.mpr hk]; exact h)
theorem ne_str_yes {prog : Program} {w : World} {A : Around} {E : Value → Shared → Prop} {s : Shared} {Q : Value → Shared → Prop} {x y : Str} {t u : Tok} (hk : x ≠ y) (h : Q (.bool true) s) : wpAny (model prog w) A (compareOp .NotEq (.str x t) (.str y u)) Q E s :=
  PyProof.Rows.ne_str (by rw [bne_iff_ne.mpr hk]; exact h)
theorem truthy_yes {prog : Program} {w : World} {A : Around} {E : Value → Shared → Prop} {s : Shared} {Q : Bool → Shared → Prop} {x : Str} {t : Tok} (hk : 0 < x.length ∧ x.length < 100) (h : Q true { s with toks := s.toks + 1 + 1 }) : wpAny (model prog w) A (truthy (.str x t)) Q E s :=
  PySem.P.truthy_str (by have := hk.2; omega) (by rw [show ((x.length : Int) != 0) = true from bne_iff_ne.mpr (by have := hk.1; omega)]; exact h)
theorem isN_ne {x y : Str} (hy : isN y) (h : Str.ofString "ab" ≠ x ∧ Str.ofString "a b" ≠ x ∧ Str.ofString "c\"d" ≠ x) : y ≠ x := by
  rcases hy with rfl | rfl | rfl
  · exact h.1
  · exact h.2.1
  · exact h.2.2
theorem isN_pos2 {y : Str} (hy : isN y) : 0 < y.length ∧ y.length < 100 := by
  rcases hy with rfl | rfl | rfl <;> decide +kernel
theorem rows10 : True := by
  k_with "compareOp Eq str str" => ((k_here; refine eq_str_no (by assumption) ?_))
  k_with "compareOp NotEq str str" => ((k_here; refine ne_str_yes (by assumption) ?_))
  k_with "truthy str" => ((k_here; refine truthy_yes (by assumption) ?_))
  trivial
section
variable {w : World} {p : Program} {loose : List Str} {mean : ExcName → Option Value} {mg mb : Str → Option Value} {dp un : Nat} {fr : Option (List Env)} {gd : Option (List Code)} {h₀ : Heap} {s : Shared} {Q E : Value → Shared → Prop} {L : Addr} {m : Str → Option Value} {news : List (Addr × Obj)}
theorem normpath_c (x : Str) (t : Tok) (ys : List Str) (hx : x.length ≤ 1000) (hn : 0 < x.length) (h1 : Txt.slice x none (some 1) = Str.ofString "/") (h2 : Txt.slice x (some 1) (some 2) ≠ Str.ofString "/")
    (hsp : Txt.split (Txt.slice x (some 1) none) (Str.ofString "/") = ys) (hys : ∀ y ∈ ys, isW y) (hyl : ys.length ≤ 20)
    (X : (hd.heap_39 w.params).In h₀) (T : Top p loose mean mg mb h₀) (keep : ∀ b o, h₀.get? b = some o → s.heap.get? b = some o) (hdp : dp + 12 < recursionLimit) (hun : un + 40 < cLine)
    (h : ∀ t h' tk', Ext [] s.heap h' → Q (.str (Str.ofString "/" ++ Txt.join (Str.ofString "/") (ys.foldl nstep [])) t) { s with heap := h', toks := tk' }) : wpAny (model PW w) (AR dp fr gd un) (call (.ref 129) [.str x t]) Q E s := by
  have P := nopre (s := s) (h₀ := h₀)
  k_dflt (walk_at "my enter")
  walk_at "my steps"
  · rename_i hB tk0 lst hC kk eS sS lenS isS hD lN hE hlt hF F9 N9
    dsimp only at N9 F9 isS ⊢
    generalize hB.objs.size = lc at *
    rw [hsp] at eS
    refine loop_made (σ := List Value × Nat × List Str) (fun c => [(lN, lob c.1 c.2.1), (lc, lob (strValues lst) 0)]) (fun i c => StrsAre c.1 c.2.2 ∧ c.2.2 = (ys.take i).foldl nstep [] ∧ (∀ y ∈ c.2.2, isN y) ∧ c.1.length ≤ i) ([], 0, [])
      rfl (fun _ => rfl) (fun _ => .tail _ (.head _)) F9 (cb_drop N9 (by walk_at "my mem")) ?start ?turn ?done
    case start => exact ⟨.nil, rfl, (fun _ h => nomatch h), Nat.le_refl _⟩
    case turn =>
      rintro ⟨vs, n, acc⟩ i v I oI hh tkk hv ⟨hsa, hacc, hnm, hle⟩ hne F N
      dsimp only at hsa hacc hnm hle F N hne
      simp only [AllNe, and_true] at hne
      obtain ⟨y, ty, rfl, hy⟩ : ∃ y t, v = .str y t ∧ ys[i]? = some y := eS ▸ sS.item i v hv
      have hi : i < ys.length := (List.getElem?_eq_some_iff.mp hy).1
      have hsz : vs.length ≤ 1000 := by omega
      have hyW := hys y (List.mem_of_getElem? hy)
      have hstep : nstep acc y = (ys.take (i + 1)).foldl nstep [] := by rw [List.take_add_one, hy, hacc]; simp
      have hnm' := nstep_all hnm hyW
      rcases hyW with hyN | rfl | rfl
      · rw [nstep_name hyN] at hstep hnm'
        have hn1 : y ≠ Str.ofString ".." := isN_ne hyN (by decide +kernel)
        have hn2 : y ≠ Str.ofString "." := isN_ne hyN (by decide +kernel)
        have hn3 := isN_pos2 hyN
        walk_at "my steps"
        exact TurnE.intro (vs ++ [Value.str _ ty], n + 1, acc ++ [_]) (by assumption) (by assumption) (fun z hz => if_neg hz) (by walk_at "my mem") ⟨hsa.append' (.cons _ _ .nil), hstep, hnm', by simp; omega⟩
      · rw [nstep_dd] at hstep hnm'
        rcases List.eq_nil_or_concat vs with rfl | ⟨vs, v, rfl⟩
        · cases hsa
          walk_at "my steps"
          exact TurnE.intro ([], n, []) (by assumption) (by assumption) (fun z hz => if_neg hz) (by walk_at "my mem") ⟨.nil, hstep, hnm', Nat.zero_le _⟩
        · rw [List.concat_eq_append] at *
          obtain ⟨y, t2, acc', rfl, rfl, hsa'⟩ := strs_snoc hsa
          rw [List.dropLast_concat] at hstep hnm'
          have hle' : vs.length ≤ i + 1 := by simp at hle; omega
          have hn4 : y ≠ Str.ofString ".." := isN_ne (hnm y (by simp)) (by decide +kernel)
          walk_at "my steps"
          exact TurnE.intro (vs, n + 1, acc') (by assumption) (by assumption) (fun z hz => if_neg hz) (by walk_at "my mem") ⟨hsa', hstep, hnm', hle'⟩
      · rw [nstep_d] at hstep hnm'
        walk_at "my steps"
        dsimp only
        exact TurnE.intro (vs, n, acc) (by assumption) (by assumption) (fun z hz => if_neg hz) (by walk_at "my mem") ⟨hsa, hstep, hnm', Nat.le_succ_of_le hle⟩
    case done =>
      rintro ⟨vs, n, acc⟩ u hh tkk ⟨hsa, hacc, hnm, hle⟩ F N
      dsimp only at hsa hacc hnm hle F N
      have hl2 : (strValues lst).length = ys.length := by rw [sS.len_eq, eS]
      rw [hl2, List.take_length] at hacc
      have hal : acc.length ≤ 100 := by rw [← hsa.len_eq]; omega
      have hnw := names_weight hnm
      have hw : (acc.map (·.length)).sum + acc.length ≤ 1048576 := by omega
      have hj := join_len acc hnm hal
      rw [← hacc] at h
      walk_at "my steps"
      dsimp only
      exact h _ _ _ (fin0 (by assumption) (by assumption))
  · exfalso; omega
end
section
variable {prog : Program} {w : World} {A : Around} {s : Shared} {h₀ : Heap} {pre : List (Addr × Obj)} {K : Frag}
  {E : Value → Shared → Prop} {Q : Value → Shared → Prop} {name qual : Str} {params : Arguments} {body : List Stmt} {scope : Scope} {dV kV doc pm cdv ct oc : Value} {an od : Option Addr} {osl : Array (Option Value)} {f : Addr} {args : List Value} {binds : List (Str × Value)}
  {p : Program} {loose : List Str} {mean : ExcName → Option Value} {mg mb : Str → Option Value}
/-- a def is entered: with cells -/
theorem enterC (X : K.In h₀) (T : Top p loose mean mg mb h₀) (keep : ∀ b o, h₀.get? b = some o → s.heap.get? b = some o) (hpre : ∀ q ∈ pre, s.heap.get? q.1 = some q.2 ∧ h₀.get? q.1 = none)
    (ho : K.lookup f = some ⟨oc, od, .func (fnOf name qual params body scope dV kV doc pm an cdv ct), osl⟩) (hcd : codeIn K cdv qual = true) (hroom : A.depth < recursionLimit)
    (hbind : BindsTo s (fnOf name qual params body scope dV kV doc pm an cdv ct) ⟨args, []⟩ binds) (hkind : (binds.all fun y => scope.names.lookup y.1 == some .local || scope.names.lookup y.1 == some .cell) = true)
    (hnd : ((cellsFrom 0 scope.names []).map (·.1)).Nodup)
    (h : ∀ g L' h₁ tk cells, Ext (pre.map (·.1)) s.heap g → (∀ b ∈ pre.map (·.1), g.get? b = none) → Fr g L' h₁ (bindL (envOfC qual scope L' f cdv).kindOf binds fun _ => none) → News g L' h₁ (cells ++ pre) →
      CellsAre (bindC (envOfC qual scope L' f cdv).kindOf binds fun _ => none) (cellsFrom (L' + 1) scope.names []) cells → K.In g → Top p loose mean mg mb g → (∀ q ∈ pre, q.1 < L') →
      wpAny (model prog w) (A.deeper (envOfC qual scope L' f cdv)) (execs body (envOfC qual scope L' f cdv)) (fun fl s' => Q (match fl with | .ret v => v | _ => .none) s') (fun _ _ => False) { s with heap := h₁, toks := tk })
    (hco : scope.isCoroutine = false) (hgen : scope.isGenerator = false) (hk : scope.kind = .function) : wpAny (model prog w) A (call (.ref f) args) Q E s := by
  have X' := X.keeps keep
  have nm : ∀ b o, h₀.get? b = some o → b ∉ pre.map (·.1) := fun b o e q => by
    obtain ⟨x, hx, rfl⟩ := List.mem_map.mp q
    rw [(hpre x hx).2] at e; cases e
  have st : ∀ b o, h₀.get? b = some o → (hideAll s.heap (pre.map (·.1))).get? b = some o := fun b o e => hideAll_get _ (keep b o e) (nm b o e)
  refine wpAny_call (codeAny_call_function (fd := fnOf name qual params body scope dV kV doc pm an cdv ct) (body := body) hroom (X' _ _ ho) rfl hco hgen rfl (codeRec_of X' hcd) (hbind _ _ _ _ ?_))
  refine wpAny_newFunctionEnv_cells hk (kindsX hkind _) fun env' he s' x => ?_
  subst he
  refine ⟨(T.nolimit.keeps keep).keeps x.toInCall.keep, codeAny_func ?_⟩
  obtain ⟨h₁, tk, rfl, _⟩ := x.done
  have hk₁ := x.toInCall.keep
  obtain ⟨cells, NC, Y⟩ := Cl.news (h₀ := s.heap) (Nat.le_refl _) fun n c hm => ⟨x.cell n c (lookup_of_mem_nodup (cellsFrom_names scope.names 0 (s.heap.objs.size + 1) [] [] rfl ▸ hnd) hm), x.above n c hm⟩
  refine wpAny_mono (h (hideAll s.heap (pre.map (·.1))) s.heap.objs.size h₁ tk cells (fun b o e n => hideAll_get _ e n) (fun b hb => hideAll_none _ hb) ⟨x.toInCall.ns, fun b o e => hk₁ b o (of_hideAll _ e), Nat.le_of_eq (hideAll_size _ _)⟩ (fun q hq => ?_) Y (X.keeps st) (T.keeps st) (fun q hq => Heap.lt_size (hpre q hq).1)) (fun fl s' hl => hl) fun _ _ y => y.elim
  rcases List.mem_append.mp hq with hq | hq
  · refine ⟨(NC q hq).1, (NC q hq).2.1, ?_⟩
    cases e : (hideAll s.heap (pre.map (·.1))).get? q.1 with
    | none => rfl
    | some o => have := of_hideAll _ e; rw [(NC q hq).2.2] at this; cases this
  · exact ⟨hk₁ _ _ (hpre q hq).1, Nat.ne_of_lt (Heap.lt_size (hpre q hq).1), hideAll_none _ (List.mem_map_of_mem hq)⟩
end
theorem rows11 : True := by
  k_with "my enterC" => ((refine' enterC (by assumption) (by assumption) (by assumption) (by assumption) (by k_is) (by k_is) (by ktr_room) (by exact BindsTo.of_eq rfl) (by exact rfl) (by decide +kernel) ?_ (by exact rfl) (by exact rfl) (by exact rfl); k_whole; intro _ _ _ _ _ _ _ _ nq1 yq1 _ _ lq1; (try k_lt lq1); k_cells yq1; (try simp only [List.cons_append, List.nil_append] at nq1); (try dsimp only)))
  trivial
theorem slot_map_next : Slot "map" "__next__" "map.__next__" :=
  .of (owner := "map") (n := "__next__") (by rw [typeLookup_type, builtinLookup_eq_fast]; kernel_rfl) (by decide +kernel) (by decide +kernel) (by decide +kernel)
    (by first | exact .inl (by decide +kernel) | exact .inr (by decide +kernel)) (by rw [isSubtype_type]; kernel_rfl)
theorem slot_map_iter : Slot "map" "__iter__" "map.__iter__" :=
  .of (owner := "map") (n := "__iter__") (by rw [typeLookup_type, builtinLookup_eq_fast]; kernel_rfl) (by decide +kernel) (by decide +kernel) (by decide +kernel)
    (by first | exact .inl (by decide +kernel) | exact .inr (by decide +kernel)) (by rw [isSubtype_type]; kernel_rfl)
theorem slot_map_init : Slot "map" "__init__" "object.__init__" :=
  .of (owner := "object") (n := "__init__") (by rw [typeLookup_type, builtinLookup_eq_fast]; kernel_rfl) (by decide +kernel) (by decide +kernel) (by decide +kernel)
    (by first | exact .inl (by decide +kernel) | exact .inr (by decide +kernel)) (by rw [isSubtype_type]; kernel_rfl)
theorem entry_map_next : entryFor table "map.__next__" = some Builtin.«map.__next__» := entryFor_of_tree (by kernel_rfl)
theorem entry_map_new : entryFor table "map.__new__" = some Builtin.«map.__new__» := entryFor_of_tree (by kernel_rfl)
theorem entry_map_iter : entryFor table "map.__iter__" = some Builtin.«dict_keyiterator.__iter__» :=
  entryFor_alias (id' := "dict_keyiterator.__iter__") (by kernel_rfl) (by first | rfl | decide +kernel | (unfold String.splitOn; simp +decide [String.splitOnAux])) (by decide +kernel) (by kernel_rfl)
theorem mro_map : mroOf (.type "map") = pure [.type "map", .type "object"] := by rw [mroOf_type]; kernel_rfl
theorem lookup_map_new : typeLookup (.type "map") "__new__" = pure (some (.builtin "map.__new__")) := by rw [typeLookup_type, builtinLookup_eq_fast]; kernel_rfl
theorem called_map : TypeCalled "map" "map.__new__" "object.__init__" :=
  ⟨by decide +kernel, by decide +kernel, ⟨_, _, mro_map⟩, madeBy_type mro_map lookup_map_new (by decide +kernel), by decide +kernel, by rw [isSubtype_type]; kernel_rfl, slot_map_init⟩
theorem typeCall_map_2 (a b : Value) : checkTypeCall "map" ⟨[a, b], []⟩ = pure () := by kernel_rfl
theorem newCall_map_2 (a b : Value) : checkBuiltinCall "map.__new__" ⟨[.type "map", a, b], []⟩ = pure () := by kernel_rfl
theorem sub_map : isSubtype (.type "map") (.type "map") = pure true := by rw [isSubtype_type]; kernel_rfl
theorem owner_map : Manifest.owners.lookup (String.ofList ['p', 'a', 'm'].reverse) = some Manifest.sig_map := by kernel_rfl
theorem args_map_next_1 (a : Value) : argsOk "map.__next__" ⟨[a], []⟩ := by
  unfold argsOk; rw [signature?_of (id := "map.__next__") (n := ['_', '_', 't', 'x', 'e', 'n', '_', '_']) (o := ['p', 'a', 'm']) (by kernel_rfl) owner_map]; kernel_rfl
theorem args_map_iter_1 (a : Value) : argsOk "map.__iter__" ⟨[a], []⟩ := by
  unfold argsOk; rw [signature?_of (id := "map.__iter__") (n := ['_', '_', 'r', 'e', 't', 'i', '_', '_']) (o := ['p', 'a', 'm']) (by kernel_rfl) owner_map]; kernel_rfl
theorem map_no_len : typeLookup (.type "map") "__len__" = pure none := by rw [typeLookup_type, builtinLookup_eq_fast]; kernel_rfl
theorem map_no_hint : typeLookup (.type "map") "__length_hint__" = pure none := by rw [typeLookup_type, builtinLookup_eq_fast]; kernel_rfl

noncomputable abbrev IsMap (h : Heap) (z TI : Addr) (f : Value) : Prop := h.get? z = some { cls := .type "map", dict := none, data := .fields #[.ref TI, f], slots := #[] }
noncomputable abbrev IsOne (h : Heap) (T LI : Addr) : Prop := h.get? T = some { cls := .type "tuple", data := .seq #[.ref LI] }
theorem meets_map_new (f : Value) (l : Addr) (xs : Array Value) :
    Meets (Builtin.«map.__new__» ⟨[.type "map", f, .ref l], []⟩) (fun _ R s => s.heap.IsList l xs ∧
      R (.ok (.ret (.ref ((s.heap.push { cls := .type "list_iterator", data := .fields #[.ref l, .int 0 0] }).push { cls := .type "tuple", data := .seq #[.ref s.heap.objs.size] }).objs.size)))
        { s with heap := ((s.heap.push { cls := .type "list_iterator", data := .fields #[.ref l, .int 0 0] }).push { cls := .type "tuple", data := .seq #[.ref s.heap.objs.size] }).push { cls := .type "map", data := .fields #[.ref (s.heap.push { cls := .type "list_iterator", data := .fields #[.ref l, .int 0 0] }).objs.size, f] } }) :=
  .of_wp fun prog w A R s h => by
    obtain ⟨hp, g, d, tk, os⟩ := s; obtain ⟨hl1, h⟩ := h
    have hsub := sub_map
    have hL1 : Heap.IsList (Shared.heap ⟨hp, g, d, tk, os⟩) l xs := hl1
    wp_walk using wpAny_pyIter_list hL1
    exact ⟨_, rfl, h⟩
section
variable {prog : Program} {w : World} {A : Around} {E : Value → Shared → Prop} {s : Shared}
theorem call_map {f : Value} {l : Addr} {xs : Array Value} {Q : Value → Shared → Prop} (hl : s.heap.IsList l xs)
    (h : ∀ h' LI TI z, IsMap h' z TI f → IsOne h' TI LI → h'.get? LI = some { cls := .type "list_iterator", data := .fields #[.ref l, .int 0 0] } → LI < TI → TI < z → s.heap.objs.size ≤ LI → z < h'.objs.size → (∀ b o, s.heap.get? b = some o → h'.get? b = some o) → Q (.ref z) { s with heap := h' }) :
    wpAny (model prog w) A (call (.type "map") [f, .ref l]) Q E s := by
  refine callType_new called_map (by decide) (typeCall_map_2 _ _) (newCall_map_2 _ _) (fun obj => PySem.F.args_object_init_3 obj _ _) entry_map_new (meets_map_new f l xs) ⟨hl, ?_⟩
  show _ ∧ _
  have z1 : (s.heap.push { cls := .type "list_iterator", data := .fields #[.ref l, .int 0 0] }).objs.size = s.heap.objs.size + 1 := Heap.size_push ..
  have z2 : ((s.heap.push { cls := .type "list_iterator", data := .fields #[.ref l, .int 0 0] }).push { cls := .type "tuple", data := .seq #[.ref s.heap.objs.size] }).objs.size = s.heap.objs.size + 2 := by rw [Heap.size_push, z1]
  have gz : (((s.heap.push { cls := .type "list_iterator", data := .fields #[.ref l, .int 0 0] }).push { cls := .type "tuple", data := .seq #[.ref s.heap.objs.size] }).push { cls := .type "map", data := .fields #[.ref (s.heap.push { cls := .type "list_iterator", data := .fields #[.ref l, .int 0 0] }).objs.size, f] }).get? _ = some _ := Heap.get?_push_size _ rfl
  refine ⟨⟨_, gz, rfl⟩, h _ _ _ _ gz (Heap.get?_push_of_some _ (Heap.get?_push_size _ rfl)) (Heap.get?_push_of_some _ (Heap.get?_push_of_some _ (Heap.get?_push_size _ rfl))) ?_ ?_ (Nat.le_refl _) ?_
    fun b o e => Heap.get?_push_of_some _ (Heap.get?_push_of_some _ (Heap.get?_push_of_some _ e))⟩
  · rw [z1]; exact Nat.lt_succ_self _
  · rw [z1, z2]; exact Nat.lt_succ_self _
  · exact Heap.lt_size gz
theorem wpAny_pyIter_map {z TI : Addr} {f : Value} {Q : Value → Shared → Prop} (hz : IsMap s.heap z TI f) (h : Q (.ref z) s) : wpAny (model prog w) A (pyIter (.ref z)) Q E s := by
  have hT : s.TypeIs (.ref z) "map" := ⟨_, hz, rfl⟩
  refine wpAny_pyIter_slot hT slot_map_iter (wpAny_call_entry slot_map_iter hT entry_map_iter ?_ (args_map_iter_1 _))
  show wpAny _ _ (ret (.ref z)) _ _ s
  exact wpAny_pure ⟨_, rfl, "map", _, hT, slot_map_next.lookup, h⟩
theorem map_next_item {z TI LI l : Addr} {k : Nat} {f x : Value} {xs : Array Value} {Q : Value → Shared → Prop} (hz : IsMap s.heap z TI f) (hTI : IsOne s.heap TI LI) (hit : s.heap.IsListIter LI l k) (hl : s.heap.IsList l xs) (hx : xs[k]? = some x)
    (hzL : z ≠ LI) (hcall : ∀ h', h'.IsListIter LI l (k + 1) → Heap.SameBut LI s.heap h' → wpAny (model prog w) A (call f [x]) Q E { s with heap := h' }) :
    wpAny (model prog w) A (Builtin.«map.__next__» ⟨[.ref z], []⟩) (fun fin s' => ∃ v, fin = .done (.ret v) ∧ Q v s') E s := by
  show wpAny _ _ (field (.ref z) 0 >>= _) _ _ _
  refine wpAny_bind (wpAny_field hz rfl (x := .ref TI) rfl ?_)
  refine wpAny_bind (wpAny_seqItems hTI rfl ?_)
  show wpAny _ _ (forIn (#[Value.ref LI] : Array Value) (#[] : Array Value) _ >>= _) _ _ _
  rw [← Array.forIn_toList]
  simp only [List.forIn_cons, List.forIn_nil]
  refine wpAny_bind (wpAny_bind (wpAny_bind (wpAny_holding ?_)))
  refine wpAny_nextOf_list_item hit hl hx fun h₂ h2 hs₂ => wpAny_pure (wpAny_pure ?_)
  have hz₂ : IsMap h₂ z TI f := hs₂.extBut _ _ hzL hz
  refine wpAny_bind (wpAny_field hz₂ rfl (x := f) rfl ?_)
  refine wpAny_bind (wpAny_holding (wpAny_mono (hcall h₂ h2 hs₂) (fun v s' hq => ?_) fun _ _ e => e))
  exact wpAny_bind (wpAny_letGo (wpAny_pure ⟨_, rfl, hq⟩))
theorem map_next_end {z TI LI l : Addr} {k : Nat} {f : Value} {xs : Array Value} {Q : Fin → Shared → Prop} (hh : A.handled = none) (hz : IsMap s.heap z TI f) (hTI : IsOne s.heap TI LI) (hit : s.heap.IsListIter LI l k) (hl : s.heap.IsList l xs) (hx : xs[k]? = none)
    (hE : ∀ h' e, Heap.ExtBut LI s.heap h' → (∃ o, h'.get? e = some o ∧ o.cls = .type "StopIteration") → E (.ref e) { s with heap := h' }) :
    wpAny (model prog w) A (Builtin.«map.__next__» ⟨[.ref z], []⟩) Q E s := by
  show wpAny _ _ (field (.ref z) 0 >>= _) _ _ _
  refine wpAny_bind (wpAny_field hz rfl (x := .ref TI) rfl ?_)
  refine wpAny_bind (wpAny_seqItems hTI rfl ?_)
  show wpAny _ _ (forIn (#[Value.ref LI] : Array Value) (#[] : Array Value) _ >>= _) _ _ _
  rw [← Array.forIn_toList]
  simp only [List.forIn_cons, List.forIn_nil]
  refine wpAny_bind (wpAny_bind (wpAny_bind (wpAny_holding ?_)))
  exact wpAny_nextOf_list_end hh hit hl hx hE
theorem pyNext_map_item {z TI LI l : Addr} {k : Nat} {f x : Value} {xs : Array Value} {Q : Option Value → Shared → Prop} (hz : IsMap s.heap z TI f) (hTI : IsOne s.heap TI LI) (hit : s.heap.IsListIter LI l k) (hl : s.heap.IsList l xs) (hx : xs[k]? = some x)
    (hzL : z ≠ LI) (hcall : ∀ h', h'.IsListIter LI l (k + 1) → Heap.SameBut LI s.heap h' → wpAny (model prog w) A.in1 (call f [x]) (fun v s' => Q (some v) s') (fun _ _ => False) { s with heap := h' }) :
    wpAny (model prog w) A (pyNext (.ref z)) Q E s := by
  have hT : s.TypeIs (.ref z) "map" := ⟨_, hz, rfl⟩
  unfold pyNext
  exact wpAny_bind (wpAny_attempt (wpAny_callSpecial?_slot (name := Str.ofString "__next__") hT slot_map_next
    (wpAny_call_entry slot_map_next hT entry_map_next (map_next_item hz hTI hit hl hx hzL fun h' a b => wpAny_mono (hcall h' a b) (fun _ _ q => wpAny_pure q) fun _ _ e => e.elim) (args_map_next_1 _))))
theorem pyNext_map_end {z TI LI l : Addr} {k : Nat} {f : Value} {xs : Array Value} {Q : Option Value → Shared → Prop} (hh : A.handled = none) (hz : IsMap s.heap z TI f) (hTI : IsOne s.heap TI LI) (hit : s.heap.IsListIter LI l k) (hl : s.heap.IsList l xs) (hx : xs[k]? = none)
    (hQ : ∀ h', Heap.ExtBut LI s.heap h' → Q none { s with heap := h' }) : wpAny (model prog w) A (pyNext (.ref z)) Q E s := by
  have hT : s.TypeIs (.ref z) "map" := ⟨_, hz, rfl⟩
  unfold pyNext
  refine wpAny_bind (wpAny_attempt (wpAny_callSpecial?_slot (name := Str.ofString "__next__") hT slot_map_next
    (wpAny_call_entry slot_map_next hT entry_map_next (map_next_end hh hz hTI hit hl hx fun h' e hk he => ?_) (args_map_next_1 _))))
  obtain ⟨o, ho, hc⟩ := he
  exact wpAny_bind (wpAny_isInstance (T := "StopIteration") (b := true) ⟨o, ho, hc⟩ isSubtype_stop (wpAny_pure (hQ _ hk)))
end
section
variable {prog : Program} {w : World} {A : Around} {E : Value → Shared → Prop} {s : Shared} {I : Addr} {fp wr : List Addr} {G : Array GenState → Array GenState → Prop} {n : Nat} {P : Nat → Value → Prop} {St : Nat → Shared → Prop}
/-- what list and tuple take from a map object -/
theorem collect_map {Q : List Value → Shared → Prop} (W : WalksS prog w A.in1 I fp wr G n P St) (hT : ∀ i s, St i s → s.TypeIs (.ref I) "map") (hst : St 0 s) (hfp : ∀ b ∈ fp, b < s.heap.objs.size) (hI : I ∈ fp)
    (hQ : ∀ s' acc, Moved wr G s s' → ItemsOf P acc n → Q acc.toList s') (hn : n ≤ sizeLine) : wpAny (model prog w) A (collect (.ref I)) Q E s := by
  have hSf : s.heap.objs.size ∉ fp := fun hm => Nat.lt_irrefl _ (hfp _ hm)
  have hSI : s.heap.objs.size ≠ I := fun e => hSf (e ▸ hI)
  let o₀ : Obj := { cls := .type "list", data := .seq ([] : List Value).toArray }
  have hst₁ := W.frame 0 s (s.heap.push o₀) s.toks hst (Nat.le_refl _) fun b _ o e => Heap.get?_push_of_some _ e
  have hS₁ : (s.heap.push o₀).get? s.heap.objs.size = some o₀ := Heap.get?_push_size _ rfl
  have hS₂ := Heap.get?_update_self (Obj.mapSeq (·.push Value.none)) hS₁ rfl
  have hS₃ := Heap.get?_update_self (Obj.mapSeq (·.pop)) hS₂ rfl
  have oth : ∀ b o, b ≠ s.heap.objs.size → (s.heap.push o₀).get? b = some o → (((s.heap.push o₀).update s.heap.objs.size (Obj.mapSeq (·.push Value.none))).update s.heap.objs.size (Obj.mapSeq (·.pop))).get? b = some o :=
    fun b o hb e => (Heap.get?_update_other _ _ (Ne.symm hb)).trans ((Heap.get?_update_other _ _ (Ne.symm hb)).trans e)
  unfold collect
  refine wpAny_bind (wpAny_runValue (codeAny_builtin PySem.F.entry_proto_collect ?_))
  rw [Around.under_plainId PySem.F.plain_proto_collect _]
  show wpAny _ A.in1 (newList [] >>= fun l => again (.builtin "list.__iadd__" ⟨[l, .ref I], []⟩)) _ _ s
  refine wpAny_bind (wpAny_newObj_type (wpAny_pure ⟨plainId_quiet PySem.F.plain_list_iadd _, codeAny_builtin PySem.F.entry_list_iadd ?_⟩))
  rw [Around.under_plainId PySem.F.plain_list_iadd _]
  show wpAny _ A.in1 (Builtin.List.listExtendWith (.ref s.heap.objs.size) (.ref I) (.ref s.heap.objs.size)) _ _ _
  unfold Builtin.List.listExtendWith
  refine wpAny_bind (wpAny_typeOf (hT 0 _ hst₁) ?_)
  have h1 : Builtin.List.listSameRef (.ref s.heap.objs.size) (.ref I) = false := by simp [Builtin.List.listSameRef, hSI]
  rw [if_neg (by rw [h1]; decide)]
  refine wpAny_bind (W.self 0 _ _ _ hst₁ ?_)
  refine wpAny_bind (wpAny_holding ?_)
  unfold Builtin.List.listLengthHint
  refine wpAny_bind (wpAny_specialOf (hT 0 _ hst₁) map_no_len ?_)
  show wpAny _ A.in1 (specialOf (Value.ref I) (Str.ofString "__length_hint__") >>= _) _ _ _
  refine wpAny_bind (wpAny_specialOf (hT 0 _ hst₁) map_no_hint (wpAny_pure ?_))
  show wpAny _ A.in1 (rule "list.extend.makes-room" >>= fun _ => Builtin.List.listTouch (.ref s.heap.objs.size) >>= fun _ => again (.builtin "list.extend.loop" ⟨[.ref s.heap.objs.size, .ref I, .ref s.heap.objs.size], []⟩)) _ _ _
  refine wpAny_bind (wpAny_rule (wpAny_bind ?_))
  show wpAny _ A.in1 (updateSeq s.heap.objs.size (·.push .none) >>= fun _ => updateSeq s.heap.objs.size (·.pop)) _ _ _
  refine wpAny_bind (wpAny_updateSeq hS₁ rfl (wpAny_updateSeq hS₂ rfl ?_))
  refine wpAny_pure ⟨plainId_quiet PySem.F.plain_extend_loop _, codeAny_extend_loopS W hn _ hSf _ n 0 _ _ _ rfl (Nat.zero_le _)
    (W.frame 0 ({ s with heap := s.heap.push o₀ } : Shared) _ s.toks hst₁ (Nat.le_refl _) fun b hb o e => oth b o (fun h => hSf (h ▸ hb)) e) hS₃ (ItemsOf.nil P) fun s' acc' c' hm hS' hacc => ?_⟩
  show wpAny _ A (load s.heap.objs.size >>= _) _ _ s'
  refine wpAny_bind (wpAny_load hS' (wpAny_pure (hQ s' acc' ?_ hacc)))
  exact Moved.drop_new (o := o₀) (tk := s.toks) (Moved.trans W.gtrans ((Moved.refl W.grefl).then_heap (Nat.le_refl _) fun b o hb e => oth b o (fun h => hb (h ▸ List.mem_cons_self)) e) hm) (Nat.le_refl _)
theorem tuple_new_map {Q₁ : Value → Shared → Prop} (W : WalksS prog w A.in1.in1 I fp wr G n P St) (hT : ∀ i s, St i s → s.TypeIs (.ref I) "map") (hst : St 0 s) (hfp : ∀ b ∈ fp, b < s.heap.objs.size) (hI : I ∈ fp)
    (h : ∀ s' acc, Moved wr G s s' → ItemsOf P acc n → Q₁ (.ref s'.heap.objs.size) { s' with heap := s'.heap.push { cls := .type "tuple", data := .seq acc } }) (hsz : n ≤ sizeLine) :
    codeAny (model prog w) A (.call (.builtin "tuple.__new__") ⟨[.type "tuple", .ref I], []⟩) (wants Q₁ E) s := by
  refine codeAny_of_tree ?_
  show wpAny _ A.in1 (do checkBuiltinCall "tuple.__new__" ⟨[.type "tuple", .ref I], []⟩; again (.builtin "tuple.__new__" ⟨[.type "tuple", .ref I], []⟩)) _ _ s
  refine wpAny_bind (wpAny_of_eq (PySem.F.newCall_tuple_1 _) (wpAny_pure ⟨plainId_quiet PySem.F.plain_tuple_new _, codeAny_builtin PySem.F.entry_tuple_new ?_⟩))
  rw [Around.under_plainId PySem.F.plain_tuple_new _]
  have hsub := sub_tuple_self
  have hinit := init_tuple_lookup
  have hmh := madeHere_tuple
  have hTI := hT 0 s hst
  wp_walk using wpAny_typeOf hTI, collect_map (hn := hsz) W hT hst hfp hI
  intro s' acc hm hacc
  show wpAny _ _ (Builtin.Tuple.tupleExact acc.toList.toArray >>= fun v => ret v) _ _ _
  unfold Builtin.Tuple.tupleExact
  have e : acc.toList.toArray = acc := by simp
  refine wpAny_bind (wpAny_newObj_type (wpAny_pure ?_) (by show acc.toList.toArray.size ≤ sizeLine; rw [e, hacc.1]; exact hsz))
  rw [e]
  exact h s' acc hm hacc
theorem tuple_map {Q : Value → Shared → Prop} (W : WalksS prog w A.in1.in1.in1 I fp wr G n P St) (hT : ∀ i s, St i s → s.TypeIs (.ref I) "map") (hst : St 0 s) (hfp : ∀ b ∈ fp, b < s.heap.objs.size) (hI : I ∈ fp)
    (hQ : ∀ s' acc, Moved wr G s s' → ItemsOf P acc n → Q (.ref s'.heap.objs.size) { s' with heap := s'.heap.push { cls := .type "tuple", data := .seq acc } }) (hsz : n ≤ sizeLine) :
    wpAny (model prog w) A (call (.type "tuple") [.ref I]) Q E s := by
  refine callType_codes (Q₁ := fun obj s₁ => s₁.TypeIs obj "tuple" ∧ Q obj s₁) PySem.F.called_tuple (PySem.F.typeCall_tuple_1 _) PySem.F.entry_object_init
    (tuple_new_map (hsz := hsz) W hT hst hfp hI fun s' acc hm hacc => ⟨⟨_, Heap.get?_push_size _ rfl, rfl⟩, hQ s' acc hm hacc⟩) fun obj s₁ h₁ => ?_
  exact ⟨h₁.1, PySem.F.args_object_init_2 obj _, object_init_meets PySem.F.called_tuple.init.lookup PySem.F.called_tuple.made (by decide) prog w A.in1 _ s₁ ⟨h₁.1, rfl, h₁.2⟩⟩
end
section
variable {w : World} {p : Program} {loose : List Str} {mean : ExcName → Option Value} {mg mb : Str → Option Value} {dp un : Nat} {fr : Option (List Env)} {gd : Option (List Code)} {h₀ : Heap} {s : Shared} {Q E : Value → Shared → Prop} {L : Addr} {m : Str → Option Value} {news : List (Addr × Obj)}
theorem walks_map {I TI LI l : Addr} {vs : List Value} {xs : List Str} (hsa : StrsAre vs xs) (X : (hd.heap_39 w.params).In h₀) (T : Top p loose mean mg mb h₀) (hdp : dp + 3 < recursionLimit) (hun : un + 16 < cLine)
    (n1 : l ≠ LI) (n2 : I ≠ LI) (n3 : TI ≠ LI) (hLI : h₀.get? LI = none) :
    Walks PW w (AR dp fr gd un) I (I :: TI :: LI :: l :: List.range h₀.objs.size) [LI] vs.length (fun i v => vs[i]? = some v)
      (fun i h => (∀ b o, h₀.get? b = some o → h.get? b = some o) ∧ IsMap h I TI (.ref 94) ∧ IsOne h TI LI ∧ h.IsListIter LI l i ∧ h.IsList l vs.toArray) where
  sub := fun b hb => by rw [List.mem_singleton.mp hb]; exact .tail _ (.tail _ (.head _))
  frame := fun i h h' ⟨a, b, c, d, e⟩ hk => ⟨fun x o q => hk x (.tail _ (.tail _ (.tail _ (.tail _ (List.mem_range.mpr (Heap.lt_size q)))))) o (a x o q), hk _ (.head _) _ b, hk _ (.tail _ (.head _)) _ c,
    d.at fun o q => hk _ (.tail _ (.tail _ (.head _))) o q, e.at fun o q => hk _ (.tail _ (.tail _ (.tail _ (.head _)))) o q⟩
  item := fun i s Q E hi ⟨a, b, c, d, e⟩ hQ => by
    obtain ⟨v, hv⟩ : ∃ v, vs[i]? = some v := ⟨vs[i], by simp [hi]⟩
    obtain ⟨x, t, rfl, _⟩ := hsa.item i v hv
    refine pyNext_map_item b c d e (x := .str x t) (by simpa using hv) n2 fun h' d' hs => ?_
    have keep : ∀ q o, h₀.get? q = some o → h'.get? q = some o := fun q o z => hs.extBut q o (fun y => by have y' : q = LI := y; rw [y', hLI] at z; cases z) (a q o z)
    refine fspath_c (dp := dp) (un := un + 1) x t X T keep hdp (by omega) fun h'' tk ext => ?_
    have up : ∀ q o, h'.get? q = some o → h''.get? q = some o := fun q o z => ext q o z (fun h => nomatch h)
    exact hQ _ h'' tk hv ⟨fun q o z => up q o (keep q o z), up _ _ (hs.extBut _ _ n2 b), up _ _ (hs.extBut _ _ n3 c), d'.at fun o z => up _ o z, (e.extBut hs.extBut n1).at fun o z => up _ o z⟩
      fun q o hq z => up q o (hs.extBut q o (fun h => hq (by rw [h]; exact .head _)) z)
  done := fun s Q E ⟨a, b, c, d, e⟩ hQ => pyNext_map_end rfl b c d e (by simp) fun h' hk => hQ h' s.toks fun q o hq z => hk q o (fun h => hq (by rw [h]; exact .head _)) z
  self := fun i s Q E ⟨a, b, c, d, e⟩ hQ => wpAny_pyIter_map b hQ
noncomputable abbrev mapOb (TI : Addr) (f : Value) : Obj := { cls := .type "map", dict := none, data := .fields #[.ref TI, f], slots := #[] }
noncomputable abbrev oneOb (LI : Addr) : Obj := { cls := .type "tuple", data := .seq #[.ref LI] }
noncomputable abbrev litOb (l : Addr) : Obj := { cls := .type "list_iterator", data := .fields #[.ref l, .int 0 0] }
theorem new_at (F : Fr h₀ L s.heap m) {b : Addr} (hb : s.heap.objs.size ≤ b) : b ≠ L ∧ h₀.get? b = none := by
  refine ⟨Nat.ne_of_gt (Nat.lt_of_lt_of_le F.ns.lt hb), ?_⟩
  cases e : h₀.get? b with
  | none => rfl
  | some o => exact absurd (Heap.lt_size e) (Nat.not_lt.mpr (Nat.le_trans (Nat.le_trans F.above (Nat.le_of_lt F.ns.lt)) hb))
theorem call_map_N {f : Value} {l : Addr} {xs : Array Value} (hl : s.heap.IsList l xs) (F : Fr h₀ L s.heap m) (N : News h₀ L s.heap news)
    (h : ∀ LI TI z h', Fr h₀ L h' m → News h₀ L h' ((z, mapOb TI f) :: (TI, oneOb LI) :: (LI, litOb l) :: news) → LI < TI → TI < z → (∀ q ∈ news, q.1 < LI) → l < LI → Q (.ref z) { s with heap := h' }) :
    wpAny (model PW w) (AR dp fr gd un) (call (.type "map") [f, .ref l]) Q E s := by
  refine call_map hl fun h₁ LI TI z hz hT hit b1 b2 b3 b4 up => ?_
  have ll : l < s.heap.objs.size := let ⟨o, e, _⟩ := hl; Heap.lt_size e
  have c1 := new_at F b3
  have c2 := new_at F (Nat.le_trans b3 (Nat.le_of_lt b1))
  have c3 := new_at F (Nat.le_trans (Nat.le_trans b3 (Nat.le_of_lt b1)) (Nat.le_of_lt b2))
  refine h LI TI z h₁ (F.keeps up) (fun q hq => ?_) b1 b2 (fun q hq => Nat.lt_of_lt_of_le (Heap.lt_size (N q hq).1) b3) (Nat.lt_of_lt_of_le ll b3)
  rcases List.mem_cons.mp hq with rfl | hq
  · exact ⟨hz, c3⟩
  rcases List.mem_cons.mp hq with rfl | hq
  · exact ⟨hT, c2⟩
  rcases List.mem_cons.mp hq with rfl | hq
  · exact ⟨hit, c1⟩
  · exact ⟨up _ _ (N q hq).1, (N q hq).2⟩
/-- tuple(map(fspath, xs)) of a list of texts: the map is taken -/
theorem tuple_map_N {l LI TI z : Addr} {vs : List Value} {xs : List Str} (hsa : StrsAre vs xs) (hl : s.heap.IsList l vs.toArray) (hle : vs.length ≤ 1000) (X : (hd.heap_39 w.params).In h₀) (T : Top p loose mean mg mb h₀)
    (F : Fr h₀ L s.heap m) (N : News h₀ L s.heap ((z, mapOb TI (.ref 94)) :: (TI, oneOb LI) :: (LI, litOb l) :: news)) (b1 : LI < TI) (b2 : TI < z) (b3 : ∀ q ∈ news, q.1 < LI) (b5 : l < LI) (hdp : dp + 3 < recursionLimit) (hun : un + 20 < cLine)
    (h : ∀ D h' tk', Fr h₀ L h' m → News h₀ L h' ((D, { cls := .type "tuple", data := .seq vs.toArray }) :: news) → (∀ q ∈ news, q.1 < D) → Q (.ref D) { s with heap := h', toks := tk' }) :
    wpAny (model PW w) (AR dp fr gd un) (call (.type "tuple") [.ref z]) Q E s := by
  obtain ⟨hz, b4', hz0⟩ := N _ (.head _)
  obtain ⟨hT, _, hT0⟩ := N _ (.tail _ (.head _))
  obtain ⟨hit, hLL, hLI⟩ := N _ (.tail _ (.tail _ (.head _)))
  have Nn : News h₀ L s.heap news := fun q hq => N q (.tail _ (.tail _ (.tail _ hq)))
  dsimp only at hz hT hit hLI hLL
  have hsz : h₀.objs.size ≤ s.heap.objs.size := Nat.le_trans F.above (Nat.le_of_lt F.ns.lt)
  have n1 : l ≠ LI := Nat.ne_of_lt b5
  have n2 : z ≠ LI := Nat.ne_of_gt (Nat.lt_trans b1 b2)
  have W := (walks_map (w := w) (fr := fr) (gd := gd) (dp := dp) (un := un + 3) (I := z) (TI := TI) hsa X T hdp (by omega) n1 n2 (Nat.ne_of_gt b1) hLI).toS
  refine tuple_map W (fun i s st => ⟨_, st.2.1, rfl⟩) ⟨F.keep, hz, hT, ⟨_, hit, rfl, rfl⟩, hl⟩ (fun b hb => ?_) (.head _) (fun s' acc hm hacc => ?_) (by rw [sizeLine_eq]; omega)
  · rcases List.mem_cons.mp hb with rfl | hb
    · exact Heap.lt_size hz
    rcases List.mem_cons.mp hb with rfl | hb
    · exact Heap.lt_size hT
    rcases List.mem_cons.mp hb with rfl | hb
    · exact Heap.lt_size hit
    rcases List.mem_cons.mp hb with rfl | hb
    · obtain ⟨o, e, _⟩ := hl; exact Heap.lt_size e
    · exact Nat.lt_of_lt_of_le (List.mem_range.mp hb) hsz
  · obtain ⟨hh, gg, dd, tt, os'⟩ := s'
    obtain ⟨m1, m2, m3, m4, m5⟩ := hm
    dsimp only at m1 m2 m3 m4 m5
    subst m2 m3 m4
    have ea : acc = vs.toArray := by
      apply Array.ext'
      apply List.ext_getElem?
      intro i
      by_cases hi : i < vs.length
      · have hi' : i < acc.size := by rw [hacc.1]; exact hi
        have q := hacc.2 i acc[i] (by simp [hi'])
        simp [hi'] at q ⊢
        rw [q]
      · have hi' : ¬ i < acc.size := by rw [hacc.1]; exact hi
        simp [hi, hi']
    subst ea
    have ex : Ext [LI] s.heap hh := fun b o e n => m1 b o n e
    have F₂ : Fr h₀ L hh m := ex.fr F (fun h => hLL (List.mem_singleton.mp h).symm) fun b hb => by rw [List.mem_singleton.mp hb]; exact hLI
    have N₂ : News h₀ L hh news := fun q hq => ⟨ex _ _ (Nn q hq).1 (fun h => by
      have := b3 q hq
      rw [List.mem_singleton.mp h] at this
      exact absurd this (Nat.lt_irrefl _)), (Nn q hq).2⟩
    exact h hh.objs.size _ tt (F₂.push _) (N₂.push F₂ _) fun q hq => Heap.lt_size (N₂ q hq).1
end
theorem rows12 : True := by
  k_with "call type:map" => ((k_here; (with_reducible show wpAny _ _ (call _ [Value.ref _, Value.ref _]) _ _ _); k_dflt (refine' call_map_N (by walk_at "my list") (by k_asm) (by k_asm) ?_; k_whole); intro _ _ _ _ _ _ _ _ lq3 _; (try k_lt lq3); (try k_sweep)))
  k_with "call type:tuple" => ((k_here; (with_reducible show wpAny _ _ (call _ [Value.ref _]) _ _ _); k_dflt (refine' tuple_map_N (by assumption) (by walk_at "my list") (by walk_at "my size") (by k_asm) (by k_asm) (by k_asm) (by k_asm) (by assumption) (by assumption) (by walk_at "my lt") (by assumption) (by ktr_room) (by ktr_units) ?_; k_whole); intro _ _ _ _ _ lq1; (try k_lt lq1); (try k_sweep)))
  k_with "my lt" => (repeat' (first | exact List.forall_mem_nil _ | (refine List.forall_mem_cons.mpr ⟨?_, ?_⟩) | ((try dsimp only); first | assumption | omega)))
  trivial
open PyProof.Rows.LCg (NsObj ns_obj)
set_option genSizeOf false in
set_option genInjectivity false in
structure CompKind (prog : Program) (w : World) (A : Around) (e tgt : PySem.Expr) (body : Value → Env → Sem Unit) (p₀ : Pos) : Prop where
  den : ∀ it acc env, (model prog w).den (.compLoop e 0 it acc env) = (compTurn e 0 it acc env).onRaise (fun x => do noteFrame x env; theTreesLotGoes x)
  und : ∀ it acc env, A.under (.compLoop e 0 it acc env) = A
  qt : ∀ it acc env, (Code.compLoop e 0 it acc env).quiet = true
  turn : ∀ it acc env, compTurn e 0 it acc env = (standAt p₀ >>= fun _ => pyNext it >>= fun r => match r with
    | none => pure (.done .next)
    | some v => letOwnedTupleGo tgt it v >>= fun _ => assign tgt env v >>= fun _ => body acc env >>= fun _ => again (.compLoop e 0 it acc env))
  start : ∀ it acc env (R : Result → Shared → Prop) (s : Shared), codeAny (model prog w) A (.compLoop e 0 it acc env) R s → wpAny (model prog w) A (pyIter it) (fun it' s' => codeAny (model prog w) A (.compLoop e 0 it' acc env) R s') (fun _ _ => False) s →
    codeAny (model prog w) A (.compStart e 0 it acc env) R s
section
variable {prog : Program} {w : World} {A : Around} {E : Value → Shared → Prop} {s : Shared} {h₀ : Heap} {L : Addr} {m : Str → Option Value} {env : Env}
noncomputable def CTurn {σ : Type} (h₀ : Heap) (L : Addr) (m : Str → Option Value) (Led : σ → List (Addr × Obj)) (P : σ → Prop) (I : Addr) (oI : Obj) (C : Addr) (s : Shared) (s₂ : Shared) : Prop :=
  ∃ c' oC' m' h' tk', s₂ = { s with heap := h', toks := tk' } ∧ Fr h₀ L h' m ∧ NsObj oC' m' ∧ News h₀ L h' ((I, oI) :: (C, oC') :: Led c') ∧ P c'
theorem CTurn.intro {σ : Type} {Led : σ → List (Addr × Obj)} {P : σ → Prop} {I : Addr} {oI : Obj} {C : Addr} {oC' : Obj} {m' : Str → Option Value} {h' : Heap} {tk' : Nat} {news : List (Addr × Obj)} (c' : σ) (F : Fr h₀ L h' m) (N : News h₀ L h' news) (hC : NsObj oC' m')
    (hn : ∀ p ∈ (I, oI) :: (C, oC') :: Led c', p ∈ news) (hp : P c') : CTurn h₀ L m Led P I oI C s { s with heap := h', toks := tk' } :=
  ⟨c', oC', m', h', tk', rfl, F, hC, fun p hp => N p (hn p hp), hp⟩
/-- the loop of a comprehension whose frame stands at C -/
theorem comp_loop {σ : Type} {e tgt : PySem.Expr} {body : Value → Env → Sem Unit} {p₀ : Pos} (KD : CompKind prog w A e tgt body p₀) {I C : Addr} {fp : List Addr} {n : Nat} {P : Nat → Value → Prop} {St : Nat → Heap → Prop} {acc : Value} {scope : Scope} {cl : List (Str × Addr)} {m₀ : Str → Option Value} {R : Result → Shared → Prop}
    (W : Walks prog w A I fp [I] n P St) (Led : σ → List (Addr × Obj)) (J : Nat → σ → Prop) (c₀ : σ) (hIo : ∀ i h, St i h → ∃ o, h.get? I = some o)
    (hSt : ∀ i h h' o c, St i h → h.get? I = some o → h'.get? I = some o → (∀ b o, h₀.get? b = some o → h'.get? b = some o) → News h₀ L h' (Led c) → J i c → St i h')
    (htgt : ∀ v, letOwnedTupleGo tgt (.ref I) v = pure ()) (hst : St 0 s.heap) (F : Fr h₀ L s.heap m) (hC : s.heap.Ns C m₀) (N : News h₀ L s.heap (Led c₀)) (hCL : C ≠ L) (hC0 : h₀.get? C = none) (hIL : I ≠ L) (hI0 : h₀.get? I = none) (hIC : I ≠ C)
    (off : ∀ i c, J i c → ∀ p ∈ Led c, p.1 ≠ I ∧ p.1 ≠ C) (hJ : J 0 c₀)
    (turn : ∀ c i v oI oC m₂ h tk, i < n → P i v → J i c → NsObj oC m₂ → Fr h₀ L h m → News h₀ L h ((I, oI) :: (C, oC) :: Led c) →
      wpAny (model prog w) A (assign tgt (compEnvC scope cl C env) v >>= fun _ => body acc (compEnvC scope cl C env)) (fun _ s₂ => CTurn h₀ L m Led (J (i + 1)) I oI C s s₂) (fun _ _ => False) { s with heap := h, toks := tk })
    (done : ∀ c oC m₂ h tk, J n c → NsObj oC m₂ → Fr h₀ L h m → News h₀ L h ((C, oC) :: Led c) → R (.ok .next) { s with heap := h, toks := tk }) :
    codeAny (model prog w) A (.compLoop e 0 (.ref I) acc (compEnvC scope cl C env)) R s := by
  refine codeAny_loop (KD.qt _ _ _)
    (fun k s' => ∃ h' tk i c m', s' = { s with heap := h', toks := tk } ∧ i ≤ n ∧ k = n + 1 - i ∧ St i h' ∧ Fr h₀ L h' m ∧ h'.Ns C m' ∧ News h₀ L h' (Led c) ∧ J i c) ?_ (n + 1)
    ⟨s.heap, s.toks, 0, c₀, m₀, rfl, Nat.zero_le _, rfl, hst, F, hC, N, hJ⟩
  rintro k s' ⟨h', tk, i, c, m', rfl, hi, rfl, hst', F', hn', N', hJ'⟩
  rw [KD.und, KD.den]
  refine wpAny_onRaise (wpAny_mono (E := fun _ _ => False) ?_ (fun _ _ q => q) fun _ _ e => e.elim)
  rw [KD.turn]
  refine wpAny_bind (wpAny_standAt (wpAny_bind ?_))
  by_cases hlt : i < n
  · refine W.item i _ _ _ hlt hst' fun v h₂ tk₂ hPv hst₂ hk₂ => ?_
    refine wpAny_bind (wpAny_of_eq (htgt v) ?_)
    obtain ⟨oI, heI⟩ := hIo _ _ hst₂
    have k1 : ∀ b o, b ≠ I → h'.get? b = some o → h₂.get? b = some o := fun b o hb e => hk₂ b o (fun hm => hb (List.mem_singleton.mp hm)) e
    obtain ⟨oC, heC, hoC⟩ := ns_obj (hn'.at' fun o e => k1 _ o (Ne.symm hIC) e)
    have F₂ : Fr h₀ L h₂ m := ⟨F'.ns.at' fun o e => k1 _ o (Ne.symm hIL) e, fun b o e => k1 b o (fun q => by rw [q, hI0] at e; cases e) (F'.keep b o e), F'.above⟩
    have N₂ : News h₀ L h₂ ((I, oI) :: (C, oC) :: Led c) := fun p hp => by
      rcases List.mem_cons.mp hp with rfl | hp
      · exact ⟨heI, hIL, hI0⟩
      rcases List.mem_cons.mp hp with rfl | hp
      · exact ⟨heC, hCL, hC0⟩
      · exact ⟨k1 _ _ (off _ c hJ' p hp).1 (N' p hp).1, (N' p hp).2⟩
    have t := turn c i v oI oC _ h₂ tk₂ hlt hPv hJ' hoC F₂ N₂
    have eb : (assign tgt (compEnvC scope cl C env) v >>= fun _ => body acc (compEnvC scope cl C env) >>= fun _ => (again (.compLoop e 0 (.ref I) acc (compEnvC scope cl C env)) : Sem Fin)) =
        ((assign tgt (compEnvC scope cl C env) v >>= fun _ => body acc (compEnvC scope cl C env)) >>= fun _ => again (.compLoop e 0 (.ref I) acc (compEnvC scope cl C env))) := (bind_assoc _ _ _).symm
    show wpAny _ A (assign tgt (compEnvC scope cl C env) v >>= fun _ => body acc (compEnvC scope cl C env) >>= fun _ => (again (.compLoop e 0 (.ref I) acc (compEnvC scope cl C env)) : Sem Fin)) _ _ _
    rw [eb]
    refine wpAny_bind (wpAny_mono t (fun _ s₃ q => ?_) fun _ _ x => x)
    obtain ⟨c', oC', m₃, h₃, tk₃, rfl, F₃, hoC', N₃, hJ₃⟩ := q
    have N₃' : News h₀ L h₃ (Led c') := fun p hp => N₃ p (.tail _ (.tail _ hp))
    exact wpAny_pure ⟨rfl, n + 1 - (i + 1), by omega, h₃, tk₃, i + 1, c', m₃, rfl, hlt, rfl, hSt _ _ _ _ c' hst₂ heI (N₃ _ (.head _)).1 F₃.keep N₃' hJ₃, F₃, hoC'.ns (N₃ _ (.tail _ (.head _))).1, N₃', hJ₃⟩
  · obtain rfl : i = n := Nat.le_antisymm hi (Nat.not_lt.mp hlt)
    refine W.done _ _ _ hst' fun h₂ tk₂ hk₂ => wpAny_pure ?_
    have k1 : ∀ b o, b ≠ I → h'.get? b = some o → h₂.get? b = some o := fun b o hb e => hk₂ b o (fun hm => hb (List.mem_singleton.mp hm)) e
    obtain ⟨oC, heC, hoC⟩ := ns_obj (hn'.at' fun o e => k1 _ o (Ne.symm hIC) e)
    refine done c oC _ h₂ tk₂ hJ' hoC ⟨F'.ns.at' fun o e => k1 _ o (Ne.symm hIL) e, fun b o e => k1 b o (fun q => by rw [q, hI0] at e; cases e) (F'.keep b o e), F'.above⟩ fun p hp => ?_
    rcases List.mem_cons.mp hp with rfl | hp
    · exact ⟨heC, hCL, hC0⟩
    · exact ⟨k1 _ _ (off _ c hJ' p hp).1 (N' p hp).1, (N' p hp).2⟩

noncomputable def COff (I C D : Addr) (l : List (Addr × Obj)) : Prop := ∀ p ∈ l, p.1 ≠ I ∧ p.1 ≠ C ∧ p.1 ≠ D
/-- a comprehension from its iterator on: the thing that grows stands at D, the other ledger is sub c -/
theorem comp_block {σ : Type} {e tgt : PySem.Expr} {body : Value → Env → Sem Unit} {p₀ : Pos} (KD : CompKind prog w A e tgt body p₀) {newAcc : Sem Value} {o₀ : Obj} (hf₀ : o₀.isFreed = false)
    (hnew : ∀ (Q : Value → Shared → Prop) (s : Shared), Q (.ref s.heap.objs.size) { s with heap := s.heap.push o₀ } → wpAny (model prog w) A newAcc Q E s)
    {I : Addr} {fp : List Addr} {n : Nat} {P : Nat → Value → Prop} {St : Nat → Heap → Prop} {scope : Scope} {cl : List (Str × Addr)} {RR : Value → Addr → Result → Shared → Prop}
    (W : Walks prog w A I fp [I] n P St) (oD : σ → Obj) (sub : σ → List (Addr × Obj)) (J : Nat → σ → Prop) (c₀ : σ) (h0 : oD c₀ = o₀) (hIo : ∀ i h, St i h → ∃ o, h.get? I = some o)
    (hSt : ∀ i h h' o D c, St i h → h.get? I = some o → h'.get? I = some o → (∀ b o, h₀.get? b = some o → h'.get? b = some o) → News h₀ L h' ((D, oD c) :: sub c) → J i c → St i h')
    (htgt : ∀ v, letOwnedTupleGo tgt (.ref I) v = pure ()) (hst : St 0 s.heap) (hfp : ∀ b ∈ fp, b < s.heap.objs.size) (hcell : ∀ y ∈ scope.names, y.2 ≠ .cell) (hkind : scope.kind = .function)
    (F : Fr h₀ L s.heap m) (N : News h₀ L s.heap (sub c₀)) (hIL : I ≠ L) (hI0 : h₀.get? I = none) (offI : ∀ p ∈ sub c₀, p.1 ≠ I) (hJ : J 0 c₀)
    (turn : ∀ C D c i v oI oC m₂ h tk, i < n → P i v → J i c → NsObj oC m₂ → COff I C D (sub c) → ((@Ne Nat I C) ∧ (@Ne Nat I D) ∧ (@Ne Nat C D)) → Fr h₀ L h m → News h₀ L h ((I, oI) :: (C, oC) :: (D, oD c) :: sub c) →
      wpAny (model prog w) A (assign tgt (compEnvC scope cl C env) v >>= fun _ => body (.ref D) (compEnvC scope cl C env)) (fun _ s₂ => CTurn h₀ L m (fun c => (D, oD c) :: sub c) (fun c => J (i + 1) c ∧ COff I C D (sub c)) I oI C s s₂) (fun _ _ => False) { s with heap := h, toks := tk })
    (hRR : ∀ D C c m' h tk, J n c → Fr h₀ L h m → News h₀ L h ((D, oD c) :: sub c) → (∀ p ∈ sub c, p.1 ≠ D) → h.Ns C m' → h₀.get? C = none → h₀.get? D = none → C ≠ L → D ≠ L → C ≠ D → (∀ p ∈ sub c, p.1 ≠ C) → RR (.ref D) C (.ok .next) { s with heap := h, toks := tk }) :
    wpAny (model prog w) A newAcc (fun acc s₃ => wpAny (model prog w) A (newFunctionEnv scope env.globals cl [] env.qual none .none (some env)) (fun cenv s₄ =>
      codeAny (model prog w) A (.compStart e 0 (.ref I) acc { cenv with scope := relabel scope env }) (RR acc cenv.locals) s₄) E s₃) E s := by
  refine hnew _ _ (wpAny_newFunctionEnv hcell (by intro y hy; simp at hy) (fun h₁ hns₁ hsb₁ => ?_) hkind)
  dsimp only at hns₁ hsb₁ ⊢
  generalize hH2 : s.heap.push o₀ = H2 at hns₁ hsb₁ ⊢
  have hC : H2.objs.size = s.heap.objs.size + 1 := by rw [← hH2, Heap.size_push]
  have hDC : s.heap.objs.size ≠ H2.objs.size := by rw [hC]; exact Nat.ne_of_lt (Nat.lt_succ_self _)
  have below : ∀ b, b < s.heap.objs.size → b ≠ H2.objs.size ∧ b ≠ s.heap.objs.size := fun b hb => ⟨by rw [hC]; exact Nat.ne_of_lt (Nat.lt_succ_of_lt hb), Nat.ne_of_lt hb⟩
  have hIlt : I < s.heap.objs.size := hfp I (W.sub I (List.mem_singleton.mpr rfl))
  have old : ∀ b o, s.heap.get? b = some o → h₁.get? b = some o := fun b o e => hsb₁.extBut b o (below b (Heap.lt_size e)).1 (Heap.get?_push_of_some _ (hH2 ▸ Heap.get?_push_of_some _ e))
  have hacc : h₁.get? s.heap.objs.size = some o₀ := hsb₁.extBut _ _ hDC (Heap.get?_push_of_some _ (hH2 ▸ Heap.get?_push_size _ hf₀))
  have nD := new_at (m := m) F (Nat.le_refl s.heap.objs.size)
  have nC := new_at (m := m) F (b := H2.objs.size) (by rw [hC]; exact Nat.le_succ _)
  have F₁ : Fr h₀ L h₁ m := F.keeps old
  have offN : COff I H2.objs.size s.heap.objs.size (sub c₀) := fun p hp => ⟨offI p hp, below _ (Heap.lt_size (N p hp).1)⟩
  have N₁ : News h₀ L h₁ ((s.heap.objs.size, oD c₀) :: sub c₀) := fun p hp => by
    rcases List.mem_cons.mp hp with rfl | hp
    · exact ⟨by rw [h0]; exact hacc, nD⟩
    · exact ⟨old _ _ (N p hp).1, (N p hp).2⟩
  have loop : ∀ s₃ : Shared, s₃ = { s with heap := h₁, toks := s.toks + ([] : List (Str × Value)).length } → codeAny (model prog w) A (.compLoop e 0 (.ref I) (.ref s.heap.objs.size) (compEnvC scope cl H2.objs.size env)) (RR (.ref s.heap.objs.size) H2.objs.size) s₃ := by
    rintro s₃ rfl
    refine comp_loop KD (P := P) (St := St) (s := { s with heap := h₁, toks := s.toks + ([] : List (Str × Value)).length }) W (fun c => (s.heap.objs.size, oD c) :: sub c) (fun i c => J i c ∧ COff I H2.objs.size s.heap.objs.size (sub c)) c₀ hIo ?_ htgt (W.frame _ _ _ hst fun b _ o e => old b o e) F₁ hns₁ N₁ nC.1 nC.2 hIL hI0 (below I hIlt).1
      (fun i c hj p hp => ?_) ⟨hJ, offN⟩ (fun c i v oI oC m₂ h tk hi hP hj hoC F' N' => ?_) (fun c oC m₂ h tk hj hoC F' N' => ?_)
    · exact fun i h h' o c a b c' d e' j => hSt i h h' o _ c a b c' d e' j.1
    · rcases List.mem_cons.mp hp with rfl | hp
      · exact ⟨Ne.symm (below I hIlt).2, hDC⟩
      · exact ⟨(hj.2 p hp).1, (hj.2 p hp).2.1⟩
    · refine wpAny_mono (turn H2.objs.size s.heap.objs.size c i v oI oC m₂ h tk hi hP hj.1 hoC hj.2 ⟨(below I hIlt).1, (below I hIlt).2, Ne.symm hDC⟩ F' N') (fun _ s₂ q => ?_) fun _ _ x => x
      obtain ⟨c', oC', m', h', tk', e1, q⟩ := q
      exact ⟨c', oC', m', h', tk', e1, q⟩
    · exact hRR _ _ c m₂ h tk hj.1 F' (fun p hp => N' p (.tail _ hp)) (fun p hp => (hj.2 p hp).2.2) (hoC.ns (N' _ (.head _)).1) nC.2 nD.2 nC.1 nD.1 (Ne.symm hDC) fun p hp => (hj.2 p hp).2.1
  exact KD.start _ _ _ _ _ (loop _ rfl) (W.self 0 _ _ _ (W.frame _ _ _ hst fun b _ o e => old b o e) (loop _ rfl))

/-- eval of a comprehension -/
theorem comp_eval {σ : Type} {e tgt iter : PySem.Expr} {ifs : List PySem.Expr} {rest : List Comprehension} {body : Value → Env → Sem Unit} {p₀ pos : Pos} (KD : CompKind prog w A e tgt body p₀) {newAcc : Sem Value} {o₀ : Obj} (hf₀ : o₀.isFreed = false)
    (hnew : ∀ (Q : Value → Shared → Prop) (s : Shared), Q (.ref s.heap.objs.size) { s with heap := s.heap.push o₀ } → wpAny (model prog w) A newAcc Q E s)
    {scope : Scope} {cl : List (Str × Addr)} {Q : Value → Shared → Prop}
    (hcl : clausesOf e = ⟨tgt, iter, ifs, 0⟩ :: rest) (hclos : closureFor scope env = pure cl) (hcell : ∀ y ∈ scope.names, y.2 ≠ .cell) (hkind : scope.kind = .function)
    (hnames : ∀ y ∈ scope.names, y.2 = .local → scope.names.lookup y.1 = some .local)
    (h : wpAny (model prog w) A (eval iter env) (fun xv s₁ => wpAny (model prog w) A (pyIter xv) (fun it s₂ => ∃ (I : Addr) (fp : List Addr) (n : Nat) (P : Nat → Value → Prop) (St : Nat → Heap → Prop) (oD : σ → Obj) (sub : σ → List (Addr × Obj)) (J : Nat → σ → Prop) (c₀ : σ),
      it = .ref I ∧ Walks prog w A I fp [I] n P St ∧ oD c₀ = o₀ ∧ (∀ i h, St i h → ∃ o, h.get? I = some o) ∧
      (∀ i h h' o D c, St i h → h.get? I = some o → h'.get? I = some o → (∀ b o, h₀.get? b = some o → h'.get? b = some o) → News h₀ L h' ((D, oD c) :: sub c) → J i c → St i h') ∧
      (∀ v, letOwnedTupleGo tgt (.ref I) v = pure ()) ∧ St 0 s₂.heap ∧ (∀ b ∈ fp, b < s₂.heap.objs.size) ∧ Fr h₀ L s₂.heap m ∧ News h₀ L s₂.heap (sub c₀) ∧ I ≠ L ∧ h₀.get? I = none ∧ (∀ p ∈ sub c₀, p.1 ≠ I) ∧ J 0 c₀ ∧
      (∀ C D c i v oI oC m₂ h tk, i < n → P i v → J i c → NsObj oC m₂ → COff I C D (sub c) → ((@Ne Nat I C) ∧ (@Ne Nat I D) ∧ (@Ne Nat C D)) → Fr h₀ L h m → News h₀ L h ((I, oI) :: (C, oC) :: (D, oD c) :: sub c) →
        wpAny (model prog w) A (assign tgt (compEnvC scope cl C env) v >>= fun _ => body (.ref D) (compEnvC scope cl C env)) (fun _ s₃ => CTurn h₀ L m (fun c => (D, oD c) :: sub c) (fun c => J (i + 1) c ∧ COff I C D (sub c)) I oI C s₂ s₃) (fun _ _ => False) { s₂ with heap := h, toks := tk }) ∧
      (∀ D c h tk, J n c → Fr h₀ L h m → News h₀ L h ((D, oD c) :: sub c) → (∀ p ∈ sub c, p.1 ≠ D) → Q (.ref D) { s₂ with heap := h, toks := tk })) E s₁) E s)
    (hs : ∀ x, foldedSetIterable iter env x = pure x := by intro _; rfl) :
    wpAny (model prog w) A (comprehension e scope env pos newAcc false (eval iter env) none) Q E s := by
  refine wpAny_comprehension_free (use := none) hcl hs hclos hkind hnames (wpAny_mono h (fun xv s₁ h₁ => wpAny_mono h₁ (fun it s₂ h₂ => ?_) fun _ _ e => e) fun _ _ e => e)
  obtain ⟨I, fp, n, P, St, oD, sub, J, c₀, rfl, W, a1, a2, a3, a4, a5, a6, F, N, a7, a8, a9, a10, turn, fin⟩ := h₂
  refine comp_block KD hf₀ hnew W oD sub J c₀ a1 a2 a3 a4 a5 a6 hcell hkind F N a7 a8 a9 a10 turn fun D C c m' h tk hj F' N' offD hn c1 c2 c3 c4 c5 offC => ?_
  refine ⟨m', hn, fun h' hs' => fin D c h' tk hj (F'.change hs' c3 c1) (fun p hp => ⟨hs'.extBut _ _ ?_ (N' p hp).1, (N' p hp).2⟩) offD⟩
  rcases List.mem_cons.mp hp with rfl | hp
  · exact Ne.symm c5
  · exact offC p hp
/-- y = [..] at the def's level: the value is stored before the loop's names go -/
theorem comp_assign {σ : Type} {e tgt iter : PySem.Expr} {ifs : List PySem.Expr} {rest : List Comprehension} {body : Value → Env → Sem Unit} {p₀ pos : Pos} (KD : CompKind prog w A e tgt body p₀) {newAcc : Sem Value} {o₀ : Obj} (hf₀ : o₀.isFreed = false)
    (hnew : ∀ (Q : Value → Shared → Prop) (s : Shared), Q (.ref s.heap.objs.size) { s with heap := s.heap.push o₀ } → wpAny (model prog w) A newAcc Q E s)
    {scope : Scope} {cl : List (Str × Addr)} {Q : Flow → Shared → Prop} {y : Str} {py spos : Pos} (hLe : env.locals = L)
    (hev : evalThenUse e env = fun use => (comprehension e scope env pos newAcc false (eval iter env) (some use) >>= fun _ => pure ()))
    (hsw : swapsWith e (some (.Name y py)) spos.line env = pure true) (hy : env.kindOf y = some .local) (hp : (env.scope.kind == .class || (env.scope.kind == .module && env.locals != env.globals)) = false)
    (hcl : clausesOf e = ⟨tgt, iter, ifs, 0⟩ :: rest) (hclos : closureFor scope env = pure cl) (hcell : ∀ y ∈ scope.names, y.2 ≠ .cell) (hkind : scope.kind = .function)
    (hnames : ∀ y ∈ scope.names, y.2 = .local → scope.names.lookup y.1 = some .local)
    (h : wpAny (model prog w) A (eval iter env) (fun xv s₁ => wpAny (model prog w) A (pyIter xv) (fun it s₂ => ∃ (I : Addr) (fp : List Addr) (n : Nat) (P : Nat → Value → Prop) (St : Nat → Heap → Prop) (oD : σ → Obj) (sub : σ → List (Addr × Obj)) (J : Nat → σ → Prop) (c₀ : σ),
      it = .ref I ∧ Walks prog w A I fp [I] n P St ∧ oD c₀ = o₀ ∧ (∀ i h, St i h → ∃ o, h.get? I = some o) ∧
      (∀ i h h' o D c, St i h → h.get? I = some o → h'.get? I = some o → (∀ b o, h₀.get? b = some o → h'.get? b = some o) → News h₀ L h' ((D, oD c) :: sub c) → J i c → St i h') ∧
      (∀ v, letOwnedTupleGo tgt (.ref I) v = pure ()) ∧ St 0 s₂.heap ∧ (∀ b ∈ fp, b < s₂.heap.objs.size) ∧ Fr h₀ L s₂.heap m ∧ News h₀ L s₂.heap (sub c₀) ∧ I ≠ L ∧ h₀.get? I = none ∧ (∀ p ∈ sub c₀, p.1 ≠ I) ∧ J 0 c₀ ∧
      (∀ C D c i v oI oC m₂ h tk, i < n → P i v → J i c → NsObj oC m₂ → COff I C D (sub c) → ((@Ne Nat I C) ∧ (@Ne Nat I D) ∧ (@Ne Nat C D)) → Fr h₀ L h m → News h₀ L h ((I, oI) :: (C, oC) :: (D, oD c) :: sub c) →
        wpAny (model prog w) A (assign tgt (compEnvC scope cl C env) v >>= fun _ => body (.ref D) (compEnvC scope cl C env)) (fun _ s₃ => CTurn h₀ L m (fun c => (D, oD c) :: sub c) (fun c => J (i + 1) c ∧ COff I C D (sub c)) I oI C s₂ s₃) (fun _ _ => False) { s₂ with heap := h, toks := tk }) ∧
      (∀ D c h tk, J n c → Fr h₀ L h (fun z => if z = y then some (.ref D) else m z) → News h₀ L h ((D, oD c) :: sub c) → (∀ p ∈ sub c, p.1 ≠ D) → Q .next { s₂ with heap := h, toks := tk })) E s₁) E s)
    (hs : ∀ x, foldedSetIterable iter env x = pure x := by intro _; rfl) :
    wpAny (model prog w) A (exec (.Assign [.Name y py] e spos) env) Q E s := by
  subst hLe
  rw [exec_Assign_Name_used _ _ _ _ hsw, hev]
  refine wpAny_bind (wpAny_standAt (wpAny_bind (wpAny_bind (wpAny_mono (wpAny_comprehension_free (use := some (assign (.Name y py) env)) (Q := fun _ s' => Q .next s') hcl hs hclos hkind hnames
    (wpAny_mono h (fun xv s₁ h₁ => wpAny_mono h₁ (fun it s₂ h₂ => ?_) fun _ _ e => e) fun _ _ e => e)) (fun _ s' hq => wpAny_pure (wpAny_pure hq)) fun _ _ e => e))))
  obtain ⟨I, fp, n, P, St, oD, sub, J, c₀, rfl, W, a1, a2, a3, a4, a5, a6, F, N, a7, a8, a9, a10, turn, fin⟩ := h₂
  refine comp_block KD hf₀ hnew W oD sub J c₀ a1 a2 a3 a4 a5 a6 hcell hkind F N a7 a8 a9 a10 turn fun D C c m' h tk hj F' N' offD hn c1 c2 c3 c4 c5 offC => ?_
  show wpAny _ A (assign (.Name y py) env (.ref D)) _ _ _
  refine wpAny_assign_Name (wpAny_storeName_local hy F'.ns (fun h₂ hn₂ hs₂ => ?_) hp)
  have hL₀ : h₀.get? env.locals = none := Heap.get?_none_of_le F'.above
  have F₂ : Fr h₀ env.locals h₂ (fun z => if z = y then some (.ref D) else m z) := ⟨hn₂, fun b o e => hs₂.extBut b o (fun q => by rw [q, hL₀] at e; cases e) (F'.keep b o e), F'.above⟩
  refine ⟨m', hn.sameBut hs₂ c3, fun h'' hs'' => fin D c h'' _ hj (F₂.change hs'' c3 c1) (fun p hp => ?_) offD⟩
  have z : h₂.get? p.1 = some p.2 := hs₂.extBut _ _ (N' p hp).2.1 (N' p hp).1
  refine ⟨hs''.extBut _ _ ?_ z, (N' p hp).2⟩
  rcases List.mem_cons.mp hp with rfl | hp
  · exact Ne.symm c5
  · exact offC p hp
end
section
variable {prog : Program} {w : World} {A : Around}
theorem kind_list (elt tgt iter : PySem.Expr) (scope : Scope) (pos : Pos) :
    CompKind prog w A (.ListComp elt [⟨tgt, iter, [], 0⟩] scope pos) tgt (fun acc env => eval elt env >>= fun x => call (.builtin "list.append") [acc, x] >>= fun _ => pure ()) iter.pos where
  den := fun _ _ _ => rfl
  und := fun _ _ _ => rfl
  qt := fun _ _ _ => rfl
  turn := fun _ _ _ => rfl
  start := fun it acc env R s h0 h => codeAny_compStart_list h0 (wpAny_mono h (fun _ _ q => q) fun _ _ q => q.elim)
theorem kind_list1 (elt tgt iter c : PySem.Expr) (scope : Scope) (pos : Pos) :
    CompKind prog w A (.ListComp elt [⟨tgt, iter, [c], 0⟩] scope pos) tgt (fun acc env => isTrue c env (eval c env) >>= fun ok => if ok = true then (eval elt env >>= fun x => call (.builtin "list.append") [acc, x] >>= fun _ => pure ()) else pure ()) iter.pos where
  den := fun _ _ _ => rfl
  und := fun _ _ _ => rfl
  qt := fun _ _ _ => rfl
  turn := fun it acc env => by
    rw [compTurn_list]
    congr 1
    funext _
    congr 1
    funext r
    cases r with
    | none => rfl
    | some v =>
      simp only [List.forIn_cons, List.forIn_nil, if_true, bind_assoc, pure_bind]
      congr 1
      funext _
      congr 1
      funext _
      congr 1
      funext ok
      cases ok <;> simp
  start := fun it acc env R s h0 h => codeAny_compStart_list h0 (wpAny_mono h (fun _ _ q => q) fun _ _ q => q.elim)
theorem kind_set (elt tgt iter : PySem.Expr) (scope : Scope) (pos : Pos) :
    CompKind prog w A (.SetComp elt [⟨tgt, iter, [], 0⟩] scope pos) tgt (fun acc env => eval elt env >>= fun x => standAt elt.pos >>= fun _ => call (.builtin "set.add") [acc, x] >>= fun _ => pure ()) iter.pos where
  den := fun _ _ _ => rfl
  und := fun _ _ _ => rfl
  qt := fun _ _ _ => rfl
  turn := fun _ _ _ => rfl
  start := fun it acc env R s h0 h => by
    refine codeAny_of_tree ?_
    show wpAny _ _ ((compStart (.SetComp elt [⟨tgt, iter, [], 0⟩] scope pos) 0 it acc env).onRaise (fun x => do noteFrame x env; standAt theWindowsPlace)) _ _ s
    refine wpAny_notedAt ?_
    unfold compStart
    show wpAny _ _ (ask >>= _) _ _ s
    refine wpAny_bind (wpAny_askSetting (wpAny_ite ?_))
    split
    · first
        | exact wpAny_bind (wpAny_pure (wpAny_pure (And.intro rfl h0)))
        | exact wpAny_pure (And.intro rfl h0)
    · first
        | exact wpAny_bind (wpAny_rule (wpAny_bind (wpAny_standAt (wpAny_bind (wpAny_mono h (fun it' s' h' => wpAny_pure (And.intro rfl h')) fun _ _ x => x.elim)))))
        | (refine wpAny_bind (wpAny_rule ?_); show wpAny _ _ (standAt iter.pos >>= _) _ _ s; exact wpAny_bind (wpAny_standAt (wpAny_bind (wpAny_mono h (fun it' s' h' => wpAny_pure (And.intro rfl h')) fun _ _ x => x.elim))))
end
theorem rows13 : True := by
  k_with "call type:map" => ((k_here; (with_reducible show wpAny _ _ (call _ [Value.ref _, Value.ref _]) _ _ _); k_dflt (refine' call_map_N (by walk_at "my list") (by k_asm) (by k_asm) ?_; k_whole); intro _ _ _ _ _ _ _ _ lq3 _; have l3c' := lq3; (try k_lt lq3); (try k_sweep)))
  k_with "my lt" => (assumption)
  k_with "my list" => (first | is_list | assumption | exact ⟨_, Fr.keep (by k_asm) _ _ (by assumption), rfl, _, rfl⟩)
  trivial
noncomputable abbrev tob (vs : List Value) : Obj := { cls := .type "tuple", data := .seq vs.toArray }
section
variable {prog : Program} {w : World} {A : Around} {E : Value → Shared → Prop} {s : Shared} {h₀ : Heap} {L : Addr} {m : Str → Option Value} {news news' : List (Addr × Obj)} {D : Addr} {vs : List Value} {n : Nat} {v : Value}
theorem t_truthy {Q : Bool → Shared → Prop} (N : News h₀ L s.heap news) (hm : (D, tob (v :: vs)) ∈ news) (hsz : (v :: vs).length ≤ 1000) (h : ∀ k, Q true { s with toks := k }) : wpAny (model prog w) A (truthy (.ref D)) Q E s := by
  refine truthy_tuple (items := (v :: vs).toArray) ⟨_, N.get hm, rfl, _, rfl⟩ (by rw [List.size_toArray]; omega) ?_
  exact h _
theorem t_first {Q : Value → Shared → Prop} {value slice : Expr} {k : Int} {u : Tok} (N : News h₀ L s.heap news) (hm : (D, tob (v :: vs)) ∈ news) (hk : k = 0) (hsz : (v :: vs).length ≤ 1000) (h : Q v s)
    (hs : subscripted slice false (.ref D) (.int k u) = operate [.ref D, .int k u] (getItem (.ref D) (.int k u)) := by with_unfolding_all rfl) :
    wpAny (model prog w) A (subscriptTail value slice (.ref D) (.int k u)) Q E s := by
  subst hk
  have ht : IsTup s.heap D (v :: vs).toArray := ⟨_, N.get hm, rfl, _, rfl⟩
  exact tail_any ht.typeIs slot_tuple_getitem.lookup (PyProof.Rows.getItem_tuple ht (by decide) (by decide) (seqIndex_of (Int.le_refl 0) (by simp)) (by simp) h) hs
end
theorem rows14 : True := by
  k_with "truthy ref" => ((k_here; k_dflt (refine' t_truthy (by k_asm) (by k_mem) (by walk_at "my size") ?_; k_whole); intro _))
  k_with "subscriptTail Name Constant ref int" => ((k_here; k_dflt (refine' t_first (by k_asm) (by k_mem) (by rfl) (by walk_at "my size") ?_; k_whole)))
  trivial
set_option genSizeOf false in
set_option genInjectivity false in
structure StopAt (P : Prop) : Prop where
  get : P
theorem stop_here {P : Prop} (h : StopAt P) : P := h.get
open PyProof.Rows.LCg (NsObj ns_obj)
theorem rows15 : True := by
  k_with "exec Assign cons ListComp" => ((k_here; refine stop_here ?_))
  trivial
section
variable {prog : Program} {w : World} {A : Around} {E : Value → Shared → Prop} {s : Shared} {h₀ : Heap} {L : Addr} {m : Str → Option Value} {env : Env}
/-- the turn's item is stored -/
theorem comp_let {β : Type} {k : Unit → Sem β} {Q : β → Shared → Prop} {x : Str} {px : Pos} {scope : Scope} {cl : List (Str × Addr)} {I C : Addr} {oI oC : Obj} {m₂ : Str → Option Value} {rest : List (Addr × Obj)} {v : Value} (hoC : NsObj oC m₂) (F : Fr h₀ L s.heap m) (N : News h₀ L s.heap ((I, oI) :: (C, oC) :: rest))
    (hrest : ∀ p ∈ rest, p.1 ≠ C) (hIC : (@Ne Nat I C)) (hx : scope.names.lookup x = some .local) (hkind : scope.kind = .function)
    (h : ∀ oC' h' tk', NsObj oC' (fun z => if z = x then some v else m₂ z) → Fr h₀ L h' m → News h₀ L h' ((I, oI) :: (C, oC') :: rest) → wpAny (model prog w) A (k ()) Q E { s with heap := h', toks := tk' }) :
    wpAny (model prog w) A (assign (.Name x px) (compEnvC scope cl C env) v >>= k) Q E s := by
  obtain ⟨eI, nI, zI⟩ := N _ (.head _)
  obtain ⟨eC, nC, zC⟩ := N _ (.tail _ (.head _))
  refine wpAny_bind (wpAny_assign_Name (wpAny_storeName_local (lookup_relabel_local hx) (hoC.ns eC) (fun h₃ hn₃ hs₃ => ?_) (by simp [compEnvC, relabel, hkind])))
  obtain ⟨oC', heC, hoC'⟩ := ns_obj hn₃
  refine h oC' h₃ _ hoC' (F.change hs₃ nC zC) fun p hp => ?_
  rcases List.mem_cons.mp hp with rfl | hp
  · exact ⟨hs₃.extBut _ _ hIC eI, nI, zI⟩
  rcases List.mem_cons.mp hp with rfl | hp
  · exact ⟨heC, nC, zC⟩
  · have z := N p (.tail _ (.tail _ hp))
    exact ⟨hs₃.extBut _ _ (hrest p hp) z.1, z.2⟩
end
section
variable {prog : Program} {w : World} {A : Around} {E : Value → Shared → Prop} {s : Shared} {h₀ : Heap} {L : Addr} {m : Str → Option Value} {env : Env}
theorem src_tuple {σ : Type} {tgt : PySem.Expr} {body : Value → Env → Sem Unit} {scope : Scope} {cl : List (Str × Addr)} {o₀ : Obj} {m' : Addr → Str → Option Value} {QQ : Addr → Shared → Prop} {Dt : Addr} {vs : List Value}
    (oD : σ → Obj) (sub : σ → List (Addr × Obj)) (J : Nat → σ → Prop) (c₀ : σ) (h0 : oD c₀ = o₀) (hh : A.handled = none) (htgt : ∀ I v, letOwnedTupleGo tgt (.ref I) v = pure ()) (hmem : ∀ c, (Dt, tob vs) ∈ sub c)
    (F : Fr h₀ L s.heap m) (N : News h₀ L s.heap (sub c₀)) (hJ : J 0 c₀)
    (turn : ∀ I C D c i v oI oC m₂ h tk, vs[i]? = some v → J i c → NsObj oC m₂ → COff I C D (sub c) → ((@Ne Nat I C) ∧ (@Ne Nat I D) ∧ (@Ne Nat C D)) → Fr h₀ L h m → News h₀ L h ((I, oI) :: (C, oC) :: (D, oD c) :: sub c) →
      wpAny (model prog w) A (assign tgt (compEnvC scope cl C env) v >>= fun _ => body (.ref D) (compEnvC scope cl C env)) (fun _ s₃ => CTurn h₀ L m (fun c => (D, oD c) :: sub c) (fun c => J (i + 1) c ∧ COff I C D (sub c)) I oI C s s₃) (fun _ _ => False) { s with heap := h, toks := tk })
    (fin : ∀ D c h tk, J vs.length c → Fr h₀ L h (m' D) → News h₀ L h ((D, oD c) :: sub c) → (∀ p ∈ sub c, p.1 ≠ D) → QQ D { s with heap := h, toks := tk }) :
    wpAny (model prog w) A (pyIter (.ref Dt)) (fun it s₂ => ∃ (I : Addr) (fp : List Addr) (n : Nat) (P : Nat → Value → Prop) (St : Nat → Heap → Prop) (oD : σ → Obj) (sub : σ → List (Addr × Obj)) (J : Nat → σ → Prop) (c₀ : σ),
      it = .ref I ∧ Walks prog w A I fp [I] n P St ∧ oD c₀ = o₀ ∧ (∀ i h, St i h → ∃ o, h.get? I = some o) ∧
      (∀ i h h' o D c, St i h → h.get? I = some o → h'.get? I = some o → (∀ b o, h₀.get? b = some o → h'.get? b = some o) → News h₀ L h' ((D, oD c) :: sub c) → J i c → St i h') ∧
      (∀ v, letOwnedTupleGo tgt (.ref I) v = pure ()) ∧ St 0 s₂.heap ∧ (∀ b ∈ fp, b < s₂.heap.objs.size) ∧ Fr h₀ L s₂.heap m ∧ News h₀ L s₂.heap (sub c₀) ∧ I ≠ L ∧ h₀.get? I = none ∧ (∀ p ∈ sub c₀, p.1 ≠ I) ∧ J 0 c₀ ∧
      (∀ C D c i v oI oC m₂ h tk, i < n → P i v → J i c → NsObj oC m₂ → COff I C D (sub c) → ((@Ne Nat I C) ∧ (@Ne Nat I D) ∧ (@Ne Nat C D)) → Fr h₀ L h m → News h₀ L h ((I, oI) :: (C, oC) :: (D, oD c) :: sub c) →
        wpAny (model prog w) A (assign tgt (compEnvC scope cl C env) v >>= fun _ => body (.ref D) (compEnvC scope cl C env)) (fun _ s₃ => CTurn h₀ L m (fun c => (D, oD c) :: sub c) (fun c => J (i + 1) c ∧ COff I C D (sub c)) I oI C s₂ s₃) (fun _ _ => False) { s₂ with heap := h, toks := tk }) ∧
      (∀ D c h tk, J n c → Fr h₀ L h (m' D) → News h₀ L h ((D, oD c) :: sub c) → (∀ p ∈ sub c, p.1 ≠ D) → QQ D { s₂ with heap := h, toks := tk })) E s := by
  have ht : s.heap.IsTuple Dt vs.toArray := ⟨_, (N _ (hmem c₀)).1, rfl, _, rfl⟩
  have hlt : Dt < s.heap.objs.size := Heap.lt_size (N _ (hmem c₀)).1
  have hne : Dt ≠ s.heap.objs.size := Nat.ne_of_lt hlt
  have nI := new_at F (Nat.le_refl s.heap.objs.size)
  have sz : vs.toArray.size = vs.length := by simp
  refine wpAny_pyIter_tuple ht ?_
  refine ⟨s.heap.objs.size, _, vs.toArray.size, _, _, oD, sub, J, c₀, rfl, Walks.tuple hh s.heap.objs.size Dt hne vs.toArray, h0, fun i h st => ?_, fun i h h' o D c st e e' _ N' _ => ?_, htgt _, ⟨⟨_, Heap.get?_push_size _ rfl, rfl, rfl⟩, ht.at fun o e => Heap.get?_push_of_some _ e⟩, fun b hb => ?_, F.push _, fun p hp => ⟨Heap.get?_push_of_some _ (N p hp).1, (N p hp).2⟩, nI.1, nI.2,
    fun p hp q => Nat.lt_irrefl _ (q ▸ Heap.lt_size (N p hp).1), hJ, fun C D c i v oI oC m₂ h tk _ hP hj hoC off ne F' N' => turn _ C D c i v oI oC m₂ h tk (by simpa using hP) hj hoC off ne F' N', fun D c h tk hj F' N' off => fin D c h tk (sz ▸ hj) F' N' off⟩
  · obtain ⟨⟨o, e, _⟩, _⟩ := st; exact ⟨o, e⟩
  · exact ⟨st.1.at fun o₂ e₂ => by rw [e] at e₂; cases e₂; exact e', ⟨_, (N' _ (.tail _ (hmem c))).1, rfl, _, rfl⟩⟩
  · show b < (s.heap.push _).objs.size
    rw [Heap.size_push]
    rcases List.mem_cons.mp hb with rfl | hb
    · exact Nat.lt_succ_self _
    · rw [List.mem_singleton.mp hb]; exact Nat.lt_succ_of_lt hlt
theorem src_list {σ : Type} {tgt : PySem.Expr} {body : Value → Env → Sem Unit} {scope : Scope} {cl : List (Str × Addr)} {o₀ : Obj} {m' : Addr → Str → Option Value} {QQ : Addr → Shared → Prop} {Dt : Addr} {vs : List Value} {nn : Nat}
    (oD : σ → Obj) (sub : σ → List (Addr × Obj)) (J : Nat → σ → Prop) (c₀ : σ) (h0 : oD c₀ = o₀) (hh : A.handled = none) (htgt : ∀ I v, letOwnedTupleGo tgt (.ref I) v = pure ()) (hmem : ∀ c, (Dt, lob vs nn) ∈ sub c)
    (F : Fr h₀ L s.heap m) (N : News h₀ L s.heap (sub c₀)) (hJ : J 0 c₀)
    (turn : ∀ I C D c i v oI oC m₂ h tk, vs[i]? = some v → J i c → NsObj oC m₂ → COff I C D (sub c) → ((@Ne Nat I C) ∧ (@Ne Nat I D) ∧ (@Ne Nat C D)) → Fr h₀ L h m → News h₀ L h ((I, oI) :: (C, oC) :: (D, oD c) :: sub c) →
      wpAny (model prog w) A (assign tgt (compEnvC scope cl C env) v >>= fun _ => body (.ref D) (compEnvC scope cl C env)) (fun _ s₃ => CTurn h₀ L m (fun c => (D, oD c) :: sub c) (fun c => J (i + 1) c ∧ COff I C D (sub c)) I oI C s s₃) (fun _ _ => False) { s with heap := h, toks := tk })
    (fin : ∀ D c h tk, J vs.length c → Fr h₀ L h (m' D) → News h₀ L h ((D, oD c) :: sub c) → (∀ p ∈ sub c, p.1 ≠ D) → QQ D { s with heap := h, toks := tk }) :
    wpAny (model prog w) A (pyIter (.ref Dt)) (fun it s₂ => ∃ (I : Addr) (fp : List Addr) (n : Nat) (P : Nat → Value → Prop) (St : Nat → Heap → Prop) (oD : σ → Obj) (sub : σ → List (Addr × Obj)) (J : Nat → σ → Prop) (c₀ : σ),
      it = .ref I ∧ Walks prog w A I fp [I] n P St ∧ oD c₀ = o₀ ∧ (∀ i h, St i h → ∃ o, h.get? I = some o) ∧
      (∀ i h h' o D c, St i h → h.get? I = some o → h'.get? I = some o → (∀ b o, h₀.get? b = some o → h'.get? b = some o) → News h₀ L h' ((D, oD c) :: sub c) → J i c → St i h') ∧
      (∀ v, letOwnedTupleGo tgt (.ref I) v = pure ()) ∧ St 0 s₂.heap ∧ (∀ b ∈ fp, b < s₂.heap.objs.size) ∧ Fr h₀ L s₂.heap m ∧ News h₀ L s₂.heap (sub c₀) ∧ I ≠ L ∧ h₀.get? I = none ∧ (∀ p ∈ sub c₀, p.1 ≠ I) ∧ J 0 c₀ ∧
      (∀ C D c i v oI oC m₂ h tk, i < n → P i v → J i c → NsObj oC m₂ → COff I C D (sub c) → ((@Ne Nat I C) ∧ (@Ne Nat I D) ∧ (@Ne Nat C D)) → Fr h₀ L h m → News h₀ L h ((I, oI) :: (C, oC) :: (D, oD c) :: sub c) →
        wpAny (model prog w) A (assign tgt (compEnvC scope cl C env) v >>= fun _ => body (.ref D) (compEnvC scope cl C env)) (fun _ s₃ => CTurn h₀ L m (fun c => (D, oD c) :: sub c) (fun c => J (i + 1) c ∧ COff I C D (sub c)) I oI C s₂ s₃) (fun _ _ => False) { s₂ with heap := h, toks := tk }) ∧
      (∀ D c h tk, J n c → Fr h₀ L h (m' D) → News h₀ L h ((D, oD c) :: sub c) → (∀ p ∈ sub c, p.1 ≠ D) → QQ D { s₂ with heap := h, toks := tk })) E s := by
  have ht : s.heap.IsList Dt vs.toArray := ⟨_, (N _ (hmem c₀)).1, rfl, _, rfl⟩
  have hlt : Dt < s.heap.objs.size := Heap.lt_size (N _ (hmem c₀)).1
  have hne : Dt ≠ s.heap.objs.size := Nat.ne_of_lt hlt
  have nI := new_at F (Nat.le_refl s.heap.objs.size)
  have sz : vs.toArray.size = vs.length := by simp
  refine wpAny_pyIter_list ht ?_
  refine ⟨s.heap.objs.size, _, vs.toArray.size, _, _, oD, sub, J, c₀, rfl, Walks.list hh s.heap.objs.size Dt hne vs.toArray, h0, fun i h st => ?_, fun i h h' o D c st e e' _ N' _ => ?_, htgt _, ⟨⟨_, Heap.get?_push_size _ rfl, rfl, rfl⟩, ht.at fun o e => Heap.get?_push_of_some _ e⟩, fun b hb => ?_, F.push _, fun p hp => ⟨Heap.get?_push_of_some _ (N p hp).1, (N p hp).2⟩, nI.1, nI.2,
    fun p hp q => Nat.lt_irrefl _ (q ▸ Heap.lt_size (N p hp).1), hJ, fun C D c i v oI oC m₂ h tk _ hP hj hoC off ne F' N' => turn _ C D c i v oI oC m₂ h tk (by simpa using hP) hj hoC off ne F' N', fun D c h tk hj F' N' off => fin D c h tk (sz ▸ hj) F' N' off⟩
  · obtain ⟨⟨o, e, _⟩, _⟩ := st; exact ⟨o, e⟩
  · exact ⟨st.1.at fun o₂ e₂ => by rw [e] at e₂; cases e₂; exact e', ⟨_, (N' _ (.tail _ (hmem c))).1, rfl, _, rfl⟩⟩
  · show b < (s.heap.push _).objs.size
    rw [Heap.size_push]
    rcases List.mem_cons.mp hb with rfl | hb
    · exact Nat.lt_succ_self _
    · rw [List.mem_singleton.mp hb]; exact Nat.lt_succ_of_lt hlt
end
open PyProof.Rows.LCg (NsObj ns_obj)
theorem lob_push (vs : List Value) (v : Value) (n : Nat) : ({ cls := .type "list", data := .seq (vs.toArray.push v) (n + 1) } : Obj) = lob (vs ++ [v]) (n + 1) := by
  rw [List.push_toArray]
section
variable {prog : Program} {w : World} {A : Around} {E : Value → Shared → Prop} {s : Shared} {h₀ : Heap} {L : Addr} {m : Str → Option Value}
theorem c_append {Q : Value → Shared → Prop} {D : Addr} {vs : List Value} {n : Nat} {v : Value} {news : List (Addr × Obj)} (rest : List (Addr × Obj)) (F : Fr h₀ L s.heap m) (N : News h₀ L s.heap news) (hD : (D, lob vs n) ∈ news) (hr : ∀ p ∈ rest, p ∈ news ∧ p.1 ≠ D) (hsz : vs.length ≤ 1000)
    (h : ∀ h', Fr h₀ L h' m → News h₀ L h' ((D, lob (vs ++ [v]) (n + 1)) :: rest) → Q .none { s with heap := h' }) : wpAny (model prog w) A (call (.builtin "list.append") [.ref D, v]) Q E s := by
  obtain ⟨zD, nD, z0⟩ := N _ hD
  refine append_at (hsz := by rw [List.size_toArray, sizeLine_eq]; omega) zD fun h₅ hs₅ hD₅ => ?_
  refine h h₅ (F.change hs₅ nD z0) fun p hp => ?_
  rcases List.mem_cons.mp hp with rfl | hp
  · exact ⟨hD₅.trans (congrArg some (lob_push vs v n)), nD, z0⟩
  · exact ⟨hs₅.extBut _ _ (hr p hp).2 (N p (hr p hp).1).1, (N p (hr p hp).1).2⟩
end
section
variable {prog : Program} {w : World} {A : Around} {E : Value → Shared → Prop} {s : Shared} {h₀ : Heap} {L : Addr} {m : Str → Option Value} {env : Env}
theorem comp_assign_tuple {σ : Type} {e tgt iter : PySem.Expr} {ifs : List PySem.Expr} {rest : List Comprehension} {body : Value → Env → Sem Unit} {p₀ pos : Pos} (KD : CompKind prog w A e tgt body p₀) {newAcc : Sem Value} {o₀ : Obj} (hf₀ : o₀.isFreed = false)
    (hnew : ∀ (Q : Value → Shared → Prop) (s : Shared), Q (.ref s.heap.objs.size) { s with heap := s.heap.push o₀ } → wpAny (model prog w) A newAcc Q E s)
    {scope : Scope} {cl : List (Str × Addr)} {Dt : Addr} {vs : List Value} {y : Str} {py spos : Pos} {Q : Flow → Shared → Prop} (hLe : env.locals = L)
    (hev : evalThenUse e env = fun use => (comprehension e scope env pos newAcc false (eval iter env) (some use) >>= fun _ => pure ()))
    (hsw : swapsWith e (some (.Name y py)) spos.line env = pure true) (hy : env.kindOf y = some .local) (hp : (env.scope.kind == .class || (env.scope.kind == .module && env.locals != env.globals)) = false)
    (hcl : clausesOf e = ⟨tgt, iter, ifs, 0⟩ :: rest) (hclos : closureFor scope env = pure cl) (hcell : ∀ y ∈ scope.names, y.2 ≠ .cell) (hkind : scope.kind = .function)
    (hnames : ∀ y ∈ scope.names, y.2 = .local → scope.names.lookup y.1 = some .local)
    (hs : ∀ x, foldedSetIterable iter env x = pure x) (hh : A.handled = none) (htgt : ∀ I v, letOwnedTupleGo tgt (.ref I) v = pure ())
    (oD : σ → Obj) (sub : σ → List (Addr × Obj)) (J : Nat → σ → Prop) (c₀ : σ) (h0 : oD c₀ = o₀) (hmem : ∀ c, (Dt, tob vs) ∈ sub c)
    (F : Fr h₀ L s.heap m) (N : News h₀ L s.heap (sub c₀)) (hJ : J 0 c₀)
    (hit : ∀ Q' : Value → Shared → Prop, (∀ tk, Q' (.ref Dt) { s with toks := tk }) → wpAny (model prog w) A (eval iter env) Q' E s)
    (turn : ∀ I C D c i v oI oC m₂ h tk, vs[i]? = some v → J i c → NsObj oC m₂ → COff I C D (sub c) → ((@Ne Nat I C) ∧ (@Ne Nat I D) ∧ (@Ne Nat C D)) → Fr h₀ L h m → News h₀ L h ((I, oI) :: (C, oC) :: (D, oD c) :: sub c) →
      wpAny (model prog w) A (assign tgt (compEnvC scope cl C env) v >>= fun _ => body (.ref D) (compEnvC scope cl C env)) (fun _ s₃ => CTurn h₀ L m (fun c => (D, oD c) :: sub c) (fun c => J (i + 1) c ∧ COff I C D (sub c)) I oI C s s₃) (fun _ _ => False) { s with heap := h, toks := tk })
    (fin : ∀ D c h tk, J vs.length c → Fr h₀ L h (fun z => if z = y then some (.ref D) else m z) → News h₀ L h ((D, oD c) :: sub c) → (∀ p ∈ sub c, p.1 ≠ D) → Q .next { s with heap := h, toks := tk }) :
    wpAny (model prog w) A (exec (.Assign [.Name y py] e spos) env) Q E s :=
  comp_assign KD hf₀ hnew hLe hev hsw hy hp hcl hclos hcell hkind hnames
    (hit _ fun tk => src_tuple (s := { s with toks := tk }) (m' := fun D => (fun z => if z = y then some (.ref D) else m z)) (QQ := fun D s' => Q .next s') oD sub J c₀ h0 hh htgt hmem F N hJ turn fin) hs

theorem comp_assign_list {σ : Type} {e tgt iter : PySem.Expr} {ifs : List PySem.Expr} {rest : List Comprehension} {body : Value → Env → Sem Unit} {p₀ pos : Pos} (KD : CompKind prog w A e tgt body p₀) {newAcc : Sem Value} {o₀ : Obj} (hf₀ : o₀.isFreed = false)
    (hnew : ∀ (Q : Value → Shared → Prop) (s : Shared), Q (.ref s.heap.objs.size) { s with heap := s.heap.push o₀ } → wpAny (model prog w) A newAcc Q E s)
    {scope : Scope} {cl : List (Str × Addr)} {Dt : Addr} {vs : List Value} {nn : Nat} {y : Str} {py spos : Pos} {Q : Flow → Shared → Prop} (hLe : env.locals = L)
    (hev : evalThenUse e env = fun use => (comprehension e scope env pos newAcc false (eval iter env) (some use) >>= fun _ => pure ()))
    (hsw : swapsWith e (some (.Name y py)) spos.line env = pure true) (hy : env.kindOf y = some .local) (hp : (env.scope.kind == .class || (env.scope.kind == .module && env.locals != env.globals)) = false)
    (hcl : clausesOf e = ⟨tgt, iter, ifs, 0⟩ :: rest) (hclos : closureFor scope env = pure cl) (hcell : ∀ y ∈ scope.names, y.2 ≠ .cell) (hkind : scope.kind = .function)
    (hnames : ∀ y ∈ scope.names, y.2 = .local → scope.names.lookup y.1 = some .local)
    (hs : ∀ x, foldedSetIterable iter env x = pure x) (hh : A.handled = none) (htgt : ∀ I v, letOwnedTupleGo tgt (.ref I) v = pure ())
    (oD : σ → Obj) (sub : σ → List (Addr × Obj)) (J : Nat → σ → Prop) (c₀ : σ) (h0 : oD c₀ = o₀) (hmem : ∀ c, (Dt, lob vs nn) ∈ sub c)
    (F : Fr h₀ L s.heap m) (N : News h₀ L s.heap (sub c₀)) (hJ : J 0 c₀)
    (hit : ∀ Q' : Value → Shared → Prop, (∀ tk, Q' (.ref Dt) { s with toks := tk }) → wpAny (model prog w) A (eval iter env) Q' E s)
    (turn : ∀ I C D c i v oI oC m₂ h tk, vs[i]? = some v → J i c → NsObj oC m₂ → COff I C D (sub c) → ((@Ne Nat I C) ∧ (@Ne Nat I D) ∧ (@Ne Nat C D)) → Fr h₀ L h m → News h₀ L h ((I, oI) :: (C, oC) :: (D, oD c) :: sub c) →
      wpAny (model prog w) A (assign tgt (compEnvC scope cl C env) v >>= fun _ => body (.ref D) (compEnvC scope cl C env)) (fun _ s₃ => CTurn h₀ L m (fun c => (D, oD c) :: sub c) (fun c => J (i + 1) c ∧ COff I C D (sub c)) I oI C s s₃) (fun _ _ => False) { s with heap := h, toks := tk })
    (fin : ∀ D c h tk, J vs.length c → Fr h₀ L h (fun z => if z = y then some (.ref D) else m z) → News h₀ L h ((D, oD c) :: sub c) → (∀ p ∈ sub c, p.1 ≠ D) → Q .next { s with heap := h, toks := tk }) :
    wpAny (model prog w) A (exec (.Assign [.Name y py] e spos) env) Q E s :=
  comp_assign KD hf₀ hnew hLe hev hsw hy hp hcl hclos hcell hkind hnames
    (hit _ fun tk => src_list (s := { s with toks := tk }) (m' := fun D => (fun z => if z = y then some (.ref D) else m z)) (QQ := fun D s' => Q .next s') oD sub J c₀ h0 hh htgt hmem F N hJ turn fin) hs

theorem comp_eval_tuple {σ : Type} {e tgt iter : PySem.Expr} {ifs : List PySem.Expr} {rest : List Comprehension} {body : Value → Env → Sem Unit} {p₀ pos : Pos} (KD : CompKind prog w A e tgt body p₀) {newAcc : Sem Value} {o₀ : Obj} (hf₀ : o₀.isFreed = false)
    (hnew : ∀ (Q : Value → Shared → Prop) (s : Shared), Q (.ref s.heap.objs.size) { s with heap := s.heap.push o₀ } → wpAny (model prog w) A newAcc Q E s)
    {scope : Scope} {cl : List (Str × Addr)} {Dt : Addr} {vs : List Value} {Q : Value → Shared → Prop}
    (hcl : clausesOf e = ⟨tgt, iter, ifs, 0⟩ :: rest) (hclos : closureFor scope env = pure cl) (hcell : ∀ y ∈ scope.names, y.2 ≠ .cell) (hkind : scope.kind = .function)
    (hnames : ∀ y ∈ scope.names, y.2 = .local → scope.names.lookup y.1 = some .local)
    (hs : ∀ x, foldedSetIterable iter env x = pure x) (hh : A.handled = none) (htgt : ∀ I v, letOwnedTupleGo tgt (.ref I) v = pure ())
    (oD : σ → Obj) (sub : σ → List (Addr × Obj)) (J : Nat → σ → Prop) (c₀ : σ) (h0 : oD c₀ = o₀) (hmem : ∀ c, (Dt, tob vs) ∈ sub c)
    (F : Fr h₀ L s.heap m) (N : News h₀ L s.heap (sub c₀)) (hJ : J 0 c₀)
    (hit : ∀ Q' : Value → Shared → Prop, (∀ tk, Q' (.ref Dt) { s with toks := tk }) → wpAny (model prog w) A (eval iter env) Q' E s)
    (turn : ∀ I C D c i v oI oC m₂ h tk, vs[i]? = some v → J i c → NsObj oC m₂ → COff I C D (sub c) → ((@Ne Nat I C) ∧ (@Ne Nat I D) ∧ (@Ne Nat C D)) → Fr h₀ L h m → News h₀ L h ((I, oI) :: (C, oC) :: (D, oD c) :: sub c) →
      wpAny (model prog w) A (assign tgt (compEnvC scope cl C env) v >>= fun _ => body (.ref D) (compEnvC scope cl C env)) (fun _ s₃ => CTurn h₀ L m (fun c => (D, oD c) :: sub c) (fun c => J (i + 1) c ∧ COff I C D (sub c)) I oI C s s₃) (fun _ _ => False) { s with heap := h, toks := tk })
    (fin : ∀ D c h tk, J vs.length c → Fr h₀ L h m → News h₀ L h ((D, oD c) :: sub c) → (∀ p ∈ sub c, p.1 ≠ D) → Q (.ref D) { s with heap := h, toks := tk }) :
    wpAny (model prog w) A (comprehension e scope env pos newAcc false (eval iter env) none) Q E s :=
  comp_eval KD hf₀ hnew hcl hclos hcell hkind hnames
    (hit _ fun tk => src_tuple (s := { s with toks := tk }) (m' := fun D => m) (QQ := fun D s' => Q (.ref D) s') oD sub J c₀ h0 hh htgt hmem F N hJ turn fin) hs

theorem comp_eval_list {σ : Type} {e tgt iter : PySem.Expr} {ifs : List PySem.Expr} {rest : List Comprehension} {body : Value → Env → Sem Unit} {p₀ pos : Pos} (KD : CompKind prog w A e tgt body p₀) {newAcc : Sem Value} {o₀ : Obj} (hf₀ : o₀.isFreed = false)
    (hnew : ∀ (Q : Value → Shared → Prop) (s : Shared), Q (.ref s.heap.objs.size) { s with heap := s.heap.push o₀ } → wpAny (model prog w) A newAcc Q E s)
    {scope : Scope} {cl : List (Str × Addr)} {Dt : Addr} {vs : List Value} {nn : Nat} {Q : Value → Shared → Prop}
    (hcl : clausesOf e = ⟨tgt, iter, ifs, 0⟩ :: rest) (hclos : closureFor scope env = pure cl) (hcell : ∀ y ∈ scope.names, y.2 ≠ .cell) (hkind : scope.kind = .function)
    (hnames : ∀ y ∈ scope.names, y.2 = .local → scope.names.lookup y.1 = some .local)
    (hs : ∀ x, foldedSetIterable iter env x = pure x) (hh : A.handled = none) (htgt : ∀ I v, letOwnedTupleGo tgt (.ref I) v = pure ())
    (oD : σ → Obj) (sub : σ → List (Addr × Obj)) (J : Nat → σ → Prop) (c₀ : σ) (h0 : oD c₀ = o₀) (hmem : ∀ c, (Dt, lob vs nn) ∈ sub c)
    (F : Fr h₀ L s.heap m) (N : News h₀ L s.heap (sub c₀)) (hJ : J 0 c₀)
    (hit : ∀ Q' : Value → Shared → Prop, (∀ tk, Q' (.ref Dt) { s with toks := tk }) → wpAny (model prog w) A (eval iter env) Q' E s)
    (turn : ∀ I C D c i v oI oC m₂ h tk, vs[i]? = some v → J i c → NsObj oC m₂ → COff I C D (sub c) → ((@Ne Nat I C) ∧ (@Ne Nat I D) ∧ (@Ne Nat C D)) → Fr h₀ L h m → News h₀ L h ((I, oI) :: (C, oC) :: (D, oD c) :: sub c) →
      wpAny (model prog w) A (assign tgt (compEnvC scope cl C env) v >>= fun _ => body (.ref D) (compEnvC scope cl C env)) (fun _ s₃ => CTurn h₀ L m (fun c => (D, oD c) :: sub c) (fun c => J (i + 1) c ∧ COff I C D (sub c)) I oI C s s₃) (fun _ _ => False) { s with heap := h, toks := tk })
    (fin : ∀ D c h tk, J vs.length c → Fr h₀ L h m → News h₀ L h ((D, oD c) :: sub c) → (∀ p ∈ sub c, p.1 ≠ D) → Q (.ref D) { s with heap := h, toks := tk }) :
    wpAny (model prog w) A (comprehension e scope env pos newAcc false (eval iter env) none) Q E s :=
  comp_eval KD hf₀ hnew hcl hclos hcell hkind hnames
    (hit _ fun tk => src_list (s := { s with toks := tk }) (m' := fun D => m) (QQ := fun D s' => Q (.ref D) s') oD sub J c₀ h0 hh htgt hmem F N hJ turn fin) hs

end
section
variable {prog : Program} {w : World} {A : Around} {E : Value → Shared → Prop} {s : Shared}
theorem nextOf_tup {it t : Addr} {i : Nat} {items : Array Value} {x : Value} {Q : Value → Shared → Prop} (hit : s.heap.IsTupleIter it t i) (ht : s.heap.IsTuple t items) (hx : items[i]? = some x)
    (hQ : ∀ h', h'.IsTupleIter it t (i + 1) → Heap.SameBut it s.heap h' → Q x { s with heap := h' }) : wpAny (model prog w) A (Builtin.SmallTypes.nextOf (.ref it)) Q E s := by
  obtain ⟨o, ho, hc, hd⟩ := id hit
  obtain ⟨ol, hol, _, nl, hdl⟩ := ht
  unfold Builtin.SmallTypes.nextOf
  refine wpAny_bind (wpAny_callSpecial?_slot (name := Str.ofString "__next__") hit.typeIs F.slot_tuple_iterator_next
    (wpAny_call_entry F.slot_tuple_iterator_next hit.typeIs F.entry_tuple_iterator_next ?_ (F.args_tuple_iterator_next_1 _)))
  show wpAny _ _ (field (.ref it) 0 >>= _) _ _ s
  refine wpAny_bind (wpAny_field ho hd (x := .ref t) rfl ?_)
  show wpAny _ _ (if (Value.ref t == Value.none) = true then _ else _) _ _ s
  rw [if_neg (show ¬ ((Value.ref t == Value.none) = true) from Bool.false_ne_true)]
  show wpAny _ _ (field (.ref it) 1 >>= _) _ _ s
  refine wpAny_bind (wpAny_field ho hd (x := .int i 0) rfl ?_)
  show wpAny _ _ (seqItems? (.ref t) >>= _) _ _ s
  refine wpAny_bind (wpAny_seqItems hol hdl ?_)
  simp only [Int.toNat_natCast, hx]
  refine wpAny_bind (wpAny_setField ho hd (by simp) (wpAny_pure ⟨x, rfl, wpAny_pure (hQ _ ?_ (Heap.SameBut.update ..))⟩))
  exact ⟨_, Heap.get?_update_self _ ho (Obj.isFreed_of_fields (Obj.data_mapFields hd _)), (Obj.cls_mapFields ..).trans hc, by
    rw [Obj.data_mapFields hd]; simp [rawInt]⟩
theorem nextOf_tup_end {it t : Addr} {i : Nat} {items : Array Value} {Q : Value → Shared → Prop} (hh : A.handled = none) (hit : s.heap.IsTupleIter it t i) (ht : s.heap.IsTuple t items) (hx : items[i]? = none)
    (hE : ∀ h' e, Heap.ExtBut it s.heap h' → (∃ o, h'.get? e = some o ∧ o.cls = .type "StopIteration") → E (.ref e) { s with heap := h' }) : wpAny (model prog w) A (Builtin.SmallTypes.nextOf (.ref it)) Q E s := by
  obtain ⟨o, ho, hc, hd⟩ := id hit
  obtain ⟨ol, hol, _, nl, hdl⟩ := ht
  unfold Builtin.SmallTypes.nextOf
  refine wpAny_bind (wpAny_callSpecial?_slot (name := Str.ofString "__next__") hit.typeIs F.slot_tuple_iterator_next
    (wpAny_call_entry F.slot_tuple_iterator_next hit.typeIs F.entry_tuple_iterator_next ?_ (F.args_tuple_iterator_next_1 _)))
  show wpAny _ _ (field (.ref it) 0 >>= _) _ _ s
  refine wpAny_bind (wpAny_field ho hd (x := .ref t) rfl ?_)
  show wpAny _ _ (if (Value.ref t == Value.none) = true then _ else _) _ _ s
  rw [if_neg (show ¬ ((Value.ref t == Value.none) = true) from Bool.false_ne_true)]
  show wpAny _ _ (field (.ref it) 1 >>= _) _ _ s
  refine wpAny_bind (wpAny_field ho hd (x := .int i 0) rfl ?_)
  show wpAny _ _ (seqItems? (.ref t) >>= _) _ _ s
  refine wpAny_bind (wpAny_seqItems hol hdl ?_)
  simp only [Int.toNat_natCast, hx]
  refine wpAny_bind (wpAny_rule (wpAny_bind (wpAny_setField ho hd (by simp) ?_)))
  show wpAny _ _ (newExc (.type "StopIteration") [] >>= _) _ _ _
  refine wpAny_bind ?_
  simp only [newExc, newTuple]
  refine wpAny_bind (wpAny_newObj_type ?_ (by size_fits))
  refine wpAny_bind (m := firstArgMember _ _) (wpAny_of_eq (a := Value.none) (by first | rfl | (simp only [firstArgMember]; rfl)) ?_)
  refine wpAny_newObj_type ?_ (by size_fits)
  simp only [raiseNew]
  refine wpAny_bind (wpAny_handled ?_)
  first | rw [show A.in1.handled = none from hh] | rw [hh]
  refine wpAny_bind (wpAny_pure (wpAny_throw ?_))
  exact hE _ _ (((Heap.SameBut.update ..).extBut.push _).push _) ⟨_, Heap.get?_push_size _ rfl, rfl⟩
theorem enum_tup_item {e it l : Addr} {i : Nat} {items : Array Value} {x old : Value} {Q : Value → Shared → Prop}
    (he : IsEnum s.heap e it i old) (hit : s.heap.IsTupleIter it l i) (hl : s.heap.IsTuple l items) (hx : items[i]? = some x) (hne : e ≠ it)
    (hQ : ∀ h', IsEnumOut h' e it ((i : Int) + 1) x s.heap.objs.size → h'.IsTupleIter it l (i + 1) →
      h'.get? s.heap.objs.size = some { cls := .type "tuple", data := .seq #[.int i s.toks, x] } → h'.objs.size = s.heap.objs.size + 1 →
      (∀ b o, b ≠ e → b ≠ it → s.heap.get? b = some o → h'.get? b = some o) → Q (.ref s.heap.objs.size) { s with heap := h', toks := s.toks + 1 }) :
    wpAny (model prog w) A (Builtin.«enumerate.__next__» ⟨[.ref e], []⟩) (fun fin s' => ∃ v, fin = .done (.ret v) ∧ Q v s') E s := by
  obtain ⟨hp, g, d, tk, os⟩ := s
  show wpAny _ _ (field (.ref e) 2 >>= _) _ _ _
  refine wpAny_bind (wpAny_field he rfl (x := .ref it) rfl ?_)
  refine wpAny_bind (nextOf_tup hit hl hx fun h₁ hit₁ hs₁ => ?_)
  replace hs₁ : Heap.SameBut it hp h₁ := hs₁
  have he₁ : IsEnum h₁ e it i old := (hs₁.2 e hne).trans he
  show wpAny _ _ (field (.ref e) 3 >>= _) _ _ ⟨h₁, g, d, tk, os⟩
  refine wpAny_bind (wpAny_field he₁ rfl (x := rawInt i) rfl ?_)
  show wpAny _ _ (field (.ref e) 4 >>= _) _ _ ⟨h₁, g, d, tk, os⟩
  refine wpAny_bind (wpAny_field he₁ rfl (x := .none) rfl ?_)
  show wpAny _ _ (mkInt i >>= _) _ _ ⟨h₁, g, d, tk, os⟩
  refine wpAny_bind (wpAny_mkInt ?_)
  show wpAny _ _ (setField (.ref e) 3 (rawInt ((i : Int) + 1)) >>= _) _ _ ⟨h₁, g, d, tk + 1, os⟩
  refine wpAny_bind (wpAny_setField_rec he₁ (by simp) fun h₂ he₂ hs₂ => ?_)
  replace hs₂ : Heap.SameBut e h₁ h₂ := hs₂
  replace he₂ : IsEnum h₂ e it ((i : Int) + 1) old := he₂
  show wpAny _ _ (setField (.ref e) 4 .none >>= _) _ _ ⟨h₂, g, d, tk + 1, os⟩
  refine wpAny_bind (wpAny_setField_rec he₂ (by simp) fun h₃ he₃ hs₃ => ?_)
  replace hs₃ : Heap.SameBut e h₂ h₃ := hs₃
  replace he₃ : IsEnum h₃ e it ((i : Int) + 1) old := he₃
  show wpAny _ _ (newTuple [.int i tk, x] >>= _) _ _ ⟨h₃, g, d, tk + 1, os⟩
  refine wpAny_bind (wpAny_newTuple ?_)
  have he₄ : IsEnum (h₃.push { cls := .type "tuple", data := .seq #[.int i tk, x] }) e it ((i : Int) + 1) old := Heap.get?_push_of_some _ he₃
  generalize hh₄ : h₃.push { cls := .type "tuple", data := .seq #[.int i tk, x] } = h₄ at he₄
  have hsz : h₃.objs.size = hp.objs.size := by rw [hs₃.1, hs₂.1, hs₁.1]
  have hel : e < hp.objs.size := Heap.lt_size he
  have ht₄ : h₄.get? hp.objs.size = some { cls := .type "tuple", data := .seq #[.int i tk, x] } := by rw [← hh₄, ← hsz]; exact Heap.get?_push_size _ rfl
  have hz₄ : h₄.objs.size = hp.objs.size + 1 := by rw [← hh₄, Heap.size_push, hsz]
  have hk₄ : ∀ b o, b ≠ e → b ≠ it → hp.get? b = some o → h₄.get? b = some o := fun b o hbe hbi hb => by
    rw [← hh₄]; exact Heap.get?_push_of_some _ (hs₃.extBut b o hbe (hs₂.extBut b o hbe (hs₁.extBut b o hbi hb)))
  have hit₄ : h₄.IsTupleIter it l (i + 1) := by
    rw [← hh₄]; obtain ⟨o, ho, r⟩ := (hit₁.extBut hs₂.extBut (Ne.symm hne)).extBut hs₃.extBut (Ne.symm hne); exact ⟨o, Heap.get?_push_of_some _ ho, r⟩
  show wpAny _ _ (Builtin.SmallTypes.ownedTupleIsFree (.ref e) >>= _) _ _ ⟨h₄, g, d, tk + 1, os⟩
  rw [hsz]
  clear hh₄ he₃ hs₃ he₂ hs₂ he₁ hs₁ hit₁ hsz h₃ h₂ h₁
  refine wpAny_bind ?_
  · unfold Builtin.SmallTypes.ownedTupleIsFree
    refine wpAny_bind (wpAny_field he₄ rfl (x := .none) rfl (wpAny_pure ?_))
    simp only [if_true]
    refine wpAny_bind (wpAny_rule ?_)
    refine wpAny_bind (wpAny_field he₄ rfl (x := old) rfl ?_)
    refine wpAny_bind (wpAny_setField_rec he₄ (by simp) fun h₅ he₅ hs₅ => ?_)
    replace hs₅ : Heap.SameBut e h₄ h₅ := hs₅
    replace he₅ : IsEnum h₅ e it ((i : Int) + 1) x := he₅
    show wpAny _ _ (Builtin.SmallTypes.ownedTupleHandOut (.ref e) (.ref hp.objs.size) >>= _) _ _ ⟨h₅, g, d, tk + 1, os⟩
    refine wpAny_bind ?_
    · unfold Builtin.SmallTypes.ownedTupleHandOut
      refine wpAny_bind (wpAny_setField_rec he₅ (by simp) fun h₆ he₆ hs₆ => ?_)
      replace hs₆ : Heap.SameBut e h₅ h₆ := hs₆
      replace he₆ : IsEnumOut h₆ e it ((i : Int) + 1) x hp.objs.size := he₆
      refine wpAny_setField_rec he₆ (by simp) fun h₇ he₇ hs₇ => ?_
      replace hs₇ : Heap.SameBut e h₆ h₇ := hs₇
      replace he₇ : IsEnumOut h₇ e it ((i : Int) + 1) x hp.objs.size := he₇
      refine wpAny_bind (wpAny_letGo (wpAny_pure ⟨_, rfl, hQ h₇ he₇ ?_ ?_ ?_ ?_⟩))
      · exact ((hit₄.extBut hs₅.extBut (Ne.symm hne)).extBut hs₆.extBut (Ne.symm hne)).extBut hs₇.extBut (Ne.symm hne)
      · exact hs₇.extBut _ _ (Nat.ne_of_gt hel) (hs₆.extBut _ _ (Nat.ne_of_gt hel) (hs₅.extBut _ _ (Nat.ne_of_gt hel) ht₄))
      · rw [hs₇.1, hs₆.1, hs₅.1, hz₄]
      · exact fun b o hbe hbi hb => hs₇.extBut b o hbe (hs₆.extBut b o hbe (hs₅.extBut b o hbe (hk₄ b o hbe hbi hb)))
theorem enum_tup_next {e it l : Addr} {i : Nat} {items : Array Value} {x old : Value} {Q : Option Value → Shared → Prop}
    (he : IsEnum s.heap e it i old) (hit : s.heap.IsTupleIter it l i) (hl : s.heap.IsTuple l items) (hx : items[i]? = some x) (hne : e ≠ it)
    (hQ : ∀ h', IsEnumOut h' e it ((i : Int) + 1) x s.heap.objs.size → h'.IsTupleIter it l (i + 1) →
      h'.get? s.heap.objs.size = some { cls := .type "tuple", data := .seq #[.int i s.toks, x] } → h'.objs.size = s.heap.objs.size + 1 →
      (∀ b o, b ≠ e → b ≠ it → s.heap.get? b = some o → h'.get? b = some o) → Q (some (.ref s.heap.objs.size)) { s with heap := h', toks := s.toks + 1 }) :
    wpAny (model prog w) A (pyNext (.ref e)) Q E s := by
  have hT : s.TypeIs (.ref e) "enumerate" := ⟨_, he, rfl⟩
  unfold pyNext
  exact wpAny_bind (wpAny_attempt (wpAny_callSpecial?_slot (name := Str.ofString "__next__") hT F.slot_enumerate_next
    (wpAny_call_entry F.slot_enumerate_next hT F.entry_enumerate_next
      (enum_tup_item he hit hl hx hne fun h' a b c d k => wpAny_pure (hQ h' a b c d k)) (F.args_enumerate_next_1 _))))
theorem enum_tup_end {e it l : Addr} {i : Nat} {items : Array Value} {old : Value} {Q : Option Value → Shared → Prop} (hh : A.handled = none)
    (he : IsEnum s.heap e it i old) (hit : s.heap.IsTupleIter it l i) (hl : s.heap.IsTuple l items) (hx : items[i]? = none)
    (hQ : ∀ h', Heap.ExtBut it s.heap h' → Q none { s with heap := h' }) : wpAny (model prog w) A (pyNext (.ref e)) Q E s := by
  have hT : s.TypeIs (.ref e) "enumerate" := ⟨_, he, rfl⟩
  unfold pyNext
  refine wpAny_bind (wpAny_attempt (wpAny_callSpecial?_slot (name := Str.ofString "__next__") hT F.slot_enumerate_next
    (wpAny_call_entry F.slot_enumerate_next hT F.entry_enumerate_next ?_ (F.args_enumerate_next_1 _))))
  show wpAny _ _ (field (.ref e) 2 >>= _) _ _ _
  refine wpAny_bind (wpAny_field he rfl (x := .ref it) rfl ?_)
  refine wpAny_bind (nextOf_tup_end hh hit hl hx fun h' x he' hx' => ?_)
  obtain ⟨o, ho, hc⟩ := hx'
  refine wpAny_bind (wpAny_isInstance (T := "StopIteration") (b := true) ⟨o, ho, hc⟩ isSubtype_stop ?_)
  exact wpAny_pure (hQ _ he')
theorem WT_enum_tup (hh : A.handled = none) (e it l : Addr) (hei : e ≠ it) (hle : l ≠ e) (hli : l ≠ it) (items : Array Value) :
    WalksT prog w A e [e, it, l] [e, it] items.size
      (fun i vals => ∃ t x, items[i]? = some x ∧ vals = #[.int i t, x])
      (fun i h => (∃ old, IsEnum h e it i old) ∧ h.IsTupleIter it l i ∧ h.IsTuple l items)
      (fun i T h => (∃ x, IsEnumOut h e it ((i : Int) + 1) x T) ∧ h.IsTupleIter it l (i + 1) ∧ h.IsTuple l items ∧ T ≠ e ∧ T ≠ it) where
  sub := fun b hb => by
    rcases List.mem_cons.mp hb with rfl | hb
    · exact List.mem_cons_self ..
    · exact List.mem_cons_of_mem _ (by rcases List.mem_cons.mp hb with rfl | hb; exact List.mem_cons_self ..; cases hb)
  frame := fun i h h' hst hk => by
    obtain ⟨⟨old, he⟩, hit, hl⟩ := hst
    exact ⟨⟨old, hk e (by simp) _ he⟩, hit.at fun o x => hk it (by simp) o x, hl.at fun o x => hk l (by simp) o x⟩
  item := fun i s Q E hi hst hQ => by
    obtain ⟨⟨old, he⟩, hit, hl⟩ := hst
    have hx : items[i]? = some items[i] := Array.getElem?_eq_getElem hi
    refine enum_tup_next he hit hl hx hei fun h' ho hit' hT hsz hk => ?_
    have helt : e < s.heap.objs.size := Heap.lt_size he
    have hilt : it < s.heap.objs.size := by obtain ⟨_, x, _⟩ := hit; exact Heap.lt_size x
    exact hQ s.heap.objs.size #[.int i s.toks, items[i]] h' (s.toks + 1) ⟨_, _, hx, rfl⟩ (Nat.le_refl _) ⟨_, hT, rfl, _, rfl⟩
      ⟨⟨_, ho⟩, hit', hl.at fun o x => hk l o hle hli x, Nat.ne_of_gt helt, Nat.ne_of_gt hilt⟩
      fun b o hb x => hk b o (fun e' => hb (by simp [e'])) (fun e' => hb (by simp [e'])) x
  go := fun elts k pos i T s Q E hm hQ => by
    obtain ⟨⟨x, ho⟩, hit, hl, hTe, hTi⟩ := hm
    refine wpAny_letOwnedTupleGo_enum ho fun h' he' hs' => hQ h' ⟨⟨x, by simpa using he'⟩, hit.at fun o y => (hs'.2 it hei.symm).trans y, hl.at fun o y => (hs'.2 l hle).trans y⟩ fun b o hb y => ?_
    exact (hs'.2 b fun e' => hb (by simp [e'])).trans y
  apart := fun i T h hm hT => by
    obtain ⟨_, _, _, hTe, hTi⟩ := hm
    rcases List.mem_cons.mp hT with rfl | hT
    · exact hTe rfl
    · rcases List.mem_cons.mp hT with rfl | hT
      · exact hTi rfl
      · cases hT
  done := fun s Q E hst hQ => by
    obtain ⟨⟨old, he⟩, hit, hl⟩ := hst
    exact enum_tup_end hh he hit hl (Array.getElem?_eq_none (Nat.le_refl _)) fun h' hx => hQ h' s.toks fun b o hb y => hx b o (fun e' => hb (by simp [e'])) y
  self := fun i s Q E hst hQ => by
    obtain ⟨⟨old, he⟩, _, _⟩ := hst
    exact wpAny_pyIter_enum he hQ
theorem enum_tup_new (l : Addr) (items : Array Value) (n : Nat) (dct : Option Addr) (sl : Array (Option Value)) :
    Meets (Builtin.«enumerate.__new__» ⟨[.type "enumerate", .ref l], []⟩) (fun _ R s => s.heap.get? l = some { cls := .type "tuple", dict := dct, data := .seq items n, slots := sl } ∧
      R (.ok (.ret (.ref (s.heap.push { cls := .type "tuple_iterator", data := .fields #[.ref l, .int 0 0] }).objs.size)))
        { s with heap := (s.heap.push { cls := .type "tuple_iterator", data := .fields #[.ref l, .int 0 0] }).push { cls := .type "enumerate", data := .fields #[.none, .bool false, .ref s.heap.objs.size, rawInt 0, .none, .none] } }) :=
  .of_wp fun prog w A R s h => by
    obtain ⟨hp, g, d, tk, os⟩ := s; obtain ⟨hl, h⟩ := h
    have hsub := sub_enumerate
    have hL : Heap.IsTuple (Shared.heap ⟨hp, g, d, tk, os⟩) l items := ⟨_, hl, rfl, n, rfl⟩
    wp_walk using AutoSeq1.wpAny_loadPart' hl
    refine wpAny_stack_any fun st => wpAny_pure ?_
    split
    · rename_i c _ _ _ _ _
      cases (c == Value.type "enumerate")
      · wp_walk using AutoSeq1.wpAny_loadPart' hl, wpAny_pyIter_tuple hL
        exact ⟨_, rfl, h⟩
      · wp_walk using AutoSeq1.wpAny_loadPart' hl, wpAny_pyIter_tuple hL
        exact ⟨_, rfl, h⟩
    · wp_walk using AutoSeq1.wpAny_loadPart' hl, wpAny_pyIter_tuple hL
      exact ⟨_, rfl, h⟩
theorem call_enum_tup {l : Addr} {items : Array Value} {Q : Value → Shared → Prop} (hL : s.heap.IsTuple l items)
    (h : ∀ h', IsEnum h' (s.heap.objs.size + 1) s.heap.objs.size 0 .none → h'.IsTupleIter s.heap.objs.size l 0 → h'.objs.size = s.heap.objs.size + 2 →
      (∀ b o, s.heap.get? b = some o → h'.get? b = some o) → Q (.ref (s.heap.objs.size + 1)) { s with heap := h' }) :
    wpAny (model prog w) A (call (.type "enumerate") [.ref l]) Q E s := by
  obtain ⟨⟨c, dct, dt, sl⟩, hl, hc, n, hd⟩ := hL
  replace hc : c = .type "tuple" := hc
  replace hd : dt = .seq items n := hd
  subst hc hd
  refine callType_new F.called_enumerate (by decide) (F.typeCall_enumerate_1 _) (F.newCall_enumerate_1 _) (fun obj => F.args_object_init_2 obj _) F.entry_enumerate_new
    (enum_tup_new l items n dct sl) ⟨hl, ?_⟩
  have hz : (s.heap.push { cls := .type "tuple_iterator", data := .fields #[.ref l, .int 0 0] }).objs.size = s.heap.objs.size + 1 := Heap.size_push ..
  show _ ∧ _
  rw [hz]
  have he : IsEnum ((s.heap.push { cls := .type "tuple_iterator", data := .fields #[.ref l, .int 0 0] }).push
      { cls := .type "enumerate", data := .fields #[.none, .bool false, .ref s.heap.objs.size, rawInt 0, .none, .none] }) (s.heap.objs.size + 1) s.heap.objs.size 0 .none := by
    have := Heap.get?_push_size (s.heap.push { cls := .type "tuple_iterator", data := .fields #[.ref l, .int 0 0] })
      (o := { cls := .type "enumerate", data := .fields #[.none, .bool false, .ref s.heap.objs.size, rawInt 0, .none, .none] }) rfl
    rw [hz] at this; exact this
  refine ⟨⟨_, he, rfl⟩, h _ he ⟨_, Heap.get?_push_of_some _ (Heap.get?_push_size _ rfl), rfl, rfl⟩ (by rw [Heap.size_push, hz]) fun b o x => Heap.get?_push_of_some _ (Heap.get?_push_of_some _ x)⟩
end
noncomputable def TurnN {σ : Type} (h₀ : Heap) (L : Addr) (Led : σ → List (Addr × Obj)) (P : σ → Prop) (ks : List Str) (m : Str → Option Value) (own : List (Addr × Obj)) (s : Shared) (f : Flow) (s₂ : Shared) : Prop :=
  f = .next ∧ ∃ c' m' h' tk', s₂ = { s with heap := h', toks := tk' } ∧ Fr h₀ L h' m' ∧ News h₀ L h' (Led c' ++ own) ∧ P c' ∧ ∀ y, y ∉ ks → m' y = m y
section
variable {prog : Program} {w : World} {A : Around} {E : Value → Shared → Prop} {s : Shared} {h₀ : Heap} {env : Env} {m : Str → Option Value}
theorem enum_made {σ : Type} {l : Addr} {items : Array Value} {xi xc : Str} {body : List Stmt} {Q : Flow → Shared → Prop} (Led : σ → List (Addr × Obj)) (P : Nat → σ → Prop) (ks : List Str) (c₀ : σ) (hh : A.handled = none)
    (hadr : ∀ c, (Led c).map (·.1) = (Led c₀).map (·.1)) (hki : xi ∈ ks) (hkc : xc ∈ ks) (F : Fr h₀ env.locals s.heap m) (N : News h₀ env.locals s.heap (Led c₀)) (hl : h₀.IsTuple l items) (hp : P 0 c₀)
    (turn : ∀ (c : σ) (i : Nat) (v : Value) (t : Tok) (m₁ : Str → Option Value) (own : List (Addr × Obj)) (h : Heap) (tk : Nat), items[i]? = some v → P i c → (∀ y, y ∉ ks → m₁ y = m y) → (∀ q ∈ Led c, ∀ p ∈ own, p.1 ≠ q.1) →
      Fr h₀ env.locals h (fun y => if y = xc then some v else if y = xi then some (.int i t) else m₁ y) → News h₀ env.locals h (Led c ++ own) →
      wpAny (model prog w) A (execs body env) (TurnN h₀ env.locals Led (P (i + 1)) ks m own s) E { s with heap := h, toks := tk })
    (done : ∀ (c : σ) (h' : Heap) (tk : Nat) (m' : Str → Option Value), P items.size c → Fr h₀ env.locals h' m' → (∀ y, y ∉ ks → m' y = m y) → News h₀ env.locals h' (Led c) → Q .next { s with heap := h', toks := tk }) :
    wpAny (model prog w) A (call (.type "enumerate") [.ref l]) (fun xv s₁ => wpAny (model prog w) A (pyIter xv) (fun it s₂ => PairAt3 prog w A h₀ env xi xc body Q E it s₂) E s₁) E s := by
  have hls : s.heap.IsTuple l items := hl.at fun o e => F.keep l o e
  have hlt : l < s.heap.objs.size := by obtain ⟨o, ho, _⟩ := hls; exact Heap.lt_size ho
  have hl0 : h₀.get? l ≠ none := by obtain ⟨o, ho, _⟩ := hl; rw [ho]; exact Option.some_ne_none _
  have hLt := F.ns.lt
  refine call_enum_tup hls fun h' he hit hsz up => ?_
  refine wpAny_pyIter_enum (s := { s with heap := h' }) he ?_
  have a1 : s.heap.objs.size + 1 ≠ s.heap.objs.size := Nat.succ_ne_self _
  have a2 : l ≠ s.heap.objs.size + 1 := Nat.ne_of_lt (Nat.lt_succ_of_lt hlt)
  have a3 : l ≠ s.heap.objs.size := Nat.ne_of_lt hlt
  have W := WT_enum_tup (prog := prog) (w := w) hh (s.heap.objs.size + 1) s.heap.objs.size l a1 a2 a3 items
  have nI := new_at F (Nat.le_refl s.heap.objs.size)
  have nE := new_at F (Nat.le_succ s.heap.objs.size)
  have led : ∀ q ∈ Led c₀, q.1 ∉ [s.heap.objs.size + 1, s.heap.objs.size] := by
    intro p hp hm
    have := Heap.lt_size (N p hp).1
    rcases List.mem_cons.mp hm with e | hm
    · rw [e] at this; exact absurd this (Nat.not_lt.mpr (Nat.le_succ _))
    · rw [List.mem_singleton.mp hm] at this; exact Nat.lt_irrefl _ this
  have lednew : ∀ q ∈ Led c₀, q.1 ≠ l := fun q hq e => hl0 (e ▸ (N q hq).2.2)
  refine ⟨s.heap.objs.size + 1, _, _, _, _, _, _, fun i v0 v1 => ∃ t, v0 = .int i t ∧ items[i]? = some v1, m, Led c₀, fun i m₁ news₁ => ∃ c, news₁ = Led c ∧ P i c ∧ ∀ y, y ∉ ks → m₁ y = m y, rfl, W, ?_, ?_, ?_, led, ⟨⟨_, he⟩, hit, hls.at fun o e => up _ o e⟩, F.keeps up, fun p hp => ⟨up _ _ (N p hp).1, (N p hp).2⟩, ⟨c₀, rfl, hp, fun _ _ => rfl⟩, ?_, ?_⟩
  · rintro i vals ⟨t, x, hx, rfl⟩
    exact ⟨_, _, rfl, t, rfl, hx⟩
  · intro hm
    rcases List.mem_cons.mp hm with e | hm
    · exact absurd hLt (by rw [e]; exact Nat.not_lt.mpr (Nat.le_succ _))
    rcases List.mem_cons.mp hm with e | hm
    · exact absurd hLt (by rw [e]; exact Nat.lt_irrefl _)
    · obtain ⟨o, ho, _⟩ := hl
      have e := List.mem_singleton.mp hm
      exact Nat.not_lt.mpr F.above (e ▸ Heap.lt_size ho)
  · intro b hb
    rcases List.mem_cons.mp hb with rfl | hb
    · exact nE.2
    · rw [List.mem_singleton.mp hb]; exact nI.2
  · rintro i v0 v1 m₁ news₁ s₁ own ⟨h₁, tk₁, rfl⟩ hi ⟨t, rfl, hv⟩ ⟨c, rfl, hPc, hm⟩ ha hown F₁ N₁
    have off : ∀ q ∈ Led c, ∀ p ∈ own, p.1 ≠ q.1 := by
      intro q hq p hp e
      have h1 : q.1 ∈ (Led c₀).map (·.1) := by rw [← hadr c]; exact List.mem_map_of_mem hq
      obtain ⟨q', hq', e'⟩ := List.mem_map.mp h1
      have h2 := hown p hp
      rw [e, ← e'] at h2
      rcases List.mem_cons.mp h2 with h2 | h2
      · exact led q' hq' (by rw [h2]; exact .head _)
      rcases List.mem_cons.mp h2 with h2 | h2
      · exact led q' hq' (by rw [h2]; exact .tail _ (.head _))
      · exact lednew q' hq' (List.mem_singleton.mp h2)
    have N₂ : News h₀ env.locals h₁ (Led c ++ own) := fun p hp => N₁ p (by
      rcases List.mem_append.mp hp with h | h
      · exact List.mem_append_right _ h
      · exact List.mem_append_left _ h)
    refine wpAny_mono (turn c i v1 t m₁ own h₁ tk₁ hv hPc hm off F₁ N₂) (fun f s₂ q => ?_) fun _ _ e => e
    obtain ⟨rfl, c', m', h₂, tk₂, rfl, F', N', hP', hm'⟩ := q
    refine LoopStep2.intro (s₁ := { s with heap := h₁, toks := tk₁ }) (news₂ := Led c') F' (fun p hp => N' p (by
      rcases List.mem_append.mp hp with h | h
      · exact List.mem_append_right _ h
      · exact List.mem_append_left _ h)) (by rw [hadr c', hadr c]) ⟨c', rfl, hP', hm'⟩
  · rintro h₂ tk m' news' F' N' _ ⟨c, rfl, hPc, hm⟩
    exact done c h₂ tk m' hPc F' hm N'
end
theorem ledger_head {h₀ h : Heap} {L a : Addr} {o : Obj} (_ : News h₀ L h [(a, o)]) : ∃ l, l = a := ⟨a, rfl⟩
theorem four_off {x1 x2 x3 x4 : Str} {m m₁ : Str → Option Value} (h : ∀ y, y ∉ [x1, x2, x3, x4] → m₁ y = m y) :
    m₁ = fun y => if y = x4 then m₁ x4 else if y = x3 then m₁ x3 else if y = x2 then m₁ x2 else if y = x1 then m₁ x1 else m y := by
  funext y
  by_cases h4 : y = x4
  · rw [if_pos h4, h4]
  by_cases h3 : y = x3
  · rw [if_neg h4, if_pos h3, h3]
  by_cases h2 : y = x2
  · rw [if_neg h4, if_neg h3, if_pos h2, h2]
  by_cases h1 : y = x1
  · rw [if_neg h4, if_neg h3, if_neg h2, if_pos h1, h1]
  · rw [if_neg h4, if_neg h3, if_neg h2, if_neg h1]; exact h y (by simp [h1, h2, h3, h4])
section
variable {prog : Program} {w : World} {A : Around} {E : Value → Shared → Prop} {s : Shared} {h₀ : Heap} {env : Env} {m : Str → Option Value}
noncomputable def BaseTurn (h₀ : Heap) (L : Addr) (s : Shared) (I : Addr) (oI : Obj) (led : List (Addr × Obj)) (J : (Str → Option Value) → Prop) (Q : Flow → Shared → Prop) (f : Flow) (s₃ : Shared) : Prop :=
  match f with
  | .ret v => Q (.ret v) s₃
  | .brk => Q .next s₃
  | _ => ∃ m' h' tk', s₃ = { s with heap := h', toks := tk' } ∧ Fr h₀ L h' m' ∧ News h₀ L h' ((I, oI) :: led) ∧ J m'
/-- a for with an else over a tuple that the program's top made; what a turn may change, beyond the locals, a break ends -/
theorem For_base {ax : Addr} {items : Array Value} {target iter : Expr} {body orelse : List Stmt} {pos : Pos} {Q : Flow → Shared → Prop} {led : List (Addr × Obj)} (J : Nat → (Str → Option Value) → Prop) (hh : A.handled = none)
    (F : Fr h₀ env.locals s.heap m) (N : News h₀ env.locals s.heap led) (hl : h₀.IsTuple ax items) (h0 : J 0 m)
    (he : wpAny (model prog w) A (eval iter env) (fun xv s₁ => xv = .ref ax ∧ ∃ tk, s₁ = { s with toks := tk }) E s)
    (turn : ∀ i v m₁ h tk I oI, items[i]? = some v → J i m₁ → (∀ p ∈ led, p.1 ≠ I) → Fr h₀ env.locals h m₁ → News h₀ env.locals h ((I, oI) :: led) →
      wpAny (model prog w) A (assign target env v) (fun _ s₂ => wpAny (model prog w) A (execs body env) (BaseTurn h₀ env.locals s I oI led (J (i + 1)) Q) E s₂) E { s with heap := h, toks := tk })
    (els : ∀ m₁ h tk, J items.size m₁ → Fr h₀ env.locals h m₁ → News h₀ env.locals h led → wpAny (model prog w) A (execs orelse env) Q E { s with heap := h, toks := tk })
    (hs : ∀ x, foldedSetIterable iter env x = pure x := by intro _; rfl)
    (hE : PassesOwn (model prog w) A env E := by passes_own) :
    wpAny (model prog w) A (exec (.For target iter body orelse pos) env) Q E s := by
  refine wpAny_For (wpAny_mono he (fun xv s₁ h₁ => ?_) fun _ _ e => e) hs
  obtain ⟨rfl, tk, rfl⟩ := h₁
  have hls : s.heap.IsTuple ax items := hl.at fun o e => F.keep ax o e
  have hlt : ax < s.heap.objs.size := by obtain ⟨o, ho, _⟩ := hls; exact Heap.lt_size ho
  have hne : ax ≠ s.heap.objs.size := Nat.ne_of_lt hlt
  have hI0 : h₀.get? s.heap.objs.size = none := next_is_new F
  have hIL : s.heap.objs.size ≠ env.locals := Nat.ne_of_gt F.ns.lt
  have hIN : ∀ p ∈ led, p.1 ≠ s.heap.objs.size := fun p hp => Nat.ne_of_lt (Heap.lt_size (N p hp).1)
  have W := Walks.tuple (prog := prog) (w := w) hh s.heap.objs.size ax hne items
  refine wpAny_pyIter_tuple hls ?_
  refine codeAny_forLoop_any (R := fun r s' => match r with | .ok f => Q f s' | .error e => cameBackBy (model prog w) A env E e s')
    (fun k s' => ∃ h' tk' m' i, s' = { s with heap := h', toks := tk' } ∧ h'.IsTupleIter s.heap.objs.size ax i ∧ Fr h₀ env.locals h' m' ∧ News h₀ env.locals h' led ∧ J i m' ∧ i ≤ items.size ∧ k = items.size + 1 - i) ?_ (items.size + 1)
    ⟨_, tk, m, 0, rfl, ⟨_, Heap.get?_push_size _ rfl, rfl, rfl⟩, F.push _, (fun p hp => ⟨Heap.get?_push_of_some _ (N p hp).1, (N p hp).2⟩), h0, Nat.zero_le _, rfl⟩
  rintro k s' ⟨h', tk', m', i, rfl, hit, F', N', hJ, hi, rfl⟩
  have next : ∀ h₁ : Heap, (∀ b o, b ∉ [s.heap.objs.size] → h'.get? b = some o → h₁.get? b = some o) → Fr h₀ env.locals h₁ m' ∧ News h₀ env.locals h₁ led := fun h₁ hk₁ =>
    ⟨⟨F'.ns.at' fun o e => hk₁ _ o (by simpa using Ne.symm hIL) e, fun b o e => hk₁ b o (by simp; rintro rfl; rw [hI0] at e; cases e) (F'.keep b o e), F'.above⟩, fun p hp => ⟨hk₁ _ _ (by simpa using hIN p hp) (N' p hp).1, (N' p hp).2⟩⟩
  have hl' : h'.IsTuple ax items := hl.at fun o e => F'.keep ax o e
  by_cases hlt : i < items.size
  · refine wpAny_passesOwn hE (W.item i _ _ _ hlt ⟨hit, hl'⟩ fun v h₁ tk₁ hP hst₁ hk₁ => ?_)
    obtain ⟨F₁, N₁⟩ := next h₁ hk₁
    obtain ⟨oI, hoI, hcI, hdI⟩ := id hst₁.1
    refine letGo_tupleiter hst₁.1 ?_
    refine wpAny_mono (turn i v m' h₁ tk₁ s.heap.objs.size oI hP hJ hIN F₁ (fun p hp => by
      rcases List.mem_cons.mp hp with rfl | hp
      · exact ⟨hoI, hIL, hI0⟩
      · exact N₁ p hp)) (fun _ s₂ h₂ => wpAny_mono h₂ (fun f s₃ h₃ => ?_) hE) hE
    have fin : (∃ m' h' tk', s₃ = { s with heap := h', toks := tk' } ∧ Fr h₀ env.locals h' m' ∧ News h₀ env.locals h' ((s.heap.objs.size, oI) :: led) ∧ J (i + 1) m') → ∃ m, m < items.size + 1 - i ∧ ∃ h' tk' m' i, s₃ = { s with heap := h', toks := tk' } ∧ h'.IsTupleIter s.heap.objs.size ax i ∧ Fr h₀ env.locals h' m' ∧ News h₀ env.locals h' led ∧ J i m' ∧ i ≤ items.size ∧ m = items.size + 1 - i := by
      rintro ⟨m₂, h₂, tk₂, rfl, F₂, N₂, hJ₂⟩
      exact ⟨items.size + 1 - (i + 1), by omega, h₂, tk₂, m₂, i + 1, rfl, ⟨oI, (N₂ _ (.head _)).1, hcI, hdI⟩, F₂, fun p hp => N₂ p (.tail _ hp), hJ₂, hlt, rfl⟩
    cases f with
    | ret v => exact h₃
    | brk => exact h₃
    | next => exact fin h₃
    | cont => exact fin h₃
  · have hin : i = items.size := by omega
    subst hin
    refine wpAny_passesOwn hE (W.done _ _ _ ⟨hit, hl'⟩ fun h₁ tk₁ hk₁ => ?_)
    obtain ⟨F₁, N₁⟩ := next h₁ hk₁
    exact wpAny_mono (els m' h₁ tk₁ hJ F₁ N₁) (fun _ _ h => h) hE
theorem two_offB {x y : Str} {m m₁ : Str → Option Value} (h : ∀ z, z ≠ x → z ≠ y → m₁ z = m z) : m₁ = fun z => if z = y then m₁ y else if z = x then m₁ x else m z := by
  funext z
  by_cases h1 : z = y
  · rw [if_pos h1, h1]
  by_cases h2 : z = x
  · rw [if_neg h1, if_pos h2, h2]
  · rw [if_neg h1, if_neg h2]; exact h z h2 h1
theorem For_base2 {ax : Addr} {items : Array Value} {target iter : Expr} {body orelse : List Stmt} {pos : Pos} {Q : Flow → Shared → Prop} {led : List (Addr × Obj)} {xi xc : Str} (K : Nat → Prop) (hh : A.handled = none)
    (F : Fr h₀ env.locals s.heap m) (N : News h₀ env.locals s.heap led) (hl : h₀.IsTuple ax items) (h0 : K 0)
    (he : wpAny (model prog w) A (eval iter env) (fun xv s₁ => xv = .ref ax ∧ ∃ tk, s₁ = { s with toks := tk }) E s)
    (turn : ∀ i v vi vc h tk I oI, items[i]? = some v → K i → (∀ p ∈ led, p.1 ≠ I) → Fr h₀ env.locals h (fun y => if y = xc then vc else if y = xi then vi else m y) → News h₀ env.locals h ((I, oI) :: led) →
      wpAny (model prog w) A (assign target env v) (fun _ s₂ => wpAny (model prog w) A (execs body env) (BaseTurn h₀ env.locals s I oI led (fun m' => (∀ y, y ≠ xi → y ≠ xc → m' y = m y) ∧ K (i + 1)) Q) E s₂) E { s with heap := h, toks := tk })
    (els : ∀ vi vc h tk, K items.size → Fr h₀ env.locals h (fun y => if y = xc then vc else if y = xi then vi else m y) → News h₀ env.locals h led → wpAny (model prog w) A (execs orelse env) Q E { s with heap := h, toks := tk })
    (hs : ∀ x, foldedSetIterable iter env x = pure x := by intro _; rfl)
    (hE : PassesOwn (model prog w) A env E := by passes_own) :
    wpAny (model prog w) A (exec (.For target iter body orelse pos) env) Q E s := by
  refine For_base (J := fun i m' => (∀ y, y ≠ xi → y ≠ xc → m' y = m y) ∧ K i) hh F N hl ⟨fun _ _ _ => rfl, h0⟩ he (fun i v m₁ h tk I oI hv hJ hI F₁ N₁ => ?_) (fun m₁ h tk hJ F₁ N₁ => ?_) hs hE
  · rw [two_offB hJ.1] at F₁
    exact turn i v _ _ h tk I oI hv hJ.2 hI F₁ N₁
  · rw [two_offB hJ.1] at F₁
    exact els _ _ h tk hJ.2 F₁ N₁
end
section
variable {w : World} {p : Program} {loose : List Str} {mean : ExcName → Option Value} {mg mb : Str → Option Value} {dp un : Nat} {fr : Option (List Env)} {gd : Option (List Code)} {h₀ : Heap} {s : Shared} {Q E : Value → Shared → Prop} {L : Addr} {m : Str → Option Value} {news : List (Addr × Obj)}
theorem sifmt_c (z : Int) (t : Tok) (X : (hd.heap_39 w.params).In h₀) (T : Top p loose mean mg mb h₀) (keep : ∀ b o, h₀.get? b = some o → s.heap.get? b = some o) (hdp : dp + 4 < recursionLimit) (hun : un + 12 < cLine)
    (h : ∀ z' t h' tk', Ext [] s.heap h' → Q (.int z' t) { s with heap := h', toks := tk' }) : wpAny (model PW w) (AR dp fr gd un) (call (.ref 183) [.int z t]) Q E s := by
  have P := nopre (s := s) (h₀ := h₀)
  k_dflt (walk_at "my enter")
  walk_at "my steps"
  exact h _ _ _ _ (fin0 (by assumption) (by assumption))
theorem sifmt_u (z : Int) (t : Tok) (F : Fr h₀ L s.heap m) (N : News h₀ L s.heap news) (X : (hd.heap_39 w.params).In h₀) (T : Top p loose mean mg mb h₀) (hdp : dp + 4 < recursionLimit) (hun : un + 12 < cLine)
    (h : ∀ z' t h' tk', Ext [] s.heap h' → Fr h₀ L h' m → News h₀ L h' news → Q (.int z' t) { s with heap := h', toks := tk' }) : wpAny (model PW w) (AR dp fr gd un) (call (.ref 183) [.int z t]) Q E s :=
  sifmt_c z t X T F.keep hdp hun fun z' t h' tk' e => h z' t h' tk' e (e.fr0 F) (e.news0 N)
end
theorem rows16 : True := by
  k_with "call ref" => ((k_here; (with_reducible show wpAny _ _ (call (Value.ref 183) [Value.int _ _]) _ _ _); k_dflt (refine' sifmt_u _ _ (by k_asm) (by k_asm) (by k_asm) (by k_asm) (by ktr_room) (by ktr_units) ?_; k_whole); intro _ _ _ _ _ _ _; (try k_sweep)))
  trivial
noncomputable abbrev setT (led : Bool) (pl : Array Nat) : SetTable := { mask := 7, place := pl, dummies := #[], finger := 0, led := led, moves := 0, plain := true }
noncomputable abbrev setOb (led : Bool) (es : Array (Int × Value)) (ep : Nat) (pl : Array Nat) : Obj := { cls := .type "set", dict := none, data := .set es ep (setT led pl) }
noncomputable abbrev sob (led : Bool) : Nat → Obj
  | 0 => setOb led #[] 0 #[]
  | _ + 1 => setOb led #[(1, .bool true)] 1 #[1]
theorem lay1 (led : Bool) : layNew (setT led #[]) #[] 1 (.bool true) = (#[(1, .bool true)], setT led #[1], false, false) := by
  cases led <;> decide +kernel
section
variable {prog : Program} {w : World} {A : Around} {E : Value → Shared → Prop} {s : Shared} {h₀ : Heap} {L : Addr} {m : Str → Option Value}
theorem hash_true {Q : Int → Shared → Prop} (h : ∀ tk, Q 1 { s with toks := tk }) : wpAny (model prog w) A (pyHash (.bool true)) Q E s := by
  refine pyHash_slot (T := "bool") rfl F.slot_bool_hash entry_int_hash (args_int_hash _) (beq_builtin_none _) (.inl rfl) ?_
  exact (show wpAny _ _ (do ret (← mkInt 1)) _ _ s from wpAny_bind (wpAny_mkInt (wpAny_pure ⟨_, _, rfl, h _⟩)))
theorem eq_true {Q : Bool → Shared → Prop} (h : Q true s) : wpAny (model prog w) A (eqBool (.bool true) (.bool true)) Q E s := by
  unfold eqBool
  refine wpAny_holding ?_
  rw [if_pos (by decide)]
  exact wpAny_bind (wpAny_rule (wpAny_pure h))
theorem new_set {Q : Value → Shared → Prop} (h : Q (.ref s.heap.objs.size) { s with heap := s.heap.push (sob (!w.params.followText "set-order") 0) }) : wpAny (model prog w) A (newSet (.type "set")) Q E s := by
  unfold newSet setsByText
  refine wpAny_bind (wpAny_bind (wpAny_askSetting (wpAny_pure ?_)))
  dsimp only
  simp only [newObj]
  exact wpAny_bind (wpAny_alloc (wpAny_pure h))
theorem add_true {D : Addr} {led : Bool} {k : Nat} {Q : Value → Shared → Prop} (ho : s.heap.get? D = some (sob led k)) (h : ∀ h' tk, Heap.SameBut D s.heap h' → h'.get? D = some (sob led (k + 1)) → Q .none { s with heap := h', toks := tk }) :
    wpAny (model prog w) A (call (.builtin "set.add") [.ref D, .bool true]) Q E s := by
  have hT : s.TypeIs (.ref D) "set" := ⟨_, ho, by cases k <;> rfl⟩
  refine wpAny_call_entry F.slot_set_add hT F.entry_set_add ?_ (F.args_set_add_2 _ _)
  unfold Builtin.«set.add» Builtin.Frozenset.oneOther
  simp only [List.isEmpty_nil, bind_assoc]
  unfold Builtin.Frozenset.addrOf setAdd
  refine wpAny_bind (wpAny_pure ?_)
  try dsimp only
  refine wpAny_bind (wpAny_pure ?_)
  try dsimp only
  refine wpAny_bind ?_
  refine wpAny_holding ?_
  refine wpAny_bind (hash_true fun tk => ?_)
  unfold setAddHashed
  refine wpAny_holding ?_
  cases k with
  | zero =>
    unfold setAddHashedIn
    refine wpAny_bind (wpAny_setState_of (s := { s with toks := tk }) ho rfl rfl ?_)
    dsimp only
    rw [if_pos (by decide +kernel)]
    refine wpAny_bind ?_
    unfold setAddByScan
    refine wpAny_bind (wpAny_rule (wpAny_bind ?_))
    show wpAny _ _ (pure ScanMet.absent) _ _ _
    refine wpAny_pure ?_
    dsimp only
    rw [lay1]
    dsimp only
    refine wpAny_bind (wpAny_pure (wpAny_bind (wpAny_pure ?_)))
    simp only [if_true]
    refine wpAny_bind (wpAny_storeSet_of (s := { s with toks := tk }) ho rfl ?_ (by decide +kernel))
    rw [if_neg (by cases led <;> decide +kernel)]
    refine wpAny_pure (wpAny_pure ?_)
    show wpAny _ _ (ret Value.none) _ _ _
    refine wpAny_pure ⟨_, rfl, h _ _ (Heap.SameBut.update ..) ?_⟩
    rw [Heap.get?_update_self _ ho rfl]
    rfl
  | succ k =>
    unfold setAddHashedIn
    refine wpAny_bind (wpAny_setState_of (s := { s with toks := tk }) ho rfl rfl ?_)
    dsimp only
    rw [if_pos (by decide +kernel)]
    refine wpAny_bind ?_
    unfold setAddByScan
    refine wpAny_bind (wpAny_rule (wpAny_bind ?_))
    show wpAny _ _ (setScanFrom D (.bool true) 1 true [(1, .bool true)] 0) _ _ _
    unfold setScanFrom
    rw [if_pos (by decide)]
    refine wpAny_bind ?_
    unfold setEpoch
    refine wpAny_bind (wpAny_setState_of (s := { s with toks := tk }) ho rfl rfl (wpAny_pure ?_))
    refine wpAny_bind (eq_true ?_)
    simp only [Bool.and_self, if_true]
    refine wpAny_pure (wpAny_pure (wpAny_pure ?_))
    show wpAny _ _ (ret Value.none) _ _ _
    exact wpAny_pure ⟨_, rfl, h _ _ (Heap.SameBut.refl _ _) ho⟩
end
theorem slot_si_next : Slot "set_iterator" "__next__" "set_iterator.__next__" :=
  .of (owner := "set_iterator") (n := "__next__") (by rw [typeLookup_type, builtinLookup_eq_fast]; kernel_rfl) (by decide +kernel) (by decide +kernel) (by decide +kernel)
    (by first | exact .inl (by decide +kernel) | exact .inr (by decide +kernel)) (by rw [isSubtype_type]; kernel_rfl)
theorem entry_si_next : entryFor table "set_iterator.__next__" = some Builtin.«set_iterator.__next__» := entryFor_of_tree (by kernel_rfl)
theorem owner_si : Manifest.owners.lookup (String.ofList ['r','o','t','a','r','e','t','i','_','t','e','s'].reverse) = some Manifest.sig_set_iterator := by kernel_rfl
theorem args_si_next_1 (a : Value) : argsOk "set_iterator.__next__" ⟨[a], []⟩ := by
  unfold argsOk; rw [signature?_of (id := "set_iterator.__next__") (n := ['_', '_', 't', 'x', 'e', 'n', '_', '_']) (o := ['r','o','t','a','r','e','t','i','_','t','e','s']) (by kernel_rfl) owner_si]; kernel_rfl
section
variable {prog : Program} {w : World} {A : Around} {E : Value → Shared → Prop} {s : Shared} {h₀ : Heap} {L : Addr} {m : Str → Option Value}
theorem entry_set_iter' : entryFor table "set.__iter__" = some Builtin.«frozenset.__iter__» :=
  entryFor_alias (id' := "frozenset.__iter__") (by kernel_rfl) rfl (by decide +kernel) (by kernel_rfl)
noncomputable abbrev sit (D : Addr) (k : Int) (i : Int) : Obj := { cls := .type "set_iterator", data := .fields #[.int k 0, .int i 0, .ref D, .int 1 0, .int 1 0] }
theorem set_iter {D : Addr} {led : Bool} {k : Nat} {Q : Value → Shared → Prop} (ho : s.heap.get? D = some (sob led (k + 1))) (h : Q (.ref s.heap.objs.size) { s with heap := s.heap.push (sit D 0 0) }) :
    wpAny (model prog w) A (pyIter (.ref D)) Q E s := by
  have hT : s.TypeIs (.ref D) "set" := ⟨_, ho, rfl⟩
  refine wpAny_pyIter_slot hT F.slot_set_iter (wpAny_call_entry F.slot_set_iter hT entry_set_iter' ?_ (F.args_set_iter_1 _))
  unfold Builtin.«frozenset.__iter__»
  refine wpAny_bind (m := Builtin.Frozenset.slot0 "__iter__" ⟨[.ref D], []⟩) (wpAny_pure ?_)
  dsimp only
  refine wpAny_bind (m := Builtin.Frozenset.sizeOf D) ?_
  unfold Builtin.Frozenset.sizeOf
  refine wpAny_bind (wpAny_setEntries_of ho rfl rfl (wpAny_pure ?_))
  refine wpAny_bind ?_
  unfold setDrawn setsByText
  refine wpAny_bind (wpAny_setState_of ho rfl rfl ?_)
  refine wpAny_bind (wpAny_bind (wpAny_askSetting (wpAny_pure (wpAny_pure ?_))))
  rw [if_neg (by
    have e : ∀ b : Bool, (!b && false) = false := by intro b; cases b <;> rfl
    exact fun h => Bool.false_ne_true ((e _).symm.trans h))]
  refine wpAny_bind (wpAny_pure ?_)
  unfold setEpoch
  refine wpAny_bind (wpAny_bind (wpAny_setState_of ho rfl rfl (wpAny_pure ?_)))
  dsimp only
  unfold newFields
  exact wpAny_bind (wpAny_newObj_type (wpAny_pure ⟨_, rfl, "set_iterator", _, ⟨_, Heap.get?_push_size _ rfl, rfl⟩, slot_si_next.lookup, h⟩))
theorem pick_one {α : Type} (f : Nat → Nat) (e : α) : pickOrder f #[e] = #[e] := by
  simp [pickOrder, pickOrder.go, Nat.mod_one]
theorem set_next {I D : Addr} {b : Bool} {k : Nat} {Q : Option Value → Shared → Prop} (hb : b = w.params.followText "set-order") (hI : s.heap.get? I = some (sit D 0 0)) (ho : s.heap.get? D = some (sob (!b) (k + 1)))
    (h : ∀ h' j, (b = false → j = 2) → h'.get? I = some (sit D j 1) → Heap.SameBut I s.heap h' → Q (some (.bool true)) { s with heap := h' }) : wpAny (model prog w) A (pyNext (.ref I)) Q E s := by
  have hT : s.TypeIs (.ref I) "set_iterator" := ⟨_, hI, rfl⟩
  unfold pyNext
  refine wpAny_bind (wpAny_attempt (wpAny_callSpecial?_slot (name := Str.ofString "__next__") hT slot_si_next
    (wpAny_call_entry slot_si_next hT entry_si_next ?_ (args_si_next_1 _))))
  unfold Builtin.«set_iterator.__next__»
  refine wpAny_bind (m := slotArgs "__next__" 0 ⟨[.ref I], []⟩) (wpAny_pure ?_)
  refine wpAny_bind (wpAny_fieldsOf hI rfl ?_)
  dsimp only
  refine wpAny_bind (wpAny_setEntries_of ho rfl rfl ?_)
  rw [if_neg (by decide)]
  refine wpAny_bind ?_
  unfold setNext setsByText
  refine wpAny_bind (wpAny_setState_of ho rfl rfl ?_)
  refine wpAny_bind (wpAny_bind (wpAny_askSetting (wpAny_pure ?_)))
  dsimp only
  cases b with
  | false =>
    rw [if_neg (by rw [show (model prog w).w = w from rfl, ← hb]; exact Bool.false_ne_true)]
    split
    · rename_i q; exact absurd q (fun h => Bool.false_ne_true h)
    refine wpAny_bind (wpAny_pure ?_)
    refine wpAny_of_eq (a := some (Value.bool true, 2)) rfl ?_
    dsimp only
    refine wpAny_bind (wpAny_setField hI rfl (by simp) ?_)
    have h1 := Heap.get?_update_self (a := I) (Obj.mapFields (·.setIfInBounds 0 (rawInt ((2 : Nat) : Int)))) hI rfl
    refine wpAny_bind (wpAny_setField h1 rfl (by simp) (wpAny_pure ⟨_, rfl, wpAny_pure (h _ 2 (fun _ => rfl) ?_ ((Heap.SameBut.update ..).trans (Heap.SameBut.update ..)))⟩))
    rw [Heap.get?_update_self _ h1 rfl]
    rfl
  | true =>
    rw [if_pos (by rw [show (model prog w).w = w from rfl, ← hb])]
    rw [if_neg (by decide)]
    refine wpAny_bind ?_
    unfold setWalk setsByText
    refine wpAny_bind (wpAny_setState_of ho rfl rfl ?_)
    refine wpAny_bind (wpAny_bind (wpAny_askSetting (wpAny_pure ?_)))
    dsimp only
    rw [if_pos (by rw [show (model prog w).w = w from rfl, ← hb])]
    refine wpAny_bind (wpAny_askSetting (wpAny_pure (wpAny_pure ?_)))
    rw [pick_one]
    show wpAny _ _ (setField (.ref I) 0 (rawInt ((0 : Nat) : Int)) >>= _) _ _ _
    refine wpAny_bind (wpAny_setField hI rfl (by simp) ?_)
    have h1 := Heap.get?_update_self (a := I) (Obj.mapFields (·.setIfInBounds 0 (rawInt ((0 : Nat) : Int)))) hI rfl
    refine wpAny_bind (wpAny_setField h1 rfl (by simp) (wpAny_pure ⟨_, rfl, wpAny_pure (h _ 0 (fun h => nomatch h) ?_ ((Heap.SameBut.update ..).trans (Heap.SameBut.update ..)))⟩))
    rw [Heap.get?_update_self _ h1 rfl]
    rfl
theorem set_end {I D : Addr} {b : Bool} {k : Nat} {j : Int} {Q : Option Value → Shared → Prop} (hh : A.handled = none) (hb : b = w.params.followText "set-order") (hj : b = false → j = 2) (hI : s.heap.get? I = some (sit D j 1)) (ho : s.heap.get? D = some (sob (!b) (k + 1)))
    (h : ∀ h', Heap.ExtBut I s.heap h' → Q none { s with heap := h' }) : wpAny (model prog w) A (pyNext (.ref I)) Q E s := by
  have hT : s.TypeIs (.ref I) "set_iterator" := ⟨_, hI, rfl⟩
  unfold pyNext
  refine wpAny_bind (wpAny_attempt (wpAny_callSpecial?_slot (name := Str.ofString "__next__") hT slot_si_next
    (wpAny_call_entry slot_si_next hT entry_si_next ?_ (args_si_next_1 _))))
  unfold Builtin.«set_iterator.__next__»
  refine wpAny_bind (m := slotArgs "__next__" 0 ⟨[.ref I], []⟩) (wpAny_pure ?_)
  refine wpAny_bind (wpAny_fieldsOf hI rfl ?_)
  dsimp only
  refine wpAny_bind (wpAny_setEntries_of ho rfl rfl ?_)
  rw [if_neg (by decide)]
  refine wpAny_bind ?_
  have fin : wpAny (model prog w) A.in1 (setField (.ref I) 2 .none >>= fun _ => newExc (.type "StopIteration") [] >>= fun e => raiseNew e) (fun fin s' => ∃ v, fin = Fin.done (Flow.ret v) ∧ wpAny (model prog w) A (pure (some v)) Q E s')
      (fun x s' => wpAny (model prog w) A (isInstance x (.type "StopIteration") >>= fun b => if b = true then pure none else throw x) Q E s') s := by
    refine wpAny_bind (wpAny_setField hI rfl (by simp) ?_)
    refine wpAny_bind ?_
    simp only [newExc, newTuple]
    refine wpAny_bind (wpAny_newObj_type ?_ (by size_fits))
    refine wpAny_bind (m := firstArgMember _ _) (wpAny_of_eq (a := Value.none) (by first | rfl | (simp only [firstArgMember]; rfl)) ?_)
    refine wpAny_newObj_type ?_ (by size_fits)
    simp only [raiseNew]
    refine wpAny_bind (wpAny_handled ?_)
    first | rw [show A.in1.handled = none from hh] | rw [hh]
    refine wpAny_bind (wpAny_pure (wpAny_throw ?_))
    refine wpAny_bind (wpAny_isInstance (T := "StopIteration") (b := true) ⟨_, Heap.get?_push_size _ rfl, rfl⟩ isSubtype_stop ?_)
    exact wpAny_pure (h _ (((Heap.SameBut.update ..).extBut.push _).push _))
  unfold setNext setsByText
  refine wpAny_bind (wpAny_setState_of ho rfl rfl ?_)
  refine wpAny_bind (wpAny_bind (wpAny_askSetting (wpAny_pure ?_)))
  dsimp only
  cases b with
  | false =>
    rw [hj rfl]
    rw [if_neg (by rw [show (model prog w).w = w from rfl, ← hb]; exact Bool.false_ne_true)]
    split
    · rename_i q; exact absurd q (fun h => Bool.false_ne_true h)
    refine wpAny_bind (wpAny_pure ?_)
    refine wpAny_of_eq (a := none) rfl ?_
    exact fin
  | true =>
    rw [if_pos (by rw [show (model prog w).w = w from rfl, ← hb])]
    rw [if_neg (by decide)]
    refine wpAny_bind ?_
    unfold setWalk setsByText
    refine wpAny_bind (wpAny_setState_of ho rfl rfl ?_)
    refine wpAny_bind (wpAny_bind (wpAny_askSetting (wpAny_pure ?_)))
    dsimp only
    rw [if_pos (by rw [show (model prog w).w = w from rfl, ← hb])]
    refine wpAny_bind (wpAny_askSetting (wpAny_pure (wpAny_pure ?_)))
    rw [pick_one]
    exact fin
theorem set_unpack {D : Addr} {k : Nat} {Q : List Value → Shared → Prop} (hh : A.handled = none) (ho : s.heap.get? D = some (sob (!w.params.followText "set-order") (k + 1)))
    (hQ : ∀ h', Heap.ExtBut s.heap.objs.size s.heap h' → Q [.bool true] { s with heap := h' }) : wpAny (model prog w) A (unpackItems (.ref D) 1 none) Q E s := by
  have hT : s.TypeIs (.ref D) "set" := ⟨_, ho, rfl⟩
  have hlt : D ≠ s.heap.objs.size := Nat.ne_of_lt (Heap.lt_size ho)
  unfold unpackItems
  refine wpAny_bind ?_
  unfold notIterableAtAll
  refine wpAny_bind (wpAny_specialOf hT F.slot_set_iter.lookup ?_)
  refine wpAny_pure ?_
  simp only [Bool.false_eq_true, if_false]
  refine wpAny_bind (wpAny_holding (set_iter ho ?_))
  refine wpAny_bind (wpAny_holding ?_)
  show wpAny _ _ (pyNext (.ref s.heap.objs.size) >>= _) _ _ _
  have ho₁ : (s.heap.push (sit D 0 0)).get? D = some (sob (!w.params.followText "set-order") (k + 1)) := Heap.get?_push_of_some _ ho
  refine wpAny_bind (set_next rfl (Heap.get?_push_size _ rfl) ho₁ fun h₁ j hj hI₁ hs₁ => ?_)
  refine wpAny_bind (wpAny_holding (wpAny_pure (wpAny_pure ?_)))
  rw [if_neg (by simp)]
  have ho₂ : h₁.get? D = some (sob (!w.params.followText "set-order") (k + 1)) := hs₁.extBut _ _ hlt ho₁
  refine wpAny_bind (wpAny_holding (set_end hh rfl hj hI₁ ho₂ fun h₂ he₂ => ?_))
  simp only [Option.isSome_none, Bool.false_eq_true, if_false]
  exact wpAny_pure (hQ h₂ fun b o hb e => he₂ b o hb (hs₁.extBut b o hb (Heap.get?_push_of_some _ e)))
theorem set_assign {D : Addr} {k : Nat} {env : Env} {e : PySem.Expr} {x1} {pos : Pos} {Q : Unit → Shared → Prop} (hh : A.handled = none) (ho : s.heap.get? D = some (sob (!w.params.followText "set-order") (k + 1)))
    (hn : (assignEach [e] env).findIdx? (·.1) = none)
    (h : ∀ h', Heap.ExtBut s.heap.objs.size s.heap h' → wpAny (model prog w) A (assignInOrder ((assignEach [e] env).map (·.2)) [.bool true]) Q E { s with heap := h' }) :
    wpAny (model prog w) A (assign (.Tuple [e] x1 pos) env (.ref D)) Q E s := by
  rw [arm_assign_Tuple]
  refine wpAny_bind (wpAny_standAt ?_)
  unfold unpack
  rw [hn, show (assignEach [e] env).length = 1 by cases e <;> rfl]
  exact wpAny_bind (wpAny_holding (set_unpack hh ho h))
end
noncomputable def lxLt : List Str → List Str → Bool
  | x :: xs, y :: ys => if x = y then lxLt xs ys else decide (x.cps.toList < y.cps.toList)
  | [], _ :: _ => true
  | _, [] => false
noncomputable def lxGt : List Str → List Str → Bool
  | x :: xs, y :: ys => if x = y then lxGt xs ys else decide (y.cps.toList < x.cps.toList)
  | _ :: _, [] => true
  | [], _ => false
theorem plain_lloop : plainId "list.__eq__.loop" = true := by decide +kernel
theorem entry_lloop : entryFor table "list.__eq__.loop" = some Builtin.«list.__eq__.loop» := entryFor_of_fast (by kernel_rfl)
open AutoSeq1 (wpAny_loadPart')
section
variable {prog : Program} {w : World} {A : Around} {E : Value → Shared → Prop} {s : Shared}
theorem rc_str_lt {x y : Str} {t u : Tok} {Q : Value → Shared → Prop} (h : Q (.bool (decide (x.cps.toList < y.cps.toList))) s) : wpAny (model prog w) A (richCompare .Lt (.str x t) (.str y u)) Q E s :=
  richCompare_gives (op := .Lt) (T := "str") rfl rfl F.slot_str_lt F.entry_str_lt (F.args_str_lt_2 _ _) (gives_str_lt x y t u) (fun x => nomatch x) h
theorem rc_str_gt {x y : Str} {t u : Tok} {Q : Value → Shared → Prop} (h : Q (.bool (decide (y.cps.toList < x.cps.toList))) s) : wpAny (model prog w) A (richCompare .Gt (.str x t) (.str y u)) Q E s :=
  richCompare_gives (op := .Gt) (T := "str") rfl rfl F.slot_str_gt F.entry_str_gt (F.args_str_gt_2 _ _) (gives_str_gt x y t u) (fun x => nomatch x) h
end
theorem lt_loop (l b : Addr) (vs us : List Value) (xs ys : List Str) (n n2 : Nat) (hv : StrsAre vs xs) (hu : StrsAre us ys) (k : Nat) :
    ∀ i : Nat, vs.length - i = k → i ≤ vs.length → i ≤ us.length → Meets (Builtin.«list.__eq__.loop» ⟨[.ref l, .ref b, rawInt i, rawInt 0], []⟩)
      (fun _ R s => s.heap.get? l = some (lob vs n) ∧ s.heap.get? b = some (lob us n2) ∧ R (.ok (.ret (.bool (lxLt (xs.drop i) (ys.drop i))))) s) := by
  have e1 := hv.len_eq
  have e2 := hu.len_eq
  induction k with
  | zero =>
    intro i hk hi hiu prog w A R s h
    obtain ⟨hp, g, d, tk, os⟩ := s; obtain ⟨hl, hb, h⟩ := h
    wp_walk using wpAny_loadPart' hl, wpAny_loadPart' hb
    have hi1 : vs.toArray[((i : Nat) : Int).toNat]? = none := by simp; omega
    have hd : xs.drop i = [] := by simp; omega
    rw [hi1]
    dsimp only
    wp_walk using wpAny_loadPart' hl, wpAny_loadPart' hb
    show R (.ok (.ret (.bool (decide (vs.toArray.size < us.toArray.size))))) _
    rw [hd] at h
    rcases Nat.lt_or_ge i us.length with q | q
    · obtain ⟨y, r, e⟩ : ∃ y r, ys.drop i = y :: r := ⟨ys[i], ys.drop (i + 1), List.drop_eq_getElem_cons (by omega)⟩
      rw [e] at h
      rw [decide_eq_true (by simp; omega)]
      exact h
    · have e : ys.drop i = [] := by simp; omega
      rw [e] at h
      rw [decide_eq_false (by simp; omega)]
      exact h
  | succ k ih =>
    intro i hk hi hiu prog w A R s h
    obtain ⟨hp, g, d, tk, os⟩ := s; obtain ⟨hl, hb, h⟩ := h
    wp_walk using wpAny_loadPart' hl, wpAny_loadPart' hb
    have hlt : i < xs.length := by omega
    obtain ⟨t, ht⟩ := hv.get i xs[i] (by simp [hlt])
    have hi1 : vs.toArray[((i : Nat) : Int).toNat]? = some (.str xs[i] t) := by simpa using ht
    have hd : xs.drop i = xs[i] :: xs.drop (i + 1) := List.drop_eq_getElem_cons hlt
    rw [hd] at h
    rw [hi1]
    rcases Nat.lt_or_ge i ys.length with q | q
    · obtain ⟨u, hu'⟩ := hu.get i ys[i] (by simp [q])
      have hi2 : us.toArray[((i : Nat) : Int).toNat]? = some (.str ys[i] u) := by simpa using hu'
      have hd2 : ys.drop i = ys[i] :: ys.drop (i + 1) := List.drop_eq_getElem_cons q
      have hc : ((i : Int) + 1) = ((i + 1 : Nat) : Int) := by push_cast; rfl
      rw [hd2] at h
      rw [hi2]
      dsimp only
      refine wpAny_bind (wpAny_eqBool_str ?_)
      by_cases hxy : xs[i] = ys[i]
      · rw [decide_eq_true hxy]
        simp only [lxLt, if_pos hxy] at h
        wp_walk
        rw [hc]
        exact ⟨plainId_quiet plain_lloop _, codeAny_builtin entry_lloop (by
          rw [Around.under_plainId plain_lloop _]
          exact ih (i + 1) (by omega) (by omega) (by omega) prog w A R _ ⟨hl, hb, h⟩)⟩
      · rw [decide_eq_false hxy]
        simp only [lxLt, if_neg hxy] at h
        wp_walk using wpAny_loadPart' hl, wpAny_loadPart' hb
        rw [hi1, hi2]
        dsimp only
        refine wpAny_bind (rc_str_lt ?_)
        exact wpAny_pure h
    · have hi2 : us.toArray[((i : Nat) : Int).toNat]? = none := by simp; omega
      have e : ys.drop i = [] := by simp; omega
      rw [hi2]
      dsimp only
      wp_walk using wpAny_loadPart' hl, wpAny_loadPart' hb
      show R (.ok (.ret (.bool (decide (vs.toArray.size < us.toArray.size))))) _
      rw [e] at h
      rw [decide_eq_false (by simp; omega)]
      exact h
theorem lt_lists (l b : Addr) (vs us : List Value) (xs ys : List Str) (n n2 : Nat) (hv : StrsAre vs xs) (hu : StrsAre us ys) :
    Meets (Builtin.«list.__lt__» ⟨[.ref l, .ref b], []⟩)
      (fun _ R s => s.heap.get? l = some (lob vs n) ∧ s.heap.get? b = some (lob us n2) ∧ R (.ok (.ret (.bool (lxLt xs ys)))) s) := by
  intro prog w A R s h
  obtain ⟨hp, g, d, tk, os⟩ := s; obtain ⟨hl, hb, h⟩ := h
  have f3 := AutoSeq1.sub_list_list
  have hT : (⟨hp, g, d, tk, os⟩ : Shared).TypeIs (.ref b) "list" := ⟨_, hb, rfl⟩
  wp_walk using wpAny_loadPart' hl, wpAny_loadPart' hb
  exact ⟨plainId_quiet plain_lloop _, codeAny_builtin entry_lloop (by
    rw [Around.under_plainId plain_lloop _]
    exact lt_loop l b vs us xs ys n n2 hv hu _ 0 rfl (Nat.zero_le _) (Nat.zero_le _) prog w A R _ ⟨hl, hb, h⟩)⟩
theorem gt_loop (l b : Addr) (vs us : List Value) (xs ys : List Str) (n n2 : Nat) (hv : StrsAre vs xs) (hu : StrsAre us ys) (k : Nat) :
    ∀ i : Nat, vs.length - i = k → i ≤ vs.length → i ≤ us.length → Meets (Builtin.«list.__eq__.loop» ⟨[.ref l, .ref b, rawInt i, rawInt 4], []⟩)
      (fun _ R s => s.heap.get? l = some (lob vs n) ∧ s.heap.get? b = some (lob us n2) ∧ R (.ok (.ret (.bool (lxGt (xs.drop i) (ys.drop i))))) s) := by
  have e1 := hv.len_eq
  have e2 := hu.len_eq
  induction k with
  | zero =>
    intro i hk hi hiu prog w A R s h
    obtain ⟨hp, g, d, tk, os⟩ := s; obtain ⟨hl, hb, h⟩ := h
    wp_walk using wpAny_loadPart' hl, wpAny_loadPart' hb
    have hi1 : vs.toArray[((i : Nat) : Int).toNat]? = none := by simp; omega
    have hd : xs.drop i = [] := by simp; omega
    rw [hi1]
    dsimp only
    wp_walk using wpAny_loadPart' hl, wpAny_loadPart' hb
    show R (.ok (.ret (.bool (decide (us.toArray.size < vs.toArray.size))))) _
    rw [hd] at h
    rcases Nat.lt_or_ge i us.length with q | q
    · obtain ⟨y, r, e⟩ : ∃ y r, ys.drop i = y :: r := ⟨ys[i], ys.drop (i + 1), List.drop_eq_getElem_cons (by omega)⟩
      rw [e] at h
      rw [decide_eq_false (by simp; omega)]
      exact h
    · have e : ys.drop i = [] := by simp; omega
      rw [e] at h
      rw [decide_eq_false (by simp; omega)]
      exact h
  | succ k ih =>
    intro i hk hi hiu prog w A R s h
    obtain ⟨hp, g, d, tk, os⟩ := s; obtain ⟨hl, hb, h⟩ := h
    wp_walk using wpAny_loadPart' hl, wpAny_loadPart' hb
    have hlt : i < xs.length := by omega
    obtain ⟨t, ht⟩ := hv.get i xs[i] (by simp [hlt])
    have hi1 : vs.toArray[((i : Nat) : Int).toNat]? = some (.str xs[i] t) := by simpa using ht
    have hd : xs.drop i = xs[i] :: xs.drop (i + 1) := List.drop_eq_getElem_cons hlt
    rw [hd] at h
    rw [hi1]
    rcases Nat.lt_or_ge i ys.length with q | q
    · obtain ⟨u, hu'⟩ := hu.get i ys[i] (by simp [q])
      have hi2 : us.toArray[((i : Nat) : Int).toNat]? = some (.str ys[i] u) := by simpa using hu'
      have hd2 : ys.drop i = ys[i] :: ys.drop (i + 1) := List.drop_eq_getElem_cons q
      have hc : ((i : Int) + 1) = ((i + 1 : Nat) : Int) := by push_cast; rfl
      rw [hd2] at h
      rw [hi2]
      dsimp only
      refine wpAny_bind (wpAny_eqBool_str ?_)
      by_cases hxy : xs[i] = ys[i]
      · rw [decide_eq_true hxy]
        simp only [lxGt, if_pos hxy] at h
        wp_walk
        rw [hc]
        exact ⟨plainId_quiet plain_lloop _, codeAny_builtin entry_lloop (by
          rw [Around.under_plainId plain_lloop _]
          exact ih (i + 1) (by omega) (by omega) (by omega) prog w A R _ ⟨hl, hb, h⟩)⟩
      · rw [decide_eq_false hxy]
        simp only [lxGt, if_neg hxy] at h
        wp_walk using wpAny_loadPart' hl, wpAny_loadPart' hb
        rw [hi1, hi2]
        dsimp only
        refine wpAny_bind (rc_str_gt ?_)
        exact wpAny_pure h
    · have hi2 : us.toArray[((i : Nat) : Int).toNat]? = none := by simp; omega
      have e : ys.drop i = [] := by simp; omega
      rw [hi2]
      dsimp only
      wp_walk using wpAny_loadPart' hl, wpAny_loadPart' hb
      show R (.ok (.ret (.bool (decide (us.toArray.size < vs.toArray.size))))) _
      rw [e] at h
      rw [decide_eq_true (by simp; omega)]
      exact h
theorem gt_lists (l b : Addr) (vs us : List Value) (xs ys : List Str) (n n2 : Nat) (hv : StrsAre vs xs) (hu : StrsAre us ys) :
    Meets (Builtin.«list.__gt__» ⟨[.ref l, .ref b], []⟩)
      (fun _ R s => s.heap.get? l = some (lob vs n) ∧ s.heap.get? b = some (lob us n2) ∧ R (.ok (.ret (.bool (lxGt xs ys)))) s) := by
  intro prog w A R s h
  obtain ⟨hp, g, d, tk, os⟩ := s; obtain ⟨hl, hb, h⟩ := h
  have f3 := AutoSeq1.sub_list_list
  have hT : (⟨hp, g, d, tk, os⟩ : Shared).TypeIs (.ref b) "list" := ⟨_, hb, rfl⟩
  wp_walk using wpAny_loadPart' hl, wpAny_loadPart' hb
  exact ⟨plainId_quiet plain_lloop _, codeAny_builtin entry_lloop (by
    rw [Around.under_plainId plain_lloop _]
    exact gt_loop l b vs us xs ys n n2 hv hu _ 0 rfl (Nat.zero_le _) (Nat.zero_le _) prog w A R _ ⟨hl, hb, h⟩)⟩
theorem den_of {prog : Program} {w : World} {id : String} {args : Args} {b : Builtin} (hb : entryFor table id = some b) : (model prog w).den (.builtin id args) = b args := by
  show (match entryFor table id with | some b => b args | none => unsupported ((withoutEnding? id "#data").getD id)) = _
  rw [hb]
noncomputable abbrev bmin (Ys : List (List Str)) (i j : Nat) : Bool := lxLt (Ys.getD i []) (Ys.getD j [])
section
variable {prog : Program} {w : World} {A : Around} {E : Value → Shared → Prop} {s : Shared} {R : Result → Shared → Prop}
theorem rc_min {l b : Addr} {vs us : List Value} {xs ys : List Str} {n n2 : Nat} {Q : Value → Shared → Prop} (hv : StrsAre vs xs) (hu : StrsAre us ys) (hl : s.heap.get? l = some (lob vs n)) (hb : s.heap.get? b = some (lob us n2)) (hun : A.units < cLine)
    (h : Q (.bool (lxLt xs ys)) s) : wpAny (model prog w) A (richCompare .Lt (.ref l) (.ref b)) Q E s :=
  richCompare_meets_room (op := .Lt) ⟨_, hl, rfl⟩ ⟨_, hb, rfl⟩ F.slot_list_lt F.entry_list_lt (F.args_list_lt_2 _ _) (lt_lists l b vs us xs ys n n2 hv hu) ⟨hl, hb, (fun h => nomatch h), h⟩ hun
theorem min_loop (c : List (Addr × List Value)) (Ys : List (List Str)) (n0 : Nat) {l I S : Addr} (hc : ∀ (j : Nat) (q : Addr × List Value), c[j]? = some q → ∃ Y : List Str, Ys[j]? = some Y ∧ StrsAre q.2 Y) (hne : 0 < c.length) (hh : A.handled = none) (hun : A.units + 1 < cLine)
    (hl : s.heap.get? l = some (lob (c.map fun q => .ref q.1) n0)) (hcs : ∀ q ∈ c, s.heap.get? q.1 = some (lob q.2 q.2.length)) (n1 : l ≠ I) (n2 : l ≠ S) (n3 : S ≠ I) (n4 : ∀ q ∈ c, q.1 ≠ I ∧ q.1 ≠ S)
    (hI : s.heap.IsListIter I l 0) (hS : s.heap.get? S = some (lob [] 0))
    (hR : ∀ h' tk q, c[argBest (bmin Ys) (c.length - 1)]? = some q → (∀ b o, b ≠ I → b ≠ S → s.heap.get? b = some o → h'.get? b = some o) → R (.ok (.ret (.ref q.1))) { s with heap := h', toks := tk }) :
    codeAny (model prog w) A (.builtin "min.loop" ⟨[.ref I, .none, .ref S], []⟩) R s := by
  have hname : (toString "min" ++ toString ".loop" : String) = "min.loop" := by decide
  have hsz : (c.map fun q => Value.ref q.1).toArray.size = c.length := by simp
  have W := Walks.list (prog := prog) (w := w) (A := A.in1) hh I l n1 (c.map fun q => Value.ref q.1).toArray
  refine codeAny_loop (plainId_quiet PySem.F.plain_min_loop _) (fun k s' => ∃ h' tk i vs cnt, s' = { s with heap := h', toks := tk } ∧ i ≤ c.length ∧ k = c.length + 1 - i ∧ h'.IsListIter I l i ∧ (∀ b o, b ≠ I → b ≠ S → s.heap.get? b = some o → h'.get? b = some o) ∧
    h'.get? S = some (lob vs cnt) ∧ ((i = 0 ∧ vs = []) ∨ (0 < i ∧ ∃ q, c[argBest (bmin Ys) (i - 1)]? = some q ∧ vs = [.ref q.1, .ref q.1]))) ?_ (c.length + 1)
    ⟨s.heap, s.toks, 0, [], 0, rfl, Nat.zero_le _, rfl, hI, fun _ _ _ _ e => e, hS, .inl ⟨rfl, rfl⟩⟩
  rintro k s' ⟨h', tk, i, vs, cnt, rfl, hi, rfl, hit, hk, hS', hv⟩
  rw [Around.under_plainId PySem.F.plain_min_loop _]
  rw [den_of PySem.F.entry_min_loop]
  show wpAny _ A.in1 (seqItems? (.ref S) >>= _) _ _ _
  refine wpAny_bind (wpAny_seqItems hS' rfl ?_)
  show wpAny _ A.in1 (tryCatch (pyNext (.ref I)) _ >>= _) _ _ _
  have hl' : h'.IsList l (c.map fun q => Value.ref q.1).toArray := ⟨_, hk _ _ n1 n2 hl, rfl, _, rfl⟩
  by_cases hlt : i < c.length
  · refine wpAny_bind (wpAny_tryCatch (W.item i _ _ _ (by rw [hsz]; exact hlt) ⟨hit, hl'⟩ fun v h₂ tk₂ hP hst₂ hk₂ => ?_))
    have hv2 : (c.map fun q => Value.ref q.1)[i]? = some v := by simpa using hP
    rw [List.getElem?_map] at hv2
    obtain ⟨q, hq, rfl⟩ := Option.map_eq_some_iff.mp hv2
    have hS₂ : h₂.get? S = some (lob vs cnt) := hk₂ S _ (by simpa using n3) hS'
    have hk₂' : ∀ b o, b ≠ I → b ≠ S → s.heap.get? b = some o → h₂.get? b = some o := fun b o a1 a2 e => hk₂ b o (by simpa using a1) (hk b o a1 a2 e)
    have hmq := List.mem_of_getElem? hq
    rcases hv with ⟨rfl, rfl⟩ | ⟨hi0, q0, hq0, rfl⟩
    · show wpAny _ A.in1 (updateSeq S (fun _ => #[.ref q.1, .ref q.1]) >>= _) _ _ _
      have s1 := Heap.SameBut.update h₂ S (Obj.mapSeq fun _ => (#[.ref q.1, .ref q.1] : Array Value))
      refine wpAny_bind (wpAny_updateSeq hS₂ rfl ?_)
      rw [hname]
      refine wpAny_pure ⟨rfl, c.length, by omega, _, _, 1, [.ref q.1, .ref q.1], cnt + 1, rfl, hlt, rfl, hst₂.1.at fun o e => s1.extBut _ _ (Ne.symm n3) e, fun b o a1 a2 e => s1.extBut _ _ a2 (hk₂' b o a1 a2 e), ?_, .inr ⟨Nat.one_pos, q, by simpa [argBest] using hq, rfl⟩⟩
      rw [Heap.get?_update_self _ hS₂ rfl]
      rfl
    · have hm0 := List.mem_of_getElem? hq0
      obtain ⟨Y, hY, hYa⟩ := hc _ _ hq
      obtain ⟨Y0, hY0, hY0a⟩ := hc _ _ hq0
      show wpAny _ A.in1 (tryCatch (holding [.ref q.1, .ref q.1] (richCompare .Lt (.ref q.1) (.ref q0.1) >>= _)) _ >>= _) _ _ _
      refine wpAny_bind (wpAny_tryCatch (wpAny_holding (wpAny_bind (rc_min hYa hY0a (hk₂' _ _ (n4 _ hmq).1 (n4 _ hmq).2 (hcs _ hmq)) (hk₂' _ _ (n4 _ hm0).1 (n4 _ hm0).2 (hcs _ hm0)) (by simpa using hun) ?_))))
      refine wpAny_bind (wpAny_holding (wpAny_truthy_bool ?_))
      refine wpAny_bind (wpAny_letGo (wpAny_pure ?_))
      have hb : bmin Ys i (argBest (bmin Ys) (i - 1)) = lxLt Y Y0 := by
        show lxLt (Ys.getD i []) (Ys.getD _ []) = _
        rw [List.getD_eq_getElem?_getD, List.getD_eq_getElem?_getD, hY, hY0]; rfl
      obtain ⟨i, rfl⟩ : ∃ j, i = j + 1 := ⟨i - 1, by omega⟩
      simp only [Nat.add_sub_cancel] at hb hq0 hY0
      cases hx : lxLt Y Y0 with
      | true =>
        rw [hx] at hb
        simp only [if_true]
        have s1 := Heap.SameBut.update h₂ S (Obj.mapSeq fun _ => (#[.ref q.1, .ref q.1] : Array Value))
        refine wpAny_bind ?_
        refine wpAny_updateSeq hS₂ rfl (wpAny_bind (wpAny_letGo ?_))
        rw [hname]
        refine wpAny_pure ⟨rfl, c.length + 1 - (i + 2), by omega, _, _, i + 2, [.ref q.1, .ref q.1], cnt, rfl, hlt, rfl, hst₂.1.at fun o e => s1.extBut _ _ (Ne.symm n3) e, fun b o a1 a2 e => s1.extBut _ _ a2 (hk₂' b o a1 a2 e), ?_, .inr ⟨by omega, q, ?_, rfl⟩⟩
        · rw [Heap.get?_update_self _ hS₂ rfl]
          rfl
        · show c[argBest (bmin Ys) (i + 1)]? = _
          simp only [argBest, hb, if_true]; exact hq
      | false =>
        rw [hx] at hb
        simp only [Bool.false_eq_true, if_false]
        refine wpAny_bind (wpAny_letGo ?_)
        rw [hname]
        refine wpAny_pure ⟨rfl, c.length + 1 - (i + 2), by omega, _, _, i + 2, [.ref q0.1, .ref q0.1], cnt, rfl, hlt, rfl, hst₂.1, hk₂', hS₂, .inr ⟨by omega, q0, ?_, rfl⟩⟩
        show c[argBest (bmin Ys) (i + 1)]? = _
        simp only [argBest, hb, Bool.false_eq_true, if_false]; exact hq0
  · obtain rfl : i = c.length := Nat.le_antisymm hi (Nat.not_lt.mp hlt)
    refine wpAny_bind (wpAny_tryCatch (W.done _ _ _ ⟨by rw [hsz]; exact hit, hl'⟩ fun h₂ tk₂ hk₂ => ?_))
    rcases hv with ⟨e, _⟩ | ⟨_, q, hq, rfl⟩
    · exact absurd hne (by rw [e]; exact Nat.lt_irrefl _)
    have hS₂ : h₂.get? S = some (lob [.ref q.1, .ref q.1] cnt) := hk₂ S _ (by simpa using n3) hS'
    have s1 := Heap.SameBut.update h₂ S (Obj.mapSeq fun _ => (#[] : Array Value))
    show wpAny _ A.in1 (updateSeq S (fun _ => #[]) >>= _) _ _ _
    refine wpAny_bind ?_
    refine wpAny_updateSeq hS₂ rfl (wpAny_bind (wpAny_letGo (wpAny_pure ?_)))
    exact hR _ _ q hq fun b o a1 a2 e => s1.extBut _ _ a2 (hk₂ b o (by simpa using a1) (hk b o a1 a2 e))
theorem min_call (c : List (Addr × List Value)) (Ys : List (List Str)) (n0 : Nat) {l : Addr} {Q : Value → Shared → Prop} (hc : ∀ (j : Nat) (q : Addr × List Value), c[j]? = some q → ∃ Y : List Str, Ys[j]? = some Y ∧ StrsAre q.2 Y) (hne : 0 < c.length) (hh : A.handled = none) (hun : A.units + 1 < cLine)
    (hl : s.heap.get? l = some (lob (c.map fun q => .ref q.1) n0)) (hcs : ∀ q ∈ c, s.heap.get? q.1 = some (lob q.2 q.2.length))
    (hQ : ∀ h' tk q, c[argBest (bmin Ys) (c.length - 1)]? = some q → Ext [] s.heap h' → Q (.ref q.1) { s with heap := h', toks := tk }) :
    wpAny (model prog w) A (call (.builtin "min") [.ref l]) Q E s := by
  have hname : (toString "min" ++ toString ".loop" : String) = "min.loop" := by decide
  refine call_function_tree F.kind_min F.plain_min F.entry_min (F.args_min1 _) ?_
  show wpAny _ A.in1 (Builtin.Builtins.bindParams "min" ["key", "default"] 0 ⟨[], []⟩ >>= _) _ _ s
  refine wpAny_bind (wpAny_of_eq (show Builtin.Builtins.bindParams "min" ["key", "default"] 0 ⟨[], []⟩ = pure [none, none] from rfl) ?_)
  refine wpAny_bind (wpAny_pure ?_)
  have hll : l < s.heap.objs.size := Heap.lt_size hl
  refine wpAny_bind (wpAny_pyIter_list ⟨_, hl, rfl, _, rfl⟩ ?_)
  refine wpAny_bind (wpAny_newObj_type ?_)
  rw [hname]
  generalize hH : s.heap.push { cls := .type "list_iterator", data := .fields #[.ref l, .int 0 0] } = H
  have hHs : H.objs.size = s.heap.objs.size + 1 := by rw [← hH, Heap.size_push]
  have up : ∀ b o, s.heap.get? b = some o → (H.push (lob [] 0)).get? b = some o := fun b o e => Heap.get?_push_of_some _ (hH ▸ Heap.get?_push_of_some _ e)
  have lt : ∀ b o, s.heap.get? b = some o → b ≠ s.heap.objs.size ∧ b ≠ H.objs.size := fun b o e => ⟨Nat.ne_of_lt (Heap.lt_size e), by rw [hHs]; exact Nat.ne_of_lt (Nat.lt_succ_of_lt (Heap.lt_size e))⟩
  refine wpAny_pure ⟨plainId_quiet F.plain_min_loop _, min_loop (s := { s with heap := H.push (lob [] 0) }) c Ys n0 hc hne hh hun (up _ _ hl) (fun q hq => up _ _ (hcs q hq)) (lt _ _ hl).1 (lt _ _ hl).2 (by rw [hHs]; exact Nat.succ_ne_self _) (fun q hq => lt _ _ (hcs q hq))
    ⟨_, Heap.get?_push_of_some _ (hH ▸ Heap.get?_push_size _ rfl), rfl, rfl⟩ (Heap.get?_push_size _ rfl) fun h' tk q hq hk => hQ h' tk q hq fun b o e _ => hk b o (lt b o e).1 (lt b o e).2 (up b o e)⟩
end
noncomputable abbrev bmax (Ys : List (List Str)) (i j : Nat) : Bool := lxGt (Ys.getD i []) (Ys.getD j [])
section
variable {prog : Program} {w : World} {A : Around} {E : Value → Shared → Prop} {s : Shared} {R : Result → Shared → Prop}
theorem rc_max {l b : Addr} {vs us : List Value} {xs ys : List Str} {n n2 : Nat} {Q : Value → Shared → Prop} (hv : StrsAre vs xs) (hu : StrsAre us ys) (hl : s.heap.get? l = some (lob vs n)) (hb : s.heap.get? b = some (lob us n2)) (hun : A.units < cLine)
    (h : Q (.bool (lxGt xs ys)) s) : wpAny (model prog w) A (richCompare .Gt (.ref l) (.ref b)) Q E s :=
  richCompare_meets_room (op := .Gt) ⟨_, hl, rfl⟩ ⟨_, hb, rfl⟩ F.slot_list_gt F.entry_list_gt (F.args_list_gt_2 _ _) (gt_lists l b vs us xs ys n n2 hv hu) ⟨hl, hb, (fun h => nomatch h), h⟩ hun
theorem max_loop (c : List (Addr × List Value)) (Ys : List (List Str)) (n0 : Nat) {l I S : Addr} (hc : ∀ (j : Nat) (q : Addr × List Value), c[j]? = some q → ∃ Y : List Str, Ys[j]? = some Y ∧ StrsAre q.2 Y) (hne : 0 < c.length) (hh : A.handled = none) (hun : A.units + 1 < cLine)
    (hl : s.heap.get? l = some (lob (c.map fun q => .ref q.1) n0)) (hcs : ∀ q ∈ c, s.heap.get? q.1 = some (lob q.2 q.2.length)) (n1 : l ≠ I) (n2 : l ≠ S) (n3 : S ≠ I) (n4 : ∀ q ∈ c, q.1 ≠ I ∧ q.1 ≠ S)
    (hI : s.heap.IsListIter I l 0) (hS : s.heap.get? S = some (lob [] 0))
    (hR : ∀ h' tk q, c[argBest (bmax Ys) (c.length - 1)]? = some q → (∀ b o, b ≠ I → b ≠ S → s.heap.get? b = some o → h'.get? b = some o) → R (.ok (.ret (.ref q.1))) { s with heap := h', toks := tk }) :
    codeAny (model prog w) A (.builtin "max.loop" ⟨[.ref I, .none, .ref S], []⟩) R s := by
  have hname : (toString "max" ++ toString ".loop" : String) = "max.loop" := by decide
  have hsz : (c.map fun q => Value.ref q.1).toArray.size = c.length := by simp
  have W := Walks.list (prog := prog) (w := w) (A := A.in1) hh I l n1 (c.map fun q => Value.ref q.1).toArray
  refine codeAny_loop (plainId_quiet PySem.F.plain_max_loop _) (fun k s' => ∃ h' tk i vs cnt, s' = { s with heap := h', toks := tk } ∧ i ≤ c.length ∧ k = c.length + 1 - i ∧ h'.IsListIter I l i ∧ (∀ b o, b ≠ I → b ≠ S → s.heap.get? b = some o → h'.get? b = some o) ∧
    h'.get? S = some (lob vs cnt) ∧ ((i = 0 ∧ vs = []) ∨ (0 < i ∧ ∃ q, c[argBest (bmax Ys) (i - 1)]? = some q ∧ vs = [.ref q.1, .ref q.1]))) ?_ (c.length + 1)
    ⟨s.heap, s.toks, 0, [], 0, rfl, Nat.zero_le _, rfl, hI, fun _ _ _ _ e => e, hS, .inl ⟨rfl, rfl⟩⟩
  rintro k s' ⟨h', tk, i, vs, cnt, rfl, hi, rfl, hit, hk, hS', hv⟩
  rw [Around.under_plainId PySem.F.plain_max_loop _]
  rw [den_of PySem.F.entry_max_loop]
  show wpAny _ A.in1 (seqItems? (.ref S) >>= _) _ _ _
  refine wpAny_bind (wpAny_seqItems hS' rfl ?_)
  show wpAny _ A.in1 (tryCatch (pyNext (.ref I)) _ >>= _) _ _ _
  have hl' : h'.IsList l (c.map fun q => Value.ref q.1).toArray := ⟨_, hk _ _ n1 n2 hl, rfl, _, rfl⟩
  by_cases hlt : i < c.length
  · refine wpAny_bind (wpAny_tryCatch (W.item i _ _ _ (by rw [hsz]; exact hlt) ⟨hit, hl'⟩ fun v h₂ tk₂ hP hst₂ hk₂ => ?_))
    have hv2 : (c.map fun q => Value.ref q.1)[i]? = some v := by simpa using hP
    rw [List.getElem?_map] at hv2
    obtain ⟨q, hq, rfl⟩ := Option.map_eq_some_iff.mp hv2
    have hS₂ : h₂.get? S = some (lob vs cnt) := hk₂ S _ (by simpa using n3) hS'
    have hk₂' : ∀ b o, b ≠ I → b ≠ S → s.heap.get? b = some o → h₂.get? b = some o := fun b o a1 a2 e => hk₂ b o (by simpa using a1) (hk b o a1 a2 e)
    have hmq := List.mem_of_getElem? hq
    rcases hv with ⟨rfl, rfl⟩ | ⟨hi0, q0, hq0, rfl⟩
    · show wpAny _ A.in1 (updateSeq S (fun _ => #[.ref q.1, .ref q.1]) >>= _) _ _ _
      have s1 := Heap.SameBut.update h₂ S (Obj.mapSeq fun _ => (#[.ref q.1, .ref q.1] : Array Value))
      refine wpAny_bind (wpAny_updateSeq hS₂ rfl ?_)
      rw [hname]
      refine wpAny_pure ⟨rfl, c.length, by omega, _, _, 1, [.ref q.1, .ref q.1], cnt + 1, rfl, hlt, rfl, hst₂.1.at fun o e => s1.extBut _ _ (Ne.symm n3) e, fun b o a1 a2 e => s1.extBut _ _ a2 (hk₂' b o a1 a2 e), ?_, .inr ⟨Nat.one_pos, q, by simpa [argBest] using hq, rfl⟩⟩
      rw [Heap.get?_update_self _ hS₂ rfl]
      rfl
    · have hm0 := List.mem_of_getElem? hq0
      obtain ⟨Y, hY, hYa⟩ := hc _ _ hq
      obtain ⟨Y0, hY0, hY0a⟩ := hc _ _ hq0
      show wpAny _ A.in1 (tryCatch (holding [.ref q.1, .ref q.1] (richCompare .Gt (.ref q.1) (.ref q0.1) >>= _)) _ >>= _) _ _ _
      refine wpAny_bind (wpAny_tryCatch (wpAny_holding (wpAny_bind (rc_max hYa hY0a (hk₂' _ _ (n4 _ hmq).1 (n4 _ hmq).2 (hcs _ hmq)) (hk₂' _ _ (n4 _ hm0).1 (n4 _ hm0).2 (hcs _ hm0)) (by simpa using hun) ?_))))
      refine wpAny_bind (wpAny_holding (wpAny_truthy_bool ?_))
      refine wpAny_bind (wpAny_letGo (wpAny_pure ?_))
      have hb : bmax Ys i (argBest (bmax Ys) (i - 1)) = lxGt Y Y0 := by
        show lxGt (Ys.getD i []) (Ys.getD _ []) = _
        rw [List.getD_eq_getElem?_getD, List.getD_eq_getElem?_getD, hY, hY0]; rfl
      obtain ⟨i, rfl⟩ : ∃ j, i = j + 1 := ⟨i - 1, by omega⟩
      simp only [Nat.add_sub_cancel] at hb hq0 hY0
      cases hx : lxGt Y Y0 with
      | true =>
        rw [hx] at hb
        simp only [if_true]
        have s1 := Heap.SameBut.update h₂ S (Obj.mapSeq fun _ => (#[.ref q.1, .ref q.1] : Array Value))
        refine wpAny_bind ?_
        refine wpAny_updateSeq hS₂ rfl (wpAny_bind (wpAny_letGo ?_))
        rw [hname]
        refine wpAny_pure ⟨rfl, c.length + 1 - (i + 2), by omega, _, _, i + 2, [.ref q.1, .ref q.1], cnt, rfl, hlt, rfl, hst₂.1.at fun o e => s1.extBut _ _ (Ne.symm n3) e, fun b o a1 a2 e => s1.extBut _ _ a2 (hk₂' b o a1 a2 e), ?_, .inr ⟨by omega, q, ?_, rfl⟩⟩
        · rw [Heap.get?_update_self _ hS₂ rfl]
          rfl
        · show c[argBest (bmax Ys) (i + 1)]? = _
          simp only [argBest, hb, if_true]; exact hq
      | false =>
        rw [hx] at hb
        simp only [Bool.false_eq_true, if_false]
        refine wpAny_bind (wpAny_letGo ?_)
        rw [hname]
        refine wpAny_pure ⟨rfl, c.length + 1 - (i + 2), by omega, _, _, i + 2, [.ref q0.1, .ref q0.1], cnt, rfl, hlt, rfl, hst₂.1, hk₂', hS₂, .inr ⟨by omega, q0, ?_, rfl⟩⟩
        show c[argBest (bmax Ys) (i + 1)]? = _
        simp only [argBest, hb, Bool.false_eq_true, if_false]; exact hq0
  · obtain rfl : i = c.length := Nat.le_antisymm hi (Nat.not_lt.mp hlt)
    refine wpAny_bind (wpAny_tryCatch (W.done _ _ _ ⟨by rw [hsz]; exact hit, hl'⟩ fun h₂ tk₂ hk₂ => ?_))
    rcases hv with ⟨e, _⟩ | ⟨_, q, hq, rfl⟩
    · exact absurd hne (by rw [e]; exact Nat.lt_irrefl _)
    have hS₂ : h₂.get? S = some (lob [.ref q.1, .ref q.1] cnt) := hk₂ S _ (by simpa using n3) hS'
    have s1 := Heap.SameBut.update h₂ S (Obj.mapSeq fun _ => (#[] : Array Value))
    show wpAny _ A.in1 (updateSeq S (fun _ => #[]) >>= _) _ _ _
    refine wpAny_bind ?_
    refine wpAny_updateSeq hS₂ rfl (wpAny_bind (wpAny_letGo (wpAny_pure ?_)))
    exact hR _ _ q hq fun b o a1 a2 e => s1.extBut _ _ a2 (hk₂ b o (by simpa using a1) (hk b o a1 a2 e))
theorem max_call (c : List (Addr × List Value)) (Ys : List (List Str)) (n0 : Nat) {l : Addr} {Q : Value → Shared → Prop} (hc : ∀ (j : Nat) (q : Addr × List Value), c[j]? = some q → ∃ Y : List Str, Ys[j]? = some Y ∧ StrsAre q.2 Y) (hne : 0 < c.length) (hh : A.handled = none) (hun : A.units + 1 < cLine)
    (hl : s.heap.get? l = some (lob (c.map fun q => .ref q.1) n0)) (hcs : ∀ q ∈ c, s.heap.get? q.1 = some (lob q.2 q.2.length))
    (hQ : ∀ h' tk q, c[argBest (bmax Ys) (c.length - 1)]? = some q → Ext [] s.heap h' → Q (.ref q.1) { s with heap := h', toks := tk }) :
    wpAny (model prog w) A (call (.builtin "max") [.ref l]) Q E s := by
  have hname : (toString "max" ++ toString ".loop" : String) = "max.loop" := by decide
  refine call_function_tree F.kind_max F.plain_max F.entry_max (F.args_max1 _) ?_
  show wpAny _ A.in1 (Builtin.Builtins.bindParams "max" ["key", "default"] 0 ⟨[], []⟩ >>= _) _ _ s
  refine wpAny_bind (wpAny_of_eq (show Builtin.Builtins.bindParams "max" ["key", "default"] 0 ⟨[], []⟩ = pure [none, none] from rfl) ?_)
  refine wpAny_bind (wpAny_pure ?_)
  have hll : l < s.heap.objs.size := Heap.lt_size hl
  refine wpAny_bind (wpAny_pyIter_list ⟨_, hl, rfl, _, rfl⟩ ?_)
  refine wpAny_bind (wpAny_newObj_type ?_)
  rw [hname]
  generalize hH : s.heap.push { cls := .type "list_iterator", data := .fields #[.ref l, .int 0 0] } = H
  have hHs : H.objs.size = s.heap.objs.size + 1 := by rw [← hH, Heap.size_push]
  have up : ∀ b o, s.heap.get? b = some o → (H.push (lob [] 0)).get? b = some o := fun b o e => Heap.get?_push_of_some _ (hH ▸ Heap.get?_push_of_some _ e)
  have lt : ∀ b o, s.heap.get? b = some o → b ≠ s.heap.objs.size ∧ b ≠ H.objs.size := fun b o e => ⟨Nat.ne_of_lt (Heap.lt_size e), by rw [hHs]; exact Nat.ne_of_lt (Nat.lt_succ_of_lt (Heap.lt_size e))⟩
  refine wpAny_pure ⟨plainId_quiet F.plain_max_loop _, max_loop (s := { s with heap := H.push (lob [] 0) }) c Ys n0 hc hne hh hun (up _ _ hl) (fun q hq => up _ _ (hcs q hq)) (lt _ _ hl).1 (lt _ _ hl).2 (by rw [hHs]; exact Nat.succ_ne_self _) (fun q hq => lt _ _ (hcs q hq))
    ⟨_, Heap.get?_push_of_some _ (hH ▸ Heap.get?_push_size _ rfl), rfl, rfl⟩ (Heap.get?_push_size _ rfl) fun h' tk q hq hk => hQ h' tk q hq fun b o e _ => hk b o (lt b o e).1 (lt b o e).2 (up b o e)⟩
end
theorem lxLt_pre : ∀ (T r : List Str), lxLt (T ++ r) T = false
  | [], [] => rfl
  | [], _ :: _ => rfl
  | t :: T, r => by simp only [List.cons_append, lxLt, if_true]; exact lxLt_pre T r
theorem lxLt_proper : ∀ (T r : List Str), r ≠ [] → lxLt T (T ++ r) = true
  | [], [], h => absurd rfl h
  | [], _ :: _, _ => rfl
  | t :: T, r, h => by simp only [List.cons_append, lxLt, if_true]; exact lxLt_proper T r h
theorem argBest_le (bt : Nat → Nat → Bool) : ∀ k, argBest bt k ≤ k
  | 0 => Nat.le_refl _
  | k + 1 => by
    simp only [argBest]
    split
    · exact Nat.le_refl _
    · exact Nat.le_succ_of_le (argBest_le bt k)
theorem argmin_inv {Ys : List (List Str)} {T : List Str} (hpre : ∀ Y ∈ Ys, T <+: Y) : ∀ k, k < Ys.length → (∃ j, j ≤ k ∧ Ys.getD j [] = T) → Ys.getD (argBest (bmin Ys) k) [] = T := by
  have mem : ∀ j, j < Ys.length → Ys.getD j [] ∈ Ys := fun j hj => by
    rw [List.getD_eq_getElem?_getD, List.getElem?_eq_getElem hj]; exact List.getElem_mem hj
  intro k
  induction k with
  | zero =>
    rintro _ ⟨j, hj, e⟩
    obtain rfl : j = 0 := Nat.le_zero.mp hj
    exact e
  | succ k ih =>
    rintro hk ⟨j, hj, e⟩
    have hb : argBest (bmin Ys) k < Ys.length := Nat.lt_of_le_of_lt (argBest_le _ k) (by omega)
    simp only [argBest]
    by_cases hT : Ys.getD (argBest (bmin Ys) k) [] = T
    · obtain ⟨r, hr⟩ := hpre _ (mem (k + 1) hk)
      have e2 : bmin Ys (k + 1) (argBest (bmin Ys) k) = false := by
        show lxLt (Ys.getD (k + 1) []) (Ys.getD (argBest (bmin Ys) k) []) = false
        rw [hT, ← hr]; exact lxLt_pre T r
      rw [if_neg (by rw [e2]; exact Bool.false_ne_true)]
      exact hT
    · have hj2 : j = k + 1 := by
        refine Nat.le_antisymm hj (Nat.not_lt.mp fun q => hT (ih (by omega) ⟨j, by omega, e⟩))
      subst hj2
      obtain ⟨r, hr⟩ := hpre _ (mem _ hb)
      have hr0 : r ≠ [] := fun q => hT (by rw [← hr, q, List.append_nil])
      have e2 : bmin Ys (k + 1) (argBest (bmin Ys) k) = true := by
        show lxLt (Ys.getD (k + 1) []) (Ys.getD (argBest (bmin Ys) k) []) = true
        rw [e, ← hr]; exact lxLt_proper T r hr0
      rw [if_pos e2]
      exact e
theorem argmin_of {Ys : List (List Str)} {T : List Str} (hT : T ∈ Ys) (hpre : ∀ Y ∈ Ys, T <+: Y) {Y : List Str} (h : Ys[argBest (bmin Ys) (Ys.length - 1)]? = some Y) : Y = T := by
  obtain ⟨j, hj, e⟩ := List.mem_iff_getElem.mp hT
  have := argmin_inv hpre (Ys.length - 1) (by omega) ⟨j, by omega, by rw [List.getD_eq_getElem?_getD, List.getElem?_eq_getElem hj, e]; rfl⟩
  rw [List.getD_eq_getElem?_getD, h] at this
  exact this
section
variable {prog : Program} {w : World} {A : Around} {E : Value → Shared → Prop} {s : Shared} {h₀ : Heap} {env : Env} {m : Str → Option Value} {news : List (Addr × Obj)}
theorem enum_quiet {l : Addr} {vs : List Value} {nn : Nat} {xi xc : Str} {body : List Stmt} {Q : Flow → Shared → Prop} (hh : A.handled = none) (F : Fr h₀ env.locals s.heap m) (N : News h₀ env.locals s.heap news) (hl : (l, lob vs nn) ∈ news)
    (turn : ∀ (i : Nat) (v : Value) (t : Tok) (m₁ : Str → Option Value) (own : List (Addr × Obj)) (s₁ : Shared), (∃ h tk, s₁ = { s with heap := h, toks := tk }) → vs[i]? = some v → (∀ y, y ≠ xi → y ≠ xc → m₁ y = m y) → Fr h₀ env.locals s₁.heap (fun y => if y = xc then some v else if y = xi then some (.int i t) else m₁ y) → News h₀ env.locals s₁.heap (own ++ news) →
      wpAny (model prog w) A (execs body env) (fun f s₂ => f = .next ∧ ∃ k, s₂ = { s₁ with toks := k }) E s₁)
    (done : ∀ (h' : Heap) (tk : Nat) (m' : Str → Option Value), Fr h₀ env.locals h' m' → (∀ y, y ≠ xi → y ≠ xc → m' y = m y) → News h₀ env.locals h' news → Q .next { s with heap := h', toks := tk }) :
    wpAny (model prog w) A (call (.type "enumerate") [.ref l]) (fun xv s₁ => wpAny (model prog w) A (pyIter xv) (fun it s₂ => PairAt3 prog w A h₀ env xi xc body Q E it s₂) E s₁) E s := by
  have hls : s.heap.IsList l vs.toArray := ⟨_, (N _ hl).1, rfl, _, rfl⟩
  have hlt : l < s.heap.objs.size := Heap.lt_size (N _ hl).1
  have hLt := F.ns.lt
  refine call_enumerate_list hls fun h' he hit hsz up => ?_
  refine wpAny_pyIter_enum (s := { s with heap := h' }) he ?_
  have a1 : s.heap.objs.size + 1 ≠ s.heap.objs.size := Nat.succ_ne_self _
  have a2 : l ≠ s.heap.objs.size + 1 := Nat.ne_of_lt (Nat.lt_succ_of_lt hlt)
  have a3 : l ≠ s.heap.objs.size := Nat.ne_of_lt hlt
  have W := WalksT.enumerate (prog := prog) (w := w) hh (s.heap.objs.size + 1) s.heap.objs.size l a1 a2 a3 vs.toArray
  have sz : vs.toArray.size = vs.length := by simp
  have nI := new_at F (Nat.le_refl s.heap.objs.size)
  have nE := new_at F (Nat.le_succ s.heap.objs.size)
  refine ⟨s.heap.objs.size + 1, _, _, _, _, _, _, fun i v0 v1 => ∃ t, v0 = .int i t ∧ vs[i]? = some v1, m, news, fun i m₁ news₁ => news₁ = news ∧ ∀ y, y ≠ xi → y ≠ xc → m₁ y = m y, rfl, W, ?_, ?_, ?_, ?_, ⟨⟨_, he⟩, hit, hls.at fun o e => up _ o e⟩, F.keeps up, fun p hp => ⟨up _ _ (N p hp).1, (N p hp).2⟩, ⟨rfl, fun _ _ _ => rfl⟩, ?_, ?_⟩
  · rintro i vals ⟨t, x, hx, rfl⟩
    exact ⟨_, _, rfl, t, rfl, by simpa using hx⟩
  · intro hm
    rcases List.mem_cons.mp hm with e | hm
    · exact absurd hLt (by rw [e]; exact Nat.not_lt.mpr (Nat.le_succ _))
    rcases List.mem_cons.mp hm with e | hm
    · exact absurd hLt (by rw [e]; exact Nat.lt_irrefl _)
    · exact (N _ hl).2.1 (List.mem_singleton.mp hm).symm
  · intro b hb
    rcases List.mem_cons.mp hb with rfl | hb
    · exact nE.2
    · rw [List.mem_singleton.mp hb]; exact nI.2
  · intro p hp hm
    have := Heap.lt_size (N p hp).1
    rcases List.mem_cons.mp hm with e | hm
    · rw [e] at this; exact absurd this (Nat.not_lt.mpr (Nat.le_succ _))
    · rw [List.mem_singleton.mp hm] at this; exact Nat.lt_irrefl _ this
  · rintro i v0 v1 m₁ news₁ s₁ own ⟨h₁, tk₁, rfl⟩ hi ⟨t, rfl, hv⟩ ⟨rfl, hm⟩ _ _ F₁ N₁
    refine wpAny_mono (turn i v1 t m₁ own _ ⟨h₁, tk₁, rfl⟩ hv hm F₁ N₁) (fun f s₂ q => ?_) fun _ _ e => e
    obtain ⟨rfl, k, rfl⟩ := q
    exact LoopStep2.intro (s₁ := { s with heap := h₁, toks := tk₁ }) F₁ N₁ rfl ⟨rfl, fun y h1 h2 => (if_neg h2).trans ((if_neg h1).trans (hm y h1 h2))⟩
  · rintro h₂ tk m' news' F' N' _ ⟨rfl, hm⟩
    exact done h₂ tk m' F' hm N'
end
theorem rows17 : True := by
  k_with "my ne" => (((try dsimp only); first | assumption | exact Ne.symm (by assumption) | exact Nat.ne_of_gt (by assumption) | exact Nat.ne_of_lt (by assumption)))
  k_with "my off" => (first | exact List.forall_mem_nil _ | assumption | exact fun p hp => Nat.ne_of_lt (by rename_i h; exact h p hp) | (refine List.forall_mem_cons.mpr ⟨by walk_at "my ne", ?_⟩; walk_at "my off") | (refine List.forall_mem_append.mpr ⟨?_, ?_⟩ <;> walk_at "my off") | exact fun p hp => by grind)
  k_with "my upd" => (first | (refine' Upd.head ?_; walk_at "my off") | (refine' Upd.tail (by walk_at "my ne") (by walk_at "my upd")))
  k_with "eval SetComp" => ((k_here; refine stop_here ?_))
  trivial
theorem same_news {D : Addr} {o o' : Obj} {h₀ h h' : Heap} {L : Addr} {m : Str → Option Value} {news news' : List (Addr × Obj)} (F : Fr h₀ L h m) (N : News h₀ L h news) (U : Upd D o o' news news') (hs : Heap.SameBut D h h') (hD : h'.get? D = some o') :
    Fr h₀ L h' m ∧ News h₀ L h' news' := by
  obtain ⟨pre, post, rfl, rfl, a, b⟩ := U.split
  have z := N (D, o) (List.mem_append.mpr (.inr (.head _)))
  exact ⟨F.change hs z.2.1 z.2.2, news_set N a b hs hD⟩
theorem rows18 : True := by
  k_with "call builtin:min" => ((k_here; refine stop_here ?_))
  k_with "call builtin:max" => ((k_here; refine stop_here ?_))
  k_with "exec For Tuple Call cons nil" => ((k_here; refine stop_here ?_))
  k_with "exec For Tuple Call" => ((k_here; refine stop_here ?_))
  k_with "call type:enumerate" => ((k_here; refine stop_here ?_))
  trivial
theorem two_off {x y : Str} {m m₁ : Str → Option Value} (h : ∀ z, z ≠ x → z ≠ y → m₁ z = m z) : m₁ = fun z => if z = y then m₁ y else if z = x then m₁ x else m z := by
  funext z
  by_cases h1 : z = y
  · rw [if_pos h1, h1]
  by_cases h2 : z = x
  · rw [if_neg h1, if_pos h2, h2]
  · rw [if_neg h1, if_neg h2]; exact h z h2 h1
theorem l_item {prog : Program} {w : World} {A : Around} {E : Value → Shared → Prop} {s : Shared} {h₀ : Heap} {L : Addr} {news : List (Addr × Obj)} {D : Addr} {vs : List Value} {n : Nat} {v : Value} {Q : Value → Shared → Prop} {value slice : Expr} {k : Nat} {u : Tok} (N : News h₀ L s.heap news) (hm : (D, lob vs n) ∈ news) (hv : vs[k]? = some v) (hsz : vs.length ≤ 1000) (h : Q v s)
    (hs : subscripted slice false (.ref D) (.int (k : Int) u) = operate [.ref D, .int (k : Int) u] (getItem (.ref D) (.int (k : Int) u)) := by with_unfolding_all rfl) :
    wpAny (model prog w) A (subscriptTail value slice (.ref D) (.int (k : Int) u)) Q E s := by
  have hl : s.heap.IsList D vs.toArray := ⟨_, N.get hm, rfl, _, rfl⟩
  have hk := (List.getElem?_eq_some_iff.mp hv).1
  exact tail_any hl.typeIs slot_list_getitem.lookup (wpAny_getItem_list hl (Int.natCast_nonneg k) (by omega) (by simpa using hv) h) hs
theorem rows19 : True := by
  k_with "subscriptTail Name Name ref int" => ((k_here; k_dflt (refine' l_item (by k_asm) (by k_mem) (by assumption) (by walk_at "my size") ?_; k_whole)))
  trivial
noncomputable def cpNames (x : Str) : List Str := (Txt.split x (Str.ofString "/")).filter fun c => c ≠ Str.ofString ""
theorem snoc_all {α : Type} {P : Nat → α → Prop} {c : List α} {x : α} {i : Nat} (hlen : c.length = i) (h : ∀ j q, c[j]? = some q → P j q) (hx : P i x) : ∀ j q, (c ++ [x])[j]? = some q → P j q := by
  intro j q e
  rcases Nat.lt_trichotomy j c.length with h1 | h1 | h1
  · rw [List.getElem?_append_left h1] at e; exact h j q e
  · subst h1; simp at e; subst e; rw [hlen]; exact hx
  · rw [List.getElem?_eq_none (by simp; omega)] at e; cases e
theorem strs_cons {v : Value} {vs : List Value} {xs : List Str} (h : StrsAre (v :: vs) xs) : ∃ x t ys, v = .str x t ∧ xs = x :: ys ∧ StrsAre vs ys := by
  cases h with | cons x t h => exact ⟨x, t, _, rfl, rfl, h⟩
section
variable {w : World} {p : Program} {loose : List Str} {mean : ExcName → Option Value} {mg mb : Str → Option Value} {dp un : Nat} {fr : Option (List Env)} {gd : Option (List Code)} {h₀ : Heap} {s : Shared} {Q E : Value → Shared → Prop} {L : Addr} {m : Str → Option Value} {news : List (Addr × Obj)}
theorem commonpath_c (a : Addr) (vs : List Value) (n : Nat) (xs : List Str) (Tl : List Str) (ha : s.heap.get? a = some (lob vs n)) (hsa : StrsAre vs xs) (hle : vs.length ≤ 1000) (hne : vs ≠ []) (hxl : ∀ x ∈ xs, x.length ≤ 1000) (hnm : ∀ x ∈ xs, ∀ y ∈ Txt.split x (Str.ofString "/"), y = Str.ofString "" ∨ isN y) (hsl : ∀ x ∈ xs, (Txt.split x (Str.ofString "/")).length ≤ 100) (hT : Tl ∈ xs.map cpNames) (hpre : ∀ Y ∈ xs.map cpNames, Tl <+: Y) (hst : ∀ x ∈ xs, Txt.startswith x (Str.ofString "/") = true)
    (X : (hd.heap_39 w.params).In h₀) (T : Top p loose mean mg mb h₀) (keep : ∀ b o, h₀.get? b = some o → s.heap.get? b = some o) (hdp : dp + 12 < recursionLimit) (hun : un + 40 < cLine)
    (h : ∀ t h' tk', Ext [] s.heap h' → Q (.str (Str.ofString "/" ++ Txt.join (Str.ofString "/") Tl) t) { s with heap := h', toks := tk' }) : wpAny (model PW w) (AR dp fr gd un) (call (.ref 134) [.ref a]) Q E s := by
  have P := nopre (s := s) (h₀ := h₀)
  k_dflt (walk_at "my enterC")
  have hga := (show Ext (([] : List (Addr × Obj)).map (·.1)) s.heap _ from by assumption) a _ ha (fun h => nomatch h)
  obtain ⟨v0, vs, rfl⟩ := List.exists_cons_of_ne_nil hne
  obtain ⟨x0, t0, xs, rfl, rfl, hsa0⟩ := strs_cons hsa
  walk_at "my steps"
  refine StopAt.mk ?_
  k_dflt (refine' comp_assign_tuple (σ := List (Addr × List Value)) (kind_list _ _ _ _ _) (o₀ := lob [] 0) ?g1 ?g2 ?g3 ?g4 ?g5 ?g6 ?g7 ?g8 ?g9 ?g10 ?g11 ?g12 ?g13 ?g14 ?g15 (fun c => lob (c.map fun q => .ref q.1) c.length) (fun c => _ ++ c.map fun q => (q.1, lob q.2 0)) (fun i (c : List (Addr × List Value)) => c.length = i ∧ ∀ (j : Nat) (q : Addr × List Value), c[j]? = some q → ∃ x : Str, (x0 :: xs)[j]? = some x ∧ StrsAre q.2 (Txt.split x (Str.ofString "/"))) [] ?g16 ?g17 ?g18 ?g19 ?g20 ?iter ?turn ?fin)
  case g19 => rw [List.map_nil, List.append_nil]; assumption
  case g1 => rfl
  case g2 => exact fun Q s hq => wpAny_newObj_type hq
  case g3 => rfl
  case g4 => rfl
  case g5 => rfl
  case g6 => rfl
  case g7 => rfl
  case g8 => rfl
  case g9 => rfl
  case g10 => decide
  case g11 => rfl
  case g12 => decide
  case g13 => intro _; rfl
  case g14 => rfl
  case g15 => intro _ _; rfl
  case g16 => rfl
  case g17 => exact fun c => List.mem_append_left _ (.head _)
  case g18 => assumption
  case g20 => exact ⟨rfl, fun j q e => by cases e⟩
  case iter =>
    intro Q' hq
    walk_at "my steps"
    exact hq _
  case turn =>
    intro I C D c i v oI oC m₂ h tk hv hJ hoC off hne F N
    obtain ⟨hlen, hall⟩ := hJ
    obtain ⟨x, t, rfl, hx⟩ : ∃ x t, v = .str x t ∧ (x0 :: xs)[i]? = some x := hsa.item i v hv
    have hxl' : x.length ≤ 1000 := hxl x (List.mem_of_getElem? hx)
    refine comp_let hoC F N ?rest hne.1 rfl rfl fun oC' h' tk' hoC' F' N' => ?_
    · intro p hp
      rcases List.mem_cons.mp hp with rfl | hp
      · exact fun e => hne.2.2 e.symm
      · exact (off p hp).2.1
    · simp only [List.cons_append, List.nil_append] at N'
      generalize hlc : (c.map fun q => ((q.1, lob q.2 0) : Addr × Obj)) = lc at N'
      clear N F hoC
      have hxv : (fun z => if z = Str.ofString "path" then some (Value.str x t) else m₂ z) (Str.ofString "path") = some (.str x t) := if_pos rfl
      generalize (fun z => if z = Str.ofString "path" then some (Value.str x t) else m₂ z) = m₃ at hoC' hxv
      have hsz := fun p hp => Heap.lt_size (N' p hp).1
      simp only [List.forall_mem_cons] at hsz
      simp only [COff, List.cons_append, List.nil_append, List.forall_mem_cons, hlc] at off
      obtain ⟨z1, z2, z3, z4, z5, z6, z7⟩ := hsz
      obtain ⟨⟨o1, o2, o3⟩, ⟨o4, o5, o6⟩, ⟨o7, o8, o9⟩, o⟩ := off
      obtain ⟨n1, n2, n3⟩ := hne
      have oD := fun p hp => (o p hp).2.2
      have hcl : c.length ≤ 1000 := by rw [hlen]; have := (List.getElem?_eq_some_iff.mp hv).1; omega
      refine wpAny_bind ?_
      walk_at "my steps"
      rename_i lst h2 tk2 eS sS lenS isS F2 N2
      generalize h'.objs.size = r at *
      refine wpAny_bind ?_
      refine' l_append F2 N2 ?U ?z (fun h3 F3 N3 => ?appd)
      case U => walk_at "my upd"
      case z => rw [List.length_map]; exact hcl
      case appd =>
        refine wpAny_pure ?_
        refine CTurn.intro (c ++ [(r, strValues lst)]) F3 N3 hoC' ?_ ?_
        · intro p hp
          simp only [List.map_append, List.map_cons, List.map_nil, List.length_append, List.length_cons, List.length_nil, Nat.zero_add, hlc, List.cons_append, List.nil_append, List.mem_cons, List.mem_append, List.not_mem_nil, or_false] at hp ⊢
          grind
        · refine ⟨⟨by simp [hlen], snoc_all hlen hall ⟨x, hx, eS ▸ sS⟩⟩, ?_⟩
          simp only [COff, List.map_append, List.map_cons, List.map_nil, List.cons_append, List.nil_append, List.forall_mem_cons, hlc, List.forall_mem_append]
          exact ⟨⟨o1, o2, o3⟩, ⟨o4, o5, o6⟩, ⟨o7, o8, o9⟩, o, ⟨Nat.ne_of_gt z1, Nat.ne_of_gt z2, Nat.ne_of_gt z3⟩, fun _ h => nomatch h⟩
  case fin =>
    intro D c h tk hJ F N off
    obtain ⟨hlen, hall⟩ := hJ
    simp only [List.cons_append, List.nil_append] at N
    generalize hlc : (c.map fun q => ((q.1, lob q.2 0) : Addr × Obj)) = lc at N
    dsimp only
    walk_at "my steps"
    refine StopAt.mk ?_
    rw [arm_eval_SetComp]
    k_dflt (refine' comp_eval_tuple (σ := Nat) (kind_set _ _ _ _ _) (o₀ := sob (!w.params.followText "set-order") 0) ?g1 ?g2 ?g3 ?g4 ?g5 ?g6 ?g7 ?g8 ?g9 ?g10 (fun k => sob (!w.params.followText "set-order") k) (fun _ => _) (fun i k => k = i) 0 ?g11 ?g12 ?g13 ?g14 ?g15 ?iter ?turn ?fin)
    case g14 => assumption
    case g1 => rfl
    case g2 => exact fun Q s hq => new_set hq
    case g3 => rfl
    case g4 => rfl
    case g5 => decide
    case g6 => rfl
    case g7 => decide
    case g8 => intro _; rfl
    case g9 => rfl
    case g10 => intro _ _; rfl
    case g11 => rfl
    case g12 => exact fun c => .tail _ (.head _)
    case g13 => assumption
    case g15 => rfl
    case iter =>
      intro Q' hq
      walk_at "my steps"
      exact hq _
    case turn =>
      intro I C D2 k i v oI oC m₂ h tk hv hJ hoC off hne F N
      subst hJ
      obtain ⟨x, t, rfl, hx⟩ : ∃ x t, v = .str x t ∧ (x0 :: xs)[k]? = some x := hsa.item k v hv
      have hxl' : x.length ≤ 1000 := hxl x (List.mem_of_getElem? hx)
      have hst' : Txt.startswith x (Str.ofString "/") = true := hst x (List.mem_of_getElem? hx)
      refine comp_let hoC F N ?rest2 hne.1 rfl rfl fun oC' h' tk' hoC' F' N' => ?_
      · intro p hp
        rcases List.mem_cons.mp hp with rfl | hp
        · exact fun e => hne.2.2 e.symm
        · exact (off p hp).2.1
      · clear N F hoC
        have hxv : (fun z => if z = Str.ofString "p" then some (Value.str x t) else m₂ z) (Str.ofString "p") = some (.str x t) := if_pos rfl
        generalize (fun z => if z = Str.ofString "p" then some (Value.str x t) else m₂ z) = m₃ at hoC' hxv
        refine wpAny_bind ?_
        walk_at "my steps"
        rw [hst']
        refine wpAny_bind (wpAny_standAt (wpAny_bind ?_))
        have hD := (N' _ (.tail _ (.tail _ (.head _)))).1
        refine add_true hD fun h4 tk4 hs4 hD4 => wpAny_pure ?_
        simp only [COff, List.forall_mem_cons] at off
        obtain ⟨⟨o1, o2, o3⟩, ⟨o4, o5, o6⟩, ⟨o7, o8, o9⟩, ⟨o10, o11, o12⟩, o⟩ := off
        obtain ⟨n1, n2, n3⟩ := hne
        have oD := fun p hp => (o p hp).2.2
        obtain ⟨F4, N4⟩ := same_news (news' := (I, oI) :: (C, oC') :: (D2, sob (!w.params.followText "set-order") (k + 1)) :: _) F' N' (by walk_at "my upd") hs4 hD4
        refine CTurn.intro (k + 1) F4 N4 hoC' (fun _ h => h) ⟨rfl, ?_⟩
        simp only [COff, List.forall_mem_cons]
        exact ⟨⟨o1, o2, o3⟩, ⟨o4, o5, o6⟩, ⟨o7, o8, o9⟩, ⟨o10, o11, o12⟩, o⟩
    case fin =>
      intro D2 k h tk hJ F N off2
      subst hJ
      dsimp only
      have hD2 := (N _ (.head _)).1
      refine set_assign (k := vs.length) rfl hD2 rfl fun h3 e3 => ?_
      have F3 : Fr _ _ h3 _ := F.extBut e3 (Nat.le_refl _)
      have N3 := N.extBut e3 (Nat.le_refl _)
      clear F N e3 hD2
      refine wpAny_bind (m := holding [] (assign (.Name (Str.ofString "isabs") _) _ (.bool true))) (wpAny_holding ?_)
      walk_at "my steps"
      refine StopAt.mk ?_
      k_dflt (refine' comp_assign_list (σ := List (Addr × List Value)) (kind_list _ _ _ _ _) (o₀ := lob [] 0) ?g1 ?g2 ?g3 ?g4 ?g5 ?g6 ?g7 ?g8 ?g9 ?g10 ?g11 ?g12 ?g13 ?g14 ?g15 (fun c => lob (c.map fun q => .ref q.1) c.length) (fun c => _ ++ c.map fun q => (q.1, lob q.2 q.2.length)) (fun i (c' : List (Addr × List Value)) => c'.length = i ∧ ∀ (j : Nat) (q : Addr × List Value), c'[j]? = some q → ∃ x : Str, (x0 :: xs)[j]? = some x ∧ StrsAre q.2 (cpNames x)) [] ?g16 ?g17 ?g18 ?g19 ?g20 ?iter ?turn ?fin)
      case g19 => rw [List.map_nil, List.append_nil]; assumption
      case g1 => rfl
      case g2 => exact fun Q s hq => wpAny_newObj_type hq
      case g3 => rfl
      case g4 => rfl
      case g5 => rfl
      case g6 => rfl
      case g7 => rfl
      case g8 => rfl
      case g9 => rfl
      case g10 => decide
      case g11 => rfl
      case g12 => decide
      case g13 => intro _; rfl
      case g14 => rfl
      case g15 => intro _ _; rfl
      case g16 => rfl
      case g17 => exact fun c => List.mem_append_left _ (by k_mem)
      case g18 => assumption
      case g20 => exact ⟨rfl, fun j q e => by cases e⟩
      case iter =>
        intro Q' hq
        walk_at "my steps"
        exact hq _
      case turn =>
        intro I C D3 c3 i v oI oC m₂ h tk hv hJ hoC off hne F N
        obtain ⟨hlen3, hall3⟩ := hJ
        rw [List.getElem?_map] at hv
        obtain ⟨q, hq, rfl⟩ := Option.map_eq_some_iff.mp hv
        obtain ⟨x, hx, hsq⟩ := hall i q hq
        have hql : q.2.length ≤ 100 := by rw [hsq.len_eq]; exact hsl x (List.mem_of_getElem? hx)
        have hmemq : (q.1, lob q.2 0) ∈ lc := hlc ▸ List.mem_map_of_mem (f := fun q : Addr × List Value => ((q.1, lob q.2 0) : Addr × Obj)) (List.mem_of_getElem? hq)
        refine comp_let hoC F N ?rest3 hne.1 rfl rfl fun oC' h' tk' hoC' F' N' => ?_
        · intro p hp
          rcases List.mem_cons.mp hp with rfl | hp
          · exact fun e => hne.2.2 e.symm
          · exact (off p hp).2.1
        · simp only [List.cons_append] at N'
          generalize hl3 : (c3.map fun q => ((q.1, lob q.2 q.2.length) : Addr × Obj)) = l3 at N'
          clear N F hoC
          have hxv : (fun z => if z = Str.ofString "s" then some (Value.ref q.1) else m₂ z) (Str.ofString "s") = some (.ref q.1) := if_pos rfl
          generalize (fun z => if z = Str.ofString "s" then some (Value.ref q.1) else m₂ z) = m₃ at hoC' hxv
          refine wpAny_bind ?_
          rw [arm_eval_ListComp]
          k_dflt (refine' comp_eval_list (σ := List Value) (kind_list1 _ _ _ _ _ _) (o₀ := lob [] 0) ?k1 ?k2 ?k3 ?k4 ?k5 ?k6 ?k7 ?k8 ?k9 ?k10 (fun ys => lob ys ys.length) (fun _ => _) (fun i ys => StrsAre ys (((Txt.split x (Str.ofString "/")).take i).filter fun c => c ≠ Str.ofString "") ∧ ys.length ≤ i) [] ?k11 ?k12 ?k13 ?k14 ?k15 ?kiter ?kturn ?kfin)
          case k14 => exact N'
          case k1 => rfl
          case k2 => exact fun Q s hq => wpAny_newObj_type hq
          case k3 => rfl
          case k4 => rfl
          case k5 => decide
          case k6 => rfl
          case k7 => decide
          case k8 => intro _; rfl
          case k9 => rfl
          case k10 => intro _ _; rfl
          case k11 => rfl
          case k12 => exact fun _ => .tail _ (.tail _ (.tail _ (.tail _ (.tail _ (.tail _ (.tail _ (.tail _ (List.mem_append_left _ hmemq))))))))
          case k13 => assumption
          case k15 => exact ⟨.nil, Nat.le_refl _⟩
          case kiter =>
            intro Q' hq
            walk_at "my steps"
            exact hq _
          case kturn =>
            intro I2 C2 D4 ys j v2 oI2 oC2 m4 h2 tk2 hv2 hJ2 hoC2 off2 hne2 F2 N2
            obtain ⟨y, t, rfl, hy⟩ : ∃ y t, v2 = .str y t ∧ (Txt.split x (Str.ofString "/"))[j]? = some y := hsq.item j v2 hv2
            obtain ⟨hsy, hyl⟩ := hJ2
            have hj : j < (Txt.split x (Str.ofString "/")).length := (List.getElem?_eq_some_iff.mp hy).1
            have hyl' : ys.length ≤ 1000 := by have := hsl x (List.mem_of_getElem? hx); omega
            have hstep : ((Txt.split x (Str.ofString "/")).take (j + 1)).filter (fun c => c ≠ Str.ofString "") = ((Txt.split x (Str.ofString "/")).take j).filter (fun c => c ≠ Str.ofString "") ++ [y].filter (fun c => c ≠ Str.ofString "") := by
              rw [List.take_add_one, hy, List.filter_append]; rfl
            refine comp_let hoC2 F2 N2 ?rest4 hne2.1 rfl rfl fun oC2' h2' tk2' hoC2' F2' N2' => ?_
            · intro p hp
              rcases List.mem_cons.mp hp with rfl | hp
              · exact fun e => hne2.2.2 e.symm
              · exact (off2 p hp).2.1
            · clear N2 F2 hoC2
              have hxv2 : (fun z => if z = Str.ofString "c" then some (Value.str y t) else m4 z) (Str.ofString "c") = some (.str y t) := if_pos rfl
              generalize (fun z => if z = Str.ofString "c" then some (Value.str y t) else m4 z) = m5 at hoC2' hxv2
              have offx := off2
              simp only [COff, List.forall_mem_cons] at off2
              obtain ⟨⟨o1, o2, o3⟩, ⟨o4, o5, o6⟩, ⟨o7, o8, o9⟩, ⟨o10, o11, o12⟩, ⟨o13, o14, o15⟩, ⟨o16, o17, o18⟩, ⟨o19, o20, o21⟩, ⟨o22, o23, o24⟩, o⟩ := off2
              obtain ⟨n1, n2, n3⟩ := hne2
              have e0 : [Str.ofString ""].filter (fun c => c ≠ Str.ofString "") = [] := by decide
              have oD := fun p hp => (o p hp).2.2
              refine wpAny_bind ?_
              rcases hnm x (List.mem_of_getElem? hx) y (List.mem_of_getElem? hy) with rfl | rfl | rfl | rfl
              · walk_at "my steps"
                rw [if_neg Bool.false_ne_true]
                refine wpAny_pure ?_
                exact CTurn.intro ys (by assumption) (by assumption) hoC2' (fun _ h => h) ⟨⟨by rw [hstep, e0, List.append_nil]; exact hsy, by omega⟩, offx⟩
              · walk_at "my steps"
                rw [if_pos rfl]
                refine wpAny_bind ?_
                walk_at "my steps"
                refine wpAny_bind ?_
                refine' l_append (by assumption) (by assumption) ?U2 ?z2 (fun h3 F3 N3 => ?app2)
                case U2 => walk_at "my upd"
                case z2 => exact hyl'
                case app2 =>
                  refine wpAny_pure ?_
                  refine CTurn.intro (ys ++ [.str _ t]) F3 N3 hoC2' (fun p hp => ?_) ⟨⟨by rw [hstep]; exact hsy.append' (.cons _ _ .nil), by simp; omega⟩, offx⟩
                  rw [List.length_append] at hp
                  exact hp
              · walk_at "my steps"
                rw [if_pos rfl]
                refine wpAny_bind ?_
                walk_at "my steps"
                refine wpAny_bind ?_
                refine' l_append (by assumption) (by assumption) ?U3 ?z3 (fun h3 F3 N3 => ?app3)
                case U3 => walk_at "my upd"
                case z3 => exact hyl'
                case app3 =>
                  refine wpAny_pure ?_
                  refine CTurn.intro (ys ++ [.str _ t]) F3 N3 hoC2' (fun p hp => ?_) ⟨⟨by rw [hstep]; exact hsy.append' (.cons _ _ .nil), by simp; omega⟩, offx⟩
                  rw [List.length_append] at hp
                  exact hp
              · walk_at "my steps"
                rw [if_pos rfl]
                refine wpAny_bind ?_
                walk_at "my steps"
                refine wpAny_bind ?_
                refine' l_append (by assumption) (by assumption) ?U4 ?z4 (fun h3 F3 N3 => ?app4)
                case U4 => walk_at "my upd"
                case z4 => exact hyl'
                case app4 =>
                  refine wpAny_pure ?_
                  refine CTurn.intro (ys ++ [.str _ t]) F3 N3 hoC2' (fun p hp => ?_) ⟨⟨by rw [hstep]; exact hsy.append' (.cons _ _ .nil), by simp; omega⟩, offx⟩
                  rw [List.length_append] at hp
                  exact hp
          case kfin =>
            intro D4 ys h2 tk2 hJ2 F2 N2 off4
            have hqe : q.2.length = (Txt.split x (Str.ofString "/")).length := hsq.len_eq
            rw [hqe, List.take_length] at hJ2
            have hz := fun p hp => off p hp
            simp only [COff, List.cons_append, List.forall_mem_cons, hl3] at hz
            obtain ⟨⟨o1, o2, o3⟩, ⟨o4, o5, o6⟩, ⟨o7, o8, o9⟩, ⟨o10, o11, o12⟩, ⟨o13, o14, o15⟩, o⟩ := hz
            obtain ⟨n1, n2, n3⟩ := hne
            simp only [List.forall_mem_cons] at off4
            obtain ⟨q1, q2, q3, q4, q5, q6, q7, q8, q9⟩ := off4
            have oD := fun p hp => (o p hp).2.2
            refine wpAny_bind ?_
            refine' l_append F2 N2 ?U5 ?z5 (fun h3 F3 N3 => ?app5)
            case U5 => walk_at "my upd"
            case z5 => rw [List.length_map]; have := (List.getElem?_eq_some_iff.mp hq).1; have h5 : c.length = (Value.str x0 t0 :: vs).length := hlen; omega
            case app5 =>
              refine wpAny_pure ?_
              refine CTurn.intro (c3 ++ [(D4, ys)]) F3 N3 hoC' ?_ ?_
              · intro p hp
                simp only [List.map_append, List.map_cons, List.map_nil, List.length_append, List.length_cons, List.length_nil, Nat.zero_add, hl3, List.cons_append, List.mem_cons, List.mem_append, List.not_mem_nil, or_false] at hp ⊢
                grind
              · refine ⟨⟨by simp [hlen3], snoc_all hlen3 hall3 ⟨x, hx, hJ2.1⟩⟩, ?_⟩
                simp only [COff, List.map_append, List.map_cons, List.map_nil, List.cons_append, List.forall_mem_cons, hl3, List.forall_mem_append]
                exact ⟨⟨o1, o2, o3⟩, ⟨o4, o5, o6⟩, ⟨o7, o8, o9⟩, ⟨o10, o11, o12⟩, ⟨o13, o14, o15⟩, fun p hp => o p (List.mem_append_left _ hp), fun p hp => o p (List.mem_append_right _ hp), ⟨Ne.symm q1, Ne.symm q2, Ne.symm q3⟩, fun _ h => nomatch h⟩
      case fin =>
        intro D3 c3 h tk hJ F N off3
        obtain ⟨hlen3, hall3⟩ := hJ
        rw [List.length_map] at hlen3
        dsimp only
        walk_at "my steps"
        refine StopAt.mk ?_
        have hcs := fun q (hq : q ∈ c3) => (N _ (.tail _ (List.mem_append_right _ (List.mem_map_of_mem (f := fun q : Addr × List Value => ((q.1, lob q.2 q.2.length) : Addr × Obj)) hq)))).1
        refine min_call c3 ((x0 :: xs).map cpNames) _ (fun j q e => ?_) ?_ rfl ?_ (N _ (.head _)).1 hcs fun h3 tk3 q1 hq1 ext => ?_
        · obtain ⟨x, hx, hs⟩ := hall3 j q e
          exact ⟨_, by rw [List.getElem?_map, hx]; rfl, hs⟩
        · rw [hlen3, hlen]; exact Nat.succ_pos _
        · ktr_units
        · obtain ⟨x1, hx1, hs1⟩ := hall3 _ q1 hq1
          have hYl : ((x0 :: xs).map cpNames).length = c3.length := by rw [List.length_map, hlen3, hlen]; exact hsa.len_eq.symm
          obtain rfl : cpNames x1 = Tl := argmin_of hT hpre (by rw [hYl, List.getElem?_map, hx1]; rfl)
          have F3 := ext.fr0 F
          have N3 := ext.news0 N
          clear ext F N hcs
          dsimp only at F3 N3
          walk_at "my steps"
          refine StopAt.mk ?_
          rename News _ _ _ _ => N4
          rename Fr _ _ _ _ => F4
          have hcs4 := fun q (hq : q ∈ c3) => (N4 _ (.tail _ (List.mem_append_right _ (List.mem_map_of_mem (f := fun q : Addr × List Value => ((q.1, lob q.2 q.2.length) : Addr × Obj)) hq)))).1
          refine max_call c3 ((x0 :: xs).map cpNames) _ (fun j q e => ?_) ?_ rfl ?_ (N4 _ (.head _)).1 hcs4 fun h5 tk5 q2 hq2 ext => ?_
          · obtain ⟨x, hx, hs⟩ := hall3 j q e
            exact ⟨_, by rw [List.getElem?_map, hx]; rfl, hs⟩
          · rw [hlen3, hlen]; exact Nat.succ_pos _
          · ktr_units
          · obtain ⟨x2, hx2, hs2⟩ := hall3 _ q2 hq2
            obtain ⟨r2, hr2⟩ := hpre (cpNames x2) (List.mem_map_of_mem (List.mem_of_getElem? hx2))
            have hm1 := List.mem_of_getElem? hq1
            have hz1 : q1.2.length ≤ 1000 := by rw [hs1.len_eq]; exact Nat.le_trans (List.length_filter_le _ _) (Nat.le_trans (hsl x1 (List.mem_of_getElem? hx1)) (by decide))
            have hz2 : q2.2.length ≤ 1000 := by rw [hs2.len_eq]; exact Nat.le_trans (List.length_filter_le _ _) (Nat.le_trans (hsl x2 (List.mem_of_getElem? hx2)) (by decide))
            have hm2 := List.mem_of_getElem? hq2
            have F5 := ext.fr0 F4
            have N5 := ext.news0 N4
            clear ext F4 N4 hcs4
            try dsimp only at F5 N5
            walk_at "my steps"
            refine StopAt.mk ?_
            rename News _ _ _ _ => N6
            rename Fr _ _ _ _ => F6
            have hl1 := N6 (q1.1, lob q1.2 q1.2.length) (List.mem_cons_of_mem _ (List.mem_append_right _ (List.mem_map_of_mem (f := fun q : Addr × List Value => ((q.1, lob q.2 q.2.length) : Addr × Obj)) hm1)))
            have hl2 := N6 (q2.1, lob q2.2 q2.2.length) (List.mem_cons_of_mem _ (List.mem_append_right _ (List.mem_map_of_mem (f := fun q : Addr × List Value => ((q.1, lob q.2 q.2.length) : Addr × Obj)) hm2)))
            have hl3 := N6 _ (List.mem_cons_of_mem _ (List.mem_append_left _ (.tail _ (.tail _ (.tail _ (.head _))))))
            have hl4 := N6 _ (List.mem_cons_of_mem _ (List.mem_append_left _ (.tail _ (.tail _ (.tail _ (.tail _ (.head _)))))))
            have Ns : News _ _ _ [_, _, _, _] := List.forall_mem_cons.mpr ⟨hl1, List.forall_mem_cons.mpr ⟨hl2, List.forall_mem_cons.mpr ⟨hl3, List.forall_mem_cons.mpr ⟨hl4, List.forall_mem_nil _⟩⟩⟩⟩
            clear N6
            refine For_pair3F F6 ?f1 ?f2 ?f3 ?f4 ?f5 ?f6
            case f1 => rfl
            case f2 => rfl
            case f3 => rfl
            case f4 => rfl
            case f6 => intro _; rfl
            case f5 =>
              walk_at "my steps"
              refine StopAt.mk ?_
              rename News _ _ _ _ => N7
              rename Fr _ _ _ _ => F7
              have hpt : ∀ (i : Nat) (v : Value), q1.2[i]? = some v → ∃ y u u2, v = .str y u ∧ q2.2[i]? = some (.str y u2) := fun i v hv => by
                obtain ⟨y, u, rfl, hy⟩ := hs1.item i v hv
                have hi := (List.getElem?_eq_some_iff.mp hy).1
                obtain ⟨u2, h2⟩ := hs2.get i y (by rw [← hr2, List.getElem?_append_left hi]; exact hy)
                exact ⟨y, u, u2, rfl, h2⟩
              have hnN : ∀ y ∈ cpNames x1, isN y := fun y hy => by
                obtain ⟨h1, h2⟩ := List.mem_filter.mp hy
                rcases hnm x1 (List.mem_of_getElem? hx1) y h1 with rfl | h
                · exact absurd h2 (by decide)
                · exact h
              have hlN : (cpNames x1).length ≤ 100 := Nat.le_trans (List.length_filter_le _ _) (hsl x1 (List.mem_of_getElem? hx1))
              have hnw := names_weight hnN
              have hw : ((cpNames x1).map (·.length)).sum + (cpNames x1).length ≤ 1048576 := by omega
              have hj := join_len (cpNames x1) hnN hlN
              refine enum_quiet (l := q1.1) (vs := q1.2) rfl F7 N7 (.head _) ?eturn ?edone
              case eturn =>
                rintro i v t m₁ own s₁ ⟨h9, tk9, rfl⟩ hv hm F8 N8
                obtain ⟨y, u, u2, rfl, hy2⟩ := hpt i v hv
                have N9 : News _ _ h9 _ := fun p hp => N8 p (List.mem_append_right _ hp)
                clear N8
                rw [two_off hm] at F8
                generalize m₁ (Str.ofString "c") = mc at F8
                generalize m₁ (Str.ofString "i") = mi at F8
                dsimp only at F8
                clear F7 N7
                walk_at "my steps"
                try (refine l_item (D := q2.1) (vs := q2.2) (n := q2.2.length) N9 (.tail _ (.head _)) hy2 hz2 ?_; walk_at "my steps")
                all_goals first | exact 0 | (exfalso; have q : (y != y) = true := (by assumption); simp at q)
              case edone =>
                intro h9 tk9 m₁ F8 hm N8
                rw [two_off hm] at F8
                generalize m₁ (Str.ofString "c") = mc at F8
                generalize m₁ (Str.ofString "i") = mi at F8
                clear F7 N7
                dsimp only
                walk_at "my steps"
                exact h _ _ _ (fin0 (by assumption) (by assumption))
end
noncomputable def inter (c : Nat) : List (List Nat) → List Nat
  | [] => []
  | [p] => p
  | p :: q :: r => p ++ c :: inter c (q :: r)
theorem head_uniq (c : Nat) : ∀ (p q A B : List Nat), c ∉ p → c ∉ q → p ++ c :: A = q ++ c :: B → p = q ∧ A = B
  | [], [], A, B, _, _, h => by simp at h; exact ⟨rfl, h⟩
  | [], x :: q, A, B, _, hq, h => by simp at h; exact absurd (by rw [h.1]; exact .head _) hq
  | x :: p, [], A, B, hp, _, h => by simp at h; exact absurd (by rw [h.1]; exact .head _) hp
  | x :: p, y :: q, A, B, hp, hq, h => by
    simp only [List.cons_append, List.cons.injEq] at h
    obtain ⟨rfl, h⟩ := h
    obtain ⟨rfl, e⟩ := head_uniq c p q A B (fun m => hp (.tail _ m)) (fun m => hq (.tail _ m)) h
    exact ⟨rfl, e⟩
theorem inter_uniq (c : Nat) : ∀ (ps qs : List (List Nat)), ps ≠ [] → qs ≠ [] → (∀ p ∈ ps, c ∉ p) → (∀ q ∈ qs, c ∉ q) → inter c ps = inter c qs → ps = qs
  | [], _, h, _, _, _, _ => absurd rfl h
  | _, [], _, h, _, _, _ => absurd rfl h
  | [p], [q], _, _, _, _, h => by rw [show p = q from h]
  | [p], q :: q2 :: r, _, _, hp, _, h => absurd (by rw [show p = q ++ c :: inter c (q2 :: r) from h]; exact List.mem_append_right _ (.head _)) (hp p (.head _))
  | p :: p2 :: r, [q], _, _, _, hq, h => absurd (by rw [show q = p ++ c :: inter c (p2 :: r) from h.symm]; exact List.mem_append_right _ (.head _)) (hq q (.head _))
  | p :: p2 :: r, q :: q2 :: r2, _, _, hp, hq, h => by
    obtain ⟨rfl, e⟩ := head_uniq c p q _ _ (hp p (.head _)) (hq q (.head _)) h
    rw [inter_uniq c (p2 :: r) (q2 :: r2) (fun h => nomatch h) (fun h => nomatch h) (fun x m => hp x (.tail _ m)) (fun x m => hq x (.tail _ m)) e]
theorem join_inter (c : Nat) : ∀ (ps : List Str), (Str.join ⟨#[c]⟩ ps).cps.toList = inter c (ps.map (·.cps.toList))
  | [] => rfl
  | [p] => rfl
  | p :: q :: r => by
    show ((p ++ ⟨#[c]⟩ ++ Str.join ⟨#[c]⟩ (q :: r) : Str).cps).toList = _
    have e : ∀ a b : Str, (a ++ b).cps.toList = a.cps.toList ++ b.cps.toList := fun a b => by
      show (a.cps ++ b.cps).toList = _
      simp
    rw [e, e, join_inter c (q :: r)]
    simp [inter]
theorem str_of_list : ∀ {p q : Str}, p.cps.toList = q.cps.toList → p = q
  | ⟨_⟩, ⟨_⟩, h => congrArg Str.mk (Array.toList_inj.mp h)
theorem strs_of_lists : ∀ {ps qs : List Str}, ps.map (·.cps.toList) = qs.map (·.cps.toList) → ps = qs
  | [], [], _ => rfl
  | [], _ :: _, h => by simp at h
  | _ :: _, [], h => by simp at h
  | p :: ps, q :: qs, h => by
    simp only [List.map_cons, List.cons.injEq] at h
    rw [strs_of_lists h.2]
    obtain ⟨h1, _⟩ := h
    exact congrArg (· :: qs) (str_of_list h1)
theorem split_of_join (c : Nat) {ps : List Str} (hne : ps ≠ []) (hne2 : Txt.split (Str.join ⟨#[c]⟩ ps) ⟨#[c]⟩ ≠ []) (hf : ∀ p ∈ ps, c ∉ p.cps.toList) : Txt.split (Str.join ⟨#[c]⟩ ps) ⟨#[c]⟩ = ps := by
  have h1 := StrLaws.join_split (Str.join ⟨#[c]⟩ ps) ⟨#[c]⟩
  have h2 := StrLaws.split_free (Str.join ⟨#[c]⟩ ps) c
  refine strs_of_lists (inter_uniq c _ _ (by simpa using hne2) (by simpa using hne) (fun p hp => ?_) (fun p hp => ?_) ?_)
  · obtain ⟨x, hx, rfl⟩ := List.mem_map.mp hp; exact h2 x hx
  · obtain ⟨x, hx, rfl⟩ := List.mem_map.mp hp; exact hf x hx
  · rw [← join_inter, ← join_inter, h1]
theorem split_ne (x y : Str) : Txt.split x y ≠ [] := by
  unfold Txt.split
  split
  · intro h; cases h
  · split
    · intro h; cases h
    · generalize Builtin.Str.occurrences x y 0 x.length (x.length + 1) = cuts
      intro h
      cases cuts <;> simp [Builtin.Str.partsBetween] at h
noncomputable abbrev sl : Str := Str.ofString "/"
theorem sl_eq : Str.ofString "/" = ⟨#[47]⟩ := by decide +kernel
/-- the place of the names -/
noncomputable def plc (l : List Str) : Str := Str.ofString "/" ++ Txt.join (Str.ofString "/") l
theorem isN_free {y : Str} (h : isN y) : 47 ∉ y.cps.toList := by
  rcases h with rfl | rfl | rfl <;> decide +kernel
theorem isW_free {y : Str} (h : isW y) : 47 ∉ y.cps.toList := by
  rcases h with h | rfl | rfl
  · exact isN_free h
  · decide +kernel
  · decide +kernel
theorem empty_app (x : Str) : Str.ofString "" ++ x = x := str_of_list (by show ((Str.ofString "").cps ++ x.cps).toList = _; rw [show (Str.ofString "").cps = #[] from by decide +kernel]; simp)
theorem plc_join {l : List Str} (hl : l ≠ []) : plc l = Str.join ⟨#[47]⟩ (Str.ofString "" :: l) := by
  obtain ⟨a, r, rfl⟩ := List.exists_cons_of_ne_nil hl
  show Str.ofString "/" ++ Builtin.Str.glued (Str.ofString "/") (a :: r) = Str.ofString "" ++ (⟨#[47]⟩ : Str) ++ Str.join ⟨#[47]⟩ (a :: r)
  rw [StrLaws.glued_eq_join, sl_eq, empty_app]
theorem split_plc {l : List Str} (hl : l ≠ []) (h : ∀ y ∈ l, 47 ∉ y.cps.toList) : Txt.split (plc l) (Str.ofString "/") = Str.ofString "" :: l := by
  rw [plc_join hl, sl_eq]
  refine split_of_join 47 (fun h => nomatch h) (split_ne _ _) fun p hp => ?_
  rcases List.mem_cons.mp hp with rfl | hp
  · decide +kernel
  · exact h p hp
theorem split_plc0 : Txt.split (plc []) (Str.ofString "/") = [Str.ofString "", Str.ofString ""] := by decide +kernel
theorem cpNames_plc {l : List Str} (h : ∀ y ∈ l, isN y) : cpNames (plc l) = l := by
  unfold cpNames
  cases l with
  | nil => rw [split_plc0]; decide +kernel
  | cons a r =>
    rw [split_plc (l := a :: r) (fun h => nomatch h) fun y hy => isN_free (h y hy)]
    rw [List.filter_cons_of_neg (by decide +kernel)]
    refine List.filter_eq_self.mpr fun y hy => ?_
    rcases (h y hy : isN y) with rfl | rfl | rfl <;> decide +kernel
theorem range_pick {α : Type} : ∀ (l : List α), (List.range l.length).filterMap (l[·]?) = l
  | l => by
    apply List.ext_getElem?
    intro i
    have h : ∀ n, n ≤ l.length → (List.range n).filterMap (l[·]?) = l.take n := by
      intro n
      induction n with
      | zero => intro _; rfl
      | succ n ih =>
        intro hn
        rw [List.range_succ, List.filterMap_append, ih (by omega), List.take_add_one]
        have : l[n]? = some l[n] := List.getElem?_eq_getElem (by omega)
        simp [this]
    rw [h l.length (Nat.le_refl _), List.take_length]
theorem idx_tail (n : Nat) : Builtin.Str.strSliceIndices (some 1) none 1 (n + 1) = (List.range n).map (· + 1) := by
  unfold Builtin.Str.strSliceIndices sliceRange
  have e1 : (max 0 (min (1 : Int) ((n + 1 : Nat) : Int))) = 1 := by omega
  simp only [show (1 : Int) > 0 by decide, if_true, show ¬ ((1 : Int) < 0) by decide, if_false, e1]
  have e2 : (if (1 : Int) < ((n + 1 : Nat) : Int) then (((n + 1 : Nat) : Int) - 1 + 1 - 1) / 1 else 0).toNat = n := by split <;> omega
  rw [e2]
  refine List.map_congr_left fun k _ => ?_
  omega
theorem slice_tail (c : Nat) (r : Str) : Txt.slice (⟨#[c]⟩ ++ r) (some 1) none = r := by
  have e : (⟨#[c]⟩ ++ r : Str).length = r.length + 1 := by show (#[c] ++ r.cps).size = r.cps.size + 1; simp; omega
  unfold Txt.slice
  rw [e, idx_tail]
  rw [if_neg (by simp)]
  apply str_of_list
  show (List.filterMap (fun i => (#[c] ++ r.cps)[i]?) ((List.range r.cps.size).map (· + 1))) = r.cps.toList
  rw [List.filterMap_map]
  have e3 : ((fun i => (#[c] ++ r.cps)[i]?) ∘ (· + 1)) = fun i => r.cps.toList[i]? := by
    funext i
    simp [Array.getElem?_append]
  rw [e3]
  have := range_pick r.cps.toList
  simpa using this
theorem app_list (a b : Str) : (a ++ b).cps.toList = a.cps.toList ++ b.cps.toList := by
  show (a.cps ++ b.cps).toList = _
  simp
theorem idx_head (n : Nat) : Builtin.Str.strSliceIndices none (some 1) 1 (n + 1) = [0] := by
  unfold Builtin.Str.strSliceIndices sliceRange
  have e1 : (max 0 (min (1 : Int) ((n + 1 : Nat) : Int))) = 1 := by omega
  simp only [show (1 : Int) > 0 by decide, if_true, show ¬ ((1 : Int) < 0) by decide, if_false, e1]
  rfl
theorem slice_head (c : Nat) (r : Str) : Txt.slice (⟨#[c]⟩ ++ r) none (some 1) = ⟨#[c]⟩ := by
  have e : (⟨#[c]⟩ ++ r : Str).length = r.length + 1 := by show (#[c] ++ r.cps).size = r.cps.size + 1; simp; omega
  unfold Txt.slice
  rw [e, idx_head]
  split
  · rename_i h
    have h0 : r.cps.size = 0 := by
      have : (1 : Nat) = r.length + 1 := by simpa using h
      show r.length = 0
      omega
    apply str_of_list
    show (#[c] ++ r.cps).toList = [c]
    have : r.cps = #[] := Array.eq_empty_of_size_eq_zero h0
    rw [this]; rfl
  · apply str_of_list
    have h0 : (#[c] ++ r.cps)[0]? = some c := by rw [Array.getElem?_append_left (by simp)]; rfl
    exact List.filterMap_cons_some (f := fun i => (#[c] ++ r.cps)[i]?) (l := []) h0
theorem join_snoc (sep : Str) : ∀ (l : List Str) (y : Str), l ≠ [] → Str.join sep (l ++ [y]) = Str.join sep l ++ sep ++ y
  | [], _, h => absurd rfl h
  | [a], y, _ => rfl
  | a :: b :: r, y, _ => by
    have ih := join_snoc sep (b :: r) y (fun h => nomatch h)
    show a ++ sep ++ Str.join sep (b :: r ++ [y]) = a ++ sep ++ Str.join sep (b :: r) ++ sep ++ y
    rw [ih]
    apply str_of_list
    simp only [app_list, List.append_assoc]
theorem plc_snoc {l : List Str} (h : l ≠ []) (y : Str) : plc (l ++ [y]) = plc l ++ (Str.ofString "/" ++ y) := by
  show Str.ofString "/" ++ Builtin.Str.glued _ (l ++ [y]) = Str.ofString "/" ++ Builtin.Str.glued _ l ++ (Str.ofString "/" ++ y)
  rw [StrLaws.glued_eq_join, StrLaws.glued_eq_join, join_snoc _ l y h]
  apply str_of_list
  simp only [app_list, List.append_assoc]
theorem plc_one (y : Str) : plc ([] ++ [y]) = plc [] ++ y := by
  apply str_of_list
  show (Str.ofString "/" ++ Builtin.Str.glued _ [y]).cps.toList = (Str.ofString "/" ++ Builtin.Str.glued _ [] ++ y).cps.toList
  rw [StrLaws.glued_eq_join, StrLaws.glued_eq_join]
  simp only [app_list]
  show _ ++ y.cps.toList = _ ++ ([] : List Nat) ++ _
  simp
theorem idx_second (n : Nat) : Builtin.Str.strSliceIndices (some 1) (some 2) 1 (n + 2) = [1] := by
  unfold Builtin.Str.strSliceIndices sliceRange
  have e1 : (max 0 (min (1 : Int) ((n + 2 : Nat) : Int))) = 1 := by omega
  have e2 : (max 0 (min (2 : Int) ((n + 2 : Nat) : Int))) = 2 := by omega
  simp only [show (1 : Int) > 0 by decide, if_true, show ¬ ((1 : Int) < 0) by decide, show ¬ ((2 : Int) < 0) by decide, if_false, e1, e2]
  rfl
theorem slice_second (c : Nat) (r : Str) (h : r.cps[0]? ≠ some 47) : Txt.slice (⟨#[c]⟩ ++ r) (some 1) (some 2) ≠ Str.ofString "/" := by
  rw [sl_eq]
  have e : (⟨#[c]⟩ ++ r : Str).length = r.length + 1 := by show (#[c] ++ r.cps).size = r.cps.size + 1; simp; omega
  cases hn : r.length with
  | zero =>
    have h0 : r = ⟨#[]⟩ := str_of_list (by have : r.cps = #[] := Array.eq_empty_of_size_eq_zero hn; rw [this])
    rw [h0]
    intro q
    have := congrArg (·.length) q
    revert this
    have : (Txt.slice (⟨#[c]⟩ ++ ⟨#[]⟩) (some 1) (some 2)).length = 0 := by
      unfold Txt.slice
      rfl
    rw [this]
    exact fun h => nomatch h
  | succ k =>
    unfold Txt.slice
    rw [e, hn, idx_second, if_neg (by simp)]
    intro q
    have q2 := congrArg (·.cps.toList) q
    have q3 : List.filterMap (fun i => (#[c] ++ r.cps)[i]?) [1] = [47] := q2
    have h1 : (#[c] ++ r.cps)[1]? = r.cps[0]? := by rw [Array.getElem?_append_right (by simp)]; rfl
    have hk : 0 < r.cps.size := by show 0 < r.length; omega
    have h2 : r.cps[0]? = some r.cps[0] := Array.getElem?_eq_getElem hk
    rw [List.filterMap_cons_some (f := fun i => (#[c] ++ r.cps)[i]?) (l := []) (h1.trans h2)] at q3
    have q4 : r.cps[0] = 47 := by simpa using q3
    exact h (by rw [h2, q4])
theorem starts_plc (l : List Str) : Txt.startswith (plc l) (Str.ofString "/") = true := by
  show Txt.startswith (Str.ofString "/" ++ Txt.join (Str.ofString "/") l) (Str.ofString "/") = true
  rw [sl_eq]
  generalize Txt.join _ l = r
  unfold Txt.startswith Builtin.Str.subAt
  have e : (⟨#[47]⟩ ++ r : Str).length = r.length + 1 := by show (#[47] ++ r.cps).size = r.cps.size + 1; simp; omega
  rw [e]
  simp [Str.length]
  show (#[47] ++ r.cps).extract 0 1 = #[47]
  rw [Array.extract_append]
  simp
theorem ends_name (A y : Str) (h : isN y) : Txt.endswith (A ++ y) (Str.ofString "/") = false := by
  have key : ∀ (l : List Nat) (c : Nat), c ≠ 47 → y.cps.toList = l ++ [c] → Txt.endswith (A ++ y) (Str.ofString "/") = false := by
    intro l c hc e
    rw [sl_eq]
    unfold Txt.endswith Builtin.Str.subAt
    have e1 : (A ++ y).cps.toList = (A.cps.toList ++ l) ++ [c] := by rw [app_list, e, List.append_assoc]
    have e2 : (A ++ y).length = (A.cps.toList ++ l).length + 1 := by
      show (A ++ y).cps.size = _
      rw [← Array.length_toList, e1]; simp; omega
    rw [e2]
    have e3 : ((A ++ y).cps.extract ((A.cps.toList ++ l).length + 1 - 1) ((A.cps.toList ++ l).length + 1 - 1 + 1)).toList = [c] := by
      rw [Array.toList_extract, e1]
      generalize A.cps.toList ++ l = Z
      simp [List.extract]
    have e4 : ((A ++ y).cps.extract ((A.cps.toList ++ l).length + 1 - 1) ((A.cps.toList ++ l).length + 1 - 1 + 1) == (#[47] : Array Nat)) = false := by
      refine beq_eq_false_iff_ne.mpr fun q => hc ?_
      rw [q] at e3
      simpa using e3.symm
    show (_ && ((A ++ y).cps.extract _ _ == (#[47] : Array Nat))) = false
    rw [Bool.and_eq_false_iff]
    exact .inr e4
  rcases h with rfl | rfl | rfl
  · exact key [97] 98 (by decide) (by decide +kernel)
  · exact key [97, 32] 98 (by decide) (by decide +kernel)
  · exact key [99, 34] 100 (by decide) (by decide +kernel)
section
variable {w : World} {p : Program} {loose : List Str} {mean : ExcName → Option Value} {mg mb : Str → Option Value} {dp un : Nat} {fr : Option (List Env)} {gd : Option (List Code)} {h₀ : Heap} {s : Shared} {Q E : Value → Shared → Prop}
theorem join_n (l : List Str) (y : Str) (t t2 : Tok) (hl : ∀ z ∈ l, isN z) (hy : isW y) (hlen : (plc l).length ≤ 900)
    (X : (hd.heap_39 w.params).In h₀) (T : Top p loose mean mg mb h₀) (keep : ∀ b o, h₀.get? b = some o → s.heap.get? b = some o) (hdp : dp + 8 < recursionLimit) (hun : un + 24 < cLine)
    (h : ∀ t h' tk', Ext [] s.heap h' → Q (.str (plc (l ++ [y])) t) { s with heap := h', toks := tk' }) : wpAny (model PW w) (AR dp fr gd un) (call (.ref 115) [.str (plc l) t, .str y t2]) Q E s := by
  refine join_c (plc l) y (plc (l ++ [y])) t t2 (by omega) ?_ ?_ ?_ ?_ X T keep hdp hun h
  · rcases hy with (rfl | rfl | rfl) | rfl | rfl <;> decide +kernel
  · rcases hy with (rfl | rfl | rfl) | rfl | rfl <;> decide +kernel
  · show 0 < (Str.ofString "/" ++ Txt.join (Str.ofString "/") l).cps.size
    rw [← Array.length_toList, app_list, sl_eq]
    simp
  · rcases List.eq_nil_or_concat l with rfl | ⟨l', a, rfl⟩
    · rw [if_pos (by decide +kernel)]; exact plc_one y
    · rw [List.concat_eq_append] at *
      have ha : isN a := hl a (by simp)
      have e : Txt.endswith (plc (l' ++ [a])) (Str.ofString "/") = false := by
        rcases List.eq_nil_or_concat l' with rfl | ⟨l2, b, rfl⟩
        · rw [plc_one]; exact ends_name _ _ ha
        · rw [List.concat_eq_append] at *
          rw [plc_snoc (by simp) a]
          have := ends_name (plc (l2 ++ [b]) ++ Str.ofString "/") a ha
          rw [show plc (l2 ++ [b]) ++ (Str.ofString "/" ++ a) = plc (l2 ++ [b]) ++ Str.ofString "/" ++ a from str_of_list (by simp only [app_list, List.append_assoc])]
          exact this
      rw [if_neg (by rw [e]; exact Bool.false_ne_true)]
      exact plc_snoc (by simp) y
end
section
variable {w : World} {p : Program} {loose : List Str} {mean : ExcName → Option Value} {mg mb : Str → Option Value} {dp un : Nat} {fr : Option (List Env)} {gd : Option (List Code)} {h₀ : Heap} {s : Shared} {Q E : Value → Shared → Prop}
theorem plc_tail (l : List Str) : Txt.slice (plc l) (some 1) none = Txt.join (Str.ofString "/") l := by
  show Txt.slice (Str.ofString "/" ++ Txt.join (Str.ofString "/") l) (some 1) none = _
  have e := sl_eq
  generalize Txt.join (Str.ofString "/") l = r
  rw [e]; exact slice_tail 47 r
theorem isW_first {y : Str} (h : isW y) : ∃ c r, y.cps.toList = c :: r ∧ c ≠ 47 := by
  rcases h with (rfl | rfl | rfl) | rfl | rfl
  · exact ⟨97, [98], by decide +kernel, by decide⟩
  · exact ⟨97, [32, 98], by decide +kernel, by decide⟩
  · exact ⟨99, [34, 100], by decide +kernel, by decide⟩
  · exact ⟨46, [46], by decide +kernel, by decide⟩
  · exact ⟨46, [], by decide +kernel, by decide⟩
theorem join_first (a : Str) (r : List Str) (h : isW a) : (Txt.join (Str.ofString "/") (a :: r)).cps[0]? ≠ some 47 := by
  show (Builtin.Str.glued (Str.ofString "/") (a :: r)).cps[0]? ≠ some 47
  rw [StrLaws.glued_eq_join]
  obtain ⟨c, q, hc, hn⟩ := isW_first h
  have : ∃ q', (Str.join (Str.ofString "/") (a :: r)).cps.toList = c :: q' := by
    cases r with
    | nil => exact ⟨q, hc⟩
    | cons b r => exact ⟨_, by show (a ++ Str.ofString "/" ++ Str.join _ (b :: r) : Str).cps.toList = _; rw [app_list, app_list, hc]; rfl⟩
  obtain ⟨q', e⟩ := this
  rw [← Array.getElem?_toList, e]
  intro x
  exact hn (by simpa using x)
theorem norm_n (l : List Str) (t : Tok) (hne : l ≠ []) (hl : ∀ z ∈ l, isW z) (hlen : (plc l).length ≤ 1000) (hll : l.length ≤ 20)
    (X : (hd.heap_39 w.params).In h₀) (T : Top p loose mean mg mb h₀) (keep : ∀ b o, h₀.get? b = some o → s.heap.get? b = some o) (hdp : dp + 12 < recursionLimit) (hun : un + 40 < cLine)
    (h : ∀ t h' tk', Ext [] s.heap h' → Q (.str (plc (l.foldl nstep [])) t) { s with heap := h', toks := tk' }) : wpAny (model PW w) (AR dp fr gd un) (call (.ref 129) [.str (plc l) t]) Q E s := by
  obtain ⟨a, r, rfl⟩ := List.exists_cons_of_ne_nil hne
  refine normpath_c (plc (a :: r)) t (a :: r) hlen ?_ ?_ ?_ ?_ hl hll X T keep hdp hun h
  · show 0 < (Str.ofString "/" ++ Txt.join (Str.ofString "/") (a :: r)).cps.size
    rw [← Array.length_toList, app_list, sl_eq]
    simp
  · show Txt.slice (Str.ofString "/" ++ Txt.join (Str.ofString "/") (a :: r)) none (some 1) = Str.ofString "/"
    generalize Txt.join (Str.ofString "/") (a :: r) = q
    rw [sl_eq]; exact slice_head 47 q
  · have e := join_first a r (hl a (.head _))
    show Txt.slice (Str.ofString "/" ++ Txt.join (Str.ofString "/") (a :: r)) (some 1) (some 2) ≠ Str.ofString "/"
    generalize Txt.join (Str.ofString "/") (a :: r) = q at e
    have := slice_second 47 q e
    rwa [← sl_eq] at this
  · rw [plc_tail]
    show Txt.split (Builtin.Str.glued (Str.ofString "/") (a :: r)) (Str.ofString "/") = _
    rw [StrLaws.glued_eq_join, sl_eq]
    exact split_of_join 47 (fun h => nomatch h) (split_ne _ _) fun z hz => isW_free (hl z hz)
end
section
variable {w : World} {p : Program} {loose : List Str} {mean : ExcName → Option Value} {mg mb : Str → Option Value} {dp un : Nat} {fr : Option (List Env)} {gd : Option (List Code)} {h₀ : Heap} {s : Shared} {Q E : Value → Shared → Prop}
theorem common_n (a : Addr) (vs : List Value) (n : Nat) (ls : List (List Str)) (Tl : List Str) (ha : s.heap.get? a = some (lob vs n)) (hsa : StrsAre vs (ls.map plc)) (hle : vs.length ≤ 1000) (hne : vs ≠ [])
    (hls : ∀ l ∈ ls, (∀ z ∈ l, isN z) ∧ (plc l).length ≤ 1000 ∧ l.length ≤ 20) (hT : Tl ∈ ls) (hpre : ∀ l ∈ ls, Tl <+: l)
    (X : (hd.heap_39 w.params).In h₀) (T : Top p loose mean mg mb h₀) (keep : ∀ b o, h₀.get? b = some o → s.heap.get? b = some o) (hdp : dp + 12 < recursionLimit) (hun : un + 40 < cLine)
    (h : ∀ t h' tk', Ext [] s.heap h' → Q (.str (plc Tl) t) { s with heap := h', toks := tk' }) : wpAny (model PW w) (AR dp fr gd un) (call (.ref 134) [.ref a]) Q E s := by
  have ec : (ls.map plc).map cpNames = ls := by
    rw [List.map_map]
    exact (List.map_congr_left fun l hl => cpNames_plc (hls l hl).1).trans (List.map_id' ls)
  have es : ∀ l ∈ ls, ∀ z ∈ Txt.split (plc l) (Str.ofString "/"), z = Str.ofString "" ∨ isN z := fun l hl z hz => by
    cases l with
    | nil => rw [split_plc0] at hz; simp at hz; exact .inl hz
    | cons b r =>
      rw [split_plc (l := b :: r) (fun h => nomatch h) fun y hy => isN_free ((hls _ hl).1 y hy)] at hz
      rcases List.mem_cons.mp hz with rfl | hz
      · exact .inl rfl
      · exact .inr ((hls _ hl).1 z hz)
  have el : ∀ l ∈ ls, (Txt.split (plc l) (Str.ofString "/")).length ≤ 100 := fun l hl => by
    cases l with
    | nil => rw [split_plc0]; decide
    | cons b r =>
      rw [split_plc (l := b :: r) (fun h => nomatch h) fun y hy => isN_free ((hls _ hl).1 y hy)]
      have := (hls _ hl).2.2
      simp at this ⊢
      omega
  refine commonpath_c a vs n (ls.map plc) Tl ha hsa hle hne ?_ ?_ ?_ ?_ ?_ ?_ X T keep hdp hun h
  all_goals first
    | (rw [ec]; assumption)
    | (intro x hx; obtain ⟨l, hl, rfl⟩ := List.mem_map.mp hx; first | exact (hls l hl).2.1 | exact es l hl | exact el l hl | exact starts_plc l)
end
theorem rows20 : True := by
  k_with "my ne" => (((try dsimp only); first | assumption | exact Ne.symm (by assumption) | exact Nat.ne_of_gt (by assumption) | exact Nat.ne_of_lt (by assumption)))
  k_with "my off" => (first | exact List.forall_mem_nil _ | assumption | exact fun p hp => Nat.ne_of_lt (by rename_i h; exact h p hp) | (refine List.forall_mem_cons.mpr ⟨by walk_at "my ne", ?_⟩; walk_at "my off") | (refine List.forall_mem_append.mpr ⟨?_, ?_⟩ <;> walk_at "my off") | exact fun p hp => by grind)
  k_with "my upd" => (first | (refine' Upd.head ?_; walk_at "my off") | (refine' Upd.tail (by walk_at "my ne") (by walk_at "my upd")))
  trivial
noncomputable def fmTables : Array Value := #[.ref 191, .ref 193, .ref 195, .ref 199, .ref 201, .ref 203, .ref 207, .ref 209, .ref 211, .ref 215]
noncomputable def one (c : Nat) : Str := ⟨#[c]⟩
noncomputable def fmEnd (z : Int) (c : Nat) : Prop := if Builtin.bitAnd z 1 = 1 then c = 120 ∨ c = 116 else c = 45 ∨ c = 84
noncomputable def fmMode (z : Int) : Prop := ((Builtin.bitAnd z 513 = 513) ↔ (Builtin.bitAnd z 512 = 512 ∧ Builtin.bitAnd z 1 = 1))
theorem fm_turn {z : Int} {i : Nat} {m m' : Str → Option Value} {own news' : List (Addr × Obj)} {l7 L : Addr} {h₀ h' : Heap} {tk' : Nat} {s : Shared} {cs : List Nat} {vs : List Value} {n c : Nat} {y : Str} {u : Tok} {ks : List Str}
    (hS : StrsAre vs (cs.map one)) (hl : cs.length = i) (e : y = one c) (hi : i < 10) (h9 : i = 9 → fmEnd z c) (F : Fr h₀ L h' m') (N : News h₀ L h' news') (hsub : ∀ p ∈ (l7, lob (vs ++ [Value.str y u]) (n + 1)) :: own, p ∈ news') (hm : ∀ y, y ∉ ks → m' y = m y) :
    TurnN h₀ L (fun c : List Nat × List Value × Nat => [(l7, lob c.2.1 c.2.2)]) (fun c => StrsAre c.2.1 (c.1.map one) ∧ c.1.length = i + 1 ∧ ∀ d, c.1[9]? = some d → fmEnd z d) ks m own s .next { s with heap := h', toks := tk' } := by
  subst e
  refine ⟨rfl, (cs ++ [c], vs ++ [Value.str (one c) u], n + 1), m', h', tk', rfl, F, fun p hp => N p (hsub p hp), ⟨?_, ?_, ?_⟩, hm⟩
  · show StrsAre (vs ++ [Value.str (one c) u]) ((cs ++ [c]).map one)
    rw [List.map_append]; exact hS.append' (.cons _ _ .nil)
  · simp [hl]
  · intro d hd
    have hd' : (cs ++ [c])[9]? = some d := hd
    by_cases h : i = 9
    · subst hl
      rw [List.getElem?_append_right (by omega), h] at hd'
      simp at hd'
      exact hd' ▸ h9 h
    · rw [List.getElem?_eq_none (by simp; omega)] at hd'; cases hd'
theorem four_back {x1 x2 x3 x4 : Str} {v1 v2 v3 v4 : Option Value} {m : Str → Option Value} : ∀ y, y ∉ [x1, x2, x3, x4] → (fun y => if y = x4 then v4 else if y = x3 then v3 else if y = x2 then v2 else if y = x1 then v1 else m y) y = m y := by
  intro y hy
  simp only [List.mem_cons, List.not_mem_nil, or_false, not_or] at hy
  obtain ⟨h1, h2, h3, h4⟩ := hy
  exact (if_neg h4).trans ((if_neg h3).trans ((if_neg h2).trans (if_neg h1)))
theorem base_next {h₀ h' : Heap} {L I : Addr} {s : Shared} {oI : Obj} {led : List (Addr × Obj)} {m m' : Str → Option Value} {xi xc : Str} {K : Prop} {Q : Flow → Shared → Prop} {tk' : Nat} (F : Fr h₀ L h' m') (N : News h₀ L h' ((I, oI) :: led)) (hm : ∀ y, y ≠ xi → y ≠ xc → m' y = m y) (hK : K) :
    BaseTurn h₀ L s I oI led (fun m' => (∀ y, y ≠ xi → y ≠ xc → m' y = m y) ∧ K) Q .next { s with heap := h', toks := tk' } := ⟨m', h', tk', rfl, F, N, hm, hK⟩
theorem two_back {x1 x2 : Str} {v1 v2 : Option Value} {m : Str → Option Value} : ∀ y, y ≠ x1 → y ≠ x2 → (fun y => if y = x2 then v2 else if y = x1 then v1 else m y) y = m y := fun _ h1 h2 => (if_neg h2).trans (if_neg h1)
theorem fm_b0 {z : Int} {P : Prop} (hz : fmMode z) (_ : P) (h : Builtin.bitAnd z 513 = 513) : fmEnd z 116 := by unfold fmEnd; rw [if_pos (hz.mp h).2]; exact .inr rfl
theorem fm_b1 {z : Int} {P R : Prop} (hz : fmMode z) (hK : (1 ≤ 0 + 1 → ¬ Builtin.bitAnd z 513 = 513) ∧ P ∧ R) (h : Builtin.bitAnd z 512 = 512) : fmEnd z 84 := by
  unfold fmEnd; rw [if_neg fun h1 => hK.1 (by decide) (hz.mpr ⟨h, h1⟩)]; exact .inr rfl
theorem fm_b2 {z : Int} {P : Prop} (_ : fmMode z) (_ : P) (h : Builtin.bitAnd z 1 = 1) : fmEnd z 120 := by unfold fmEnd; rw [if_pos h]; exact .inl rfl
theorem fm_e {z : Int} (h : ¬ Builtin.bitAnd z 1 = 1) : fmEnd z 45 := by unfold fmEnd; rw [if_neg h]; exact .inl rfl
theorem fm_n0 {z : Int} {P : Prop} (_ : P) (h : ¬ Builtin.bitAnd z 513 = 513) : (1 ≤ 0 + 1 → ¬ Builtin.bitAnd z 513 = 513) ∧ (2 ≤ 0 + 1 → ¬ Builtin.bitAnd z 512 = 512) ∧ (3 ≤ 0 + 1 → ¬ Builtin.bitAnd z 1 = 1) := ⟨fun _ => h, fun h => absurd h (by decide), fun h => absurd h (by decide)⟩
theorem fm_n1 {z : Int} {P R : Prop} (hK : (1 ≤ 0 + 1 → ¬ Builtin.bitAnd z 513 = 513) ∧ P ∧ R) (h : ¬ Builtin.bitAnd z 512 = 512) : (1 ≤ 0 + 1 + 1 → ¬ Builtin.bitAnd z 513 = 513) ∧ (2 ≤ 0 + 1 + 1 → ¬ Builtin.bitAnd z 512 = 512) ∧ (3 ≤ 0 + 1 + 1 → ¬ Builtin.bitAnd z 1 = 1) := ⟨fun _ => hK.1 (by decide), fun _ => h, fun h => absurd h (by decide)⟩
theorem fm_n2 {z : Int} {R : Prop} (hK : (1 ≤ 0 + 1 + 1 → ¬ Builtin.bitAnd z 513 = 513) ∧ (2 ≤ 0 + 1 + 1 → ¬ Builtin.bitAnd z 512 = 512) ∧ R) (h : ¬ Builtin.bitAnd z 1 = 1) : (1 ≤ 0 + 1 + 1 + 1 → ¬ Builtin.bitAnd z 513 = 513) ∧ (2 ≤ 0 + 1 + 1 + 1 → ¬ Builtin.bitAnd z 512 = 512) ∧ (3 ≤ 0 + 1 + 1 + 1 → ¬ Builtin.bitAnd z 1 = 1) := ⟨fun _ => hK.1 (by decide), fun _ => hK.2.1 (by decide), fun _ => h⟩
theorem fm_weight {cs : List Nat} (h : cs.length = 10) : ((cs.map one).map (·.length)).sum + (cs.map one).length ≤ 1048576 := by
  have : ∀ l : List Nat, ((l.map one).map (·.length)).sum = l.length := by
    intro l; induction l with
    | nil => rfl
    | cons a l ih => simp only [List.map_cons, List.sum_cons, List.length_cons, ih]; show 1 + _ = _; omega
  rw [this]; simp; omega
theorem four_ne {x1 x2 x3 x4 y : Str} (hy : y ∉ [x1, x2, x3, x4]) : y ≠ x1 ∧ y ≠ x2 ∧ y ≠ x3 ∧ y ≠ x4 := by
  simp only [List.mem_cons, List.not_mem_nil, or_false, not_or] at hy
  exact hy
theorem rows21 : True := by
  k_with "my four" => ((intro _ hy; obtain ⟨h1, h2, h3, h4⟩ := four_ne hy; (repeat (first | refine (if_neg h4).trans ?_ | refine (if_neg h3).trans ?_ | refine (if_neg h2).trans ?_ | refine (if_neg h1).trans ?_)); rfl))
  k_with "my two" => ((intro _ h1 h2; (repeat (first | refine (if_neg h2).trans ?_ | refine (if_neg h1).trans ?_)); rfl))
  trivial
theorem one_join (cs : List Nat) : Txt.join (Str.ofString "") (cs.map one) = ⟨cs.toArray⟩ := by
  show Builtin.Str.glued (Str.ofString "") (cs.map one) = _
  rw [StrLaws.glued_eq_join]
  have e0 : Str.ofString "" = ⟨#[]⟩ := by decide +kernel
  rw [e0]
  have key : ∀ cs : List Nat, (Str.join ⟨#[]⟩ (cs.map one)).cps.toList = cs := by
    intro cs
    induction cs with
    | nil => decide +kernel
    | cons a r ih =>
      cases r with
      | nil => rfl
      | cons b r =>
        show ((one a ++ (⟨#[]⟩ : Str) ++ Str.join ⟨#[]⟩ ((b :: r).map one) : Str)).cps.toList = _
        have e : ∀ x y : Str, (x ++ y).cps = x.cps ++ y.cps := fun _ _ => rfl
        rw [e, e]
        simp only [Array.toList_append, ih]
        rfl
  exact str_of_list (by rw [key])
theorem fm_modes : ∀ a : Fin 8, ∀ b : Fin 2, fmMode (16895 - (a.val : Int) + (b.val : Int) * 512) ∧ (Builtin.bitAnd (16895 - (a.val : Int) + (b.val : Int) * 512) 1 = 1 ↔ (16895 - (a.val : Int) + (b.val : Int) * 512) % 2 ≠ 0) := by
  unfold fmMode
  decide +kernel
theorem fm_mode {z : Int} {a b : Int} (ha : 0 ≤ a) (ha' : a < 8) (hb : 0 ≤ b) (hb' : b < 2) (hz : z = 16895 - a + b * 512) : fmMode z ∧ (Builtin.bitAnd z 1 = 1 ↔ z % 2 ≠ 0) := by
  obtain ⟨a, rfl⟩ := Int.eq_ofNat_of_zero_le ha
  obtain ⟨b, rfl⟩ := Int.eq_ofNat_of_zero_le hb
  have := fm_modes ⟨a, by omega⟩ ⟨b, by omega⟩
  subst hz
  exact this
theorem rows22 : True := by
  k_with "exec For Tuple Call cons nil" => ((k_here; refine stop_here ?_))
  k_with "exec For Tuple Call" => ((k_here; refine stop_here ?_))
  k_with "call type:enumerate" => ((k_here; refine stop_here ?_))
  k_with "call builtin:list.append" => ((k_here; (with_reducible show wpAny _ _ (call (Value.builtin _) [Value.ref _, _]) _ _ _); k_dflt (refine' l_append (by k_asm) (by k_asm) (by walk_at "my upd") (by walk_at "my size") ?_; k_whole); intro _ _ _; (try k_sweep)))
  trivial
theorem fm_data {P : Params} {h₀ : Heap} (X : (hd.heap_39 P).In h₀) : ∀ (i : Nat) (v : Value), fmTables[i]? = some v → ∃ ax items, v = .ref ax ∧ h₀.IsTuple ax items ∧ (i = 9 → items.size = 3) ∧ (∀ (j : Nat) (u : Value), items[j]? = some u → ∃ ay b tb c y tc, u = .ref ay ∧ h₀.IsTuple ay #[.int b tb, .str y tc] ∧ y = one c ∧
    (i = 9 → (j = 0 ∧ b = 513 ∧ c = 116) ∨ (j = 1 ∧ b = 512 ∧ c = 84) ∨ (j = 2 ∧ b = 1 ∧ c = 120))) := by
  intro i v hv
  rcases i with _ | _ | _ | _ | _ | _ | _ | _ | _ | _ | i
  · obtain rfl : Value.ref 191 = v := Option.some.inj hv
    refine ⟨_, _, rfl, ⟨_, X 191 _ rfl, rfl, _, rfl⟩, fun h => absurd h (by decide), fun j u hu => ?_⟩
    rcases j with _ | _ | _ | _ | _ | _ | _ | j
    · obtain rfl : Value.ref 184 = u := Option.some.inj hu
      exact ⟨_, _, _, 108, _, _, rfl, ⟨_, X 184 _ rfl, rfl, _, rfl⟩, by with_unfolding_all rfl, fun h => absurd h (by decide)⟩
    · obtain rfl : Value.ref 185 = u := Option.some.inj hu
      exact ⟨_, _, _, 115, _, _, rfl, ⟨_, X 185 _ rfl, rfl, _, rfl⟩, by with_unfolding_all rfl, fun h => absurd h (by decide)⟩
    · obtain rfl : Value.ref 186 = u := Option.some.inj hu
      exact ⟨_, _, _, 45, _, _, rfl, ⟨_, X 186 _ rfl, rfl, _, rfl⟩, by with_unfolding_all rfl, fun h => absurd h (by decide)⟩
    · obtain rfl : Value.ref 187 = u := Option.some.inj hu
      exact ⟨_, _, _, 98, _, _, rfl, ⟨_, X 187 _ rfl, rfl, _, rfl⟩, by with_unfolding_all rfl, fun h => absurd h (by decide)⟩
    · obtain rfl : Value.ref 188 = u := Option.some.inj hu
      exact ⟨_, _, _, 100, _, _, rfl, ⟨_, X 188 _ rfl, rfl, _, rfl⟩, by with_unfolding_all rfl, fun h => absurd h (by decide)⟩
    · obtain rfl : Value.ref 189 = u := Option.some.inj hu
      exact ⟨_, _, _, 99, _, _, rfl, ⟨_, X 189 _ rfl, rfl, _, rfl⟩, by with_unfolding_all rfl, fun h => absurd h (by decide)⟩
    · obtain rfl : Value.ref 190 = u := Option.some.inj hu
      exact ⟨_, _, _, 112, _, _, rfl, ⟨_, X 190 _ rfl, rfl, _, rfl⟩, by with_unfolding_all rfl, fun h => absurd h (by decide)⟩
    · exact nomatch hu
  · obtain rfl : Value.ref 193 = v := Option.some.inj hv
    refine ⟨_, _, rfl, ⟨_, X 193 _ rfl, rfl, _, rfl⟩, fun h => absurd h (by decide), fun j u hu => ?_⟩
    rcases j with _ | j
    · obtain rfl : Value.ref 192 = u := Option.some.inj hu
      exact ⟨_, _, _, 114, _, _, rfl, ⟨_, X 192 _ rfl, rfl, _, rfl⟩, by with_unfolding_all rfl, fun h => absurd h (by decide)⟩
    · exact nomatch hu
  · obtain rfl : Value.ref 195 = v := Option.some.inj hv
    refine ⟨_, _, rfl, ⟨_, X 195 _ rfl, rfl, _, rfl⟩, fun h => absurd h (by decide), fun j u hu => ?_⟩
    rcases j with _ | j
    · obtain rfl : Value.ref 194 = u := Option.some.inj hu
      exact ⟨_, _, _, 119, _, _, rfl, ⟨_, X 194 _ rfl, rfl, _, rfl⟩, by with_unfolding_all rfl, fun h => absurd h (by decide)⟩
    · exact nomatch hu
  · obtain rfl : Value.ref 199 = v := Option.some.inj hv
    refine ⟨_, _, rfl, ⟨_, X 199 _ rfl, rfl, _, rfl⟩, fun h => absurd h (by decide), fun j u hu => ?_⟩
    rcases j with _ | _ | _ | j
    · obtain rfl : Value.ref 196 = u := Option.some.inj hu
      exact ⟨_, _, _, 115, _, _, rfl, ⟨_, X 196 _ rfl, rfl, _, rfl⟩, by with_unfolding_all rfl, fun h => absurd h (by decide)⟩
    · obtain rfl : Value.ref 197 = u := Option.some.inj hu
      exact ⟨_, _, _, 83, _, _, rfl, ⟨_, X 197 _ rfl, rfl, _, rfl⟩, by with_unfolding_all rfl, fun h => absurd h (by decide)⟩
    · obtain rfl : Value.ref 198 = u := Option.some.inj hu
      exact ⟨_, _, _, 120, _, _, rfl, ⟨_, X 198 _ rfl, rfl, _, rfl⟩, by with_unfolding_all rfl, fun h => absurd h (by decide)⟩
    · exact nomatch hu
  · obtain rfl : Value.ref 201 = v := Option.some.inj hv
    refine ⟨_, _, rfl, ⟨_, X 201 _ rfl, rfl, _, rfl⟩, fun h => absurd h (by decide), fun j u hu => ?_⟩
    rcases j with _ | j
    · obtain rfl : Value.ref 200 = u := Option.some.inj hu
      exact ⟨_, _, _, 114, _, _, rfl, ⟨_, X 200 _ rfl, rfl, _, rfl⟩, by with_unfolding_all rfl, fun h => absurd h (by decide)⟩
    · exact nomatch hu
  · obtain rfl : Value.ref 203 = v := Option.some.inj hv
    refine ⟨_, _, rfl, ⟨_, X 203 _ rfl, rfl, _, rfl⟩, fun h => absurd h (by decide), fun j u hu => ?_⟩
    rcases j with _ | j
    · obtain rfl : Value.ref 202 = u := Option.some.inj hu
      exact ⟨_, _, _, 119, _, _, rfl, ⟨_, X 202 _ rfl, rfl, _, rfl⟩, by with_unfolding_all rfl, fun h => absurd h (by decide)⟩
    · exact nomatch hu
  · obtain rfl : Value.ref 207 = v := Option.some.inj hv
    refine ⟨_, _, rfl, ⟨_, X 207 _ rfl, rfl, _, rfl⟩, fun h => absurd h (by decide), fun j u hu => ?_⟩
    rcases j with _ | _ | _ | j
    · obtain rfl : Value.ref 204 = u := Option.some.inj hu
      exact ⟨_, _, _, 115, _, _, rfl, ⟨_, X 204 _ rfl, rfl, _, rfl⟩, by with_unfolding_all rfl, fun h => absurd h (by decide)⟩
    · obtain rfl : Value.ref 205 = u := Option.some.inj hu
      exact ⟨_, _, _, 83, _, _, rfl, ⟨_, X 205 _ rfl, rfl, _, rfl⟩, by with_unfolding_all rfl, fun h => absurd h (by decide)⟩
    · obtain rfl : Value.ref 206 = u := Option.some.inj hu
      exact ⟨_, _, _, 120, _, _, rfl, ⟨_, X 206 _ rfl, rfl, _, rfl⟩, by with_unfolding_all rfl, fun h => absurd h (by decide)⟩
    · exact nomatch hu
  · obtain rfl : Value.ref 209 = v := Option.some.inj hv
    refine ⟨_, _, rfl, ⟨_, X 209 _ rfl, rfl, _, rfl⟩, fun h => absurd h (by decide), fun j u hu => ?_⟩
    rcases j with _ | j
    · obtain rfl : Value.ref 208 = u := Option.some.inj hu
      exact ⟨_, _, _, 114, _, _, rfl, ⟨_, X 208 _ rfl, rfl, _, rfl⟩, by with_unfolding_all rfl, fun h => absurd h (by decide)⟩
    · exact nomatch hu
  · obtain rfl : Value.ref 211 = v := Option.some.inj hv
    refine ⟨_, _, rfl, ⟨_, X 211 _ rfl, rfl, _, rfl⟩, fun h => absurd h (by decide), fun j u hu => ?_⟩
    rcases j with _ | j
    · obtain rfl : Value.ref 210 = u := Option.some.inj hu
      exact ⟨_, _, _, 119, _, _, rfl, ⟨_, X 210 _ rfl, rfl, _, rfl⟩, by with_unfolding_all rfl, fun h => absurd h (by decide)⟩
    · exact nomatch hu
  · obtain rfl : Value.ref 215 = v := Option.some.inj hv
    refine ⟨_, _, rfl, ⟨_, X 215 _ rfl, rfl, _, rfl⟩, fun _ => rfl, fun j u hu => ?_⟩
    rcases j with _ | _ | _ | j
    · obtain rfl : Value.ref 212 = u := Option.some.inj hu
      exact ⟨_, _, _, 116, _, _, rfl, ⟨_, X 212 _ rfl, rfl, _, rfl⟩, by with_unfolding_all rfl, fun _ => .inl ⟨rfl, rfl, rfl⟩⟩
    · obtain rfl : Value.ref 213 = u := Option.some.inj hu
      exact ⟨_, _, _, 84, _, _, rfl, ⟨_, X 213 _ rfl, rfl, _, rfl⟩, by with_unfolding_all rfl, fun _ => .inr (.inl ⟨rfl, rfl, rfl⟩)⟩
    · obtain rfl : Value.ref 214 = u := Option.some.inj hu
      exact ⟨_, _, _, 120, _, _, rfl, ⟨_, X 214 _ rfl, rfl, _, rfl⟩, by with_unfolding_all rfl, fun _ => .inr (.inr ⟨rfl, rfl, rfl⟩)⟩
    · exact nomatch hu
  · exact nomatch hv
theorem eq_int_no {prog : Program} {w : World} {A : Around} {E : Value → Shared → Prop} {s : Shared} {Q : Value → Shared → Prop} {a b : Int} {t u : Tok} (hk : a ≠ b) (h : Q (.bool false) s) : wpAny (model prog w) A (compareOp .Eq (.int a t) (.int b u)) Q E s :=
  PyProof.Rows.eq_int (by rw [beq_eq_false_iff_ne.mpr hk]; exact h)
theorem rows23 : True := by
  k_with "compareOp Eq int int" => ((k_here; refine eq_int_no (by assumption) ?_))
  trivial
noncomputable def fmK (z : Int) (j : Nat) : Prop := (1 ≤ j → ¬ Builtin.bitAnd z 513 = 513) ∧ (2 ≤ j → ¬ Builtin.bitAnd z 512 = 512) ∧ (3 ≤ j → ¬ Builtin.bitAnd z 1 = 1)
theorem fm_hit {z b : Int} {j c : Nat} (hz : fmMode z) (hf : (j = 0 ∧ b = 513 ∧ c = 116) ∨ (j = 1 ∧ b = 512 ∧ c = 84) ∨ (j = 2 ∧ b = 1 ∧ c = 120)) (hK : fmK z j) (h : Builtin.bitAnd z b = b) : fmEnd z c := by
  unfold fmEnd
  rcases hf with ⟨rfl, rfl, rfl⟩ | ⟨rfl, rfl, rfl⟩ | ⟨rfl, rfl, rfl⟩
  · rw [if_pos (hz.mp h).2]; exact .inr rfl
  · rw [if_neg fun h1 => hK.1 (by decide) (hz.mpr ⟨h, h1⟩)]; exact .inr rfl
  · rw [if_pos h]; exact .inl rfl
theorem fm_miss {z b : Int} {j c : Nat} (hf : (j = 0 ∧ b = 513 ∧ c = 116) ∨ (j = 1 ∧ b = 512 ∧ c = 84) ∨ (j = 2 ∧ b = 1 ∧ c = 120)) (hK : fmK z j) (h : ¬ Builtin.bitAnd z b = b) : fmK z (j + 1) := by
  rcases hf with ⟨rfl, rfl, rfl⟩ | ⟨rfl, rfl, rfl⟩ | ⟨rfl, rfl, rfl⟩
  · exact ⟨fun _ => h, fun h => absurd h (by decide), fun h => absurd h (by decide)⟩
  · exact ⟨fun _ => hK.1 (by decide), fun _ => h, fun h => absurd h (by decide)⟩
  · exact ⟨fun _ => hK.1 (by decide), fun _ => hK.2.1 (by decide), fun _ => h⟩
section
variable {w : World} {p : Program} {loose : List Str} {mean : ExcName → Option Value} {mg mb : Str → Option Value} {dp un : Nat} {fr : Option (List Env)} {gd : Option (List Code)} {h₀ : Heap} {s : Shared} {Q E : Value → Shared → Prop}
theorem filemode_c (z : Int) (t : Tok) (hz : fmMode z) (X : (hd.heap_39 w.params).In h₀) (T : Top p loose mean mg mb h₀) (keep : ∀ b o, h₀.get? b = some o → s.heap.get? b = some o) (hdp : dp + 8 < recursionLimit) (hun : un + 24 < cLine)
    (h : ∀ (cs : List Nat) t h' tk', cs.length = 10 → (∀ c, cs[9]? = some c → fmEnd z c) → Ext [] s.heap h' → Q (.str ⟨cs.toArray⟩ t) { s with heap := h', toks := tk' }) : wpAny (model PW w) (AR dp fr gd un) (call (.ref 223) [.int z t]) Q E s := by
  have P := nopre (s := s) (h₀ := h₀)
  k_dflt (walk_at "my enter")
  walk_at "my steps"
  refine StopAt.mk ?_
  rename News _ _ _ _ => N6
  rename Fr _ _ _ _ => F6
  refine For_pair3F F6 ?f1 ?f2 ?f3 ?f4 ?f5 ?f6
  case f1 => rfl
  case f2 => rfl
  case f3 => rfl
  case f4 => rfl
  case f6 => intro _; rfl
  case f5 =>
    walk_at "my steps"
    refine StopAt.mk ?_
    rename News _ _ _ _ => N7
    rename Fr _ _ _ _ => F7
    rename (Frag.In _ _) => X7
    have hT := (⟨_, X7 216 _ rfl, rfl, _, rfl⟩ : Heap.IsTuple _ 216 fmTables)
    obtain ⟨l7, rfl⟩ := ledger_head N7
    refine enum_made (σ := List Nat × List Value × Nat) (fun c => [(l7, lob c.2.1 c.2.2)]) (fun i c => StrsAre c.2.1 (c.1.map one) ∧ c.1.length = i ∧ (∀ d, c.1[9]? = some d → fmEnd z d)) [Str.ofString "index", Str.ofString "table", Str.ofString "bit", Str.ofString "char"] ([], [], 0) rfl ?e1 ?e2 ?e3 F7 N7 hT ?e4 ?eturn ?edone
    case e1 => exact fun _ => rfl
    case e2 => exact .head _
    case e3 => exact .tail _ (.head _)
    case e4 => exact ⟨.nil, rfl, fun _ h => nomatch h⟩
    case eturn =>
      rintro ⟨cs, vs, n⟩ i v t' m₁ own h9 tk9 hv ⟨hS, hl, h10⟩ hm off F8 N8
      dsimp only at hS hl h10 off F8 N8
      have hi : i < 10 := (Array.getElem?_eq_some_iff.mp hv).1
      have hsz : vs.length ≤ 1000 := by have := hS.length; simp at this; omega
      rw [four_off hm] at F8
      generalize m₁ _ = v1 at F8
      generalize m₁ _ = v2 at F8
      generalize m₁ _ = v3 at F8
      generalize m₁ _ = v4 at F8
      have offA : ∀ p ∈ own, p.1 ≠ l7 := off _ (.head _)
      simp only [List.cons_append, List.nil_append] at N8
      clear hm off
      obtain ⟨ax, items, rfl, hTx, hs3, hrow⟩ := fm_data X7 i v hv
      clear hv
      rcases i with _ | i
      · walk_at "my steps"
        rename News _ _ _ _ => N9
        rename Fr _ _ _ _ => F9
        refine For_base2 (ax := ax) (xi := Str.ofString "bit") (xc := Str.ofString "char") (K := fun _ => True) rfl F9 N9 hTx trivial ?he0 ?ft0 ?fe0
        case he0 => walk_at "my steps"
        case ft0 =>
          intro j v vi vc hB tkB I oI hv hK hI FB NB
          obtain ⟨hI1, hI2⟩ := List.forall_mem_cons.mp hI
          clear hI
          replace hI1 : (@Ne Nat l7 I) := hI1
          obtain ⟨ay, b, tb, c, y, tc, rfl, hTy, rfl, -⟩ := hrow j v hv
          have hTb := FB.tup hTy
          clear hv hrow
          walk_at "my steps"
          · refine wpAny_execs_nil (M := model PW w) ?_; exact fm_turn (c := c) (by assumption) (by assumption) rfl (by decide) (fun h => absurd h (by decide)) (by assumption) (by assumption) (fun _ h => .tail _ h) (by walk_at "my four")
          · exact base_next (by assumption) (by assumption) (by walk_at "my two") trivial
        case fe0 =>
          intro vi vc hB tkB hK FB NB
          walk_at "my steps"
          (show TurnN _ _ _ _ _ _ _ _ .next _); exact fm_turn (c := 63) (by assumption) (by assumption) (by with_unfolding_all rfl) (by decide) (fun h => absurd h (by decide)) (by assumption) (by assumption) (fun _ h => h) (by walk_at "my four")
      · obtain ⟨k, hk0, hk⟩ : ∃ k : Int, k ≠ 0 ∧ ((i + 1 : Nat) : Int) = k := ⟨_, by omega, rfl⟩
        rw [hk] at F8
        clear hk
        walk_at "my steps"
        rename News _ _ _ _ => N9
        rename Fr _ _ _ _ => F9
        refine For_base2 (ax := ax) (xi := Str.ofString "bit") (xc := Str.ofString "char") (K := fun j => i + 1 = 9 → fmK z j) rfl F9 N9 hTx (fun _ => ⟨fun h => absurd h (by decide), fun h => absurd h (by decide), fun h => absurd h (by decide)⟩) ?he1 ?ft1 ?fe1
        case he1 => walk_at "my steps"
        case ft1 =>
          intro j v vi vc hB tkB I oI hv hK hI FB NB
          obtain ⟨hI1, hI2⟩ := List.forall_mem_cons.mp hI
          clear hI
          replace hI1 : (@Ne Nat l7 I) := hI1
          obtain ⟨ay, b, tb, c, y, tc, rfl, hTy, rfl, hf⟩ := hrow j v hv
          have hTb := FB.tup hTy
          clear hv hrow
          walk_at "my steps"
          · rename Builtin.bitAnd z b = b => hb
            refine wpAny_execs_nil (M := model PW w) ?_; exact fm_turn (c := c) (by assumption) (by assumption) rfl hi (fun e => fm_hit hz (hf e) (hK e) hb) (by assumption) (by assumption) (fun _ h => .tail _ h) (by walk_at "my four")
          · rename Builtin.bitAnd z b ≠ b => hb
            exact base_next (by assumption) (by assumption) (by walk_at "my two") fun e => fm_miss (hf e) (hK e) hb
        case fe1 =>
          intro vi vc hB tkB hK FB NB
          walk_at "my steps"
          (show TurnN _ _ _ _ _ _ _ _ .next _); exact fm_turn (c := 45) (by assumption) (by assumption) (by with_unfolding_all rfl) hi (fun e => fm_e ((hK e).2.2 (Nat.le_of_eq (hs3 e).symm))) (by assumption) (by assumption) (fun _ h => h) (by walk_at "my four")
    case edone =>
      rintro ⟨cs, vs, n⟩ h9 tk9 m' ⟨hS, hl, h10⟩ F8 hm N8
      dsimp only at hS hl h10 F8 N8
      rw [four_off hm] at F8
      generalize m' _ = v1 at F8
      generalize m' _ = v2 at F8
      generalize m' _ = v3 at F8
      generalize m' _ = v4 at F8
      have hw : ((cs.map one).map (·.length)).sum + (cs.map one).length ≤ 1048576 := fm_weight hl
      dsimp only
      walk_at "my steps"
      rw [one_join]
      exact h cs _ _ _ hl h10 (fin0 (by assumption) (by assumption))
end
section
variable {prog : Program} {w : World} {A : Around} {s : Shared} {h₀ : Heap} {pre : List (Addr × Obj)} {K : Frag}
  {R : Result → Shared → Prop} {name qual : Str} {params : Arguments} {body : List Stmt} {scope : Scope} {dV kV doc pm cdv ct oc : Value} {an od : Option Addr} {osl : Array (Option Value)} {f : Addr} {args : List Value} {binds : List (Str × Value)}
  {p : Program} {loose : List Str} {mean : ExcName → Option Value} {mg mb : Str → Option Value}
theorem enterR (X : K.In h₀) (T : Top p loose mean mg mb h₀) (keep : ∀ b o, h₀.get? b = some o → s.heap.get? b = some o) (hpre : ∀ q ∈ pre, s.heap.get? q.1 = some q.2 ∧ h₀.get? q.1 = none)
    (ho : K.lookup f = some ⟨oc, od, .func (fnOf name qual params body scope dV kV doc pm an cdv ct), osl⟩) (hcd : codeIn K cdv qual = true) (hroom : A.depth < recursionLimit)
    (hbind : BindsTo s (fnOf name qual params body scope dV kV doc pm an cdv ct) ⟨args, []⟩ binds) (hloc : ∀ y ∈ binds, scope.names.lookup y.1 = some .local)
    (h : ∀ g L' h₁, Ext (pre.map (·.1)) s.heap g → (∀ b ∈ pre.map (·.1), g.get? b = none) → Fr g L' h₁ (fun y => binds.reverse.lookup y) → News g L' h₁ pre → K.In g → Top p loose mean mg mb g →
      wpAny (model prog w) (A.deeper (envOf qual scope L' f cdv)) (execs body (envOf qual scope L' f cdv)) (fun fl s' => R (.ok (.ret (match fl with | .ret v => v | _ => .none))) s') (fun _ _ => False) { s with heap := h₁, toks := s.toks + binds.length })
    (hco : scope.isCoroutine = false) (hgen : scope.isGenerator = false) (hk : scope.kind = .function)
    (hcell : ∀ x ∈ scope.names, x.2 ≠ .cell) : codeAny (model prog w) A (.call (.ref f) ⟨args, []⟩) R s := by
  have X' := X.keeps keep
  have nm : ∀ b o, h₀.get? b = some o → b ∉ pre.map (·.1) := fun b o e q => by
    obtain ⟨x, hx, rfl⟩ := List.mem_map.mp q
    rw [(hpre x hx).2] at e; cases e
  have st : ∀ b o, h₀.get? b = some o → (hideAll s.heap (pre.map (·.1))).get? b = some o := fun b o e => hideAll_get _ (keep b o e) (nm b o e)
  refine codeAny_call_def (fd := fnOf name qual params body scope dV kV doc pm an cdv ct) (body := body) (binds := binds) hroom (X' _ _ ho) rfl (T.nolimit.keeps keep) (codeRec_of X' hcd) rfl hbind hcell hloc (fun h₁ hns hk₁ => ?_) hco hgen hk
  refine wpAny_mono (h (hideAll s.heap (pre.map (·.1))) s.heap.objs.size h₁ (fun b o e n => hideAll_get _ e n) (fun b hb => hideAll_none _ hb) ⟨hns, fun b o e => hk₁ b o (of_hideAll _ e), Nat.le_of_eq (hideAll_size _ _)⟩
    (fun q hq => ⟨hk₁ _ _ (hpre q hq).1, Nat.ne_of_lt (Heap.lt_size (hpre q hq).1), hideAll_none _ (List.mem_map_of_mem hq)⟩) (X.keeps st) (T.keeps st)) (fun fl s' hl => hl) fun _ _ y => y.elim
end
theorem rows24 : True := by
  k_with "my enterR" => ((refine' enterR (by assumption) (by assumption) (by assumption) (by assumption) (by k_is) (by k_is) (by ktr_room) (by exact BindsTo.of_eq rfl) (by exact locs rfl) ?_ (by exact rfl) (by exact rfl) (by exact rfl) (by decide); k_whole; intro _ _ _ _ _ _ _ _ _; (try dsimp only)))
  trivial
section
variable {w : World} {p : Program} {loose : List Str} {mean : ExcName → Option Value} {mg mb : Str → Option Value} {dp un : Nat} {fr : Option (List Env)} {gd : Option (List Code)} {h₀ : Heap} {s : Shared} {Q E : Value → Shared → Prop} {L : Addr} {m : Str → Option Value} {news : List (Addr × Obj)}
noncomputable abbrev lexD (P : Params) (t1 t2 t3 t4 u1 u3 : Tok) (ln : Int) (ins : Value) (lp : Addr) (n : Nat) : Obj :=
  dictOf [{ hash := PyData.keyHash P (Str.ofString "lineno"), key := .str (Str.ofString "lineno") t1, val := .int ln u1 }, { hash := PyData.keyHash P (Str.ofString "instream"), key := .str (Str.ofString "instream") t2, val := ins },
    { hash := PyData.keyHash P (Str.ofString "whitespace"), key := .str (Str.ofString "whitespace") t3, val := .str (Str.ofString "\n\t\x0d ") u3 }, { hash := PyData.keyHash P (Str.ofString "pushback"), key := .str (Str.ofString "pushback") t4, val := .ref lp }] n
theorem newlex_c (v : Value) (X : (hd.heap_39 w.params).In h₀) (T : Top p loose mean mg mb h₀) (keep : ∀ b o, h₀.get? b = some o → s.heap.get? b = some o) (hdp : dp + 8 < recursionLimit) (hun : un + 24 < cLine)
    (h : ∀ x dx lp t1 t2 t3 t4 u1 u3 h' tk', Ext [] s.heap h' → s.heap.objs.size ≤ dx → dx < x → x < lp → h'.get? x = some (instObj 172 dx) → h'.get? dx = some (lexD w.params t1 t2 t3 t4 u1 u3 1 v lp 4) → h'.get? lp = some (lob [] 0) → Q (.ref x) { s with heap := h', toks := tk' }) : wpAny (model PW w) (AR dp fr gd un) (call (.ref 172) [v]) Q E s := by
  obtain ⟨hp, g, d, tk, os⟩ := s
  have X' := X.keeps keep
  refine wpAny_call (make_core (init := .ref 148) (makes_of X' (by k_is)) (looks_findIn X' (by k_is)) (fun self => bind_fn X' self (by k_is)) (.inl rfl) ?_)
  have keep2 : ∀ b o, h₀.get? b = some o → ((hp.push emptyDict).push (instObj 172 hp.objs.size)).get? b = some o := fun b o e => Heap.get?_push_of_some _ (Heap.get?_push_of_some _ (keep b o e))
  have off : ∀ b, hp.objs.size ≤ b → h₀.get? b = none := fun b hb => by
    cases e : h₀.get? b with
    | none => rfl
    | some o => exact absurd (Heap.lt_size (keep b o e)) (Nat.not_lt.mpr hb)
  have hs1 : (hp.push emptyDict).objs.size = hp.objs.size + 1 := Heap.size_push ..
  have P : ∀ q ∈ ([(hp.objs.size + 1, instObj 172 hp.objs.size), (hp.objs.size, emptyDict)] : List (Addr × Obj)), ((hp.push emptyDict).push (instObj 172 hp.objs.size)).get? q.1 = some q.2 ∧ h₀.get? q.1 = none := by
    refine List.forall_mem_cons.mpr ⟨⟨?_, off _ (Nat.le_succ _)⟩, List.forall_mem_cons.mpr ⟨⟨Heap.get?_push_of_some _ (Heap.get?_push_size _ rfl), off _ (Nat.le_refl _)⟩, List.forall_mem_nil _⟩⟩
    have := Heap.get?_push_size (hp.push emptyDict) (o := instObj 172 hp.objs.size) rfl
    rw [hs1] at this; exact this
  clear X'
  k_dflt (walk_at "my enterR")
  rename Ext _ _ _ => EX
  walk_at "my steps"
  rename News _ _ _ _ => N9
  rename Fr _ _ _ _ => F9
  rename _ < _ ∧ _ < _ => l9
  refine ⟨rfl, h _ _ _ _ _ _ _ _ _ _ _ ?_ (Nat.le_refl _) (Nat.lt_succ_self _) l9.1 (N9 _ (.tail _ (.head _))).1 (N9 _ (.tail _ (.tail _ (.head _)))).1 (N9 _ (.head _)).1⟩
  intro b o e _
  refine F9.keep b o (EX b o (Heap.get?_push_of_some _ (Heap.get?_push_of_some _ e)) ?_)
  have hb := Heap.lt_size e
  intro hm
  rcases List.mem_cons.mp hm with e | hm
  · exact absurd hb (by rw [e]; exact Nat.not_lt.mpr (Nat.le_succ _))
  · rw [List.mem_singleton.mp hm] at hb; exact Nat.lt_irrefl _ hb
theorem newlex_u (v : Value) (F : Fr h₀ L s.heap m) (N : News h₀ L s.heap news) (X : (hd.heap_39 w.params).In h₀) (T : Top p loose mean mg mb h₀) (hdp : dp + 8 < recursionLimit) (hun : un + 24 < cLine)
    (h : ∀ x dx lp t1 t2 t3 t4 u1 u3 h' tk', Fr h₀ L h' m → News h₀ L h' ((x, instObj 172 dx) :: (dx, lexD w.params t1 t2 t3 t4 u1 u3 1 v lp 4) :: (lp, lob [] 0) :: news) → (∀ p ∈ news, p.1 < dx) → (∀ p ∈ (dx, lexD w.params t1 t2 t3 t4 u1 u3 1 v lp 4) :: news, p.1 < x) → (∀ p ∈ (x, instObj 172 dx) :: (dx, lexD w.params t1 t2 t3 t4 u1 u3 1 v lp 4) :: news, p.1 < lp) → Q (.ref x) { s with heap := h', toks := tk' }) :
    wpAny (model PW w) (AR dp fr gd un) (call (.ref 172) [v]) Q E s :=
  newlex_c v X T F.keep hdp hun fun x dx lp t1 t2 t3 t4 u1 u3 h' tk' e h1 h2 h3 g1 g2 g3 => by
    have a1 : ∀ p ∈ news, p.1 < dx := fun p hp => Nat.lt_of_lt_of_le (Heap.lt_size (N p hp).1) h1
    have hn : ∀ b, dx ≤ b → b ≠ L ∧ h₀.get? b = none := fun b hb => new_at F (Nat.le_trans h1 hb)
    have h2' := Nat.le_of_lt h2
    have h3' := Nat.le_of_lt h3
    refine h x dx lp t1 t2 t3 t4 u1 u3 h' tk' (e.fr0 F) ?_ a1 ?_ ?_
    · refine List.forall_mem_cons.mpr ⟨⟨g1, hn x h2'⟩, List.forall_mem_cons.mpr ⟨⟨g2, hn dx (Nat.le_refl _)⟩, List.forall_mem_cons.mpr ⟨⟨g3, hn lp (Nat.le_trans h2' h3')⟩, e.news0 N⟩⟩⟩
    · exact List.forall_mem_cons.mpr ⟨h2, fun p hp => Nat.lt_trans (a1 p hp) h2⟩
    · exact List.forall_mem_cons.mpr ⟨h3, List.forall_mem_cons.mpr ⟨Nat.lt_trans h2 h3, fun p hp => Nat.lt_trans (Nat.lt_trans (a1 p hp) h2) h3⟩⟩
end
theorem rows25 : True := by
  k_with "call ref" => ((k_here; (with_reducible show wpAny _ _ (call (Value.ref 172) [_]) _ _ _); k_dflt (refine' newlex_u _ (by k_asm) (by k_asm) (by k_asm) (by k_asm) (by ktr_room) (by ktr_units) ?_; k_whole); intro _ _ _ _ _ _ _ _ _ _ _ _ _ lq1 lq2 lq3; (try k_lt lq1); (try k_lt lq2); (try k_lt lq3); (try k_sweep)))
  trivial
theorem strs_get : ∀ {vs : List Value} {ys : List Str}, vs.length = ys.length → (∀ (j : Nat) v, vs[j]? = some v → ∃ y t, ys[j]? = some y ∧ v = Value.str y t) → StrsAre vs ys
  | [], [], _, _ => .nil
  | [], _ :: _, h, _ => nomatch h
  | _ :: _, [], h, _ => nomatch h
  | v :: vs, y :: ys, h, k => by
    obtain ⟨y', t, h1, rfl⟩ := k 0 v rfl
    cases h1
    exact .cons _ _ (strs_get (by simpa using h) fun j v hv => k (j + 1) v hv)
section
variable {prog : Program} {w : World} {A : Around} {E : Value → Shared → Prop} {s : Shared} {h₀ : Heap} {L : Addr} {m : Str → Option Value} {news news' : List (Addr × Obj)} {D : Addr} {vs : List Value} {n : Nat} {v : Value}
theorem list_strN {Q : Value → Shared → Prop} (hh : A.handled = none) (x : Str) (t : Tok) (F : Fr h₀ L s.heap m) (N : News h₀ L s.heap news) (hx : x.cps.size ≤ 1000)
    (h : ∀ D vs n h' tk, StrsAre vs (x.cps.toList.map one) → Fr h₀ L h' m → News h₀ L h' ((D, lob vs n) :: news) → (∀ p ∈ news, p.1 < D) → Q (.ref D) { s with heap := h', toks := tk }) : wpAny (model prog w) A (call (.type "list") [.str x t]) Q E s := by
  refine call_list_str hh x t (hn := by rw [sizeLine_eq]; omega) fun h' tk acc' c' hk hS' hacc => ?_
  have nD := new_at F (Nat.le_refl s.heap.objs.size)
  refine h s.heap.objs.size acc'.toList c' h' tk (strs_get (by simp [hacc.1]) fun j v hv => ?_) (F.keeps hk) (List.forall_mem_cons.mpr ⟨⟨by simpa using hS', nD⟩, fun p hp => ⟨hk _ _ (N p hp).1, (N p hp).2⟩⟩) (fun p hp => Heap.lt_size (N p hp).1)
  obtain ⟨c, u, hc, rfl⟩ := hacc.2 j v (by simpa using hv)
  exact ⟨⟨#[c]⟩, u, by rw [List.getElem?_map, show x.cps.toList[j]? = some c from by simpa using hc]; rfl, rfl⟩
theorem l_truthyC {Q : Bool → Shared → Prop} (N : News h₀ L s.heap news) (hm : (D, lob (v :: vs) n) ∈ news) (hsz : (v :: vs).length ≤ 1000) (h : Q true { s with toks := s.toks + 1 + 1 }) : wpAny (model prog w) A (truthy (.ref D)) Q E s := l_truthy N hm hsz h
theorem l_truthyE {Q : Bool → Shared → Prop} (N : News h₀ L s.heap news) (hm : (D, lob [] n) ∈ news) (h : Q false { s with toks := s.toks + 1 + 1 }) : wpAny (model prog w) A (truthy (.ref D)) Q E s := l_truthy N hm (Nat.zero_le _) h
theorem l_pop0 {Q : Value → Shared → Prop} {k : Int} {u : Tok} (hk : k = 0) (F : Fr h₀ L s.heap m) (N : News h₀ L s.heap news) (U : Upd D (lob (v :: vs) n) (lob vs (n + 1)) news news') (hsz : (v :: vs).length ≤ 1000)
    (h : ∀ h', Fr h₀ L h' m → News h₀ L h' news' → Q v { s with heap := h' }) : wpAny (model prog w) A (call (.builtin "list.pop") [.ref D, .int k u]) Q E s := by
  subst hk
  obtain ⟨pre, post, rfl, rfl, a, b⟩ := U.split
  have z := N (D, lob (v :: vs) n) (List.mem_append.mpr (.inr (.head _)))
  have hz : s.heap.get? D = some { cls := .type "list", dict := none, data := .seq (v :: vs).toArray n, slots := #[] } := z.1
  refine call_meets PySem.F.slot_list_pop ⟨_, z.1, rfl⟩ PySem.F.entry_list_pop (PySem.F.args_list_pop_2 _ _) (PySem.MeetsSeq.list_pop_at D (v :: vs).toArray n 0 u 0 v (by decide) (seqIndex_of (Int.le_refl 0) (by simp)) (by simp) (by rw [List.size_toArray, sizeLine_eq]; omega)) ⟨hz, ?_⟩
  have hs : Heap.SameBut D s.heap (s.heap.update D (Obj.mapSeq fun xs => xs.eraseIdxIfInBounds 0)) := Heap.SameBut.update ..
  refine h _ (F.change hs z.2.1 z.2.2) (news_set N a b hs ?_)
  rw [Heap.get?_update_self _ hz rfl]
  have e1 : (v :: vs).toArray.eraseIdxIfInBounds 0 = vs.toArray := by
    apply Array.ext'
    simp [Array.eraseIdxIfInBounds]
  show some (Obj.mapSeq _ _) = _
  unfold Obj.mapSeq
  simp only [e1]
  simp
end
theorem rows26 : True := by
  k_with "call type:list" => ((k_here; (with_reducible show wpAny _ _ (call (Value.type _) [Value.str _ _]) _ _ _); k_dflt (refine' list_strN rfl _ _ (by k_asm) (by k_asm) (by assumption) ?_; k_whole); intro _ _ _ _ _ _ _ _ lq1; (try k_lt lq1); (try k_sweep)))
  k_with "truthy ref" => ((k_here; k_dflt (refine' l_truthyC (by k_asm) (by k_mem) (by walk_at "my size") ?_; k_whole)))
  k_with "truthy ref" => ((k_here; k_dflt (refine' l_truthyE (by k_asm) (by k_mem) ?_; k_whole)))
  k_with "call builtin:list.pop" => ((k_here; (with_reducible show wpAny _ _ (call (Value.builtin _) [Value.ref _, Value.int _ _]) _ _ _); k_dflt (refine' l_pop0 (by rfl) (by k_asm) (by k_asm) (by k_upd) (by walk_at "my size") ?_; k_whole); intro _ _ _; (try k_sweep)))
  trivial
section
variable {prog : Program} {w : World} {A : Around} {s : Shared} {h₀ : Heap} {pre : List (Addr × Obj)} {K : Frag}
  {E : Value → Shared → Prop} {Q : Value → Shared → Prop} {name qual : Str} {params : Arguments} {body : List Stmt} {scope : Scope} {cl : List (Str × Addr)} {dV kV doc pm cdv ct oc : Value} {an od : Option Addr} {osl : Array (Option Value)} {f : Addr} {args : List Value} {binds : List (Str × Value)}
  {p : Program} {loose : List Str} {mean : ExcName → Option Value} {mg mb : Str → Option Value}
/-- a def that the ledger holds is entered, its closure with it -/
theorem enterX (X : K.In h₀) (T : Top p loose mean mg mb h₀) (keep : ∀ b o, h₀.get? b = some o → s.heap.get? b = some o) (hpre : ∀ q ∈ pre, s.heap.get? q.1 = some q.2 ∧ h₀.get? q.1 = none)
    (ho : (f, (⟨oc, od, .func (fnX name qual params body scope cl dV kV doc pm an cdv ct), osl⟩ : Obj)) ∈ pre) (hcd : s.heap.CodeRec cdv qual) (hroom : A.depth < recursionLimit)
    (hbind : BindsTo s (fnX name qual params body scope cl dV kV doc pm an cdv ct) ⟨args, []⟩ binds) (hloc : ∀ y ∈ binds, scope.names.lookup y.1 = some .local)
    (h : ∀ g L' h₁, Ext (pre.map (·.1)) s.heap g → (∀ b ∈ pre.map (·.1), g.get? b = none) → Fr g L' h₁ (fun y => binds.reverse.lookup y) → News g L' h₁ pre → K.In g → Top p loose mean mg mb g →
      wpAny (model prog w) (A.deeper (envX qual scope L' f cdv cl)) (execs body (envX qual scope L' f cdv cl)) (fun fl s' => Q (match fl with | .ret v => v | _ => .none) s') (fun _ _ => False) { s with heap := h₁, toks := s.toks + binds.length })
    (hco : scope.isCoroutine = false) (hgen : scope.isGenerator = false) (hk : scope.kind = .function)
    (hcell : ∀ x ∈ scope.names, x.2 ≠ .cell) : wpAny (model prog w) A (call (.ref f) args) Q E s := by
  have nm : ∀ b o, h₀.get? b = some o → b ∉ pre.map (·.1) := fun b o e q => by
    obtain ⟨x, hx, rfl⟩ := List.mem_map.mp q
    rw [(hpre x hx).2] at e; cases e
  have st : ∀ b o, h₀.get? b = some o → (hideAll s.heap (pre.map (·.1))).get? b = some o := fun b o e => hideAll_get _ (keep b o e) (nm b o e)
  refine wpAny_call (codeAny_call_def (fd := fnX name qual params body scope cl dV kV doc pm an cdv ct) (body := body) (binds := binds) hroom (hpre _ ho).1 rfl (T.nolimit.keeps keep) hcd rfl hbind hcell hloc (fun h₁ hns hk₁ => ?_) hco hgen hk)
  refine wpAny_mono (h (hideAll s.heap (pre.map (·.1))) s.heap.objs.size h₁ (fun b o e n => hideAll_get _ e n) (fun b hb => hideAll_none _ hb) ⟨hns, fun b o e => hk₁ b o (of_hideAll _ e), Nat.le_of_eq (hideAll_size _ _)⟩
    (fun q hq => ⟨hk₁ _ _ (hpre q hq).1, Nat.ne_of_lt (Heap.lt_size (hpre q hq).1), hideAll_none _ (List.mem_map_of_mem hq)⟩) (X.keeps st) (T.keeps st)) (fun fl s' hl => hl) fun _ _ y => y.elim
end
/-- what the closure over the list of signs does: it takes off the first sign -/
noncomputable def NextOK (w : World) (oF : Obj) (qn : Str) (cl c' ll : Addr) : Prop :=
  ∀ {p : Program} {loose : List Str} {mean : ExcName → Option Value} {mg mb : Str → Option Value} {dp un : Nat} {fr : Option (List Env)} {gd : Option (List Code)} {h₀ : Heap} {s : Shared} {Q E : Value → Shared → Prop}
    (f : Addr) (oc ocell : Obj) (vs : List Value) (n : Nat) (t : Tok), (hd.heap_39 w.params).In h₀ → Top p loose mean mg mb h₀ → (∀ b o, h₀.get? b = some o → s.heap.get? b = some o) →
    (∀ q ∈ ([(ll, lob vs n), (cl, ocell), (f, oF), (c', oc)] : List (Addr × Obj)), s.heap.get? q.1 = some q.2 ∧ h₀.get? q.1 = none) → ocell.data = .cell (some (.ref ll)) →
    (∃ (vC : Array Value) (t : Tok), oc.data = .fields vC ∧ vC[1]? = some (.str qn t)) → vs.length ≤ 1000 → (@Ne Nat cl ll) → (@Ne Nat f ll) → (@Ne Nat c' ll) → dp + 8 < recursionLimit → un + 24 < cLine →
    (vs = [] → ∀ t h' tk', Ext [] s.heap h' → Q (.str (Str.ofString "") t) { s with heap := h', toks := tk' }) →
    (∀ v r, vs = v :: r → ∀ h' tk', Ext [ll] s.heap h' → h'.get? ll = some (lob r (n + 1)) → Q v { s with heap := h', toks := tk' }) →
    wpAny (model PW w) (AR dp fr gd un) (call (.ref f) [.int 1 t]) Q E s
theorem ext_pre {pre : List (Addr × Obj)} {hid : List Addr} {h g h' : Heap} {L' : Addr} {m' : Str → Option Value} (gE : Ext (pre.map (·.1)) h g) (F : Fr g L' h' m') (hp : ∀ q ∈ pre, h.get? q.1 = some q.2) (hn : ∀ q ∈ pre, q.1 ∉ hid → h'.get? q.1 = some q.2) : Ext hid h h' := by
  intro b o e hb
  by_cases hm : b ∈ pre.map (·.1)
  · obtain ⟨q, hq, rfl⟩ := List.mem_map.mp hm
    rw [hp q hq] at e
    exact (hn q hq hb).trans e
  · exact F.keep b o (gE b o e hm)
set_option genSizeOf false in
set_option genInjectivity false in
structure LxK where
  (x2 d2 p2 f c x1 d1 p1 ll cl : Addr)
  (t1 t2 t3 t4 u3 r1 r2 r3 r4 r5 v1 v3 : Tok)
  (oF oc ocl : Obj)
  (qn : Str)
noncomputable abbrev strD (P : Params) (r1 r2 r3 r4 r5 v1 v3 : Tok) (p1 f : Addr) : Obj :=
  dictOf [{ hash := PyData.keyHash P (Str.ofString "lineno"), key := .str (Str.ofString "lineno") r1, val := .int 1 v1 }, { hash := PyData.keyHash P (Str.ofString "instream"), key := .str (Str.ofString "instream") r2, val := .none },
    { hash := PyData.keyHash P (Str.ofString "whitespace"), key := .str (Str.ofString "whitespace") r3, val := .str (Str.ofString "\n\t\x0d ") v3 }, { hash := PyData.keyHash P (Str.ofString "pushback"), key := .str (Str.ofString "pushback") r4, val := .ref p1 },
    { hash := PyData.keyHash P (Str.ofString "read"), key := .str (Str.ofString "read") r5, val := .ref f }] 5
noncomputable abbrev lxLed (P : Params) (k : LxK) (ln : Int) (u : Tok) (vs : List Value) (n : Nat) : List (Addr × Obj) :=
  [(k.x2, instObj 172 k.d2), (k.d2, lexD P k.t1 k.t2 k.t3 k.t4 u k.u3 ln (.ref k.x1) k.p2 4), (k.p2, lob [] 0), (k.f, k.oF), (k.c, k.oc), (k.x1, instObj 172 k.d1), (k.d1, strD P k.r1 k.r2 k.r3 k.r4 k.r5 k.v1 k.v3 k.p1 k.f), (k.p1, lob [] 0), (k.ll, lob vs n), (k.cl, k.ocl)]
noncomputable def LxOK (w : World) (k : LxK) : Prop :=
  NextOK w k.oF k.qn k.cl k.c k.ll ∧ k.ocl.data = .cell (some (.ref k.ll)) ∧ (∃ (vC : Array Value) (t : Tok), k.oc.data = .fields vC ∧ vC[1]? = some (.str k.qn t)) ∧ (∃ oc od fd sl, k.oF = ⟨oc, od, .func fd, sl⟩) ∧
    (@LT.lt Nat _ k.cl k.ll) ∧ (@LT.lt Nat _ k.ll k.d1) ∧ (@LT.lt Nat _ k.d1 k.x1) ∧ (@LT.lt Nat _ k.x1 k.p1) ∧ (@LT.lt Nat _ k.p1 k.c) ∧ (@LT.lt Nat _ k.c k.f) ∧ (@LT.lt Nat _ k.f k.d2) ∧ (@LT.lt Nat _ k.d2 k.x2) ∧ (@LT.lt Nat _ k.x2 k.p2)
section
variable {w : World} {p : Program} {loose : List Str} {mean : ExcName → Option Value} {mg mb : Str → Option Value} {dp un : Nat} {fr : Option (List Env)} {gd : Option (List Code)} {h₀ : Heap} {s : Shared} {Q E : Value → Shared → Prop} {L : Addr} {m : Str → Option Value} {news : List (Addr × Obj)}
theorem lexer_head {h : Heap} {w : World} (X : (hd.heap_39 w.params).In h) : CodeHd h 229 225 := ⟨_, _, _, _, _, _, _, _, _, X 229 _ rfl, rfl, rfl, rfl, rfl, rfl, rfl, rfl, rfl, by decide⟩
theorem codeRec_of' {oc : Obj} {vs : Array Value} {q : Str} {t : Tok} (h1 : oc.data = .fields vs) (h2 : vs[1]? = some (.str q t)) : ∃ (vC : Array Value) (t : Tok), oc.data = .fields vC ∧ vC[1]? = some (.str q t) := ⟨_, _, h1, h2⟩
theorem lexer_c (x : Str) (t : Tok) (X : (hd.heap_39 w.params).In h₀) (T : Top p loose mean mg mb h₀) (keep : ∀ b o, h₀.get? b = some o → s.heap.get? b = some o) (hdp : dp + 16 < recursionLimit) (hun : un + 60 < cLine) (hx : x.cps.size ≤ 1000)
    (hP : s.heap.get? 225 = some (tabObj #[])) (hP0 : h₀.get? 225 = none)
    (h : ∀ k u vs n (o : Array Value) h' tk', LxOK w k → StrsAre vs (x.cps.toList.map one) → Ext [225] s.heap h' → (∀ q ∈ lxLed w.params k 1 u vs n, s.heap.get? q.1 = none) → (∀ q ∈ lxLed w.params k 1 u vs n, h'.get? q.1 = some q.2) → h'.get? 225 = some (tabObj o) → Q (.ref k.x2) { s with heap := h', toks := tk' }) : wpAny (model PW w) (AR dp fr gd un) (call (.ref 230) [.str x t]) Q E s := by
  have P : ∀ q ∈ ([(225, tabObj #[])] : List (Addr × Obj)), s.heap.get? q.1 = some q.2 ∧ h₀.get? q.1 = none := List.forall_mem_cons.mpr ⟨⟨hP, hP0⟩, List.forall_mem_nil _⟩
  k_dflt (walk_at "my enterC")
  rename (Frag.In _ _) => X7
  have CH := lexer_head X7
  rename Ext _ _ _ => EX
  walk_at "my steps"
  rename News _ _ _ _ => N9
  rename Fr _ _ _ _ => F9
  rename StrsAre _ _ => S9
  have hcod := codeRec_of' (by assumption) (by assumption)
  refine h ⟨_, _, _, _, _, _, _, _, _, _, _, _, _, _, _, _, _, _, _, _, _, _, _, _, _, _⟩ _ _ _ _ _ _ ⟨?next, ?hcell, hcod, ⟨_, _, _, _, rfl⟩, ?chain⟩ S9 ?e ?sz (fun q hq => (N9 q (List.mem_append_left [_] hq)).1) (N9 (225, _) (.tail _ (.tail _ (.tail _ (.tail _ (.tail _ (.tail _ (.tail _ (.tail _ (.tail _ (.tail _ (.head _)))))))))))).1
  case e =>
    refine ext_pre (by assumption) F9 (fun q hq => (P q hq).1) fun q hq hn => absurd ?_ hn
    rw [List.mem_singleton.mp hq]; exact .head _
  case sz =>
    intro q hq
    have hg := (N9 q (List.mem_append_left [_] hq)).2.2
    cases e : s.heap.get? q.1 with
    | none => rfl
    | some o =>
      refine absurd (EX q.1 o e fun hm => ?_) (by rw [hg]; exact Option.some_ne_none _ |>.symm)
      have h2 : q.1 = 225 := List.mem_singleton.mp hm
      simp only [lxLed, List.mem_cons, List.not_mem_nil, or_false] at hq
      rcases hq with rfl | rfl | rfl | rfl | rfl | rfl | rfl | rfl | rfl | rfl <;> (have h3 : (@Eq Nat _ _) := h2; dsimp only at h3; omega)
  case hcell => assumption
  case chain => refine ⟨?_, ?_, ?_, ?_, ?_, ?_, ?_, ?_, ?_⟩ <;> (dsimp only; omega)
  case next =>
    intro p loose mean mg' mb dp un fr gd h₀ s Q E f oc ocell vs n t X T keep P hcell hcode hsz hn1 hn2 hn3 hdp hun e0 e1
    obtain ⟨vC, tC, hc1, hc2⟩ := hcode
    refine' enterX ?k1 ?k2 ?k3 ?k4 ?k6 ?k7 ?k8 ?k9 ?kB ?_ ?c2 ?c3 ?c4 ?c5; (case k1 => assumption); (case k2 => assumption); (case k3 => assumption); (case k4 => assumption); (case k6 => exact .tail _ (.tail _ (.head _))); (case k7 => exact ⟨_, oc, vC, tC, rfl, (P _ (.tail _ (.tail _ (.tail _ (.head _))))).1, hc1, hc2⟩); (case k8 => ktr_room); (case k9 => exact BindsTo.of_eq rfl); (case c5 => decide); (case kB => exact locs rfl); (case c2 => exact rfl); (case c3 => exact rfl); (case c4 => exact rfl); k_whole; intro g' L' h' gE' gN' F' N' X' T'; (try dsimp only)
    have CH := lexer_head X'
    rcases vs with _ | ⟨v, vs⟩
    · walk_at "my steps"
      exact e0 rfl _ _ _ (ext_pre gE' F' (fun q hq => (P q hq).1) fun q hq _ => (N' q hq).1)
    · walk_at "my steps"
      rename News _ _ _ _ => N9
      rename Fr _ _ _ _ => F9
      refine e1 v vs rfl _ _ (ext_pre gE' F9 (fun q hq => (P q hq).1) fun q hq hn => ?_) (N9 _ (.head _)).1
      rcases List.mem_cons.mp hq with rfl | hq
      · exact absurd (.head _) hn
      · exact (N9 q (.tail _ hq)).1
end
section
variable {h₀ h h' : Heap} {L D : Addr} {m : Str → Option Value} {news news' : List (Addr × Obj)} {o o' : Obj}
/-- one object of the ledger has changed, all else stands -/
theorem ext_upd (e : Ext [D] h h') (F : Fr h₀ L h m) (N : News h₀ L h news) (U : Upd D o o' news news') (hD : h'.get? D = some o') : Fr h₀ L h' m ∧ News h₀ L h' news' := by
  obtain ⟨pre, post, rfl, rfl, a, b⟩ := U.split
  have z := N (D, o) (List.mem_append.mpr (.inr (.head _)))
  refine ⟨e.fr F (fun hm => z.2.1 (List.mem_singleton.mp hm).symm) (fun b hb => by rw [List.mem_singleton.mp hb]; exact z.2.2), fun p hp => ?_⟩
  rcases List.mem_append.mp hp with hp | hp
  · have := N p (List.mem_append_left _ hp)
    exact ⟨e _ _ this.1 fun hm => a p hp (List.mem_singleton.mp hm), this.2⟩
  rcases List.mem_cons.mp hp with rfl | hp
  · exact ⟨hD, z.2⟩
  · have := N p (List.mem_append_right _ (.tail _ hp))
    exact ⟨e _ _ this.1 fun hm => b p hp (List.mem_singleton.mp hm), this.2⟩
end
section
variable {w : World} {p : Program} {loose : List Str} {mean : ExcName → Option Value} {mg mb : Str → Option Value} {dp un : Nat} {fr : Option (List Env)} {gd : Option (List Code)} {h₀ : Heap} {s : Shared} {Q E : Value → Shared → Prop} {L : Addr} {m : Str → Option Value} {news news' : List (Addr × Obj)}
  {oF : Obj} {qn : Str} {cl c' ll f : Addr} {oc ocell : Obj} {v : Value} {vs : List Value} {n : Nat} {t : Tok}
theorem next_nil (NX : NextOK w oF qn cl c' ll) (F : Fr h₀ L s.heap m) (N : News h₀ L s.heap news) (X : (hd.heap_39 w.params).In h₀) (T : Top p loose mean mg mb h₀) (h1 : (ll, lob [] n) ∈ news) (h2 : (cl, ocell) ∈ news) (h3 : (f, oF) ∈ news) (h4 : (c', oc) ∈ news)
    (hc : ocell.data = .cell (some (.ref ll))) (hq : ∃ (vC : Array Value) (t : Tok), oc.data = .fields vC ∧ vC[1]? = some (.str qn t)) (n1 : (@Ne Nat cl ll)) (n2 : (@Ne Nat f ll)) (n3 : (@Ne Nat c' ll)) (hdp : dp + 8 < recursionLimit) (hun : un + 24 < cLine)
    (h : ∀ t h' tk', Fr h₀ L h' m → News h₀ L h' news → Q (.str (Str.ofString "") t) { s with heap := h', toks := tk' }) : wpAny (model PW w) (AR dp fr gd un) (call (.ref f) [.int 1 t]) Q E s :=
  NX f oc ocell [] n t X T F.keep (List.forall_mem_cons.mpr ⟨⟨(N _ h1).1, (N _ h1).2.2⟩, List.forall_mem_cons.mpr ⟨⟨(N _ h2).1, (N _ h2).2.2⟩, List.forall_mem_cons.mpr ⟨⟨(N _ h3).1, (N _ h3).2.2⟩, List.forall_mem_cons.mpr ⟨⟨(N _ h4).1, (N _ h4).2.2⟩, List.forall_mem_nil _⟩⟩⟩⟩)
    hc hq (Nat.zero_le _) n1 n2 n3 hdp hun (fun _ t h' tk' e => h t h' tk' (e.fr0 F) (e.news0 N)) fun _ _ e => nomatch e
theorem next_cons (NX : NextOK w oF qn cl c' ll) (F : Fr h₀ L s.heap m) (N : News h₀ L s.heap news) (X : (hd.heap_39 w.params).In h₀) (T : Top p loose mean mg mb h₀) (U : Upd ll (lob (v :: vs) n) (lob vs (n + 1)) news news') (h1 : (ll, lob (v :: vs) n) ∈ news) (h2 : (cl, ocell) ∈ news) (h3 : (f, oF) ∈ news) (h4 : (c', oc) ∈ news)
    (hc : ocell.data = .cell (some (.ref ll))) (hq : ∃ (vC : Array Value) (t : Tok), oc.data = .fields vC ∧ vC[1]? = some (.str qn t)) (hsz : (v :: vs).length ≤ 1000) (n1 : (@Ne Nat cl ll)) (n2 : (@Ne Nat f ll)) (n3 : (@Ne Nat c' ll)) (hdp : dp + 8 < recursionLimit) (hun : un + 24 < cLine)
    (h : ∀ h' tk', Fr h₀ L h' m → News h₀ L h' news' → Q v { s with heap := h', toks := tk' }) : wpAny (model PW w) (AR dp fr gd un) (call (.ref f) [.int 1 t]) Q E s :=
  NX f oc ocell (v :: vs) n t X T F.keep (List.forall_mem_cons.mpr ⟨⟨(N _ h1).1, (N _ h1).2.2⟩, List.forall_mem_cons.mpr ⟨⟨(N _ h2).1, (N _ h2).2.2⟩, List.forall_mem_cons.mpr ⟨⟨(N _ h3).1, (N _ h3).2.2⟩, List.forall_mem_cons.mpr ⟨⟨(N _ h4).1, (N _ h4).2.2⟩, List.forall_mem_nil _⟩⟩⟩⟩)
    hc hq hsz n1 n2 n3 hdp hun (fun e => nomatch e) fun v' r e h' tk' ex hg => by
      cases e
      obtain ⟨F', N'⟩ := ext_upd ex F N U hg
      exact h h' tk' F' N'
end
theorem rows27 : True := by
  k_with "call ref" => ((k_here; (with_reducible show wpAny _ _ (call (Value.ref _) [Value.int _ _]) _ _ _); rename NextOK _ _ _ _ _ _ => NX; k_dflt (refine' next_nil NX (by k_asm) (by k_asm) (by k_asm) (by k_asm) (by k_mem) (by k_mem) (by k_mem) (by k_mem) (by assumption) (by assumption) (by first | assumption | omega) (by first | assumption | omega) (by first | assumption | omega) (by ktr_room) (by ktr_units) ?_; k_whole); intro _ _ _ _ _; (try k_sweep)))
  k_with "call ref" => ((k_here; (with_reducible show wpAny _ _ (call (Value.ref _) [Value.int _ _]) _ _ _); rename NextOK _ _ _ _ _ _ => NX; k_dflt (refine' next_cons NX (by k_asm) (by k_asm) (by k_asm) (by k_asm) (by k_upd) (by k_mem) (by k_mem) (by k_mem) (by k_mem) (by assumption) (by assumption) (by walk_at "my size") (by first | assumption | omega) (by first | assumption | omega) (by first | assumption | omega) (by ktr_room) (by ktr_units) ?_; k_whole); intro _ _ _ _; (try k_sweep)))
  trivial
theorem rows28 : True := by
  k_with "my in" => (first | exact .head _ | (apply List.Mem.tail; walk_at "my in"))
  trivial
theorem LxOK.ne {w : World} {k : LxK} (hk : LxOK w k) : (@Ne Nat k.x2 k.ll) ∧ (@Ne Nat k.p2 k.ll) ∧ (@Ne Nat k.f k.ll) ∧ (@Ne Nat k.c k.ll) ∧ (@Ne Nat k.x1 k.ll) ∧ (@Ne Nat k.d1 k.ll) ∧ (@Ne Nat k.p1 k.ll) ∧ (@Ne Nat k.cl k.ll) ∧ (@Ne Nat k.x2 k.d2) ∧ (@Ne Nat k.p2 k.d2) ∧ (@Ne Nat k.f k.d2) ∧ (@Ne Nat k.c k.d2) ∧ (@Ne Nat k.x1 k.d2) ∧ (@Ne Nat k.d1 k.d2) ∧ (@Ne Nat k.p1 k.d2) ∧ (@Ne Nat k.cl k.d2) := by
  obtain ⟨_, _, _, _, b1, b2, b3, b4, b5, b6, b7, b8, b9⟩ := hk
  have c2 := Nat.lt_trans b2 b3
  have c3 := Nat.lt_trans c2 b4
  have c4 := Nat.lt_trans c3 b5
  have c5 := Nat.lt_trans c4 b6
  have c6 := Nat.lt_trans c5 b7
  have c7 := Nat.lt_trans c6 b8
  have c8 := Nat.lt_trans c7 b9
  have d1 := Nat.lt_trans b6 b7
  have d2 := Nat.lt_trans b5 d1
  have d3 := Nat.lt_trans b4 d2
  have d4 := Nat.lt_trans b3 d3
  exact ⟨Nat.ne_of_gt c7, Nat.ne_of_gt c8, Nat.ne_of_gt c5, Nat.ne_of_gt c4, Nat.ne_of_gt c2, Nat.ne_of_gt b2, Nat.ne_of_gt c3, Nat.ne_of_lt b1, Nat.ne_of_gt b8, Nat.ne_of_gt (Nat.lt_trans b8 b9), Nat.ne_of_lt b7, Nat.ne_of_lt d1, Nat.ne_of_lt d3, Nat.ne_of_lt d4, Nat.ne_of_lt d2, Nat.ne_of_lt (Nat.lt_trans b1 c6)⟩
local macro_rules | `(tactic| k_ne) => `(tactic| first | assumption | exact Ne.symm (by assumption) | fail "k_ne: no fact")
section
variable {w : World} {p : Program} {loose : List Str} {mean : ExcName → Option Value} {mg mb : Str → Option Value} {dp un : Nat} {fr : Option (List Env)} {gd : Option (List Code)} {h₀ : Heap} {s : Shared} {Q E : Value → Shared → Prop} {R : Result → Shared → Prop} {L : Addr} {m : Str → Option Value} {news : List (Addr × Obj)}
theorem readchar_r (k : LxK) (ln : Int) (u : Tok) (vs : List Value) (n : Nat) (cs : List Nat) (hk : LxOK w k) (X : (hd.heap_39 w.params).In h₀) (T : Top p loose mean mg mb h₀) (keep : ∀ b o, h₀.get? b = some o → s.heap.get? b = some o) (hdp : dp + 14 < recursionLimit) (hun : un + 60 < cLine)
    (P : ∀ q ∈ lxLed w.params k ln u vs n, s.heap.get? q.1 = some q.2 ∧ h₀.get? q.1 = none) (hS : StrsAre vs (cs.map one)) (hsz : vs.length ≤ 1000)
    (hn : cs = [] → ∀ t h' tk', Ext [] s.heap h' → R (.ok (.ret (.str (Str.ofString "") t))) { s with heap := h', toks := tk' })
    (hc : ∀ c r, cs = c :: r → ∀ t ln' u' vr n' h' tk', StrsAre vr (r.map one) → vr.length ≤ 1000 → Ext [k.ll, k.d2] s.heap h' → h'.get? k.ll = some (lob vr n') → h'.get? k.d2 = some (lexD w.params k.t1 k.t2 k.t3 k.t4 u' k.u3 ln' (.ref k.x1) k.p2 4) → R (.ok (.ret (.str (one c) t))) { s with heap := h', toks := tk' }) :
    codeAny (model PW w) (AR dp fr gd un) (.call (.ref 155) ⟨[.ref k.x2], []⟩) R s := by
  have hne := hk.ne
  obtain ⟨x2, d2, p2, f, c, x1, d1, p1, ll, cl, t1, t2, t3, t4, u3, r1, r2, r3, r4, r5, v1, v3, oF, oc, ocl, qn⟩ := k
  obtain ⟨NX, hcell, hcode, ⟨fc, fd, fdat, fsl, rfl⟩, b1, b2, b3, b4, b5, b6, b7, b8, b9⟩ := hk
  dsimp only at *
  have e1 := hne.1
  have e2 := hne.2.1
  have e3 := hne.2.2.1
  have e4 := hne.2.2.2.1
  have e5 := hne.2.2.2.2.1
  have e6 := hne.2.2.2.2.2.1
  have e7 := hne.2.2.2.2.2.2.1
  have e8 := hne.2.2.2.2.2.2.2.1
  have e9 := hne.2.2.2.2.2.2.2.2.1
  have e10 := hne.2.2.2.2.2.2.2.2.2.1
  have e11 := hne.2.2.2.2.2.2.2.2.2.2.1
  have e12 := hne.2.2.2.2.2.2.2.2.2.2.2.1
  have e13 := hne.2.2.2.2.2.2.2.2.2.2.2.2.1
  have e14 := hne.2.2.2.2.2.2.2.2.2.2.2.2.2.1
  have e15 := hne.2.2.2.2.2.2.2.2.2.2.2.2.2.2.1
  have e16 := hne.2.2.2.2.2.2.2.2.2.2.2.2.2.2.2
  clear hne
  rcases cs with _ | ⟨c0, cs⟩
  · obtain rfl : vs = [] := by cases hS; rfl
    k_dflt (walk_at "my enterR")
    have CH := lexer_head (by assumption)
    rename Ext _ _ _ => EX
    walk_at "my steps"
    rename News _ _ _ _ => N9
    rename Fr _ _ _ _ => F9
    exact hn rfl _ _ _ (ext_pre EX F9 (fun q hq => (P q hq).1) fun q hq _ => (N9 q hq).1)
  · obtain ⟨v, vr, rfl, hv, hr⟩ : ∃ t vr, vs = .str (one c0) t :: vr ∧ StrsAre vr (cs.map one) ∧ True := by cases hS; exact ⟨_, _, rfl, by assumption, trivial⟩
    k_dflt (walk_at "my enterR")
    have CH := lexer_head (by assumption)
    rename Ext _ _ _ => EX
    walk_at "my steps"
    all_goals (
      rename News _ _ _ _ => N9
      rename Fr _ _ _ _ => F9
      refine hc _ _ rfl _ _ _ _ _ _ _ hv (by simp at hsz; omega) (ext_pre EX F9 (fun q hq => (P q hq).1) fun q hq hno => ?_) (N9 (_, _) (by walk_at "my in")).1 (N9 (_, _) (by walk_at "my in")).1
      simp only [List.mem_cons, List.not_mem_nil, or_false] at hq
      rcases hq with rfl | rfl | rfl | rfl | rfl | rfl | rfl | rfl | rfl | rfl <;> first | exact absurd (.head _) hno | exact absurd (.tail _ (.head _)) hno | exact (N9 (_, _) (by walk_at "my in")).1)
end
theorem slot_ci_next : Slot "callable_iterator" "__next__" "callable_iterator.__next__" :=
  .of (owner := "callable_iterator") (n := "__next__") (by rw [typeLookup_type, builtinLookup_eq_fast]; kernel_rfl) (by decide +kernel) (by decide +kernel) (by decide +kernel)
    (by first | exact .inl (by decide +kernel) | exact .inr (by decide +kernel)) (by rw [isSubtype_type]; kernel_rfl)
theorem slot_ci_iter : Slot "callable_iterator" "__iter__" "callable_iterator.__iter__" :=
  .of (owner := "callable_iterator") (n := "__iter__") (by rw [typeLookup_type, builtinLookup_eq_fast]; kernel_rfl) (by decide +kernel) (by decide +kernel) (by decide +kernel)
    (by first | exact .inl (by decide +kernel) | exact .inr (by decide +kernel)) (by rw [isSubtype_type]; kernel_rfl)
theorem entry_ci_next : entryFor table "callable_iterator.__next__" = some Builtin.«callable_iterator.__next__» := entryFor_of_tree (by kernel_rfl)
theorem entry_ci_iter : entryFor table "callable_iterator.__iter__" = some Builtin.«dict_keyiterator.__iter__» :=
  entryFor_alias (id' := "dict_keyiterator.__iter__") (by kernel_rfl) (by first | rfl | decide +kernel | (unfold String.splitOn; simp +decide [String.splitOnAux])) (by decide +kernel) (by kernel_rfl)
theorem owner_ci : Manifest.owners.lookup (String.ofList ['r', 'o', 't', 'a', 'r', 'e', 't', 'i', '_', 'e', 'l', 'b', 'a', 'l', 'l', 'a', 'c'].reverse) = some Manifest.sig_callable_iterator := by kernel_rfl
theorem args_ci_next (a : Value) : argsOk "callable_iterator.__next__" ⟨[a], []⟩ := by
  unfold argsOk; rw [signature?_of (id := "callable_iterator.__next__") (n := ['_', '_', 't', 'x', 'e', 'n', '_', '_']) (o := ['r', 'o', 't', 'a', 'r', 'e', 't', 'i', '_', 'e', 'l', 'b', 'a', 'l', 'l', 'a', 'c']) (by kernel_rfl) owner_ci]; kernel_rfl
theorem args_ci_iter (a : Value) : argsOk "callable_iterator.__iter__" ⟨[a], []⟩ := by
  unfold argsOk; rw [signature?_of (id := "callable_iterator.__iter__") (n := ['_', '_', 'r', 'e', 't', 'i', '_', '_']) (o := ['r', 'o', 't', 'a', 'r', 'e', 't', 'i', '_', 'e', 'l', 'b', 'a', 'l', 'l', 'a', 'c']) (by kernel_rfl) owner_ci]; kernel_rfl
theorem slot_meth_call : Slot "method" "__call__" "method.__call__" :=
  .of (owner := "method") (n := "__call__") (by rw [typeLookup_type, builtinLookup_eq_fast]; kernel_rfl) (by decide +kernel) (by decide +kernel) (by decide +kernel)
    (by first | exact .inl (by decide +kernel) | exact .inr (by decide +kernel)) (by rw [isSubtype_type]; kernel_rfl)
theorem args_iter2 (a b : Value) : argsOk "iter" ⟨[a, b], []⟩ := by unfold argsOk; kernel_rfl
noncomputable abbrev ciO (q : Addr) (t : Tok) : Obj := { cls := .type "callable_iterator", data := .fields #[.ref q, .str (Str.ofString "") t, .bool false] }
section
variable {prog : Program} {w : World} {A : Around} {E : Value → Shared → Prop} {s : Shared} {h₀ : Heap} {L : Addr} {m : Str → Option Value} {news : List (Addr × Obj)}
theorem call_iter2 {Q : Value → Shared → Prop} {q : Addr} {f self : Value} {t : Tok} (F : Fr h₀ L s.heap m) (N : News h₀ L s.heap news) (hq : (q, methodObj f self) ∈ news)
    (h : ∀ I h', Fr h₀ L h' m → News h₀ L h' ((I, ciO q t) :: news) → (∀ p ∈ news, p.1 < I) → Q (.ref I) { s with heap := h' }) : wpAny (model prog w) A (call (.builtin "iter") [.ref q, .str (Str.ofString "") t]) Q E s := by
  have hT : s.TypeIs (.ref q) "method" := ⟨_, (N _ hq).1, rfl⟩
  refine call_function_entry (by decide +kernel) (by decide +kernel) kdk_entry_iter (args_iter2 _ _) ?_
  unfold Builtin.«iter»
  refine wpAny_bind (m := someArgs "iter" 1 2 _) (wpAny_of_eq (a := [Value.ref q, .str (Str.ofString "") t]) (by first | rfl | kernel_rfl!) ?_)
  refine wpAny_bind (wpAny_specialOf hT slot_meth_call.lookup ?_)
  simp only [Option.isNone_some, Bool.false_eq_true, if_false]
  refine wpAny_bind (wpAny_rule ?_)
  refine wpAny_bind (wpAny_newObj_type (wpAny_pure ⟨_, rfl, h _ _ (F.push _) (News.push F N _ rfl) fun p hp => Heap.lt_size (N p hp).1⟩) (by size_fits))
theorem pyIter_ci {Q : Value → Shared → Prop} {it q : Addr} {t : Tok} (hit : s.heap.get? it = some (ciO q t)) (h : Q (.ref it) s) : wpAny (model prog w) A (pyIter (.ref it)) Q E s := by
  have hT : s.TypeIs (.ref it) "callable_iterator" := ⟨_, hit, rfl⟩
  refine wpAny_pyIter_slot hT slot_ci_iter (wpAny_call_entry slot_ci_iter hT entry_ci_iter ?_ (args_ci_iter _))
  show wpAny _ _ (ret (.ref it)) _ _ s
  exact wpAny_pure ⟨_, rfl, "callable_iterator", _, hT, slot_ci_next.lookup, h⟩
theorem borrowed_call {f : Value} {pos : List Value} {Q : Value → Shared → Prop}
    (hc : codeAny (model prog w) A (.call f ⟨pos, []⟩) (fun r s' => match r with | .ok (.ret v) => Q v s' | .ok _ => False | .error e => E e s') s) :
    wpAny (model prog w) A (callBorrowed f pos) Q E s := fun Γ p hΓ => by
  unfold callBorrowed
  rw [Sem.wp_call]
  have := hc _ p rfl (hΓ.enter (.call f ⟨pos, []⟩) none p (by intro x; cases x))
  refine wpCode_mono (fun r s' z => ?_) this
  rcases r with e | (v | _ | _ | _) <;> first | exact z | exact z.elim
end
section
variable {prog : Program} {w : World} {A : Around} {E : Value → Shared → Prop} {s : Shared}
theorem borrows_meth {q fn : Addr} {self : Value} {oF : Obj} {fd : FuncData} {Q : Bool → Shared → Prop} (hq : s.heap.get? q = some (methodObj (.ref fn) self)) (hf : s.heap.get? fn = some oF) (hd : oF.data = .func fd) (h : Q true s) :
    wpAny (model prog w) A (borrowsExactly (.ref q)) Q E s := by
  obtain ⟨oc, od, dat, osl⟩ := oF
  replace hd : dat = .func fd := hd
  subst hd
  unfold borrowsExactly
  refine wpAny_bind (wpAny_load hq ?_)
  show wpAny _ _ (if (Value.type "method" == Value.type "method") = true then _ else _) _ _ s
  rw [if_pos (by decide)]
  refine wpAny_bind (wpAny_load hf ?_)
  exact wpAny_pure h
theorem ci_next {it q fn : Addr} {self : Value} {t : Tok} {oF : Obj} {fd : FuncData} {Q : Option Value → Shared → Prop} (hh : A.handled = none)
    (hit : s.heap.get? it = some (ciO q t)) (hq : s.heap.get? q = some (methodObj (.ref fn) self)) (hf : s.heap.get? fn = some oF) (hd : oF.data = .func fd)
    (hc : codeAny (model prog w) A.in1 (.call (.ref fn) ⟨[self], []⟩) (fun r s' => ∃ y u, r = .ok (.ret (.str y u)) ∧ s'.heap.get? it = some (ciO q t) ∧ s'.heap.get? q = some (methodObj (.ref fn) self) ∧ s'.heap.get? fn = some oF ∧
      (y ≠ Str.ofString "" → Q (some (.str y u)) s') ∧ (y = Str.ofString "" → ∀ h'', Heap.ExtBut it s'.heap h'' → Q none { s' with heap := h'' })) s) : wpAny (model prog w) A (pyNext (.ref it)) Q E s := by
  have hT : s.TypeIs (.ref it) "callable_iterator" := ⟨_, hit, rfl⟩
  unfold pyNext
  refine wpAny_bind (wpAny_attempt (wpAny_callSpecial?_slot (name := Str.ofString "__next__") hT slot_ci_next
    (wpAny_call_entry slot_ci_next hT entry_ci_next ?_ (args_ci_next _))))
  show wpAny _ _ (field (.ref it) 2 >>= _) _ _ s
  refine wpAny_bind (wpAny_field hit rfl (x := .bool false) rfl ?_)
  show wpAny _ _ (if (Value.bool false == Value.bool true) = true then _ else _) _ _ s
  rw [if_neg (by decide)]
  show wpAny _ _ (field (.ref it) 0 >>= _) _ _ s
  refine wpAny_bind (wpAny_field hit rfl (x := .ref q) rfl ?_)
  refine wpAny_bind (wpAny_attempt ?_)
  unfold callOutOfASlot
  refine wpAny_bind (borrows_meth hq hf hd ?_)
  simp only [if_true]
  refine borrowed_call (method_call hq (codeAny_mono hc fun r s' z => ?_))
  obtain ⟨y, u, rfl, hit', hq', hf', hy, hn⟩ := z
  dsimp only
  show wpAny _ _ (field (.ref it) 2 >>= _) _ _ s'
  refine wpAny_bind (wpAny_field hit' rfl (x := .bool false) rfl ?_)
  show wpAny _ _ (if (Value.bool false == Value.bool true) = true then _ else _) _ _ s'
  rw [if_neg (by decide)]
  show wpAny _ _ (field (.ref it) 1 >>= _) _ _ s'
  refine wpAny_bind (wpAny_field hit' rfl (x := .str (Str.ofString "") t) rfl ?_)
  refine wpAny_bind (wpAny_holding (eqBool_str ?_))
  by_cases e : y = Str.ofString ""
  · subst e
    simp only [beq_self_eq_true, Bool.not_true, Bool.false_eq_true, if_false]
    refine wpAny_bind (wpAny_rule ?_)
    refine wpAny_bind ?_
    show wpAny _ _ (field (.ref it) 0 >>= fun old => slotLetsGo "callable_iterator.__next__" old _ >>= fun _ => setField (.ref it) 0 .none >>= fun _ => setField (.ref it) 1 .none >>= fun _ => setField (.ref it) 2 (.bool true)) _ _ s'
    refine wpAny_bind (wpAny_field hit' rfl (x := .ref q) rfl ?_)
    refine wpAny_bind ?_
    unfold slotLetsGo
    refine wpAny_bind (borrows_meth hq' hf' hd ?_)
    simp only [if_true]
    refine wpAny_pure ?_
    obtain ⟨hp', g, d, tk, os⟩ := s'
    refine wpAny_bind (wpAny_setField_rec hit' (by simp) fun h₁ he₁ hs₁ => ?_)
    refine wpAny_bind (wpAny_setField_rec he₁ (by simp) fun h₂ he₂ hs₂ => ?_)
    refine wpAny_setField_rec he₂ (by simp) fun h₃ he₃ hs₃ => ?_
    have hx : Heap.ExtBut it hp' h₃ := (hs₁.extBut.trans hs₂.extBut).trans hs₃.extBut
    show wpAny _ _ (newExc (.type "StopIteration") [] >>= _) _ _ _
    refine wpAny_bind ?_
    simp only [newExc, newTuple]
    refine wpAny_bind (wpAny_newObj_type ?_ (by size_fits))
    refine wpAny_bind (m := firstArgMember _ _) (wpAny_of_eq (a := Value.none) (by first | rfl | (simp only [firstArgMember]; rfl)) ?_)
    refine wpAny_newObj_type ?_ (by size_fits)
    simp only [raiseNew]
    refine wpAny_bind (wpAny_handled ?_)
    first | rw [show A.in1.handled = none from hh] | rw [hh]
    refine wpAny_bind (wpAny_pure (wpAny_throw ?_))
    refine wpAny_bind (wpAny_isInstance (T := "StopIteration") (b := true) ⟨_, Heap.get?_push_size _ rfl, rfl⟩ isSubtype_stop ?_)
    exact wpAny_pure (hn rfl _ ((hx.push _).push _))
  · have e' : (Str.ofString "" == y) = false := by rw [beq_eq_false_iff_ne]; exact fun h => e h.symm
    rw [e']
    simp only [Bool.not_false, if_true]
    exact wpAny_pure ⟨_, rfl, wpAny_pure (hy e)⟩
end
set_option genSizeOf false in
set_option genInjectivity false in
structure LxS where
  (ln : Int) (u : Tok) (vs : List Value) (n : Nat)
noncomputable def LxSt (st : LxS) (cs : List Nat) : Prop := StrsAre st.vs (cs.map one) ∧ st.vs.length ≤ 1000
noncomputable abbrev lxL (P : Params) (k : LxK) (st : LxS) : List (Addr × Obj) := lxLed P k st.ln st.u st.vs st.n
theorem lx_addrs (P : Params) (k : LxK) (st st' : LxS) : (lxL P k st).map (·.1) = (lxL P k st').map (·.1) := rfl
/-- the ledger after a sign is read -/
theorem lx_move {P : Params} {k : LxK} {st st' : LxS} {h₀ h h' : Heap} {L : Addr} {m : Str → Option Value} {ext : List (Addr × Obj)} (e : Ext [k.ll, k.d2] h h') (F : Fr h₀ L h m) (N : News h₀ L h (lxL P k st ++ ext)) (off : ∀ p ∈ ext, ∀ q ∈ lxL P k st, p.1 ≠ q.1)
    (ne : (@Ne Nat k.x2 k.ll) ∧ (@Ne Nat k.p2 k.ll) ∧ (@Ne Nat k.f k.ll) ∧ (@Ne Nat k.c k.ll) ∧ (@Ne Nat k.x1 k.ll) ∧ (@Ne Nat k.d1 k.ll) ∧ (@Ne Nat k.p1 k.ll) ∧ (@Ne Nat k.cl k.ll) ∧ (@Ne Nat k.x2 k.d2) ∧ (@Ne Nat k.p2 k.d2) ∧ (@Ne Nat k.f k.d2) ∧ (@Ne Nat k.c k.d2) ∧ (@Ne Nat k.x1 k.d2) ∧ (@Ne Nat k.d1 k.d2) ∧ (@Ne Nat k.p1 k.d2) ∧ (@Ne Nat k.cl k.d2))
    (g1 : h'.get? k.ll = some (lob st'.vs st'.n)) (g2 : h'.get? k.d2 = some (lexD P k.t1 k.t2 k.t3 k.t4 st'.u k.u3 st'.ln (.ref k.x1) k.p2 4)) : Fr h₀ L h' m ∧ News h₀ L h' (lxL P k st' ++ ext) := by
  have hll := N (k.ll, lob st.vs st.n) (List.mem_append_left _ (.tail _ (.tail _ (.tail _ (.tail _ (.tail _ (.tail _ (.tail _ (.tail _ (.head _))))))))))
  have hd2 := N (k.d2, _) (List.mem_append_left _ (.tail _ (.head _)))
  have fr : Fr h₀ L h' m := e.fr F (fun hm => by rcases List.mem_cons.mp hm with e | hm
                                                 · exact hll.2.1 e.symm
                                                 · exact hd2.2.1 (List.mem_singleton.mp hm).symm) (fun b hb => by rcases List.mem_cons.mp hb with rfl | hb
                                                                                                                  · exact hll.2.2
                                                                                                                  · rw [List.mem_singleton.mp hb]; exact hd2.2.2)
  refine ⟨fr, fun p hp => ?_⟩
  have keep : ∀ q ∈ lxL P k st ++ ext, q.1 ≠ k.ll → q.1 ≠ k.d2 → h'.get? q.1 = some q.2 ∧ q.1 ≠ L ∧ h₀.get? q.1 = none := fun q hq h1 h2 => ⟨e _ _ (N q hq).1 (by simp [h1, h2]), (N q hq).2⟩
  obtain ⟨a1, a2, a3, a4, a5, a6, a7, a8, c1, c2, c3, c4, c5, c6, c7, c8⟩ := ne
  rcases List.mem_append.mp hp with hp' | hp'
  · simp only [lxL, lxLed, List.mem_cons, List.not_mem_nil, or_false] at hp'
    rcases hp' with rfl | rfl | rfl | rfl | rfl | rfl | rfl | rfl | rfl | rfl
    · exact keep (k.x2, _) (List.mem_append_left _ (.head _)) a1 c1
    · exact ⟨g2, hd2.2⟩
    · exact keep (k.p2, _) (List.mem_append_left _ (.tail _ (.tail _ (.head _)))) a2 c2
    · exact keep (k.f, _) (List.mem_append_left _ (.tail _ (.tail _ (.tail _ (.head _))))) a3 c3
    · exact keep (k.c, _) (List.mem_append_left _ (.tail _ (.tail _ (.tail _ (.tail _ (.head _)))))) a4 c4
    · exact keep (k.x1, _) (List.mem_append_left _ (.tail _ (.tail _ (.tail _ (.tail _ (.tail _ (.head _))))))) a5 c5
    · exact keep (k.d1, _) (List.mem_append_left _ (.tail _ (.tail _ (.tail _ (.tail _ (.tail _ (.tail _ (.head _)))))))) a6 c6
    · exact keep (k.p1, _) (List.mem_append_left _ (.tail _ (.tail _ (.tail _ (.tail _ (.tail _ (.tail _ (.tail _ (.head _))))))))) a7 c7
    · exact ⟨g1, hll.2⟩
    · exact keep (k.cl, _) (List.mem_append_left _ (.tail _ (.tail _ (.tail _ (.tail _ (.tail _ (.tail _ (.tail _ (.tail _ (.tail _ (.head _))))))))))) a8 c8
  · exact keep p (List.mem_append_right _ hp') (off p hp' _ (.tail _ (.tail _ (.tail _ (.tail _ (.tail _ (.tail _ (.tail _ (.tail _ (.head _)))))))))) (off p hp' _ (.tail _ (.head _)))
section
variable {w : World} {p : Program} {loose : List Str} {mean : ExcName → Option Value} {mg mb : Str → Option Value} {dp un : Nat} {fr : Option (List Env)} {gd : Option (List Code)} {h₀ : Heap} {s : Shared} {E : Value → Shared → Prop} {env : Env} {m : Str → Option Value}
noncomputable def lxAd (k : LxK) : List Addr := [k.x2, k.d2, k.p2, k.f, k.c, k.x1, k.d1, k.p1, k.ll, k.cl]
theorem lxAd_eq (P : Params) (k : LxK) (st : LxS) : (lxL P k st).map (·.1) = lxAd k := rfl
theorem letGo_ci {prog : Program} {w : World} {A : Around} {E : Value → Shared → Prop} {x : Str} {px : Pos} {I q : Addr} {t : Tok} {v : Value} {Q' : Unit → Shared → Prop} {s' : Shared} (_hit : s'.heap.get? I = some (ciO q t)) (h : Q' () s') :
    wpAny (model prog w) A (letOwnedTupleGo (.Name x px) (.ref I) v) Q' E s' := by
  unfold letOwnedTupleGo
  exact wpAny_pure h
theorem lx_two {k : LxK} {a : Addr} (h : a ∈ [k.ll, k.d2]) : a ∈ lxAd k := by
  rcases List.mem_cons.mp h with rfl | h
  · simp [lxAd]
  · rw [List.mem_singleton.mp h]; simp [lxAd]
noncomputable def txt (cs : List Nat) : Str := ⟨cs.toArray⟩
theorem one_ne (c : Nat) : one c ≠ Str.ofString "" := fun e => by
  have : (one c).cps.size = (Str.ofString "").cps.size := by rw [e]
  have e2 : (Str.ofString "").cps.size = 0 := by decide +kernel
  rw [e2] at this; cases this
/-- how a turn of the loop over the signs may end -/
noncomputable def CiTurn (w : World) (h₀ : Heap) (L : Addr) (s : Shared) (k : LxK) (ext : List (Addr × Obj)) (x xt : Str) (m : Str → Option Value) (len : Nat) (Inv : List Nat → List Nat → Prop) (Q : Flow → Shared → Prop) (f : Flow) (s₃ : Shared) : Prop :=
  match f with
  | .ret v => Q (.ret v) s₃
  | .brk => Q .next s₃
  | _ => ∃ st cs acc u m' h' tk', s₃ = { s with heap := h', toks := tk' } ∧ LxSt st cs ∧ Fr h₀ L h' m' ∧ News h₀ L h' (lxL w.params k st ++ ext) ∧ (∀ z, z ≠ x → z ≠ xt → m' z = m z) ∧ m' xt = some (.str (txt acc) u) ∧ cs.length < len ∧ Inv cs acc
theorem For_ci {x xt : Str} {px : Pos} {iter : Expr} {body orelse : List Stmt} {pos : Pos} {Q : Flow → Shared → Prop} {k : LxK} {st : LxS} {cs acc : List Nat} {it q : Addr} {t0 u0 : Tok} (Inv : List Nat → List Nat → Prop)
    (hk : LxOK w k) (X : (hd.heap_39 w.params).In h₀) (T : Top p loose mean mg mb h₀) (hdp : dp + 14 < recursionLimit) (hun : un + 70 < cLine) (hx : env.kindOf x = some .local) (hp : (env.scope.kind == .class || (env.scope.kind == .module && env.locals != env.globals)) = false) (hxt : xt ≠ x)
    (hS : LxSt st cs) (F : Fr h₀ env.locals s.heap m) (N : News h₀ env.locals s.heap (lxL w.params k st ++ [(it, ciO q t0), (q, methodObj (.ref 155) (.ref k.x2))])) (hm : m xt = some (.str (txt acc) u0)) (hI : Inv cs acc)
    (offi : it ∉ lxAd k) (offq : q ∉ lxAd k) (hiq : it ≠ q)
    (he : wpAny (model PW w) (AR dp fr gd un) (eval iter env) (fun xv s₁ => xv = .ref it ∧ ∃ tk, s₁ = { s with toks := tk }) E s)
    (turn : ∀ c r acc u1 t st h tk, Inv (c :: r) acc → LxSt st r → Fr h₀ env.locals h (fun z => if z = x then some (.str (one c) t) else if z = xt then some (.str (txt acc) u1) else m z) → News h₀ env.locals h (lxL w.params k st ++ [(it, ciO q t0), (q, methodObj (.ref 155) (.ref k.x2))]) →
      wpAny (model PW w) (AR dp fr gd un) (execs body env) (CiTurn w h₀ env.locals s k [(it, ciO q t0), (q, methodObj (.ref 155) (.ref k.x2))] x xt m (r.length + 1) Inv Q) E { s with heap := h, toks := tk })
    (els : ∀ acc u1 st m' h tk, Inv [] acc → LxSt st [] → Fr h₀ env.locals h m' → (∀ z, z ≠ x → z ≠ xt → m' z = m z) → m' xt = some (.str (txt acc) u1) → News h₀ env.locals h (lxL w.params k st) → wpAny (model PW w) (AR dp fr gd un) (execs orelse env) Q E { s with heap := h, toks := tk })
    (hs : ∀ x, foldedSetIterable iter env x = pure x := by intro _; rfl)
    (hE : PassesOwn (model PW w) (AR dp fr gd un) env E := by passes_own) :
    wpAny (model PW w) (AR dp fr gd un) (exec (.For (.Name x px) iter body orelse pos) env) Q E s := by
  refine wpAny_For (wpAny_mono he (fun xv s₁ h₁ => ?_) fun _ _ e => e) hs
  obtain ⟨rfl, tk, rfl⟩ := h₁
  refine pyIter_ci (N (it, _) (List.mem_append_right _ (.head _))).1 ?_
  have hne := hk.ne
  refine codeAny_forLoop_any (R := fun r s' => match r with | .ok f => Q f s' | .error e => cameBackBy (model PW w) (AR dp fr gd un) env E e s')
    (fun j s' => ∃ st cs acc u m' h' tk', s' = { s with heap := h', toks := tk' } ∧ LxSt st cs ∧ Fr h₀ env.locals h' m' ∧ News h₀ env.locals h' (lxL w.params k st ++ [(it, ciO q t0), (q, methodObj (.ref 155) (.ref k.x2))]) ∧ (∀ z, z ≠ x → z ≠ xt → m' z = m z) ∧ m' xt = some (.str (txt acc) u) ∧ Inv cs acc ∧ j = cs.length) ?_ cs.length
    ⟨st, cs, acc, u0, m, s.heap, tk, rfl, hS, F, N, fun _ _ _ => rfl, hm, hI, rfl⟩
  rintro j s' ⟨st, cs, acc, u, m', h', tk', rfl, hS, F', N', hm', ht', hI', rfl⟩
  have off : ∀ p ∈ ([(it, ciO q t0), (q, methodObj (.ref 155) (.ref k.x2))] : List (Addr × Obj)), ∀ r ∈ lxL w.params k st, p.1 ≠ r.1 := by
    intro p hp r hr e
    have h1 : r.1 ∈ lxAd k := by rw [← lxAd_eq w.params k st]; exact List.mem_map_of_mem hr
    rw [← e] at h1
    rcases List.mem_cons.mp hp with rfl | hp
    · exact offi h1
    · rw [List.mem_singleton.mp hp] at h1; exact offq h1
  have Nit := N' (it, _) (List.mem_append_right _ (.head _))
  have Nq := N' (q, _) (List.mem_append_right _ (.tail _ (.head _)))
  have hfn : h'.get? 155 = some _ := F'.keep _ _ (X 155 _ rfl)
  have P : ∀ r ∈ lxLed w.params k st.ln st.u st.vs st.n, h'.get? r.1 = some r.2 ∧ h₀.get? r.1 = none := fun r hr => ⟨(N' r (List.mem_append_left _ hr)).1, (N' r (List.mem_append_left _ hr)).2.2⟩
  have fn0 : ∀ hx : Heap, (∀ b o, b ∉ [k.ll, k.d2] → h'.get? b = some o → hx.get? b = some o) → hx.get? 155 = h'.get? 155 := fun hx e => by
    rw [hfn]; refine e 155 _ (fun hm => ?_) hfn
    have h5 : h₀.get? 155 = none := by
      rcases List.mem_cons.mp hm with e | hm
      · rw [e]; exact (P (k.ll, _) (.tail _ (.tail _ (.tail _ (.tail _ (.tail _ (.tail _ (.tail _ (.tail _ (.head _)))))))))).2
      · rw [List.mem_singleton.mp hm]; exact (P (k.d2, _) (.tail _ (.head _))).2
    rw [X 155 _ rfl] at h5; cases h5
  have hit : it ∉ [k.ll, k.d2] := fun hm => offi (lx_two hm)
  have hqq : q ∉ [k.ll, k.d2] := fun hm => offq (lx_two hm)
  rcases cs with _ | ⟨c, r⟩
  · refine wpAny_passesOwn hE (ci_next rfl Nit.1 Nq.1 hfn rfl (readchar_r k st.ln st.u st.vs st.n [] hk X T F'.keep hdp (by show un + 1 + 60 < cLine; omega) P hS.1 hS.2 (fun _ t h'' tk'' ex => ?_) fun _ _ e => nomatch e))
    refine ⟨_, t, rfl, ex _ _ Nit.1 (fun h => nomatch h), ex _ _ Nq.1 (fun h => nomatch h), (fn0 h'' fun b o _ e => ex b o e fun h => nomatch h).trans hfn, fun h => absurd rfl h, fun _ h3 ex3 => ?_⟩
    have ex' : Ext [it] h' h3 := fun b o e hb => ex3 b o (fun e' => hb (by rw [e']; exact .head _)) (ex b o e fun h => nomatch h)
    refine wpAny_mono (els acc u st m' h3 tk'' hI' hS (ex'.fr F' (fun hm => Nit.2.1 (List.mem_singleton.mp hm).symm) fun b hb => by rw [List.mem_singleton.mp hb]; exact Nit.2.2) hm' ht' fun p hp => ?_) (fun _ _ h => h) hE
    have := N' p (List.mem_append_left _ hp)
    exact ⟨ex' _ _ this.1 (fun hm => off _ (.head _) p hp (List.mem_singleton.mp hm).symm), this.2⟩
  · refine wpAny_passesOwn hE (ci_next rfl Nit.1 Nq.1 hfn rfl (readchar_r k st.ln st.u st.vs st.n (c :: r) hk X T F'.keep hdp (by show un + 1 + 60 < cLine; omega) P hS.1 hS.2 (fun e => nomatch e) fun c0 r0 e t ln' u' vr n' h'' tk'' hvr hlen ex g1 g2 => ?_))
    cases e
    obtain ⟨F2, N2⟩ := lx_move (st' := ⟨ln', u', vr, n'⟩) ex F' N' off hne g1 g2
    refine ⟨_, t, rfl, ex _ _ Nit.1 hit, ex _ _ Nq.1 hqq, (fn0 h'' fun b o hb e => ex b o e hb).trans hfn, fun _ => ?_, fun e => absurd e (one_ne c)⟩
    refine letGo_ci (ex _ _ Nit.1 hit) ?_
    refine wpAny_assign_Name (wpAny_storeName_local hx F2.ns (fun h₃ hn₃ hs₃ => ?_) hp)
    have F3 := F2.set hn₃ hs₃
    have N3 : News h₀ env.locals h₃ _ := fun p hp => ⟨hs₃.extBut p.1 _ (N2 p hp).2.1 (N2 p hp).1, (N2 p hp).2⟩
    have em : (fun y => if y = x then some (Value.str (one c) t) else m' y) = fun z => if z = x then some (.str (one c) t) else if z = xt then some (.str (txt acc) u) else m z := by
      funext z
      by_cases h1 : z = x
      · rw [if_pos h1, if_pos h1]
      · rw [if_neg h1, if_neg h1]
        by_cases h2 : z = xt
        · rw [if_pos h2, h2]; exact ht'
        · rw [if_neg h2]; exact hm' z h1 h2
    rw [em] at F3
    have tt := fun tkx => turn c r acc u t ⟨ln', u', vr, n'⟩ h₃ tkx hI' ⟨hvr, hlen⟩ F3 N3
    refine wpAny_mono (tt _) (fun f s₃ z3 => ?_) hE
    have fin : (∃ st cs acc u m' h' tk', s₃ = { s with heap := h', toks := tk' } ∧ LxSt st cs ∧ Fr h₀ env.locals h' m' ∧ News h₀ env.locals h' (lxL w.params k st ++ [(it, ciO q t0), (q, methodObj (.ref 155) (.ref k.x2))]) ∧ (∀ z, z ≠ x → z ≠ xt → m' z = m z) ∧ m' xt = some (.str (txt acc) u) ∧ cs.length < r.length + 1 ∧ Inv cs acc) →
      ∃ j, j < (c :: r).length ∧ ∃ st cs acc u m' h' tk', s₃ = { s with heap := h', toks := tk' } ∧ LxSt st cs ∧ Fr h₀ env.locals h' m' ∧ News h₀ env.locals h' (lxL w.params k st ++ [(it, ciO q t0), (q, methodObj (.ref 155) (.ref k.x2))]) ∧ (∀ z, z ≠ x → z ≠ xt → m' z = m z) ∧ m' xt = some (.str (txt acc) u) ∧ Inv cs acc ∧ j = cs.length := by
      rintro ⟨st, cs, acc, u, m', h', tk', e, a1, a2, a3, a4, a5, a6, a7⟩
      exact ⟨cs.length, by simpa using a6, st, cs, acc, u, m', h', tk', e, a1, a2, a3, a4, a5, a7, rfl⟩
    cases f with
    | ret v => exact z3
    | brk => exact z3
    | next => exact fin z3
    | cont => exact fin z3
end
theorem rows29 : True := by
  k_with "exec For Name Name" => ((k_here; refine stop_here ?_))
  k_with "exec For Name Name cons nil" => ((k_here; refine stop_here ?_))
  k_with "last exec For" => ((k_here; refine stop_here ?_))
  k_with "call builtin:iter" => ((k_here; (with_reducible show wpAny _ _ (call (Value.builtin "iter") [Value.ref _, Value.str _ _]) _ _ _); k_dflt (refine' call_iter2 (by k_asm) (by k_asm) (by k_mem) ?_; k_whole); intro _ _ _ _ lq1; (try k_lt lq1); (try k_sweep)))
  trivial
noncomputable def okp (c : Nat) : Prop := c = 97 ∨ c = 98 ∨ c = 46
noncomputable def okq (c : Nat) : Prop := c = 97 ∨ c = 32 ∨ c = 98 ∨ c = 99 ∨ c = 100 ∨ c = 34
noncomputable def enc (us : List Nat) : List Nat := us.flatMap fun c => if c = 34 then [92, 34] else [c]
noncomputable def TokOK (cs tok rest : List Nat) : Prop := (tok = [] ∧ rest = [] ∧ (cs = [] ∨ cs = [10])) ∨ (tok ≠ [] ∧ (∀ c ∈ tok, okp c) ∧ (cs = tok ++ 10 :: rest ∨ cs = 10 :: (tok ++ 10 :: rest))) ∨ ((∀ c ∈ tok, okq c) ∧ (cs = 34 :: (enc tok ++ 34 :: rest) ∨ cs = 10 :: 34 :: (enc tok ++ 34 :: rest)))
theorem off_lt {k : LxK} {a : Addr} (h : (@LT.lt Nat _ k.x2 a) ∧ (@LT.lt Nat _ k.d2 a) ∧ (@LT.lt Nat _ k.p2 a) ∧ (@LT.lt Nat _ k.f a) ∧ (@LT.lt Nat _ k.c a) ∧ (@LT.lt Nat _ k.x1 a) ∧ (@LT.lt Nat _ k.d1 a) ∧ (@LT.lt Nat _ k.p1 a) ∧ (@LT.lt Nat _ k.ll a) ∧ (@LT.lt Nat _ k.cl a)) : a ∉ lxAd k := by
  intro hm
  have key : ∀ b ∈ lxAd k, (@LT.lt Nat _ b a) := by
    unfold lxAd
    simp only [List.forall_mem_cons]
    exact ⟨h.1, h.2.1, h.2.2.1, h.2.2.2.1, h.2.2.2.2.1, h.2.2.2.2.2.1, h.2.2.2.2.2.2.1, h.2.2.2.2.2.2.2.1, h.2.2.2.2.2.2.2.2.1, h.2.2.2.2.2.2.2.2.2, fun _ h => nomatch h⟩
  exact Nat.lt_irrefl _ (key a hm)
theorem news_swap {h₀ h : Heap} {L : Addr} {a b : Addr × Obj} {l : List (Addr × Obj)} (N : News h₀ L h (a :: b :: l)) : News h₀ L h (l ++ [a, b]) := fun p hp => N p (by
  rcases List.mem_append.mp hp with h | h
  · exact .tail _ (.tail _ h)
  · rcases List.mem_cons.mp h with rfl | h
    · exact .head _
    · rw [List.mem_singleton.mp h]; exact .tail _ (.head _))
theorem one10 : one 10 = Str.ofString "\n" := by decide +kernel
theorem one32 : one 32 = Str.ofString " " := by decide +kernel
theorem one34 : one 34 = Str.ofString "\"" := by decide +kernel
theorem one46 : one 46 = Str.ofString "." := by decide +kernel
theorem one92 : one 92 = Str.ofString "\\" := by decide +kernel
theorem one97 : one 97 = Str.ofString "a" := by decide +kernel
theorem one98 : one 98 = Str.ofString "b" := by decide +kernel
theorem one99 : one 99 = Str.ofString "c" := by decide +kernel
theorem one100 : one 100 = Str.ofString "d" := by decide +kernel
theorem led_head {h₀ h : Heap} {L a b : Addr} {t : Tok} {o : Obj} {l : List (Addr × Obj)} (_ : News h₀ L h ((a, ciO b t) :: (b, o) :: l)) : ∃ a' b' t', a' = a ∧ b' = b ∧ t' = t := ⟨a, b, t, rfl, rfl, rfl⟩
theorem txt_one (acc : List Nat) (c : Nat) : txt acc ++ one c = txt (acc ++ [c]) := str_of_list (by show ((txt acc).cps ++ (one c).cps).toList = _; simp [txt, one])
theorem txt_s {c : Nat} {y : Str} (e : one c = y) (acc : List Nat) : txt acc ++ y = txt (acc ++ [c]) := e ▸ txt_one acc c
theorem tok_case {c r tok rest} (h : TokOK (c :: r) tok rest) : (c = 10 ∧ TokOK r tok rest) ∨ (okp c ∧ ∃ w', tok = c :: w' ∧ (∀ c ∈ w', okp c) ∧ r = w' ++ 10 :: rest) ∨ (c = 34 ∧ (∀ c ∈ tok, okq c) ∧ r = enc tok ++ 34 :: rest) := by
  rcases h with ⟨rfl, rfl, h | h⟩ | ⟨h1, h2, h | h⟩ | ⟨h1, h | h⟩
  · cases h
  · cases h; exact .inl ⟨rfl, .inl ⟨rfl, rfl, .inl rfl⟩⟩
  · obtain ⟨a, w', rfl⟩ := List.exists_cons_of_ne_nil h1
    obtain ⟨rfl, rfl⟩ : c = a ∧ r = w' ++ 10 :: rest := by simpa using h
    exact .inr (.inl ⟨h2 _ (.head _), w', rfl, fun x hx => h2 x (.tail _ hx), rfl⟩)
  · obtain ⟨rfl, rfl⟩ : c = 10 ∧ r = tok ++ 10 :: rest := by simpa using h
    exact .inl ⟨rfl, .inr (.inl ⟨h1, h2, .inl rfl⟩)⟩
  · obtain ⟨rfl, rfl⟩ : c = 34 ∧ r = enc tok ++ 34 :: rest := by simpa using h
    exact .inr (.inr ⟨rfl, h1, rfl⟩)
  · obtain ⟨rfl, rfl⟩ : c = 10 ∧ r = 34 :: (enc tok ++ 34 :: rest) := by simpa using h
    exact .inl ⟨rfl, .inr (.inr ⟨h1, .inl rfl⟩)⟩
theorem tok_end {tok rest} (h : TokOK [] tok rest) : tok = [] ∧ rest = [] := by
  rcases h with ⟨rfl, rfl, _⟩ | ⟨h1, _, h | h⟩ | ⟨_, h | h⟩
  · exact ⟨rfl, rfl⟩
  · simp at h
  · cases h
  · cases h
  · cases h
theorem enc_cons (c : Nat) (us : List Nat) : enc (c :: us) = (if c = 34 then [92, 34] else [c]) ++ enc us := rfl
section
variable {w : World} {p : Program} {loose : List Str} {mean : ExcName → Option Value} {mg mb : Str → Option Value} {dp un : Nat} {fr : Option (List Env)} {gd : Option (List Code)} {h₀ : Heap} {s : Shared} {Q E : Value → Shared → Prop} {L : Addr} {m : Str → Option Value} {ext : List (Addr × Obj)}
theorem readchar_u (k : LxK) (st : LxS) (c : Nat) (r : List Nat) (hk : LxOK w k) (F : Fr h₀ L s.heap m) (N : News h₀ L s.heap (lxL w.params k st ++ ext)) (off : ∀ p ∈ ext, p.1 ∉ lxAd k) (X : (hd.heap_39 w.params).In h₀) (T : Top p loose mean mg mb h₀) (hS : LxSt st (c :: r)) (hdp : dp + 14 < recursionLimit) (hun : un + 60 < cLine)
    (h : ∀ t st' h' tk', LxSt st' r → Fr h₀ L h' m → News h₀ L h' (lxL w.params k st' ++ ext) → Q (.str (one c) t) { s with heap := h', toks := tk' }) : wpAny (model PW w) (AR dp fr gd un) (call (.ref 155) [.ref k.x2]) Q E s := by
  have P : ∀ r ∈ lxLed w.params k st.ln st.u st.vs st.n, s.heap.get? r.1 = some r.2 ∧ h₀.get? r.1 = none := fun r hr => ⟨(N r (List.mem_append_left _ hr)).1, (N r (List.mem_append_left _ hr)).2.2⟩
  refine wpAny_call (readchar_r k st.ln st.u st.vs st.n (c :: r) hk X T F.keep hdp hun P hS.1 hS.2 (fun e => nomatch e) fun c0 r0 e t ln' u' vr n' h' tk' hvr hlen ex g1 g2 => ?_)
  cases e
  have off' : ∀ p ∈ ext, ∀ r ∈ lxL w.params k st, p.1 ≠ r.1 := fun p hp r hr e => off p hp (by rw [e, ← lxAd_eq w.params k st]; exact List.mem_map_of_mem hr)
  obtain ⟨F2, N2⟩ := lx_move (st' := ⟨ln', u', vr, n'⟩) ex F N off' hk.ne g1 g2
  exact h t ⟨ln', u', vr, n'⟩ h' tk' ⟨hvr, hlen⟩ F2 N2
end
theorem rows30 : True := by
  k_with "call ref" => ((k_here; (with_reducible show wpAny _ _ (call (Value.ref 155) [Value.ref _]) _ _ _); refine stop_here ?_))
  trivial
theorem txt_len (acc : List Nat) : (txt acc).length = acc.length := by show (acc.toArray).size = _; simp
theorem pre_len {acc v tok : List Nat} (e : acc ++ v = tok) (h : tok.length ≤ 100) : (txt acc).length ≤ 100 := by rw [txt_len]; have := congrArg List.length e; simp at this; omega
theorem lx_ext {P : Params} {k : LxK} {st st' : LxS} {ext : List (Addr × Obj)} {h g h' : Heap} {L : Addr} {m : Str → Option Value} (EX : Ext ((lxL P k st).map (·.1)) h g) (F : Fr g L h' m) (N : News g L h' (lxL P k st' ++ ext)) (hP : ∀ q ∈ lxL P k st, h.get? q.1 = some q.2) :
    Ext [k.ll, k.d2] h h' ∧ h'.get? k.ll = some (lob st'.vs st'.n) ∧ h'.get? k.d2 = some (lexD P k.t1 k.t2 k.t3 k.t4 st'.u k.u3 st'.ln (.ref k.x1) k.p2 4) := by
  have N' : ∀ q ∈ lxL P k st', h'.get? q.1 = some q.2 := fun q hq => (N q (List.mem_append_left _ hq)).1
  refine ⟨ext_pre EX F hP fun q hq hno => ?_, N' (k.ll, _) (by walk_at "my in"), N' (k.d2, _) (by walk_at "my in")⟩
  simp only [lxL, lxLed, List.mem_cons, List.not_mem_nil, or_false] at hq
  rcases hq with rfl | rfl | rfl | rfl | rfl | rfl | rfl | rfl | rfl | rfl <;> first | exact absurd (.head _) hno | exact absurd (.tail _ (.head _)) hno | exact N' (_, _) (by walk_at "my in")
theorem in_str_as {prog : Program} {w : World} {A : Around} {E : Value → Shared → Prop} {s : Shared} {Q : Value → Shared → Prop} {x y : Str} {t u : Tok} {b : Bool} (hk : Txt.contains x y = b) (h : Q (.bool b) s) : wpAny (model prog w) A (compareOp .In (.str y u) (.str x t)) Q E s := by
  subst hk; exact SB.contains h
theorem rows31 : True := by
  k_with "compareOp In str str" => ((k_here; refine in_str_as (by assumption) ?_))
  trivial
noncomputable def WS : Str := Str.ofString "\n\t\r "
theorem ok_char : ∀ c, okp c ∨ (okq c ∧ c ≠ 34) → one c ≠ Str.ofString "\"" ∧ one c ≠ Str.ofString "\\" := by
  intro c hc
  have h : ∀ a b : Nat, a ≠ b → one a ≠ one b := fun a b hab e => hab (by injection e with e; injection e with e; injection e)
  rw [← one34, ← one92]
  rcases hc with (rfl | rfl | rfl) | ⟨rfl | rfl | rfl | rfl | rfl | rfl, h34⟩ <;> first | exact absurd rfl h34 | exact ⟨h _ _ (by decide), h _ _ (by decide)⟩
theorem ok_ws : ∀ c, okp c → Txt.contains (Str.ofString "\n\t\r ") (one c) = false := by
  intro c hc
  rcases hc with rfl | rfl | rfl <;> decide +kernel
theorem nl_ws : Txt.contains (Str.ofString "\n\t\r ") (Str.ofString "\n") = true := by decide +kernel
theorem qt_ws : Txt.contains (Str.ofString "\n\t\r ") (Str.ofString "\"") = false := by decide +kernel
theorem nil_one (c : Nat) : Str.ofString "" ++ one c = txt [c] := (show Str.ofString "" = txt [] from by decide +kernel) ▸ txt_one [] c
section
variable {w : World} {p : Program} {loose : List Str} {mean : ExcName → Option Value} {mg mb : Str → Option Value} {dp un : Nat} {fr : Option (List Env)} {gd : Option (List Code)} {h₀ : Heap} {s : Shared} {Q E : Value → Shared → Prop}
theorem token_c (k : LxK) (st : LxS) (cs tok rest : List Nat) (hk : LxOK w k) (X : (hd.heap_39 w.params).In h₀) (T : Top p loose mean mg mb h₀) (keep : ∀ b o, h₀.get? b = some o → s.heap.get? b = some o) (hdp : dp + 20 < recursionLimit) (hun : un + 120 < cLine)
    (P : ∀ q ∈ lxL w.params k st, s.heap.get? q.1 = some q.2 ∧ h₀.get? q.1 = none) (hS : LxSt st cs) (hT : TokOK cs tok rest) (hlt : tok.length ≤ 100)
    (h : ∀ st' t h' tk', LxSt st' rest → Ext [k.ll, k.d2] s.heap h' → h'.get? k.ll = some (lob st'.vs st'.n) → h'.get? k.d2 = some (lexD w.params k.t1 k.t2 k.t3 k.t4 st'.u k.u3 st'.ln (.ref k.x1) k.p2 4) → Q (.str (txt tok) t) { s with heap := h', toks := tk' }) :
    wpAny (model PW w) (AR dp fr gd un) (call (.ref 162) [.ref k.x2]) Q E s := by
  obtain ⟨x2, d2, p2, f, c, x1, d1, p1, ll, cl, t1, t2, t3, t4, u3, r1, r2, r3, r4, r5, v1, v3, oF, oc, ocl, qn⟩ := k
  obtain ⟨ln, u, vs, n⟩ := st
  have hk' := hk
  obtain ⟨NX, hcell, hcode, ⟨fc, fd, fdat, fsl, rfl⟩, b1, b2, b3, b4, b5, b6, b7, b8, b9⟩ := hk'
  dsimp only at *
  k_dflt (walk_at "my enter")
  have CH := lexer_head (by assumption)
  rename Ext _ _ _ => EX
  walk_at "my steps"
  refine StopAt.mk ?_
  rename News _ _ _ _ => N9
  rename Fr _ _ _ _ => F9
  rename (Frag.In _ _) => X9
  rename (Top _ _ _ _ _ _) => T9
  obtain ⟨I9, q9, t9, rfl, rfl, rfl⟩ := led_head N9
  have offi := off_lt (k := ⟨x2, d2, p2, f, c, x1, d1, p1, ll, cl, t1, t2, t3, t4, u3, r1, r2, r3, r4, r5, v1, v3, ⟨fc, fd, .func fdat, fsl⟩, oc, ocl, qn⟩) (a := I9) (by dsimp only; omega)
  have offq := off_lt (k := ⟨x2, d2, p2, f, c, x1, d1, p1, ll, cl, t1, t2, t3, t4, u3, r1, r2, r3, r4, r5, v1, v3, ⟨fc, fd, .func fdat, fsl⟩, oc, ocl, qn⟩) (a := q9) (by dsimp only; omega)
  have hiq : I9 ≠ q9 := Nat.ne_of_gt (by omega)
  have offe : ∀ t9 : Tok, ∀ p ∈ ([(I9, ciO q9 t9), (q9, methodObj (.ref 155) (.ref x2))] : List (Addr × Obj)), p.1 ∉ lxAd ⟨x2, d2, p2, f, c, x1, d1, p1, ll, cl, t1, t2, t3, t4, u3, r1, r2, r3, r4, r5, v1, v3, ⟨fc, fd, .func fdat, fsl⟩, oc, ocl, qn⟩ := fun _ => List.forall_mem_cons.mpr ⟨offi, List.forall_mem_cons.mpr ⟨offq, List.forall_mem_nil _⟩⟩
  refine For_ci (k := ⟨x2, d2, p2, f, c, x1, d1, p1, ll, cl, t1, t2, t3, t4, u3, r1, r2, r3, r4, r5, v1, v3, ⟨fc, fd, .func fdat, fsl⟩, oc, ocl, qn⟩) (x := Str.ofString "ch") (xt := Str.ofString "token") (acc := []) (u0 := ?u0) (fun cs acc => acc = [] ∧ TokOK cs tok rest) hk X9 T9 ?hdp ?hun ?hx ?hp ?hxt hS F9 (news_swap N9) ?hm ?hI offi offq hiq ?he ?turn ?els
  case hdp => ktr_room
  case hun => ktr_units
  case hx => rfl
  case hp => rfl
  case hxt => decide
  case hm => with_unfolding_all rfl
  case hI => exact ⟨rfl, hT⟩
  case he => walk_at "my steps"
  case turn =>
    rintro c0 r acc u1 tc st' h9 tk9 ⟨rfl, hT9⟩ hS9 F8 N8
    have hcase := tok_case hT9
    obtain ⟨ln', u', vs', n'⟩ := st'
    rcases hcase with ⟨rfl, hT8⟩ | ⟨hc, w', rfl, hw, rfl⟩ | ⟨rfl, hq, rfl⟩
    · rw [one10] at F8
      have hws := nl_ws
      walk_at "my steps"
      exact ⟨⟨ln', u', vs', n'⟩, r, [], _, _, _, _, rfl, hS9, by assumption, by assumption, fun z h1 h2 => (if_neg h1).trans (if_neg h2), by with_unfolding_all rfl, Nat.lt_succ_self _, rfl, hT8⟩
    · have hc1 := ok_char _ (.inl hc)
      have hc2 := hc1.1
      have hc3 := hc1.2
      have hws := ok_ws _ hc
      have hl1 : (one c0).length = 1 := rfl
      have hl0 : (txt []).length = 0 := rfl
      clear hc1
      · walk_at "my steps"
        refine StopAt.mk ?_
        rename News _ _ _ _ => N7
        rename Fr _ _ _ _ => F7
        refine For_ci (k := ⟨x2, d2, p2, f, c, x1, d1, p1, ll, cl, t1, t2, t3, t4, u3, r1, r2, r3, r4, r5, v1, v3, ⟨fc, fd, .func fdat, fsl⟩, oc, ocl, qn⟩) (st := ⟨ln', u', vs', n'⟩) (x := Str.ofString "ch") (xt := Str.ofString "token") (acc := [c0]) (u0 := ?u10) (fun cs acc => ∃ v, acc ++ v = c0 :: w' ∧ (∀ c ∈ v, okp c) ∧ cs = v ++ 10 :: rest) hk X9 T9 ?hdp0 ?hun0 ?hx0 ?hp0 ?hxt0 hS9 F7 N7 ?hm0 ?hI0 offi offq hiq ?he0 ?turn0 ?els0
        case hm0 => with_unfolding_all exact congrArg (fun y => some (Value.str y _)) (nil_one c0)
        case hdp0 => ktr_room
        case hun0 => ktr_units
        case hx0 => rfl
        case hp0 => rfl
        case hxt0 => decide
        case hI0 => exact ⟨w', rfl, hw, rfl⟩
        case he0 => walk_at "my steps"
        case els0 =>
          rintro acc u2 st2 m2 hE tkE ⟨v, _, _, e⟩ hSE FE hmE htE NE
          exact absurd e (by simp)
        case turn0 =>
          rintro c1 r1' acc u2 tc2 st2 h7 tk7 ⟨v, e1, hv, e2⟩ hS7 F6 N6
          obtain ⟨ln2, u2', vs2, n2⟩ := st2
          have hla := pre_len e1 hlt
          clear F7 N7 F8 N8
          rcases v with _ | ⟨c2, v⟩
          · obtain ⟨rfl, rfl⟩ : c1 = 10 ∧ r1' = rest := by simpa using e2
            rw [one10] at F6
            have hws2 := nl_ws
            walk_at "my steps"
            obtain rfl : acc = c0 :: w' := by simpa using e1
            have hx := lx_ext EX F6 N6 fun q hq => (P q hq).1
            exact h ⟨ln2, u2', vs2, n2⟩ _ _ _ hS7 hx.1 hx.2.1 hx.2.2
          · obtain ⟨rfl, rfl⟩ : c1 = c2 ∧ r1' = v ++ 10 :: rest := by simpa using e2
            have hc4 := ok_char _ (.inl (hv c1 (.head _)))
            have hc5 := hc4.2
            have hws2 := ok_ws _ (hv c1 (.head _))
            have hl2 : (one c1).length = 1 := rfl
            clear hc4 hc2 hc3 hws hl1 hl0
            walk_at "my steps"
            exact ⟨⟨ln2, u2', vs2, n2⟩, v ++ 10 :: rest, acc ++ [c1], _, _, _, _, rfl, hS7, by assumption, by assumption, fun z h1 h2 => (if_neg h2).trans ((if_neg h1).trans (if_neg h2)), by with_unfolding_all exact congrArg (fun y => some (Value.str y _)) (txt_one acc c1), Nat.lt_succ_self _, v, by simpa using e1, fun c hc => hv c (.tail _ hc), rfl⟩
    · rw [one34] at F8
      have hws := qt_ws
      walk_at "my steps"
      refine StopAt.mk ?_
      refine For_ci (k := ⟨x2, d2, p2, f, c, x1, d1, p1, ll, cl, t1, t2, t3, t4, u3, r1, r2, r3, r4, r5, v1, v3, ⟨fc, fd, .func fdat, fsl⟩, oc, ocl, qn⟩) (st := ⟨ln', u', vs', n'⟩) (x := Str.ofString "ch") (xt := Str.ofString "token") (acc := []) (u0 := ?u1q) (fun cs acc => ∃ v, acc ++ v = tok ∧ (∀ c ∈ v, okq c) ∧ cs = enc v ++ 34 :: rest) hk X9 T9 ?hdpq ?hunq ?hxq ?hpq ?hxtq hS9 F8 N8 ?hmq ?hIq offi offq hiq ?heq ?turnq ?elsq
      case hmq => with_unfolding_all rfl
      case hdpq => ktr_room
      case hunq => ktr_units
      case hxq => rfl
      case hpq => rfl
      case hxtq => decide
      case hIq => exact ⟨tok, rfl, hq, rfl⟩
      case heq => walk_at "my steps"
      case elsq =>
        rintro acc u2 st2 m2 hE tkE ⟨v, _, _, e⟩ hSE FE hmE htE NE
        exact absurd e (by simp)
      case turnq =>
        rintro c1 r1' acc u2 tc2 st2 h7 tk7 ⟨v, e1, hv, e2⟩ hS7 F6 N6
        obtain ⟨ln2, u2', vs2, n2⟩ := st2
        have hla := pre_len e1 hlt
        clear F8 N8
        rcases v with _ | ⟨c2, v⟩
        · obtain ⟨rfl, rfl⟩ : c1 = 34 ∧ r1' = rest := by simpa [enc] using e2
          rw [one34] at F6
          walk_at "my steps"
          obtain rfl : acc = tok := by simpa using e1
          have hx := lx_ext EX F6 N6 fun q hq => (P q hq).1
          exact h ⟨ln2, u2', vs2, n2⟩ _ _ _ hS7 hx.1 hx.2.1 hx.2.2
        · by_cases h34 : c2 = 34
          rotate_left
          · obtain ⟨rfl, rfl⟩ : c1 = c2 ∧ r1' = enc v ++ 34 :: rest := by simpa [enc_cons, h34] using e2
            have hc4 := ok_char _ (.inr ⟨hv c1 (.head _), h34⟩)
            have hc5 := hc4.1
            have hc6 := hc4.2
            have hl2 : (one c1).length = 1 := rfl
            clear hc4
            walk_at "my steps"
            exact ⟨⟨ln2, u2', vs2, n2⟩, enc v ++ 34 :: rest, acc ++ [c1], _, _, _, _, rfl, hS7, by assumption, by assumption, fun z h1 h2 => (if_neg h2).trans ((if_neg h1).trans (if_neg h2)), by with_unfolding_all exact congrArg (fun y => some (Value.str y _)) (txt_one acc c1), Nat.lt_succ_self _, v, by simpa using e1, fun c hc => hv c (.tail _ hc), rfl⟩
          subst h34
          · obtain ⟨rfl, rfl⟩ : c1 = 92 ∧ r1' = 34 :: (enc v ++ 34 :: rest) := by simpa [enc_cons] using e2
            rw [one92] at F6
            walk_at "my steps"
            show wpAny _ _ (call (Value.ref 155) [Value.ref x2]) _ _ _
            refine readchar_u (k := ⟨x2, d2, p2, f, c, x1, d1, p1, ll, cl, t1, t2, t3, t4, u3, r1, r2, r3, r4, r5, v1, v3, ⟨fc, fd, .func fdat, fsl⟩, oc, ocl, qn⟩) (st := ⟨ln2, u2', vs2, n2⟩) (c := 34) (r := enc v ++ 34 :: rest) hk F6 N6 (offe _) X9 T9 hS7 ?hdpz ?hunz ?hz
            case hdpz => ktr_room
            case hunz => ktr_units
            case hz =>
              rintro tz stz hz tkz hSz Fz Nz
              obtain ⟨ln3, u3', vs3, n3⟩ := stz
              rw [one34]
              clear F6 N6
              walk_at "my steps"
              exact ⟨⟨ln3, u3', vs3, n3⟩, enc v ++ 34 :: rest, acc ++ [34], _, _, _, _, rfl, hSz, by assumption, by assumption, fun z h1 h2 => (if_neg h2).trans ((if_neg h1).trans ((if_neg h1).trans (if_neg h2))), by with_unfolding_all exact congrArg (fun y => some (Value.str y _)) (txt_s one34 acc), Nat.lt_succ_of_lt (Nat.lt_succ_self _), v, by simpa using e1, fun c hc => hv c (.tail _ hc), rfl⟩
  case els =>
    rintro acc u1 st' m' hE tkE ⟨rfl, hTE⟩ hSE FE hmE htE NE
    refine wpAny_execs_nil (M := model PW w) ?_
    obtain ⟨rfl, rfl⟩ := tok_end hTE
    rw [two_offB hmE, htE] at FE
    clear F9 N9
    obtain ⟨ln', u', vs', n'⟩ := st'
    dsimp only
    walk_at "my steps"
    have hx := lx_ext (ext := []) EX FE (by rw [List.append_nil]; exact NE) fun q hq => (P q hq).1
    exact h ⟨ln', u', vs', n'⟩ _ _ _ hSE hx.1 hx.2.1 hx.2.2
end
section
variable {prog : Program} {w : World} {A : Around} {E : Value → Shared → Prop} {s : Shared} {h₀ : Heap} {L : Addr} {m : Str → Option Value} {news : List (Addr × Obj)}
theorem l_slice {value slice : PySem.Expr} {l : Addr} {vs : List Value} {vl vu : Value} {lo hi : Option Int} {Q : Value → Shared → Prop} (F : Fr h₀ L s.heap m) (N : News h₀ L s.heap news) (hl : s.heap.IsList l vs.toArray) (pl : IsPart vl lo) (pu : IsPart vu hi) (hz : vs.length ≤ 1000)
    (h : ∀ D h', Fr h₀ L h' m → News h₀ L h' ((D, lob (kms_pick vs lo hi) 0) :: news) → (∀ p ∈ news, p.1 < D) → Q (.ref D) { s with heap := h' })
    (hs : subscripted slice false (.ref l) (.ref s.heap.objs.size) = operate [.ref s.heap.objs.size, .ref l] (getItem (.ref l) (.ref s.heap.objs.size)) := by with_unfolding_all rfl)
    (ht : ∀ r, letTemporaryGo value (.ref l) r = pure () := by intro _; with_unfolding_all rfl) :
    wpAny (model prog w) A (subscriptTail value slice (.ref l) (.ref s.heap.objs.size)) Q E { s with heap := s.heap.push { cls := .type "slice", data := .fields #[vl, vu, .none] } } := by
  refine slice_list F N hl pl pu (fun h' F' N' => h _ h' F' ?_ fun p hp => Nat.lt_succ_of_lt (Heap.lt_size (N p hp).1)) hs ht (by rw [List.size_toArray, sizeLine_eq]; omega)
  rw [kms_pick_eq] at N'
  exact N'
theorem l_add {l b : Addr} {vs ws : List Value} {Q : Value → Shared → Prop} (F : Fr h₀ L s.heap m) (N : News h₀ L s.heap news) (hl : s.heap.IsList l vs.toArray) (hb : s.heap.IsList b ws.toArray) (h1 : vs.length ≤ 1000) (h2 : ws.length ≤ 1000)
    (h : ∀ D h', Fr h₀ L h' m → News h₀ L h' ((D, lob (vs ++ ws) 0) :: news) → (∀ p ∈ news, p.1 < D) → Q (.ref D) { s with heap := h' }) : wpAny (model prog w) A (binaryOp .Add (.ref l) (.ref b)) Q E s :=
  add_lists F N hl hb (fun h' F' N' => h _ h' F' N' fun p hp => Heap.lt_size (N p hp).1) (by rw [sizeLine_eq]; omega)
theorem l_is {D : Addr} {vs : List Value} {n : Nat} {h : Heap} (N : News h₀ L h news) (hm : (D, lob vs n) ∈ news) : h.IsList D vs.toArray := ⟨_, (N _ hm).1, rfl, _, rfl⟩
end
theorem pick_upto (vs : List Value) (k : Nat) : kms_pick vs none (some (k : Int)) = vs.take k := by
  unfold kms_pick kms_lo kms_hi
  have : ¬ ((k : Int) < 0) := by omega
  simp only [this, if_false]
  simp
theorem pick_from (vs : List Value) (k : Nat) : kms_pick vs (some (k : Int)) none = vs.drop k := by
  unfold kms_pick kms_lo kms_hi
  have : ¬ ((k : Int) < 0) := by omega
  simp only [this, if_false, Int.toNat_natCast]
  by_cases h : k ≤ vs.length
  · rw [Nat.min_eq_left h]; exact List.take_of_length_le (by simp)
  · rw [Nat.min_eq_right (by omega), List.drop_of_length_le (Nat.le_refl _), List.drop_of_length_le (by omega)]; simp
theorem pick_last (vs : List Value) : kms_pick vs none (some (-1)) = vs.dropLast := by
  unfold kms_pick kms_lo kms_hi
  simp [List.dropLast_eq_take]
theorem pick_run (vs : List Value) (i j : Nat) (hi : i ≤ vs.length) (hj : j ≤ vs.length) : kms_pick vs (some (i : Int)) (some (j : Int)) = (vs.drop i).take (j - i) := by
  unfold kms_pick kms_lo kms_hi
  have h1 : ¬ ((i : Int) < 0) := by omega
  have h2 : ¬ ((j : Int) < 0) := by omega
  simp only [h1, h2, if_false, Int.toNat_natCast]
  rw [Nat.min_eq_left hi, Nat.min_eq_left hj]
theorem rows32 : True := by
  k_with "my islist" => (first | exact l_is (by k_asm) (by k_mem) | exact Heap.IsList.at (by assumption) (fun o e => Fr.keep (by assumption) _ o e) | is_list)
  k_with "subscriptTail Name Slice ref ref" => ((k_here; (with_reducible show wpAny _ _ (subscriptTail _ (PySem.Expr.Slice _ _ none _) (Value.ref _) (Value.ref _)) _ _ _); k_dflt (refine' l_slice (s := ⟨_, _, _, _, _⟩) (by k_asm) (by k_asm) (by walk_at "my islist") (by first | exact .none | exact .int _ _) (by first | exact .none | exact .int _ _) (by walk_at "my size") ?_); intro _ _ _ _ lq1; (try k_lt lq1); (try k_sweep)))
  k_with "subscriptTail List cons Slice ref ref" => ((k_here; (with_reducible show wpAny _ _ (subscriptTail _ (PySem.Expr.Slice _ _ none _) (Value.ref _) (Value.ref _)) _ _ _); k_dflt (refine kba_turn (value' := PySem.Expr.Name (PySem.Str.ofString "_") ⟨0, 0, 0, 0⟩) (fun _ => rfl) ?_); k_dflt (refine' l_slice (s := ⟨_, _, _, _, _⟩) (by k_asm) (by k_asm) (by walk_at "my islist") (by first | exact .none | exact .int _ _) (by first | exact .none | exact .int _ _) (by walk_at "my size") ?_); intro _ _ _ _ lq1; (try k_lt lq1); (try k_sweep)))
  k_with "subscriptTail Subscript Slice ref ref" => ((k_here; (with_reducible show wpAny _ _ (subscriptTail _ (PySem.Expr.Slice _ _ none _) (Value.ref _) (Value.ref _)) _ _ _); k_dflt (refine kba_turn (value' := PySem.Expr.Name (PySem.Str.ofString "_") ⟨0, 0, 0, 0⟩) (fun _ => rfl) ?_); k_dflt (refine' l_slice (s := ⟨_, _, _, _, _⟩) (by k_asm) (by k_asm) (by walk_at "my islist") (by first | exact .none | exact .int _ _) (by first | exact .none | exact .int _ _) (by walk_at "my size") ?_); intro _ _ _ _ lq1; (try k_lt lq1); (try k_sweep)))
  k_with "binaryOp Add ref ref" => ((k_here; k_dflt (refine' l_add (by k_asm) (by k_asm) (by walk_at "my islist") (by walk_at "my islist") (by walk_at "my size") (by walk_at "my size") ?_); intro _ _ _ _ lq1; (try k_lt lq1); (try k_sweep)))
  trivial
open PyProof.Rows.LCg (NsObj ns_obj)
section
variable {prog : Program} {w : World} {A : Around} {E : Value → Shared → Prop} {s : Shared} {h₀ : Heap} {L : Addr} {m : Str → Option Value} {env : Env}
/-- what the turn of a plain list comprehension owes: its element's value, the ledger as it was -/
noncomputable def EltOK (h₀ : Heap) (L : Addr) (m : Str → Option Value) (s : Shared) (led : List (Addr × Obj)) (R : Value → Prop) (y : Value) (s₂ : Shared) : Prop :=
  ∃ h' tk', s₂ = { s with heap := h', toks := tk' } ∧ Fr h₀ L h' m ∧ News h₀ L h' led ∧ R y
theorem EltOK.intro {R : Value → Prop} {led news' : List (Addr × Obj)} {h' : Heap} {tk' : Nat} {y : Value} (F : Fr h₀ L h' m) (N : News h₀ L h' news') (hn : ∀ p ∈ led, p ∈ news') (hR : R y) : EltOK h₀ L m s led R y { s with heap := h', toks := tk' } :=
  ⟨h', tk', rfl, F, fun p hp => N p (hn p hp), hR⟩
/-- the source of a list comprehension, the turn and the end -/
noncomputable def CompSrc (prog : Program) (w : World) (A : Around) (E : Value → Shared → Prop) (h₀ : Heap) (L : Addr) (m : Str → Option Value) (env : Env) (elt : PySem.Expr) (x : Str) (scope : Scope) (cl : List (Str × Addr)) (s : Shared) (Q : Value → Shared → Prop) (v₀ : Value) (s₀ : Shared) : Prop :=
  ∃ (Dt : Addr) (vs : List Value) (nn : Nat) (news : List (Addr × Obj)) (h : Heap) (tk : Nat) (R : Nat → List Value → Prop), v₀ = .ref Dt ∧ s₀ = { s with heap := h, toks := tk } ∧ Fr h₀ L h m ∧ News h₀ L h news ∧ (Dt, lob vs nn) ∈ news ∧ vs.length ≤ 1000 ∧ R 0 [] ∧
    (∀ I C D i v oI oC m₂ ys h tk, vs[i]? = some v → R i ys → ys.length = i → NsObj oC m₂ → m₂ x = some v → (∀ p ∈ news, p.1 ≠ I ∧ p.1 ≠ C ∧ p.1 ≠ D) → ((@Ne Nat I C) ∧ (@Ne Nat I D) ∧ (@Ne Nat C D)) → Fr h₀ L h m → News h₀ L h ((I, oI) :: (C, oC) :: (D, lob ys ys.length) :: news) →
      wpAny (model prog w) A (eval elt (compEnvC scope cl C env)) (EltOK h₀ L m s ((I, oI) :: (C, oC) :: (D, lob ys ys.length) :: news) fun y => R (i + 1) (ys ++ [y])) (fun _ _ => False) { s with heap := h, toks := tk }) ∧
    ∀ D ys h tk, R vs.length ys → ys.length = vs.length → Fr h₀ L h m → News h₀ L h ((D, lob ys ys.length) :: news) → (∀ p ∈ news, p.1 ≠ D) → Q (.ref D) { s with heap := h, toks := tk }
theorem comp_list {elt iter : PySem.Expr} {x : Str} {px pos : Pos} {scope : Scope} {cl : List (Str × Addr)} {Q : Value → Shared → Prop}
    (_F : Fr h₀ L s.heap m) (hclos : closureFor scope env = pure cl) (hcell : ∀ y ∈ scope.names, y.2 ≠ .cell) (hkind : scope.kind = .function)
    (hnames : ∀ y ∈ scope.names, y.2 = .local → scope.names.lookup y.1 = some .local) (hx : scope.names.lookup x = some .local)
    (hs : ∀ v, foldedSetIterable iter env v = pure v) (hh : A.handled = none)
    (hit : wpAny (model prog w) A (eval iter env) (CompSrc prog w A E h₀ L m env elt x scope cl s Q) E s) :
    wpAny (model prog w) A (eval (.ListComp elt [⟨.Name x px, iter, [], 0⟩] scope pos) env) Q E s := by
  rw [arm_eval_ListComp]
  refine comp_eval (σ := List Value) (m := m) (L := L) (h₀ := h₀) (kind_list elt (.Name x px) iter scope pos) (o₀ := lob [] 0) rfl (fun Q s hq => wpAny_newObj_type hq) rfl hclos hcell hkind hnames (wpAny_mono hit (fun v₀ s₀ src => ?_) fun _ _ e => e) hs
  obtain ⟨Dt, vs, nn, news, h, tk, R, rfl, rfl, F, N, hmem, hsz, hR, turn, fin⟩ := src
  refine src_list (prog := prog) (w := w) (E := E) (env := env) (scope := scope) (cl := cl) (o₀ := lob [] 0) (body := fun acc env => eval elt env >>= fun x => call (.builtin "list.append") [acc, x] >>= fun _ => pure ()) (tgt := .Name x px) (s := { s with heap := h, toks := tk }) (m' := fun D => m) (QQ := fun D s' => Q (.ref D) s') (fun ys => lob ys ys.length) (fun _ => news) (fun i ys => R i ys ∧ ys.length = i) [] rfl hh (fun _ _ => rfl) (fun _ => hmem) F N ⟨hR, rfl⟩ ?_ ?_
  · intro I C D ys i v oI oC m₂ h tk hv hJ hoC off hne F1 N1
    have hi : i < vs.length := (List.getElem?_eq_some_iff.mp hv).1
    refine comp_let hoC F1 N1 (fun p hp => ?_) hne.1 hx hkind fun oC' h' tk' hoC' F' N' => ?_
    · rcases List.mem_cons.mp hp with rfl | hp
      · exact fun e => hne.2.2 e.symm
      · exact (off p hp).2.1
    · refine wpAny_bind (wpAny_mono (turn I C D i v oI oC' _ ys h' tk' hv hJ.1 hJ.2 hoC' (if_pos rfl) off hne F' N') (fun y s₂ q => ?_) fun _ _ e => e)
      obtain ⟨h2, tk2, rfl, F2, N2, hR2⟩ := q
      refine wpAny_bind (c_append ((I, oI) :: (C, oC') :: news) F2 N2 (.tail _ (.tail _ (.head _))) (fun p hp => ?_) (by have := hJ.2; omega) fun h3 F3 N3 => wpAny_pure ?_)
      · rcases List.mem_cons.mp hp with rfl | hp
        · exact ⟨.head _, hne.2.1⟩
        rcases List.mem_cons.mp hp with rfl | hp
        · exact ⟨.tail _ (.head _), hne.2.2⟩
        · exact ⟨.tail _ (.tail _ (.tail _ hp)), (off p hp).2.2⟩
      · refine CTurn.intro (ys ++ [y]) F3 N3 hoC' (fun p hp => ?_) ⟨⟨hR2, by simp [hJ.2]⟩, off⟩
        rcases List.mem_cons.mp hp with rfl | hp
        · exact .tail _ (.head _)
        rcases List.mem_cons.mp hp with rfl | hp
        · exact .tail _ (.tail _ (.head _))
        rcases List.mem_cons.mp hp with rfl | hp
        · simp
        · exact .tail _ (.tail _ (.tail _ hp))
  · intro D ys h tk hJ F1 N1 off
    exact fin D ys h tk hJ.1 hJ.2 F1 N1 off
end
theorem ints_mem : ∀ {vs : List Value} {ns : List Int}, IntsAre vs ns → ∀ v ∈ vs, ∃ k t, v = Value.int k t
  | _, _, .nil, _, h => nomatch h
  | _, _, .cons k t h, v, hv => by
    rcases List.mem_cons.mp hv with rfl | hv
    · exact ⟨k, t, rfl⟩
    · exact ints_mem h v hv
theorem ints_pick {vs : List Value} {ns : List Int} (h : IntsAre vs ns) {lo hi : Option Int} {i : Nat} {v : Value} (hv : (kms_pick vs lo hi)[i]? = some v) : ∃ k t, v = Value.int k t :=
  ints_mem h v (List.mem_of_mem_drop (List.mem_of_mem_take (List.mem_of_getElem? hv)))
theorem lit_drop (n : Nat) (a b c d e f : Tok) : ∃ zs ks, IntsAre zs ks ∧ zs.length = 6 - n ∧ List.drop n [Value.int 0 a, Value.int 1 b, Value.int 3 c, Value.int 2 d, Value.int 0 e, Value.int 3 f] = zs :=
  ⟨_, _, (IntsAre.cons 0 a (.cons 1 b (.cons 3 c (.cons 2 d (.cons 0 e (.cons 3 f .nil)))))).drop n, by simp, rfl⟩
open PyProof.Rows.LCg (NsObj ns_obj)
section
variable {prog : Program} {w : World} {A : Around}
theorem kind_dict (kx vx tgt iter : PySem.Expr) (scope : Scope) (pos : Pos) :
    CompKind prog w A (.DictComp kx vx [⟨tgt, iter, [], 0⟩] scope pos) tgt (fun acc env => eval kx env >>= fun kv => holding [kv] (eval vx env) >>= fun vv => match acc with
      | .ref d => standAt { kx.pos with endLine := vx.pos.endLine, endCol := vx.pos.endCol } >>= fun _ => holding [kv, vv] (dictSet d kv vv)
      | _ => unsupported "internal:dictcomp") iter.pos where
  den := fun _ _ _ => rfl
  und := fun _ _ _ => rfl
  qt := fun _ _ _ => rfl
  turn := fun _ _ _ => rfl
  start := fun it acc env R s h0 h => codeAny_compStart_dict h0 (wpAny_mono h (fun _ _ q => q) fun _ _ q => q.elim)
end
section
variable {prog : Program} {w : World} {A : Around} {E : Value → Shared → Prop} {s : Shared} {h₀ : Heap} {L : Addr} {m : Str → Option Value} {env : Env}
/-- the dict that a comprehension makes holds a key more -/
theorem d_set {Q : Unit → Shared → Prop} {D : Addr} {oD : Obj} {kvs : List (Str × Value)} {k : Str} {t : Tok} {v : Value} {news : List (Addr × Obj)} (rest : List (Addr × Obj)) (F : Fr h₀ L s.heap m) (N : News h₀ L s.heap news) (hD : (D, oD) ∈ news) (hd : oD.IsDictOf (strKind prog w) kvs) (hk : kvs.length ≤ 1000) (hr : ∀ p ∈ rest, p ∈ news ∧ p.1 ≠ D)
    (h : ∀ oD' h' tk', oD'.IsDictOf (strKind prog w) (stored kvs k v) → Fr h₀ L h' m → News h₀ L h' ((D, oD') :: rest) → Q () { s with heap := h', toks := tk' }) : wpAny (model prog w) A (dictSet D (.str k t) v) Q E s := by
  obtain ⟨zD, nD, z0⟩ := N _ hD
  refine wpAny_dictSet_pairs (hsz := by rw [sizeLine_eq]; omega) (strKind_is prog w k t) (Heap.dictOf_iff.mpr ⟨oD, zD, hd⟩) fun h' hd' hs' => ?_
  obtain ⟨oD', zD', hdo⟩ := Heap.dictOf_iff.mp hd'
  refine h oD' h' _ hdo (F.change hs' nD z0) fun p hp => ?_
  rcases List.mem_cons.mp hp with rfl | hp
  · exact ⟨zD', nD, z0⟩
  · exact ⟨hs'.extBut _ _ (hr p hp).2 (N p (hr p hp).1).1, (N p (hr p hp).1).2⟩
end
theorem news_cut {h₀ h : Heap} {L : Addr} {a : Addr × Obj} (b r : List (Addr × Obj)) (N : News h₀ L h (a :: (b ++ r))) : News h₀ L h (a :: r) := fun p hp => N p (by
  rcases List.mem_cons.mp hp with rfl | hp
  · exact .head _
  · exact .tail _ (List.mem_append_right _ hp))
theorem news_drop4 {h₀ h : Heap} {L : Addr} {a b c d e : Addr × Obj} {r : List (Addr × Obj)} (N : News h₀ L h (a :: b :: c :: d :: e :: r)) : News h₀ L h (a :: r) := news_cut [b, c, d, e] r N
theorem ints_six {vs : List Value} {ns : List Int} (h : IntsAre vs ns) (h6 : vs.length = 6) : ∃ a0 a1 a2 a3 a4 a5 t0 t1 t2 t3 t4 t5, vs = [Value.int a0 t0, Value.int a1 t1, Value.int a2 t2, Value.int a3 t3, Value.int a4 t4, Value.int a5 t5] := by
  cases h with
  | nil => cases h6
  | cons a0 t0 h =>
    cases h with
    | nil => cases h6
    | cons a1 t1 h =>
      cases h with
      | nil => cases h6
      | cons a2 t2 h =>
        cases h with
        | nil => cases h6
        | cons a3 t3 h =>
          cases h with
          | nil => cases h6
          | cons a4 t4 h =>
            cases h with
            | nil => cases h6
            | cons a5 t5 h =>
              cases h with
              | nil => exact ⟨_, _, _, _, _, _, _, _, _, _, _, _, rfl⟩
              | cons a6 t6 h => simp at h6
noncomputable def okMode (z : Int) : Prop := ∃ a b : Int, 0 ≤ a ∧ a < 8 ∧ 0 ≤ b ∧ b < 2 ∧ z = 16895 - a + b * 512
noncomputable def NM : List Str := [Str.ofString "ab", Str.ofString "a b", Str.ofString "c\"d"]
noncomputable def ModesAre (i : Nat) (kvs : List (Str × Value)) : Prop := ∃ vs : List Value, vs.length = i ∧ (∀ v ∈ vs, ∃ z t, v = Value.int z t ∧ okMode z) ∧ kvs = (NM.take i).zip vs
theorem modes_step {i : Nat} {kvs : List (Str × Value)} {k : Str} {z : Int} {t : Tok} (h : ModesAre i kvs) (hk : NM[i]? = some k) (hz : okMode z) : ModesAre (i + 1) (stored kvs k (.int z t)) := by
  obtain ⟨vs, hl, hv, rfl⟩ := h
  have hi : i < 3 := (List.getElem?_eq_some_iff.mp hk).1
  refine ⟨vs ++ [.int z t], by simp [hl], fun v hm => ?_, ?_⟩
  · rcases List.mem_append.mp hm with hm | hm
    · exact hv v hm
    · exact ⟨z, t, List.mem_singleton.mp hm, hz⟩
  · have key : (NM.take (i + 1)).zip (vs ++ [Value.int z t]) = (NM.take i).zip vs ++ [(k, .int z t)] := by
      rw [List.take_add_one, hk]
      exact List.zip_append (by simp [hl, NM]; omega)
    rw [key]
    unfold stored
    rw [if_neg]
    intro hany
    obtain ⟨⟨k', v'⟩, hm, he⟩ := List.any_eq_true.mp hany
    have hk' : k' = k := by simpa using he
    subst hk'
    have hm1 : k' ∈ NM.take i := (List.of_mem_zip hm).1
    match i, hk with
    | 0, _ => simp at hm1
    | 1, hk => cases hk; revert hm1; decide +kernel
    | 2, hk => cases hk; revert hm1; decide +kernel
    | (n + 3), _ => omega
theorem ok_mode (a : Int) : okMode (16895 - (a.fdiv 6).fmod 8 + (a.fdiv 48).fmod 2 * 512) :=
  ⟨(a.fdiv 6).fmod 8, (a.fdiv 48).fmod 2, Int.fmod_nonneg_of_pos _ (by decide), Int.fmod_lt_of_pos _ (by decide), Int.fmod_nonneg_of_pos _ (by decide), Int.fmod_lt_of_pos _ (by decide), rfl⟩
open PyProof.Rows.LCg (NsObj ns_obj)
section
variable {prog : Program} {w : World} {A : Around} {E : Value → Shared → Prop} {s : Shared} {h₀ : Heap} {L : Addr} {m : Str → Option Value} {env : Env}
/-- the same where the list is stored at once -/
noncomputable def CompSrcA (prog : Program) (w : World) (A : Around) (E : Value → Shared → Prop) (h₀ : Heap) (L : Addr) (m : Str → Option Value) (env : Env) (elt : PySem.Expr) (x y : Str) (scope : Scope) (cl : List (Str × Addr)) (s : Shared) (Q : Flow → Shared → Prop) (v₀ : Value) (s₀ : Shared) : Prop :=
  ∃ (Dt : Addr) (vs : List Value) (nn : Nat) (news : List (Addr × Obj)) (h : Heap) (tk : Nat) (R : Nat → List Value → Prop), v₀ = .ref Dt ∧ s₀ = { s with heap := h, toks := tk } ∧ Fr h₀ L h m ∧ News h₀ L h news ∧ (Dt, lob vs nn) ∈ news ∧ vs.length ≤ 1000 ∧ R 0 [] ∧
    (∀ I C D i v oI oC m₂ ys h tk, vs[i]? = some v → R i ys → ys.length = i → NsObj oC m₂ → m₂ x = some v → (∀ p ∈ news, p.1 ≠ I ∧ p.1 ≠ C ∧ p.1 ≠ D) → ((@Ne Nat I C) ∧ (@Ne Nat I D) ∧ (@Ne Nat C D)) → Fr h₀ L h m → News h₀ L h ((I, oI) :: (C, oC) :: (D, lob ys ys.length) :: news) →
      wpAny (model prog w) A (eval elt (compEnvC scope cl C env)) (EltOK h₀ L m s ((I, oI) :: (C, oC) :: (D, lob ys ys.length) :: news) fun y => R (i + 1) (ys ++ [y])) (fun _ _ => False) { s with heap := h, toks := tk }) ∧
    ∀ D ys h tk, R vs.length ys → ys.length = vs.length → Fr h₀ L h (fun z => if z = y then some (.ref D) else m z) → News h₀ L h ((D, lob ys ys.length) :: news) → (∀ p ∈ news, p.1 ≠ D) → Q .next { s with heap := h, toks := tk }
theorem comp_listA {elt iter : PySem.Expr} {x y : Str} {px py pos spos : Pos} {scope : Scope} {cl : List (Str × Addr)} {Q : Flow → Shared → Prop}
    (_F : Fr h₀ L s.heap m) (hLe : env.locals = L) (hsw : swapsWith (.ListComp elt [⟨.Name x px, iter, [], 0⟩] scope pos) (some (.Name y py)) spos.line env = pure true) (hy : env.kindOf y = some .local) (hp : (env.scope.kind == .class || (env.scope.kind == .module && env.locals != env.globals)) = false) (hclos : closureFor scope env = pure cl) (hcell : ∀ y ∈ scope.names, y.2 ≠ .cell) (hkind : scope.kind = .function)
    (hnames : ∀ y ∈ scope.names, y.2 = .local → scope.names.lookup y.1 = some .local) (hx : scope.names.lookup x = some .local)
    (hs : ∀ v, foldedSetIterable iter env v = pure v) (hh : A.handled = none)
    (hit : wpAny (model prog w) A (eval iter env) (CompSrcA prog w A E h₀ L m env elt x y scope cl s Q) E s) :
    wpAny (model prog w) A (exec (.Assign [.Name y py] (.ListComp elt [⟨.Name x px, iter, [], 0⟩] scope pos) spos) env) Q E s := by
  refine comp_assign (σ := List Value) (m := m) (h₀ := h₀) (kind_list elt (.Name x px) iter scope pos) (o₀ := lob [] 0) rfl (fun Q s hq => wpAny_newObj_type hq) hLe rfl hsw hy hp rfl hclos hcell hkind hnames (wpAny_mono hit (fun v₀ s₀ src => ?_) fun _ _ e => e) hs
  obtain ⟨Dt, vs, nn, news, h, tk, R, rfl, rfl, F, N, hmem, hsz, hR, turn, fin⟩ := src
  refine src_list (prog := prog) (w := w) (E := E) (env := env) (scope := scope) (cl := cl) (o₀ := lob [] 0) (body := fun acc env => eval elt env >>= fun x => call (.builtin "list.append") [acc, x] >>= fun _ => pure ()) (tgt := .Name x px) (s := { s with heap := h, toks := tk }) (m' := fun D => (fun z => if z = y then some (.ref D) else m z)) (QQ := fun D s' => Q .next s') (fun ys => lob ys ys.length) (fun _ => news) (fun i ys => R i ys ∧ ys.length = i) [] rfl hh (fun _ _ => rfl) (fun _ => hmem) F N ⟨hR, rfl⟩ ?_ ?_
  · intro I C D ys i v oI oC m₂ h tk hv hJ hoC off hne F1 N1
    have hi : i < vs.length := (List.getElem?_eq_some_iff.mp hv).1
    refine comp_let hoC F1 N1 (fun p hp => ?_) hne.1 hx hkind fun oC' h' tk' hoC' F' N' => ?_
    · rcases List.mem_cons.mp hp with rfl | hp
      · exact fun e => hne.2.2 e.symm
      · exact (off p hp).2.1
    · refine wpAny_bind (wpAny_mono (turn I C D i v oI oC' _ ys h' tk' hv hJ.1 hJ.2 hoC' (if_pos rfl) off hne F' N') (fun y s₂ q => ?_) fun _ _ e => e)
      obtain ⟨h2, tk2, rfl, F2, N2, hR2⟩ := q
      refine wpAny_bind (c_append ((I, oI) :: (C, oC') :: news) F2 N2 (.tail _ (.tail _ (.head _))) (fun p hp => ?_) (by have := hJ.2; omega) fun h3 F3 N3 => wpAny_pure ?_)
      · rcases List.mem_cons.mp hp with rfl | hp
        · exact ⟨.head _, hne.2.1⟩
        rcases List.mem_cons.mp hp with rfl | hp
        · exact ⟨.tail _ (.head _), hne.2.2⟩
        · exact ⟨.tail _ (.tail _ (.tail _ hp)), (off p hp).2.2⟩
      · refine CTurn.intro (ys ++ [y]) F3 N3 hoC' (fun p hp => ?_) ⟨⟨hR2, by simp [hJ.2]⟩, off⟩
        rcases List.mem_cons.mp hp with rfl | hp
        · exact .tail _ (.head _)
        rcases List.mem_cons.mp hp with rfl | hp
        · exact .tail _ (.tail _ (.head _))
        rcases List.mem_cons.mp hp with rfl | hp
        · simp
        · exact .tail _ (.tail _ (.tail _ hp))
  · intro D ys h tk hJ F1 N1 off
    exact fin D ys h tk hJ.1 hJ.2 F1 N1 off
theorem l_any {D : Addr} {vs : List Value} {Q : Value → Shared → Prop} {value slice : PySem.Expr} {z : Int} {u : Tok} (hl : s.heap.IsList D vs.toArray) (h0 : 0 ≤ z) (h1 : z < vs.length) (hsz : vs.length ≤ 1000) (h : ∀ v, vs[z.toNat]? = some v → Q v s)
    (hs : subscripted slice false (.ref D) (.int z u) = operate [.ref D, .int z u] (getItem (.ref D) (.int z u)) := by with_unfolding_all rfl) (ht : ∀ r, letTemporaryGo value (.ref D) r = pure () := by intro _; with_unfolding_all rfl) :
    wpAny (model prog w) A (subscriptTail value slice (.ref D) (.int z u)) Q E s := by
  obtain ⟨k, rfl⟩ := Int.eq_ofNat_of_zero_le h0
  have hk : k < vs.length := by omega
  have hv : vs[k]? = some vs[k] := List.getElem?_eq_getElem hk
  exact tail_any hl.typeIs slot_list_getitem.lookup (wpAny_getItem_list (x := vs[k]) hl (Int.natCast_nonneg k) (by omega) (by simp) (h vs[k] (by rw [Int.toNat_natCast]; exact hv))) hs
end
section
variable {w : World} {p : Program} {loose : List Str} {mean : ExcName → Option Value} {mg mb : Str → Option Value} {dp un : Nat} {fr : Option (List Env)} {gd : Option (List Code)} {h₀ : Heap} {s : Shared} {Q E : Value → Shared → Prop} {L : Addr} {m : Str → Option Value} {news : List (Addr × Obj)} {g : Obj → List (Addr × Obj)}
theorem lexer_u (x : Str) (t : Tok) (F : Fr h₀ L s.heap m) (N : News h₀ L s.heap news) (U : UpdF 225 (tabObj #[]) news g) (X : (hd.heap_39 w.params).In h₀) (T : Top p loose mean mg mb h₀) (hdp : dp + 16 < recursionLimit) (hun : un + 60 < cLine) (hx : x.cps.size ≤ 1000)
    (h : ∀ k u vs n (o : Array Value) h' tk', LxOK w k → StrsAre vs (x.cps.toList.map one) → Fr h₀ L h' m → News h₀ L h' (lxLed w.params k 1 u vs n ++ g (tabObj o)) → (∀ q ∈ lxLed w.params k 1 u vs n, ∀ p ∈ news, p.1 ≠ q.1) → Q (.ref k.x2) { s with heap := h', toks := tk' }) : wpAny (model PW w) (AR dp fr gd un) (call (.ref 230) [.str x t]) Q E s := by
  obtain ⟨own, rest, rfl, hgr, h1, h2⟩ := U.split
  have hm := N (225, tabObj #[]) (List.mem_append_right _ (.head _))
  refine lexer_c x t X T F.keep hdp hun hx hm.1 hm.2.2 fun k u vs n o h' tk' hk hS ex hnone hget h225 => ?_
  have fr : Fr h₀ L h' m := ex.fr F (fun q => hm.2.1 (List.mem_singleton.mp q).symm) fun b hb => by rw [List.mem_singleton.mp hb]; exact hm.2.2
  refine h k u vs n o h' tk' hk hS fr (fun q hq => ?_) fun q hq p hp e => by have := hnone q hq; rw [← e, (N p hp).1] at this; cases this
  rcases List.mem_append.mp hq with hq | hq
  · refine ⟨hget q hq, fun e => ?_, ?_⟩
    · obtain ⟨o, es, ep, e2, _⟩ := F.ns
      have := hnone q hq
      rw [e, e2] at this; cases this
    · cases e : h₀.get? q.1 with
      | none => rfl
      | some o => have := hnone q hq; rw [F.keep _ _ e] at this; cases this
  · rw [hgr] at hq
    rcases List.mem_append.mp hq with hq | hq
    · have := N q (List.mem_append_left _ hq)
      exact ⟨ex _ _ this.1 fun hm => h1 q hq (List.mem_singleton.mp hm), this.2⟩
    rcases List.mem_cons.mp hq with rfl | hq
    · exact ⟨h225, hm.2⟩
    · have := N q (List.mem_append_right _ (.tail _ hq))
      exact ⟨ex _ _ this.1 fun hm => h2 q hq (List.mem_singleton.mp hm), this.2⟩
end
open PyProof.Rows.LCg (NsObj ns_obj)
section
variable {prog : Program} {w : World} {A : Around} {E : Value → Shared → Prop} {s : Shared} {h₀ : Heap} {L : Addr} {m : Str → Option Value} {env : Env}
noncomputable def ItemTurn (prog : Program) (w : World) (A : Around) (h₀ : Heap) (L : Addr) (m : Str → Option Value) (env : Env) (kx vx : PySem.Expr) (xk xv : Str) (scope : Scope) (cl : List (Str × Addr)) (s : Shared) (kvs : List (Str × Value)) (news : List (Addr × Obj)) (R : Nat → List (Str × Value) → Prop) : Prop :=
  ∀ I C D i k v key oI oC oD m₂ kvs' h tk, kvs[i]? = some (k, v) → (strKind prog w).is k key = true → R i kvs' → oD.IsDictOf (strKind prog w) kvs' → NsObj oC m₂ → m₂ xk = some key → m₂ xv = some v → (∀ p ∈ news, p.1 ≠ I ∧ p.1 ≠ C ∧ p.1 ≠ D) → ((@Ne Nat I C) ∧ (@Ne Nat I D) ∧ (@Ne Nat C D)) → Fr h₀ L h m → News h₀ L h ((I, oI) :: (C, oC) :: (D, oD) :: news) →
      wpAny (model prog w) A (eval kx (compEnvC scope cl C env)) (fun kv s₂ => ∃ kk kt, kv = Value.str kk kt ∧ wpAny (model prog w) A (eval vx (compEnvC scope cl C env)) (EltOK h₀ L m s ((I, oI) :: (C, oC) :: (D, oD) :: news) fun y => R (i + 1) (stored kvs' kk y)) (fun _ _ => False) s₂) (fun _ _ => False) { s with heap := h, toks := tk }
theorem items_loop {kx vx iter : PySem.Expr} {xk xv : Str} {pk pv pt pos : Pos} {x1 : Nat} {scope : Scope} {cl : List (Str × Addr)} {I C D d : Addr} {kvs : List (Str × Value)} {ep : Nat} {oM oD₀ : Obj} {news : List (Addr × Obj)} {m₀ : Str → Option Value} {RR : Result → Shared → Prop} (R : Nat → List (Str × Value) → Prop) (hh : A.handled = none) (hkind : scope.kind = .function)
    (hxk : scope.names.lookup xk = some .local) (hxv : scope.names.lookup xv = some .local) (hkv : xk ≠ xv) (hit : IsItemIter s.heap I d 0 kvs.length ep .none .none) (hd : (d, oM) ∈ news) (hat : ∀ h : Heap, h.get? d = some oM → h.DictAt (strKind prog w) d kvs ep) (hn : kvs.length ≤ 100)
    (F : Fr h₀ L s.heap m) (hC : s.heap.Ns C m₀) (N : News h₀ L s.heap ((D, oD₀) :: news)) (hCL : C ≠ L) (hC0 : h₀.get? C = none) (hIL : I ≠ L) (hI0 : h₀.get? I = none) (off : ∀ p ∈ news, p.1 ≠ I ∧ p.1 ≠ C ∧ p.1 ≠ D) (hne : (@Ne Nat I C) ∧ (@Ne Nat I D) ∧ (@Ne Nat C D)) (h0 : oD₀.IsDictOf (strKind prog w) []) (hR : R 0 [])
    (turn : ItemTurn prog w A h₀ L m env kx vx xk xv scope cl s kvs news R)
    (done : ∀ oC oD m₂ kvs' h tk, R kvs.length kvs' → oD.IsDictOf (strKind prog w) kvs' → NsObj oC m₂ → Fr h₀ L h m → News h₀ L h ((C, oC) :: (D, oD) :: news) → RR (.ok .next) { s with heap := h, toks := tk }) :
    codeAny (model prog w) A (.compLoop (.DictComp kx vx [⟨.Tuple [.Name xk pk, .Name xv pv] x1 pt, iter, [], 0⟩] scope pos) 0 (.ref I) (.ref D) (compEnvC scope cl C env)) RR s := by
  have KD := kind_dict (prog := prog) (w := w) (A := A) kx vx (.Tuple [.Name xk pk, .Name xv pv] x1 pt) iter scope pos
  refine codeAny_loop (KD.qt _ _ _)
    (fun j s' => ∃ h' tk i ok ov oD kvs' m', s' = { s with heap := h', toks := tk } ∧ i ≤ kvs.length ∧ j = kvs.length + 1 - i ∧ IsItemIter h' I d i kvs.length ep ok ov ∧ Fr h₀ L h' m ∧ h'.Ns C m' ∧ News h₀ L h' ((D, oD) :: news) ∧ oD.IsDictOf (strKind prog w) kvs' ∧ R i kvs' ∧ kvs'.length ≤ i) ?_ (kvs.length + 1)
    ⟨s.heap, s.toks, 0, .none, .none, oD₀, [], m₀, rfl, Nat.zero_le _, rfl, hit, F, hC, N, h0, hR, Nat.le_refl _⟩
  rintro j s' ⟨h', tk, i, ok, ov, oD, kvs', m', rfl, hi, rfl, hit', F', hn', N', hd', hR', hl'⟩
  have hdN := N' _ (.tail _ hd)
  have hm' := hat h' hdN.1
  have hdI : d ≠ I := (off _ hd).1
  rw [KD.und, KD.den]
  refine wpAny_onRaise (wpAny_mono (E := fun _ _ => False) ?_ (fun _ _ q => q) fun _ _ e => e.elim)
  rw [KD.turn]
  refine wpAny_bind (wpAny_standAt (wpAny_bind ?_))
  have oldNe : ∀ b o, h₀.get? b = some o → b ≠ I := fun b o e q => by rw [q, hI0] at e; cases e
  cases hv : kvs[i]? with
  | none =>
    have hsz : i = kvs.length := Nat.le_antisymm hi (by simpa using hv)
    subst hsz
    refine wpAny_pyNext_items_end hh hit' hm' hv fun h₁ he₁ => wpAny_pure ?_
    obtain ⟨oC, heC, hoC⟩ := ns_obj (hn'.extBut he₁ (Ne.symm hne.1))
    refine done oC oD _ kvs' h₁ tk hR' hd' hoC ⟨F'.ns.extBut he₁ (Ne.symm hIL), fun b o e => he₁ b o (oldNe b o e) (F'.keep b o e), F'.above⟩ fun p hp => ?_
    rcases List.mem_cons.mp hp with rfl | hp
    · exact ⟨heC, hCL, hC0⟩
    · have hpI : p.1 ≠ I := by
        rcases List.mem_cons.mp hp with rfl | hp
        · exact Ne.symm hne.2.1
        · exact (off p hp).1
      exact ⟨he₁ _ _ hpI (N' p hp).1, (N' p hp).2⟩
  | some kv =>
    obtain ⟨k, v⟩ := kv
    have hlt : i < kvs.length := (List.getElem?_eq_some_iff.mp hv).1
    have hiH : I < h'.objs.size := Heap.lt_size hit'
    have hCH : C < h'.objs.size := hn'.lt
    refine wpAny_pyNext_items_item hit' hm' hv fun key h₁ hkey heo ht₁ hz₁ hk₁ => ?_
    refine wpAny_bind (wpAny_letOwnedTupleGo_items heo fun h₂ he₂ hs₂ => ?_)
    replace hs₂ : Heap.SameBut I h₁ h₂ := hs₂
    have ht₂ : h₂.IsTuple h'.objs.size #[key, v] := ⟨_, (hs₂.2 _ (Nat.ne_of_gt hiH)).trans ht₁, rfl, _, rfl⟩
    have hz₂ : h₂.objs.size = h'.objs.size + 1 := hs₂.1.trans hz₁
    refine wpAny_bind (wpAny_assign_Tuple hh ht₂ rfl rfl fun h₃ hx₃ => ?_)
    replace hx₃ : Heap.ExtBut h₂.objs.size h₂ h₃ := hx₃
    have old₃ : ∀ b o, b < h'.objs.size → h₂.get? b = some o → h₃.get? b = some o := fun b o hb x => hx₃ b o (by rw [hz₂]; exact Nat.ne_of_lt (Nat.lt_succ_of_lt hb)) x
    have up₃ : ∀ b o, b ≠ I → h'.get? b = some o → h₃.get? b = some o := fun b o hb x => old₃ b o (Heap.lt_size x) (hs₂.extBut b o hb (hk₁ b o hb x))
    have hI₃ : h₃.get? I = some _ := old₃ _ _ hiH he₂
    have F₃ : Fr h₀ L h₃ m := ⟨F'.ns.at' fun o x => up₃ _ o (Ne.symm hIL) x, fun b o e => up₃ b o (oldNe b o e) (F'.keep b o e), F'.above⟩
    have n₃ : h₃.Ns C m' := hn'.at' fun o x => up₃ _ o (Ne.symm hne.1) x
    have N₃ : News h₀ L h₃ ((D, oD) :: news) := fun p hp => by
      have hpI : p.1 ≠ I := by
        rcases List.mem_cons.mp hp with rfl | hp
        · exact Ne.symm hne.2.1
        · exact (off p hp).1
      exact ⟨up₃ _ _ hpI (N' p hp).1, (N' p hp).2⟩
    show wpAny _ _ (do holding [v] (assign (.Name xk pk) (compEnvC scope cl C env) key); do holding [] (assign (.Name xv pv) (compEnvC scope cl C env) v); pure ()) _ _ _
    refine wpAny_bind (wpAny_holding (wpAny_assign_Name (wpAny_storeName_local (lookup_relabel_local hxk) n₃ (fun h₄ hn₄ hs₄ => ?_) (by simp [compEnvC, relabel, hkind]))))
    replace hs₄ : Heap.SameBut C h₃ h₄ := hs₄
    refine wpAny_bind (wpAny_holding (wpAny_assign_Name (wpAny_storeName_local (lookup_relabel_local hxv) hn₄ (fun h₅ hn₅ hs₅ => wpAny_pure ?_) (by simp [compEnvC, relabel, hkind]))))
    replace hs₅ : Heap.SameBut C h₄ h₅ := hs₅
    obtain ⟨oC, heC, hoC⟩ := ns_obj hn₅
    have hs : Heap.ExtBut C h₃ h₅ := hs₄.extBut.trans hs₅.extBut
    have F₅ : Fr h₀ L h₅ m := ⟨F₃.ns.extBut hs (Ne.symm hCL), fun b o e => hs b o (fun q => by rw [q, hC0] at e; cases e) (F₃.keep b o e), F₃.above⟩
    have N₅ : News h₀ L h₅ ((I, _) :: (C, oC) :: (D, oD) :: news) := fun p hp => by
      rcases List.mem_cons.mp hp with rfl | hp
      · exact ⟨hs _ _ hne.1 hI₃, hIL, hI0⟩
      rcases List.mem_cons.mp hp with rfl | hp
      · exact ⟨heC, hCL, hC0⟩
      · have hpC : p.1 ≠ C := by
          rcases List.mem_cons.mp hp with rfl | hp
          · exact Ne.symm hne.2.2
          · exact (off p hp).2.1
        exact ⟨hs _ _ hpC (N₃ p hp).1, (N₃ p hp).2⟩
    refine wpAny_bind (wpAny_bind (wpAny_mono (turn I C D i k v key _ oC oD _ kvs' h₅ _ hv hkey hR' hd' hoC ((if_neg hkv).trans (if_pos rfl)) (if_pos rfl) off hne F₅ N₅) (fun kv s₂ q => ?_) fun _ _ e => e.elim))
    obtain ⟨kk, kt, rfl, q⟩ := q
    refine wpAny_bind (wpAny_holding (wpAny_mono q (fun y s₃ q => ?_) fun _ _ e => e.elim))
    obtain ⟨h6, tk6, rfl, F6, N6, hR6⟩ := q
    refine wpAny_bind (wpAny_standAt (wpAny_holding ?_))
    refine d_set ((I, { cls := .type "dict_itemiterator", dict := none, data := .fields #[.none, .bool false, .ref d, .int ((i + 1 : Nat) : Int) 0, .int (kvs.length : Int) 0, .int (ep : Int) 0, key, v], slots := #[] }) :: (C, oC) :: news) F6 N6 (.tail _ (.tail _ (.head _))) hd' (by omega) (fun p hp => ?_) fun oD' h7 tk7 hd7 F7 N7 => ?_
    · rcases List.mem_cons.mp hp with rfl | hp
      · exact ⟨.head _, hne.2.1⟩
      rcases List.mem_cons.mp hp with rfl | hp
      · exact ⟨.tail _ (.head _), hne.2.2⟩
      · exact ⟨.tail _ (.tail _ (.tail _ hp)), (off p hp).2.2⟩
    · refine wpAny_pure ⟨rfl, kvs.length + 1 - (i + 1), by omega, h7, _, i + 1, key, v, oD', stored kvs' kk y, _, rfl, hlt, rfl, (N7 _ (.tail _ (.head _))).1, F7, hoC.ns (N7 _ (.tail _ (.tail _ (.head _)))).1, fun p hp => ?_, hd7, hR6, Nat.le_trans (stored_length_le _ _ _) (Nat.succ_le_succ hl')⟩
      rcases List.mem_cons.mp hp with rfl | hp
      · exact N7 _ (.head _)
      · exact N7 p (.tail _ (.tail _ (.tail _ hp)))
end
open PyProof.Rows.LCg (NsObj ns_obj)
section
variable {prog : Program} {w : World} {A : Around} {E : Value → Shared → Prop} {s : Shared} {h₀ : Heap} {L : Addr} {m : Str → Option Value} {env : Env}
noncomputable def ItemSrc (prog : Program) (w : World) (A : Around) (h₀ : Heap) (L : Addr) (m : Str → Option Value) (env : Env) (kx vx : PySem.Expr) (xk xv y : Str) (scope : Scope) (cl : List (Str × Addr)) (s : Shared) (Q : Flow → Shared → Prop) (v₀ : Value) (s₀ : Shared) : Prop :=
  ∃ (vw d : Addr) (oM : Obj) (kvs : List (Str × Value)) (ep : Nat) (news : List (Addr × Obj)) (h : Heap) (tk : Nat) (R : Nat → List (Str × Value) → Prop), v₀ = .ref vw ∧ s₀ = { s with heap := h, toks := tk } ∧ Fr h₀ L h m ∧ News h₀ L h news ∧ h.IsItemsView vw d ∧ (d, oM) ∈ news ∧ (∀ h : Heap, h.get? d = some oM → h.DictAt (strKind prog w) d kvs ep) ∧ kvs.length ≤ 100 ∧ R 0 [] ∧
    ItemTurn prog w A h₀ L m env kx vx xk xv scope cl s kvs news R ∧
    ∀ D oD kvs' h tk, R kvs.length kvs' → oD.IsDictOf (strKind prog w) kvs' → Fr h₀ L h (fun z => if z = y then some (.ref D) else m z) → News h₀ L h ((D, oD) :: news) → (∀ p ∈ news, p.1 ≠ D) → h₀.objs.size ≤ D → Q .next { s with heap := h, toks := tk }
theorem comp_items {kx vx iter : PySem.Expr} {xk xv y : Str} {pk pv pt py pos spos : Pos} {x1 : Nat} {scope : Scope} {cl : List (Str × Addr)} {Q : Flow → Shared → Prop}
    (_F : Fr h₀ L s.heap m) (hLe : env.locals = L) (hsw : swapsWith (.DictComp kx vx [⟨.Tuple [.Name xk pk, .Name xv pv] x1 pt, iter, [], 0⟩] scope pos) (some (.Name y py)) spos.line env = pure true) (hy : env.kindOf y = some .local) (hp : (env.scope.kind == .class || (env.scope.kind == .module && env.locals != env.globals)) = false)
    (hclos : closureFor scope env = pure cl) (hcell : ∀ y ∈ scope.names, y.2 ≠ .cell) (hkind : scope.kind = .function)
    (hnames : ∀ y ∈ scope.names, y.2 = .local → scope.names.lookup y.1 = some .local) (hxk : scope.names.lookup xk = some .local) (hxv : scope.names.lookup xv = some .local) (hkv : xk ≠ xv)
    (hs : ∀ v, foldedSetIterable iter env v = pure v) (hh : A.handled = none)
    (hit : wpAny (model prog w) A (eval iter env) (ItemSrc prog w A h₀ L m env kx vx xk xv y scope cl s Q) E s) :
    wpAny (model prog w) A (exec (.Assign [.Name y py] (.DictComp kx vx [⟨.Tuple [.Name xk pk, .Name xv pv] x1 pt, iter, [], 0⟩] scope pos) spos) env) Q E s := by
  subst hLe
  rw [exec_Assign_Name_used _ _ _ _ hsw]
  show wpAny _ _ (standAt spos >>= fun _ => _) _ _ _
  refine wpAny_bind (wpAny_standAt (wpAny_bind (wpAny_bind (wpAny_mono (wpAny_comprehension_free (newAcc := newDict) (use := some (assign (.Name y py) env)) (Q := fun _ s' => Q .next s') rfl hs hclos hkind hnames
    (wpAny_mono hit (fun v₀ s₁ src => ?_) fun _ _ e => e)) (fun _ s' hq => wpAny_pure (wpAny_pure hq)) fun _ _ e => e))))
  obtain ⟨vw, d, oM, kvs, ep, news, h, tk, R, rfl, rfl, F, N, hvw, hd, hat, hn, hR, turn, fin⟩ := src
  refine wpAny_pyIter_items (s := { s with heap := h, toks := tk }) hvw (hat h (N _ hd).1) ?_
  show wpAny _ _ _ _ _ ({ s with heap := h.push _, toks := tk } : Shared)
  have hIget := Heap.get?_push_size h (o := { cls := .type "dict_itemiterator", data := .fields #[.none, .bool false, .ref d, .int 0 0, .int kvs.length 0, .int ep 0, .none, .none] }) rfl
  have F1 := F.push { cls := .type "dict_itemiterator", data := .fields #[.none, .bool false, .ref d, .int 0 0, .int kvs.length 0, .int ep 0, .none, .none] }
  have N1 : News h₀ env.locals (h.push { cls := .type "dict_itemiterator", data := .fields #[.none, .bool false, .ref d, .int 0 0, .int kvs.length 0, .int ep 0, .none, .none] }) news := fun p hp => ⟨Heap.get?_push_of_some _ (N p hp).1, (N p hp).2⟩
  have nI := new_at (s := { s with heap := h, toks := tk }) F (Nat.le_refl h.objs.size)
  have lt1 : ∀ p ∈ news, p.1 < h.objs.size := fun p hp => Heap.lt_size (N p hp).1
  generalize hH1 : h.push { cls := .type "dict_itemiterator", data := .fields #[.none, .bool false, .ref d, .int 0 0, .int kvs.length 0, .int ep 0, .none, .none] } = H1 at hIget F1 N1 ⊢
  have sz1 : H1.objs.size = h.objs.size + 1 := by rw [← hH1, Heap.size_push]
  refine wpAny_newObj_type (wpAny_newFunctionEnv hcell (by intro y hy; simp at hy) (fun h₁ hns₁ hsb₁ => ?_) hkind)
  dsimp only at hns₁ hsb₁ ⊢
  have hemp : emptyDict.IsDictOf (strKind prog w) [] := by
    obtain ⟨o, ho, hd⟩ := Heap.dictOf_iff.mp (Heap.DictOf.new (knd := strKind prog w) H1)
    have := Heap.get?_push_size H1 (o := emptyDict) rfl
    rw [show H1.push { cls := .type "dict", dict := none, data := .dict #[] } = H1.push emptyDict from rfl, this] at ho
    exact (Option.some.inj ho) ▸ hd
  have hDget := Heap.get?_push_size H1 (o := emptyDict) rfl
  have nD := new_at (s := { s with heap := H1, toks := tk }) F1 (Nat.le_refl H1.objs.size)
  have nC := new_at (s := { s with heap := H1, toks := tk }) F1 (Nat.le_succ H1.objs.size)
  generalize hH2 : H1.push { cls := .type "dict", dict := none, data := .dict #[] } = H2 at hns₁ hsb₁ ⊢
  rw [show H1.push emptyDict = H2 from hH2] at hDget
  have sz2 : H2.objs.size = H1.objs.size + 1 := by rw [← hH2, Heap.size_push]
  have old : ∀ b o, H1.get? b = some o → h₁.get? b = some o := fun b o e => hsb₁.extBut b o (by rw [sz2]; exact Nat.ne_of_lt (Nat.lt_succ_of_lt (Heap.lt_size e))) (Heap.get?_push_of_some _ (hH2 ▸ Heap.get?_push_of_some _ e))
  have hacc : h₁.get? H1.objs.size = some emptyDict := hsb₁.extBut _ _ (by rw [sz2]; exact Nat.ne_of_lt (Nat.lt_succ_self _)) (Heap.get?_push_of_some _ hDget)
  have F2 : Fr h₀ env.locals h₁ m := F1.keeps old
  have N2 : News h₀ env.locals h₁ ((H1.objs.size, emptyDict) :: news) := fun p hp => by
    rcases List.mem_cons.mp hp with rfl | hp
    · exact ⟨hacc, nD⟩
    · exact ⟨old _ _ (N1 p hp).1, (N1 p hp).2⟩
  have hIh := old _ _ hIget
  have nC' : H2.objs.size ≠ env.locals ∧ h₀.get? H2.objs.size = none := sz2 ▸ nC
  have offs : ∀ p ∈ news, p.1 ≠ h.objs.size ∧ p.1 ≠ H2.objs.size ∧ p.1 ≠ H1.objs.size := fun p hp => by
    have := lt1 p hp
    exact ⟨Nat.ne_of_lt this, by rw [sz2, sz1]; exact Nat.ne_of_lt (Nat.lt_succ_of_lt (Nat.lt_succ_of_lt this)), by rw [sz1]; exact Nat.ne_of_lt (Nat.lt_succ_of_lt this)⟩
  have hne : (@Ne Nat h.objs.size H2.objs.size) ∧ (@Ne Nat h.objs.size H1.objs.size) ∧ (@Ne Nat H2.objs.size H1.objs.size) := ⟨by omega, by omega, by omega⟩
  have loop : ∀ (RR : Result → Shared → Prop) (tk' : Nat), (∀ oC oD m₂ kvs' h tk, R kvs.length kvs' → oD.IsDictOf (strKind prog w) kvs' → NsObj oC m₂ → Fr h₀ env.locals h m → News h₀ env.locals h ((H2.objs.size, oC) :: (H1.objs.size, oD) :: news) → RR (.ok .next) { s with heap := h, toks := tk }) →
      codeAny (model prog w) A (.compLoop (.DictComp kx vx [⟨.Tuple [.Name xk pk, .Name xv pv] x1 pt, iter, [], 0⟩] scope pos) 0 (.ref h.objs.size) (.ref H1.objs.size) (compEnvC scope cl H2.objs.size env)) RR { s with heap := h₁, toks := tk' } := fun RR tk' hRR =>
    items_loop (s := { s with heap := h₁, toks := tk' }) R hh hkind hxk hxv hkv hIh hd hat hn F2 hns₁ N2 nC'.1 nC'.2 nI.1 nI.2 offs hne hemp hR turn hRR
  have hDb : h₀.objs.size ≤ H1.objs.size := by rw [sz1]; exact Nat.le_trans F.above (Nat.le_of_lt (Nat.lt_succ_of_lt F.ns.lt))
  have fin2 : ∀ oC oD m₂ kvs' h3 tk3, R kvs.length kvs' → oD.IsDictOf (strKind prog w) kvs' → NsObj oC m₂ → Fr h₀ env.locals h3 m → News h₀ env.locals h3 ((H2.objs.size, oC) :: (H1.objs.size, oD) :: news) →
      wpAny (model prog w) A (assign (.Name y py) env (.ref H1.objs.size)) (fun _ s₅ => ∃ m', s₅.heap.Ns H2.objs.size m' ∧ ∀ h', Heap.SameBut H2.objs.size s₅.heap h' → Q .next { s₅ with heap := h' }) E { s with heap := h3, toks := tk3 } := by
    intro oC oD m₂ kvs' h3 tk3 hRR hdd hoC F3 N3
    refine wpAny_assign_Name (wpAny_storeName_local hy F3.ns (fun h₂ hn₂ hs₂ => ?_) hp)
    have hL₀ : h₀.get? env.locals = none := Heap.get?_none_of_le F3.above
    have F₂ : Fr h₀ env.locals h₂ (fun z => if z = y then some (.ref H1.objs.size) else m z) := ⟨hn₂, fun b o e => hs₂.extBut b o (fun q => by rw [q, hL₀] at e; cases e) (F3.keep b o e), F3.above⟩
    have nsC : h3.Ns H2.objs.size m₂ := hoC.ns (N3 _ (.head _)).1
    refine ⟨m₂, nsC.sameBut hs₂ nC'.1, fun h'' hs'' => fin H1.objs.size oD kvs' h'' _ hRR hdd (F₂.change hs'' nC'.1 nC'.2) (fun p hp => ?_) (fun p hp => (offs p hp).2.2) hDb⟩
    have z : h₂.get? p.1 = some p.2 := hs₂.extBut _ _ (N3 p (.tail _ hp)).2.1 (N3 p (.tail _ hp)).1
    refine ⟨hs''.extBut _ _ ?_ z, (N3 p (.tail _ hp)).2⟩
    rcases List.mem_cons.mp hp with rfl | hp
    · exact Ne.symm hne.2.2
    · exact (offs p hp).2.1
  exact codeAny_compStart_dict (loop _ _ fin2) (kcp_self hIh (loop _ _ fin2))
end
noncomputable def Row (z : Int) (cs : List Nat) : Prop := cs.length = 10 ∧ ∀ c, cs[9]? = some c → fmEnd z c
noncomputable abbrev mk3 (v0 v1 v2 : Value) : List (Str × Value) := [(Str.ofString "ab", v0), (Str.ofString "a b", v1), (Str.ofString "c\"d", v2)]
noncomputable def RowsN (z0 z1 z2 : Int) : Nat → List (Str × Value) → Prop
  | 0, kvs => kvs = []
  | 1, kvs => ∃ c0 u0, Row z0 c0 ∧ kvs = [(Str.ofString "ab", .str (txt c0) u0)]
  | 2, kvs => ∃ c0 u0 c1 u1, Row z0 c0 ∧ Row z1 c1 ∧ kvs = [(Str.ofString "ab", .str (txt c0) u0), (Str.ofString "a b", .str (txt c1) u1)]
  | 3, kvs => ∃ c0 u0 c1 u1 c2 u2, Row z0 c0 ∧ Row z1 c1 ∧ Row z2 c2 ∧ kvs = mk3 (.str (txt c0) u0) (.str (txt c1) u1) (.str (txt c2) u2)
  | _, _ => False
theorem modes_lit {kvs : List (Str × Value)} (h : ModesAre 3 kvs) : ∃ z0 t0 z1 t1 z2 t2, okMode z0 ∧ okMode z1 ∧ okMode z2 ∧ kvs = mk3 (.int z0 t0) (.int z1 t1) (.int z2 t2) := by
  obtain ⟨vs, hl, hv, rfl⟩ := h
  match vs, hl with
  | [v0, v1, v2], _ =>
    obtain ⟨z0, t0, rfl, h0⟩ := hv v0 (by simp)
    obtain ⟨z1, t1, rfl, h1⟩ := hv v1 (by simp)
    obtain ⟨z2, t2, rfl, h2⟩ := hv v2 (by simp)
    exact ⟨z0, t0, z1, t1, z2, t2, h0, h1, h2, rfl⟩
theorem ok_fm {z : Int} (h : okMode z) : fmMode z ∧ (Builtin.bitAnd z 1 = 1 ↔ z % 2 ≠ 0) := by
  obtain ⟨a, b, h1, h2, h3, h4, rfl⟩ := h
  exact fm_mode h1 h2 h3 h4 rfl
theorem rows_step {z0 z1 z2 : Int} {i : Nat} {kvs' : List (Str × Value)} {k : Str} {t : Tok} {z : Int} {t0 t1 t2 u : Tok} {cs : List Nat} (h : RowsN z0 z1 z2 i kvs') (hk : (mk3 (.int z0 t0) (.int z1 t1) (.int z2 t2))[i]? = some (k, .int z t)) (hr : Row z cs) : RowsN z0 z1 z2 (i + 1) (stored kvs' k (.str (txt cs) u)) := by
  match i, h, hk with
  | 0, h, hk =>
    cases hk
    have h' : kvs' = [] := h
    subst h'
    exact ⟨cs, u, hr, rfl⟩
  | 1, h, hk =>
    cases hk
    obtain ⟨c0, u0, h0, rfl⟩ := h
    exact ⟨c0, u0, cs, u, h0, hr, by unfold stored; rw [if_neg (by simp; decide +kernel)]; rfl⟩
  | 2, h, hk =>
    cases hk
    obtain ⟨c0, u0, c1, u1, h0, h1, rfl⟩ := h
    exact ⟨c0, u0, c1, u1, cs, u, h0, h1, hr, by unfold stored; rw [if_neg (by simp; decide +kernel)]; rfl⟩
section
variable {prog : Program} {w : World} {A : Around} {E : Value → Shared → Prop} {s : Shared} {h₀ : Heap} {L : Addr} {m : Str → Option Value} {news : List (Addr × Obj)}
theorem d_in {D : Addr} {oD : Obj} {kvs : List (Str × Value)} {y : Str} {t : Tok} {b : Bool} {Q : Value → Shared → Prop} (N : News h₀ L s.heap news) (hm : (D, oD) ∈ news) (hd : oD.IsDictOf (strKind prog w) kvs) (hs : (D == sysModules) = false) (hv : (valueAt kvs y).isSome = b) (h : ∀ k, Q (.bool b) { s with toks := k }) :
    wpAny (model prog w) A (compareOp .In (.str y t) (.ref D)) Q E s :=
  wpAny_in_of (strKind_is prog w y t) hs (Heap.DictOf.mapOf (Heap.dictOf_iff.mpr ⟨oD, (N _ hm).1, hd⟩)) (hv ▸ h _)
theorem d_get {D : Addr} {oD : Obj} {kvs : List (Str × Value)} {y : Str} {t : Tok} {v : Value} {value slice : PySem.Expr} {Q : Value → Shared → Prop} (N : News h₀ L s.heap news) (hm : (D, oD) ∈ news) (hd : oD.IsDictOf (strKind prog w) kvs) (hv : valueAt kvs y = some v) (h : ∀ k, Q v { s with toks := k })
    (hs : subscripted slice false (.ref D) (.str y t) = operate [.ref D, .str y t] (getItem (.ref D) (.str y t)) := by with_unfolding_all rfl) :
    wpAny (model prog w) A (subscriptTail value slice (.ref D) (.str y t)) Q E s := by
  have hD : s.heap.DictOf (strKind prog w) D kvs := Heap.dictOf_iff.mpr ⟨oD, (N _ hm).1, hd⟩
  exact tail_any hD.typeIs slot_dict_getitem.lookup (wpAny_getItem_of (strKind_is prog w y t) (Heap.DictOf.mapOf hD) hv (h _)) hs
theorem s_item {cs : List Nat} {u t : Tok} {c : Nat} {i : Nat} {value slice : PySem.Expr} {Q : Value → Shared → Prop} (hc : cs[i]? = some c) (hi : i < 1000) (h : ∀ k u, Q (.str (one c) u) { s with toks := k })
    (hs : subscripted slice false (.str (txt cs) u) (.int (i : Int) t) = operate [.str (txt cs) u, .int (i : Int) t] (getItem (.str (txt cs) u) (.int (i : Int) t)) := by with_unfolding_all rfl) :
    wpAny (model prog w) A (subscriptTail value slice (.str (txt cs) u) (.int (i : Int) t)) Q E s := by
  have hl : i < cs.length := (List.getElem?_eq_some_iff.mp hc).1
  refine tail_any (typeIs_str s _ _) F.slot_str_getitem.lookup (PySem.P.getItem_str (by simp; omega) ?_ (h _ _)) hs
  rw [seqIndex_of (Int.natCast_nonneg i) (by rw [txt_len]; omega)]
  simpa [txt] using hc
end
section
variable {w : World} {p : Program} {loose : List Str} {mean : ExcName → Option Value} {mg mb : Str → Option Value} {dp un : Nat} {fr : Option (List Env)} {gd : Option (List Code)} {h₀ : Heap} {s : Shared} {Q E : Value → Shared → Prop} {L : Addr} {m : Str → Option Value} {ext : List (Addr × Obj)}
theorem token_u (k : LxK) (st : LxS) (cs tok rest : List Nat) (hk : LxOK w k) (F : Fr h₀ L s.heap m) (N : News h₀ L s.heap (lxL w.params k st ++ ext)) (off : ∀ p ∈ ext, p.1 ∉ lxAd k) (X : (hd.heap_39 w.params).In h₀) (T : Top p loose mean mg mb h₀) (hdp : dp + 20 < recursionLimit) (hun : un + 120 < cLine)
    (hS : LxSt st cs) (hT : TokOK cs tok rest) (hlt : tok.length ≤ 100)
    (h : ∀ t st' h' tk', LxSt st' rest → Fr h₀ L h' m → News h₀ L h' (lxL w.params k st' ++ ext) → Q (.str (txt tok) t) { s with heap := h', toks := tk' }) : wpAny (model PW w) (AR dp fr gd un) (call (.ref 162) [.ref k.x2]) Q E s := by
  have P : ∀ r ∈ lxL w.params k st, s.heap.get? r.1 = some r.2 ∧ h₀.get? r.1 = none := fun r hr => ⟨(N r (List.mem_append_left _ hr)).1, (N r (List.mem_append_left _ hr)).2.2⟩
  have off' : ∀ p ∈ ext, ∀ r ∈ lxL w.params k st, p.1 ≠ r.1 := fun p hp r hr e => off p hp (by rw [e, ← lxAd_eq w.params k st]; exact List.mem_map_of_mem hr)
  refine token_c k st cs tok rest hk X T F.keep hdp hun P hS hT hlt fun st' t h' tk' hS' ex g1 g2 => ?_
  obtain ⟨F2, N2⟩ := lx_move (st' := st') ex F N off' hk.ne g1 g2
  exact h t st' h' tk' hS' F2 N2
end
noncomputable def wk (od : Str → Bool) (l : List Str) (y : Str) : List Str := if od y then nstep l y else l
noncomputable def walkTo (od : Str → Bool) (ws : List Str) (j : Nat) : List Str := (ws.take j).foldl (wk od) []
noncomputable def placesTo (od : Str → Bool) (ws : List Str) (j : Nat) : List Str := (List.range j).map fun i => plc (walkTo od ws i)
noncomputable def odOf (z0 z1 z2 : Int) (y : Str) : Bool := if y = Str.ofString "ab" then decide (z0 % 2 ≠ 0) else if y = Str.ofString "a b" then decide (z1 % 2 ≠ 0) else if y = Str.ofString "c\"d" then decide (z2 % 2 ≠ 0) else true
theorem od_ab {z0 z1 z2 : Int} : odOf z0 z1 z2 (Str.ofString "ab") = decide (z0 % 2 ≠ 0) := if_pos rfl
theorem od_a_b {z0 z1 z2 : Int} : odOf z0 z1 z2 (Str.ofString "a b") = decide (z1 % 2 ≠ 0) := (if_neg (by decide +kernel)).trans (if_pos rfl)
theorem od_cd {z0 z1 z2 : Int} : odOf z0 z1 z2 (Str.ofString "c\"d") = decide (z2 % 2 ≠ 0) := (if_neg (by decide +kernel)).trans ((if_neg (by decide +kernel)).trans (if_pos rfl))
theorem od_dd {z0 z1 z2 : Int} : odOf z0 z1 z2 (Str.ofString "..") = true := (if_neg (by decide +kernel)).trans ((if_neg (by decide +kernel)).trans (if_neg (by decide +kernel)))
theorem od_d {z0 z1 z2 : Int} : odOf z0 z1 z2 (Str.ofString ".") = true := (if_neg (by decide +kernel)).trans ((if_neg (by decide +kernel)).trans (if_neg (by decide +kernel)))
theorem wk_all {od : Str → Bool} {l : List Str} {y : Str} (h : ∀ z ∈ l, isN z) (hy : isW y) : ∀ z ∈ wk od l y, isN z := by
  unfold wk
  split
  · exact nstep_all h hy
  · exact h
theorem wk_len {od : Str → Bool} {l : List Str} {y : Str} (hy : isW y) : (wk od l y).length ≤ l.length + 1 := by
  unfold wk
  split
  · exact nstep_len hy
  · omega
theorem walkTo_succ {od : Str → Bool} {ws : List Str} {j : Nat} {y : Str} (h : ws[j]? = some y) : walkTo od ws (j + 1) = wk od (walkTo od ws j) y := by
  unfold walkTo
  rw [List.take_add_one, h]
  simp
theorem walk_facts {od : Str → Bool} {ws : List Str} (hw : ∀ y ∈ ws, isW y) : ∀ j, j ≤ ws.length → (∀ z ∈ walkTo od ws j, isN z) ∧ (walkTo od ws j).length ≤ j
  | 0, _ => by simp [walkTo]
  | j + 1, hj => by
    have ih := walk_facts (od := od) hw j (by omega)
    have hy : ws[j]? = some ws[j] := List.getElem?_eq_getElem (by omega)
    rw [walkTo_succ hy]
    have hwy := hw _ (List.getElem_mem (by omega : j < ws.length))
    exact ⟨wk_all ih.1 hwy, Nat.le_trans (wk_len hwy) (Nat.succ_le_succ ih.2)⟩
theorem fold_names {l : List Str} (h : ∀ z ∈ l, isN z) (acc : List Str) : l.foldl nstep acc = acc ++ l := by
  induction l generalizing acc with
  | nil => simp
  | cons a l ih =>
    rw [List.foldl_cons, nstep_name (h a (.head _)), ih (fun z hz => h z (.tail _ hz))]
    simp
theorem fold_step {l : List Str} {y : Str} (h : ∀ z ∈ l, isN z) : (l ++ [y]).foldl nstep [] = nstep l y := by
  rw [List.foldl_append, fold_names h]; simp
theorem plc_le {l : List Str} (h : ∀ z ∈ l, isN z) (hl : l.length ≤ 20) : (plc l).length ≤ 401 := by
  have h1 := join_len l h (by omega)
  have h2 : (Str.ofString "/").length = 1 := by decide +kernel
  show (Str.ofString "/" ++ Txt.join (Str.ofString "/") l).length ≤ 401
  have h3 : ∀ a b : Str, (a ++ b).length = a.length + b.length := fun a b => by show (a.cps ++ b.cps).size = _; rw [Array.size_append]; rfl
  rw [h3]; omega
theorem places_succ {od : Str → Bool} {ws : List Str} {j : Nat} : placesTo od ws (j + 1) = placesTo od ws j ++ [plc (walkTo od ws j)] := by
  unfold placesTo; rw [List.range_succ, List.map_append]; rfl
theorem strs_snoc2 : ∀ {vs : List Value} {ys : List Str} {y : Str}, StrsAre vs (ys ++ [y]) → ∃ vs' u, vs = vs' ++ [Value.str y u] ∧ StrsAre vs' ys
  | _, [], _, .cons y t .nil => ⟨[], t, rfl, .nil⟩
  | _, _ :: ys, _, .cons y t h => by
    obtain ⟨vs', u, rfl, h'⟩ := strs_snoc2 (ys := ys) h
    exact ⟨_ :: vs', u, rfl, .cons y t h'⟩
noncomputable def rowC (y : Str) : List Nat := if y = Str.ofString "ab" then [97, 98, 10] else if y = Str.ofString "a b" then [34, 97, 32, 98, 34, 10] else if y = Str.ofString "c\"d" then [34, 99, 92, 34, 100, 34, 10] else if y = Str.ofString ".." then [46, 46, 10] else [46, 10]
noncomputable def tokC (y : Str) : List Nat := y.cps.toList
noncomputable def leadC (y : Str) : List Nat := if y = Str.ofString "a b" ∨ y = Str.ofString "c\"d" then [10] else []
noncomputable def rowsC (ws : List Str) : List Nat := ws.flatMap rowC
theorem tok_next {lead : List Nat} {y : Str} {ws : List Str} (hl : lead = [] ∨ lead = [10]) (hy : isW y) : TokOK (lead ++ rowsC (y :: ws)) (tokC y) (leadC y ++ rowsC ws) ∧ (leadC y = [] ∨ leadC y = [10]) ∧ txt (tokC y) = y ∧ (tokC y).length ≤ 100 := by
  have key : ∀ (r tk ld : List Nat), rowC y = r → tokC y = tk → leadC y = ld → (∀ rest, TokOK (r ++ rest) tk (ld ++ rest) ∧ TokOK (10 :: (r ++ rest)) tk (ld ++ rest)) → (ld = [] ∨ ld = [10]) → tk.length ≤ 100 → txt tk = y →
      TokOK (lead ++ rowsC (y :: ws)) (tokC y) (leadC y ++ rowsC ws) ∧ (leadC y = [] ∨ leadC y = [10]) ∧ txt (tokC y) = y ∧ (tokC y).length ≤ 100 := by
    rintro r tk ld h1 h2 h3 h4 h5 h6 h7
    rw [h2, h3]
    refine ⟨?_, h5, h7, h6⟩
    have e : rowsC (y :: ws) = r ++ rowsC ws := by unfold rowsC; rw [List.flatMap_cons, h1]
    rw [e]
    rcases hl with rfl | rfl
    · exact (h4 _).1
    · exact (h4 _).2
  rcases hy with (rfl | rfl | rfl) | rfl | rfl
  · exact key [97, 98, 10] [97, 98] [] (by decide +kernel) (by decide +kernel) (by decide +kernel) (fun rest => ⟨.inr (.inl ⟨by simp, by simp [okp], .inl rfl⟩), .inr (.inl ⟨by simp, by simp [okp], .inr rfl⟩)⟩) (.inl rfl) (by decide) (by decide +kernel)
  · exact key [34, 97, 32, 98, 34, 10] [97, 32, 98] [10] (by decide +kernel) (by decide +kernel) (by decide +kernel) (fun rest => ⟨.inr (.inr ⟨by simp [okq], .inl rfl⟩), .inr (.inr ⟨by simp [okq], .inr rfl⟩)⟩) (.inr rfl) (by decide) (by decide +kernel)
  · exact key [34, 99, 92, 34, 100, 34, 10] [99, 34, 100] [10] (by decide +kernel) (by decide +kernel) (by decide +kernel) (fun rest => ⟨.inr (.inr ⟨by simp [okq], .inl rfl⟩), .inr (.inr ⟨by simp [okq], .inr rfl⟩)⟩) (.inr rfl) (by decide) (by decide +kernel)
  · exact key [46, 46, 10] [46, 46] [] (by decide +kernel) (by decide +kernel) (by decide +kernel) (fun rest => ⟨.inr (.inl ⟨by simp, by simp [okp], .inl rfl⟩), .inr (.inl ⟨by simp, by simp [okp], .inr rfl⟩)⟩) (.inl rfl) (by decide) (by decide +kernel)
  · exact key [46, 10] [46] [] (by decide +kernel) (by decide +kernel) (by decide +kernel) (fun rest => ⟨.inr (.inl ⟨by simp, by simp [okp], .inl rfl⟩), .inr (.inl ⟨by simp, by simp [okp], .inr rfl⟩)⟩) (.inl rfl) (by decide) (by decide +kernel)
theorem tok_last {lead : List Nat} (hl : lead = [] ∨ lead = [10]) : TokOK (lead ++ rowsC []) [] [] := .inl ⟨rfl, rfl, by rcases hl with rfl | rfl; exact .inl rfl; exact .inr rfl⟩
theorem allLt_mem : ∀ {d : Nat} {l : List (Addr × Obj)}, PySem.W.AllLt d l → ∀ p ∈ l, (@LT.lt Nat _ p.1 d)
  | _, [], _, _, h => nomatch h
  | _, _ :: _, h, p, hp => by
    rcases List.mem_cons.mp hp with rfl | hp
    · exact h.1
    · exact allLt_mem h.2 p hp
theorem fr_name {h₀ h : Heap} {L : Addr} {m : Str → Option Value} (F : Fr h₀ L h m) : ∃ m', m' = m ∧ Fr h₀ L h m' := ⟨m, rfl, F⟩
theorem led_one {h₀ h : Heap} {L a : Addr} {o : Obj} {r : List (Addr × Obj)} (_ : News h₀ L h ((a, o) :: r)) : ∃ b, b = a := ⟨a, rfl⟩
theorem tok_at {ws : List Str} {lead : List Nat} (hw : ∀ y ∈ ws, isW y) (hl : lead = [] ∨ lead = [10]) (i : Nat) (hi : i ≤ ws.length) :
    ∃ lead', (lead' = [] ∨ lead' = [10]) ∧ TokOK (lead ++ rowsC (ws.drop i)) (tokC (ws.getD i (Str.ofString ""))) (lead' ++ rowsC (ws.drop (i + 1))) ∧ txt (tokC (ws.getD i (Str.ofString ""))) = ws.getD i (Str.ofString "") ∧ (tokC (ws.getD i (Str.ofString ""))).length ≤ 100 := by
  by_cases h : i < ws.length
  · have e : ws.drop i = ws[i] :: ws.drop (i + 1) := List.drop_eq_getElem_cons h
    have e2 : ws.getD i (Str.ofString "") = ws[i] := by simp [List.getD, h]
    obtain ⟨h1, h2, h3, h4⟩ := tok_next (ws := ws.drop (i + 1)) hl (hw _ (List.getElem_mem h))
    rw [e, e2]
    exact ⟨_, h2, h1, h3, h4⟩
  · obtain rfl : i = ws.length := by omega
    have e2 : ws.getD ws.length (Str.ofString "") = Str.ofString "" := by simp [List.getD]
    rw [e2, List.drop_length, List.drop_eq_nil_of_le (by omega)]
    have e3 : tokC (Str.ofString "") = [] := by decide +kernel
    rw [e3]
    exact ⟨[], .inl rfl, tok_last hl, by decide +kernel, by decide⟩
theorem places_one {od : Str → Bool} {ws : List Str} {t : Tok} : StrsAre [Value.str (Str.ofString "/") t] (placesTo od ws 1) := by
  have e : placesTo od ws 1 = [Str.ofString "/"] := by
    show [plc (walkTo od ws 0)] = _
    have : plc (walkTo od ws 0) = Str.ofString "/" := by show plc [] = _; decide +kernel
    rw [this]
  rw [e]; exact .cons _ _ .nil
theorem some_is {α : Type} {o : Option α} {v : α} (h : o = some v) : o.isSome = true := h ▸ rfl
theorem va0 {a b c : Value} : valueAt (mk3 a b c) (Str.ofString "ab") = some a := rfl
theorem va1 {a b c : Value} : valueAt (mk3 a b c) (Str.ofString "a b") = some b := rfl
theorem va2 {a b c : Value} : valueAt (mk3 a b c) (Str.ofString "c\"d") = some c := rfl
theorem va3 {a b c : Value} : valueAt (mk3 a b c) (Str.ofString "..") = none := rfl
theorem va4 {a b c : Value} : valueAt (mk3 a b c) (Str.ofString ".") = none := rfl
theorem rows33 : True := by
  k_with "exec Assign cons BoolOp" => ((k_here; refine stop_here ?_))
  k_with "exec Assign cons DictComp" => ((k_here; refine stop_here ?_))
  k_with "exec While" => ((k_here; refine stop_here ?_))
  k_with "call ref" => ((k_here; (with_reducible show wpAny _ _ (call (Value.ref 162) [Value.ref _]) _ _ _); refine stop_here ?_))
  k_with "call ref" => ((k_here; (with_reducible show wpAny _ _ (call (Value.ref 223) [_]) _ _ _); refine stop_here ?_))
  k_with "call ref" => ((k_here; (with_reducible show wpAny _ _ (call (Value.ref 115) [_, _]) _ _ _); refine stop_here ?_))
  k_with "call ref" => ((k_here; (with_reducible show wpAny _ _ (call (Value.ref 129) [_]) _ _ _); refine stop_here ?_))
  k_with "compareOp In str ref" => ((k_here; k_dflt (refine' d_in (b := true) (by k_asm) (by k_mem) (by assumption) (by assumption) (by exact some_is (by assumption)) ?_); intro _))
  k_with "compareOp In str ref" => ((k_here; k_dflt (refine' d_in (b := false) (by k_asm) (by k_mem) (by assumption) (by assumption) (by first | exact congrArg Option.isSome va3 | exact congrArg Option.isSome va4) ?_); intro _))
  k_with "subscriptTail Name Name ref str" => ((k_here; k_dflt (refine' d_get (by k_asm) (by k_mem) (by assumption) (by assumption) ?_); intro _))
  k_with "subscriptTail Name Constant str int" => ((k_here; k_dflt (refine' s_item (i := 9) (by assumption) (by decide) ?_); intro _ _))
  k_with "compareOp NotIn str str" => ((k_here; refine SB.notContains ?_))
  trivial
theorem plc_snoc_le {l : List Str} {y : Str} (h : ∀ z ∈ l, isN z) (hl : l.length ≤ 15) (hy : isW y) : (plc (l ++ [y])).length ≤ 1000 := by
  have h2 : (Str.ofString "/").length = 1 := by decide +kernel
  have h3 : ∀ a b : Str, (a ++ b).length = a.length + b.length := fun a b => by show (a.cps ++ b.cps).size = _; rw [Array.size_append]; rfl
  have hy : y.length ≤ 3 := by rcases hy with (rfl | rfl | rfl) | rfl | rfl <;> decide +kernel
  have h1 := plc_le h (by omega)
  by_cases e : l = []
  · subst e
    show (Str.ofString "/" ++ Txt.join (Str.ofString "/") [y]).length ≤ 1000
    rw [h3, show Txt.join (Str.ofString "/") [y] = y from rfl]; omega
  · rw [plc_snoc e, h3, h3]; omega
theorem lx_ext2 {P : Params} {k : LxK} {st st' : LxS} {ext : List (Addr × Obj)} {h g h' : Heap} {L : Addr} {m : Str → Option Value} (EX : Ext ((lxL P k st ++ ext).map (·.1)) h g) (F : Fr g L h' m) (N : News g L h' (lxL P k st' ++ ext)) (hP : ∀ q ∈ lxL P k st ++ ext, h.get? q.1 = some q.2) :
    Ext [k.ll, k.d2] h h' := by
  have N' : ∀ q ∈ lxL P k st', h'.get? q.1 = some q.2 := fun q hq => (N q (List.mem_append_left _ hq)).1
  refine ext_pre EX F hP fun q hq hno => ?_
  rcases List.mem_append.mp hq with hq | hq
  · simp only [lxL, lxLed, List.mem_cons, List.not_mem_nil, or_false] at hq
    rcases hq with rfl | rfl | rfl | rfl | rfl | rfl | rfl | rfl | rfl | rfl <;> first | exact absurd (.head _) hno | exact absurd (.tail _ (.head _)) hno | exact N' (_, _) (by walk_at "my in")
  · exact (N q (List.mem_append_right _ hq)).1
/-- the state ahead of a turn of the while loop -/
noncomputable def WJ (od : Str → Bool) (P : Params) (k : LxK) (ws : List Str) (pl D md : Addr) (oD oM : Obj) (mF : Str → Option Value) (n : Nat) (m₁ : Str → Option Value) (news₁ : List (Addr × Obj)) : Prop :=
  ∃ (i : Nat) (lead : List Nat) (st : LxS) (vs : List Value) (nn : Nat) (u : Tok), i ≤ ws.length ∧ n = ws.length - i ∧ (lead = [] ∨ lead = [10]) ∧ LxSt st (lead ++ rowsC (ws.drop (i + 1))) ∧ (∀ z, z ≠ Str.ofString "shut" → z ≠ Str.ofString "word" → m₁ z = mF z) ∧ m₁ (Str.ofString "word") = some (.str (ws.getD i (Str.ofString "")) u) ∧
    StrsAre vs (placesTo od ws (i + 1)) ∧ news₁ = (pl, lob vs nn) :: (D, oD) :: (lxL P k st ++ [(md, oM)])
theorem execs_cut {M : Model} {A : Around} {E : Value → Shared → Prop} {s : Shared} {env : Env} {st : Stmt} {rest : List Stmt} {Q : Flow → Shared → Prop} (R : Shared → Prop) (h1 : wpAny M A (exec st env) (fun f s' => f = .next ∧ R s') E s) (h2 : ∀ s', R s' → wpAny M A (execs rest env) Q E s') : wpAny M A (execs (st :: rest) env) Q E s :=
  wpAny_execs_cons (wpAny_mono h1 (fun f s' q => by obtain ⟨rfl, q⟩ := q; exact h2 s' q) fun _ _ e => e)
theorem strs_len : ∀ {vs : List Value} {ys : List Str}, StrsAre vs ys → vs.length = ys.length
  | _, _, .nil => rfl
  | _, _, .cons _ _ h => congrArg (· + 1) (strs_len h)
theorem exec_cut {M : Model} {A : Around} {E : Value → Shared → Prop} {s : Shared} {env : Env} {st : Stmt} {Q : Flow → Shared → Prop} (R : Shared → Prop) (h1 : wpAny M A (exec st env) (fun f s' => f = .next ∧ R s') E s) (h2 : ∀ s', R s' → Q .next s') : wpAny M A (exec st env) Q E s :=
  wpAny_mono h1 (fun f s' q => by obtain ⟨rfl, q⟩ := q; exact h2 s' q) fun _ _ e => e
noncomputable def CutR (h₀ : Heap) (L : Addr) (m : Str → Option Value) (news : List (Addr × Obj)) (s s' : Shared) : Prop := ∃ h' tk', s' = { s with heap := h', toks := tk' } ∧ Fr h₀ L h' m ∧ News h₀ L h' news
theorem cut_of {M : Model} {A : Around} {E : Value → Shared → Prop} {s : Shared} {env : Env} {st : Stmt} {Q : Flow → Shared → Prop} {g : Heap} {L : Addr} {m : Str → Option Value} {news : List (Addr × Obj)} (_F : Fr g L s.heap m) (_N : News g L s.heap news) (x : Str) (v : Value)
    (h1 : wpAny M A (exec st env) (fun f s' => f = .next ∧ CutR g L (fun z => if z = x then some v else m z) news s s') E s) (h2 : ∀ h' tk', Fr g L h' (fun z => if z = x then some v else m z) → News g L h' news → Q .next { s with heap := h', toks := tk' }) : wpAny M A (exec st env) Q E s :=
  exec_cut _ h1 fun s' q => by obtain ⟨h', tk', rfl, F, N⟩ := q; exact h2 h' tk' F N
theorem isW_len {y : Str} (h : isW y) : (¬ (y.length : Int) ≥ 2 ^ 63) ∧ ((y.length : Int) != 0) = true := by
  rcases h with (rfl | rfl | rfl) | rfl | rfl <;> decide +kernel
theorem empty_len : (¬ ((Str.ofString "").length : Int) ≥ 2 ^ 63) ∧ (((Str.ofString "").length : Int) != 0) = false := by decide +kernel
theorem news_third {h₀ h : Heap} {L : Addr} {a b c : Addr × Obj} {r : List (Addr × Obj)} (N : News h₀ L h (a :: b :: c :: r)) : News h₀ L h (a :: b :: r) := fun p hp => N p (by
  rcases List.mem_cons.mp hp with rfl | hp
  · exact .head _
  rcases List.mem_cons.mp hp with rfl | hp
  · exact .tail _ (.head _)
  · exact .tail _ (.tail _ (.tail _ hp)))
section
variable {w : World} {p : Program} {loose : List Str} {mean : ExcName → Option Value} {mg mb : Str → Option Value} {dp un : Nat} {fr : Option (List Env)} {gd : Option (List Code)} {h₀ : Heap} {s : Shared} {Q E : Value → Shared → Prop}
theorem row9 {z : Int} {cs : List Nat} (ho : okMode z) (h : Row z cs) : ∃ d, cs[9]? = some d ∧ ((z % 2 ≠ 0 ∧ (d = 120 ∨ d = 116)) ∨ (¬ z % 2 ≠ 0 ∧ (d = 45 ∨ d = 84))) := by
  have h9 : cs[9]? = some (cs[9]'(by rw [h.1]; decide)) := List.getElem?_eq_getElem (by rw [h.1]; decide)
  refine ⟨_, h9, ?_⟩
  have := h.2 _ h9
  unfold fmEnd at this
  have hz := (ok_fm ho).2
  by_cases hb : Builtin.bitAnd z 1 = 1
  · rw [if_pos hb] at this; exact .inl ⟨hz.mp hb, this⟩
  · rw [if_neg hb] at this; exact .inr ⟨fun e => hb (hz.mpr e), this⟩
theorem name_row {z0 z1 z2 : Int} {c0 c1 c2 : List Nat} {v0 v1 v2 : Tok} {y : Str} (o0 : okMode z0) (o1 : okMode z1) (o2 : okMode z2) (r0 : Row z0 c0) (r1 : Row z1 c1) (r2 : Row z2 c2) (hy : isN y) :
    ∃ cs v d, valueAt (mk3 (.str (txt c0) v0) (.str (txt c1) v1) (.str (txt c2) v2)) y = some (.str (txt cs) v) ∧ cs[9]? = some d ∧ Txt.contains (Str.ofString "xt") (one d) = odOf z0 z1 z2 y := by
  have key : ∀ {z : Int} {cs : List Nat}, okMode z → Row z cs → ∃ d, cs[9]? = some d ∧ Txt.contains (Str.ofString "xt") (one d) = decide (z % 2 ≠ 0) := fun o r => by
    obtain ⟨d, hd, ⟨hz, rfl | rfl⟩ | ⟨hz, rfl | rfl⟩⟩ := row9 o r
    · exact ⟨_, hd, by rw [decide_eq_true hz]; decide +kernel⟩
    · exact ⟨_, hd, by rw [decide_eq_true hz]; decide +kernel⟩
    · exact ⟨_, hd, by rw [decide_eq_false hz]; decide +kernel⟩
    · exact ⟨_, hd, by rw [decide_eq_false hz]; decide +kernel⟩
  rcases hy with rfl | rfl | rfl
  · obtain ⟨d, h1, h2⟩ := key o0 r0; exact ⟨_, _, d, va0, h1, h2.trans od_ab.symm⟩
  · obtain ⟨d, h1, h2⟩ := key o1 r1; exact ⟨_, _, d, va1, h1, h2.trans od_a_b.symm⟩
  · obtain ⟨d, h1, h2⟩ := key o2 r2; exact ⟨_, _, d, va2, h1, h2.trans od_cd.symm⟩
theorem walked_c (k : LxK) (st : LxS) (ws : List Str) (md : Addr) (oM : Obj) (z0 z1 z2 : Int) (t0 t1 t2 : Tok) (hk : LxOK w k) (X : (hd.heap_39 w.params).In h₀) (T : Top p loose mean mg mb h₀) (keep : ∀ b o, h₀.get? b = some o → s.heap.get? b = some o) (hdp : dp + 40 < recursionLimit) (hun : un + 200 < cLine)
    (P : ∀ q ∈ lxL w.params k st ++ [(md, oM)], s.heap.get? q.1 = some q.2 ∧ h₀.get? q.1 = none) (hmdk : md ∉ lxAd k) (hS : LxSt st (rowsC ws)) (hw : ∀ y ∈ ws, isW y) (hwl : ws.length ≤ 10) (hM : oM.IsDictOf (strKind PW w) (mk3 (.int z0 t0) (.int z1 t1) (.int z2 t2))) (hMs : (md == sysModules) = false) (o0 : okMode z0) (o1 : okMode z1) (o2 : okMode z2)
    (h : ∀ pl vs n h' tk', StrsAre vs (placesTo (odOf z0 z1 z2) ws (ws.length + 1)) → Ext [k.ll, k.d2] s.heap h' → s.heap.get? pl = none → h'.get? pl = some (lob vs n) → Q (.ref pl) { s with heap := h', toks := tk' }) :
    wpAny (model PW w) (AR dp fr gd un) (call (.ref 235) [.ref k.x2, .ref md]) Q E s := by
  have Pmd := P (md, oM) (List.mem_append_right _ (.head _))
  k_dflt (walk_at "my enter")
  rename Ext _ _ _ => EX
  walk_at "my steps"
  refine StopAt.mk ?_
  rename News _ _ _ _ => N8
  rename Fr _ _ _ _ => F8
  refine' comp_items F8 ?d1 ?d2 ?d3 ?d4 ?d5 ?d6 ?d7 ?d8 ?d9 ?d9b ?d9c ?d10 ?d11 ?dhit
  case d1 => rfl
  case d2 => rfl
  case d3 => rfl
  case d4 => rfl
  case d5 => rfl
  case d6 => decide
  case d7 => rfl
  case d8 => decide
  case d9 => rfl
  case d9b => rfl
  case d9c => decide
  case d10 => intro _; rfl
  case d11 => rfl
  case dhit =>
    walk_at "my steps"
    rename News _ _ _ _ => N8
    rename Fr _ _ _ _ => F8
    obtain ⟨es, ep, hat⟩ := id hM
    refine ⟨_, md, oM, _, ep, _, _, _, RowsN z0 z1 z2, rfl, rfl, F8, N8, ⟨_, (N8 _ (.head _)).1, rfl, rfl⟩, .tail _ (List.mem_append_right _ (.head _)), fun h e => ⟨oM, es, e, hat⟩, Nat.le_of_ble_eq_true rfl, rfl, ?turn, ?fin⟩
    case turn =>
      rintro I C D i k v key oI oC oD m₂ kvs' h tk hv hkey hR hd hoC hxk hxv off hne F9 N9
      obtain ⟨tk', rfl⟩ := Value.isStrOf_shape hkey
      obtain ⟨z, tz, rfl, hoz⟩ : ∃ z t, v = Value.int z t ∧ okMode z := by
        rcases i with _ | _ | _ | i
        · cases hv; exact ⟨_, _, rfl, o0⟩
        · cases hv; exact ⟨_, _, rfl, o1⟩
        · cases hv; exact ⟨_, _, rfl, o2⟩
        · cases hv
      clear N8 F8
      walk_at "my steps"
      refine StopAt.mk ?_
      rename Fr _ _ _ _ => F8
      rename News _ _ _ _ => N8
      refine filemode_c z tz (ok_fm hoz).1 (by assumption) (by assumption) F8.keep ?hd1 ?hd2 fun cs t h' tk' hl h9 e => ?_
      case hd1 => ktr_room
      case hd2 => ktr_units
      exact EltOK.intro (e.fr0 F8) (e.news0 N8) (fun _ h => h) (rows_step hR hv ⟨hl, h9⟩)
    case fin =>
      rintro D oD kvs' h1 tk hR hd F9 N9 off hDb
      clear N8 F8
      obtain ⟨c0, v0, c1, v1, c2, v2, r0, r1, r2, rfl⟩ := hR
      rename (Frag.In _ _) => X9
      rename (Top _ _ _ _ _ _) => T9
      have hDs : (D == sysModules) = false := by
        have h2 := Heap.lt_size (X9 216 _ rfl)
        exact beq_eq_false_iff_ne.mpr (Nat.ne_of_gt (Nat.lt_of_lt_of_le (Nat.lt_of_lt_of_le (by decide : (1 : Nat) < 216) (Nat.le_of_lt h2)) hDb))
      dsimp only
      walk_at "my steps"
      show wpAny _ _ (call (Value.ref 162) [Value.ref k.x2]) _ _ _
      rename News _ _ _ _ => N8
      rename Fr _ _ _ _ => F8
      obtain ⟨pl, rfl⟩ := led_one N8
      rename And _ (And _ (PySem.W.AllLt _ _)) => l1
      have hDpl : (@Ne Nat D pl) := Nat.ne_of_lt l1.1
      have hall := allLt_mem l1.2.2
      have hplk : pl ∉ lxAd k := fun hm => by
        rw [← lxAd_eq w.params k st] at hm
        obtain ⟨q, hq, e⟩ := List.mem_map.mp hm
        exact Nat.ne_of_lt (hall q (List.mem_append_left _ hq)) e
      have hplm : md ≠ pl := Nat.ne_of_lt (hall (md, oM) (List.mem_append_right _ (.head _)))
      have hDk : D ∉ lxAd k := fun hm => by
        rw [← lxAd_eq w.params k st] at hm
        obtain ⟨q, hq, e⟩ := List.mem_map.mp hm
        exact off q (.tail _ (List.mem_append_left _ hq)) e
      have hoffL : ∀ st : LxS, ∀ p ∈ lxL w.params k st ++ [(md, oM)], p.1 ≠ pl := fun st' p hp e => by
        rcases List.mem_append.mp hp with hp | hp
        · exact hplk (by rw [← e, ← lxAd_eq w.params k st']; exact List.mem_map_of_mem hp)
        · rw [List.mem_singleton.mp hp] at e; exact hplm e
      have hext : ∀ (vs : List Value) (n : Nat), ∀ p ∈ ([(pl, lob vs n), (D, oD), (md, oM)] : List (Addr × Obj)), p.1 ∉ lxAd k := fun vs n => List.forall_mem_cons.mpr ⟨hplk, List.forall_mem_cons.mpr ⟨hDk, List.forall_mem_cons.mpr ⟨hmdk, List.forall_mem_nil _⟩⟩⟩
      have toExt : ∀ {h : Heap} {L : Addr} {g : Heap} {vs : List Value} {n : Nat} {st : LxS}, News g L h ((pl, lob vs n) :: (D, oD) :: (lxL w.params k st ++ [(md, oM)])) → News g L h (lxL w.params k st ++ [(pl, lob vs n), (D, oD), (md, oM)]) := fun N p hp => N p (by
        rcases List.mem_append.mp hp with hp | hp
        · exact .tail _ (.tail _ (List.mem_append_left _ hp))
        · rcases List.mem_cons.mp hp with rfl | hp
          · exact .head _
          rcases List.mem_cons.mp hp with rfl | hp
          · exact .tail _ (.head _)
          · exact .tail _ (.tail _ (List.mem_append_right _ hp)))
      have ofExt : ∀ {h : Heap} {L : Addr} {g : Heap} {vs : List Value} {n : Nat} {st : LxS}, News g L h (lxL w.params k st ++ [(pl, lob vs n), (D, oD), (md, oM)]) → News g L h ((pl, lob vs n) :: (D, oD) :: (lxL w.params k st ++ [(md, oM)])) := fun N p hp => N p (by
        rcases List.mem_cons.mp hp with rfl | hp
        · exact List.mem_append_right _ (.head _)
        rcases List.mem_cons.mp hp with rfl | hp
        · exact List.mem_append_right _ (.tail _ (.head _))
        rcases List.mem_append.mp hp with hp | hp
        · exact List.mem_append_left _ hp
        · exact List.mem_append_right _ (.tail _ (.tail _ hp)))
      obtain ⟨ld0, hld0, htok0, htxt0, hlen0⟩ := tok_at (lead := []) hw (.inl rfl) 0 (Nat.zero_le _)
      have N8' := news_third N8
      refine token_u k st (rowsC ws) _ _ hk F8 (ext := [(pl, _), (D, oD), (md, oM)]) (toExt N8') (hext _ _) X9 T9 ?hd3 ?hd4 hS htok0 hlen0 fun tw st1 h2 tk2 hS2 F2 N2 => ?_
      case hd3 => ktr_room
      case hd4 => ktr_units
      rw [htxt0]
      have N3 := ofExt N2
      clear N2 N8 F8
      walk_at "my steps"
      refine StopAt.mk ?_
      rename News _ _ _ _ => N4
      rename Fr _ _ _ _ => F4
      obtain ⟨mF, hmF, F5⟩ := fr_name F4
      clear F4
      refine While_inv (n₀ := ws.length) (WJ (odOf z0 z1 z2) w.params k ws pl D md oD oM mF) F5 N4 ⟨0, ld0, st1, _, _, tw, Nat.zero_le _, (Nat.sub_zero _).symm, hld0, hS2, fun _ _ _ => rfl, by rw [hmF]; rfl, places_one, rfl⟩ ?turn
      case turn =>
        rintro n m₁ news₁ h₁ tk₁ F6 N6 ⟨i, lead, st2, vs, nn, tu, hi, rfl, hld, hS3, hm, hmw, hvs, rfl⟩
        clear F5 N4
        rw [two_offB hm, hmw, hmF] at F6
        generalize m₁ (Str.ofString "shut") = vsh at F6
        obtain ⟨vs', up, rfl, hvs'⟩ := strs_snoc2 (places_succ ▸ hvs)
        obtain ⟨hfn, hfl⟩ := walk_facts (od := odOf z0 z1 z2) hw i hi
        have hpl := plc_le hfn (Nat.le_trans hfl (by omega))
        have hvl := strs_len hvs'
        have hpn : (placesTo (odOf z0 z1 z2) ws i).length = i := by unfold placesTo; simp
        have hvl3 : vs'.length ≤ 10 := by omega
        have hoff2 := hoffL st2
        by_cases hlt : i < ws.length
        · have hwy := hw _ (List.getElem_mem hlt)
          have hg : ws.getD i (Str.ofString "") = ws[i] := by simp [List.getD, hlt]
          have hgs := List.getElem?_eq_getElem hlt
          have hts : walkTo (odOf z0 z1 z2) ws (i + 1) = wk (odOf z0 z1 z2) (walkTo (odOf z0 z1 z2) ws i) ws[i] := walkTo_succ hgs
          rw [hg] at F6
          generalize hy : ws[i] = y at *
          walk_at "my steps"
          obtain ⟨hy1, hy2⟩ := isW_len hwy
          refine PySem.P.truthy_str hy1 ?_
          rw [hy2]
          walk_at "my steps"
          refine StopAt.mk ?_
          refine cut_of F6 N6 (Str.ofString "shut") (.bool (!odOf z0 z1 z2 y)) ?hs1 ?hs2
          case hs1 =>
            clear h hS hM P Pmd keep EX hS2 hS3 hext toExt ofExt hat hoffL hm hmw hvs hvs' hfn hts hgs hg hw hall hk
            rcases hwy with hwy | rfl | rfl
            · obtain ⟨cs, v, d, hval, hd9, hct⟩ := name_row (v0 := v0) (v1 := v1) (v2 := v2) o0 o1 o2 r0 r1 r2 hwy
              rw [← hct]
              walk_at "exec Assign"
              walk_at "my steps"
              exact ⟨_, _, rfl, by assumption, by assumption⟩
            · rw [od_dd]
              walk_at "exec Assign"
              walk_at "my steps"
              exact ⟨_, _, rfl, by assumption, by assumption⟩
            · rw [od_d]
              walk_at "exec Assign"
              walk_at "my steps"
              exact ⟨_, _, rfl, by assumption, by assumption⟩
          case hs2 =>
            intro h7 tk7 F7 N7
            clear F6 N6
            dsimp only
            have hps : placesTo (odOf z0 z1 z2) ws (i + 1 + 1) = placesTo (odOf z0 z1 z2) ws (i + 1) ++ [plc (wk (odOf z0 z1 z2) (walkTo (odOf z0 z1 z2) ws i) y)] := by rw [← hts]; exact places_succ
            rw [wk] at hps
            cases hod : odOf z0 z1 z2 y with
            | false =>
              rw [hod] at F7
              rw [hod, if_neg (by decide)] at hps
              dsimp only [Bool.not_false] at F7
              walk_at "my steps"
              rename News _ _ _ _ => N8
              rename Fr _ _ _ _ => F8
              obtain ⟨ld3, hld3, htok3, htxt3, hlen3⟩ := tok_at (lead := lead) hw hld (i + 1) hlt
              have N9 := toExt N8
              show wpAny _ _ (call (Value.ref 162) [Value.ref k.x2]) _ _ _
              refine token_u k st2 _ _ _ hk F8 (ext := [(pl, _), (D, oD), (md, oM)]) N9 (hext _ _) X9 T9 ?hd5 ?hd6 hS3 htok3 hlen3 fun tw3 st3 h8 tk8 hS8 F10 N10 => ?_
              case hd5 => ktr_room
              case hd6 => ktr_units
              rw [htxt3]
              have N11 := ofExt N10
              clear F8 N8 N9 N10
              walk_at "my steps"
              refine WhileStep.intro (by assumption) (by assumption) (Nat.sub_lt_sub_left hlt (Nat.lt_succ_self i)) ⟨i + 1, ld3, st3, _, _, tw3, hlt, rfl, hld3, hS8, fun z h1 h2 => ?_, rfl, ?_, rfl⟩
              · rw [hmF]; exact (if_neg h2).trans ((if_neg h1).trans ((if_neg h2).trans (if_neg h1)))
              · rw [hps]; exact hvs.append' (.cons _ _ .nil)
            | true =>
              rw [hod] at F7
              rw [hod, if_pos rfl, ← fold_step hfn] at hps
              dsimp only [Bool.not_true] at F7
              walk_at "my steps"
              refine StopAt.mk ?_
              rename News _ _ _ _ => N8
              rename Fr _ _ _ _ => F8
              refine join_n (walkTo (odOf z0 z1 z2) ws i) y up tu hfn hwy (by omega) X9 T9 F8.keep ?hj1 ?hj2 fun tj hj tkj ej => ?_
              case hj1 => ktr_room
              case hj2 => ktr_units
              have F9 := ej.fr0 F8
              have N9 := ej.news0 N8
              clear F8 N8
              walk_at "my steps"
              refine StopAt.mk ?_
              rename News _ _ _ _ => N8
              rename Fr _ _ _ _ => F8
              refine norm_n (walkTo (odOf z0 z1 z2) ws i ++ [y]) tj (by simp) (fun z hz => ?_) ?hj5 ?hj6 X9 T9 F8.keep ?hj3 ?hj4 fun tj hj tkj ej2 => ?_
              · rcases List.mem_append.mp hz with hz | hz
                · exact .inl (hfn z hz)
                · rw [List.mem_singleton.mp hz]; exact hwy
              case hj3 => ktr_room
              case hj4 => ktr_units
              case hj5 => exact plc_snoc_le hfn (Nat.le_trans hfl (by omega)) hwy
              case hj6 => simp; omega
              have F9 := ej2.fr0 F8
              have N9 := ej2.news0 N8
              clear F8 N8 ej ej2
              walk_at "my steps"
              rename News _ _ _ _ => N8
              rename Fr _ _ _ _ => F8
              obtain ⟨ld3, hld3, htok3, htxt3, hlen3⟩ := tok_at (lead := lead) hw hld (i + 1) hlt
              have N9 := toExt N8
              show wpAny _ _ (call (Value.ref 162) [Value.ref k.x2]) _ _ _
              refine token_u k st2 _ _ _ hk F8 (ext := [(pl, _), (D, oD), (md, oM)]) N9 (hext _ _) X9 T9 ?hd5 ?hd6 hS3 htok3 hlen3 fun tw3 st3 h8 tk8 hS8 F10 N10 => ?_
              case hd5 => ktr_room
              case hd6 => ktr_units
              rw [htxt3]
              have N11 := ofExt N10
              clear F8 N8 N9 N10
              walk_at "my steps"
              refine WhileStep.intro (by assumption) (by assumption) (Nat.sub_lt_sub_left hlt (Nat.lt_succ_self i)) ⟨i + 1, ld3, st3, _, _, tw3, hlt, rfl, hld3, hS8, fun z h1 h2 => ?_, rfl, ?_, rfl⟩
              · rw [hmF]; exact (if_neg h2).trans ((if_neg h1).trans ((if_neg h2).trans (if_neg h1)))
              · rw [hps]; exact hvs.append' (.cons _ _ .nil)
        · obtain rfl : i = ws.length := by omega
          have hge : ws.getD ws.length (Str.ofString "") = Str.ofString "" := by simp [List.getD]
          rw [hge] at F6
          walk_at "my steps"
          rename News _ _ _ _ => N8
          rename Fr _ _ _ _ => F8
          refine h pl _ _ _ _ hvs (lx_ext2 EX F8 (fun p hp => N8 p (.tail _ (.tail _ hp))) fun q hq => (P q hq).1) ?_ (N8 _ (.head _)).1
          cases hg : s.heap.get? pl with
          | none => rfl
          | some o =>
            have hz := EX pl o hg fun hm => by
              obtain ⟨q, hq, e⟩ := List.mem_map.mp hm
              exact hoff2 ⟨q.1, q.2⟩ (by
                rcases List.mem_append.mp hq with hq | hq
                · exact absurd ((lxAd_eq w.params k st) ▸ List.mem_map_of_mem hq : q.1 ∈ lxAd k) (e ▸ hplk)
                · exact List.mem_append_right _ hq) e
            rw [(N8 _ (.head _)).2.2] at hz
            cases hz
end
/-- the refs to lists of texts, each in the ledger -/
inductive RefsTo (pls : List (Addr × Obj)) : List Value → List (List Str) → Prop
  | nil : RefsTo pls [] []
  | cons {a : Addr} {vs : List Value} {n : Nat} {l : List Str} {rs : List Value} {ls : List (List Str)} (hm : (a, lob vs n) ∈ pls) (hs : StrsAre vs l) (h : RefsTo pls rs ls) : RefsTo pls (.ref a :: rs) (l :: ls)
theorem RefsTo.mono {pls pls' : List (Addr × Obj)} {rs : List Value} {ls : List (List Str)} (h : RefsTo pls rs ls) (hs : ∀ p ∈ pls, p ∈ pls') : RefsTo pls' rs ls := by
  induction h with
  | nil => exact .nil
  | cons hm hs' _ ih => exact .cons (hs _ hm) hs' ih
theorem RefsTo.append {pls : List (Addr × Obj)} {rs rs' : List Value} {ls ls' : List (List Str)} (h : RefsTo pls rs ls) (h' : RefsTo pls rs' ls') : RefsTo pls (rs ++ rs') (ls ++ ls') := by
  induction h with
  | nil => exact h'
  | cons hm hs' _ ih => exact .cons hm hs' ih
theorem RefsTo.len {pls : List (Addr × Obj)} {rs : List Value} {ls : List (List Str)} (h : RefsTo pls rs ls) : rs.length = ls.length := by
  induction h with
  | nil => rfl
  | cons _ _ _ ih => simp [ih]
theorem RefsTo.item {pls : List (Addr × Obj)} {rs : List Value} {ls : List (List Str)} (h : RefsTo pls rs ls) : ∀ (i : Nat) (l : List Str), ls[i]? = some l → ∃ a vs n, rs[i]? = some (.ref a) ∧ (a, lob vs n) ∈ pls ∧ StrsAre vs l := by
  induction h with
  | nil => intro i l hl; cases hl
  | cons hm hs' _ ih =>
    intro i l hl
    cases i with
    | zero => cases hl; exact ⟨_, _, _, rfl, hm, hs'⟩
    | succ i => exact ih i l hl
theorem RefsTo.last {pls : List (Addr × Obj)} : ∀ {rs : List Value} {ls : List (List Str)} {l : List Str}, RefsTo pls rs (ls ++ [l]) → ∃ a vs n rs', rs = rs' ++ [.ref a] ∧ (a, lob vs n) ∈ pls ∧ StrsAre vs l ∧ RefsTo pls rs' ls
  | _, [], _, .cons hm hs .nil => ⟨_, _, _, [], rfl, hm, hs, .nil⟩
  | _, _ :: ls, _, .cons hm hs h => by
    obtain ⟨a, vs, n, rs', rfl, h1, h2, h3⟩ := RefsTo.last (ls := ls) h
    exact ⟨a, vs, n, _ :: rs', rfl, h1, h2, .cons hm hs h3⟩
section
variable {prog : Program} {w : World} {A : Around} {E : Value → Shared → Prop} {s : Shared} {env : Env} {h₀ : Heap} {x : Str} {body : List Stmt} {Q : Flow → Shared → Prop}
/-- a for over a list that the frame has made: the ledger Led c turns, P says what holds of it -/
theorem loop_grow {σ : Type} {l : Addr} {vs : List Value} {nn : Nat} {m₀ : Str → Option Value} (Led : σ → List (Addr × Obj)) (P : Nat → σ → Prop) (c₀ : σ)
    (hh : A.handled = none) (hl : ∀ c, (l, lob vs nn) ∈ Led c) (F : Fr h₀ env.locals s.heap m₀) (N : News h₀ env.locals s.heap (Led c₀)) (hp : P 0 c₀)
    (turn : ∀ c i v I oI h tk, vs[i]? = some v → P i c → (∀ p ∈ Led c, p.1 ≠ I) → Fr h₀ env.locals h (fun z => if z = x then some v else m₀ z) → News h₀ env.locals h ((I, oI) :: Led c) →
      wpAny (model prog w) A (execs body env) (TurnP h₀ env.locals x m₀ Led (fun c' => P (i + 1) c' ∧ ∀ p ∈ Led c', p.1 ≠ I) I oI s Q) E { s with heap := h, toks := tk })
    (done : ∀ c u h tk, P vs.length c → Fr h₀ env.locals h (fun z => if z = x then u else m₀ z) → News h₀ env.locals h (Led c) → Q .next { s with heap := h, toks := tk }) :
    wpAny (model prog w) A (pyIter (.ref l)) (fun it s₂ => LoopAtV prog w A h₀ env x body Q E it s₂) E s := by
  have hls : s.heap.IsList l vs.toArray := ⟨_, (N _ (hl c₀)).1, rfl, _, rfl⟩
  have hlt : l < s.heap.objs.size := Heap.lt_size (N _ (hl c₀)).1
  have hl0 : h₀.get? l = none := (N _ (hl c₀)).2.2
  have hlL : l ≠ env.locals := (N _ (hl c₀)).2.1
  refine wpAny_pyIter_list hls ?_
  have W := Walks.list (prog := prog) (w := w) hh s.heap.objs.size l (Nat.ne_of_lt hlt) vs.toArray
  have hlen : vs.toArray.size = vs.length := by simp
  rw [hlen] at W
  have hI0 : h₀.get? s.heap.objs.size = none := next_is_new F
  let J' : Nat → (Str → Option Value) → List (Addr × Obj) → Prop := fun i m₁ news₁ => ∃ c v', news₁ = Led c ∧ P i c ∧ m₁ = fun z => if z = x then v' else m₀ z
  refine ⟨_, _, _, vs.length, _, _, m₀, Led c₀, J', rfl, W, ?_, ?_, ?_, ⟨⟨_, Heap.get?_push_size _ rfl, rfl, rfl⟩, hls.at fun o e => Heap.get?_push_of_some _ e⟩, F.push _, (fun p hp => ⟨Heap.get?_push_of_some _ (N p hp).1, (N p hp).2⟩), ⟨c₀, m₀ x, rfl, hp, ?_⟩, ?_, ?_⟩
  · intro hm
    rcases List.mem_cons.mp hm with e | hm
    · exact absurd F.ns.lt (e ▸ Nat.lt_irrefl _)
    · exact hlL (List.mem_singleton.mp hm).symm
  · intro b hb
    rw [List.mem_singleton.mp hb]
    exact hI0
  · intro p hp hI
    exact absurd (Heap.lt_size (N p hp).1) ((List.mem_singleton.mp hI) ▸ Nat.lt_irrefl _)
  · funext z
    by_cases h : z = x
    · rw [if_pos h, h]
    · rw [if_neg h]
  · rintro i v m₁ news₁ s₁ own ⟨hh', tk', rfl⟩ hin hP ⟨c, v', rfl, hPc, rfl⟩ hoff hown howng hall hst F₁ N₁
    obtain ⟨⟨oI, hoI, _⟩, _⟩ := hst
    have hIo : (s.heap.objs.size, oI) ∈ own := hall _ (.head _) hI0 _ hoI
    have hP' : vs[i]? = some v := by simpa using hP
    have e : (fun y => if y = x then some v else (fun z => if z = x then v' else m₀ z) y) = fun z => if z = x then some v else m₀ z := by
      funext z
      by_cases h : z = x
      · rw [if_pos h, if_pos h]
      · rw [if_neg h, if_neg h]; exact if_neg h
    rw [e] at F₁
    have N₂ : News h₀ env.locals hh' ((s.heap.objs.size, oI) :: Led c) := fun p hp => by
      rcases List.mem_cons.mp hp with rfl | hp
      · exact N₁ _ (List.mem_append_left _ hIo)
      · exact N₁ _ (List.mem_append_right _ hp)
    refine wpAny_mono (turn c i v s.heap.objs.size oI hh' tk' hP' hPc (fun p hp h => hoff p hp (by rw [h]; exact .head _)) F₁ N₂) (fun f s₂ p => ?_) fun _ _ e => e
    have fin : TurnE h₀ env.locals x m₀ Led (fun c' => P (i + 1) c' ∧ ∀ p ∈ Led c', p.1 ≠ s.heap.objs.size) s.heap.objs.size oI s s₂ → LoopStepU h₀ env.locals [s.heap.objs.size] own (J' (i + 1)) { s with heap := hh', toks := tk' } .next s₂ := by
      rintro ⟨c', v₂, h', tk, e, F', N', hp', hno⟩
      refine ⟨rfl, h', tk, _, Led c', e, F', fun p hp => ?_, fun p hp hI => ?_, c', v₂, rfl, hp', rfl⟩
      · rcases List.mem_append.mp hp with hp | hp
        · rcases List.mem_cons.mp (hown p hp) with h1 | h1
          · have : p = (s.heap.objs.size, oI) := by
              have h2 := howng p hp
              rw [h1] at h2
              exact Prod.ext h1 (Option.some.inj (h2.symm.trans hoI))
            rw [this]; exact N' _ (.head _)
          · have h1 := List.mem_singleton.mp h1
            have : p = (l, lob vs nn) := by
              have h2 := howng p hp
              rw [h1] at h2
              exact Prod.ext h1 (Option.some.inj (h2.symm.trans (N₁ _ (List.mem_append_right _ (hl c))).1))
            rw [this]; exact N' _ (.tail _ (hl c'))
        · exact N' _ (.tail _ hp)
      · exact hno p hp (List.mem_singleton.mp hI)
    cases f with
    | ret v => exact .ret p
    | brk => exact .brk p
    | next => exact .next (fin p)
    | cont => exact .cont (fin p)
  · rintro h' tk m' news' F' N' _ ⟨c, v', rfl, hPc, rfl⟩
    exact done c v' h' tk hPc F' N'
end
theorem strs_dropLast : ∀ {vs : List Value} {ys : List Str}, StrsAre vs ys → StrsAre vs.dropLast ys.dropLast
  | _, _, .nil => .nil
  | _, _, .cons _ _ .nil => .nil
  | _, _, .cons y t (.cons y2 t2 h) => .cons y t (strs_dropLast (.cons y2 t2 h))
theorem rows34 : True := by
  k_with "my sub" => (first | exact List.forall_mem_nil _ | (refine List.forall_mem_cons.mpr ⟨?_, ?_⟩; k_mem; walk_at "my sub") | exact fun p hp => by (repeat (first | exact hp | apply List.Mem.tail)))
  trivial
theorem fresh_pre {pre : List (Addr × Obj)} {h g : Heap} {D : Addr} (EX : Ext (pre.map (·.1)) h g) (hg : g.get? D = none) (hp : ∀ p ∈ pre, p.1 ≠ D) : h.get? D = none := by
  cases e : h.get? D with
  | none => rfl
  | some o =>
    rw [EX D o e fun hm => by obtain ⟨q, hq, e⟩ := List.mem_map.mp hm; exact hp q hq e] at hg
    cases hg
theorem dec_f {z : Int} (h : z.fmod 2 = 0) : decide (z % 2 ≠ 0) = false := by rw [Int.fmod_eq_emod_of_nonneg z (by decide)] at h; simp [h]
theorem dec_t {z : Int} (h : z.fmod 2 ≠ 0) : decide (z % 2 ≠ 0) = true := by rw [Int.fmod_eq_emod_of_nonneg z (by decide)] at h; simp [h]
theorem news_dup {h₀ h : Heap} {L : Addr} {a b c d e : Addr × Obj} {r : List (Addr × Obj)} (N : News h₀ L h (a :: b :: c :: d :: r)) (he : e ∈ r) : News h₀ L h (a :: b :: c :: d :: e :: r) := fun p hp => N p (by
  rcases List.mem_cons.mp hp with rfl | hp
  · exact .head _
  rcases List.mem_cons.mp hp with rfl | hp
  · exact .tail _ (.head _)
  rcases List.mem_cons.mp hp with rfl | hp
  · exact .tail _ (.tail _ (.head _))
  rcases List.mem_cons.mp hp with rfl | hp
  · exact .tail _ (.tail _ (.tail _ (.head _)))
  rcases List.mem_cons.mp hp with rfl | hp
  · exact .tail _ (.tail _ (.tail _ (.tail _ he)))
  · exact .tail _ (.tail _ (.tail _ (.tail _ hp))))
theorem range_snoc {α : Type} (f : Nat → α) (i : Nat) : (List.range (i + 1)).map f = (List.range i).map f ++ [f i] := by rw [List.range_succ, List.map_append]; rfl
theorem strs_of : ∀ {vs : List Value} {ys : List Str} {i : Nat} {v : Value}, StrsAre vs ys → vs[i]? = some v → ∃ y t, v = .str y t ∧ ys[i]? = some y
  | _, _, 0, _, .cons y t _, rfl => ⟨y, t, rfl, rfl⟩
  | _, _, i + 1, _, .cons _ _ h, hv => strs_of (i := i) h hv
theorem name_mode {z0 z1 z2 : Int} {t0 t1 t2 : Tok} {y : Str} (hy : isN y) : ∃ z t, valueAt (mk3 (.int z0 t0) (.int z1 t1) (.int z2 t2)) y = some (.int z t) ∧ odOf z0 z1 z2 y = decide (z % 2 ≠ 0) := by
  rcases hy with rfl | rfl | rfl
  · exact ⟨_, _, va0, od_ab⟩
  · exact ⟨_, _, va1, od_a_b⟩
  · exact ⟨_, _, va2, od_cd⟩
section
variable {w : World} {p : Program} {loose : List Str} {mean : ExcName → Option Value} {mg mb : Str → Option Value} {dp un : Nat} {fr : Option (List Env)} {gd : Option (List Code)} {h₀ : Heap} {s : Shared} {Q E : Value → Shared → Prop}
theorem names_c (wl md : Addr) (wvs : List Value) (nw : Nat) (oM : Obj) (ws : List Str) (z0 z1 z2 : Int) (t0 t1 t2 : Tok) (X : (hd.heap_39 w.params).In h₀) (T : Top p loose mean mg mb h₀) (keep : ∀ b o, h₀.get? b = some o → s.heap.get? b = some o) (hdp : dp + 40 < recursionLimit) (hun : un + 200 < cLine)
    (P : ∀ q ∈ [(wl, lob wvs nw), (md, oM)], s.heap.get? q.1 = some q.2 ∧ h₀.get? q.1 = none) (hW : StrsAre wvs ws) (hw : ∀ y ∈ ws, isW y) (hwl : ws.length ≤ 10) (hM : oM.IsDictOf (strKind PW w) (mk3 (.int z0 t0) (.int z1 t1) (.int z2 t2))) (hMs : (md == sysModules) = false)
    (h : ∀ r rs n pls h' tk', RefsTo pls rs ((List.range (ws.length + 1)).map (walkTo (odOf z0 z1 z2) ws)) → Ext [] s.heap h' → (∀ q ∈ (r, lob rs n) :: pls, h'.get? q.1 = some q.2 ∧ s.heap.get? q.1 = none) → Q (.ref r) { s with heap := h', toks := tk' }) :
    wpAny (model PW w) (AR dp fr gd un) (call (.ref 242) [.ref wl, .ref md]) Q E s := by
  k_dflt (walk_at "my enter")
  rename Ext _ _ _ => EX
  walk_at "my steps"
  refine StopAt.mk ?_
  rename News _ _ _ _ => N8
  rename Fr _ _ _ _ => F8
  (with_unfolding_all refine' For_invVF F8 ?k1 ?k2 ?_; (case k1 => exact rfl); (case k2 => exact rfl))
  walk_at "my steps"
  rename News _ _ _ _ => N8
  rename Fr _ _ _ _ => F8
  obtain ⟨lr, rfl⟩ := led_one N8
  obtain ⟨la, rfl⟩ := led_one (fun p hp => N8 p (.tail _ hp))
  rename _ ∧ _ ∧ _ => l1
  obtain ⟨q1, q2, q3⟩ := l1
  rename _ ∧ _ => l2
  obtain ⟨q4, q5⟩ := l2
  refine loop_grow (σ := List Value × Nat × List (Addr × Obj)) (fun c => (lr, lob c.1 c.2.1) :: (wl, lob wvs nw) :: (md, oM) :: c.2.2) (fun i c => RefsTo c.2.2 c.1 ((List.range (i + 1)).map (walkTo (odOf z0 z1 z2) ws)) ∧ (∀ p ∈ c.2.2, p.1 ≠ lr ∧ s.heap.get? p.1 = none)) ([.ref la], 0, [(la, lob [] 0)])
    rfl (fun _ => .tail _ (.head _)) F8 (fun p hp => N8 p ?start0) ?start ?turn ?done
  case start0 =>
    rcases List.mem_cons.mp hp with rfl | hp
    · exact .head _
    rcases List.mem_cons.mp hp with rfl | hp
    · exact .tail _ (.tail _ (.head _))
    rcases List.mem_cons.mp hp with rfl | hp
    · exact .tail _ (.tail _ (.tail _ (.head _)))
    rw [List.mem_singleton.mp hp]
    exact .tail _ (.head _)
  case start =>
    refine ⟨.cons (.head _) .nil .nil, List.forall_mem_cons.mpr ⟨⟨Nat.ne_of_lt q1, fresh_pre EX (N8 _ (.tail _ (.head _))).2.2 (List.forall_mem_cons.mpr ⟨Nat.ne_of_lt q4, List.forall_mem_cons.mpr ⟨Nat.ne_of_lt q5, List.forall_mem_nil _⟩⟩)⟩, List.forall_mem_nil _⟩⟩
  case turn =>
    rintro ⟨rs, n, pls⟩ i v I oI hh tkk hv ⟨hrs, hpo⟩ hne F N
    dsimp only at hrs hpo hne F N
    obtain ⟨y, ty, rfl, hy⟩ := strs_of hW hv
    have hi : i < ws.length := (List.getElem?_eq_some_iff.mp hy).1
    have hyW := hw y (List.mem_of_getElem? hy)
    rw [range_snoc] at hrs
    obtain ⟨a, vs, na, rs', rfl, ha, hsa, hrs'⟩ := hrs.last
    have hts : walkTo (odOf z0 z1 z2) ws (i + 1) = wk (odOf z0 z1 z2) (walkTo (odOf z0 z1 z2) ws i) y := walkTo_succ hy
    obtain ⟨hfn, hfl⟩ := walk_facts (od := odOf z0 z1 z2) hw i (by omega)
    have hvl := strs_len hsa
    have hvl2 : vs.length ≤ 100 := by omega
    have hrl := hrs'.len
    rw [List.length_map, List.length_range] at hrl
    have hrl2 : rs'.length ≤ 100 := by omega
    have hpo1 : ∀ p ∈ pls, p.1 ≠ lr := fun p hp => (hpo p hp).1
    have hal : (@Ne Nat a lr) := hpo1 _ ha
    obtain ⟨ne1, hne'⟩ := List.forall_mem_cons.mp hne
    obtain ⟨ne2, hne''⟩ := List.forall_mem_cons.mp hne'
    obtain ⟨ne3, hneP⟩ := List.forall_mem_cons.mp hne''
    have neA := hneP _ ha
    dsimp only at ne1 ne2 ne3 neA
    have N2 : News _ _ hh ((I, oI) :: (lr, lob (rs' ++ [Value.ref a]) n) :: (wl, lob wvs nw) :: (md, oM) :: (a, lob vs na) :: pls) := news_dup N ha
    clear N hne hne' hne''
    have hpls : RefsTo pls (rs' ++ [Value.ref a]) ((List.range (i + 1)).map (walkTo (odOf z0 z1 z2) ws)) := by rw [range_snoc]; exact hrs
    rw [range_snoc _ (i + 1), hts, wk]
    rcases hyW with hyN | rfl | rfl
    · obtain ⟨zz, tz, hval, hod⟩ := name_mode (z0 := z0) (z1 := z1) (z2 := z2) (t0 := t0) (t1 := t1) (t2 := t2) hyN
      have hn1 : y ≠ Str.ofString ".." := isN_ne hyN (by decide +kernel)
      have hn2 : y ≠ Str.ofString "." := isN_ne hyN (by decide +kernel)
      rw [hod]
      walk_at "my steps"
      · rename Int.fmod _ _ = _ => hz
        rw [dec_f hz, if_neg (by decide)]
        exact TurnE.intro ((rs' ++ [Value.ref a]) ++ [Value.ref a], n + 1, pls) (by assumption) (by assumption) (fun z hz => if_neg hz) (by walk_at "my sub")
          ⟨⟨hpls.append (.cons ha hsa .nil), hpo⟩, List.forall_mem_cons.mpr ⟨ne1, List.forall_mem_cons.mpr ⟨ne2, List.forall_mem_cons.mpr ⟨ne3, hneP⟩⟩⟩⟩
      · rename Int.fmod _ _ ≠ _ => hz
        rw [dec_t hz, if_pos rfl, nstep_name hyN]
        rename _ < _ ∧ I < _ ∧ lr < _ ∧ wl < _ ∧ _ => l5
        rename I < _ ∧ lr < _ ∧ wl < _ ∧ md < _ ∧ _ => l4
        obtain ⟨r0, r1, r2, r3, r4, r5, r6⟩ := l5
        have hal' := Ne.symm hal
        have r2' : (@Ne Nat _ lr) := Nat.ne_of_gt r2
        have r2'' : (@Ne Nat _ lr) := Nat.ne_of_gt l4.2.1
        walk_at "my steps"
        rename News _ _ _ _ => N3
        exact TurnE.intro ((rs' ++ [Value.ref a]) ++ [Value.ref _], n + 1, (_, lob (vs ++ [Value.str _ ty]) 0) :: pls) (by assumption) N3 (fun z hz => if_neg hz) (by walk_at "my sub")
          ⟨⟨(hpls.mono fun _ h => .tail _ h).append (.cons (.head _) (hsa.append' (.cons _ _ .nil)) .nil), List.forall_mem_cons.mpr ⟨⟨r2', fresh_pre EX (N3 _ (by k_mem)).2.2 (List.forall_mem_cons.mpr ⟨Nat.ne_of_lt r3, List.forall_mem_cons.mpr ⟨Nat.ne_of_lt r4, List.forall_mem_nil _⟩⟩)⟩, hpo⟩⟩,
            List.forall_mem_cons.mpr ⟨ne1, List.forall_mem_cons.mpr ⟨ne2, List.forall_mem_cons.mpr ⟨ne3, List.forall_mem_cons.mpr ⟨Nat.ne_of_gt r1, hneP⟩⟩⟩⟩⟩
    · rw [od_dd, if_pos rfl, nstep_dd]
      walk_at "my steps"
      rename I < _ ∧ lr < _ ∧ wl < _ ∧ md < _ ∧ _ => l4
      obtain ⟨r1, r2, r3, r4, r5, r6⟩ := l4
      have hal' := Ne.symm hal
      have r2' : (@Ne Nat _ lr) := Nat.ne_of_gt r2
      walk_at "my steps"
      rename News _ _ _ _ => N3
      exact TurnE.intro ((rs' ++ [Value.ref a]) ++ [Value.ref _], n + 1, (_, lob (kms_pick vs none (some (-1))) 0) :: pls) (by assumption) N3 (fun z hz => if_neg hz) (by walk_at "my sub")
        ⟨⟨(hpls.mono fun _ h => .tail _ h).append (.cons (.head _) (by rw [pick_last]; exact strs_dropLast hsa) .nil), List.forall_mem_cons.mpr ⟨⟨r2', fresh_pre EX (N3 _ (by k_mem)).2.2 (List.forall_mem_cons.mpr ⟨Nat.ne_of_lt r3, List.forall_mem_cons.mpr ⟨Nat.ne_of_lt r4, List.forall_mem_nil _⟩⟩)⟩, hpo⟩⟩,
          List.forall_mem_cons.mpr ⟨ne1, List.forall_mem_cons.mpr ⟨ne2, List.forall_mem_cons.mpr ⟨ne3, List.forall_mem_cons.mpr ⟨Nat.ne_of_gt r1, hneP⟩⟩⟩⟩⟩
    · rw [od_d, if_pos rfl, nstep_d]
      walk_at "my steps"
      exact TurnE.intro ((rs' ++ [Value.ref a]) ++ [Value.ref a], n + 1, pls) (by assumption) (by assumption) (fun z hz => if_neg hz) (by walk_at "my sub")
        ⟨⟨hpls.append (.cons ha hsa .nil), hpo⟩, List.forall_mem_cons.mpr ⟨ne1, List.forall_mem_cons.mpr ⟨ne2, List.forall_mem_cons.mpr ⟨ne3, hneP⟩⟩⟩⟩
  case done =>
    rintro ⟨rs, n, pls⟩ u h9 tk9 ⟨hrs, hpo⟩ F9 N9
    dsimp only at hrs hpo F9 N9
    clear F8 N8
    rw [strs_len hW] at hrs
    dsimp only
    walk_at "my steps"
    rename News _ _ _ _ => N3
    rename Fr _ _ _ _ => F3
    refine h lr rs n pls _ _ hrs (ext_pre EX F3 (fun q hq => (P q hq).1) fun q hq _ => ?_) (List.forall_mem_cons.mpr ⟨⟨(N3 _ (.head _)).1, fresh_pre EX (N3 _ (.head _)).2.2 (List.forall_mem_cons.mpr ⟨Nat.ne_of_lt q2, List.forall_mem_cons.mpr ⟨Nat.ne_of_lt q3, List.forall_mem_nil _⟩⟩)⟩, fun q hq => ⟨(N3 q (.tail _ (.tail _ (.tail _ hq)))).1, (hpo q hq).2⟩⟩)
    exact (N3 q (by
      rcases List.mem_cons.mp hq with rfl | hq
      · exact .tail _ (.head _)
      · rw [List.mem_singleton.mp hq]; exact .tail _ (.tail _ (.head _)))).1
end
open PyProof.Rows.LCg (NsObj ns_obj)
section
variable {prog : Program} {w : World} {A : Around} {E : Value → Shared → Prop} {s : Shared} {h₀ : Heap} {L : Addr} {m : Str → Option Value} {env : Env}
theorem fr_size {h : Heap} (F : Fr h₀ L h m) : h₀.objs.size ≤ h.objs.size := by
  obtain ⟨o, es, ep, e, _⟩ := F.ns
  exact Nat.le_trans F.above (Nat.le_of_lt (Heap.lt_size e))
/-- a comprehension from its iterator on: the thing that grows stands at D, the other ledger is sub c -/
theorem comp_blockB {σ : Type} {e tgt : PySem.Expr} {body : Value → Env → Sem Unit} {p₀ : Pos} (KD : CompKind prog w A e tgt body p₀) {newAcc : Sem Value} {o₀ : Obj} (hf₀ : o₀.isFreed = false)
    (hnew : ∀ (Q : Value → Shared → Prop) (s : Shared), Q (.ref s.heap.objs.size) { s with heap := s.heap.push o₀ } → wpAny (model prog w) A newAcc Q E s)
    {I : Addr} {fp : List Addr} {n : Nat} {P : Nat → Value → Prop} {St : Nat → Heap → Prop} {scope : Scope} {cl : List (Str × Addr)} {RR : Value → Addr → Result → Shared → Prop}
    (W : Walks prog w A I fp [I] n P St) (oD : σ → Obj) (sub : σ → List (Addr × Obj)) (J : Nat → σ → Prop) (c₀ : σ) (h0 : oD c₀ = o₀) (hIo : ∀ i h, St i h → ∃ o, h.get? I = some o)
    (hSt : ∀ i h h' o D c, St i h → h.get? I = some o → h'.get? I = some o → (∀ b o, h₀.get? b = some o → h'.get? b = some o) → News h₀ L h' ((D, oD c) :: sub c) → J i c → St i h')
    (htgt : ∀ v, letOwnedTupleGo tgt (.ref I) v = pure ()) (hst : St 0 s.heap) (hfp : ∀ b ∈ fp, b < s.heap.objs.size) (hcell : ∀ y ∈ scope.names, y.2 ≠ .cell) (hkind : scope.kind = .function)
    (F : Fr h₀ L s.heap m) (N : News h₀ L s.heap (sub c₀)) (hIL : I ≠ L) (hI0 : h₀.get? I = none) (offI : ∀ p ∈ sub c₀, p.1 ≠ I) (hJ : J 0 c₀)
    (turn : ∀ C D c i v oI oC m₂ h tk, i < n → P i v → J i c → NsObj oC m₂ → COff I C D (sub c) → ((@Ne Nat I C) ∧ (@Ne Nat I D) ∧ (@Ne Nat C D)) → Fr h₀ L h m → News h₀ L h ((I, oI) :: (C, oC) :: (D, oD c) :: sub c) →
      wpAny (model prog w) A (assign tgt (compEnvC scope cl C env) v >>= fun _ => body (.ref D) (compEnvC scope cl C env)) (fun _ s₂ => CTurn h₀ L m (fun c => (D, oD c) :: sub c) (fun c => J (i + 1) c ∧ COff I C D (sub c)) I oI C s s₂) (fun _ _ => False) { s with heap := h, toks := tk })
    (hRR : ∀ D C c m' h tk, h₀.objs.size ≤ D → J n c → Fr h₀ L h m → News h₀ L h ((D, oD c) :: sub c) → (∀ p ∈ sub c, p.1 ≠ D) → h.Ns C m' → h₀.get? C = none → h₀.get? D = none → C ≠ L → D ≠ L → C ≠ D → (∀ p ∈ sub c, p.1 ≠ C) → RR (.ref D) C (.ok .next) { s with heap := h, toks := tk }) :
    wpAny (model prog w) A newAcc (fun acc s₃ => wpAny (model prog w) A (newFunctionEnv scope env.globals cl [] env.qual none .none (some env)) (fun cenv s₄ =>
      codeAny (model prog w) A (.compStart e 0 (.ref I) acc { cenv with scope := relabel scope env }) (RR acc cenv.locals) s₄) E s₃) E s := by
  refine hnew _ _ (wpAny_newFunctionEnv hcell (by intro y hy; simp at hy) (fun h₁ hns₁ hsb₁ => ?_) hkind)
  dsimp only at hns₁ hsb₁ ⊢
  generalize hH2 : s.heap.push o₀ = H2 at hns₁ hsb₁ ⊢
  have hC : H2.objs.size = s.heap.objs.size + 1 := by rw [← hH2, Heap.size_push]
  have hDC : s.heap.objs.size ≠ H2.objs.size := by rw [hC]; exact Nat.ne_of_lt (Nat.lt_succ_self _)
  have below : ∀ b, b < s.heap.objs.size → b ≠ H2.objs.size ∧ b ≠ s.heap.objs.size := fun b hb => ⟨by rw [hC]; exact Nat.ne_of_lt (Nat.lt_succ_of_lt hb), Nat.ne_of_lt hb⟩
  have hIlt : I < s.heap.objs.size := hfp I (W.sub I (List.mem_singleton.mpr rfl))
  have old : ∀ b o, s.heap.get? b = some o → h₁.get? b = some o := fun b o e => hsb₁.extBut b o (below b (Heap.lt_size e)).1 (Heap.get?_push_of_some _ (hH2 ▸ Heap.get?_push_of_some _ e))
  have hacc : h₁.get? s.heap.objs.size = some o₀ := hsb₁.extBut _ _ hDC (Heap.get?_push_of_some _ (hH2 ▸ Heap.get?_push_size _ hf₀))
  have nD := new_at (m := m) F (Nat.le_refl s.heap.objs.size)
  have nC := new_at (m := m) F (b := H2.objs.size) (by rw [hC]; exact Nat.le_succ _)
  have F₁ : Fr h₀ L h₁ m := F.keeps old
  have offN : COff I H2.objs.size s.heap.objs.size (sub c₀) := fun p hp => ⟨offI p hp, below _ (Heap.lt_size (N p hp).1)⟩
  have N₁ : News h₀ L h₁ ((s.heap.objs.size, oD c₀) :: sub c₀) := fun p hp => by
    rcases List.mem_cons.mp hp with rfl | hp
    · exact ⟨by rw [h0]; exact hacc, nD⟩
    · exact ⟨old _ _ (N p hp).1, (N p hp).2⟩
  have loop : ∀ s₃ : Shared, s₃ = { s with heap := h₁, toks := s.toks + ([] : List (Str × Value)).length } → codeAny (model prog w) A (.compLoop e 0 (.ref I) (.ref s.heap.objs.size) (compEnvC scope cl H2.objs.size env)) (RR (.ref s.heap.objs.size) H2.objs.size) s₃ := by
    rintro s₃ rfl
    refine comp_loop KD (P := P) (St := St) (s := { s with heap := h₁, toks := s.toks + ([] : List (Str × Value)).length }) W (fun c => (s.heap.objs.size, oD c) :: sub c) (fun i c => J i c ∧ COff I H2.objs.size s.heap.objs.size (sub c)) c₀ hIo ?_ htgt (W.frame _ _ _ hst fun b _ o e => old b o e) F₁ hns₁ N₁ nC.1 nC.2 hIL hI0 (below I hIlt).1
      (fun i c hj p hp => ?_) ⟨hJ, offN⟩ (fun c i v oI oC m₂ h tk hi hP hj hoC F' N' => ?_) (fun c oC m₂ h tk hj hoC F' N' => ?_)
    · exact fun i h h' o c a b c' d e' j => hSt i h h' o _ c a b c' d e' j.1
    · rcases List.mem_cons.mp hp with rfl | hp
      · exact ⟨Ne.symm (below I hIlt).2, hDC⟩
      · exact ⟨(hj.2 p hp).1, (hj.2 p hp).2.1⟩
    · refine wpAny_mono (turn H2.objs.size s.heap.objs.size c i v oI oC m₂ h tk hi hP hj.1 hoC hj.2 ⟨(below I hIlt).1, (below I hIlt).2, Ne.symm hDC⟩ F' N') (fun _ s₂ q => ?_) fun _ _ x => x
      obtain ⟨c', oC', m', h', tk', e1, q⟩ := q
      exact ⟨c', oC', m', h', tk', e1, q⟩
    · exact hRR _ _ c m₂ h tk (fr_size F) hj.1 F' (fun p hp => N' p (.tail _ hp)) (fun p hp => (hj.2 p hp).2.2) (hoC.ns (N' _ (.head _)).1) nC.2 nD.2 nC.1 nD.1 (Ne.symm hDC) fun p hp => (hj.2 p hp).2.1
  exact KD.start _ _ _ _ _ (loop _ rfl) (W.self 0 _ _ _ (W.frame _ _ _ hst fun b _ o e => old b o e) (loop _ rfl))

theorem comp_assignB {σ : Type} {e tgt iter : PySem.Expr} {ifs : List PySem.Expr} {rest : List Comprehension} {body : Value → Env → Sem Unit} {p₀ pos : Pos} (KD : CompKind prog w A e tgt body p₀) {newAcc : Sem Value} {o₀ : Obj} (hf₀ : o₀.isFreed = false)
    (hnew : ∀ (Q : Value → Shared → Prop) (s : Shared), Q (.ref s.heap.objs.size) { s with heap := s.heap.push o₀ } → wpAny (model prog w) A newAcc Q E s)
    {scope : Scope} {cl : List (Str × Addr)} {Q : Flow → Shared → Prop} {y : Str} {py spos : Pos} (hLe : env.locals = L)
    (hev : evalThenUse e env = fun use => (comprehension e scope env pos newAcc false (eval iter env) (some use) >>= fun _ => pure ()))
    (hsw : swapsWith e (some (.Name y py)) spos.line env = pure true) (hy : env.kindOf y = some .local) (hp : (env.scope.kind == .class || (env.scope.kind == .module && env.locals != env.globals)) = false)
    (hcl : clausesOf e = ⟨tgt, iter, ifs, 0⟩ :: rest) (hclos : closureFor scope env = pure cl) (hcell : ∀ y ∈ scope.names, y.2 ≠ .cell) (hkind : scope.kind = .function)
    (hnames : ∀ y ∈ scope.names, y.2 = .local → scope.names.lookup y.1 = some .local)
    (h : wpAny (model prog w) A (eval iter env) (fun xv s₁ => wpAny (model prog w) A (pyIter xv) (fun it s₂ => ∃ (I : Addr) (fp : List Addr) (n : Nat) (P : Nat → Value → Prop) (St : Nat → Heap → Prop) (oD : σ → Obj) (sub : σ → List (Addr × Obj)) (J : Nat → σ → Prop) (c₀ : σ),
      it = .ref I ∧ Walks prog w A I fp [I] n P St ∧ oD c₀ = o₀ ∧ (∀ i h, St i h → ∃ o, h.get? I = some o) ∧
      (∀ i h h' o D c, St i h → h.get? I = some o → h'.get? I = some o → (∀ b o, h₀.get? b = some o → h'.get? b = some o) → News h₀ L h' ((D, oD c) :: sub c) → J i c → St i h') ∧
      (∀ v, letOwnedTupleGo tgt (.ref I) v = pure ()) ∧ St 0 s₂.heap ∧ (∀ b ∈ fp, b < s₂.heap.objs.size) ∧ Fr h₀ L s₂.heap m ∧ News h₀ L s₂.heap (sub c₀) ∧ I ≠ L ∧ h₀.get? I = none ∧ (∀ p ∈ sub c₀, p.1 ≠ I) ∧ J 0 c₀ ∧
      (∀ C D c i v oI oC m₂ h tk, i < n → P i v → J i c → NsObj oC m₂ → COff I C D (sub c) → ((@Ne Nat I C) ∧ (@Ne Nat I D) ∧ (@Ne Nat C D)) → Fr h₀ L h m → News h₀ L h ((I, oI) :: (C, oC) :: (D, oD c) :: sub c) →
        wpAny (model prog w) A (assign tgt (compEnvC scope cl C env) v >>= fun _ => body (.ref D) (compEnvC scope cl C env)) (fun _ s₃ => CTurn h₀ L m (fun c => (D, oD c) :: sub c) (fun c => J (i + 1) c ∧ COff I C D (sub c)) I oI C s₂ s₃) (fun _ _ => False) { s₂ with heap := h, toks := tk }) ∧
      (∀ D c h tk, J n c → Fr h₀ L h (fun z => if z = y then some (.ref D) else m z) → News h₀ L h ((D, oD c) :: sub c) → (∀ p ∈ sub c, p.1 ≠ D) → h₀.objs.size ≤ D → Q .next { s₂ with heap := h, toks := tk })) E s₁) E s)
    (hs : ∀ x, foldedSetIterable iter env x = pure x := by intro _; rfl) :
    wpAny (model prog w) A (exec (.Assign [.Name y py] e spos) env) Q E s := by
  subst hLe
  rw [exec_Assign_Name_used _ _ _ _ hsw, hev]
  refine wpAny_bind (wpAny_standAt (wpAny_bind (wpAny_bind (wpAny_mono (wpAny_comprehension_free (use := some (assign (.Name y py) env)) (Q := fun _ s' => Q .next s') hcl hs hclos hkind hnames
    (wpAny_mono h (fun xv s₁ h₁ => wpAny_mono h₁ (fun it s₂ h₂ => ?_) fun _ _ e => e) fun _ _ e => e)) (fun _ s' hq => wpAny_pure (wpAny_pure hq)) fun _ _ e => e))))
  obtain ⟨I, fp, n, P, St, oD, sub, J, c₀, rfl, W, a1, a2, a3, a4, a5, a6, F, N, a7, a8, a9, a10, turn, fin⟩ := h₂
  refine comp_blockB KD hf₀ hnew W oD sub J c₀ a1 a2 a3 a4 a5 a6 hcell hkind F N a7 a8 a9 a10 turn fun D C c m' h tk hDb hj F' N' offD hn c1 c2 c3 c4 c5 offC => ?_
  show wpAny _ A (assign (.Name y py) env (.ref D)) _ _ _
  refine wpAny_assign_Name (wpAny_storeName_local hy F'.ns (fun h₂ hn₂ hs₂ => ?_) hp)
  have hL₀ : h₀.get? env.locals = none := Heap.get?_none_of_le F'.above
  have F₂ : Fr h₀ env.locals h₂ (fun z => if z = y then some (.ref D) else m z) := ⟨hn₂, fun b o e => hs₂.extBut b o (fun q => by rw [q, hL₀] at e; cases e) (F'.keep b o e), F'.above⟩
  refine ⟨m', hn.sameBut hs₂ c3, fun h'' hs'' => fin D c h'' _ hj (F₂.change hs'' c3 c1) (fun p hp => ?_) offD hDb⟩
  have z : h₂.get? p.1 = some p.2 := hs₂.extBut _ _ (N' p hp).2.1 (N' p hp).1
  refine ⟨hs''.extBut _ _ ?_ z, (N' p hp).2⟩
  rcases List.mem_cons.mp hp with rfl | hp
  · exact Ne.symm c5
  · exact offC p hp
noncomputable def DictSrcB (prog : Program) (w : World) (A : Around) (E : Value → Shared → Prop) (h₀ : Heap) (L : Addr) (m : Str → Option Value) (env : Env) (kx vx : PySem.Expr) (x y : Str) (scope : Scope) (cl : List (Str × Addr)) (s : Shared) (Q : Flow → Shared → Prop) (v₀ : Value) (s₀ : Shared) : Prop :=
  ∃ (r : Addr) (n : Nat) (t u v : Tok) (news : List (Addr × Obj)) (h : Heap) (tk : Nat) (R : Nat → List (Str × Value) → Prop), v₀ = .ref r ∧ s₀ = { s with heap := h, toks := tk } ∧ Fr h₀ L h m ∧ News h₀ L h news ∧ IsRange h r 0 (n : Int) 1 t u v ∧ n ≤ 100 ∧ R 0 [] ∧
    (∀ I C D i t oI oC oD m₂ kvs h tk, i < n → R i kvs → oD.IsDictOf (strKind prog w) kvs → NsObj oC m₂ → m₂ x = some (.int (i : Int) t) → (∀ p ∈ news, p.1 ≠ I ∧ p.1 ≠ C ∧ p.1 ≠ D) → ((@Ne Nat I C) ∧ (@Ne Nat I D) ∧ (@Ne Nat C D)) → Fr h₀ L h m → News h₀ L h ((I, oI) :: (C, oC) :: (D, oD) :: news) →
      wpAny (model prog w) A (eval kx (compEnvC scope cl C env)) (fun kv s₂ => ∃ kk kt, kv = Value.str kk kt ∧ wpAny (model prog w) A (eval vx (compEnvC scope cl C env)) (EltOK h₀ L m s ((I, oI) :: (C, oC) :: (D, oD) :: news) fun y => R (i + 1) (stored kvs kk y)) (fun _ _ => False) s₂) (fun _ _ => False) { s with heap := h, toks := tk }) ∧
    ∀ D oD kvs h tk, R n kvs → oD.IsDictOf (strKind prog w) kvs → Fr h₀ L h (fun z => if z = y then some (.ref D) else m z) → News h₀ L h ((D, oD) :: news) → (∀ p ∈ news, p.1 ≠ D) → h₀.objs.size ≤ D → Q .next { s with heap := h, toks := tk }
theorem comp_dictB {kx vx iter : PySem.Expr} {x y : Str} {px py pos spos : Pos} {scope : Scope} {cl : List (Str × Addr)} {Q : Flow → Shared → Prop}
    (_F : Fr h₀ L s.heap m) (hLe : env.locals = L) (hsw : swapsWith (.DictComp kx vx [⟨.Name x px, iter, [], 0⟩] scope pos) (some (.Name y py)) spos.line env = pure true) (hy : env.kindOf y = some .local) (hp : (env.scope.kind == .class || (env.scope.kind == .module && env.locals != env.globals)) = false)
    (hclos : closureFor scope env = pure cl) (hcell : ∀ y ∈ scope.names, y.2 ≠ .cell) (hkind : scope.kind = .function)
    (hnames : ∀ y ∈ scope.names, y.2 = .local → scope.names.lookup y.1 = some .local) (hx : scope.names.lookup x = some .local)
    (hs : ∀ v, foldedSetIterable iter env v = pure v) (hh : A.handled = none)
    (hit : wpAny (model prog w) A (eval iter env) (DictSrcB prog w A E h₀ L m env kx vx x y scope cl s Q) E s) :
    wpAny (model prog w) A (exec (.Assign [.Name y py] (.DictComp kx vx [⟨.Name x px, iter, [], 0⟩] scope pos) spos) env) Q E s := by
  refine comp_assignB (σ := Obj × List (Str × Value)) (m := m) (h₀ := h₀) (kind_dict kx vx (.Name x px) iter scope pos) (o₀ := emptyDict) rfl (fun Q s hq => wpAny_newObj_type hq) hLe rfl hsw hy hp rfl hclos hcell hkind hnames (wpAny_mono hit (fun v₀ s₀ src => ?_) fun _ _ e => e) hs
  obtain ⟨r, n, t, u, v, news, h, tk, R, rfl, rfl, F, N, hr, hn, hR, turn, fin⟩ := src
  have hlt : r < h.objs.size := Heap.lt_size hr
  have nI := new_at (s := { s with heap := h, toks := tk }) F (Nat.le_refl h.objs.size)
  refine wpAny_pyIter_range (s := { s with heap := h, toks := tk }) hr ?_ ?_
  · exact small_one (by omega) (by omega) (by omega) (by omega)
  have hemp : emptyDict.IsDictOf (strKind prog w) [] := by
    obtain ⟨o, ho, hd⟩ := Heap.dictOf_iff.mp (Heap.DictOf.new (knd := strKind prog w) h)
    have := Heap.get?_push_size h (o := emptyDict) rfl
    rw [show h.push { cls := .type "dict", dict := none, data := .dict #[] } = h.push emptyDict from rfl, this] at ho
    exact (Option.some.inj ho) ▸ hd
  refine ⟨h.objs.size, _, n, _, _, fun c => c.1, fun _ => news, fun i c => c.1.IsDictOf (strKind prog w) c.2 ∧ R i c.2 ∧ c.2.length ≤ i, (emptyDict, []), rfl, Walks.range hh h.objs.size 0 1 n, rfl, fun i h st => ⟨_, st⟩, fun i h h' o D c st e e' _ N' _ => ?_, fun _ => rfl, ?_, ?_, F.push _, fun p hp => ⟨Heap.get?_push_of_some _ (N p hp).1, (N p hp).2⟩, nI.1, nI.2, fun p hp q => Nat.lt_irrefl _ (q ▸ Heap.lt_size (N p hp).1), ⟨hemp, hR, Nat.le_refl _⟩, ?_, ?_⟩
  · have st' : h.get? _ = some _ := st
    rw [e] at st'
    exact e'.trans st'
  · have e1 : Builtin.Range.rangeSize 0 (n : Int) 1 = (n : Int) := by rw [PyProof.Rows.rangeSize_nat]; omega
    show (h.push _).get? h.objs.size = _
    rw [e1, Heap.get?_push_size _ rfl]
    simp
  · intro b hb
    rw [List.mem_singleton.mp hb]
    show h.objs.size < (h.push _).objs.size
    rw [Heap.size_push]; exact Nat.lt_succ_self _
  · rintro C D ⟨oD, kvs⟩ i v oI oC m₂ h2 tk2 hi ⟨tv, rfl⟩ ⟨hd, hRi, hk⟩ hoC off hne F1 N1
    dsimp only at hd hRi hk N1
    refine comp_let hoC F1 N1 (fun p hp => ?_) hne.1 hx hkind fun oC' h' tk' hoC' F' N' => ?_
    · rcases List.mem_cons.mp hp with rfl | hp
      · exact fun e => hne.2.2 e.symm
      · exact (off p hp).2.1
    · refine wpAny_bind (wpAny_mono (turn _ C D i tv oI oC' oD _ kvs h' tk' hi hRi hd hoC' ((if_pos rfl).trans (by rw [show (0 : Int) + (i : Int) * 1 = (i : Int) by omega])) off hne F' N') (fun kv s₂ q => ?_) fun _ _ e => e)
      obtain ⟨kk, kt, rfl, q⟩ := q
      refine wpAny_bind (wpAny_holding (wpAny_mono q (fun y s₃ q => ?_) fun _ _ e => e))
      obtain ⟨h3, tk3, rfl, F3, N3, hR3⟩ := q
      refine wpAny_bind (wpAny_standAt (wpAny_holding ?_))
      refine d_set ((h.objs.size, oI) :: (C, oC') :: news) F3 N3 (.tail _ (.tail _ (.head _))) hd (by omega) (fun p hp => ?_) fun oD' h4 tk4 hd' F4 N4 => ?_
      · rcases List.mem_cons.mp hp with rfl | hp
        · exact ⟨.head _, hne.2.1⟩
        rcases List.mem_cons.mp hp with rfl | hp
        · exact ⟨.tail _ (.head _), hne.2.2⟩
        · exact ⟨.tail _ (.tail _ (.tail _ hp)), (off p hp).2.2⟩
      · refine CTurn.intro (oD', stored kvs kk y) F4 N4 hoC' (fun p hp => ?_) ⟨⟨hd', hR3, ?_⟩, off⟩
        · rcases List.mem_cons.mp hp with rfl | hp
          · exact .tail _ (.head _)
          rcases List.mem_cons.mp hp with rfl | hp
          · exact .tail _ (.tail _ (.head _))
          rcases List.mem_cons.mp hp with rfl | hp
          · exact .head _
          · exact .tail _ (.tail _ (.tail _ hp))
        · exact Nat.le_trans (stored_length_le _ _ _) (Nat.succ_le_succ hk)
  · rintro D ⟨oD, kvs⟩ h2 tk2 ⟨hd, hRi, hk⟩ F1 N1 off hDb
    exact fin D oD kvs h2 tk2 hRi hd F1 N1 off hDb
end
noncomputable def WORDS : List Str := [Str.ofString "ab", Str.ofString "a b", Str.ofString "c\"d", Str.ofString "..", Str.ofString "..", Str.ofString "."]
noncomputable def wordOf (a : Int) : Str := WORDS.getD (a.fmod 6).toNat (Str.ofString "")
noncomputable def ROWS : List Str := [Str.ofString "ab\n", Str.ofString "\"a b\"\n", Str.ofString "\"c\\\"d\"\n", Str.ofString "..\n", Str.ofString "..\n", Str.ofString ".\n"]
noncomputable def rowOf (a : Int) : Str := ROWS.getD (a.fmod 6).toNat (Str.ofString "")
theorem mod_six (a : Int) : (a.fmod 6).toNat < 6 := by
  have h1 := Int.fmod_nonneg_of_pos a (by decide : (0 : Int) < 6)
  have h2 := Int.fmod_lt_of_pos a (by decide : (0 : Int) < 6)
  omega
theorem word_row : ∀ j, j < 6 → isW (WORDS.getD j (Str.ofString "")) ∧ (ROWS.getD j (Str.ofString "")).cps.toList = rowC (WORDS.getD j (Str.ofString "")) ∧ (ROWS.getD j (Str.ofString "")).length ≤ 7 := by
  intro j hj
  rcases j with _ | _ | _ | _ | _ | _ | j
  · exact ⟨.inl (.inl rfl), by decide +kernel, by decide +kernel⟩
  · exact ⟨.inl (.inr (.inl rfl)), by decide +kernel, by decide +kernel⟩
  · exact ⟨.inl (.inr (.inr rfl)), by decide +kernel, by decide +kernel⟩
  · exact ⟨.inr (.inl rfl), by decide +kernel, by decide +kernel⟩
  · exact ⟨.inr (.inl rfl), by decide +kernel, by decide +kernel⟩
  · exact ⟨.inr (.inr rfl), by decide +kernel, by decide +kernel⟩
  · omega
theorem word_is (a : Int) : isW (wordOf a) := (word_row _ (mod_six a)).1
theorem row_is (a : Int) : (rowOf a).cps.toList = rowC (wordOf a) := (word_row _ (mod_six a)).2.1
theorem row_len (a : Int) : (rowOf a).length ≤ 7 := (word_row _ (mod_six a)).2.2
theorem word_val {k : Int} {b0 b1 b2 b3 b4 b5 : Tok} {v2 : Value} (hv2 : [Value.str (Str.ofString "ab") b0, Value.str (Str.ofString "a b") b1, Value.str (Str.ofString "c\"d") b2, Value.str (Str.ofString "..") b3, Value.str (Str.ofString "..") b4, Value.str (Str.ofString ".") b5][(k.fmod 6).toNat]? = some v2) : ∃ b, v2 = .str (wordOf k) b := by
  unfold wordOf
  have h := mod_six k
  generalize (k.fmod 6).toNat = j at *
  rcases j with _ | _ | _ | _ | _ | _ | j <;> first | (cases hv2; exact ⟨_, rfl⟩) | omega
theorem row_val {k : Int} {b0 b1 b2 b3 b4 b5 : Tok} {v2 : Value} (hv2 : [Value.str (Str.ofString "ab\n") b0, Value.str (Str.ofString "\"a b\"\n") b1, Value.str (Str.ofString "\"c\\\"d\"\n") b2, Value.str (Str.ofString "..\n") b3, Value.str (Str.ofString "..\n") b4, Value.str (Str.ofString ".\n") b5][(k.fmod 6).toNat]? = some v2) : ∃ b, v2 = .str (rowOf k) b := by
  unfold rowOf
  have h := mod_six k
  generalize (k.fmod 6).toNat = j at *
  rcases j with _ | _ | _ | _ | _ | _ | j <;> first | (cases hv2; exact ⟨_, rfl⟩) | omega
theorem six_at {a0 a1 a2 a3 a4 a5 : Int} {u0 u1 u2 u3 u4 u5 t : Tok} {i : Nat} {k : Int} (hv : [Value.int a0 u0, Value.int a1 u1, Value.int a2 u2, Value.int a3 u3, Value.int a4 u4, Value.int a5 u5][i]? = some (Value.int k t)) : [a0, a1, a2, a3, a4, a5][i]? = some k := by
  rcases i with _ | _ | _ | _ | _ | _ | i <;> cases hv <;> rfl
theorem map_step {f : Int → Str} {ys : List Value} {i : Nat} {k : Int} {b : Tok} {ms : List Int} (hR : StrsAre ys ((ms.take i).map f)) (hv : ms[i]? = some k) : StrsAre (ys ++ [.str (f k) b]) ((ms.take (i + 1)).map f) := by
  rw [List.take_add_one, hv, List.map_append]
  exact hR.append' (.cons _ _ .nil)
theorem word_step {ys : List Value} {i : Nat} {k : Int} {t b0 b1 b2 b3 b4 b5 u0 u1 u2 u3 u4 u5 : Tok} {a0 a1 a2 a3 a4 a5 : Int} {v2 : Value} (hR : StrsAre ys (([a0, a1, a2, a3, a4, a5].take i).map wordOf)) (hv : [Value.int a0 u0, Value.int a1 u1, Value.int a2 u2, Value.int a3 u3, Value.int a4 u4, Value.int a5 u5][i]? = some (Value.int k t))
    (hv2 : [Value.str (Str.ofString "ab") b0, Value.str (Str.ofString "a b") b1, Value.str (Str.ofString "c\"d") b2, Value.str (Str.ofString "..") b3, Value.str (Str.ofString "..") b4, Value.str (Str.ofString ".") b5][(k.fmod 6).toNat]? = some v2) : StrsAre (ys ++ [v2]) (([a0, a1, a2, a3, a4, a5].take (i + 1)).map wordOf) := by
  obtain ⟨b, rfl⟩ := word_val hv2
  exact map_step hR (six_at hv)
theorem row_step {ys : List Value} {i : Nat} {k : Int} {t b0 b1 b2 b3 b4 b5 u0 u1 u2 u3 u4 u5 : Tok} {a0 a1 a2 a3 a4 a5 : Int} {v2 : Value} (hR : StrsAre ys (([a0, a1, a2, a3, a4, a5].take i).map rowOf)) (hv : [Value.int a0 u0, Value.int a1 u1, Value.int a2 u2, Value.int a3 u3, Value.int a4 u4, Value.int a5 u5][i]? = some (Value.int k t))
    (hv2 : [Value.str (Str.ofString "ab\n") b0, Value.str (Str.ofString "\"a b\"\n") b1, Value.str (Str.ofString "\"c\\\"d\"\n") b2, Value.str (Str.ofString "..\n") b3, Value.str (Str.ofString "..\n") b4, Value.str (Str.ofString ".\n") b5][(k.fmod 6).toNat]? = some v2) : StrsAre (ys ++ [v2]) (([a0, a1, a2, a3, a4, a5].take (i + 1)).map rowOf) := by
  obtain ⟨b, rfl⟩ := row_val hv2
  exact map_step hR (six_at hv)
theorem row_weight (a0 a1 a2 a3 a4 a5 : Int) : (([rowOf a0, rowOf a1, rowOf a2, rowOf a3, rowOf a4, rowOf a5]).map (·.length)).sum + ([rowOf a0, rowOf a1, rowOf a2, rowOf a3, rowOf a4, rowOf a5]).length ≤ 1048576 := by
  have h0 := row_len a0
  have h1 := row_len a1
  have h2 := row_len a2
  have h3 := row_len a3
  have h4 := row_len a4
  have h5 := row_len a5
  simp
  omega
theorem join_flat : ∀ ys : List Str, (Txt.join (Str.ofString "") ys).cps.toList = ys.flatMap fun y => y.cps.toList := by
  intro ys
  show (Builtin.Str.glued (Str.ofString "") ys).cps.toList = _
  rw [StrLaws.glued_eq_join]
  have e0 : Str.ofString "" = ⟨#[]⟩ := by decide +kernel
  rw [e0]
  induction ys with
  | nil => decide +kernel
  | cons a r ih =>
    cases r with
    | nil => show a.cps.toList = _; simp
    | cons b r =>
      show ((a ++ (⟨#[]⟩ : Str) ++ Str.join ⟨#[]⟩ (b :: r) : Str)).cps.toList = _
      have e : ∀ x y : Str, (x ++ y).cps = x.cps ++ y.cps := fun _ _ => rfl
      rw [e, e]
      simp only [Array.toList_append, ih]
      simp
theorem rows_text (a0 a1 a2 a3 a4 a5 : Int) : (Txt.join (Str.ofString "") [rowOf a0, rowOf a1, rowOf a2, rowOf a3, rowOf a4, rowOf a5]).cps.toList = rowsC [wordOf a0, wordOf a1, wordOf a2, wordOf a3, wordOf a4, wordOf a5] ∧ (Txt.join (Str.ofString "") [rowOf a0, rowOf a1, rowOf a2, rowOf a3, rowOf a4, rowOf a5]).cps.size ≤ 1000 := by
  have h := join_flat [rowOf a0, rowOf a1, rowOf a2, rowOf a3, rowOf a4, rowOf a5]
  constructor
  · rw [h]
    unfold rowsC
    simp only [List.flatMap_cons, List.flatMap_nil, row_is]
  · rw [← Array.length_toList, h]
    have hl : ∀ a : Int, (rowOf a).cps.toList.length ≤ 7 := fun a => by rw [Array.length_toList]; exact row_len a
    have h0 := hl a0
    have h1 := hl a1
    have h2 := hl a2
    have h3 := hl a3
    have h4 := hl a4
    have h5 := hl a5
    simp only [List.flatMap_cons, List.flatMap_nil, List.length_append, List.length_nil]
    omega
theorem words_six (a0 a1 a2 a3 a4 a5 : Int) : ∀ y ∈ [wordOf a0, wordOf a1, wordOf a2, wordOf a3, wordOf a4, wordOf a5], isW y := by
  intro y hy
  simp only [List.mem_cons, List.not_mem_nil, or_false] at hy
  rcases hy with rfl | rfl | rfl | rfl | rfl | rfl <;> exact word_is _
section
variable {w : World} {p : Program} {loose : List Str} {mean : ExcName → Option Value} {mg mb : Str → Option Value} {dp un : Nat} {fr : Option (List Env)} {gd : Option (List Code)} {h₀ : Heap} {s : Shared} {Q E : Value → Shared → Prop} {L : Addr} {m : Str → Option Value} {news : List (Addr × Obj)}
theorem walked_u (k : LxK) (st : LxS) (ws : List Str) (md : Addr) (oM : Obj) (z0 z1 z2 : Int) (t0 t1 t2 : Tok) (rest : List (Addr × Obj)) (hk : LxOK w k) (F : Fr h₀ L s.heap m) (N : News h₀ L s.heap news) (hsub : ∀ q ∈ lxL w.params k st ++ [(md, oM)], q ∈ news) (hrest : ∀ q ∈ rest, q ∈ news ∧ q.1 ∉ lxAd k)
    (X : (hd.heap_39 w.params).In h₀) (T : Top p loose mean mg mb h₀) (hdp : dp + 40 < recursionLimit) (hun : un + 200 < cLine)
    (hmdk : md ∉ lxAd k) (hS : LxSt st (rowsC ws)) (hw : ∀ y ∈ ws, isW y) (hwl : ws.length ≤ 10) (hM : oM.IsDictOf (strKind PW w) (mk3 (.int z0 t0) (.int z1 t1) (.int z2 t2))) (hMs : (md == sysModules) = false) (o0 : okMode z0) (o1 : okMode z1) (o2 : okMode z2)
    (h : ∀ pl vs n h' tk', StrsAre vs (placesTo (odOf z0 z1 z2) ws (ws.length + 1)) → Fr h₀ L h' m → News h₀ L h' ((pl, lob vs n) :: rest) → (∀ p ∈ rest, p.1 ≠ pl) → Q (.ref pl) { s with heap := h', toks := tk' }) :
    wpAny (model PW w) (AR dp fr gd un) (call (.ref 235) [.ref k.x2, .ref md]) Q E s := by
  have P : ∀ q ∈ lxL w.params k st ++ [(md, oM)], s.heap.get? q.1 = some q.2 ∧ h₀.get? q.1 = none := fun q hq => ⟨(N q (hsub q hq)).1, (N q (hsub q hq)).2.2⟩
  refine walked_c k st ws md oM z0 z1 z2 t0 t1 t2 hk X T F.keep hdp hun P hmdk hS hw hwl hM hMs o0 o1 o2 fun pl vs n h' tk' hv ex hno hget => ?_
  have hll := N _ (hsub (k.ll, lob st.vs st.n) (List.mem_append_left _ (.tail _ (.tail _ (.tail _ (.tail _ (.tail _ (.tail _ (.tail _ (.tail _ (.head _)))))))))))
  have hd2 := N _ (hsub (k.d2, _) (List.mem_append_left _ (.tail _ (.head _))))
  have hf : Fr h₀ L h' m := ex.fr F (fun hm => by
    rcases List.mem_cons.mp hm with e | hm
    · exact hll.2.1 e.symm
    · exact hd2.2.1 (List.mem_singleton.mp hm).symm) (fun b hb => by
    rcases List.mem_cons.mp hb with rfl | hb
    · exact hll.2.2
    · rw [List.mem_singleton.mp hb]; exact hd2.2.2)
  refine h pl vs n h' tk' hv hf (List.forall_mem_cons.mpr ⟨⟨hget, fun e => ?_, ?_⟩, fun q hq => ⟨ex _ _ (N q (hrest q hq).1).1 fun hm => (hrest q hq).2 (lx_two hm), (N q (hrest q hq).1).2⟩⟩) fun q hq e => ?_
  · obtain ⟨o, es, ep, e2, _⟩ := F.ns
    rw [← e, hno] at e2; cases e2
  · cases e : h₀.get? pl with
    | none => rfl
    | some o => rw [F.keep _ _ e] at hno; cases hno
  · have := (N q (hrest q hq).1).1
    rw [e, hno] at this; cases this
theorem names_u (wl md : Addr) (wvs : List Value) (nw : Nat) (oM : Obj) (ws : List Str) (z0 z1 z2 : Int) (t0 t1 t2 : Tok) (F : Fr h₀ L s.heap m) (N : News h₀ L s.heap news) (m1 : (wl, lob wvs nw) ∈ news) (m2 : (md, oM) ∈ news) (X : (hd.heap_39 w.params).In h₀) (T : Top p loose mean mg mb h₀) (hdp : dp + 40 < recursionLimit) (hun : un + 200 < cLine)
    (hW : StrsAre wvs ws) (hw : ∀ y ∈ ws, isW y) (hwl : ws.length ≤ 10) (hM : oM.IsDictOf (strKind PW w) (mk3 (.int z0 t0) (.int z1 t1) (.int z2 t2))) (hMs : (md == sysModules) = false)
    (h : ∀ r rs n pls h' tk', RefsTo pls rs ((List.range (ws.length + 1)).map (walkTo (odOf z0 z1 z2) ws)) → Fr h₀ L h' m → News h₀ L h' ((r, lob rs n) :: (news ++ pls)) → (∀ p ∈ news, p.1 ≠ r) → (∀ q ∈ pls, ∀ p ∈ news, p.1 ≠ q.1) → Q (.ref r) { s with heap := h', toks := tk' }) :
    wpAny (model PW w) (AR dp fr gd un) (call (.ref 242) [.ref wl, .ref md]) Q E s := by
  have P : ∀ q ∈ [(wl, lob wvs nw), (md, oM)], s.heap.get? q.1 = some q.2 ∧ h₀.get? q.1 = none := List.forall_mem_cons.mpr ⟨⟨(N _ m1).1, (N _ m1).2.2⟩, List.forall_mem_cons.mpr ⟨⟨(N _ m2).1, (N _ m2).2.2⟩, List.forall_mem_nil _⟩⟩
  refine names_c wl md wvs nw oM ws z0 z1 z2 t0 t1 t2 X T F.keep hdp hun P hW hw hwl hM hMs fun r rs n pls h' tk' hr ex hget => ?_
  have new : ∀ q ∈ (r, lob rs n) :: pls, h'.get? q.1 = some q.2 ∧ q.1 ≠ L ∧ h₀.get? q.1 = none := fun q hq => ⟨(hget q hq).1, (fun e => by
    obtain ⟨o, es, ep, e2, _⟩ := F.ns
    have := (hget q hq).2
    rw [e, e2] at this; cases this), (by
    cases e : h₀.get? q.1 with
    | none => rfl
    | some o => have := (hget q hq).2; rw [F.keep _ _ e] at this; cases this)⟩
  have off : ∀ q ∈ (r, lob rs n) :: pls, ∀ p ∈ news, p.1 ≠ q.1 := fun q hq p hp e => by
    have := (hget q hq).2
    rw [← e, (N p hp).1] at this; cases this
  refine h r rs n pls h' tk' hr (ex.fr0 F) (List.forall_mem_cons.mpr ⟨new _ (.head _), fun q hq => ?_⟩) (off _ (.head _)) fun q hq => off q (.tail _ hq)
  rcases List.mem_append.mp hq with hq | hq
  · exact ex.news0 N q hq
  · exact new q (.tail _ hq)
end
theorem str_canLayAll0 : ∀ ns : List Str, (∀ y ∈ ns, PyData.strOk y = true) → PyData.canLayAll0 (ns.map PyData.str) = true
  | [], _ => rfl
  | y :: r, h => by simp [PyData.canLayAll0, PyData.canLay0, h y (.head _), str_canLayAll0 r fun z hz => h z (.tail _ hz)]
theorem str_depthAll : ∀ ns : List Str, PyData.depthAll (ns.map PyData.str) = 0
  | [] => rfl
  | _ :: r => by simp [PyData.depthAll, PyData.depth, str_depthAll r]
theorem str_shaped (ns : List Str) (h : ∀ y ∈ ns, PyData.strOk y = true) : SeqAt.shaped (.list (ns.map PyData.str)) = true := by
  simp [SeqAt.shaped, PyData.canLay0, PyData.depth, str_canLayAll0 ns h, str_depthAll]
theorem str_sameAll : ∀ ns : List Str, PySem.Spec.sameAll (ns.map PyData.str) (ns.map PyData.str) = true
  | [] => by simp [PySem.Spec.sameAll]
  | a :: r => by simp [PySem.Spec.sameAll, PySem.Spec.same, str_sameAll r]
theorem str_same (ns : List Str) : PySem.Spec.same (.list (ns.map PyData.str)) (.list (ns.map PyData.str)) = true := by
  simp only [PySem.Spec.same]; exact str_sameAll ns
theorem str_carried : ∀ {vs : List Value} {ns : List Str}, StrsAre vs ns → CarriedAll vs (ns.map PyData.str)
  | _, _, .nil => .nil
  | _, _, .cons _ t r => .cons (.str _ t) (str_carried r)
section
variable {prog : Program} {w : World} {A : Around} {E : Value → Shared → Prop} {s : Shared} {a b : Addr} {xs ys : List Value} {ns : List Str} {Q : Value → Shared → Prop}
theorem ne_strs (ha : s.heap.IsList a xs.toArray) (hb : s.heap.IsList b ys.toArray) (hi : StrsAre xs ns) (hj : StrsAre ys ns) (hok : ∀ y ∈ ns, PyData.strOk y = true) (hu : A.units + 64 < cLine) (h : Q (.bool false) s) :
    wpAny (model prog w) A (compareOp .NotEq (.ref a) (.ref b)) Q E s :=
  ne_dataH_same (reads_newData ha (str_carried hi)) (reads_newData hb (str_carried hj)) (str_shaped _ hok) (str_shaped _ hok) hu (SeqAt.noMix_of_shape (.list .str) rfl _ _ (list_map_has fun _ => rfl) (list_map_has fun _ => rfl)) (by rw [str_same]; exact h)
end
theorem RefsTo.at {pls : List (Addr × Obj)} {rs : List Value} {ls : List (List Str)} (h : RefsTo pls rs ls) : ∀ (i : Nat) (v : Value), rs[i]? = some v → ∃ a vs n l, v = .ref a ∧ ls[i]? = some l ∧ (a, lob vs n) ∈ pls ∧ StrsAre vs l := by
  induction h with
  | nil => intro i v hv; cases hv
  | cons hm hs' _ ih =>
    intro i v hv
    cases i with
    | zero => cases hv; exact ⟨_, _, _, _, rfl, rfl, hm, hs'⟩
    | succ i => exact ih i v hv
section
variable {prog : Program} {w : World} {A : Around} {E : Value → Shared → Prop} {s : Shared} {h₀ : Heap} {L l : Addr} {m : Str → Option Value} {news pls : List (Addr × Obj)} {vs : List Value} {n : Nat} {ls : List (List Str)} {Q : Value → Shared → Prop}
theorem sorted_len (F : Fr h₀ L s.heap m) (N : News h₀ L s.heap news) (hm : (l, lob vs n) ∈ news) (hsub : ∀ p ∈ pls, p ∈ news) (hr : RefsTo pls vs ls) (h64 : vs.length < 64) (hne : vs ≠ []) (hsz : ∀ l ∈ ls, l.length ≤ 1000)
    (h : ∀ D h' tk a lv ln rest c Tl, Fr h₀ L h' m → News h₀ L h' ((D, lob (.ref a :: rest) c) :: news) → (∀ q ∈ news, q.1 < D) → (a, lob lv ln) ∈ pls → StrsAre lv Tl → Tl ∈ ls → (∀ l ∈ ls, Tl.length ≤ l.length) → Q (.ref D) { s with heap := h', toks := tk }) :
    wpAny (model prog w) A (call (.builtin "sorted") [.ref l] [(Str.ofString "key", .builtin "len")]) Q E s := by
  have hlen := hr.len
  refine ksk_sorted (kz := ls.map fun l => (l.length : Int)) (b := false) (f := .builtin "len") F N ⟨_, (N _ hm).1, rfl, _, rfl⟩ (by rw [List.length_map, hlen]) h64 (ksk_s1 _ _) (fun _ => ksk_l1 _ _) (fun x => ksk_t4 "len" x) (fun i v k hv hk h tk own F' N' => ?_) fun D h' tk out c F' N' l1 ko => ?_
  · obtain ⟨a, av, an, al, rfl, hl, hmem, hs⟩ := hr.at i v hv
    rw [List.getElem?_map, hl] at hk
    cases hk
    have hz := hsz al (List.mem_of_getElem? hl)
    have e := strs_len hs
    have hL : h.IsList a av.toArray := ⟨_, (N' _ (List.mem_append_left _ (hsub _ hmem))).1, rfl, _, rfl⟩
    refine call_len_list (s := { s with heap := h, toks := tk }) hL (by rw [List.size_toArray]; omega) ?_
    rw [List.size_toArray, e]
    exact KskEnd.intro F' N' fun _ hp => hp
  · obtain ⟨ps, hp, ho, hs⟩ := ko
    cases ps with
    | nil =>
      have := hp.length_eq
      rw [List.length_zip, List.length_map, ← hlen, Nat.min_self] at this
      exact absurd (List.eq_nil_of_length_eq_zero this.symm) hne
    | cons p r =>
      have hpm : p ∈ (ls.map fun l => (l.length : Int)).zip vs := hp.mem_iff.mp (.head _)
      obtain ⟨i, hi⟩ := List.mem_iff_getElem?.mp hpm
      rw [List.getElem?_zip_eq_some] at hi
      obtain ⟨a, av, an, al, e2, hl, hmem, hsa⟩ := hr.at i p.2 hi.2
      have h1 := hi.1
      rw [List.getElem?_map, hl] at h1
      have h1' : (al.length : Int) = p.1 := Option.some.inj h1
      have hout : out = (Value.ref a :: r.map Prod.snd).toArray := by
        apply Array.ext'
        rw [ho, List.map_cons, e2]
      rw [hout] at N'
      refine h D h' tk a av an (r.map Prod.snd) c al F' N' l1 hmem hsa (List.mem_of_getElem? hl) fun l' hl' => ?_
      obtain ⟨j, hj⟩ := List.mem_iff_getElem?.mp hl'
      have hjv : j < vs.length := by rw [hlen]; exact (List.getElem?_eq_some_iff.mp hj).1
      have hz : ((l'.length : Int), vs[j]) ∈ (ls.map fun l => (l.length : Int)).zip vs := by
        apply List.mem_iff_getElem?.mpr
        exact ⟨j, by rw [List.getElem?_zip_eq_some]; exact ⟨by rw [List.getElem?_map, hj]; rfl, List.getElem?_eq_getElem hjv⟩⟩
      have hz' := hp.mem_iff.mpr hz
      have : p.1 ≤ (l'.length : Int) := by
        rcases List.mem_cons.mp hz' with e | hz'
        · rw [← e]; exact Int.le_refl _
        · have := (List.pairwise_cons.mp hs).1 _ hz'
          simpa using this
      omega
end
section
variable {prog : Program} {w : World} {A : Around} {E : Value → Shared → Prop} {s : Shared} {env : Env} {h₀ : Heap} {x : Str} {body : List Stmt} {Q : Flow → Shared → Prop}
noncomputable def TurnR (h₀ : Heap) (L : Addr) (ks : List Str) (m₀ : Str → Option Value) (led : List (Addr × Obj)) (s : Shared) (Q : Flow → Shared → Prop) (f : Flow) (s₂ : Shared) : Prop :=
  match f with
  | .ret v => Q (.ret v) s₂
  | .brk => Q .next s₂
  | _ => ∃ m' h' tk', s₂ = { s with heap := h', toks := tk' } ∧ (∀ z, z ∉ ks → m' z = m₀ z) ∧ Fr h₀ L h' m' ∧ News h₀ L h' led
/-- a for over a range that changes no more than names -/
theorem loop_range {r : Addr} {a b : Int} {t u v : Tok} {n : Nat} {m₀ : Str → Option Value} (ks : List Str) (led : List (Addr × Obj)) (hx : x ∈ ks) (hh : A.handled = none) (hr : IsRange s.heap r a b 1 t u v) (hsmall : Builtin.Range.small a b 1 = true) (hn : Builtin.Range.rangeSize a b 1 = (n : Int))
    (F : Fr h₀ env.locals s.heap m₀) (N : News h₀ env.locals s.heap led)
    (turn : ∀ (i : Nat) (t : Tok) (m' : Str → Option Value) (I : Addr) (oI : Obj) (h : Heap) (tk : Nat), i < n → (∀ z, z ∉ ks → m' z = m₀ z) → (∀ p ∈ led, p.1 ≠ I) → Fr h₀ env.locals h (fun z => if z = x then some (.int (a + (i : Int)) t) else m' z) → News h₀ env.locals h ((I, oI) :: led) →
      wpAny (model prog w) A (execs body env) (TurnR h₀ env.locals ks m₀ ((I, oI) :: led) s Q) E { s with heap := h, toks := tk })
    (done : ∀ m' h tk, (∀ z, z ∉ ks → m' z = m₀ z) → Fr h₀ env.locals h m' → News h₀ env.locals h led → Q .next { s with heap := h, toks := tk }) :
    wpAny (model prog w) A (pyIter (.ref r)) (fun it s₂ => LoopAtV prog w A h₀ env x body Q E it s₂) E s := by
  refine wpAny_pyIter_range hr hsmall ?_
  have W := Walks.range (prog := prog) (w := w) hh s.heap.objs.size a 1 n
  have hI0 : h₀.get? s.heap.objs.size = none := next_is_new F
  let J' : Nat → (Str → Option Value) → List (Addr × Obj) → Prop := fun i m₁ news₁ => news₁ = led ∧ ∀ z, z ∉ ks → m₁ z = m₀ z
  refine ⟨_, _, _, n, _, _, m₀, led, J', rfl, W, ?_, ?_, ?_, ?_, F.push _, (fun p hp => ⟨Heap.get?_push_of_some _ (N p hp).1, (N p hp).2⟩), ⟨rfl, fun _ _ => rfl⟩, ?_, ?_⟩
  · intro hm
    exact absurd F.ns.lt ((List.mem_singleton.mp hm) ▸ Nat.lt_irrefl _)
  · intro b hb
    rw [List.mem_singleton.mp hb]
    exact hI0
  · intro p hp hI
    exact absurd (Heap.lt_size (N p hp).1) ((List.mem_singleton.mp hI) ▸ Nat.lt_irrefl _)
  · show (s.heap.push _).get? s.heap.objs.size = _
    rw [hn, Heap.get?_push_size _ rfl]
    simp
  · rintro i v m₁ news₁ s₁ own ⟨hh', tk', rfl⟩ hin ⟨tv, rfl⟩ ⟨rfl, hm⟩ hoff hown howng hall hst F₁ N₁
    obtain ⟨oI, hoI⟩ : ∃ oI, hh'.get? s.heap.objs.size = some oI := ⟨_, hst⟩
    have hIo := hall _ (.head _) hI0 _ hoI
    have N₂ : News h₀ env.locals hh' ((s.heap.objs.size, oI) :: news₁) := fun p hp => by
      rcases List.mem_cons.mp hp with rfl | hp
      · exact N₁ _ (List.mem_append_left _ hIo)
      · exact N₁ _ (List.mem_append_right _ hp)
    rw [Int.mul_one] at F₁
    refine wpAny_mono (turn i tv m₁ s.heap.objs.size oI hh' tk' hin hm (fun p hp h => hoff p hp (by rw [h]; exact .head _)) F₁ N₂) (fun f s₂ p => ?_) fun _ _ e => e
    have fin : (∃ m' h' tk', s₂ = { s with heap := h', toks := tk' } ∧ (∀ z, z ∉ ks → m' z = m₀ z) ∧ Fr h₀ env.locals h' m' ∧ News h₀ env.locals h' ((s.heap.objs.size, oI) :: news₁)) → LoopStepU h₀ env.locals [s.heap.objs.size] own (J' (i + 1)) { s with heap := hh', toks := tk' } .next s₂ := by
      rintro ⟨m', h', tk, e, hm', F', N'⟩
      refine ⟨rfl, h', tk, _, news₁, e, F', fun p hp => ?_, fun p hp hI => hoff p hp hI, rfl, hm'⟩
      rcases List.mem_append.mp hp with hp | hp
      · have h1 := List.mem_singleton.mp (hown p hp)
        have : p = (s.heap.objs.size, oI) := by
          have h2 := howng p hp
          rw [h1] at h2
          exact Prod.ext h1 (Option.some.inj (h2.symm.trans hoI))
        rw [this]; exact N' _ (.head _)
      · exact N' _ (.tail _ hp)
    cases f with
    | ret v => exact .ret p
    | brk => exact .brk p
    | next => exact .next (fin p)
    | cont => exact .cont (fin p)
  · rintro h' tk m' news' F' N' _ ⟨rfl, hm⟩
    exact done m' h' tk hm F' N'
end
noncomputable def Near (a b : List Str) : Prop := b = a ∨ b = a.dropLast ∨ ∃ y, b = a ++ [y]
theorem near_fwd {T a b : List Str} (h : Near a b) (hp : T <+: a) (hl : T.length ≤ b.length) : T <+: b := by
  rcases h with rfl | rfl | ⟨y, rfl⟩
  · exact hp
  · exact List.prefix_of_prefix_length_le hp (List.dropLast_prefix a) hl
  · exact hp.trans (List.prefix_append _ _)
theorem near_bwd {T a b : List Str} (h : Near a b) (hp : T <+: b) (hl : T.length ≤ a.length) : T <+: a := by
  rcases h with rfl | rfl | ⟨y, rfl⟩
  · exact hp
  · exact hp.trans (List.dropLast_prefix a)
  · exact List.prefix_of_prefix_length_le hp (List.prefix_append a [y]) hl
theorem nstep_near {acc : List Str} {y : Str} : Near acc (nstep acc y) := by
  unfold nstep
  split
  · exact .inr (.inl rfl)
  · split
    · exact .inl rfl
    · exact .inr (.inr ⟨y, rfl⟩)
theorem wk_near {od : Str → Bool} {l : List Str} {y : Str} : Near l (wk od l y) := by
  unfold wk
  split
  · exact nstep_near
  · exact .inl rfl
theorem near_all {f : Nat → List Str} {i j t : Nat} (hn : ∀ k, i ≤ k → k < j → Near (f k) (f (k + 1))) (ht : i ≤ t ∧ t ≤ j) (hl : ∀ k, i ≤ k → k ≤ j → (f t).length ≤ (f k).length) : ∀ k, i ≤ k → k ≤ j → f t <+: f k := by
  have up : ∀ d, t + d ≤ j → f t <+: f (t + d) := by
    intro d
    induction d with
    | zero => intro _; exact List.prefix_refl _
    | succ d ih =>
      intro hd
      have h1 : i ≤ t + d := Nat.le_trans ht.1 (Nat.le_add_right t d)
      exact near_fwd (hn (t + d) h1 hd) (ih (Nat.le_of_succ_le hd)) (hl _ (Nat.le_succ_of_le h1) hd)
  have down : ∀ d k, k + d = t → i ≤ k → f t <+: f k := by
    intro d
    induction d with
    | zero => intro k e _; exact e ▸ List.prefix_refl _
    | succ d ih =>
      intro k e hk
      have e' : k + 1 + d = t := by rw [Nat.add_assoc, Nat.add_comm 1 d]; exact e
      have hlt : k < j := Nat.lt_of_lt_of_le (e ▸ Nat.lt_add_of_pos_right (Nat.succ_pos d)) ht.2
      exact near_bwd (hn k hk hlt) (ih (k + 1) e' (Nat.le_succ_of_le hk)) (hl k hk (Nat.le_of_lt hlt))
  intro k h1 h2
  rcases Nat.le_total t k with h | h
  · obtain ⟨d, rfl⟩ := Nat.exists_eq_add_of_le h
    exact up d h2
  · obtain ⟨d, e⟩ := Nat.exists_eq_add_of_le h
    exact down d k e.symm h1
theorem stretch_mem {α : Type} {f : Nat → α} {n i j : Nat} (hj : j < n) (hi : i ≤ j) (x : α) : x ∈ ((((List.range n).map f).drop i).take (j + 1 - i)) ↔ ∃ k, i ≤ k ∧ k ≤ j ∧ x = f k := by
  rw [List.mem_iff_getElem?]
  constructor
  · rintro ⟨q, hq⟩
    rw [List.getElem?_take] at hq
    split at hq
    · rename_i hlt
      rw [List.getElem?_drop, List.getElem?_map, List.getElem?_range (by omega)] at hq
      exact ⟨i + q, by omega, by omega, (Option.some.inj hq).symm⟩
    · cases hq
  · rintro ⟨k, h1, h2, rfl⟩
    refine ⟨k - i, ?_⟩
    rw [List.getElem?_take, if_pos (by omega), List.getElem?_drop, List.getElem?_map, List.getElem?_range (by omega), show i + (k - i) = k by omega]
    rfl
theorem stretch_pre {od : Str → Bool} {ws : List Str} {i j : Nat} (hj : j < ws.length + 1) (hi : i ≤ j) {Tl : List Str} (hT : Tl ∈ ((((List.range (ws.length + 1)).map (walkTo od ws)).drop i).take (j + 1 - i))) (hmin : ∀ l ∈ ((((List.range (ws.length + 1)).map (walkTo od ws)).drop i).take (j + 1 - i)), Tl.length ≤ l.length) :
    ∀ l ∈ ((((List.range (ws.length + 1)).map (walkTo od ws)).drop i).take (j + 1 - i)), Tl <+: l := by
  obtain ⟨t, h1, h2, rfl⟩ := (stretch_mem hj hi _).mp hT
  intro l hl
  obtain ⟨k, h3, h4, rfl⟩ := (stretch_mem hj hi _).mp hl
  refine near_all (f := walkTo od ws) (fun q h5 h6 => ?_) ⟨h1, h2⟩ (fun q h5 h6 => hmin _ ((stretch_mem hj hi _).mpr ⟨q, h5, h6, rfl⟩)) k h3 h4
  have hq : ws[q]? = some ws[q] := List.getElem?_eq_getElem (by omega)
  rw [walkTo_succ hq]
  exact wk_near
theorem strOk_iff {x : Str} : PyData.strOk x = true ↔ ∀ c ∈ x.cps.toList, c < 0x110000 := by
  unfold PyData.strOk
  rw [← Array.all_toList, List.all_eq_true]
  simp
theorem plc_ok {l : List Str} (h : ∀ z ∈ l, isN z) : PyData.strOk (plc l) = true := by
  rw [strOk_iff]
  have hs : ∀ c ∈ (Str.ofString "/").cps.toList, c < 0x110000 := by decide +kernel
  have hn : ∀ z, isN z → ∀ c ∈ z.cps.toList, c < 0x110000 := by
    intro z hz
    rcases hz with rfl | rfl | rfl <;> decide +kernel
  have e : ∀ x y : Str, (x ++ y).cps = x.cps ++ y.cps := fun _ _ => rfl
  have key : ∀ l : List Str, (∀ z ∈ l, isN z) → ∀ c ∈ (Str.join (Str.ofString "/") l).cps.toList, c < 0x110000 := by
    intro l
    induction l with
    | nil => intro _ c hc; exact absurd hc (by show ¬ c ∈ (Str.join (Str.ofString "/") []).cps.toList; rw [show Str.join (Str.ofString "/") [] = Str.ofString "" from by decide +kernel, show (Str.ofString "").cps.toList = [] from by decide +kernel]; exact List.not_mem_nil)
    | cons a r ih =>
      intro h
      cases r with
      | nil => exact hn a (h a (.head _))
      | cons b r =>
        show ∀ c ∈ ((a ++ Str.ofString "/" ++ Str.join (Str.ofString "/") (b :: r) : Str)).cps.toList, c < 0x110000
        rw [e, e]
        simp only [Array.toList_append]
        intro c hc
        rcases List.mem_append.mp hc with hc | hc
        · rcases List.mem_append.mp hc with hc | hc
          · exact hn a (h a (.head _)) c hc
          · exact hs c hc
        · exact ih (fun z hz => h z (.tail _ hz)) c hc
  show ∀ c ∈ (Str.ofString "/" ++ Builtin.Str.glued (Str.ofString "/") l).cps.toList, c < 0x110000
  rw [StrLaws.glued_eq_join, e]
  simp only [Array.toList_append]
  intro c hc
  rcases List.mem_append.mp hc with hc | hc
  · exact hs c hc
  · exact key l h c hc
theorem places_ok {od : Str → Bool} {ws : List Str} (hw : ∀ y ∈ ws, isW y) : ∀ y ∈ placesTo od ws (ws.length + 1), PyData.strOk y = true := by
  intro y hy
  obtain ⟨i, hi, rfl⟩ := List.mem_map.mp hy
  have := List.mem_range.mp hi
  exact plc_ok (walk_facts hw i (by omega)).1
theorem three_off {x1 x2 x3 : Str} {m m₁ : Str → Option Value} (h : ∀ z, z ∉ [x1, x2, x3] → m₁ z = m z) : m₁ = fun z => if z = x3 then m₁ x3 else if z = x2 then m₁ x2 else if z = x1 then m₁ x1 else m z := by
  funext z
  by_cases h1 : z = x3
  · rw [if_pos h1, h1]
  by_cases h2 : z = x2
  · rw [if_neg h1, if_pos h2, h2]
  by_cases h3 : z = x1
  · rw [if_neg h1, if_neg h2, if_pos h3, h3]
  · rw [if_neg h1, if_neg h2, if_neg h3]
    exact h z (by simp only [List.mem_cons, List.not_mem_nil, or_false, not_or]; exact ⟨h3, h2, h1⟩)
theorem three_back {x1 x2 x3 : Str} {v1 v2 v3 : Option Value} {m : Str → Option Value} : ∀ z, z ∉ [x1, x2, x3] → (fun z => if z = x3 then v3 else if z = x2 then v2 else if z = x1 then v1 else m z) z = m z := by
  intro z hz
  simp only [List.mem_cons, List.not_mem_nil, or_false, not_or] at hz
  obtain ⟨h1, h2, h3⟩ := hz
  exact (if_neg h3).trans ((if_neg h2).trans (if_neg h1))
theorem plc_step {ys : List Value} {i : Nat} {al : List Str} {b : Tok} {ls : List (List Str)} (hR : StrsAre ys ((ls.take i).map plc)) (hv : ls[i]? = some al) : StrsAre (ys ++ [.str (plc al) b]) ((ls.take (i + 1)).map plc) := by
  rw [List.take_add_one, hv, List.map_append]
  exact hR.append' (.cons _ _ .nil)
theorem lists_facts {od : Str → Bool} {ws : List Str} (hw : ∀ y ∈ ws, isW y) (hl : ws.length ≤ 10) : ∀ l ∈ (List.range (ws.length + 1)).map (walkTo od ws), (∀ z ∈ l, isN z) ∧ l.length ≤ 10 := by
  intro l h
  obtain ⟨i, hi, rfl⟩ := List.mem_map.mp h
  have := List.mem_range.mp hi
  obtain ⟨h1, h2⟩ := walk_facts (od := od) hw i (by omega)
  exact ⟨h1, by omega⟩
theorem join_room {al : List Str} (h : (∀ z ∈ al, isN z) ∧ al.length ≤ 10) : (al.map (·.length)).sum + al.length ≤ 1048576 := by
  have h1 := names_weight h.1
  omega
theorem RefsTo.stretch {pls : List (Addr × Obj)} {rs : List Value} {ls : List (List Str)} (h : RefsTo pls rs ls) (i k : Nat) : RefsTo pls ((rs.drop i).take k) ((ls.drop i).take k) := by
  have hd : ∀ {rs : List Value} {ls : List (List Str)}, RefsTo pls rs ls → ∀ i, RefsTo pls (rs.drop i) (ls.drop i) := by
    intro rs ls h
    induction h with
    | nil => intro i; simp; exact .nil
    | cons hm hs hr ih =>
      intro i
      cases i with
      | zero => exact .cons hm hs hr
      | succ i => simpa using ih i
  have ht : ∀ {rs : List Value} {ls : List (List Str)}, RefsTo pls rs ls → ∀ i, RefsTo pls (rs.take i) (ls.take i) := by
    intro rs ls h
    induction h with
    | nil => intro i; simp; exact .nil
    | cons hm hs hr ih =>
      intro i
      cases i with
      | zero => simp; exact .nil
      | succ i => simp only [List.take_succ_cons]; exact .cons hm hs (ih i)
  exact ht (hd h i) k
theorem strs_stretch {vs : List Value} {ys : List Str} (h : StrsAre vs ys) (i k : Nat) : StrsAre ((vs.drop i).take k) ((ys.drop i).take k) := by
  have hd : ∀ {vs : List Value} {ys : List Str}, StrsAre vs ys → ∀ i, StrsAre (vs.drop i) (ys.drop i) := by
    intro vs ys h
    induction h with
    | nil => intro i; simp; exact .nil
    | cons y t hr ih =>
      intro i
      cases i with
      | zero => exact .cons y t hr
      | succ i => simpa using ih i
  have ht : ∀ {vs : List Value} {ys : List Str}, StrsAre vs ys → ∀ i, StrsAre (vs.take i) (ys.take i) := by
    intro vs ys h
    induction h with
    | nil => intro i; simp; exact .nil
    | cons y t hr ih =>
      intro i
      cases i with
      | zero => simp; exact .nil
      | succ i => simp only [List.take_succ_cons]; exact .cons y t (ih i)
  exact ht (hd h i) k
section
variable {prog : Program} {w : World} {A : Around} {E : Value → Shared → Prop} {s : Shared} {h₀ : Heap} {L : Addr} {m : Str → Option Value} {news : List (Addr × Obj)} {D : Addr} {vs : List Value} {n : Nat} {v : Value}
theorem l_first {Q : Value → Shared → Prop} {value slice : Expr} {k : Int} {u : Tok} (N : News h₀ L s.heap news) (hm : (D, lob (v :: vs) n) ∈ news) (hk : k = 0) (h : Q v s)
    (hs : subscripted slice false (.ref D) (.int k u) = operate [.ref D, .int k u] (getItem (.ref D) (.int k u)) := by with_unfolding_all rfl) :
    wpAny (model prog w) A (subscriptTail value slice (.ref D) (.int k u)) Q E s := by
  subst hk
  have hl : s.heap.IsList D (v :: vs).toArray := ⟨_, N.get hm, rfl, _, rfl⟩
  refine tail_any hl.typeIs slot_list_getitem.lookup (wpAny_getItem_list hl (by decide) (by simp) (by simp) h) hs
end
theorem pick_str (vs : List Value) (i q : Nat) (h : i + q + 1 ≤ vs.length) : kms_pick vs (some (0 + (i : Int))) (some (0 + (i : Int) + (q : Int) + 1)) = (vs.drop i).take (q + 1) := by
  have e1 : (0 + (i : Int)) = ((i : Nat) : Int) := by omega
  have e2 : (0 + (i : Int) + (q : Int) + 1) = ((i + q + 1 : Nat) : Int) := by omega
  rw [e2, e1, pick_run vs i (i + q + 1) (by omega) h, show i + q + 1 - i = q + 1 by omega]
theorem rows35 : True := by
  k_with "pyIter ref" => ((k_here; refine stop_here ?_))
  k_with "exec For Name Call cons nil" => ((k_here; refine stop_here ?_))
  k_with "exec For Name Call" => ((k_here; refine stop_here ?_))
  k_with "subscriptTail Call Constant ref int" => ((k_here; refine stop_here ?_))
  k_with "subscriptTail Call Constant" => ((k_here; refine stop_here ?_))
  k_with "call builtin:sorted" => ((k_here; refine stop_here ?_))
  k_with "call ref" => ((k_here; (with_reducible show wpAny _ _ (call (Value.ref 134) [_]) _ _ _); refine stop_here ?_))
  trivial
noncomputable def lawDef : Option (Arguments × List Stmt × Scope) := PW.theDef (Str.ofString "law")
noncomputable def lawFor : Stmt := match lawDef with
  | some d => (match d.2.1.drop 8 with | st :: _ => st | [] => .Pass ⟨0, 0, 0, 0⟩)
  | none => .Pass ⟨0, 0, 0, 0⟩
noncomputable def lawScope : Scope := match lawDef with
  | some d => d.2.2
  | none => { kind := .function, names := [], isGenerator := false, isCoroutine := false }
section
variable {w : World} {p : Program} {loose : List Str} {mean : ExcName → Option Value} {mg mb : Str → Option Value} {dp un : Nat} {fr : Option (List Env)} {gd : Option (List Code)} {h₀ : Heap} {s : Shared} {Q : Flow → Shared → Prop} {L : Addr} {m : Str → Option Value}
theorem pair_off {x1 x2 : Str} {m m₁ : Str → Option Value} (h : ∀ z, z ∉ [x1, x2] → m₁ z = m z) : m₁ = fun z => if z = x2 then m₁ x2 else if z = x1 then m₁ x1 else m z := by
  funext z
  by_cases h1 : z = x2
  · rw [if_pos h1, h1]
  by_cases h2 : z = x1
  · rw [if_neg h1, if_pos h2, h2]
  · rw [if_neg h1, if_neg h2]
    exact h z (by simp only [List.mem_cons, List.not_mem_nil, or_false, not_or]; exact ⟨h2, h1⟩)
theorem news_e1 {h₀ h : Heap} {L : Addr} {e : Addr × Obj} {r : List (Addr × Obj)} (N : News h₀ L h r) (he : e ∈ r) : News h₀ L h (e :: r) := List.forall_mem_cons.mpr ⟨N e he, N⟩
theorem loops_c (st : Stmt) (sc : Scope) (hst : lawFor = st) (hsc : lawScope = sc) (nm : Str) (a : Addr) (cd : Value) (lr pl : Addr) (rs pvs : List Value) (rn pn : Nat) (pls : List (Addr × Obj)) (od : Str → Bool) (ws : List Str)
    (X7 : (hd.heap_39 w.params).In h₀) (T7 : Top p loose mean mg mb h₀) (hdp : dp + 40 < recursionLimit) (hun : un + 200 < cLine)
    (F : Fr h₀ L s.heap (fun z => if z = Str.ofString "lists" then some (.ref lr) else if z = Str.ofString "places" then some (.ref pl) else m z)) (N : News h₀ L s.heap ((lr, lob rs rn) :: (pl, lob pvs pn) :: pls))
    (hrf : RefsTo pls rs ((List.range (ws.length + 1)).map (walkTo od ws))) (hpl : StrsAre pvs (placesTo od ws (ws.length + 1))) (hw : ∀ y ∈ ws, isW y) (h6 : ws.length = 6)
    (hQ : ∀ m' h' tk', Fr h₀ L h' m' → News h₀ L h' ((lr, lob rs rn) :: (pl, lob pvs pn) :: pls) → Q .next { s with heap := h', toks := tk' }) : wpAny (model PW w) (AR dp fr gd un) (exec st (envOfC nm sc L a cd)) Q (fun _ _ => False) s := by
  conv at hst => lhs; whnf
  conv at hsc => lhs; whnf
  subst hst hsc
  have hrl : rs.length = 7 := by rw [hrf.len, List.length_map, List.length_range, h6]
  have hpl7 : pvs.length = 7 := by rw [strs_len hpl]; unfold placesTo; rw [List.length_map, List.length_range, h6]
  (with_unfolding_all refine' For_invVF F ?k1 ?k2 ?_; (case k1 => exact rfl); (case k2 => exact rfl))
  walk_at "my steps"
  refine StopAt.mk ?_
  rename IsRange _ _ _ _ _ _ _ _ => rgX
  rename News _ _ _ _ => N8
  rename Fr _ _ _ _ => F8
  have N9 : News h₀ L _ ((lr, lob rs rn) :: (pl, lob pvs pn) :: pls) := fun q hq => N8 q (by first | exact hq | exact .tail _ hq)
  refine' loop_range [Str.ofString "i", Str.ofString "j", Str.ofString "top"] _ (.head _) rfl rgX ?sm (rangeSize_nat _ _) F8 N9 ?turn ?done
  case sm => exact small_one (by decide) (by decide) (by decide) (by decide)
  case done =>
    intro m' h9 tk hm' F9 N9
    exact hQ _ _ _ F9 N9
  case turn =>
    intro i ti m' I oI h9 tk hi hm' hoff F9 N9
    clear F8 N8 rgX
    rw [three_off hm'] at F9
    generalize m' _ = w1 at F9
    generalize m' _ = w2 at F9
    generalize m' _ = w3 at F9
    dsimp only at F9 N9 ⊢
    walk_at "my steps"
    refine StopAt.mk ?_
    rename Fr _ _ _ _ => F8
    (with_unfolding_all refine' For_invVF F8 ?k1 ?k2 ?_; (case k1 => exact rfl); (case k2 => exact rfl))
    walk_at "my steps"
    refine StopAt.mk ?_
    rename IsRange _ _ _ _ _ _ _ _ => rgX
    rename News _ _ _ _ => N8
    rename Fr _ _ _ _ => F8
    refine' loop_range [Str.ofString "j", Str.ofString "top"] _ (.head _) rfl rgX ?sm2 (rangeSize_nat _ _) F8 N8 ?turn2 ?done2
    case sm2 => exact small_one (by omega) (by omega) (by decide) (by decide)
    case done2 =>
      intro m'' h10 tk10 hm'' F10 N10
      clear F8 N8 rgX
      rw [pair_off hm''] at F10
      generalize m'' _ = w4 at F10
      generalize m'' _ = w5 at F10
      dsimp only at F10 N10 ⊢
      walk_at "my steps"
      refine ⟨_, _, _, rfl, fun z hz => ?_, F10, N10⟩
      simp only [List.mem_cons, List.not_mem_nil, or_false, not_or] at hz
      exact (if_neg hz.2.2).trans ((if_neg hz.2.1).trans ((if_neg hz.1).trans ((if_neg hz.2.2).trans ((if_neg hz.2.1).trans (if_neg hz.1)))))
    case turn2 =>
      intro j tj m'' J oJ h10 tk10 hj hm'' hoff2 F10 N10
      clear F8 N8 rgX
      rw [pair_off hm''] at F10
      generalize m'' _ = w4 at F10
      generalize m'' _ = w5 at F10
      dsimp only at F10 N10 ⊢
      walk_at "my steps"
      refine StopAt.mk ?_
      rename News _ _ _ _ => N8
      rename Fr _ _ _ _ => F8
      have hj7 : i + j + 1 ≤ 7 := by omega
      rw [pick_str rs i j (by omega)] at N8
      have hrs := hrf.stretch i (j + 1)
      have hlen : ((rs.drop i).take (j + 1)).length = j + 1 := by rw [List.length_take, List.length_drop]; omega
      have hfacts := lists_facts (od := od) hw (by omega)
      have hsl : ∀ l ∈ ((((List.range (ws.length + 1)).map (walkTo od ws)).drop i).take (j + 1)), (∀ z ∈ l, isN z) ∧ l.length ≤ 10 := fun l hl => hfacts l (List.mem_of_mem_drop (List.mem_of_mem_take hl))
      refine sorted_len F8 N8 (by k_mem) (pls := pls) ?hsub hrs (by omega) ?hne ?hsz fun D2 h2 tk2 ta lv ln rest c Tl F2 N2 l2 hta hsT hTl hmin => ?_
      case hsub => intro q hq; exact .tail _ (.tail _ (.tail _ (.tail _ (.tail _ hq))))
      case hne => intro e; rw [e] at hlen; simp at hlen
      case hsz => intro l hl; have := (hsl l hl).2; omega
      clear F8 N8
      walk_at "my steps"
      refine StopAt.mk ?_
      rename News _ _ _ _ => N8
      rename Fr _ _ _ _ => F8
      rw [pick_str pvs i j (by omega)] at N8
      have hsp := strs_stretch hpl i (j + 1)
      have hpe : (((placesTo od ws (ws.length + 1)).drop i).take (j + 1)) = ((((List.range (ws.length + 1)).map (walkTo od ws)).drop i).take (j + 1)).map plc := by
        unfold placesTo
        rw [List.map_take, List.map_drop, List.map_map]
        rfl
      rw [hpe] at hsp
      have hpll : ((pvs.drop i).take (j + 1)).length = j + 1 := by rw [List.length_take, List.length_drop]; omega
      have hst := stretch_pre (od := od) (ws := ws) (i := i) (j := i + j) (by omega) (by omega) (Tl := Tl)
      rw [show i + j + 1 - i = j + 1 by omega] at hst
      refine common_n _ ((pvs.drop i).take (j + 1)) 0 ((((List.range (ws.length + 1)).map (walkTo od ws)).drop i).take (j + 1)) Tl (N8.get (.head _)) hsp (by omega) ?hnp ?hlf hTl (hst hTl hmin) X7 T7 F8.keep (by omega) (by omega) fun t3 h3 tk3 ex => ?_
      case hnp => intro e; rw [e] at hpll; simp at hpll
      case hlf => exact fun l hl => ⟨(hsl l hl).1, Nat.le_trans (plc_le (hsl l hl).1 (by have := (hsl l hl).2; omega)) (by decide), by have := (hsl l hl).2; omega⟩
      have F3 := ex.fr0 F8
      have N3 := news_e1 (ex.news0 N8) (e := (ta, lob lv ln)) (.tail _ (.tail _ (.tail _ (.tail _ (.tail _ (.tail _ (.tail _ hta)))))))
      have hTf := hsl Tl hTl
      have hjr := join_room hTf
      have hjl := join_len Tl hTf.1 (by omega)
      clear F8 N8 ex hst hsp hpe hrs hlen hmin hTl
      dsimp only at F3 N3 ⊢
      walk_at "my steps"
      · rename (_ != _) = true => hne
        exact absurd hne (by rw [Bool.not_eq_true]; exact bne_self_eq_false _)
      · refine ⟨_, _, _, rfl, fun z hz => ?_, F3, fun q hq => N3 q ?_⟩
        · simp only [List.mem_cons, List.not_mem_nil, or_false, not_or] at hz
          exact (if_neg hz.2).trans ((if_neg hz.1).trans ((if_neg hz.2).trans (if_neg hz.1)))
        · exact .tail _ (.tail _ (.tail _ (.tail _ hq)))
end
theorem rows36 : True := by
  k_with "eval DictComp" => ((k_here; refine stop_here ?_))
  k_with "exec Assign cons DictComp" => ((k_here; refine stop_here ?_))
  k_with "eval ListComp" => ((k_here; refine stop_here ?_))
  k_with "binaryOp Add ref ref" => ((k_here; refine stop_here ?_))
  k_with "subscriptTail BinOp" => ((k_here; refine stop_here ?_))
  k_with "subscriptTail Name BinOp" => ((k_here; refine stop_here ?_))
  k_with "call ref" => ((k_here; (with_reducible show wpAny _ _ (call (Value.ref 235) [Value.ref _, Value.ref _]) _ _ _); refine stop_here ?_))
  k_with "call ref" => ((k_here; (with_reducible show wpAny _ _ (call (Value.ref 242) [Value.ref _, Value.ref _]) _ _ _); refine stop_here ?_))
  k_with "call ref" => ((k_here; (with_reducible show wpAny _ _ (call (Value.ref 230) [Value.str _ _]) _ _ _); refine stop_here ?_))
  trivial
theorem news_swap2 {h₀ h : Heap} {L : Addr} {a b : List (Addr × Obj)} (N : News h₀ L h (a ++ b)) : News h₀ L h (b ++ a) := fun p hp => N p (by
  rcases List.mem_append.mp hp with hp | hp
  · exact List.mem_append_right _ hp
  · exact List.mem_append_left _ hp)
theorem not_lx {P : Params} {k : LxK} {st : LxS} {news : List (Addr × Obj)} (h : ∀ q ∈ lxL P k st, ∀ p ∈ news, p.1 ≠ q.1) {p : Addr × Obj} (hp : p ∈ news) : p.1 ∉ lxAd k := fun hm => by
  rw [← lxAd_eq P k st] at hm
  obtain ⟨q, hq, e⟩ := List.mem_map.mp hm
  exact h q hq p hp e.symm
theorem news_two {h₀ h : Heap} {L : Addr} {a p q r t : Addr × Obj} {pls : List (Addr × Obj)} (N : News h₀ L h (a :: ([p, q, r, t] ++ pls))) : News h₀ L h (a :: p :: t :: pls) := fun x hx => N x (by
  rcases List.mem_cons.mp hx with rfl | hx
  · exact .head _
  rcases List.mem_cons.mp hx with rfl | hx
  · exact .tail _ (.head _)
  rcases List.mem_cons.mp hx with rfl | hx
  · exact .tail _ (List.mem_append_left _ (.tail _ (.tail _ (.tail _ (.head _)))))
  · exact .tail _ (List.mem_append_right _ hx))
theorem two_front {x y : Str} {vx vy : Value} {m : Str → Option Value} (hx : m x = some vx) (hy : m y = some vy) : m = fun z => if z = x then some vx else if z = y then some vy else m z := by
  funext z
  by_cases h1 : z = x
  · rw [if_pos h1, h1, hx]
  by_cases h2 : z = y
  · rw [if_neg h1, if_pos h2, h2, hy]
  · rw [if_neg h1, if_neg h2]
theorem rows37 : True := by
  k_with "compareOp NotEq ref ref" => ((k_here; refine stop_here ?_))
  k_with "pyIter ref" => ((k_here; refine stop_here ?_))
  k_with "exec For Name Call cons nil" => ((k_here; refine stop_here ?_))
  trivial
theorem fr_front {x y : Str} {vx vy : Value} {m : Str → Option Value} {h₀ h : Heap} {L : Addr} (F : Fr h₀ L h m) (hx : m x = some vx) (hy : m y = some vy) : Fr h₀ L h (fun z => if z = x then some vx else if z = y then some vy else m z) := by
  rw [← two_front hx hy]; exact F
theorem law_holds : PySem.Challenge.rw_un0047_01.Holds := hd rfl rfl rfl (by
  k_go0
  all_goals (try k_fold)
  rename (Frag.In _ _) => X7
  rename (Top topProg _ _ _ _ _) => T7
  rename IntsAre _ _ => hI
  rename Heap.IsList (ghostOf _ _) _ _ => hL
  rename Not _ => hlen
  rename Fr _ _ _ _ => F0
  rename CellsAre _ _ _ => cx
  rename Obj.data _ = _ => c1
  dsimp only at c1
  revert c1
  rename Obj.data _ = _ => c2
  dsimp only at c2
  revert c2
  rename Obj.data _ = _ => c3
  dsimp only at c3
  revert c3
  intro c3 c2 c1
  rename Dflts _ _ _ _ _ _ => dfx
  rename Heap.CodeRec _ _ _ => crx
  clear cx dfx crx
  dsimp only at F0
  have hvl := hI.length
  rename List Int => ns
  have hle : ns.length ≤ 63 := by omega
  walk_at "my steps"
  refine StopAt.mk ?_
  rename News _ _ _ _ => N7
  rename Fr _ _ _ _ => F7
  refine' comp_list F7 ?g1 ?g2 ?g3 ?g4 ?g5 ?g6 ?g7 ?hit
  case g1 => rfl
  case g2 => decide
  case g3 => rfl
  case g4 => decide
  case g5 => rfl
  case g6 => intro _; rfl
  case g7 => rfl
  case hit =>
    walk_at "my steps"
    rename News _ _ _ _ => N8
    rename Fr _ _ _ _ => F8
    refine ⟨_, _, _, _, _, _, fun _ ys => ∃ ms, IntsAre ys ms, rfl, rfl, F8, N8, .head _, ?sz, ⟨[], .nil⟩, ?turn, ?fin⟩
    case sz => exact Nat.le_trans (by unfold kms_pick; simp; omega) (Nat.le_refl 1000)
    case turn =>
      rintro I C D i v oI oC m₂ ys h tk hv ⟨ms, hms⟩ hyl hoC hxv off hne F9 N9
      obtain ⟨k, t, rfl⟩ := ints_pick hI hv
      clear N8 F8
      walk_at "my steps"
      exact EltOK.intro (by assumption) (by assumption) (fun _ h => h) ⟨_, hms.append (.cons _ _ .nil)⟩
    case fin =>
      rintro D ys h tk ⟨ms, hms⟩ hyl F9 N9 off
      have hy6 : ys.length = min 6 ns.length := by rw [hyl]; unfold kms_pick; simp [kms_hi, kms_lo]; omega
      clear N8 F8 hyl
      dsimp only
      walk_at "my steps"
      refine StopAt.mk ?_
      rename News _ _ _ _ => N8
      rename Fr _ _ _ _ => F8
      rw [show ((6 : Int)) = ((6 : Nat) : Int) from rfl, pick_upto, pick_from] at N8
      obtain ⟨zs, ks, hks, hz6, e9⟩ := lit_drop ns.length _ _ _ _ _ _
      rw [e9] at N8
      clear e9
      refine l_add F8 N8 (l_is N8 (.tail _ (.tail _ (.head _)))) (l_is N8 (.head _)) (by omega) (by omega) fun D9 h9 F9 N9 l1 => ?_
      k_lt l1
      have hnum := hms.append hks
      have h6 : (ys ++ zs).length = 6 := by simp; omega
      clear F8 N8
      generalize ys ++ zs = nv at *
      obtain ⟨a0, a1, a2, a3, a4, a5, u0, u1, u2, u3, u4, u5, rfl⟩ := ints_six hnum h6
      have N10 := news_drop4 N9
      clear N9
      dsimp only
      walk_at "my steps"
      refine StopAt.mk ?_
      rename News _ _ _ _ => N8
      rename Fr _ _ _ _ => F8
      refine' comp_dictB F8 ?d1 ?d2 ?d3 ?d4 ?d5 ?d6 ?d7 ?d8 ?d9 ?d10 ?d11 ?dhit
      case d1 => rfl
      case d2 => rfl
      case d3 => rfl
      case d4 => rfl
      case d5 => rfl
      case d6 => decide
      case d7 => rfl
      case d8 => decide
      case d9 => rfl
      case d10 => intro _; rfl
      case d11 => rfl
      case dhit =>
        walk_at "my steps"
        rename IsRange _ _ _ _ _ _ _ _ => rgX
        rename News _ _ _ _ => N8
        rename Fr _ _ _ _ => F8
        refine ⟨_, 3, _, _, _, _, _, _, ModesAre, rfl, rfl, F8, N8, rgX, by decide, ⟨[], rfl, (fun _ h => nomatch h), rfl⟩, ?turn, ?fin⟩
        case turn =>
          rintro I C D i t oI oC oD m₂ kvs h tk hi hR hd hoC hxv off hne F9 N9
          clear N8 F8 rgX
          rcases i with _ | _ | _ | i
          · walk_at "my steps"
            exact EltOK.intro (by assumption) (by assumption) (fun _ h => h) (modes_step hR rfl (ok_mode a0))
          · walk_at "my steps"
            exact EltOK.intro (by assumption) (by assumption) (fun _ h => h) (modes_step hR rfl (ok_mode a1))
          · walk_at "my steps"
            exact EltOK.intro (by assumption) (by assumption) (fun _ h => h) (modes_step hR rfl (ok_mode a2))
          · exact absurd hi (by omega)
        case fin =>
          rintro D oD kvs h tk hR hd F9 N9 off hDb
          clear N8 F8 rgX
          have hDs : (D == sysModules) = false := by
            have h2 := Heap.lt_size (X7 216 _ rfl)
            exact beq_eq_false_iff_ne.mpr (Nat.ne_of_gt (Nat.lt_of_lt_of_le (Nat.lt_of_lt_of_le (by decide : (1 : Nat) < 216) (Nat.le_of_lt h2)) hDb))
          replace off := AllNe.of off
          simp only [AllNe, and_true] at off
          dsimp only
          walk_at "my steps"
          refine StopAt.mk ?_
          rename News _ _ _ _ => N8
          rename Fr _ _ _ _ => F8
          refine' comp_listA F8 ?p1 ?p2 ?p3 ?p4 ?p5 ?p6 ?p7 ?p8 ?p9 ?p10 ?p11 ?phit
          case p1 => rfl
          case p2 => rfl
          case p3 => rfl
          case p4 => rfl
          case p5 => rfl
          case p6 => decide
          case p7 => rfl
          case p8 => decide
          case p9 => rfl
          case p10 => intro _; rfl
          case p11 => rfl
          case phit =>
            walk_at "my steps"
            rename News _ _ _ _ => N8
            rename Fr _ _ _ _ => F8
            refine ⟨D9, [Value.int a0 u0, Value.int a1 u1, Value.int a2 u2, Value.int a3 u3, Value.int a4 u4, Value.int a5 u5], 0, _, _, _, fun i ys => StrsAre ys (([a0, a1, a2, a3, a4, a5].take i).map wordOf), rfl, rfl, F8, N8, by k_mem, Nat.le_of_ble_eq_true rfl, .nil, ?turn, ?fin⟩
            case turn =>
              rintro I C D i v oI oC m₂ ys h tk hv hR hyl hoC hxv off hne F9 N9
              obtain ⟨k, t, rfl⟩ := ints_mem hnum v (List.mem_of_getElem? hv)
              clear N8 F8
              walk_at "my steps"
              refine StopAt.mk ?_
              rename News _ _ _ _ => N8
              rename Fr _ _ _ _ => F8
              refine' l_add F8 N8 ?am (l_is N8 (.head _)) ?as1 ?as2 ?ah
              case am => exact l_is N8 (by k_mem)
              case as1 => exact Nat.le_of_ble_eq_true rfl
              case as2 => exact Nat.le_of_ble_eq_true rfl
              intro Da ha Fa Na l2
              clear F8 N8
              dsimp only [List.cons_append, List.nil_append] at Na
              walk_at "my steps"
              refine StopAt.mk ?_
              rename Fr _ _ _ _ => F8
              refine kba_turn (value' := PySem.Expr.Name (PySem.Str.ofString "_") ⟨0, 0, 0, 0⟩) (fun _ => rfl) ?_
              refine l_any (l_is Na (.head _)) (Int.fmod_nonneg_of_pos _ (by decide)) (Int.fmod_lt_of_pos _ (by decide)) (Nat.le_of_ble_eq_true rfl) fun v2 hv2 => ?_
              exact EltOK.intro F8 Na (fun p hp => .tail _ (.tail _ hp)) (word_step hR hv hv2)
            case fin =>
              rintro D2 ys h tk hR2 hyl F9 N9 off2
              clear N8 F8
              replace off2 := AllNe.of off2
              simp only [AllNe, and_true] at off2
              dsimp only
              walk_at "my steps"
              refine StopAt.mk ?_
              rename News _ _ _ _ => N8
              rename Fr _ _ _ _ => F8
              refine' comp_list F8 ?e1 ?e2 ?e3 ?e4 ?e5 ?e6 ?e7 ?ehit
              case e1 => rfl
              case e2 => decide
              case e3 => rfl
              case e4 => decide
              case e5 => rfl
              case e6 => intro _; rfl
              case e7 => rfl
              case ehit =>
                walk_at "my steps"
                rename News _ _ _ _ => N8
                rename Fr _ _ _ _ => F8
                refine ⟨D9, [Value.int a0 u0, Value.int a1 u1, Value.int a2 u2, Value.int a3 u3, Value.int a4 u4, Value.int a5 u5], 0, _, _, _, fun i ys => StrsAre ys (([a0, a1, a2, a3, a4, a5].take i).map rowOf), rfl, rfl, F8, N8, by k_mem, Nat.le_of_ble_eq_true rfl, .nil, ?turn, ?fin⟩
                case turn =>
                  rintro I C D i v oI oC m₂ ys h tk hv hR hyl hoC hxv off hne F9 N9
                  obtain ⟨k, t, rfl⟩ := ints_mem hnum v (List.mem_of_getElem? hv)
                  clear N8 F8
                  walk_at "my steps"
                  refine StopAt.mk ?_
                  rename Fr _ _ _ _ => F8
                  refine' l_any ?lz ?lz1 ?lz2 ?lz3 ?lh
                  case lz => exact l_is N9 (by k_mem)
                  case lz1 => exact Int.fmod_nonneg_of_pos _ (by decide)
                  case lz2 => exact Int.fmod_lt_of_pos _ (by decide)
                  case lz3 => exact Nat.le_of_ble_eq_true rfl
                  intro v2 hv2
                  exact EltOK.intro F8 N9 (fun p hp => hp) (row_step hR hv hv2)
                case fin =>
                  rintro D3 ts h tk hR3 htl F9 N9 off3
                  clear N8 F8
                  replace off3 := AllNe.of off3
                  simp only [AllNe, and_true] at off3
                  have hR3' : StrsAre ts ([rowOf a0, rowOf a1, rowOf a2, rowOf a3, rowOf a4, rowOf a5]) := hR3
                  have hwt := row_weight a0 a1 a2 a3 a4 a5
                  dsimp only
                  walk_at "my steps"
                  refine StopAt.mk ?_
                  rename News _ _ _ _ => N8
                  rename Fr _ _ _ _ => F8
                  obtain ⟨hrt, hrs⟩ := rows_text a0 a1 a2 a3 a4 a5
                  refine' lexer_u _ _ F8 N8 ?lu X7 T7 ?ld ?le hrs ?lf
                  case lu => k_updF
                  case ld => ktr_room
                  case le => ktr_units
                  case lf =>
                    rintro k u vs n o h9 tk9 hk hS F9 N9 hnq
                    rw [hrt] at hS
                    rw [← Array.length_toList, hrt] at hrs
                    have N10 := news_swap2 N9
                    dsimp only [List.cons_append, List.nil_append] at N10
                    clear F8 N8 N9
                    walk_at "my steps"
                    refine StopAt.mk ?_
                    rename News _ _ _ _ => N8
                    rename Fr _ _ _ _ => F8
                    obtain ⟨z0, t0, z1, t1, z2, t2, o0, o1, o2, rfl⟩ := modes_lit hR
                    have hsz := strs_len hS
                    rw [List.length_map] at hsz
                    have hw6 := words_six a0 a1 a2 a3 a4 a5
                    have hDk := not_lx (P := _) (k := k) (st := ⟨1, u, vs, n⟩) hnq (p := (D, oD)) (by k_mem)
                    have hD2k := not_lx (P := _) (k := k) (st := ⟨1, u, vs, n⟩) hnq (p := (D2, lob ys ys.length)) (by k_mem)
                    have hPk := not_lx (P := _) (k := k) (st := ⟨1, u, vs, n⟩) hnq (p := (225, tabObj #[])) (by k_mem)
                    have hW6 : StrsAre ys [wordOf a0, wordOf a1, wordOf a2, wordOf a3, wordOf a4, wordOf a5] := hR2
                    have hD2D := off2.1
                    refine' walked_u k ⟨1, u, vs, n⟩ [wordOf a0, wordOf a1, wordOf a2, wordOf a3, wordOf a4, wordOf a5] D oD z0 z1 z2 t0 t1 t2 [(D2, lob ys ys.length), (D, oD), (225, tabObj o)] hk F8 N8 ?wa ?wb X7 T7 ?wc ?wd hDk ⟨hS, ?wf⟩ hw6 ?wg hd hDs o0 o1 o2 ?wh
                    case wa =>
                      intro q hq
                      rcases List.mem_append.mp hq with hq | hq
                      · repeat (first | exact hq | apply List.Mem.tail)
                      · rw [List.mem_singleton.mp hq]; k_mem
                    case wb => exact List.forall_mem_cons.mpr ⟨⟨by k_mem, hD2k⟩, List.forall_mem_cons.mpr ⟨⟨by k_mem, hDk⟩, List.forall_mem_cons.mpr ⟨⟨by k_mem, hPk⟩, List.forall_mem_nil _⟩⟩⟩
                    case wc => ktr_room
                    case wd => ktr_units
                    case wf => dsimp only; omega
                    case wg => exact Nat.le_of_ble_eq_true rfl
                    case wh =>
                      intro pl pvs pn h10 tk10 hpl F10 N10 offp
                      obtain ⟨op1, offp'⟩ := List.forall_mem_cons.mp offp
                      obtain ⟨op2, _⟩ := List.forall_mem_cons.mp offp'
                      dsimp only at op1 op2
                      clear F8 N8 hnq hR3' hR3 hwt hrt hrs hS htl
                      walk_at "my steps"
                      refine StopAt.mk ?_
                      rename News _ _ _ _ => N8
                      rename Fr _ _ _ _ => F8
                      refine' names_u D2 D ys ys.length oD [wordOf a0, wordOf a1, wordOf a2, wordOf a3, wordOf a4, wordOf a5] z0 z1 z2 t0 t1 t2 F8 N8 ?na ?nb X7 T7 ?nc ?nd hW6 hw6 ?ne hd hDs ?nf
                      case na => k_mem
                      case nb => k_mem
                      case nc => ktr_room
                      case nd => ktr_units
                      case ne => exact Nat.le_of_ble_eq_true rfl
                      case nf =>
                        intro lr rs rn pls h11 tk11 hrf F11 N11 offr offpls
                        clear F8 N8
                        have N12 := news_two N11
                        replace hrf := hrf.mono (pls' := (225, tabObj o) :: pls) fun _ hp => .tail _ hp
                        have h225 : (225, tabObj o) ∈ (225, tabObj o) :: pls := .head _
                        generalize (225, tabObj o) :: pls = pl2 at hrf N12 h225
                        clear N11 hDk hD2k offpls
                        obtain ⟨or1, _⟩ := List.forall_mem_cons.mp offr
                        dsimp only at or1
                        have hfacts := lists_facts (od := odOf z0 z1 z2) hw6 (Nat.le_of_ble_eq_true rfl)
                        have hrl := hrf.len
                        rw [List.length_map, List.length_range] at hrl
                        have hrl7 : rs.length = 7 := hrl
                        have hpok := places_ok (od := odOf z0 z1 z2) hw6
                        have hpl7 : pvs.length = 7 := (strs_len hpl).trans rfl
                        walk_at "my steps"
                        refine StopAt.mk ?_
                        rename News _ _ _ _ => N8
                        rename Fr _ _ _ _ => F8
                        refine' comp_list F8 ?e1 ?e2 ?e3 ?e4 ?e5 ?e6 ?e7 ?ehit
                        case e1 => rfl
                        case e2 => decide
                        case e3 => rfl
                        case e4 => decide
                        case e5 => rfl
                        case e6 => intro _; rfl
                        case e7 => rfl
                        case ehit =>
                          walk_at "my steps"
                          rename News _ _ _ _ => N8
                          rename Fr _ _ _ _ => F8
                          refine ⟨lr, rs, rn, _, _, _, fun i ys => StrsAre ys ((((List.range ([wordOf a0, wordOf a1, wordOf a2, wordOf a3, wordOf a4, wordOf a5].length + 1)).map (walkTo (odOf z0 z1 z2) [wordOf a0, wordOf a1, wordOf a2, wordOf a3, wordOf a4, wordOf a5])).take i).map plc), rfl, rfl, F8, N8, by k_mem, by omega, .nil, ?turn, ?fin⟩
                          case turn =>
                            rintro I C D i v oI oC m₂ ys h tk hv hR hyl hoC hxv off hne F9 N9
                            obtain ⟨a, av, an, al, rfl, hl, hmem, hsa⟩ := hrf.at i v hv
                            have hal := hfacts al (List.mem_of_getElem? hl)
                            have hjr := join_room hal
                            have hjl := join_len al hal.1 (by omega)
                            have N10 := news_e1 N9 (e := (a, lob av an)) (.tail _ (.tail _ (.tail _ (.tail _ (.tail _ hmem)))))
                            clear N8 F8 N9
                            walk_at "my steps"
                            rename News _ _ _ _ => N8
                            refine EltOK.intro (by assumption) N8 (fun _ hp => .tail _ hp) ?_
                            exact plc_step hR hl
                          case fin =>
                            rintro D4 ys4 h tk hR4 hyl F9 N9 off4
                            clear N8 F8
                            have hR5 : StrsAre ys4 (placesTo (odOf z0 z1 z2) [wordOf a0, wordOf a1, wordOf a2, wordOf a3, wordOf a4, wordOf a5] ([wordOf a0, wordOf a1, wordOf a2, wordOf a3, wordOf a4, wordOf a5].length + 1)) := by
                              rw [hrl7] at hR4
                              unfold placesTo
                              have e : ((List.range ([wordOf a0, wordOf a1, wordOf a2, wordOf a3, wordOf a4, wordOf a5].length + 1)).map (walkTo (odOf z0 z1 z2) [wordOf a0, wordOf a1, wordOf a2, wordOf a3, wordOf a4, wordOf a5])).take 7 = ((List.range ([wordOf a0, wordOf a1, wordOf a2, wordOf a3, wordOf a4, wordOf a5].length + 1)).map (walkTo (odOf z0 z1 z2) [wordOf a0, wordOf a1, wordOf a2, wordOf a3, wordOf a4, wordOf a5])) := List.take_of_length_le (by rw [List.length_map, List.length_range]; exact Nat.le_of_ble_eq_true rfl)
                              rw [e, List.map_map] at hR4
                              exact hR4
                            walk_at "my steps"
                            refine StopAt.mk ?_
                            rename News _ _ _ _ => N8
                            refine' ne_strs (l_is N8 ?ca) (l_is N8 ?cb) hpl hR5 hpok ?cu ?cz
                            case ca => k_mem
                            case cb => k_mem
                            case cu => ke_room
                            walk_at "my steps"
                            refine StopAt.mk ?_
                            rename News _ _ _ _ => N8
                            rename Fr _ _ _ _ => F8
                            have F9 := fr_front F8 (x := Str.ofString "lists") (y := Str.ofString "places") (vx := .ref lr) (vy := .ref pl) (by rfl) (by rfl)
                            have N9 : News _ _ _ ((lr, lob rs rn) :: (pl, lob pvs pn) :: pl2) := fun q hq => N8 q (by
                              rcases List.mem_cons.mp hq with rfl | hq
                              · k_mem
                              rcases List.mem_cons.mp hq with rfl | hq
                              · k_mem
                              · repeat (first | exact hq | apply List.Mem.tail))
                            refine wpAny_mono (loops_c _ _ ?hst ?hsc _ _ _ lr pl rs pvs rn pn pl2 (odOf z0 z1 z2) [wordOf a0, wordOf a1, wordOf a2, wordOf a3, wordOf a4, wordOf a5] X7 T7 ?ldp ?lun F9 N9 hrf hpl hw6 rfl fun m' h' tk' F' N' => ?lq) (fun _ _ q => q) (fun _ _ f => f.elim)
                            case hst => rfl
                            case hsc => rfl
                            case ldp => ktr_room
                            case lun => ktr_units
                            case lq =>
                              have N10 := news_e1 N' (.tail _ (.tail _ h225))
                              clear F8 N8 N9 F9 N' hrf hpl hR4 hR5 hpok hfacts hw6 hW6 hR hR2 hnum
                              dsimp only
                              walk_at "my steps"
                              k_steps
                              all_goals w_report)
end Mine
theorem PySem.Challenge.cw_un0047_01_holds : PySem.Challenge.rw_un0047_01.Holds :=
  Mine.law_holds
