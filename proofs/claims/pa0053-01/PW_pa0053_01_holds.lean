import PyProof.Rows.All
import Wide.All
import OpenK.AllK
import Wide.FinOn
import KE.KSortTup
import PySem.Challenge.RW_pa0053_01
set_option Elab.async false
section
open PySem PySem.W PyProof.Rows
set_option Elab.async false
set_option maxRecDepth 100000
namespace Mine
noncomputable abbrev pw : Program := PySem.Challenge.pw_pa0053_01
/-- the text's view: the statements whose names are pinned -/
noncomputable def myV : Program := view pw [0, 2, 3, 4, 5, 6, 7, 8, 9, 10, 11, 12, 13, 14, 15, 16, 17, 18, 19, 20, 21, 22, 23, 25, 26, 28, 29, 30, 31, 36, 37, 38, 39, 40, 41, 42, 43, 45, 46, 47, 48, 49, 50, 51]
noncomputable def myL : List Str := [Str.ofString "_filemode_table", Str.ofString "bytes_types", Str.ofString "a2b_base64", Str.ofString "b64decode"]
/-- the function that the text's statement i makes -/
noncomputable def fnO (i : Nat) (md : Str) (mt cd : Nat) (dV kV : Value) : Obj := match pw.main.body[i]? with
  | some (.FunctionDef n p b _ _ _ sc _ _ _) => { cls := .type "function", data := .func { name := n, qualname := n, params := p, body := .stmts b, scope := sc, globals := 3, closure := [], defaults := dV, kwdefaults := kV, pyModule := .str md mt, code := .ref cd } }
  | _ => { cls := .none, data := .plain }
/-- what the top leaves, as far as the walk asks for it -/
noncomputable def myK (P : Params) : Frag := [
  (3, { cls := Value.type "dict", data := Data.dict #[{ hash := PyData.keyHash P (Str.ofString "__name__"), key := Value.str (Str.ofString "__name__") (165), val := Value.str (Str.ofString "law_pa0053_01") (447) }, { hash := PyData.keyHash P (Str.ofString "__doc__"), key := Value.str (Str.ofString "__doc__") (166), val := Value.none }, { hash := PyData.keyHash P (Str.ofString "__package__"), key := Value.str (Str.ofString "__package__") (167), val := Value.none }, { hash := PyData.keyHash P (Str.ofString "__loader__"), key := Value.str (Str.ofString "__loader__") (168), val := Value.builtin "__main__.__loader__#opaque" }, { hash := PyData.keyHash P (Str.ofString "__spec__"), key := Value.str (Str.ofString "__spec__") (169), val := Value.none }, { hash := PyData.keyHash P (Str.ofString "__annotations__"), key := Value.str (Str.ofString "__annotations__") (170), val := Value.ref (6) }, { hash := PyData.keyHash P (Str.ofString "__builtins__"), key := Value.str (Str.ofString "__builtins__") (171), val := Value.ref (4) }, { hash := PyData.keyHash P (Str.ofString "__file__"), key := Value.str (Str.ofString "__file__") (173), val := Value.str (Str.ofString "/claim/cut.py") (172) }, { hash := PyData.keyHash P (Str.ofString "__cached__"), key := Value.str (Str.ofString "__cached__") (174), val := Value.none }, { hash := PyData.keyHash P (Str.ofString "_wall"), key := Value.str (Str.ofString "_wall") (193), val := Value.ref (21) }, { hash := PyData.keyHash P (Str.ofString "S_IFMT"), key := Value.str (Str.ofString "S_IFMT") (202), val := Value.ref (28) }, { hash := PyData.keyHash P (Str.ofString "S_IFDIR"), key := Value.str (Str.ofString "S_IFDIR") (204), val := Value.int (16384) (203) }, { hash := PyData.keyHash P (Str.ofString "S_IFCHR"), key := Value.str (Str.ofString "S_IFCHR") (206), val := Value.int (8192) (205) }, { hash := PyData.keyHash P (Str.ofString "S_IFBLK"), key := Value.str (Str.ofString "S_IFBLK") (208), val := Value.int (24576) (207) }, { hash := PyData.keyHash P (Str.ofString "S_IFREG"), key := Value.str (Str.ofString "S_IFREG") (210), val := Value.int (32768) (209) }, { hash := PyData.keyHash P (Str.ofString "S_IFIFO"), key := Value.str (Str.ofString "S_IFIFO") (212), val := Value.int (4096) (211) }, { hash := PyData.keyHash P (Str.ofString "S_IFLNK"), key := Value.str (Str.ofString "S_IFLNK") (214), val := Value.int (40960) (213) }, { hash := PyData.keyHash P (Str.ofString "S_IFSOCK"), key := Value.str (Str.ofString "S_IFSOCK") (216), val := Value.int (49152) (215) }, { hash := PyData.keyHash P (Str.ofString "S_ISUID"), key := Value.str (Str.ofString "S_ISUID") (218), val := Value.int (2048) (217) }, { hash := PyData.keyHash P (Str.ofString "S_ISGID"), key := Value.str (Str.ofString "S_ISGID") (220), val := Value.int (1024) (219) }, { hash := PyData.keyHash P (Str.ofString "S_ISVTX"), key := Value.str (Str.ofString "S_ISVTX") (222), val := Value.int (512) (221) }, { hash := PyData.keyHash P (Str.ofString "S_IRUSR"), key := Value.str (Str.ofString "S_IRUSR") (224), val := Value.int (256) (223) }, { hash := PyData.keyHash P (Str.ofString "S_IWUSR"), key := Value.str (Str.ofString "S_IWUSR") (226), val := Value.int (128) (225) }, { hash := PyData.keyHash P (Str.ofString "S_IXUSR"), key := Value.str (Str.ofString "S_IXUSR") (228), val := Value.int (64) (227) }, { hash := PyData.keyHash P (Str.ofString "S_IRGRP"), key := Value.str (Str.ofString "S_IRGRP") (230), val := Value.int (32) (229) }, { hash := PyData.keyHash P (Str.ofString "S_IWGRP"), key := Value.str (Str.ofString "S_IWGRP") (232), val := Value.int (16) (231) }, { hash := PyData.keyHash P (Str.ofString "S_IXGRP"), key := Value.str (Str.ofString "S_IXGRP") (234), val := Value.int (8) (233) }, { hash := PyData.keyHash P (Str.ofString "S_IROTH"), key := Value.str (Str.ofString "S_IROTH") (236), val := Value.int (4) (235) }, { hash := PyData.keyHash P (Str.ofString "S_IWOTH"), key := Value.str (Str.ofString "S_IWOTH") (238), val := Value.int (2) (237) }, { hash := PyData.keyHash P (Str.ofString "S_IXOTH"), key := Value.str (Str.ofString "S_IXOTH") (240), val := Value.int (1) (239) }, { hash := PyData.keyHash P (Str.ofString "_filemode_table"), key := Value.str (Str.ofString "_filemode_table") (266), val := Value.ref (61) }, { hash := PyData.keyHash P (Str.ofString "filemode"), key := Value.str (Str.ofString "filemode") (278), val := Value.ref (68) }, { hash := PyData.keyHash P (Str.ofString "bytes_types"), key := Value.str (Str.ofString "bytes_types") (281), val := Value.ref (69) }, { hash := PyData.keyHash P (Str.ofString "_bytes_from_decode_data"), key := Value.str (Str.ofString "_bytes_from_decode_data") (288), val := Value.ref (76) }, { hash := PyData.keyHash P (Str.ofString "Error"), key := Value.str (Str.ofString "Error") (308), val := Value.ref (86) }, { hash := PyData.keyHash P (Str.ofString "_ascii_buffer"), key := Value.str (Str.ofString "_ascii_buffer") (316), val := Value.ref (96) }, { hash := PyData.keyHash P (Str.ofString "_truth"), key := Value.str (Str.ofString "_truth") (324), val := Value.ref (103) }, { hash := PyData.keyHash P (Str.ofString "_b64_value"), key := Value.str (Str.ofString "_b64_value") (331), val := Value.ref (110) }, { hash := PyData.keyHash P (Str.ofString "a2b_base64"), key := Value.str (Str.ofString "a2b_base64") (347), val := Value.ref (118) }, { hash := PyData.keyHash P (Str.ofString "b64decode"), key := Value.str (Str.ofString "b64decode") (358), val := Value.ref (126) }, { hash := PyData.keyHash P (Str.ofString "heappop"), key := Value.str (Str.ofString "heappop") (369), val := Value.ref (133) }, { hash := PyData.keyHash P (Str.ofString "heapify"), key := Value.str (Str.ofString "heapify") (378), val := Value.ref (140) }, { hash := PyData.keyHash P (Str.ofString "_heappop_max"), key := Value.str (Str.ofString "_heappop_max") (387), val := Value.ref (147) }, { hash := PyData.keyHash P (Str.ofString "_heapify_max"), key := Value.str (Str.ofString "_heapify_max") (396), val := Value.ref (154) }, { hash := PyData.keyHash P (Str.ofString "_siftdown"), key := Value.str (Str.ofString "_siftdown") (408), val := Value.ref (161) }, { hash := PyData.keyHash P (Str.ofString "_siftup"), key := Value.str (Str.ofString "_siftup") (421), val := Value.ref (168) }, { hash := PyData.keyHash P (Str.ofString "_siftdown_max"), key := Value.str (Str.ofString "_siftdown_max") (433), val := Value.ref (175) }, { hash := PyData.keyHash P (Str.ofString "_siftup_max"), key := Value.str (Str.ofString "_siftup_max") (446), val := Value.ref (182) }, { hash := PyData.keyHash P (Str.ofString "_law_price"), key := Value.str (Str.ofString "_law_price") (458), val := Value.ref (189) }, { hash := PyData.keyHash P (Str.ofString "_law_powers"), key := Value.str (Str.ofString "_law_powers") (467), val := Value.ref (196) }, { hash := PyData.keyHash P (Str.ofString "_law_net"), key := Value.str (Str.ofString "_law_net") (473), val := Value.ref (201) }, { hash := PyData.keyHash P (Str.ofString "_law_place"), key := Value.str (Str.ofString "_law_place") (480), val := Value.ref (208) }, { hash := PyData.keyHash P (Str.ofString "_law_figure"), key := Value.str (Str.ofString "_law_figure") (491), val := Value.ref (215) }, { hash := PyData.keyHash P (Str.ofString "_law_kept"), key := Value.str (Str.ofString "_law_kept") (504), val := Value.ref (222) }, { hash := PyData.keyHash P (Str.ofString "law"), key := Value.str (Str.ofString "law") (510), val := Value.ref (227) }] (55) }),
  (27, { cls := Value.type "code", data := Data.fields #[Value.str (Str.ofString "S_IFMT") (196), Value.str (Str.ofString "S_IFMT") (197), Value.str (Str.ofString "/claim/cut.py") (198), Value.int (5) (0), Value.int (1) (0), Value.int (0) (0), Value.int (0) (0), Value.int (3) (0), Value.ref (22), Value.bool true, Value.int (181) (0), Value.ref (23), Value.none, Value.ref (24), Value.ref (25), Value.ref (26), Value.int (200) (0), Value.int (5) (0), Value.str (Str.ofString "/claim/cut.py") (201)] }),
  (28, fnO 2 (Str.ofString "cpy313.stat") 194 27 .none .none),
  (29, { cls := Value.type "tuple", data := Data.seq #[Value.int (40960) (213), Value.str (Str.ofString "l") (241)] }),
  (30, { cls := Value.type "tuple", data := Data.seq #[Value.int (49152) (215), Value.str (Str.ofString "s") (242)] }),
  (31, { cls := Value.type "tuple", data := Data.seq #[Value.int (32768) (209), Value.str (Str.ofString "-") (243)] }),
  (32, { cls := Value.type "tuple", data := Data.seq #[Value.int (24576) (207), Value.str (Str.ofString "b") (244)] }),
  (33, { cls := Value.type "tuple", data := Data.seq #[Value.int (16384) (203), Value.str (Str.ofString "d") (245)] }),
  (34, { cls := Value.type "tuple", data := Data.seq #[Value.int (8192) (205), Value.str (Str.ofString "c") (246)] }),
  (35, { cls := Value.type "tuple", data := Data.seq #[Value.int (4096) (211), Value.str (Str.ofString "p") (247)] }),
  (36, { cls := Value.type "tuple", data := Data.seq #[Value.ref (29), Value.ref (30), Value.ref (31), Value.ref (32), Value.ref (33), Value.ref (34), Value.ref (35)] }),
  (37, { cls := Value.type "tuple", data := Data.seq #[Value.int (256) (223), Value.str (Str.ofString "r") (248)] }),
  (38, { cls := Value.type "tuple", data := Data.seq #[Value.ref (37)] }),
  (39, { cls := Value.type "tuple", data := Data.seq #[Value.int (128) (225), Value.str (Str.ofString "w") (249)] }),
  (40, { cls := Value.type "tuple", data := Data.seq #[Value.ref (39)] }),
  (41, { cls := Value.type "tuple", data := Data.seq #[Value.int (2112) (250), Value.str (Str.ofString "s") (251)] }),
  (42, { cls := Value.type "tuple", data := Data.seq #[Value.int (2048) (217), Value.str (Str.ofString "S") (252)] }),
  (43, { cls := Value.type "tuple", data := Data.seq #[Value.int (64) (227), Value.str (Str.ofString "x") (253)] }),
  (44, { cls := Value.type "tuple", data := Data.seq #[Value.ref (41), Value.ref (42), Value.ref (43)] }),
  (45, { cls := Value.type "tuple", data := Data.seq #[Value.int (32) (229), Value.str (Str.ofString "r") (254)] }),
  (46, { cls := Value.type "tuple", data := Data.seq #[Value.ref (45)] }),
  (47, { cls := Value.type "tuple", data := Data.seq #[Value.int (16) (231), Value.str (Str.ofString "w") (255)] }),
  (48, { cls := Value.type "tuple", data := Data.seq #[Value.ref (47)] }),
  (49, { cls := Value.type "tuple", data := Data.seq #[Value.int (1032) (256), Value.str (Str.ofString "s") (257)] }),
  (50, { cls := Value.type "tuple", data := Data.seq #[Value.int (1024) (219), Value.str (Str.ofString "S") (258)] }),
  (51, { cls := Value.type "tuple", data := Data.seq #[Value.int (8) (233), Value.str (Str.ofString "x") (259)] }),
  (52, { cls := Value.type "tuple", data := Data.seq #[Value.ref (49), Value.ref (50), Value.ref (51)] }),
  (53, { cls := Value.type "tuple", data := Data.seq #[Value.int (4) (235), Value.str (Str.ofString "r") (260)] }),
  (54, { cls := Value.type "tuple", data := Data.seq #[Value.ref (53)] }),
  (55, { cls := Value.type "tuple", data := Data.seq #[Value.int (2) (237), Value.str (Str.ofString "w") (261)] }),
  (56, { cls := Value.type "tuple", data := Data.seq #[Value.ref (55)] }),
  (57, { cls := Value.type "tuple", data := Data.seq #[Value.int (513) (262), Value.str (Str.ofString "t") (263)] }),
  (58, { cls := Value.type "tuple", data := Data.seq #[Value.int (512) (221), Value.str (Str.ofString "T") (264)] }),
  (59, { cls := Value.type "tuple", data := Data.seq #[Value.int (1) (239), Value.str (Str.ofString "x") (265)] }),
  (60, { cls := Value.type "tuple", data := Data.seq #[Value.ref (57), Value.ref (58), Value.ref (59)] }),
  (61, { cls := Value.type "tuple", data := Data.seq #[Value.ref (36), Value.ref (38), Value.ref (40), Value.ref (44), Value.ref (46), Value.ref (48), Value.ref (52), Value.ref (54), Value.ref (56), Value.ref (60)] }),
  (67, { cls := Value.type "code", data := Data.fields #[Value.str (Str.ofString "filemode") (267), Value.str (Str.ofString "filemode") (268), Value.str (Str.ofString "/claim/cut.py") (269), Value.int (27) (0), Value.int (1) (0), Value.int (0) (0), Value.int (0) (0), Value.int (3) (0), Value.ref (62), Value.bool true, Value.int (181) (0), Value.ref (63), Value.none, Value.ref (64), Value.ref (65), Value.ref (66), Value.int (276) (0), Value.int (27) (0), Value.str (Str.ofString "/claim/cut.py") (277)] }),
  (68, fnO 23 (Str.ofString "cpy313.stat") 194 67 .none .none),
  (69, { cls := Value.type "tuple", data := Data.seq #[Value.type "bytes", Value.type "bytearray"] }),
  (75, { cls := Value.type "code", data := Data.fields #[Value.str (Str.ofString "_bytes_from_decode_data") (282), Value.str (Str.ofString "_bytes_from_decode_data") (283), Value.str (Str.ofString "/claim/cut.py") (284), Value.int (46) (0), Value.int (1) (0), Value.int (0) (0), Value.int (0) (0), Value.int (3) (0), Value.ref (70), Value.bool true, Value.int (181) (0), Value.ref (71), Value.none, Value.ref (72), Value.ref (73), Value.ref (74), Value.int (286) (0), Value.int (46) (0), Value.str (Str.ofString "/claim/cut.py") (287)] }),
  (76, fnO 26 (Str.ofString "cpy313.base64") 279 75 .none .none),
  (95, { cls := Value.type "code", data := Data.fields #[Value.str (Str.ofString "_ascii_buffer") (309), Value.str (Str.ofString "_ascii_buffer") (310), Value.str (Str.ofString "/claim/cut.py") (311), Value.int (61) (0), Value.int (1) (0), Value.int (0) (0), Value.int (0) (0), Value.int (3) (0), Value.ref (90), Value.bool true, Value.int (181) (0), Value.ref (91), Value.none, Value.ref (92), Value.ref (93), Value.ref (94), Value.int (314) (0), Value.int (61) (0), Value.str (Str.ofString "/claim/cut.py") (315)] }),
  (96, fnO 29 (Str.ofString "binascii") 289 95 .none .none),
  (102, { cls := Value.type "code", data := Data.fields #[Value.str (Str.ofString "_truth") (317), Value.str (Str.ofString "_truth") (318), Value.str (Str.ofString "/claim/cut.py") (319), Value.int (72) (0), Value.int (1) (0), Value.int (0) (0), Value.int (0) (0), Value.int (3) (0), Value.ref (97), Value.bool true, Value.int (181) (0), Value.ref (98), Value.none, Value.ref (99), Value.ref (100), Value.ref (101), Value.int (322) (0), Value.int (72) (0), Value.str (Str.ofString "/claim/cut.py") (323)] }),
  (103, fnO 30 (Str.ofString "binascii") 289 102 .none .none),
  (109, { cls := Value.type "code", data := Data.fields #[Value.str (Str.ofString "_b64_value") (325), Value.str (Str.ofString "_b64_value") (326), Value.str (Str.ofString "/claim/cut.py") (327), Value.int (77) (0), Value.int (1) (0), Value.int (0) (0), Value.int (0) (0), Value.int (3) (0), Value.ref (104), Value.bool true, Value.int (181) (0), Value.ref (105), Value.none, Value.ref (106), Value.ref (107), Value.ref (108), Value.int (329) (0), Value.int (77) (0), Value.str (Str.ofString "/claim/cut.py") (330)] }),
  (110, fnO 31 (Str.ofString "binascii") 289 109 .none .none),
  (111, { cls := Value.type "dict", data := Data.dict #[{ hash := PyData.keyHash P (Str.ofString "strict_mode"), key := Value.str (Str.ofString "strict_mode") (332), val := Value.bool false }] (1) }),
  (117, { cls := Value.type "code", data := Data.fields #[Value.str (Str.ofString "a2b_base64") (333), Value.str (Str.ofString "a2b_base64") (334), Value.str (Str.ofString "/claim/cut.py") (335), Value.int (89) (0), Value.int (1) (0), Value.int (1) (0), Value.int (1) (0), Value.int (3) (0), Value.ref (112), Value.bool true, Value.int (181) (0), Value.ref (113), Value.none, Value.ref (114), Value.ref (115), Value.ref (116), Value.int (345) (0), Value.int (89) (0), Value.str (Str.ofString "/claim/cut.py") (346)] }),
  (118, fnO 32 (Str.ofString "binascii") 289 117 .none (.ref 111)),
  (119, { cls := Value.type "tuple", data := Data.seq #[Value.none, Value.bool false] }),
  (125, { cls := Value.type "code", data := Data.fields #[Value.str (Str.ofString "b64decode") (350), Value.str (Str.ofString "b64decode") (351), Value.str (Str.ofString "/claim/cut.py") (352), Value.int (144) (0), Value.int (3) (0), Value.int (0) (0), Value.int (0) (0), Value.int (3) (0), Value.ref (120), Value.bool true, Value.int (181) (0), Value.ref (121), Value.none, Value.ref (122), Value.ref (123), Value.ref (124), Value.int (356) (0), Value.int (144) (0), Value.str (Str.ofString "/claim/cut.py") (357)] }),
  (126, fnO 34 (Str.ofString "cpy313.base64") 348 125 (.ref 119) .none),
  (132, { cls := Value.type "code", data := Data.fields #[Value.str (Str.ofString "heappop") (361), Value.str (Str.ofString "heappop") (362), Value.str (Str.ofString "/claim/cut.py") (363), Value.int (152) (0), Value.int (1) (0), Value.int (0) (0), Value.int (0) (0), Value.int (3) (0), Value.ref (127), Value.bool true, Value.int (181) (0), Value.ref (128), Value.none, Value.ref (129), Value.ref (130), Value.ref (131), Value.int (367) (0), Value.int (152) (0), Value.str (Str.ofString "/claim/cut.py") (368)] }),
  (133, fnO 36 (Str.ofString "cpy313.heapq") 359 132 .none .none),
  (139, { cls := Value.type "code", data := Data.fields #[Value.str (Str.ofString "heapify") (370), Value.str (Str.ofString "heapify") (371), Value.str (Str.ofString "/claim/cut.py") (372), Value.int (160) (0), Value.int (1) (0), Value.int (0) (0), Value.int (0) (0), Value.int (3) (0), Value.ref (134), Value.bool true, Value.int (181) (0), Value.ref (135), Value.none, Value.ref (136), Value.ref (137), Value.ref (138), Value.int (376) (0), Value.int (160) (0), Value.str (Str.ofString "/claim/cut.py") (377)] }),
  (140, fnO 37 (Str.ofString "cpy313.heapq") 359 139 .none .none),
  (146, { cls := Value.type "code", data := Data.fields #[Value.str (Str.ofString "_heappop_max") (379), Value.str (Str.ofString "_heappop_max") (380), Value.str (Str.ofString "/claim/cut.py") (381), Value.int (164) (0), Value.int (1) (0), Value.int (0) (0), Value.int (0) (0), Value.int (3) (0), Value.ref (141), Value.bool true, Value.int (181) (0), Value.ref (142), Value.none, Value.ref (143), Value.ref (144), Value.ref (145), Value.int (385) (0), Value.int (164) (0), Value.str (Str.ofString "/claim/cut.py") (386)] }),
  (147, fnO 38 (Str.ofString "cpy313.heapq") 359 146 .none .none),
  (153, { cls := Value.type "code", data := Data.fields #[Value.str (Str.ofString "_heapify_max") (388), Value.str (Str.ofString "_heapify_max") (389), Value.str (Str.ofString "/claim/cut.py") (390), Value.int (172) (0), Value.int (1) (0), Value.int (0) (0), Value.int (0) (0), Value.int (3) (0), Value.ref (148), Value.bool true, Value.int (181) (0), Value.ref (149), Value.none, Value.ref (150), Value.ref (151), Value.ref (152), Value.int (394) (0), Value.int (172) (0), Value.str (Str.ofString "/claim/cut.py") (395)] }),
  (154, fnO 39 (Str.ofString "cpy313.heapq") 359 153 .none .none),
  (160, { cls := Value.type "code", data := Data.fields #[Value.str (Str.ofString "_siftdown") (397), Value.str (Str.ofString "_siftdown") (398), Value.str (Str.ofString "/claim/cut.py") (399), Value.int (176) (0), Value.int (3) (0), Value.int (0) (0), Value.int (0) (0), Value.int (3) (0), Value.ref (155), Value.bool true, Value.int (181) (0), Value.ref (156), Value.none, Value.ref (157), Value.ref (158), Value.ref (159), Value.int (406) (0), Value.int (176) (0), Value.str (Str.ofString "/claim/cut.py") (407)] }),
  (161, fnO 40 (Str.ofString "cpy313.heapq") 359 160 .none .none),
  (167, { cls := Value.type "code", data := Data.fields #[Value.str (Str.ofString "_siftup") (409), Value.str (Str.ofString "_siftup") (410), Value.str (Str.ofString "/claim/cut.py") (411), Value.int (187) (0), Value.int (2) (0), Value.int (0) (0), Value.int (0) (0), Value.int (3) (0), Value.ref (162), Value.bool true, Value.int (181) (0), Value.ref (163), Value.none, Value.ref (164), Value.ref (165), Value.ref (166), Value.int (419) (0), Value.int (187) (0), Value.str (Str.ofString "/claim/cut.py") (420)] }),
  (168, fnO 41 (Str.ofString "cpy313.heapq") 359 167 .none .none),
  (174, { cls := Value.type "code", data := Data.fields #[Value.str (Str.ofString "_siftdown_max") (422), Value.str (Str.ofString "_siftdown_max") (423), Value.str (Str.ofString "/claim/cut.py") (424), Value.int (201) (0), Value.int (3) (0), Value.int (0) (0), Value.int (0) (0), Value.int (3) (0), Value.ref (169), Value.bool true, Value.int (181) (0), Value.ref (170), Value.none, Value.ref (171), Value.ref (172), Value.ref (173), Value.int (431) (0), Value.int (201) (0), Value.str (Str.ofString "/claim/cut.py") (432)] }),
  (175, fnO 42 (Str.ofString "cpy313.heapq") 359 174 .none .none),
  (181, { cls := Value.type "code", data := Data.fields #[Value.str (Str.ofString "_siftup_max") (434), Value.str (Str.ofString "_siftup_max") (435), Value.str (Str.ofString "/claim/cut.py") (436), Value.int (212) (0), Value.int (2) (0), Value.int (0) (0), Value.int (0) (0), Value.int (3) (0), Value.ref (176), Value.bool true, Value.int (181) (0), Value.ref (177), Value.none, Value.ref (178), Value.ref (179), Value.ref (180), Value.int (444) (0), Value.int (212) (0), Value.str (Str.ofString "/claim/cut.py") (445)] }),
  (182, fnO 43 (Str.ofString "cpy313.heapq") 359 181 .none .none),
  (188, { cls := Value.type "code", data := Data.fields #[Value.str (Str.ofString "_law_price") (449), Value.str (Str.ofString "_law_price") (450), Value.str (Str.ofString "/claim/cut.py") (451), Value.int (227) (0), Value.int (2) (0), Value.int (0) (0), Value.int (0) (0), Value.int (3) (0), Value.ref (183), Value.bool true, Value.int (181) (0), Value.ref (184), Value.none, Value.ref (185), Value.ref (186), Value.ref (187), Value.int (456) (0), Value.int (227) (0), Value.str (Str.ofString "/claim/cut.py") (457)] }),
  (189, fnO 45 (Str.ofString "law_pa0053_01") 447 188 .none .none),
  (195, { cls := Value.type "code", data := Data.fields #[Value.str (Str.ofString "_law_powers") (459), Value.str (Str.ofString "_law_powers") (460), Value.str (Str.ofString "/claim/cut.py") (461), Value.int (232) (0), Value.int (1) (0), Value.int (0) (0), Value.int (0) (0), Value.int (3) (0), Value.ref (190), Value.bool true, Value.int (181) (0), Value.ref (191), Value.none, Value.ref (192), Value.ref (193), Value.ref (194), Value.int (465) (0), Value.int (232) (0), Value.str (Str.ofString "/claim/cut.py") (466)] }),
  (196, fnO 46 (Str.ofString "law_pa0053_01") 447 195 .none .none),
  (200, { cls := Value.type "code", data := Data.fields #[Value.str (Str.ofString "_law_net") (468), Value.str (Str.ofString "_law_net") (469), Value.str (Str.ofString "/claim/cut.py") (470), Value.int (238) (0), Value.int (4) (0), Value.int (0) (0), Value.int (0) (0), Value.int (3) (0), Value.ref (197), Value.bool true, Value.int (181) (0), Value.ref (198), Value.none, Value.none, Value.none, Value.ref (199), Value.int (471) (0), Value.int (238) (0), Value.str (Str.ofString "/claim/cut.py") (472)] }),
  (201, fnO 47 (Str.ofString "law_pa0053_01") 447 200 .none .none),
  (207, { cls := Value.type "code", data := Data.fields #[Value.str (Str.ofString "_law_place") (474), Value.str (Str.ofString "_law_place") (475), Value.str (Str.ofString "/claim/cut.py") (476), Value.int (264) (0), Value.int (1) (0), Value.int (0) (0), Value.int (0) (0), Value.int (3) (0), Value.ref (202), Value.bool true, Value.int (181) (0), Value.ref (203), Value.none, Value.ref (204), Value.ref (205), Value.ref (206), Value.int (478) (0), Value.int (264) (0), Value.str (Str.ofString "/claim/cut.py") (479)] }),
  (208, fnO 48 (Str.ofString "law_pa0053_01") 447 207 .none .none),
  (214, { cls := Value.type "code", data := Data.fields #[Value.str (Str.ofString "_law_figure") (481), Value.str (Str.ofString "_law_figure") (482), Value.str (Str.ofString "/claim/cut.py") (483), Value.int (266) (0), Value.int (3) (0), Value.int (0) (0), Value.int (0) (0), Value.int (3) (0), Value.ref (209), Value.bool true, Value.int (181) (0), Value.ref (210), Value.none, Value.ref (211), Value.ref (212), Value.ref (213), Value.int (489) (0), Value.int (266) (0), Value.str (Str.ofString "/claim/cut.py") (490)] }),
  (215, fnO 49 (Str.ofString "law_pa0053_01") 447 214 .none .none),
  (221, { cls := Value.type "code", data := Data.fields #[Value.str (Str.ofString "_law_kept") (492), Value.str (Str.ofString "_law_kept") (493), Value.str (Str.ofString "/claim/cut.py") (494), Value.int (274) (0), Value.int (4) (0), Value.int (0) (0), Value.int (0) (0), Value.int (3) (0), Value.ref (216), Value.bool true, Value.int (181) (0), Value.ref (217), Value.none, Value.ref (218), Value.ref (219), Value.ref (220), Value.int (502) (0), Value.int (274) (0), Value.str (Str.ofString "/claim/cut.py") (503)] }),
  (222, fnO 50 (Str.ofString "law_pa0053_01") 447 221 .none .none),
  (226, { cls := Value.type "code", data := Data.fields #[Value.str (Str.ofString "law") (505), Value.str (Str.ofString "law") (506), Value.str (Str.ofString "/claim/cut.py") (507), Value.int (285) (0), Value.int (1) (0), Value.int (0) (0), Value.int (0) (0), Value.int (3) (0), Value.ref (223), Value.bool true, Value.int (181) (0), Value.ref (224), Value.none, Value.none, Value.none, Value.ref (225), Value.int (508) (0), Value.int (285) (0), Value.str (Str.ofString "/claim/cut.py") (509)] }),
  (227, fnO 51 (Str.ofString "law_pa0053_01") 447 226 .none .none)]
noncomputable def myA : List Addr := [3, 27, 28, 29, 30, 31, 32, 33, 34, 35, 36, 37, 38, 39, 40, 41, 42, 43, 44, 45, 46, 47, 48, 49, 50, 51, 52, 53, 54, 55, 56, 57, 58, 59, 60, 61, 67, 68, 69, 75, 76, 95, 96, 102, 103, 109, 110, 111, 117, 118, 119, 125, 126, 132, 133, 139, 140, 146, 147, 153, 154, 160, 161, 167, 168, 174, 175, 181, 182, 188, 189, 195, 196, 200, 201, 207, 208, 214, 215, 221, 222, 226, 227]
noncomputable def myH : Hook := kHook myK myA fun _ => rfl
noncomputable abbrev myX : Shared → Bool := fun s => xlAt myV [] s && recOk PySem.Challenge.rw_pa0053_01.row.records s
theorem opening0 : opening pw = plainProg pw.main.scope.names := by kernel_rfl
theorem fence0 (s : Shared) : fenceModules? pw s = some s := rfl
/-- the looks are taken in four groups, each by its own run of the top -/
theorem glue {A1 A2 A3 A4 A5 A6 A7 A8 A9 V : Type} {T : Option Shared} {O : Shared → A1 × A2 × A3 × A4 × A5 × A6 × A7 × A8 × A9} {ob : Shared → V} {v1 : A1} {v2 : A2} {v3 : A3} {v4 : A4} {v5 : A5} {v6 : A6} {v7 : A7} {v8 : A8} {v9 : A9} {vo : V}
    (h1 : T.map (fun s => ((O s).1, (O s).2.1)) = some (v1, v2)) (h2 : T.map (fun s => (O s).2.2.1) = some v3)
    (h3 : T.map (fun s => ((O s).2.2.2.1, (O s).2.2.2.2.1, (O s).2.2.2.2.2.1, (O s).2.2.2.2.2.2.1)) = some (v4, v5, v6, v7))
    (h4 : T.map (fun s => ((O s).2.2.2.2.2.2.2.1, (O s).2.2.2.2.2.2.2.2, ob s)) = some (v8, v9, vo)) : T.map (fun s => (O s, ob s)) = some ((v1, v2, v3, v4, v5, v6, v7, v8, v9), vo) := by
  cases T with
  | none => cases h1
  | some s =>
    simp only [Option.map_some, Option.some.injEq, Prod.mk.injEq] at h1 h2 h3 h4 ⊢
    generalize O s = x at *
    obtain ⟨x1, x2, x3, x4, x5, x6, x7, x8, x9⟩ := x
    obtain ⟨rfl, rfl⟩ := h1
    obtain rfl := h2
    obtain ⟨rfl, rfl, rfl, rfl⟩ := h3
    obtain ⟨rfl, rfl, h⟩ := h4
    exact ⟨rfl, h⟩
theorem top1 (w : World) (os : OsState) : (topFrom treeTable pw w 2818 ⟨boot_heap w.params, Array.mk [], boot_drawn, boot_toks, os⟩).map (fun s => ((openSeen myV myL (importedModules pw.main.body) myX true s).1, (openSeen myV myL (importedModules pw.main.body) myX true s).2.1)) = some (expectedOf myV, bltViewBooted) := by
  unfold topFrom
  first | rw [PySem.W.Fast.te14082659384304107361, PySem.W.Fast.te4187177175401517315, PySem.W.Fast.te14364793385576792824] | skip
  kernel_rfl
theorem top2 (w : World) (os : OsState) : (topFrom treeTable pw w 2818 ⟨boot_heap w.params, Array.mk [], boot_drawn, boot_toks, os⟩).map (fun s => (openSeen myV myL (importedModules pw.main.body) myX true s).2.2.1) = some true := by
  unfold topFrom
  first | rw [PySem.W.Fast.te14082659384304107361, PySem.W.Fast.te4187177175401517315, PySem.W.Fast.te14364793385576792824] | skip
  kernel_rfl
theorem top3 (w : World) (os : OsState) : (topFrom treeTable pw w 2818 ⟨boot_heap w.params, Array.mk [], boot_drawn, boot_toks, os⟩).map (fun s => ((openSeen myV myL (importedModules pw.main.body) myX true s).2.2.2.1, (openSeen myV myL (importedModules pw.main.body) myX true s).2.2.2.2.1, (openSeen myV myL (importedModules pw.main.body) myX true s).2.2.2.2.2.1, (openSeen myV myL (importedModules pw.main.body) myX true s).2.2.2.2.2.2.1)) = some (true, pinGoodD (drecsOf myV), plainGoodE myV (looseW myV myL), plainGoodD myV myL) := by
  unfold topFrom
  first | rw [PySem.W.Fast.te14082659384304107361, PySem.W.Fast.te4187177175401517315, PySem.W.Fast.te14364793385576792824] | skip
  kernel_rfl
theorem top4 (w : World) (os : OsState) : (topFrom treeTable pw w 2818 ⟨boot_heap w.params, Array.mk [], boot_drawn, boot_toks, os⟩).map (fun s => ((openSeen myV myL (importedModules pw.main.body) myX true s).2.2.2.2.2.2.2.1, (openSeen myV myL (importedModules pw.main.body) myX true s).2.2.2.2.2.2.2.2, myH.obs s)) = some (wideGood myV, clsGoodW myV myL, myH.val w) := by
  unfold topFrom
  first | rw [PySem.W.Fast.te14082659384304107361, PySem.W.Fast.te4187177175401517315, PySem.W.Fast.te14364793385576792824] | skip
  kernel_rfl
theorem top0 (w : World) (os : OsState) : (topFrom treeTable pw w 2818 ⟨boot_heap w.params, Array.mk [], boot_drawn, boot_toks, os⟩).map (fun s => (openSeen myV myL (importedModules pw.main.body) myX true s, myH.obs s)) = some (openGood myV myL, myH.val w) :=
  glue (top1 w os) (top2 w os) (top3 w os) (top4 w os)
theorem left_of {α : Type} {p q : Program} {l : List Str} {Xt : Shared → Bool} {Yf : Shared → α} {Ya : World → α} {N : Nat} {H₀ : Params → Heap} {d₀ : Drawn} {k₀ : Nat}
    (open_ : ∀ w : World, (fencedOpening treeTable p w N).map (fun s => (s.heap, s.gens, s.drawn, s.toks)) = some (H₀ w.params, Array.mk [], d₀, k₀))
    (top : ∀ w os, (topFrom treeTable p w N ⟨H₀ w.params, Array.mk [], d₀, k₀, os⟩).map (fun s => (openSeen q l (importedModules p.main.body) Xt true s, Yf s)) = some (openGood q l, Ya w)) : LeftO p q l Xt Yf Ya N := fun w => by
  obtain ⟨⟨h, gs, d, k, os⟩, e, e'⟩ := Option.map_eq_some_iff.mp (open_ w)
  obtain ⟨rfl, rfl, rfl, rfl⟩ : h = H₀ w.params ∧ gs = Array.mk [] ∧ d = d₀ ∧ k = k₀ := by simpa using e'
  unfold openEnds
  rw [e]
  exact top w os
theorem left0 : LeftO pw myV myL myX myH.obs myH.val 2818 := left_of (boot_open (N := 2818) opening0 (by decide) fence0) top0
theorem said1 : PySem.Challenge.rw_pa0053_01.row.wellSaid = true := by
  first | rw [PySem.W.Fast.te17960256430627541270] | skip
  kernel_rfl
theorem said0 : PySem.Challenge.rw_pa0053_01.wellSaid = true := by
  unfold OpenLaw.wellSaid
  rw [said1]
  first | rw [PySem.W.Fast.te17119622794617984870, PySem.W.Fast.te8326940854005059898] | skip
  kernel_rfl
end Mine
end
section
open PySem PySem.W PyProof.Rows PySem.Calls
set_option Elab.async false
set_option maxRecDepth 100000
namespace Mine

abbrev PG : Program := PySem.Challenge.rw_pa0053_01.row.prog
noncomputable abbrev KF : Params → Frag := Mine.myK
abbrev Mo (w : World) : Model := model PG w
abbrev NE : Value → Shared → Prop := fun _ _ => False

def St (s₀ : Shared) (h : Heap) (tk : Nat) : Shared := { s₀ with heap := h, toks := tk }
abbrev Base := Addr → Option Obj
def Hol (B : Base) (h : Heap) : Prop := ∀ a o, B a = some o → h.get? a = some o

structure Gd (w : World) (h : Heap) : Prop where
  k : (KF w.params).In h
  g : ∃ mg, h.Ns mainGlobals mg
  b : ∃ mb, h.Ns builtinsNs mb ∧ ∀ x : Str, x ≠ "__name__" → mb x = bootBuiltins x
  nl : h.NoLimit
def GdB (w : World) (B : Base) : Prop := ∀ h, Hol B h → Gd w h

theorem Gd.keeps {w : World} {h h' : Heap} (G : Gd w h) (hk : ∀ b o, h.get? b = some o → h'.get? b = some o) : Gd w h' :=
  ⟨fun a o e => hk a o (G.k a o e), let ⟨m, x⟩ := G.g; ⟨m, x.keeps hk⟩, let ⟨m, x, y⟩ := G.b; ⟨m, x.keeps hk, y⟩, G.nl.keeps hk⟩
theorem GdB.mono {w : World} {B B' : Base} (G : GdB w B) (hb : ∀ a o, B a = some o → B' a = some o) : GdB w B' :=
  fun h hh => G h fun a o e => hh a o (hb a o e)

/-- room -/
structure Rm (A : Around) (k : Nat) : Prop where
  d : A.depth + k < 1000
  u : A.units + 20 * k < 9900
  hh : A.handled = none
theorem Rm.le {A : Around} {k j : Nat} (R : Rm A k) (h : j ≤ k) : Rm A j := ⟨by have := R.d; omega, by have := R.u; omega, R.hh⟩
theorem Rm.in1 {A : Around} {k : Nat} (R : Rm A (k + 1)) : Rm A.in1 k := ⟨by have := R.d; simp; omega, by have := R.u; simp; omega, R.hh⟩
theorem Rm.deeper {A : Around} {k : Nat} {env : Env} (R : Rm A (k + 1)) : Rm (A.deeper env) k :=
  ⟨by have := R.d; simp only [Around.deeper]; omega, by have := R.u; simp only [Around.deeper]; omega, R.hh⟩
theorem Rm.units {A : Around} {k : Nat} (R : Rm A k) : A.units < cLine := by have := R.u; have : cLine = 9900 := rfl; omega
theorem Rm.depth {A : Around} {k : Nat} (R : Rm A k) : A.depth < recursionLimit := by have := R.d; have : recursionLimit = 1000 := rfl; omega

structure FK (w : World) (env : Env) (L : Addr) (ns : List Str) (gl bl : List (Str × Value)) : Prop where
  loc : env.locals = L
  kind : env.scope.kind = .function
  glob : env.globals = mainGlobals
  bi : env.builtins = builtinsNs
  vars : ∀ x ∈ ns, env.kindOf x = some .local ∧ (x == ("__debug__" : Str)) = false
  nodup : ns.Nodup
  gls : ∀ p ∈ gl, env.kindOf p.1 = some .globalImplicit ∧ (p.1 == ("__debug__" : Str)) = false ∧ nsIn (KF w.params) mainGlobals p.1 = some (some p.2)
  bls : ∀ p ∈ bl, env.kindOf p.1 = some .globalImplicit ∧ (p.1 == ("__debug__" : Str)) = false ∧ nsIn (KF w.params) mainGlobals p.1 = some none ∧ p.1 ≠ "__name__" ∧ bootBuiltins p.1 = some p.2

noncomputable def fkOk (P : Params) (sc : Scope) (ns : List Str) (gl bl : List (Str × Value)) : Bool :=
  decide (sc.kind = .function) && ns.all (fun x => decide (sc.names.lookup x = some .local) && !(x == ("__debug__" : Str))) && decide ns.Nodup
    && gl.all (fun p => decide (sc.names.lookup p.1 = some .globalImplicit) && !(p.1 == ("__debug__" : Str)) && decide (nsIn (KF P) mainGlobals p.1 = some (some p.2)))
    && bl.all (fun p => decide (sc.names.lookup p.1 = some .globalImplicit) && !(p.1 == ("__debug__" : Str)) && decide (nsIn (KF P) mainGlobals p.1 = some none) && decide (p.1 ≠ "__name__") && decide (bootBuiltins p.1 = some p.2))

theorem fk_of {w : World} {fd : FuncData} {L f : Addr} {ns : List Str} {gl bl : List (Str × Value)} (h : fkOk w.params fd.scope ns gl bl = true)
    (hg : fd.globals = mainGlobals) (hb : fd.builtins = builtinsNs) : FK w (callEnv fd L f) L ns gl bl := by
  unfold fkOk at h
  simp only [Bool.and_eq_true, decide_eq_true_eq, List.all_eq_true, Bool.not_eq_true'] at h
  obtain ⟨⟨⟨⟨h1, h2⟩, h3⟩, h4⟩, h5⟩ := h
  refine ⟨rfl, h1, hg, hb, fun x hx => ⟨(h2 x hx).1, (h2 x hx).2⟩, h3, fun p hp => ?_, fun p hp => ?_⟩
  · obtain ⟨⟨a, b⟩, c⟩ := h4 p hp
    exact ⟨a, b, c⟩
  · obtain ⟨⟨⟨⟨a, b⟩, c⟩, d⟩, e⟩ := h5 p hp
    exact ⟨a, b, c, d, e⟩

structure Fx (B : Base) (L : Addr) (ns : List Str) (vs : List (Option Value)) (nw : List (Addr × Obj)) (h : Heap) : Prop where
  m : ∃ m, h.Ns L m ∧ ∀ (i : Nat) (x : Str), ns[i]? = some x → m x = (vs[i]?).join
  keep : Hol B h
  hL : B L = none
  news : ∀ p ∈ nw, h.get? p.1 = some p.2 ∧ B p.1 = none ∧ p.1 ≠ L
  nd : (nw.map (·.1)).Nodup

def Chg (D : List Addr) (h h' : Heap) : Prop := ∀ a o, h.get? a = some o → a ∉ D → h'.get? a = some o
theorem Chg.refl {D : List Addr} {h : Heap} : Chg D h h := fun _ _ e _ => e
theorem Chg.trans {D : List Addr} {h h' h'' : Heap} (x : Chg D h h') (y : Chg D h' h'') : Chg D h h'' := fun a o e hn => y a o (x a o e hn) hn
theorem Chg.push {D : List Addr} {h : Heap} {o : Obj} : Chg D h (h.push o) := fun _ _ e _ => Heap.get?_push_of_some _ e
theorem Chg.sameBut {a : Addr} {h h' : Heap} (x : Heap.SameBut a h h') : Chg [a] h h' := fun b o e hn => (x.2 b (fun q => hn (q ▸ List.mem_singleton.mpr rfl))).trans e
theorem Chg.mono {D D' : List Addr} {h h' : Heap} (x : Chg D h h') (hs : ∀ a ∈ D, a ∈ D') : Chg D' h h' := fun a o e hn => x a o e fun q => hn (hs a q)
theorem Chg.nil {D : List Addr} {h h' : Heap} (x : Chg [] h h') : Chg D h h' := x.mono fun _ q => (nomatch q)

/-- nothing of ours changed -/
theorem Fx.chg0 {B L ns vs nw h h'} (X : Fx B L ns vs nw h) (c : Chg [] h h') : Fx B L ns vs nw h' := by
  obtain ⟨⟨m, hm, hv⟩, k, hL, n, nd⟩ := X
  exact ⟨⟨m, hm.keeps fun b o e => c b o e (List.not_mem_nil), hv⟩, fun a o e => c a o (k a o e) List.not_mem_nil, hL,
    fun p hp => ⟨c _ _ (n p hp).1 List.not_mem_nil, (n p hp).2⟩, nd⟩

/-- one ledger object changed -/
theorem Fx.chg1 {B L ns vs nw h h'} {j : Nat} {d : Addr} {o o' : Obj} (X : Fx B L ns vs nw h) (hj : nw[j]? = some (d, o)) (c : Chg [d] h h') (ho : h'.get? d = some o') :
    Fx B L ns vs (nw.set j (d, o')) h' := by
  obtain ⟨⟨m, hm, hv⟩, k, hL, n, nd⟩ := X
  have hd := n _ (List.mem_of_getElem? hj)
  have ne : ∀ {b}, b ≠ d → b ∉ [d] := fun hb q => hb (List.mem_singleton.mp q)
  refine ⟨⟨m, ?_, hv⟩, fun a o e => c a o (k a o e) (ne fun q => ?_), hL, fun p hp => ?_, ?_⟩
  · obtain ⟨oL, es, ep, h1, h2⟩ := hm
    exact ⟨oL, es, ep, c _ _ h1 (ne fun q => hd.2.2 q.symm), h2⟩
  · rw [q, hd.2.1] at e; cases e
  · obtain ⟨i, hi⟩ := List.mem_iff_getElem?.mp hp
    by_cases hij : j = i
    · subst hij
      have hjl : j < nw.length := (List.getElem?_eq_some_iff.mp hj).1
      rw [List.getElem?_set_self hjl] at hi
      cases hi
      exact ⟨ho, hd.2⟩
    · rw [List.getElem?_set_ne hij] at hi
      have hp' := n p (List.mem_of_getElem? hi)
      refine ⟨c _ _ hp'.1 (ne fun q => hij ?_), hp'.2⟩
      have e1 : (nw.map (·.1))[j]? = some d := by simp [hj]
      have e2 : (nw.map (·.1))[i]? = some d := by simp [hi, q]
      exact (List.getElem?_inj (by simp; exact (List.getElem?_eq_some_iff.mp hj).1) nd).mp (e1.trans e2.symm)
  · have : (nw.set j (d, o')).map (·.1) = nw.map (·.1) := by
      rw [List.map_set]
      have e1 : (nw.map (·.1))[j]? = some d := by simp [hj]
      apply List.ext_getElem?
      intro i
      by_cases hij : j = i
      · subst hij
        have hjl : j < (nw.map (·.1)).length := (List.getElem?_eq_some_iff.mp e1).1
        rw [List.getElem?_set_self hjl, e1]
      · rw [List.getElem?_set_ne hij]
    rw [this]; exact nd

theorem Fx.get {B L ns vs nw h} {j : Nat} {d : Addr} {o : Obj} (X : Fx B L ns vs nw h) (hj : nw[j]? = some (d, o)) : h.get? d = some o := (X.news _ (List.mem_of_getElem? hj)).1
theorem Fx.gd {w B L ns vs nw h} (X : Fx B L ns vs nw h) (G : GdB w B) : Gd w h := G h X.keep

/-- a new object onto the ledger -/
theorem Fx.push {B L ns vs nw h} (X : Fx B L ns vs nw h) (o : Obj) (hf : o.isFreed = false) : Fx B L ns vs ((h.objs.size, o) :: nw) (h.push o) := by
  obtain ⟨⟨m, hm, hv⟩, k, hL, n, nd⟩ := X
  refine ⟨⟨m, hm.push o, hv⟩, fun a o e => Heap.get?_push_of_some _ (k a o e), hL, fun p hp => ?_, ?_⟩
  · rcases List.mem_cons.mp hp with rfl | hp
    · refine ⟨Heap.get?_push_size _ hf, ?_, Nat.ne_of_gt hm.lt⟩
      cases q : B h.objs.size with
      | none => rfl
      | some o' => exact absurd (Heap.lt_size (k _ _ q)) (Nat.lt_irrefl _)
    · exact ⟨Heap.get?_push_of_some _ (n p hp).1, (n p hp).2⟩
  · rw [List.map_cons, List.nodup_cons]
    refine ⟨fun q => ?_, nd⟩
    obtain ⟨p, hp, e⟩ := List.mem_map.mp q
    have := Heap.lt_size (n p hp).1
    rw [e] at this
    exact absurd this (Nat.lt_irrefl _)

/-- any new object that a call has made, onto the ledger -/
theorem Fx.add {B L ns vs nw h h'} {a : Addr} {o : Obj} (X : Fx B L ns vs nw h) (c : Chg [] h h') (hn : h.get? a = none) (ho : h'.get? a = some o) : Fx B L ns vs ((a, o) :: nw) h' := by
  have X' := X.chg0 c
  obtain ⟨⟨m, hm, hv⟩, k, hL, n, nd⟩ := X'
  refine ⟨⟨m, hm, hv⟩, k, hL, fun p hp => ?_, ?_⟩
  · rcases List.mem_cons.mp hp with rfl | hp
    · refine ⟨ho, ?_, ?_⟩
      · cases q : B a with
        | none => rfl
        | some o' => have := X.keep _ _ q; rw [hn] at this; cases this
      · rintro rfl
        obtain ⟨⟨m, ⟨oL, es, ep, h1, h2⟩, hv⟩, _⟩ := X
        rw [hn] at h1; cases h1
    · exact n p hp
  · rw [List.map_cons, List.nodup_cons]
    refine ⟨fun q => ?_, nd⟩
    obtain ⟨p, hp, e⟩ := List.mem_map.mp q
    have := (X.news p hp).1
    rw [e, hn] at this
    cases this

/-- forget ledger entries -/
theorem Fx.drop {B L ns vs nw h} {p : Addr × Obj} (X : Fx B L ns vs (p :: nw) h) : Fx B L ns vs nw h :=
  ⟨X.m, X.keep, X.hL, fun q hq => X.news q (List.mem_cons_of_mem _ hq), (List.nodup_cons.mp X.nd).2⟩

section
variable {w : World} {A : Around} {E : Value → Shared → Prop} {s₀ : Shared} {h : Heap} {tk : Nat} {B : Base} {L : Addr} {ns : List Str} {vs : List (Option Value)} {nw : List (Addr × Obj)}
  {env : Env} {gl bl : List (Str × Value)} {x : Str} {pos : Pos} {v : Value}

theorem ldv (i : Nat) {Q : Value → Shared → Prop} (X : Fx B L ns vs nw h) (K : FK w env L ns gl bl) (hx : ns[i]? = some x) (hv : vs[i]? = some (some v)) (hq : Q v (St s₀ h tk)) :
    wpAny (Mo w) A (eval (.Name x pos) env) Q E (St s₀ h tk) := by
  obtain ⟨m, hm, he⟩ := X.m
  obtain ⟨k1, k2⟩ := K.vars x (List.mem_of_getElem? hx)
  refine wpAny_Name (wpAny_loadName_local K.kind k1 (m := m) (by rw [K.loc]; exact hm) (v := v) (by rw [he i x hx, hv]; rfl) hq) k2

theorem stv (i : Nat) {Q : Unit → Shared → Prop} (X : Fx B L ns vs nw h) (K : FK w env L ns gl bl) (hx : ns[i]? = some x)
    (hi' : (vs[i]?).isSome = true) (hq : ∀ h' tk', Fx B L ns (vs.set i (some v)) nw h' → Q () (St s₀ h' tk')) :
    wpAny (Mo w) A (storeName env x v) Q E (St s₀ h tk) := by
  have hi : i < vs.length := by
    obtain ⟨y, hy⟩ := Option.isSome_iff_exists.mp hi'
    exact (List.getElem?_eq_some_iff.mp hy).1
  obtain ⟨m, hm, he⟩ := X.m
  obtain ⟨k1, k2⟩ := K.vars x (List.mem_of_getElem? hx)
  refine wpAny_storeName_local k1 (m := m) (by rw [K.loc]; exact hm) (fun h' hn hs => ?_) (by rw [K.kind]; rfl)
  rw [K.loc] at hn hs
  refine hq h' _ ⟨⟨_, hn, fun j y hy => ?_⟩, fun a o e => ?_, X.hL, fun p hp => ?_, X.nd⟩
  · by_cases hij : i = j
    · subst hij
      rw [hx] at hy; cases hy
      simp [hi]
    · have hne : y ≠ x := fun e => hij (by
        rw [← e] at hx
        exact (List.getElem?_inj (List.getElem?_eq_some_iff.mp hx).1 K.nodup).mp (hx.trans hy.symm))
      rw [if_neg hne, he j y hy, List.getElem?_set_ne hij]
  · have hne : a ≠ L := fun q => by rw [q, X.hL] at e; cases e
    exact (hs.2 a hne).trans (X.keep a o e)
  · have hp' := X.news p hp
    exact ⟨(hs.2 _ hp'.2.2).trans hp'.1, hp'.2⟩

theorem ldg {Q : Value → Shared → Prop} (X : Fx B L ns vs nw h) (G : GdB w B) (K : FK w env L ns gl bl) (i : Nat) (hg : gl[i]? = some (x, v)) (hq : Q v (St s₀ h tk)) :
    wpAny (Mo w) A (eval (.Name x pos) env) Q E (St s₀ h tk) := by
  obtain ⟨k1, k2, k3⟩ := K.gls _ (List.mem_of_getElem? hg)
  obtain ⟨mg, hmg⟩ := (X.gd G).g
  refine Calls.Name_function_global K.kind k1 (Calls.loadGlobal_global (mg := mg) (by rw [K.glob]; exact hmg) (mg_of (X.gd G).k hmg k3) hq) k2
theorem ldb {Q : Value → Shared → Prop} (X : Fx B L ns vs nw h) (G : GdB w B) (K : FK w env L ns gl bl) (i : Nat) (hg : bl[i]? = some (x, v)) (hq : Q v (St s₀ h tk)) :
    wpAny (Mo w) A (eval (.Name x pos) env) Q E (St s₀ h tk) := by
  obtain ⟨k1, k2, k3, k4, k5⟩ := K.bls _ (List.mem_of_getElem? hg)
  obtain ⟨mg, hmg⟩ := (X.gd G).g
  obtain ⟨mb, hmb, hb⟩ := (X.gd G).b
  refine Calls.Name_function_global K.kind k1 (Calls.loadGlobal_builtin (mg := mg) (mb := mb) (by rw [K.glob]; exact hmg) (mg_none_of (X.gd G).k hmg k3) (by rw [K.bi]; exact hmb) ((hb x k4).trans k5) hq) k2
end

/-- the first values of a frame -/
def initV : List Str → List Value → List (Option Value)
  | [], _ => []
  | _ :: ns, v :: vs => some v :: initV ns vs
  | _ :: ns, [] => none :: initV ns []
theorem initV_get : ∀ (ns : List Str) (as : List Value), ns.Nodup → ∀ (i : Nat) (x : Str), ns[i]? = some x → (ns.zip as).lookup x = ((initV ns as)[i]?).join
  | [], _, _, i, x, h => by simp at h
  | y :: ns, [], hn, i, x, h => by
    have : ∀ (l : List Str) (j : Nat), ((initV l [])[j]?).join = none := by
      intro l
      induction l with
      | nil => intro j; simp [initV]
      | cons z l ih => intro j; cases j with
        | zero => simp [initV]
        | succ j => simpa [initV] using ih j
    rw [this]; simp
  | y :: ns, a :: as, hn, i, x, h => by
    cases i with
    | zero =>
      simp at h; subst h
      simp [initV]
    | succ j =>
      have hx : ns[j]? = some x := by simpa using h
      have hne : x ≠ y := fun e => (List.nodup_cons.mp hn).1 (e ▸ List.mem_of_getElem? hx)
      have := initV_get ns as (List.nodup_cons.mp hn).2 j x hx
      simp only [initV, List.zip_cons_cons, List.getElem?_cons_succ]
      rw [List.lookup_cons]
      have hb : (x == y) = false := beq_eq_false_iff_ne.mpr hne
      rw [hb]; exact this
theorem lookup_rev : ∀ (l : List (Str × Value)), (l.map (·.1)).Nodup → ∀ x, l.reverse.lookup x = l.lookup x
  | [], _, _ => rfl
  | (y, v) :: l, hn, x => by
    have hn' := List.nodup_cons.mp (by simpa using hn : (y :: l.map (·.1)).Nodup)
    rw [List.reverse_cons, List.lookup_append, lookup_rev l hn'.2 x]
    simp only [List.lookup_cons, List.lookup_nil]
    by_cases hxy : x = y
    · subst hxy
      have hnone : l.lookup x = none := by
        rw [List.lookup_eq_none_iff]
        intro p hp
        have : x ≠ p.1 := fun e => hn'.1 (e ▸ List.mem_map_of_mem hp)
        simpa using this
      simp [hnone]
    · have hb : (x == y) = false := beq_eq_false_iff_ne.mpr hxy
      simp [hb]

theorem zip_sub : ∀ (ns : List Str) (vs : List Value), ((ns.zip vs).map (·.1)).Sublist ns
  | [], _ => by simp
  | _ :: _, [] => by simp
  | n :: ns, v :: vs => by simpa using zip_sub ns vs
/-- everything but D -/
def hid (D : List Addr) (h : Heap) : Base := fun a => if a ∈ D then none else h.get? a
theorem hid_hol {D h h'} (x : Hol (hid D h) h') : Chg D h h' := fun a o e hn => x a o (by unfold hid; rw [if_neg hn]; exact e)
theorem hol_hid {D h h'} (x : Chg D h h') : Hol (hid D h) h' := fun a o e => by
  unfold hid at e
  split at e
  · cases e
  · rename_i hn; exact x a o e hn

def retv : Flow → Value
  | .ret v => v
  | _ => .none

/-- what a call gives -/
def RetTo (s₀ : Shared) (h : Heap) (D : List Addr) (P : Value → Heap → Prop) : Result → Shared → Prop :=
  fun r s' => ∃ v h' tk', r = .ok (.ret v) ∧ s' = St s₀ h' tk' ∧ Chg D h h' ∧ P v h'
/-- what its body gives -/
def BodyTo (s₀ : Shared) (h : Heap) (D : List Addr) (P : Value → Heap → Prop) : Flow → Shared → Prop :=
  fun f s' => ∃ h' tk', s' = St s₀ h' tk' ∧ Chg D h h' ∧ P (retv f) h'

section
variable {w : World} {A : Around} {E : Value → Shared → Prop} {s₀ : Shared} {h : Heap} {tk : Nat} {B : Base}
theorem call_fn {k : Nat} {D : List Addr} {P : Value → Heap → Prop} {f : Addr} {oc : Value} {od : Option Addr} {osl : Array (Option Value)} {fd : FuncData} {body : List Stmt} {args : Args} {vals : List Value}
    {ns : List Str} {gl bl : List (Str × Value)} {nw : List (Addr × Obj)}
    (G : GdB w B) (hB : Hol B h) (hD : ∀ d ∈ D, B d = none) (hnw : nw.map (·.1) = D) (hob : ∀ p ∈ nw, h.get? p.1 = some p.2) (hnd : D.Nodup) (R : Rm A (k + 1))
    (ho : (KF w.params).lookup f = some ⟨oc, od, .func fd, osl⟩)
    (hok : (codeIn (KF w.params) fd.code fd.qualname && fkOk w.params fd.scope ns gl bl && fd.scope.names.all (fun x => decide (x.2 ≠ .cell)) && decide (fd.globals = mainGlobals) && decide (fd.builtins = builtinsNs)
      && !fd.scope.isCoroutine && !fd.scope.isGenerator) = true)
    (hbody : fd.body = .stmts body)
    (hbind : BindsTo (St s₀ h tk) fd args (ns.zip vals))
    (hh : ∀ L env A' h₁ tk₁, FK w env L ns gl bl → Rm A' k → GdB w (hid D h) → Fx (hid D h) L ns (initV ns vals) nw h₁ →
      wpAny (Mo w) A' (execs body env) (BodyTo s₀ h D P) NE (St s₀ h₁ tk₁)) :
    codeAny (Mo w) A (.call (.ref f) args) (RetTo s₀ h D P) (St s₀ h tk) := by
  simp only [Bool.and_eq_true, decide_eq_true_eq, List.all_eq_true, Bool.not_eq_true'] at hok
  obtain ⟨⟨⟨⟨⟨⟨q1, q2⟩, q3⟩, q4⟩, q5⟩, q6⟩, q7⟩ := hok
  have G' := G h hB
  have GH : GdB w (hid D h) := G.mono fun a o e => by
    unfold hid
    rw [if_neg fun hd => by rw [hD a hd] at e; cases e]
    exact hB a o e
  have hfk := fun L => fk_of (w := w) (fd := fd) (L := L) (f := f) q2 q4 q5
  have hloc : ∀ y ∈ ns.zip vals, fd.scope.names.lookup y.1 = some .local := fun y hy => ((hfk 0).vars y.1 (List.of_mem_zip hy).1).1
  have hndp : ((ns.zip vals).map (·.1)).Nodup := by
    exact (hfk 0).nodup.sublist (zip_sub ns vals)
  refine codeAny_call_def (fd := fd) (body := body) (binds := ns.zip vals) R.depth (G'.k _ _ ho) rfl G'.nl (codeRec_of G'.k q1) hbody hbind (fun x hx => q3 x hx) hloc (fun h₁ hns hk₁ => ?_) q6 q7 (hfk 0).kind
  refine wpAny_mono (hh h.objs.size _ _ h₁ _ (hfk _) R.deeper GH ⟨⟨_, hns, fun i x hx => ?_⟩, fun a o e => ?_, ?_, fun p hp => ⟨hk₁ _ _ (hob p hp), ?_, ?_⟩, ?_⟩) (fun fl s' hs' => ?_) fun _ _ e => e.elim
  · show (ns.zip vals).reverse.lookup x = _
    rw [lookup_rev _ hndp, initV_get ns vals (hfk 0).nodup i x hx]
  · unfold hid at e
    split at e
    · cases e
    · exact hk₁ a o e
  · unfold hid
    split
    · rfl
    · cases e : h.get? h.objs.size with
      | none => rfl
      | some o => exact absurd (Heap.lt_size e) (Nat.lt_irrefl _)
  · unfold hid
    rw [if_pos]
    rw [← hnw]; exact List.mem_map_of_mem hp
  · exact Nat.ne_of_lt (Heap.lt_size (hob p hp))
  · rw [hnw]; exact hnd
  · obtain ⟨h', tk', rfl, hc, hp⟩ := hs'
    refine ⟨retv fl, h', tk', ?_, rfl, hc, hp⟩
    cases fl <;> rfl

theorem use_call {f : Value} {args : List Value} {D : List Addr} {P : Value → Heap → Prop} {Q : Value → Shared → Prop}
    (hc : codeAny (Mo w) A (.call f ⟨args, []⟩) (RetTo s₀ h D P) (St s₀ h tk)) (hq : ∀ v h' tk', Chg D h h' → P v h' → Q v (St s₀ h' tk')) :
    wpAny (Mo w) A (call f args) Q E (St s₀ h tk) := by
  refine wpAny_call (codeAny_mono hc fun r s' hr => ?_)
  obtain ⟨v, h', tk', rfl, rfl, c, p⟩ := hr
  exact hq v h' tk' c p
end
end Mine
end
section
open PySem PySem.W PyProof.Rows PySem.Calls
set_option Elab.async false
set_option maxRecDepth 100000
namespace Mine

theorem dT {p : Prop} [Decidable p] (h : p) : decide p = true := decide_eq_true h
theorem dF {p : Prop} [Decidable p] (h : ¬ p) : ¬ (decide p = true) := fun q => h (of_decide_eq_true q)
theorem eT {a b : Int} (h : a = b) : (a == b) = true := beq_iff_eq.mpr h
theorem eF {a b : Int} (h : a ≠ b) : ¬ ((a == b) = true) := fun q => h (beq_iff_eq.mp q)
theorem nT {a b : Int} (h : a ≠ b) : (a != b) = true := bne_iff_ne.mpr h
theorem nF {a b : Int} (h : a = b) : ¬ ((a != b) = true) := fun q => (bne_iff_ne.mp q) h

section
variable {w : World} {A : Around} {E : Value → Shared → Prop} {s₀ : Shared} {h : Heap} {tk : Nat} {a b : Int} {t u : Tok} {env : Env}

theorem cI {i : Int} {k : Nat} {pos : Pos} {Q : Value → Shared → Prop} (hq : Q (.int i tk) (St s₀ h (tk + 1))) : wpAny (Mo w) A (eval (.Constant (.int i) k pos) env) Q E (St s₀ h tk) := wpAny_Constant_int hq
theorem addI {Q : Value → Shared → Prop} (hq : Q (.int (a + b) tk) (St s₀ h (tk + 1))) : wpAny (Mo w) A (binaryOp .Add (.int a t) (.int b u)) Q E (St s₀ h tk) := add_int hq
theorem subI {Q : Value → Shared → Prop} (hq : Q (.int (a - b) tk) (St s₀ h (tk + 1))) : wpAny (Mo w) A (binaryOp .Sub (.int a t) (.int b u)) Q E (St s₀ h tk) := sub_int hq
theorem mulI {Q : Value → Shared → Prop} (hm : IntMulOk a b) (hq : Q (.int (a * b) tk) (St s₀ h (tk + 1))) : wpAny (Mo w) A (binaryOp .Mult (.int a t) (.int b u)) Q E (St s₀ h tk) := mul_int hq hm
theorem shr1 {Q : Value → Shared → Prop} (h0 : 0 ≤ a) (hq : Q (.int (a / 2) tk) (St s₀ h (tk + 1))) : wpAny (Mo w) A (binaryOp .RShift (.int a t) (.int 1 u)) Q E (St s₀ h tk) := wpAny_rshift1_int h0 hq
theorem fdivI {Q : Value → Shared → Prop} (hb : 0 < b) (hs : b.natAbs < 1073741824) (hq : Q (.int (a / b) tk) (St s₀ h (tk + 1))) : wpAny (Mo w) A (binaryOp .FloorDiv (.int a t) (.int b u)) Q E (St s₀ h tk) :=
  floordiv_int (by omega) (by rw [Int.fdiv_eq_ediv_of_nonneg _ (by omega)]; exact hq) (Or.inl (PyProof.noPylong_small hs))
theorem modI {Q : Value → Shared → Prop} (hb : 0 < b) (hq : Q (.int (a % b) tk) (St s₀ h (tk + 1))) : wpAny (Mo w) A (binaryOp .Mod (.int a t) (.int b u)) Q E (St s₀ h tk) :=
  mod_int' (by omega) (by rw [Int.fmod_eq_emod_of_nonneg _ (by omega)]; exact hq)
theorem powI {Q : Value → Shared → Prop} (h0 : 0 ≤ b) (h1 : b ≤ 1000000) (ha : a.natAbs < 2 ^ 64) (hq : Q (.int (a ^ b.toNat) tk) (St s₀ h (tk + 1))) : wpAny (Mo w) A (binaryOp .Pow (.int a t) (.int b u)) Q E (St s₀ h tk) := pow_int_small h0 h1 ha hq
theorem shlI {Q : Value → Shared → Prop} (h0 : 0 ≤ b) (h1 : b ≤ 1000000) (ha : a.natAbs < 2 ^ 64) (hq : Q (.int (a * 2 ^ b.toNat) tk) (St s₀ h (tk + 1))) : wpAny (Mo w) A (binaryOp .LShift (.int a t) (.int b u)) Q E (St s₀ h tk) := lshift_int_small h0 h1 ha hq
theorem shrI {Q : Value → Shared → Prop} (h0 : 0 ≤ b) (hq : Q (.int (a / 2 ^ b.toNat) tk) (St s₀ h (tk + 1))) : wpAny (Mo w) A (binaryOp .RShift (.int a t) (.int b u)) Q E (St s₀ h tk) :=
  rshift_int h0 (by rw [Int.fdiv_eq_ediv_of_nonneg _ (Int.pow_nonneg (by decide))]; exact hq)
theorem andI {Q : Value → Shared → Prop} (hq : Q (.int (Builtin.bitAnd a b) tk) (St s₀ h (tk + 1))) : wpAny (Mo w) A (binaryOp .BitAnd (.int a t) (.int b u)) Q E (St s₀ h tk) := and_int hq
theorem orI {Q : Value → Shared → Prop} (hq : Q (.int (Builtin.bitOr a b) tk) (St s₀ h (tk + 1))) : wpAny (Mo w) A (binaryOp .BitOr (.int a t) (.int b u)) Q E (St s₀ h tk) := or_int hq
theorem absI {Q : Value → Shared → Prop} (hq : ∀ t' tk', Q (.int (a.natAbs : Int) t') (St s₀ h tk')) : wpAny (Mo w) A (call (.builtin "abs") [.int a t]) Q E (St s₀ h tk) :=
  call_abs_int fun u tk' => by
    have e : (if a < 0 then -a else a) = (a.natAbs : Int) := by split <;> omega
    rw [e]; exact hq u tk'
theorem ltI {Q : Value → Shared → Prop} (hq : Q (.bool (decide (a < b))) (St s₀ h tk)) : wpAny (Mo w) A (compareOp .Lt (.int a t) (.int b u)) Q E (St s₀ h tk) := lt_int hq
theorem gtI {Q : Value → Shared → Prop} (hq : Q (.bool (decide (a > b))) (St s₀ h tk)) : wpAny (Mo w) A (compareOp .Gt (.int a t) (.int b u)) Q E (St s₀ h tk) := gt_int hq
theorem geI {Q : Value → Shared → Prop} (hq : Q (.bool (decide (a ≥ b))) (St s₀ h tk)) : wpAny (Mo w) A (compareOp .GtE (.int a t) (.int b u)) Q E (St s₀ h tk) := ge_int hq
theorem leI {Q : Value → Shared → Prop} (hq : Q (.bool (decide (a ≤ b))) (St s₀ h tk)) : wpAny (Mo w) A (compareOp .LtE (.int a t) (.int b u)) Q E (St s₀ h tk) := le_int hq
theorem eqI {Q : Value → Shared → Prop} (hq : Q (.bool (a == b)) (St s₀ h tk)) : wpAny (Mo w) A (compareOp .Eq (.int a t) (.int b u)) Q E (St s₀ h tk) := eq_int hq
theorem neI {Q : Value → Shared → Prop} (hq : Q (.bool (a != b)) (St s₀ h tk)) : wpAny (Mo w) A (compareOp .NotEq (.int a t) (.int b u)) Q E (St s₀ h tk) := ne_int hq

theorem truthyI {Q : Bool → Shared → Prop} (hq : Q (a != 0) (St s₀ h tk)) : wpAny (Mo w) A (truthy (.int a t)) Q E (St s₀ h tk) := PyProof.Rows.truthy_int hq
theorem eqB {c d : Bool} {Q : Value → Shared → Prop} (hq : Q (.bool (c == d)) (St s₀ h tk)) : wpAny (Mo w) A (compareOp .Eq (.bool c) (.bool d)) Q E (St s₀ h tk) := eq_bool hq
theorem subT {value slice : Expr} {d : Addr} {xs : List Value} {n : Nat} {k : Int} {x : Value} {Q : Value → Shared → Prop} (hl : h.get? d = some { cls := .type "tuple", data := .seq xs.toArray n }) (h0 : 0 ≤ k) (hn : xs.length < 2 ^ 62)
    (hx : xs[k.toNat]? = some x) (hq : Q x (St s₀ h tk))
    (hs : subscripted slice false (.ref d) (.int k u) = operate [.ref d, .int k u] (getItem (.ref d) (.int k u)) := by with_unfolding_all rfl) :
    wpAny (Mo w) A (subscriptTail value slice (.ref d) (.int k u)) Q E (St s₀ h tk) := by
  have hlt : k.toNat < xs.length := (List.getElem?_eq_some_iff.mp hx).1
  exact item_tupleT (s := St s₀ h tk) ⟨_, hl, rfl, n, rfl⟩ (by omega) (by omega) (seqIndex_of h0 (by omega)) hx hq hs
theorem subL {value slice : Expr} {d : Addr} {vs : List Value} {n : Nat} {k : Int} {x : Value} {Q : Value → Shared → Prop} (hl : h.get? d = some (listOf vs.toArray n)) (h0 : 0 ≤ k) (hn : vs.length < 2 ^ 62)
    (hx : vs[k.toNat]? = some x) (hq : Q x (St s₀ h tk))
    (hs : subscripted slice false (.ref d) (.int k u) = operate [.ref d, .int k u] (getItem (.ref d) (.int k u)) := by with_unfolding_all rfl) :
    wpAny (Mo w) A (subscriptTail value slice (.ref d) (.int k u)) Q E (St s₀ h tk) := by
  have hl' : (St s₀ h tk).heap.IsList d vs.toArray := ⟨_, hl, rfl, n, rfl⟩
  have hlt : k.toNat < vs.length := (List.getElem?_eq_some_iff.mp hx).1
  exact tail_any hl'.typeIs slot_list_getitem.lookup (wpAny_getItem_list hl' h0 (by omega) (by simpa using hx) hq) hs
end

section
variable {w : World} {A : Around} {E : Value → Shared → Prop} {s₀ : Shared} {h : Heap} {tk : Nat} {B : Base} {L : Addr} {ns : List Str} {vs : List (Option Value)} {nw : List (Addr × Obj)}
  {env : Env} {gl bl : List (Str × Value)} {x : Str} {pos : Pos} {v : Value} {d : Addr} {xs : List Value} {n : Nat}

theorem setL (j : Nat) {k : Int} {t : Tok} {Q : Unit → Shared → Prop} (X : Fx B L ns vs nw h) (hj : nw[j]? = some (d, listOf xs.toArray n)) (h0 : 0 ≤ k) (hk : k.toNat < xs.length) (hn : xs.length < 2 ^ 62)
    (hq : ∀ h' tk', Fx B L ns vs (nw.set j (d, listOf (xs.set k.toNat v).toArray n)) h' → Q () (St s₀ h' tk')) :
    wpAny (Mo w) A (setItem (.ref d) (.int k t) v) Q E (St s₀ h tk) := by
  have ho := X.get hj
  refine ki_setAt (s := St s₀ h tk) (n := n) ho h0 (by omega) (by simp; omega) (hq _ _ (X.chg1 hj (Chg.sameBut (Heap.SameBut.update ..)) ?_))
  show (h.update d _).get? d = _
  rw [Heap.get?_update_self _ ho (by rfl)]
  simp [Obj.mapSeq]

theorem appL (j : Nat) {Q : Value → Shared → Prop} (X : Fx B L ns vs nw h) (hj : nw[j]? = some (d, listOf xs.toArray n)) (hn : xs.length ≤ sizeLine)
    (hq : ∀ h' tk', Fx B L ns vs (nw.set j (d, listOf (xs ++ [v]).toArray (n + 1))) h' → Q .none (St s₀ h' tk')) :
    wpAny (Mo w) A (call (.builtin "list.append") [.ref d, v]) Q E (St s₀ h tk) := by
  refine append_at (s := St s₀ h tk) (X.get hj) (fun h' hs ho => hq _ _ (X.chg1 hj (Chg.sameBut hs) ?_)) (by simpa using hn)
  rw [ho]; simp

theorem popL (j : Nat) {y : Value} {Q : Value → Shared → Prop} (X : Fx B L ns vs nw h) (hj : nw[j]? = some (d, listOf (xs ++ [y]).toArray n)) (hn : (xs ++ [y]).length ≤ sizeLine)
    (hq : ∀ h' tk', Fx B L ns vs (nw.set j (d, listOf xs.toArray (n + 1))) h' → Q y (St s₀ h' tk')) :
    wpAny (Mo w) A (call (.builtin "list.pop") [.ref d]) Q E (St s₀ h tk) := by
  have ho := X.get hj
  refine call_meets PySem.F.slot_list_pop ⟨_, ho, rfl⟩ PySem.F.entry_list_pop (PySem.F.args_list_pop_1 _) (PySem.MeetsSeq.list_pop_last d _ n y (by simp) (by simpa using hn)) ⟨ho, hq _ _ (X.chg1 hj (Chg.sameBut (Heap.SameBut.update ..)) ?_)⟩
  show (h.update d _).get? d = _
  rw [Heap.get?_update_self _ ho (by rfl)]
  simp only [Obj.mapSeq, Option.some.injEq]
  have e : ((xs ++ [y]).toArray.eraseIdxIfInBounds ((xs ++ [y]).toArray.size - 1)) = xs.toArray := by
    rw [Array.eraseIdxIfInBounds_eq]
    simp [List.eraseIdx_append_of_length_le]
  simp only [e]
  simp

/-- a call of one of the text's defs -/
theorem fcall1 {e1 : Expr} {g : Str} {f : Addr} {p : Pos} {Q : Value → Shared → Prop} (X : Fx B L ns vs nw h) (G : GdB w B) (K : FK w env L ns gl bl) (i : Nat) (hg : gl[i]? = some (g, .ref f)) (hk : keepIn (KF w.params) (.ref f) = true)
    (hq : wpAny (Mo w) A (eval e1 env) (fun v1 s1 => (KF w.params).In s1.heap ∧ wpAny (Mo w) A (call (.ref f) [v1]) Q E s1) E (St s₀ h tk))
    (he : starEach [e1] env = [(false, eval e1 env)] := by rfl) : wpAny (Mo w) A (eval (.Call (.Name g p) [e1] [] pos) env) Q E (St s₀ h tk) := by
  refine wpAny_Call_NameR (ldg X G K i hg ?_)
  rw [he]
  exact callWith_of rfl (keeps_K hk) (Calls.evalArgs_plain (Calls.spliced_cons (wpAny_mono hq (fun _ _ q => Calls.spliced_nil q) fun _ _ e => e)))
theorem fcall2 {e1 e2 : Expr} {g : Str} {f : Addr} {p : Pos} {Q : Value → Shared → Prop} (X : Fx B L ns vs nw h) (G : GdB w B) (K : FK w env L ns gl bl) (i : Nat) (hg : gl[i]? = some (g, .ref f)) (hk : keepIn (KF w.params) (.ref f) = true)
    (hq : wpAny (Mo w) A (eval e1 env) (fun v1 s1 => wpAny (Mo w) A (eval e2 env) (fun v2 s2 => (KF w.params).In s2.heap ∧ wpAny (Mo w) A (call (.ref f) [v1, v2]) Q E s2) E s1) E (St s₀ h tk))
    (he : starEach [e1, e2] env = [(false, eval e1 env), (false, eval e2 env)] := by rfl) : wpAny (Mo w) A (eval (.Call (.Name g p) [e1, e2] [] pos) env) Q E (St s₀ h tk) := by
  refine wpAny_Call_NameR (ldg X G K i hg ?_)
  rw [he]
  exact callWith_of rfl (keeps_K hk) (Calls.evalArgs_plain (Calls.spliced_cons (wpAny_mono hq (fun _ _ q => Calls.spliced_cons (wpAny_mono q (fun _ _ q => Calls.spliced_nil q) fun _ _ e => e)) fun _ _ e => e)))
theorem fcall3 {e1 e2 e3 : Expr} {g : Str} {f : Addr} {p : Pos} {Q : Value → Shared → Prop} (X : Fx B L ns vs nw h) (G : GdB w B) (K : FK w env L ns gl bl) (i : Nat) (hg : gl[i]? = some (g, .ref f)) (hk : keepIn (KF w.params) (.ref f) = true)
    (hq : wpAny (Mo w) A (eval e1 env) (fun v1 s1 => wpAny (Mo w) A (eval e2 env) (fun v2 s2 => wpAny (Mo w) A (eval e3 env) (fun v3 s3 => (KF w.params).In s3.heap ∧ wpAny (Mo w) A (call (.ref f) [v1, v2, v3]) Q E s3) E s2) E s1) E (St s₀ h tk))
    (he : starEach [e1, e2, e3] env = [(false, eval e1 env), (false, eval e2 env), (false, eval e3 env)] := by rfl) : wpAny (Mo w) A (eval (.Call (.Name g p) [e1, e2, e3] [] pos) env) Q E (St s₀ h tk) := by
  refine wpAny_Call_NameR (ldg X G K i hg ?_)
  rw [he]
  exact callWith_of rfl (keeps_K hk) (Calls.evalArgs_plain (Calls.spliced_cons (wpAny_mono hq (fun _ _ q => Calls.spliced_cons (wpAny_mono q (fun _ _ q => Calls.spliced_cons (wpAny_mono q (fun _ _ q => Calls.spliced_nil q) fun _ _ e => e)) fun _ _ e => e)) fun _ _ e => e)))
theorem fcall4 {e1 e2 e3 e4 : Expr} {g : Str} {f : Addr} {p : Pos} {Q : Value → Shared → Prop} (X : Fx B L ns vs nw h) (G : GdB w B) (K : FK w env L ns gl bl) (i : Nat) (hg : gl[i]? = some (g, .ref f)) (hk : keepIn (KF w.params) (.ref f) = true)
    (hq : wpAny (Mo w) A (eval e1 env) (fun v1 s1 => wpAny (Mo w) A (eval e2 env) (fun v2 s2 => wpAny (Mo w) A (eval e3 env) (fun v3 s3 => wpAny (Mo w) A (eval e4 env) (fun v4 s4 => (KF w.params).In s4.heap ∧ wpAny (Mo w) A (call (.ref f) [v1, v2, v3, v4]) Q E s4) E s3) E s2) E s1) E (St s₀ h tk))
    (he : starEach [e1, e2, e3, e4] env = [(false, eval e1 env), (false, eval e2 env), (false, eval e3 env), (false, eval e4 env)] := by rfl) : wpAny (Mo w) A (eval (.Call (.Name g p) [e1, e2, e3, e4] [] pos) env) Q E (St s₀ h tk) := by
  refine wpAny_Call_NameR (ldg X G K i hg ?_)
  rw [he]
  exact callWith_of rfl (keeps_K hk) (Calls.evalArgs_plain (Calls.spliced_cons (wpAny_mono hq (fun _ _ q => Calls.spliced_cons (wpAny_mono q (fun _ _ q => Calls.spliced_cons (wpAny_mono q (fun _ _ q => Calls.spliced_cons (wpAny_mono q (fun _ _ q => Calls.spliced_nil q) fun _ _ e => e)) fun _ _ e => e)) fun _ _ e => e)) fun _ _ e => e)))

/-- a call of a built-in by its name, one argument -/
theorem bcall1 {e1 : Expr} {g : Str} {id : String} {p : Pos} {Q : Value → Shared → Prop} (X : Fx B L ns vs nw h) (G : GdB w B) (K : FK w env L ns gl bl) (i : Nat) (hg : bl[i]? = some (g, .builtin id))
    (hq : wpAny (Mo w) A (eval e1 env) (fun v1 s1 => wpAny (Mo w) A (call (.builtin id) [v1]) Q E s1) E (St s₀ h tk))
    (he : starEach [e1] env = [(false, eval e1 env)] := by rfl) : wpAny (Mo w) A (eval (.Call (.Name g p) [e1] [] pos) env) Q E (St s₀ h tk) := by
  refine wpAny_Call_NameR (ldb X G K i hg ?_)
  rw [he]
  exact Calls.callWith_builtin rfl (Calls.evalArgs_plain (Calls.spliced_cons (wpAny_mono hq (fun _ _ q => Calls.spliced_nil q) fun _ _ e => e)))

theorem lenL {Q : Value → Shared → Prop} (hl : h.get? d = some (listOf xs.toArray n)) (hn : xs.length < 2 ^ 62) (hq : ∀ tk', Q (.int xs.length (tk + 1)) (St s₀ h tk')) :
    wpAny (Mo w) A (call (.builtin "len") [.ref d]) Q E (St s₀ h tk) := by
  have hl' : (St s₀ h tk).heap.IsList d xs.toArray := ⟨_, hl, rfl, n, rfl⟩
  refine len_list hl' (by simp; omega) ?_
  have e : xs.toArray.size = xs.length := by simp
  rw [e]
  exact hq (tk + 1 + 1)

abbrev tupV (xs : List Value) : Obj := { cls := .type "tuple", data := .seq xs.toArray }
theorem newTup {ys : List Value} {Q : Value → Shared → Prop} (X : Fx B L ns vs nw h) (hn : ys.length ≤ sizeLine) (hq : ∀ a h' tk', Chg [] h h' → h.get? a = none → Fx B L ns vs ((a, tupV ys) :: nw) h' → Q (.ref a) (St s₀ h' tk')) :
    wpAny (Mo w) A (newTuple ys) Q E (St s₀ h tk) := by
  refine wpAny_newObj_type (hq _ _ _ Chg.push ?_ (X.push _ rfl)) (by show ys.toArray.size ≤ sizeLine; rw [List.size_toArray]; exact hn)
  cases e : h.get? h.objs.size with
  | none => exact e
  | some o => exact absurd (Heap.lt_size e) (Nat.lt_irrefl _)
theorem newLst {ys : List Value} {Q : Value → Shared → Prop} (X : Fx B L ns vs nw h) (hn : ys.length ≤ sizeLine) (hq : ∀ a h' tk', Chg [] h h' → h.get? a = none → Fx B L ns vs ((a, listOf ys.toArray 0) :: nw) h' → Q (.ref a) (St s₀ h' tk')) :
    wpAny (Mo w) A (newList ys) Q E (St s₀ h tk) := by
  refine wpAny_newObj_type (hq _ _ _ Chg.push ?_ (X.push _ rfl)) (by show ys.toArray.size ≤ sizeLine; rw [List.size_toArray]; exact hn)
  cases e : h.get? h.objs.size with
  | none => exact e
  | some o => exact absurd (Heap.lt_size e) (Nat.lt_irrefl _)
theorem tupE2 {e1 e2 : Expr} {k : Nat} {Q : Value → Shared → Prop} {s : Shared} (hq : wpAny (Mo w) A (eval e1 env) (fun v1 s1 => wpAny (Mo w) A (eval e2 env) (fun v2 s2 => wpAny (Mo w) A (newTuple [v1, v2]) Q E s2) E s1) E s)
    (he : starEach [e1, e2] env = [(false, eval e1 env), (false, eval e2 env)] := by rfl) : wpAny (Mo w) A (eval (.Tuple [e1, e2] k pos) env) Q E s := by
  refine Tuple_ ?_
  rw [he]
  exact Calls.spliced_cons (wpAny_mono hq (fun _ _ q => Calls.spliced_cons (wpAny_mono q (fun _ _ q => Calls.spliced_nil q) fun _ _ e => e)) fun _ _ e => e)
theorem tupE3 {e1 e2 e3 : Expr} {k : Nat} {Q : Value → Shared → Prop} {s : Shared} (hq : wpAny (Mo w) A (eval e1 env) (fun v1 s1 => wpAny (Mo w) A (eval e2 env) (fun v2 s2 => wpAny (Mo w) A (eval e3 env) (fun v3 s3 => wpAny (Mo w) A (newTuple [v1, v2, v3]) Q E s3) E s2) E s1) E s)
    (he : starEach [e1, e2, e3] env = [(false, eval e1 env), (false, eval e2 env), (false, eval e3 env)] := by rfl) : wpAny (Mo w) A (eval (.Tuple [e1, e2, e3] k pos) env) Q E s := by
  refine Tuple_ ?_
  rw [he]
  exact Calls.spliced_cons (wpAny_mono hq (fun _ _ q => Calls.spliced_cons (wpAny_mono q (fun _ _ q => Calls.spliced_cons (wpAny_mono q (fun _ _ q => Calls.spliced_nil q) fun _ _ e => e)) fun _ _ e => e)) fun _ _ e => e)
theorem tupE4 {e1 e2 e3 e4 : Expr} {k : Nat} {Q : Value → Shared → Prop} {s : Shared} (hq : wpAny (Mo w) A (eval e1 env) (fun v1 s1 => wpAny (Mo w) A (eval e2 env) (fun v2 s2 => wpAny (Mo w) A (eval e3 env) (fun v3 s3 => wpAny (Mo w) A (eval e4 env) (fun v4 s4 => wpAny (Mo w) A (newTuple [v1, v2, v3, v4]) Q E s4) E s3) E s2) E s1) E s)
    (he : starEach [e1, e2, e3, e4] env = [(false, eval e1 env), (false, eval e2 env), (false, eval e3 env), (false, eval e4 env)] := by rfl) : wpAny (Mo w) A (eval (.Tuple [e1, e2, e3, e4] k pos) env) Q E s := by
  refine Tuple_ ?_
  rw [he]
  exact Calls.spliced_cons (wpAny_mono hq (fun _ _ q => Calls.spliced_cons (wpAny_mono q (fun _ _ q => Calls.spliced_cons (wpAny_mono q (fun _ _ q => Calls.spliced_cons (wpAny_mono q (fun _ _ q => Calls.spliced_nil q) fun _ _ e => e)) fun _ _ e => e)) fun _ _ e => e)) fun _ _ e => e)
theorem lstE0 {Q : Value → Shared → Prop} {s : Shared} (hq : wpAny (Mo w) A (newList []) Q E s) : wpAny (Mo w) A (eval (.List [] pos) env) Q E s := List_ (Calls.spliced_nil hq)
theorem lstE1 {e1 : Expr} {Q : Value → Shared → Prop} {s : Shared} (hq : wpAny (Mo w) A (eval e1 env) (fun v1 s1 => wpAny (Mo w) A (newList [v1]) Q E s1) E s)
    (he : starEach [e1] env = [(false, eval e1 env)] := by rfl) : wpAny (Mo w) A (eval (.List [e1] pos) env) Q E s := by
  refine List_ ?_
  rw [he]
  exact Calls.spliced_cons (wpAny_mono hq (fun _ _ q => Calls.spliced_nil q) fun _ _ e => e)
theorem notInL {ns' : List Int} {xs : List Value} {d : Addr} {n : Nat} {k : Int} {t : Tok} {Q : Value → Shared → Prop} (hl : h.get? d = some (listOf xs.toArray n)) (hi : IntsAre xs ns') (hq : Q (.bool (!(ns'.any (· == k)))) (St s₀ h tk)) :
    wpAny (Mo w) A (compareOp .NotIn (.int k t) (.ref d)) Q E (St s₀ h tk) := notin_list_ints (s := St s₀ h tk) ⟨_, hl, rfl, n, rfl⟩ hi hq

/-- a method call upon a list that a name holds -/
theorem mcall0 {o : Expr} {name : Str} {id : String} {apos : Pos} {Q : Value → Shared → Prop}
    (slot : Slot "list" name id) (hty : typeOf (.builtin id) = pure (.type "method_descriptor"))
    (hq : wpAny (Mo w) A (eval o env) (fun ov s₁ => ∃ d xs n, ov = .ref d ∧ s₁.heap.get? d = some (listOf xs n) ∧ wpAny (Mo w) A (call (.builtin id) [.ref d]) Q E s₁) E (St s₀ h tk))
    (hbase : attributeBase o name env (eval o env) = eval o env := by rfl)
    (hline : (apos.endLine == pos.line) = true := by rfl) :
    wpAny (Mo w) A (eval (.Call (.Attribute o name apos) [] [] pos) env) Q E (St s₀ h tk) := by
  refine wpAny_Call_method (T := "list") (id := id) hbase rfl hline PySem.F.plainAttrs_list slot hty (wpAny_mono hq (fun ov s₁ q => ?_) fun _ _ e => e)
  obtain ⟨d, xs, n, rfl, ho, hc⟩ := q
  refine ⟨⟨_, ho, rfl⟩, fun a e => by cases e; exact ⟨_, ho, rfl⟩, ?_⟩
  exact Calls.callWith_builtin rfl (PySem.evalArgs_none hc)
theorem mcall1 {o e1 : Expr} {name : Str} {id : String} {apos : Pos} {Q : Value → Shared → Prop}
    (slot : Slot "list" name id) (hty : typeOf (.builtin id) = pure (.type "method_descriptor"))
    (hq : wpAny (Mo w) A (eval o env) (fun ov s₁ => ∃ d xs n, ov = .ref d ∧ s₁.heap.get? d = some (listOf xs n) ∧ wpAny (Mo w) A (eval e1 env) (fun y s₂ => wpAny (Mo w) A (call (.builtin id) [.ref d, y]) Q E s₂) E s₁) E (St s₀ h tk))
    (hbase : attributeBase o name env (eval o env) = eval o env := by rfl)
    (hline : (apos.endLine == pos.line) = true := by rfl) (he : starEach [e1] env = [(false, eval e1 env)] := by rfl) :
    wpAny (Mo w) A (eval (.Call (.Attribute o name apos) [e1] [] pos) env) Q E (St s₀ h tk) := by
  refine wpAny_Call_method (T := "list") (id := id) hbase (by rw [he]; rfl) hline PySem.F.plainAttrs_list slot hty (wpAny_mono hq (fun ov s₁ q => ?_) fun _ _ e => e)
  obtain ⟨d, xs, n, rfl, ho, hc⟩ := q
  refine ⟨⟨_, ho, rfl⟩, fun a e => by cases e; exact ⟨_, ho, rfl⟩, ?_⟩
  rw [he]
  exact Calls.callWith_builtin rfl (Calls.evalArgs_plain (Calls.spliced_cons (wpAny_mono hc (fun _ _ q => Calls.spliced_nil q) fun _ _ e => e)))

theorem truthyL {Q : Bool → Shared → Prop} (hl : h.get? d = some (listOf xs.toArray n)) (hn : xs.length < 2 ^ 62) (hq : ∀ tk', Q (!xs.isEmpty) (St s₀ h tk')) :
    wpAny (Mo w) A (truthy (.ref d)) Q E (St s₀ h tk) := by
  have hl' : (St s₀ h tk).heap.IsList d xs.toArray := ⟨_, hl, rfl, n, rfl⟩
  refine wpAny_truthy_list hl' (by simp; omega) ?_
  have e : xs.toArray.isEmpty = xs.isEmpty := by simp
  rw [e]
  exact hq (tk + 1 + 1)
end

abbrev E3 := Int × Int × Int
def lt3 (a b : E3) : Bool := decide (a.1 < b.1) || (a.1 == b.1 && (decide (a.2.1 < b.2.1) || (a.2.1 == b.2.1 && decide (a.2.2 < b.2.2))))
abbrev tupO (e : E3) (t1 t2 t3 : Tok) (n : Nat) : Obj := { cls := .type "tuple", data := .seq #[.int e.1 t1, .int e.2.1 t2, .int e.2.2 t3] n }
def IsT3 (h : Heap) (v : Value) (e : E3) : Prop := ∃ a t1 t2 t3 n, v = .ref a ∧ h.get? a = some (tupO e t1 t2 t3 n)
def IsT3B (B : Base) (v : Value) (e : E3) : Prop := ∃ a t1 t2 t3 n, v = .ref a ∧ B a = some (tupO e t1 t2 t3 n)
theorem IsT3B.hol {B : Base} {h : Heap} {v : Value} {e : E3} (x : IsT3B B v e) (hB : Hol B h) : IsT3 h v e := let ⟨a, t1, t2, t3, n, e1, e2⟩ := x; ⟨a, t1, t2, t3, n, e1, hB _ _ e2⟩

theorem ltT {w : World} {A : Around} {E : Value → Shared → Prop} {s₀ : Shared} {h : Heap} {tk : Nat} {v u : Value} {e1 e2 : E3} {k : Nat} {Q : Value → Shared → Prop}
    (hx : IsT3 h v e1) (hy : IsT3 h u e2) (R : Rm A k) (hq : Q (.bool (lt3 e1 e2)) (St s₀ h tk)) : wpAny (Mo w) A (compareOp .Lt v u) Q E (St s₀ h tk) := by
  obtain ⟨a, t1, t2, t3, n, rfl, ha⟩ := hx
  obtain ⟨b, u1, u2, u3, m, rfl, hb⟩ := hy
  obtain ⟨x1, x2, x3⟩ := e1
  obtain ⟨y1, y2, y3⟩ := e2
  have ha' : (St s₀ h tk).heap.get? a = _ := ha
  have hb' : (St s₀ h tk).heap.get? b = _ := hb
  show wpAny _ A (richCompare .Lt _ _) Q E _
  refine wpAny_richCompare_same_room (op := .Lt) (T := "tuple") ⟨_, ha', rfl⟩ ⟨_, hb', rfl⟩ PySem.F.slot_tuple_lt (wpAny_call_entry PySem.F.slot_tuple_lt ⟨_, ha', rfl⟩ PySem.F.entry_tuple_lt ?_ (PySem.F.args_tuple_lt_2 _ _)) R.units
  show wpAny _ _ (isInstance (.ref b) (.type "tuple") >>= _) _ _ _
  refine wpAny_bind (wpAny_isInstance (T := "tuple") ⟨_, hb', rfl⟩ isSubtype_tuple_tuple ?_)
  simp only [Bool.not_true, Bool.false_eq_true, if_false]
  refine wpAny_bind (wpAny_tupleItemsOf ha' rfl ?_)
  refine wpAny_bind (wpAny_tupleItemsOf hb' rfl ?_)
  refine wpAny_bind ?_
  have fin : ∀ (b : Bool), b = lt3 (x1, x2, x3) (y1, y2, y3) → Q (.bool b) (St s₀ h tk) := fun b e => e ▸ hq
  show wpAny _ _ (forIn [(Value.int x1 t1, Value.int y1 u1), (Value.int x2 t2, Value.int y2 u2), (Value.int x3 t3, Value.int y3 u3)] _ _) _ _ _
  rw [List.forIn_cons]
  refine wpAny_bind (wpAny_bind (wpAny_eqBool_int ?_))
  by_cases h1 : x1 = y1
  · simp only [h1, beq_self_eq_true, Bool.not_true, Bool.false_eq_true, if_false]
    refine wpAny_pure ?_
    dsimp only
    rw [List.forIn_cons]
    refine wpAny_bind (wpAny_bind (wpAny_eqBool_int ?_))
    by_cases h2 : x2 = y2
    · simp only [h2, beq_self_eq_true, Bool.not_true, Bool.false_eq_true, if_false]
      refine wpAny_pure ?_
      dsimp only
      rw [List.forIn_cons]
      refine wpAny_bind (wpAny_bind (wpAny_eqBool_int ?_))
      by_cases h3 : x3 = y3
      · simp only [h3, beq_self_eq_true, Bool.not_true, Bool.false_eq_true, if_false]
        refine wpAny_pure ?_
        dsimp only
        rw [List.forIn_nil]
        refine wpAny_pure ?_
        refine wpAny_pure ⟨_, rfl, nofun, fin _ ?_⟩
        simp [lt3, h1, h2, h3]
      · have e3 : (x3 == y3) = false := by simpa using h3
        simp only [e3, Bool.not_false, if_true]
        refine wpAny_bind (wpAny_rule (wpAny_bind (lt_int (prog := PG) ?_)))
        exact wpAny_bind (wpAny_pure (wpAny_pure (wpAny_pure (wpAny_pure ⟨_, rfl, nofun, fin _ (by simp [lt3, h1, h2, h3])⟩))))
    · have e2 : (x2 == y2) = false := by simpa using h2
      simp only [e2, Bool.not_false, if_true]
      refine wpAny_bind (wpAny_rule (wpAny_bind (lt_int (prog := PG) ?_)))
      exact wpAny_bind (wpAny_pure (wpAny_pure (wpAny_pure (wpAny_pure ⟨_, rfl, nofun, fin _ (by simp [lt3, h1, h2])⟩))))
  · have e1 : (x1 == y1) = false := by simpa using h1
    simp only [e1, Bool.not_false, if_true]
    refine wpAny_bind (wpAny_rule (wpAny_bind (lt_int (prog := PG) ?_)))
    exact wpAny_bind (wpAny_pure (wpAny_pure (wpAny_pure (wpAny_pure ⟨_, rfl, nofun, fin _ (by simp [lt3, h1])⟩))))

/-- a while by an invariant I over the measure, the locals and the ledger; J holds behind it -/
theorem whileX {w : World} {A : Around} {s₀ : Shared} {h : Heap} {tk : Nat} {B : Base} {L : Addr} {ns : List Str} {vs : List (Option Value)} {nw : List (Addr × Obj)} {env : Env}
    {test : Expr} {body : List Stmt} {pos : Pos} {Q : Flow → Shared → Prop} (I : Nat → List (Option Value) → List (Addr × Obj) → Prop) (J : List (Option Value) → List (Addr × Obj) → Prop) (n : Nat)
    (hI : I n vs nw) (X : Fx B L ns vs nw h)
    (turn : ∀ n vs nw h tk (P : Flow → Shared → Prop) (D : Shared → Prop), I n vs nw → Fx B L ns vs nw h →
      (∀ m vs' nw' h' tk', m < n → I m vs' nw' → Fx B L ns vs' nw' h' → P .next (St s₀ h' tk') ∧ P .cont (St s₀ h' tk')) → (∀ vs' nw' h' tk', J vs' nw' → Fx B L ns vs' nw' h' → P .brk (St s₀ h' tk') ∧ D (St s₀ h' tk')) → (∀ v s, Q (.ret v) s → P (.ret v) s) →
      wpAny (Mo w) A (isTrue test env (eval test env)) (fun b s => if b then wpAny (Mo w) A (execs body env) P NE s else D s) NE (St s₀ h tk))
    (done : ∀ vs nw h tk, J vs nw → Fx B L ns vs nw h → Q .next (St s₀ h tk)) :
    wpAny (Mo w) A (exec (.While test body [] pos) env) Q NE (St s₀ h tk) := by
  refine wpAny_While ?_
  refine codeAny_whileLoop (fun n s => ∃ vs nw h tk, s = St s₀ h tk ∧ I n vs nw ∧ Fx B L ns vs nw h) ?_ n ⟨vs, nw, h, tk, rfl, hI, X⟩
  rintro n _ ⟨vs, nw, h, tk, rfl, hI, X⟩
  refine wpAny_mono (turn n vs nw h tk (fun f s₃ => match f with
            | .next | .cont => ∃ m, m < n ∧ ∃ vs nw h tk, s₃ = St s₀ h tk ∧ I m vs nw ∧ Fx B L ns vs nw h
            | .brk => Q .next s₃
            | .ret v => Q (.ret v) s₃) (fun s => Q .next s) hI X (fun m vs' nw' h' tk' hm hI' X' => ⟨⟨m, hm, vs', nw', h', tk', rfl, hI', X'⟩, ⟨m, hm, vs', nw', h', tk', rfl, hI', X'⟩⟩)
            (fun vs' nw' h' tk' hJ X' => ⟨done vs' nw' h' tk' hJ X', done vs' nw' h' tk' hJ X'⟩) (fun _ _ q => q)) (fun b s q => ?_) fun _ _ e => e.elim
  cases b with
  | true =>
    simp only [if_true] at q ⊢
    exact wpAny_mono q (fun f s₃ z => z) fun _ _ e => e.elim
  | false =>
    simp only [Bool.false_eq_true, if_false] at q ⊢
    exact wpAny_execs_nil q

section
variable {w : World} {A : Around} {E : Value → Shared → Prop} {env : Env} {s : Shared}
/-- an expression statement whose value is None -/
theorem exprS {e : Expr} {pos : Pos} {L : Addr} {ns : List Str} {gl bl : List (Str × Value)} {Q : Flow → Shared → Prop} (K : FK w env L ns gl bl) (h : wpAny (Mo w) A (eval e env) (fun v s' => v = .none ∧ Q .next s') E s)
    (hs : swapsWith e none pos.line env = pure false := by rfl) : wpAny (Mo w) A (exec (.Expr e pos) env) Q E s := by
  refine wpAny_Expr (wpAny_mono h (fun v s' q => ?_) fun _ _ e => e) (by unfold interactive; rw [K.kind]; rfl) hs
  obtain ⟨rfl, q⟩ := q
  exact q
/-- one statement after another, with a cut between -/
theorem cutS {s₀ : Shared} {h : Heap} {tk : Nat} {B : Base} {L : Addr} {ns : List Str} {vs₀ : List (Option Value)} {nw₀ : List (Addr × Obj)} {st : Stmt} {rest : List Stmt} {Q : Flow → Shared → Prop} (_X : Fx B L ns vs₀ nw₀ h) (P : List (Option Value) → List (Addr × Obj) → Prop)
    (h1 : ∀ R : Flow → Shared → Prop, (∀ vs nw h tk, P vs nw → Fx B L ns vs nw h → R .next (St s₀ h tk)) → wpAny (Mo w) A (exec st env) R E (St s₀ h tk))
    (h2 : ∀ vs nw h tk, P vs nw → Fx B L ns vs nw h → wpAny (Mo w) A (execs rest env) Q E (St s₀ h tk)) : wpAny (Mo w) A (execs (st :: rest) env) Q E (St s₀ h tk) :=
  wpAny_execs_cons (h1 _ fun vs nw h tk hp X => h2 vs nw h tk hp X)
/-- one statement after another -/
theorem sq {st : Stmt} {rest : List Stmt} {Q : Flow → Shared → Prop} (h : wpAny (Mo w) A (exec st env) (fun f s' => (f = .next ∧ wpAny (Mo w) A (execs rest env) Q E s') ∨ (f ≠ .next ∧ Q f s')) E s) : wpAny (Mo w) A (execs (st :: rest) env) Q E s := by
  refine wpAny_execs_cons (wpAny_mono h (fun f s' q => ?_) fun _ _ e => e)
  rcases q with ⟨rfl, q⟩ | ⟨hn, q⟩
  · exact q
  · cases f <;> first | exact absurd rfl hn | exact q
end
end Mine
end
section
open PySem PySem.W PyProof.Rows PySem.Calls
set_option Elab.async false
set_option maxRecDepth 100000
namespace Mine

abbrev VE := Value × E3
def sd {α : Type} (lt : α → α → Bool) (start : Nat) (new : α) (ps : List α) (pos : Nat) : List α :=
  if _h : start < pos then
    match ps[(pos - 1) / 2]? with
    | some par => if lt new par then sd lt start new (ps.set pos par) ((pos - 1) / 2) else ps.set pos new
    | none => ps
  else ps.set pos new
termination_by pos
decreasing_by omega

theorem sd_stop {α : Type} {lt : α → α → Bool} {start : Nat} {new : α} {ps : List α} {pos : Nat} (h : ¬ start < pos) : sd lt start new ps pos = ps.set pos new := by
  rw [sd, dif_neg h]
theorem sd_brk {α : Type} {lt : α → α → Bool} {start : Nat} {new : α} {ps : List α} {pos : Nat} {par : α} (h : start < pos) (hp : ps[(pos - 1) / 2]? = some par) (hl : lt new par = false) : sd lt start new ps pos = ps.set pos new := by
  rw [sd, dif_pos h, hp]; simp [hl]
theorem sd_go {α : Type} {lt : α → α → Bool} {start : Nat} {new : α} {ps : List α} {pos : Nat} {par : α} (h : start < pos) (hp : ps[(pos - 1) / 2]? = some par) (hl : lt new par = true) :
    sd lt start new ps pos = sd lt start new (ps.set pos par) ((pos - 1) / 2) := by
  rw [sd, dif_pos h, hp]; simp [hl]

theorem t3_hid {h : Heap} {d : Addr} {xs : Array Value} {n : Nat} {v : Value} {e : E3} (x : IsT3 h v e) (hd : h.get? d = some (listOf xs n)) : IsT3B (hid [d] h) v e := by
  obtain ⟨a, t1, t2, t3, m, rfl, ha⟩ := x
  refine ⟨a, t1, t2, t3, m, rfl, ?_⟩
  unfold hid
  rw [if_neg, ha]
  intro q
  rw [List.mem_singleton.mp q, hd] at ha
  simp [tupO] at ha

abbrev lst (ps : List VE) (n : Nat) : Obj := listOf (ps.map (·.1)).toArray n
abbrev ltm (p q : VE) : Bool := lt3 p.2 q.2
abbrev ltM (p q : VE) : Bool := lt3 q.2 p.2

/-- the way down of the smaller child -/
def suGo {α : Type} (lt : α → α → Bool) (ps : List α) (pos : Nat) : List α × Nat :=
  if _h : 2 * pos + 1 < ps.length then
    match ps[2 * pos + 1]?, ps[2 * pos + 2]? with
    | some l, some r => if lt l r then suGo lt (ps.set pos l) (2 * pos + 1) else suGo lt (ps.set pos r) (2 * pos + 2)
    | some l, none => suGo lt (ps.set pos l) (2 * pos + 1)
    | none, _ => (ps, pos)
  else (ps, pos)
termination_by ps.length - pos
decreasing_by all_goals (simp only [List.length_set]; omega)

theorem suGo_stop {α : Type} {lt : α → α → Bool} {ps : List α} {pos : Nat} (h : ¬ 2 * pos + 1 < ps.length) : suGo lt ps pos = (ps, pos) := by
  rw [suGo, dif_neg h]
theorem suGo_one {α : Type} {lt : α → α → Bool} {ps : List α} {pos : Nat} {l : α} (hl : ps[2 * pos + 1]? = some l) (hr : ps[2 * pos + 2]? = none) : suGo lt ps pos = suGo lt (ps.set pos l) (2 * pos + 1) := by
  rw [suGo, dif_pos (List.getElem?_eq_some_iff.mp hl).1, hl, hr]
theorem suGo_left {α : Type} {lt : α → α → Bool} {ps : List α} {pos : Nat} {l r : α} (hl : ps[2 * pos + 1]? = some l) (hr : ps[2 * pos + 2]? = some r) (h : lt l r = true) : suGo lt ps pos = suGo lt (ps.set pos l) (2 * pos + 1) := by
  rw [suGo, dif_pos (List.getElem?_eq_some_iff.mp hl).1, hl, hr]; simp [h]
theorem suGo_right {α : Type} {lt : α → α → Bool} {ps : List α} {pos : Nat} {l r : α} (hl : ps[2 * pos + 1]? = some l) (hr : ps[2 * pos + 2]? = some r) (h : lt l r = false) : suGo lt ps pos = suGo lt (ps.set pos r) (2 * pos + 2) := by
  rw [suGo, dif_pos (List.getElem?_eq_some_iff.mp hl).1, hl, hr]; simp [h]
def su {α : Type} (lt : α → α → Bool) (new : α) (ps : List α) (pos : Nat) : List α :=
  sd lt pos new ((suGo lt ps pos).1.set (suGo lt ps pos).2 new) (suGo lt ps pos).2

theorem sd_length {α : Type} {lt : α → α → Bool} {start : Nat} {new : α} : ∀ (pos : Nat) (ps : List α), (sd lt start new ps pos).length = ps.length := by
  intro pos
  induction pos using Nat.strongRecOn with
  | ind pos ih =>
    intro ps
    by_cases h : start < pos
    · cases hp : ps[(pos - 1) / 2]? with
      | none => rw [sd, dif_pos h, hp]
      | some par =>
        cases hl : lt new par with
        | true => rw [sd_go h hp hl, ih _ (by omega), List.length_set]
        | false => rw [sd_brk h hp hl, List.length_set]
    · rw [sd_stop h, List.length_set]
theorem sd_mem {α : Type} {lt : α → α → Bool} {start : Nat} {new : α} : ∀ (pos : Nat) (ps : List α) (x : α), x ∈ sd lt start new ps pos → x ∈ ps ∨ x = new := by
  intro pos
  induction pos using Nat.strongRecOn with
  | ind pos ih =>
    intro ps x hx
    by_cases h : start < pos
    · cases hp : ps[(pos - 1) / 2]? with
      | none => rw [sd, dif_pos h, hp] at hx; exact .inl hx
      | some par =>
        cases hl : lt new par with
        | true =>
          rw [sd_go h hp hl] at hx
          rcases ih _ (by omega) _ x hx with h1 | h1
          · rcases List.mem_or_eq_of_mem_set h1 with h2 | rfl
            · exact .inl h2
            · exact .inl (List.mem_of_getElem? hp)
          · exact .inr h1
        | false => rw [sd_brk h hp hl] at hx; exact List.mem_or_eq_of_mem_set hx
    · rw [sd_stop h] at hx; exact List.mem_or_eq_of_mem_set hx

theorem suGo_length {α : Type} {lt : α → α → Bool} : ∀ (m : Nat) (ps : List α) (pos : Nat), ps.length - pos ≤ m → (suGo lt ps pos).1.length = ps.length := by
  intro m
  induction m with
  | zero =>
    intro ps pos hm
    rw [suGo_stop (by omega)]
  | succ m ih =>
    intro ps pos hm
    by_cases h : 2 * pos + 1 < ps.length
    · cases hl : ps[2 * pos + 1]? with
      | none => rw [List.getElem?_eq_none_iff] at hl; omega
      | some l =>
        cases hr : ps[2 * pos + 2]? with
        | none => rw [suGo_one hl hr, ih _ _ (by rw [List.length_set]; omega), List.length_set]
        | some r =>
          cases hlt : lt l r with
          | true => rw [suGo_left hl hr hlt, ih _ _ (by rw [List.length_set]; omega), List.length_set]
          | false => rw [suGo_right hl hr hlt, ih _ _ (by rw [List.length_set]; omega), List.length_set]
    · rw [suGo_stop h]
theorem suGo_mem {α : Type} {lt : α → α → Bool} : ∀ (m : Nat) (ps : List α) (pos : Nat), ps.length - pos ≤ m → ∀ x ∈ (suGo lt ps pos).1, x ∈ ps := by
  intro m
  induction m with
  | zero =>
    intro ps pos hm x hx
    rw [suGo_stop (by omega)] at hx; exact hx
  | succ m ih =>
    intro ps pos hm x hx
    have st : ∀ (c : Nat) (y : α), pos < c → ps[c]? = some y → x ∈ (suGo lt (ps.set pos y) c).1 → x ∈ ps := fun c y hc hy hx => by
      rcases List.mem_or_eq_of_mem_set (ih _ _ (by rw [List.length_set]; have := (List.getElem?_eq_some_iff.mp hy).1; omega) x hx) with q | rfl
      · exact q
      · exact List.mem_of_getElem? hy
    by_cases h : 2 * pos + 1 < ps.length
    · cases hl : ps[2 * pos + 1]? with
      | none => rw [List.getElem?_eq_none_iff] at hl; omega
      | some l =>
        cases hr : ps[2 * pos + 2]? with
        | none => rw [suGo_one hl hr] at hx; exact st _ _ (by omega) hl hx
        | some r =>
          cases hlt : lt l r with
          | true => rw [suGo_left hl hr hlt] at hx; exact st _ _ (by omega) hl hx
          | false => rw [suGo_right hl hr hlt] at hx; exact st _ _ (by omega) hr hx
    · rw [suGo_stop h] at hx; exact hx
theorem su_length {α : Type} {lt : α → α → Bool} {new : α} {ps : List α} {pos : Nat} : (su lt new ps pos).length = ps.length := by
  rw [su, sd_length, List.length_set, suGo_length _ _ _ (Nat.le_refl _)]
theorem su_mem {α : Type} {lt : α → α → Bool} (new : α) (ps : List α) (pos : Nat) (x : α) (h : x ∈ su lt new ps pos) : x ∈ ps ∨ x = new := by
  rcases sd_mem _ _ x h with q | q
  · rcases List.mem_or_eq_of_mem_set q with q | q
    · exact .inl (suGo_mem _ _ _ (Nat.le_refl _) x q)
    · exact .inr q
  · exact .inr q
def heapG {α : Type} (lt : α → α → Bool) (ps : List α) : Nat → List α
  | 0 => ps
  | k + 1 => match ps[k]? with
    | some x => heapG lt (su lt x ps k) k
    | none => ps
theorem heapG_succ {α : Type} {lt : α → α → Bool} {ps : List α} {k : Nat} {x : α} (h : ps[k]? = some x) : heapG lt ps (k + 1) = heapG lt (su lt x ps k) k := by
  rw [heapG, h]
def hpop {α : Type} (lt : α → α → Bool) (ps : List α) (last : α) : α × List α := match ps with
  | [] => (last, [])
  | p :: r => (p, su lt last (last :: r) 0)
end Mine
end
section
open PySem PySem.W PyProof.Rows PySem.Calls
set_option Elab.async false
set_option maxRecDepth 100000
namespace Mine

set_option maxHeartbeats 2000000 in
theorem siftdown_spec {w : World} {A : Around} {s₀ : Shared} {h : Heap} {tk : Nat} {B : Base} {d : Addr} {n : Nat} {ps : List VE} {start pos : Nat} {t1 t2 : Tok} {new : VE}
    (G : GdB w B) (hB : Hol B h) (hd : B d = none) (R : Rm A 3) (ho : h.get? d = some (lst ps n)) (hps : ∀ p ∈ ps, IsT3 h p.1 p.2) (hnew : ps[pos]? = some new) (hlen : ps.length < 1000) :
    codeAny (Mo w) A (.call (.ref 161) ⟨[.ref d, .int start t1, .int pos t2], []⟩) (RetTo s₀ h [d] (fun v h' => v = .none ∧ h'.get? d = some (lst (sd ltm start new ps pos) n))) (St s₀ h tk) := by
  refine call_fn (k := 2) (D := [d]) (ns := [Str.ofString "heap", Str.ofString "startpos", Str.ofString "pos", Str.ofString "newitem", Str.ofString "parentpos", Str.ofString "parent"]) (gl := []) (bl := [])
    (vals := [.ref d, .int start t1, .int pos t2]) (nw := [(d, lst ps n)]) G hB (by simpa using hd) rfl (by simpa using ho) (by simp) R rfl (by rfl) rfl (BindsTo.of_eq rfl) ?_
  intro L env A' h₁ tk₁ K R' G' X
  have hps' : ∀ p ∈ ps, IsT3B (hid [d] h) p.1 p.2 := fun p hp => t3_hid (hps p hp) ho
  dsimp only [initV] at X
  have hpl : pos < ps.length := (List.getElem?_eq_some_iff.mp hnew).1
  refine wpAny_execs_cons (wpAny_Assign_Name (Subscript_ (ldv 0 X K rfl rfl (ldv 2 X K rfl rfl (subL (x := new.1) (X.get (j := 0) rfl) (by omega) (by simp; omega) (by simp [hnew]) (stv 3 X K rfl rfl ?_))))))
  clear X; intro h₂ tk₂ X; dsimp only [List.set] at X
  refine wpAny_execs_cons (whileX (fun q vs nw => ∃ (t : Tok) (cur : List VE) (v4 v5 : Option Value), vs = [some (Value.ref d), some (Value.int start t1), some (Value.int q t), some new.1, v4, v5] ∧ nw = [(d, lst cur n)] ∧
    q < cur.length ∧ cur.length = ps.length ∧ (∀ p ∈ cur, IsT3B (hid [d] h) p.1 p.2) ∧ sd ltm start new cur q = sd ltm start new ps pos)
    (fun vs nw => ∃ (q : Nat) (t : Tok) (cur : List VE) (v4 v5 : Option Value), vs = [some (Value.ref d), some (Value.int start t1), some (Value.int q t), some new.1, v4, v5] ∧ nw = [(d, lst cur n)] ∧
    q < cur.length ∧ cur.length = ps.length ∧ cur.set q new = sd ltm start new ps pos) pos
    ⟨t2, ps, none, none, rfl, rfl, hpl, rfl, hps', rfl⟩ X ?_ ?_)
  · clear X h₂ tk₂
    rintro q _ _ h₂ tk₂ P D ⟨t, cur, v4, v5, rfl, rfl, hq, hcl, hcur, hsd⟩ X hnx hbk hrt
    refine wpAny_isTrue_Compare1 (ldv 2 X K rfl rfl (ldv 1 X K rfl rfl (gtI (wpAny_truthy_bool ?_))))
    by_cases hgt : start < q
    · rw [if_pos (by simpa using hgt)]
      have hpar : (q - 1) / 2 < cur.length := by omega
      obtain ⟨par, hpar'⟩ : ∃ par, cur[(q - 1) / 2]? = some par := ⟨_, List.getElem?_eq_getElem hpar⟩
      have eidx : ((q : Int) - 1) / 2 = ((q - 1) / 2 : Nat) := by omega
      refine wpAny_execs_cons (wpAny_Assign_Name (wpAny_BinOp (wpAny_BinOp (ldv 2 X K rfl rfl (cI (subI (cI (shr1 (by omega) (stv 4 X K rfl rfl ?_)))))))))
      clear X; intro h₃ tk₃ X; dsimp only [List.set] at X
      rw [eidx] at X
      refine wpAny_execs_cons (wpAny_Assign_Name (Subscript_ (ldv 0 X K rfl rfl (ldv 4 X K rfl rfl (subL (x := par.1) (X.get (j := 0) rfl) (by omega) (by simp; omega) (by rw [Int.toNat_natCast, List.getElem?_map, hpar']; rfl) (stv 5 X K rfl rfl ?_))))))
      clear X; intro h₄ tk₄ X; dsimp only [List.set] at X
      refine wpAny_execs_cons (wpAny_If (wpAny_isTrue_Compare1 (ldv 3 X K rfl rfl (ldv 5 X K rfl rfl (ltT (e1 := new.2) (e2 := par.2) ?_ ?_ R' (wpAny_truthy_bool ?_))))))
      · exact (hps' new (List.mem_of_getElem? hnew)).hol X.keep
      · exact (hcur par (List.mem_of_getElem? hpar')).hol X.keep
      cases hlt : lt3 new.2 par.2 with
      | true =>
        rw [if_pos rfl]
        refine wpAny_execs_cons (wpAny_Assign_Subscript (ldv 5 X K rfl rfl (ldv 0 X K rfl rfl (ldv 2 X K rfl rfl (setL 0 X rfl (by omega) (by simp; omega) (by simp; omega) ?_)))))
        clear X; intro h₅ tk₅ X; dsimp only [List.set] at X
        refine wpAny_execs_cons (wpAny_Assign_Name (ldv 4 X K rfl rfl (stv 2 X K rfl rfl ?_)))
        clear X; intro h₆ tk₆ X; dsimp only [List.set] at X
        rw [Int.toNat_natCast, ← List.map_set] at X
        refine wpAny_execs_cons (wpAny_Continue (hnx ((q - 1) / 2) _ _ _ _ (by omega) ⟨_, cur.set q par, _, _, rfl, rfl, ?_, ?_, ?_, ?_⟩ X).2)
        · rw [List.length_set]; omega
        · rw [List.length_set]; exact hcl
        · intro p hp
          rcases List.mem_or_eq_of_mem_set hp with hp | rfl
          · exact hcur p hp
          · exact hcur _ (List.mem_of_getElem? hpar')
        · rw [← hsd, sd_go hgt hpar' hlt]
      | false =>
        rw [if_neg (by simp)]
        refine wpAny_execs_nil (wpAny_execs_cons (wpAny_Break (hbk _ _ _ _ ⟨q, t, cur, _, _, rfl, rfl, hq, hcl, ?_⟩ X).1))
        rw [← hsd, sd_brk hgt hpar' hlt]
    · rw [if_neg (by simpa using hgt)]
      refine (hbk _ _ _ _ ⟨q, t, cur, _, _, rfl, rfl, hq, hcl, ?_⟩ X).2
      rw [← hsd, sd_stop hgt]
  · clear X h₂ tk₂
    rintro _ _ h₂ tk₂ ⟨q, t, cur, v4, v5, rfl, rfl, hq, hcl, hsd⟩ X
    refine wpAny_execs_cons (wpAny_Assign_Subscript (ldv 3 X K rfl rfl (ldv 0 X K rfl rfl (ldv 2 X K rfl rfl (setL 0 X rfl (by omega) (by simp; omega) (by simp; omega) ?_)))))
    clear X; intro h₅ tk₅ X; dsimp only [List.set] at X
    refine wpAny_execs_nil ⟨h₅, tk₅, rfl, hid_hol X.keep, rfl, ?_⟩
    rw [X.get (j := 0) rfl, Int.toNat_natCast, ← List.map_set, hsd]

set_option maxHeartbeats 2000000 in
theorem siftdownM_spec {w : World} {A : Around} {s₀ : Shared} {h : Heap} {tk : Nat} {B : Base} {d : Addr} {n : Nat} {ps : List VE} {start pos : Nat} {t1 t2 : Tok} {new : VE}
    (G : GdB w B) (hB : Hol B h) (hd : B d = none) (R : Rm A 3) (ho : h.get? d = some (lst ps n)) (hps : ∀ p ∈ ps, IsT3 h p.1 p.2) (hnew : ps[pos]? = some new) (hlen : ps.length < 1000) :
    codeAny (Mo w) A (.call (.ref 175) ⟨[.ref d, .int start t1, .int pos t2], []⟩) (RetTo s₀ h [d] (fun v h' => v = .none ∧ h'.get? d = some (lst (sd ltM start new ps pos) n))) (St s₀ h tk) := by
  refine call_fn (k := 2) (D := [d]) (ns := [Str.ofString "heap", Str.ofString "startpos", Str.ofString "pos", Str.ofString "newitem", Str.ofString "parentpos", Str.ofString "parent"]) (gl := []) (bl := [])
    (vals := [.ref d, .int start t1, .int pos t2]) (nw := [(d, lst ps n)]) G hB (by simpa using hd) rfl (by simpa using ho) (by simp) R rfl (by rfl) rfl (BindsTo.of_eq rfl) ?_
  intro L env A' h₁ tk₁ K R' G' X
  have hps' : ∀ p ∈ ps, IsT3B (hid [d] h) p.1 p.2 := fun p hp => t3_hid (hps p hp) ho
  dsimp only [initV] at X
  have hpl : pos < ps.length := (List.getElem?_eq_some_iff.mp hnew).1
  refine wpAny_execs_cons (wpAny_Assign_Name (Subscript_ (ldv 0 X K rfl rfl (ldv 2 X K rfl rfl (subL (x := new.1) (X.get (j := 0) rfl) (by omega) (by simp; omega) (by simp [hnew]) (stv 3 X K rfl rfl ?_))))))
  clear X; intro h₂ tk₂ X; dsimp only [List.set] at X
  refine wpAny_execs_cons (whileX (fun q vs nw => ∃ (t : Tok) (cur : List VE) (v4 v5 : Option Value), vs = [some (Value.ref d), some (Value.int start t1), some (Value.int q t), some new.1, v4, v5] ∧ nw = [(d, lst cur n)] ∧
    q < cur.length ∧ cur.length = ps.length ∧ (∀ p ∈ cur, IsT3B (hid [d] h) p.1 p.2) ∧ sd ltM start new cur q = sd ltM start new ps pos)
    (fun vs nw => ∃ (q : Nat) (t : Tok) (cur : List VE) (v4 v5 : Option Value), vs = [some (Value.ref d), some (Value.int start t1), some (Value.int q t), some new.1, v4, v5] ∧ nw = [(d, lst cur n)] ∧
    q < cur.length ∧ cur.length = ps.length ∧ cur.set q new = sd ltM start new ps pos) pos
    ⟨t2, ps, none, none, rfl, rfl, hpl, rfl, hps', rfl⟩ X ?_ ?_)
  · clear X h₂ tk₂
    rintro q _ _ h₂ tk₂ P D ⟨t, cur, v4, v5, rfl, rfl, hq, hcl, hcur, hsd⟩ X hnx hbk hrt
    refine wpAny_isTrue_Compare1 (ldv 2 X K rfl rfl (ldv 1 X K rfl rfl (gtI (wpAny_truthy_bool ?_))))
    by_cases hgt : start < q
    · rw [if_pos (by simpa using hgt)]
      have hpar : (q - 1) / 2 < cur.length := by omega
      obtain ⟨par, hpar'⟩ : ∃ par, cur[(q - 1) / 2]? = some par := ⟨_, List.getElem?_eq_getElem hpar⟩
      have eidx : ((q : Int) - 1) / 2 = ((q - 1) / 2 : Nat) := by omega
      refine wpAny_execs_cons (wpAny_Assign_Name (wpAny_BinOp (wpAny_BinOp (ldv 2 X K rfl rfl (cI (subI (cI (shr1 (by omega) (stv 4 X K rfl rfl ?_)))))))))
      clear X; intro h₃ tk₃ X; dsimp only [List.set] at X
      rw [eidx] at X
      refine wpAny_execs_cons (wpAny_Assign_Name (Subscript_ (ldv 0 X K rfl rfl (ldv 4 X K rfl rfl (subL (x := par.1) (X.get (j := 0) rfl) (by omega) (by simp; omega) (by rw [Int.toNat_natCast, List.getElem?_map, hpar']; rfl) (stv 5 X K rfl rfl ?_))))))
      clear X; intro h₄ tk₄ X; dsimp only [List.set] at X
      refine wpAny_execs_cons (wpAny_If (wpAny_isTrue_Compare1 (ldv 5 X K rfl rfl (ldv 3 X K rfl rfl (ltT (e1 := par.2) (e2 := new.2) ?_ ?_ R' (wpAny_truthy_bool ?_))))))
      · exact (hcur par (List.mem_of_getElem? hpar')).hol X.keep
      · exact (hps' new (List.mem_of_getElem? hnew)).hol X.keep
      cases hlt : lt3 par.2 new.2 with
      | true =>
        rw [if_pos rfl]
        refine wpAny_execs_cons (wpAny_Assign_Subscript (ldv 5 X K rfl rfl (ldv 0 X K rfl rfl (ldv 2 X K rfl rfl (setL 0 X rfl (by omega) (by simp; omega) (by simp; omega) ?_)))))
        clear X; intro h₅ tk₅ X; dsimp only [List.set] at X
        refine wpAny_execs_cons (wpAny_Assign_Name (ldv 4 X K rfl rfl (stv 2 X K rfl rfl ?_)))
        clear X; intro h₆ tk₆ X; dsimp only [List.set] at X
        rw [Int.toNat_natCast, ← List.map_set] at X
        refine wpAny_execs_cons (wpAny_Continue (hnx ((q - 1) / 2) _ _ _ _ (by omega) ⟨_, cur.set q par, _, _, rfl, rfl, ?_, ?_, ?_, ?_⟩ X).2)
        · rw [List.length_set]; omega
        · rw [List.length_set]; exact hcl
        · intro p hp
          rcases List.mem_or_eq_of_mem_set hp with hp | rfl
          · exact hcur p hp
          · exact hcur _ (List.mem_of_getElem? hpar')
        · rw [← hsd, sd_go hgt hpar' hlt]
      | false =>
        rw [if_neg (by simp)]
        refine wpAny_execs_nil (wpAny_execs_cons (wpAny_Break (hbk _ _ _ _ ⟨q, t, cur, _, _, rfl, rfl, hq, hcl, ?_⟩ X).1))
        rw [← hsd, sd_brk hgt hpar' hlt]
    · rw [if_neg (by simpa using hgt)]
      refine (hbk _ _ _ _ ⟨q, t, cur, _, _, rfl, rfl, hq, hcl, ?_⟩ X).2
      rw [← hsd, sd_stop hgt]
  · clear X h₂ tk₂
    rintro _ _ h₂ tk₂ ⟨q, t, cur, v4, v5, rfl, rfl, hq, hcl, hsd⟩ X
    refine wpAny_execs_cons (wpAny_Assign_Subscript (ldv 3 X K rfl rfl (ldv 0 X K rfl rfl (ldv 2 X K rfl rfl (setL 0 X rfl (by omega) (by simp; omega) (by simp; omega) ?_)))))
    clear X; intro h₅ tk₅ X; dsimp only [List.set] at X
    refine wpAny_execs_nil ⟨h₅, tk₅, rfl, hid_hol X.keep, rfl, ?_⟩
    rw [X.get (j := 0) rfl, Int.toNat_natCast, ← List.map_set, hsd]
end Mine
end
section
open PySem PySem.W PyProof.Rows PySem.Calls
set_option Elab.async false
set_option maxRecDepth 100000
namespace Mine

set_option maxHeartbeats 2000000 in
theorem siftup_spec {w : World} {A : Around} {s₀ : Shared} {h : Heap} {tk : Nat} {B : Base} {d : Addr} {n : Nat} {ps : List VE} {pos : Nat} {t2 : Tok} {new : VE}
    (G : GdB w B) (hB : Hol B h) (hd : B d = none) (R : Rm A 6) (ho : h.get? d = some (lst ps n)) (hps : ∀ p ∈ ps, IsT3 h p.1 p.2) (hnew : ps[pos]? = some new) (hlen : ps.length < 1000) :
    codeAny (Mo w) A (.call (.ref 168) ⟨[.ref d, .int pos t2], []⟩) (RetTo s₀ h [d] (fun v h' => v = .none ∧ h'.get? d = some (lst (su ltm new ps pos) n))) (St s₀ h tk) := by
  refine call_fn (k := 5) (D := [d]) (ns := [Str.ofString "heap", Str.ofString "pos", Str.ofString "endpos", Str.ofString "startpos", Str.ofString "newitem", Str.ofString "childpos", Str.ofString "rightpos"])
    (gl := [(Str.ofString "_siftdown", .ref 161)]) (bl := [(Str.ofString "len", .builtin "len")])
    (vals := [.ref d, .int pos t2]) (nw := [(d, lst ps n)]) G hB (by simpa using hd) rfl (by simpa using ho) (by simp) R rfl (by rfl) rfl (BindsTo.of_eq rfl) ?_
  intro L env A' h₁ tk₁ K R' G' X
  have hps' : ∀ p ∈ ps, IsT3B (hid [d] h) p.1 p.2 := fun p hp => t3_hid (hps p hp) ho
  dsimp only [initV] at X
  have hpl : pos < ps.length := (List.getElem?_eq_some_iff.mp hnew).1
  refine wpAny_execs_cons (wpAny_Assign_Name (bcall1 X G' K 0 rfl (ldv 0 X K rfl rfl (lenL (X.get (j := 0) rfl) (by simp; omega) (fun tk => stv 2 X K rfl rfl ?_)))))
  clear X; intro h₂ tk₂ X; dsimp only [List.set] at X; rw [List.length_map] at X
  refine wpAny_execs_cons (wpAny_Assign_Name (ldv 1 X K rfl rfl (stv 3 X K rfl rfl ?_)))
  clear X; intro h₂ tk₂ X; dsimp only [List.set] at X
  refine wpAny_execs_cons (wpAny_Assign_Name (Subscript_ (ldv 0 X K rfl rfl (ldv 1 X K rfl rfl (subL (x := new.1) (X.get (j := 0) rfl) (by omega) (by simp; omega) (by simp [hnew]) (stv 4 X K rfl rfl ?_))))))
  clear X; intro h₂ tk₂ X; dsimp only [List.set] at X
  refine wpAny_execs_cons (wpAny_Assign_Name (wpAny_BinOp (wpAny_BinOp (cI (ldv 1 X K rfl rfl (mulI (IntMulOk.of_left (by decide)) (cI (addI (stv 5 X K rfl rfl ?_)))))))))
  clear X; intro h₂ tk₂ X; dsimp only [List.set] at X
  have e0 : (2 * (pos : Int) + 1) = ((2 * pos + 1 : Nat) : Int) := by omega
  rw [e0] at X
  refine wpAny_execs_cons (whileX (fun m vs nw => ∃ (q : Nat) (t te ts tc : Tok) (cur : List VE) (v6 : Option Value), m = ps.length - q ∧
      vs = [some (Value.ref d), some (Value.int q t), some (Value.int ps.length te), some (Value.int pos ts), some new.1, some (Value.int ((2 * q + 1 : Nat) : Int) tc), v6] ∧ nw = [(d, lst cur n)] ∧
      q < cur.length ∧ cur.length = ps.length ∧ (∀ p ∈ cur, IsT3B (hid [d] h) p.1 p.2) ∧ suGo ltm cur q = suGo ltm ps pos)
    (fun vs nw => ∃ (q : Nat) (t te ts tc : Tok) (cur : List VE) (v6 : Option Value),
      vs = [some (Value.ref d), some (Value.int q t), some (Value.int ps.length te), some (Value.int pos ts), some new.1, some (Value.int ((2 * q + 1 : Nat) : Int) tc), v6] ∧ nw = [(d, lst cur n)] ∧
      q < cur.length ∧ cur.length = ps.length ∧ (∀ p ∈ cur, IsT3B (hid [d] h) p.1 p.2) ∧ (cur, q) = suGo ltm ps pos) (ps.length - pos)
    ⟨pos, _, _, _, _, ps, none, rfl, rfl, rfl, hpl, rfl, hps', rfl⟩ X ?_ ?_)
  · clear X h₂ tk₂
    rintro m _ _ h₂ tk₂ P D ⟨q, t, te, ts, tc, cur, v6, rfl, rfl, rfl, hq, hcl, hcur, hsu⟩ X hnx hbk hrt
    refine wpAny_isTrue_Compare1 (ldv 5 X K rfl rfl (ldv 2 X K rfl rfl (ltI (wpAny_truthy_bool ?_))))
    by_cases hgt : 2 * q + 1 < ps.length
    · rw [if_pos (by simp; omega)]
      obtain ⟨l, hl⟩ : ∃ l, cur[2 * q + 1]? = some l := ⟨_, List.getElem?_eq_getElem (by omega)⟩
      refine wpAny_execs_cons (wpAny_Assign_Name (wpAny_BinOp (ldv 5 X K rfl rfl (cI (addI (stv 6 X K rfl rfl ?_))))))
      clear X; intro h₃ tk₃ X; dsimp only [List.set] at X
      have e1 : (((2 * q + 1 : Nat) : Int) + 1) = ((2 * q + 2 : Nat) : Int) := by omega
      rw [e1] at X
      refine cutS X (fun vs nw => ∃ (c : Nat) (ch : VE) (tc' : Tok) (v6' : Option Value), cur[c]? = some ch ∧ q < c ∧ suGo ltm cur q = suGo ltm (cur.set q ch) c ∧
        vs = [some (Value.ref d), some (Value.int q t), some (Value.int ps.length te), some (Value.int pos ts), some new.1, some (Value.int (c : Int) tc'), v6'] ∧ nw = [(d, lst cur n)]) ?_ ?_
      · intro RR hR
        refine wpAny_If (wpAny_isTrue_BoolOp (wpAny_allTrue_And_cons (wpAny_isTrue_Compare1 (ldv 6 X K rfl rfl (ldv 2 X K rfl rfl (ltI (wpAny_truthy_bool ?_)))))))
        by_cases hr2 : 2 * q + 2 < ps.length
        · rw [if_pos (by simp; omega)]
          obtain ⟨r, hr⟩ : ∃ r, cur[2 * q + 2]? = some r := ⟨_, List.getElem?_eq_getElem (by omega)⟩
          refine wpAny_allTrue_And_cons (wpAny_isTrue_Not (wpAny_isTrue_Compare1 ?_))
          refine (Subscript_ (ldv 0 X K rfl rfl (ldv 5 X K rfl rfl (subL (x := l.1) (X.get (j := 0) rfl) (by omega) (by simp; omega) (by rw [Int.toNat_natCast, List.getElem?_map, hl]; rfl) ?_))))
          refine (Subscript_ (ldv 0 X K rfl rfl (ldv 6 X K rfl rfl (subL (x := r.1) (X.get (j := 0) rfl) (by omega) (by simp; omega) (by rw [Int.toNat_natCast, List.getElem?_map, hr]; rfl) ?_))))
          refine ltT (e1 := l.2) (e2 := r.2) ((hcur l (List.mem_of_getElem? hl)).hol X.keep) ((hcur r (List.mem_of_getElem? hr)).hol X.keep) R' (wpAny_truthy_bool ?_)
          cases hlt : lt3 l.2 r.2 with
          | true =>
            rw [if_neg (by simp)]
            exact wpAny_execs_nil (hR _ _ _ _ ⟨2 * q + 1, l, _, _, hl, by omega, suGo_left hl hr hlt, rfl, rfl⟩ X)
          | false =>
            rw [if_pos (by simp)]
            refine wpAny_allTrue_And_nil ?_
            rw [if_pos rfl]
            refine wpAny_execs_cons (wpAny_Assign_Name (ldv 6 X K rfl rfl (stv 5 X K rfl rfl ?_)))
            clear X; intro h₄ tk₄ X; dsimp only [List.set] at X
            exact wpAny_execs_nil (hR _ _ _ _ ⟨2 * q + 2, r, _, _, hr, by omega, suGo_right hl hr hlt, rfl, rfl⟩ X)
        · rw [if_neg (by simp; omega)]
          rw [if_neg (by simp)]
          exact wpAny_execs_nil (hR _ _ _ _ ⟨2 * q + 1, l, _, _, hl, by omega, suGo_one hl (List.getElem?_eq_none (by omega)), rfl, rfl⟩ X)
      · clear X h₃
        rintro _ _ h₃ tk₄ ⟨c, ch, tc', v6', hc, hqc, hsc, rfl, rfl⟩ X
        have hcl' : c < cur.length := (List.getElem?_eq_some_iff.mp hc).1
        refine wpAny_execs_cons (wpAny_Assign_Subscript (Subscript_ (ldv 0 X K rfl rfl (ldv 5 X K rfl rfl (subL (x := ch.1) (X.get (j := 0) rfl) (by omega) (by simp; omega) (by rw [Int.toNat_natCast, List.getElem?_map, hc]; rfl)
          (ldv 0 X K rfl rfl (ldv 1 X K rfl rfl (setL 0 X rfl (by omega) (by simp; omega) (by simp; omega) ?_))))))))
        clear X; intro h₅ tk₅ X; dsimp only [List.set] at X
        rw [Int.toNat_natCast, ← List.map_set] at X
        refine wpAny_execs_cons (wpAny_Assign_Name (ldv 5 X K rfl rfl (stv 1 X K rfl rfl ?_)))
        clear X; intro h₆ tk₆ X; dsimp only [List.set] at X
        refine wpAny_execs_cons (wpAny_Assign_Name (wpAny_BinOp (wpAny_BinOp (cI (ldv 1 X K rfl rfl (mulI (IntMulOk.of_left (by decide)) (cI (addI (stv 5 X K rfl rfl ?_)))))))))
        clear X; intro h₇ tk₇ X; dsimp only [List.set] at X
        have e2 : (2 * (c : Int) + 1) = ((2 * c + 1 : Nat) : Int) := by omega
        rw [e2] at X
        refine wpAny_execs_nil (hnx (ps.length - c) _ _ _ _ (by omega) ⟨c, _, _, _, _, cur.set q ch, _, rfl, rfl, rfl, ?_, ?_, ?_, ?_⟩ X).1
        · rw [List.length_set]; omega
        · rw [List.length_set]; exact hcl
        · intro p hp
          rcases List.mem_or_eq_of_mem_set hp with hp | rfl
          · exact hcur p hp
          · exact hcur _ (List.mem_of_getElem? hc)
        · rw [← hsu, hsc]
    · rw [if_neg (by simp; omega)]
      exact (hbk _ _ _ _ ⟨q, t, te, ts, tc, cur, _, rfl, rfl, hq, hcl, hcur, by rw [← hsu, suGo_stop (by omega)]⟩ X).2
  · clear X h₂ tk₂
    rintro _ _ h₂ tk₂ ⟨q, t, te, ts, tc, cur, v6, rfl, rfl, hq, hcl, hcur, hsu⟩ X
    refine wpAny_execs_cons (wpAny_Assign_Subscript (ldv 4 X K rfl rfl (ldv 0 X K rfl rfl (ldv 1 X K rfl rfl (setL 0 X rfl (by omega) (by simp; omega) (by simp; omega) ?_)))))
    clear X; intro h₅ tk₅ X; dsimp only [List.set] at X
    rw [Int.toNat_natCast, ← List.map_set] at X
    have hcur' : ∀ p ∈ cur.set q new, IsT3B (hid [d] h) p.1 p.2 := by
      intro p hp
      rcases List.mem_or_eq_of_mem_set hp with hp | rfl
      · exact hcur p hp
      · exact hps' _ (List.mem_of_getElem? hnew)
    refine wpAny_execs_cons (exprS K (fcall3 X G' K 0 rfl rfl (ldv 0 X K rfl rfl (ldv 3 X K rfl rfl (ldv 1 X K rfl rfl ⟨(X.gd G').k, use_call (siftdown_spec G' X.keep (by simp [hid]) (R'.le (by omega)) (X.get (j := 0) rfl)
      (fun p hp => (hcur' p hp).hol X.keep) (new := new) (by simp [hq]) (by simp; omega)) ?_⟩)))))
    rintro v h₆ tk₆ c ⟨rfl, hp⟩
    refine ⟨rfl, wpAny_execs_nil ⟨h₆, tk₆, rfl, ?_, rfl, ?_⟩⟩
    · exact hid_hol (X.chg1 (j := 0) rfl c hp).keep
    · rw [hp]
      have e1 : (suGo ltm ps pos).1 = cur := by rw [← hsu]
      have e2 : (suGo ltm ps pos).2 = q := by rw [← hsu]
      rw [su, e1, e2]

set_option maxHeartbeats 2000000 in
theorem siftupM_spec {w : World} {A : Around} {s₀ : Shared} {h : Heap} {tk : Nat} {B : Base} {d : Addr} {n : Nat} {ps : List VE} {pos : Nat} {t2 : Tok} {new : VE}
    (G : GdB w B) (hB : Hol B h) (hd : B d = none) (R : Rm A 6) (ho : h.get? d = some (lst ps n)) (hps : ∀ p ∈ ps, IsT3 h p.1 p.2) (hnew : ps[pos]? = some new) (hlen : ps.length < 1000) :
    codeAny (Mo w) A (.call (.ref 182) ⟨[.ref d, .int pos t2], []⟩) (RetTo s₀ h [d] (fun v h' => v = .none ∧ h'.get? d = some (lst (su ltM new ps pos) n))) (St s₀ h tk) := by
  refine call_fn (k := 5) (D := [d]) (ns := [Str.ofString "heap", Str.ofString "pos", Str.ofString "endpos", Str.ofString "startpos", Str.ofString "newitem", Str.ofString "childpos", Str.ofString "rightpos"])
    (gl := [(Str.ofString "_siftdown_max", .ref 175)]) (bl := [(Str.ofString "len", .builtin "len")])
    (vals := [.ref d, .int pos t2]) (nw := [(d, lst ps n)]) G hB (by simpa using hd) rfl (by simpa using ho) (by simp) R rfl (by rfl) rfl (BindsTo.of_eq rfl) ?_
  intro L env A' h₁ tk₁ K R' G' X
  have hps' : ∀ p ∈ ps, IsT3B (hid [d] h) p.1 p.2 := fun p hp => t3_hid (hps p hp) ho
  dsimp only [initV] at X
  have hpl : pos < ps.length := (List.getElem?_eq_some_iff.mp hnew).1
  refine wpAny_execs_cons (wpAny_Assign_Name (bcall1 X G' K 0 rfl (ldv 0 X K rfl rfl (lenL (X.get (j := 0) rfl) (by simp; omega) (fun tk => stv 2 X K rfl rfl ?_)))))
  clear X; intro h₂ tk₂ X; dsimp only [List.set] at X; rw [List.length_map] at X
  refine wpAny_execs_cons (wpAny_Assign_Name (ldv 1 X K rfl rfl (stv 3 X K rfl rfl ?_)))
  clear X; intro h₂ tk₂ X; dsimp only [List.set] at X
  refine wpAny_execs_cons (wpAny_Assign_Name (Subscript_ (ldv 0 X K rfl rfl (ldv 1 X K rfl rfl (subL (x := new.1) (X.get (j := 0) rfl) (by omega) (by simp; omega) (by simp [hnew]) (stv 4 X K rfl rfl ?_))))))
  clear X; intro h₂ tk₂ X; dsimp only [List.set] at X
  refine wpAny_execs_cons (wpAny_Assign_Name (wpAny_BinOp (wpAny_BinOp (cI (ldv 1 X K rfl rfl (mulI (IntMulOk.of_left (by decide)) (cI (addI (stv 5 X K rfl rfl ?_)))))))))
  clear X; intro h₂ tk₂ X; dsimp only [List.set] at X
  have e0 : (2 * (pos : Int) + 1) = ((2 * pos + 1 : Nat) : Int) := by omega
  rw [e0] at X
  refine wpAny_execs_cons (whileX (fun m vs nw => ∃ (q : Nat) (t te ts tc : Tok) (cur : List VE) (v6 : Option Value), m = ps.length - q ∧
      vs = [some (Value.ref d), some (Value.int q t), some (Value.int ps.length te), some (Value.int pos ts), some new.1, some (Value.int ((2 * q + 1 : Nat) : Int) tc), v6] ∧ nw = [(d, lst cur n)] ∧
      q < cur.length ∧ cur.length = ps.length ∧ (∀ p ∈ cur, IsT3B (hid [d] h) p.1 p.2) ∧ suGo ltM cur q = suGo ltM ps pos)
    (fun vs nw => ∃ (q : Nat) (t te ts tc : Tok) (cur : List VE) (v6 : Option Value),
      vs = [some (Value.ref d), some (Value.int q t), some (Value.int ps.length te), some (Value.int pos ts), some new.1, some (Value.int ((2 * q + 1 : Nat) : Int) tc), v6] ∧ nw = [(d, lst cur n)] ∧
      q < cur.length ∧ cur.length = ps.length ∧ (∀ p ∈ cur, IsT3B (hid [d] h) p.1 p.2) ∧ (cur, q) = suGo ltM ps pos) (ps.length - pos)
    ⟨pos, _, _, _, _, ps, none, rfl, rfl, rfl, hpl, rfl, hps', rfl⟩ X ?_ ?_)
  · clear X h₂ tk₂
    rintro m _ _ h₂ tk₂ P D ⟨q, t, te, ts, tc, cur, v6, rfl, rfl, rfl, hq, hcl, hcur, hsu⟩ X hnx hbk hrt
    refine wpAny_isTrue_Compare1 (ldv 5 X K rfl rfl (ldv 2 X K rfl rfl (ltI (wpAny_truthy_bool ?_))))
    by_cases hgt : 2 * q + 1 < ps.length
    · rw [if_pos (by simp; omega)]
      obtain ⟨l, hl⟩ : ∃ l, cur[2 * q + 1]? = some l := ⟨_, List.getElem?_eq_getElem (by omega)⟩
      refine wpAny_execs_cons (wpAny_Assign_Name (wpAny_BinOp (ldv 5 X K rfl rfl (cI (addI (stv 6 X K rfl rfl ?_))))))
      clear X; intro h₃ tk₃ X; dsimp only [List.set] at X
      have e1 : (((2 * q + 1 : Nat) : Int) + 1) = ((2 * q + 2 : Nat) : Int) := by omega
      rw [e1] at X
      refine cutS X (fun vs nw => ∃ (c : Nat) (ch : VE) (tc' : Tok) (v6' : Option Value), cur[c]? = some ch ∧ q < c ∧ suGo ltM cur q = suGo ltM (cur.set q ch) c ∧
        vs = [some (Value.ref d), some (Value.int q t), some (Value.int ps.length te), some (Value.int pos ts), some new.1, some (Value.int (c : Int) tc'), v6'] ∧ nw = [(d, lst cur n)]) ?_ ?_
      · intro RR hR
        refine wpAny_If (wpAny_isTrue_BoolOp (wpAny_allTrue_And_cons (wpAny_isTrue_Compare1 (ldv 6 X K rfl rfl (ldv 2 X K rfl rfl (ltI (wpAny_truthy_bool ?_)))))))
        by_cases hr2 : 2 * q + 2 < ps.length
        · rw [if_pos (by simp; omega)]
          obtain ⟨r, hr⟩ : ∃ r, cur[2 * q + 2]? = some r := ⟨_, List.getElem?_eq_getElem (by omega)⟩
          refine wpAny_allTrue_And_cons (wpAny_isTrue_Not (wpAny_isTrue_Compare1 ?_))
          refine (Subscript_ (ldv 0 X K rfl rfl (ldv 6 X K rfl rfl (subL (x := r.1) (X.get (j := 0) rfl) (by omega) (by simp; omega) (by rw [Int.toNat_natCast, List.getElem?_map, hr]; rfl) ?_))))
          refine (Subscript_ (ldv 0 X K rfl rfl (ldv 5 X K rfl rfl (subL (x := l.1) (X.get (j := 0) rfl) (by omega) (by simp; omega) (by rw [Int.toNat_natCast, List.getElem?_map, hl]; rfl) ?_))))
          refine ltT (e1 := r.2) (e2 := l.2) ((hcur r (List.mem_of_getElem? hr)).hol X.keep) ((hcur l (List.mem_of_getElem? hl)).hol X.keep) R' (wpAny_truthy_bool ?_)
          cases hlt : lt3 r.2 l.2 with
          | true =>
            rw [if_neg (by simp)]
            exact wpAny_execs_nil (hR _ _ _ _ ⟨2 * q + 1, l, _, _, hl, by omega, suGo_left hl hr hlt, rfl, rfl⟩ X)
          | false =>
            rw [if_pos (by simp)]
            refine wpAny_allTrue_And_nil ?_
            rw [if_pos rfl]
            refine wpAny_execs_cons (wpAny_Assign_Name (ldv 6 X K rfl rfl (stv 5 X K rfl rfl ?_)))
            clear X; intro h₄ tk₄ X; dsimp only [List.set] at X
            exact wpAny_execs_nil (hR _ _ _ _ ⟨2 * q + 2, r, _, _, hr, by omega, suGo_right hl hr hlt, rfl, rfl⟩ X)
        · rw [if_neg (by simp; omega)]
          rw [if_neg (by simp)]
          exact wpAny_execs_nil (hR _ _ _ _ ⟨2 * q + 1, l, _, _, hl, by omega, suGo_one hl (List.getElem?_eq_none (by omega)), rfl, rfl⟩ X)
      · clear X h₃
        rintro _ _ h₃ tk₄ ⟨c, ch, tc', v6', hc, hqc, hsc, rfl, rfl⟩ X
        have hcl' : c < cur.length := (List.getElem?_eq_some_iff.mp hc).1
        refine wpAny_execs_cons (wpAny_Assign_Subscript (Subscript_ (ldv 0 X K rfl rfl (ldv 5 X K rfl rfl (subL (x := ch.1) (X.get (j := 0) rfl) (by omega) (by simp; omega) (by rw [Int.toNat_natCast, List.getElem?_map, hc]; rfl)
          (ldv 0 X K rfl rfl (ldv 1 X K rfl rfl (setL 0 X rfl (by omega) (by simp; omega) (by simp; omega) ?_))))))))
        clear X; intro h₅ tk₅ X; dsimp only [List.set] at X
        rw [Int.toNat_natCast, ← List.map_set] at X
        refine wpAny_execs_cons (wpAny_Assign_Name (ldv 5 X K rfl rfl (stv 1 X K rfl rfl ?_)))
        clear X; intro h₆ tk₆ X; dsimp only [List.set] at X
        refine wpAny_execs_cons (wpAny_Assign_Name (wpAny_BinOp (wpAny_BinOp (cI (ldv 1 X K rfl rfl (mulI (IntMulOk.of_left (by decide)) (cI (addI (stv 5 X K rfl rfl ?_)))))))))
        clear X; intro h₇ tk₇ X; dsimp only [List.set] at X
        have e2 : (2 * (c : Int) + 1) = ((2 * c + 1 : Nat) : Int) := by omega
        rw [e2] at X
        refine wpAny_execs_nil (hnx (ps.length - c) _ _ _ _ (by omega) ⟨c, _, _, _, _, cur.set q ch, _, rfl, rfl, rfl, ?_, ?_, ?_, ?_⟩ X).1
        · rw [List.length_set]; omega
        · rw [List.length_set]; exact hcl
        · intro p hp
          rcases List.mem_or_eq_of_mem_set hp with hp | rfl
          · exact hcur p hp
          · exact hcur _ (List.mem_of_getElem? hc)
        · rw [← hsu, hsc]
    · rw [if_neg (by simp; omega)]
      exact (hbk _ _ _ _ ⟨q, t, te, ts, tc, cur, _, rfl, rfl, hq, hcl, hcur, by rw [← hsu, suGo_stop (by omega)]⟩ X).2
  · clear X h₂ tk₂
    rintro _ _ h₂ tk₂ ⟨q, t, te, ts, tc, cur, v6, rfl, rfl, hq, hcl, hcur, hsu⟩ X
    refine wpAny_execs_cons (wpAny_Assign_Subscript (ldv 4 X K rfl rfl (ldv 0 X K rfl rfl (ldv 1 X K rfl rfl (setL 0 X rfl (by omega) (by simp; omega) (by simp; omega) ?_)))))
    clear X; intro h₅ tk₅ X; dsimp only [List.set] at X
    rw [Int.toNat_natCast, ← List.map_set] at X
    have hcur' : ∀ p ∈ cur.set q new, IsT3B (hid [d] h) p.1 p.2 := by
      intro p hp
      rcases List.mem_or_eq_of_mem_set hp with hp | rfl
      · exact hcur p hp
      · exact hps' _ (List.mem_of_getElem? hnew)
    refine wpAny_execs_cons (exprS K (fcall3 X G' K 0 rfl rfl (ldv 0 X K rfl rfl (ldv 3 X K rfl rfl (ldv 1 X K rfl rfl ⟨(X.gd G').k, use_call (siftdownM_spec G' X.keep (by simp [hid]) (R'.le (by omega)) (X.get (j := 0) rfl)
      (fun p hp => (hcur' p hp).hol X.keep) (new := new) (by simp [hq]) (by simp; omega)) ?_⟩)))))
    rintro v h₆ tk₆ c ⟨rfl, hp⟩
    refine ⟨rfl, wpAny_execs_nil ⟨h₆, tk₆, rfl, ?_, rfl, ?_⟩⟩
    · exact hid_hol (X.chg1 (j := 0) rfl c hp).keep
    · rw [hp]
      have e1 : (suGo ltM ps pos).1 = cur := by rw [← hsu]
      have e2 : (suGo ltM ps pos).2 = q := by rw [← hsu]
      rw [su, e1, e2]
end Mine
end
section
open PySem PySem.W PyProof.Rows PySem.Calls
set_option Elab.async false
set_option maxRecDepth 100000
namespace Mine

/-- a for over any walk, its target one name -/
theorem forW {w : World} {A : Around} {s₀ : Shared} {h : Heap} {tk : Nat} {B : Base} {L : Addr} {ns : List Str} {vs : List (Option Value)} {nw : List (Addr × Obj)} {env : Env} {gl bl : List (Str × Value)}
    {x : Str} {px : Pos} {body orelse : List Stmt} {Q : Flow → Shared → Prop} {I : Addr} {oI : Obj} {fp : List Addr} {n : Nat} {P : Nat → Value → Prop} {Sw : Nat → Heap → Prop}
    (k : Nat) (W : Walks PG w A I fp [I] n P Sw) (hob : ∀ i h, Sw i h → ∃ o, h.get? I = some o) (hfp : ∀ b ∈ fp, b = I ∨ ∃ o, B b = some o)
    (K : FK w env L ns gl bl) (X : Fx B L ns vs ((I, oI) :: nw) h) (hst : Sw 0 h) (hx : ns[k]? = some x)
    (Inv : Nat → List (Option Value) → List (Addr × Obj) → Prop) (J : List (Option Value) → List (Addr × Obj) → Prop) (hI : Inv 0 vs nw) (hk : ∀ i vs nw, Inv i vs nw → (vs[k]?).isSome = true)
    (turn : ∀ i v oI vs nw h tk (Pp : Flow → Shared → Prop), i < n → P i v → Inv i vs nw → Fx B L ns (vs.set k (some v)) ((I, oI) :: nw) h →
      (∀ vs' nw' h' tk', Inv (i + 1) vs' nw' → Fx B L ns vs' ((I, oI) :: nw') h' → Pp .next (St s₀ h' tk') ∧ Pp .cont (St s₀ h' tk')) →
      (∀ vs' nw' h' tk', J vs' nw' → Fx B L ns vs' ((I, oI) :: nw') h' → Pp .brk (St s₀ h' tk')) → (∀ v s, Q (.ret v) s → Pp (.ret v) s) →
      wpAny (Mo w) A (execs body env) Pp NE (St s₀ h tk))
    (fin : ∀ vs nw h tk, Inv n vs nw → Fx B L ns vs nw h → wpAny (Mo w) A (execs orelse env) Q NE (St s₀ h tk))
    (brk : ∀ vs nw h tk, J vs nw → Fx B L ns vs nw h → Q .next (St s₀ h tk)) :
    codeAny (Mo w) A (.forLoop (.Name x px) (.ref I) body orelse env) (fun r s' => match r with | .ok f => Q f s' | .error e => cameBackBy (Mo w) A env NE e s') (St s₀ h tk) := by
  refine codeAny_forLoop (fun m s => ∃ i vs nw oI h tk, m = n + 1 - i ∧ i ≤ n ∧ s = St s₀ h tk ∧ Inv i vs nw ∧ Fx B L ns vs ((I, oI) :: nw) h ∧ Sw i h) ?_ (n + 1) ⟨0, vs, nw, oI, h, tk, rfl, Nat.zero_le _, rfl, hI, X, hst⟩
  clear hI X hst
  rintro m _ ⟨i, vs, nw, oI, h, tk, rfl, hin, rfl, hI, X, hst⟩
  by_cases hlt : i < n
  · refine W.item i _ _ _ hlt hst fun v h' tk' hP hst' hkp => ?_
    obtain ⟨oI', hoI'⟩ := hob _ _ hst'
    have X' : Fx B L ns vs ((I, oI') :: nw) h' := X.chg1 (j := 0) rfl (fun a o e hn => hkp a o hn e) hoI'
    refine wpAny_assign_Name (stv k X' K hx (hk _ _ _ hI) ?_)
    intro h₂ tk₂ X₂
    have hst₂ : Sw (i + 1) h₂ := W.frame _ _ _ hst' fun b hb o e => by
      rcases hfp b hb with rfl | ⟨o', ho'⟩
      · rw [hoI'] at e; cases e
        exact X₂.get (j := 0) rfl
      · have := X'.keep _ _ ho'
        rw [this] at e; cases e
        exact X₂.keep _ _ ho'
    refine wpAny_mono (turn i v oI' vs nw h₂ tk₂ (fun f s₃ => match f with
          | .next | .cont => ∃ m, m < n + 1 - i ∧ ∃ i vs nw oI h tk, m = n + 1 - i ∧ i ≤ n ∧ s₃ = St s₀ h tk ∧ Inv i vs nw ∧ Fx B L ns vs ((I, oI) :: nw) h ∧ Sw i h
          | .brk => Q .next s₃
          | .ret v => Q (.ret v) s₃) hlt hP hI X₂ (fun vs' nw' h₃ tk₃ hI' X₃ => ?_) (fun vs' nw' h₃ tk₃ hJ X₃ => brk _ _ _ _ hJ X₃.drop) (fun _ _ q => q)) (fun f s₃ q => q) fun _ _ e => e.elim
    have hst₃ : Sw (i + 1) h₃ := W.frame _ _ _ hst₂ fun b hb o e => by
      rcases hfp b hb with rfl | ⟨o', ho'⟩
      · rw [X₂.get (j := 0) rfl] at e; cases e
        exact X₃.get (j := 0) rfl
      · have := X₂.keep _ _ ho'
        rw [this] at e; cases e
        exact X₃.keep _ _ ho'
    exact ⟨⟨n + 1 - (i + 1), by omega, i + 1, vs', nw', oI', h₃, tk₃, rfl, by omega, rfl, hI', X₃, hst₃⟩, ⟨n + 1 - (i + 1), by omega, i + 1, vs', nw', oI', h₃, tk₃, rfl, by omega, rfl, hI', X₃, hst₃⟩⟩
  · have hin' : i = n := by omega
    subst hin'
    refine W.done _ _ _ hst fun h' tk' hkp => ?_
    have X' : Fx B L ns vs nw h' := by
      obtain ⟨⟨m, hm, hv⟩, kp, hL, nws, nd⟩ := X
      have hI2 := nws (I, oI) (List.mem_cons_self)
      refine ⟨⟨m, ?_, hv⟩, fun a o e => hkp a o ?_ (kp a o e), hL, fun p hp => ?_, (List.nodup_cons.mp nd).2⟩
      · obtain ⟨oL, es, ep, q1, q2⟩ := hm
        exact ⟨oL, es, ep, hkp _ _ (fun q => hI2.2.2 (List.mem_singleton.mp q).symm) q1, q2⟩
      · intro q
        rw [List.mem_singleton.mp q, hI2.2.1] at e; cases e
      · have hp' := nws p (List.mem_cons_of_mem _ hp)
        refine ⟨hkp _ _ (fun q => ?_) hp'.1, hp'.2⟩
        exact (List.nodup_cons.mp nd).1 (List.mem_map.mpr ⟨p, hp, List.mem_singleton.mp q⟩)
    exact wpAny_mono (fin _ _ _ _ hI X') (fun _ _ q => q) fun _ _ e => e.elim

/-- a for over a list that does not change -/
theorem forL {w : World} {A : Around} {s₀ : Shared} {h : Heap} {tk : Nat} {B : Base} {L : Addr} {ns : List Str} {vs : List (Option Value)} {nw : List (Addr × Obj)} {env : Env} {gl bl : List (Str × Value)}
    {x : Str} {px pos : Pos} {iter : Expr} {body orelse : List Stmt} {Q : Flow → Shared → Prop} {l : Addr} {xs : List Value} {e n : Nat} (k : Nat)
    (Inv : Nat → List (Option Value) → List (Addr × Obj) → Prop) (J : List (Option Value) → List (Addr × Obj) → Prop)
    (R : Rm A e) (K : FK w env L ns gl bl) (X : Fx B L ns vs nw h) (hx : ns[k]? = some x)
    (hit : ∀ Q' : Value → Shared → Prop, Q' (.ref l) (St s₀ h tk) → wpAny (Mo w) A (eval iter env) Q' NE (St s₀ h tk))
    (hl : B l = some (listOf xs.toArray n))
    (hI : Inv 0 vs nw) (hk : ∀ i vs nw, Inv i vs nw → (vs[k]?).isSome = true)
    (turn : ∀ i v I oI vs nw h tk (Pp : Flow → Shared → Prop), xs[i]? = some v → Inv i vs nw → Fx B L ns (vs.set k (some v)) ((I, oI) :: nw) h →
      (∀ vs' nw' h' tk', Inv (i + 1) vs' nw' → Fx B L ns vs' ((I, oI) :: nw') h' → Pp .next (St s₀ h' tk') ∧ Pp .cont (St s₀ h' tk')) →
      (∀ vs' nw' h' tk', J vs' nw' → Fx B L ns vs' ((I, oI) :: nw') h' → Pp .brk (St s₀ h' tk')) → (∀ v s, Q (.ret v) s → Pp (.ret v) s) →
      wpAny (Mo w) A (execs body env) Pp NE (St s₀ h tk))
    (fin : ∀ vs nw h tk, Inv xs.length vs nw → Fx B L ns vs nw h → wpAny (Mo w) A (execs orelse env) Q NE (St s₀ h tk))
    (brk : ∀ vs nw h tk, J vs nw → Fx B L ns vs nw h → Q .next (St s₀ h tk))
    (hs : ∀ x, foldedSetIterable iter env x = pure x := by intro _; rfl) :
    wpAny (Mo w) A (exec (.For (.Name x px) iter body orelse pos) env) Q NE (St s₀ h tk) := by
  refine wpAny_For (hit _ ?_) hs
  have hl' : (St s₀ h tk).heap.IsList l xs.toArray := ⟨_, X.keep _ _ hl, rfl, n, rfl⟩
  refine wpAny_pyIter_list hl' ?_
  have hne : l ≠ h.objs.size := Nat.ne_of_lt (Heap.lt_size (X.keep _ _ hl))
  have W := Walks.list (prog := PG) (w := w) R.hh h.objs.size l hne xs.toArray
  rw [show xs.toArray.size = xs.length by simp] at W
  refine forW k W (fun i h q => by obtain ⟨⟨o, ho, _⟩, _⟩ := q; exact ⟨o, ho⟩) (fun b hb => ?_) K (X.push _ rfl) ⟨⟨_, Heap.get?_push_size _ rfl, rfl, rfl⟩, ⟨_, Heap.get?_push_of_some _ (X.keep _ _ hl), rfl, n, rfl⟩⟩ hx Inv J hI hk
    (fun i v oI vs nw h tk Pp hi hP => turn i v _ oI vs nw h tk Pp (by simpa using hP)) fin brk
  rcases List.mem_cons.mp hb with q | q
  · exact .inl q
  · exact .inr ⟨_, (List.mem_singleton.mp q) ▸ hl⟩

section
variable {w : World} {A : Around} {E : Value → Shared → Prop} {s₀ : Shared} {h : Heap} {tk : Nat} {B : Base} {L : Addr} {ns : List Str} {vs : List (Option Value)} {nw : List (Addr × Obj)}
  {env : Env} {gl bl : List (Str × Value)} {x : Str} {pos : Pos} {v : Value}
/-- a call of a type by its name, one argument -/
theorem tcall1 {e1 : Expr} {g : Str} {T : String} {p : Pos} {Q : Value → Shared → Prop} (X : Fx B L ns vs nw h) (G : GdB w B) (K : FK w env L ns gl bl) (i : Nat) (hg : bl[i]? = some (g, .type T))
    (hq : wpAny (Mo w) A (eval e1 env) (fun v1 s1 => wpAny (Mo w) A (call (.type T) [v1]) Q E s1) E (St s₀ h tk))
    (he : starEach [e1] env = [(false, eval e1 env)] := by rfl) : wpAny (Mo w) A (eval (.Call (.Name g p) [e1] [] pos) env) Q E (St s₀ h tk) := by
  refine wpAny_Call_NameR (ldb X G K i hg ?_)
  rw [he]
  exact PyProof.Rows.callWith_type rfl (Calls.evalArgs_plain (Calls.spliced_cons (wpAny_mono hq (fun _ _ q => Calls.spliced_nil q) fun _ _ e => e)))
abbrev rngO (n : Int) (t u v : Tok) : Obj := { cls := .type "range", dict := none, data := .fields #[.int 0 t, .int n u, .int 1 v], slots := #[] }
abbrev ritO (x l s : Int) : Obj := { cls := .type "range_iterator", dict := none, data := .fields #[rawInt x, rawInt l, rawInt s], slots := #[] }
theorem callRange {n : Int} {t : Tok} {Q : Value → Shared → Prop} (X : Fx B L ns vs nw h) (hq : ∀ r t' v h' tk', Fx B L ns vs ((r, rngO n t' t v) :: nw) h' → Q (.ref r) (St s₀ h' tk')) :
    wpAny (Mo w) A (call (.type "range") [.int n t]) Q E (St s₀ h tk) := call_range_1 (hq _ _ _ _ _ (X.push _ rfl))
end
section
variable {prog : Program} {w : World} {A : Around} {E : Value → Shared → Prop} {s : Shared}
theorem call_range_reversed {r : Addr} {n : Int} {t u v : Tok} {Q : Value → Shared → Prop} (hr : s.heap.get? r = some (rngO n t u v)) (h0 : 0 ≤ n) (h1 : n < 2 ^ 62)
    (h : Q (.ref s.heap.objs.size) { s with heap := s.heap.push (ritO (n - 1) n (-1)) }) : wpAny (model prog w) A (call (.builtin "range.__reversed__") [.ref r]) Q E s := by
  refine wpAny_call_entry PySem.F.slot_range_reversed ⟨_, hr, rfl⟩ PySem.F.entry_range_reversed ?_ (PySem.F.args_range_reversed_1 _)
  unfold Builtin.«range.__reversed__»
  refine wpAny_bind (wpAny_of_eq (a := Value.ref r) rfl ?_)
  refine wpAny_bind ?_
  unfold Builtin.Range.rangeFields
  refine wpAny_bind (wpAny_field hr rfl (x := .int 0 t) rfl (wpAny_bind (wpAny_of_eq (a := some 0) rfl ?_)))
  refine wpAny_bind (wpAny_field hr rfl (x := .int n u) rfl (wpAny_bind (wpAny_of_eq (a := some n) rfl ?_)))
  refine wpAny_bind (wpAny_field hr rfl (x := .int 1 v) rfl (wpAny_bind (wpAny_of_eq (a := some 1) rfl ?_)))
  refine wpAny_pure ?_
  have e : Builtin.Range.rangeSize 0 n 1 = n := by rw [rangeSize_one]; split <;> omega
  have f : ∀ x : Int, -(2 ^ 63) ≤ x → x < 2 ^ 63 → Builtin.Range.rangeFitsLong x = true := fun x a b => by
    unfold Builtin.Range.rangeFitsLong; simp only [Bool.and_eq_true, decide_eq_true_eq]; omega
  dsimp only
  rw [e, f 0 (by decide) (by decide), f n (by omega) (by omega), f 1 (by decide) (by decide), f (-1) (by decide) (by decide), f (0 - 1) (by decide) (by decide)]
  simp only [Bool.and_self, Bool.not_true, Bool.false_eq_true, if_false, if_true]
  have e2 : (0 : Int) + (n - 1) * 1 = n - 1 := by omega
  rw [e2]
  exact wpAny_bind (wpAny_newObj_type (wpAny_pure ⟨_, rfl, h⟩))

theorem sub_rit_reversed : isSubtype (.type "range_iterator") (.type "reversed") = pure false := by rw [isSubtype_type]; kernel_rfl
theorem code_reversed_rng {r : Addr} {n : Int} {t u v : Tok} {Q₁ : Value → Shared → Prop} (hr : s.heap.get? r = some (rngO n t u v)) (h0 : 0 ≤ n) (h1 : n < 2 ^ 62)
    (h : Q₁ (.ref s.heap.objs.size) { s with heap := s.heap.push (ritO (n - 1) n (-1)) }) :
    codeAny (model prog w) A (.call (.builtin "reversed.__new__") ⟨[.type "reversed", .ref r], []⟩) (wants Q₁ E) s := by
  have hT : s.TypeIs (.ref r) "range" := ⟨_, hr, rfl⟩
  refine codeAny_of_tree ?_
  show wpAny _ A.in1 (do checkBuiltinCall "reversed.__new__" ⟨[.type "reversed", .ref r], []⟩; again (.builtin "reversed.__new__" ⟨[.type "reversed", .ref r], []⟩)) _ _ s
  refine wpAny_bind (wpAny_of_eq (F.newCall_reversed_1 _) (wpAny_pure ⟨plainId_quiet F.plain_reversed_new _, codeAny_builtin F.entry_reversed_new ?_⟩))
  rw [Around.under_plainId F.plain_reversed_new _]
  unfold Builtin.«reversed.__new__»
  refine wpAny_bind (wpAny_of_eq (newClass_reversed _) ?_)
  refine wpAny_bind (wpAny_of_eq (a := ()) (by rfl) ?_)
  refine wpAny_bind (wpAny_of_eq (a := ()) (by rfl) ?_)
  dsimp only
  refine wpAny_bind (wpAny_specialOf hT PySem.F.slot_range_reversed.lookup ?_)
  dsimp only
  refine wpAny_bind (wpAny_of_eq (PySem.F.slot_range_reversed.bind _) ?_)
  dsimp only
  rw [if_neg (show ¬ ((Value.builtin "range.__reversed__" == Value.none) = true) from Bool.false_ne_true)]
  refine wpAny_bind (wpAny_rule ?_)
  refine wpAny_bind (m := runValue (.call (.builtin "range.__reversed__") ⟨[.ref r], []⟩)) (show wpAny _ _ (call (.builtin "range.__reversed__") [.ref r]) _ _ _ from call_range_reversed hr h0 h1 ?_)
  exact wpAny_pure h
theorem call_reversed_rng {r : Addr} {n : Int} {t u v : Tok} {Q : Value → Shared → Prop} (hr : s.heap.get? r = some (rngO n t u v)) (h0 : 0 ≤ n) (h1 : n < 2 ^ 62)
    (h : Q (.ref s.heap.objs.size) { s with heap := s.heap.push (ritO (n - 1) n (-1)) }) : wpAny (model prog w) A (call (.type "reversed") [.ref r]) Q E s := by
  refine callType_other (U := "range_iterator") (Q₁ := fun obj s₁ => obj = .ref s.heap.objs.size ∧ s₁ = { s with heap := s.heap.push (ritO (n - 1) n (-1)) }) (by decide +kernel) F.create_reversed ⟨_, _, F.mro_reversed⟩ F.made_reversed sub_rit_reversed (F.typeCall_reversed_1 _) (code_reversed_rng hr h0 h1 ⟨rfl, rfl⟩) ?_
  rintro obj s₁ ⟨rfl, rfl⟩
  exact ⟨⟨_, Heap.get?_push_size _ rfl, rfl⟩, h⟩
end
end Mine
end
section
open PySem PySem.W PyProof.Rows PySem.Calls
set_option Elab.async false
set_option maxRecDepth 100000
namespace Mine

set_option maxHeartbeats 2000000 in
theorem heapify_spec {w : World} {A : Around} {s₀ : Shared} {h : Heap} {tk : Nat} {B : Base} {d : Addr} {n : Nat} {ps : List VE}
    (G : GdB w B) (hB : Hol B h) (hd : B d = none) (R : Rm A 8) (ho : h.get? d = some (lst ps n)) (hps : ∀ p ∈ ps, IsT3 h p.1 p.2) (hlen : ps.length < 1000) :
    codeAny (Mo w) A (.call (.ref 140) ⟨[.ref d], []⟩) (RetTo s₀ h [d] (fun v h' => v = .none ∧ h'.get? d = some (lst (heapG ltm ps (ps.length / 2)) n))) (St s₀ h tk) := by
  refine call_fn (k := 7) (D := [d]) (ns := [Str.ofString "x", Str.ofString "n", Str.ofString "i"])
    (gl := [(Str.ofString "_siftup", .ref 168)]) (bl := [(Str.ofString "len", .builtin "len"), (Str.ofString "range", .type "range"), (Str.ofString "reversed", .type "reversed")])
    (vals := [.ref d]) (nw := [(d, lst ps n)]) G hB (by simpa using hd) rfl (by simpa using ho) (by simp) R rfl (by rfl) rfl (BindsTo.of_eq rfl) ?_
  intro L env A' h₁ tk₁ K R' G' X
  have hps' : ∀ p ∈ ps, IsT3B (hid [d] h) p.1 p.2 := fun p hp => t3_hid (hps p hp) ho
  dsimp only [initV] at X
  refine wpAny_execs_cons (wpAny_Assign_Name (bcall1 X G' K 0 rfl (ldv 0 X K rfl rfl (lenL (X.get (j := 0) rfl) (by simp; omega) (fun tk => stv 1 X K rfl rfl ?_)))))
  clear X; intro h₂ tk₂ X; dsimp only [List.set] at X; rw [List.length_map] at X
  refine wpAny_execs_cons (wpAny_For (tcall1 X G' K 2 rfl (tcall1 X G' K 1 rfl (wpAny_BinOp (ldv 1 X K rfl rfl (cI (fdivI (by decide) (by decide) (callRange X ?_))))))))
  clear X; intro r t' v h₃ tk₃ X
  have ed : ((ps.length : Int) / 2) = ((ps.length / 2 : Nat) : Int) := by omega
  rw [ed] at X
  refine call_reversed_rng (s := St s₀ h₃ tk₃) (X.get (j := 0) rfl) (by omega) (by omega) ?_
  have X' := (X.push (ritO (((ps.length / 2 : Nat) : Int) - 1) ((ps.length / 2 : Nat) : Int) (-1)) rfl)
  have hit := X'.get (j := 0) rfl
  refine wpAny_pyIter_rangeiter (s := St s₀ (h₃.push _) tk₃) hit ?_
  have W := Walks.range (prog := PG) (w := w) R'.hh h₃.objs.size (((ps.length / 2 : Nat) : Int) - 1) (-1) (ps.length / 2)
  refine forW 2 W (fun i h q => ⟨_, q⟩) (fun b hb => .inl (List.mem_singleton.mp hb)) K X' (by simpa using hit) rfl
    (fun i vs nw => ∃ (tn : Tok) (v2 : Option Value) (cur : List VE) (rr : Addr × Obj), vs = [some (Value.ref d), some (Value.int ps.length tn), v2] ∧ nw = [rr, (d, lst cur n)] ∧ cur.length = ps.length ∧ i ≤ ps.length / 2 ∧
      (∀ p ∈ cur, IsT3B (hid [d] h) p.1 p.2) ∧ heapG ltm cur (ps.length / 2 - i) = heapG ltm ps (ps.length / 2)) (fun _ _ => False)
    ⟨_, _, ps, _, rfl, rfl, rfl, Nat.zero_le _, hps', rfl⟩ (by rintro i _ _ ⟨_, _, _, _, rfl, _⟩; rfl) ?_ ?_ (fun _ _ _ _ q => q.elim)
  · clear X X' hit
    rintro i _ oI _ _ h₄ tk₄ Pp hi ⟨t, rfl⟩ ⟨tn, v2, cur, rr, rfl, rfl, hcl, hile, hcur, hg⟩ X hnx hbk hrt
    dsimp only [List.set] at X
    have ei : ((ps.length / 2 : Nat) : Int) - 1 + (i : Int) * (-1) = ((ps.length / 2 - i - 1 : Nat) : Int) := by omega
    rw [ei] at X
    obtain ⟨new, hnew⟩ : ∃ l, cur[ps.length / 2 - i - 1]? = some l := ⟨_, List.getElem?_eq_getElem (by omega)⟩
    refine wpAny_execs_cons (exprS K (fcall2 X G' K 0 rfl rfl (ldv 0 X K rfl rfl (ldv 2 X K rfl rfl ⟨(X.gd G').k, use_call (siftup_spec G' X.keep (by simp [hid]) (R'.le (by omega)) (X.get (j := 2) rfl)
      (fun p hp => (hcur p hp).hol X.keep) (new := new) hnew (by omega)) ?_⟩))))
    rintro v h₅ tk₅ c ⟨rfl, hp⟩
    have X₂ := X.chg1 (j := 2) rfl c hp
    dsimp only [List.set] at X₂
    refine ⟨rfl, wpAny_execs_nil (hnx _ _ _ _ ⟨tn, _, su ltm new cur (ps.length / 2 - i - 1), rr, rfl, rfl, ?_, by omega, ?_, ?_⟩ X₂).1⟩
    · rw [su_length]; exact hcl
    · intro p hp
      rcases su_mem _ _ _ _ hp with q | rfl
      · exact hcur p q
      · exact hcur _ (List.mem_of_getElem? hnew)
    · rw [← hg]
      have e1 : ps.length / 2 - i = (ps.length / 2 - i - 1) + 1 := by omega
      have e2 : ps.length / 2 - (i + 1) = ps.length / 2 - i - 1 := by omega
      rw [e2, e1, heapG_succ hnew]
      simp
  · clear X X' hit
    rintro _ _ h₄ tk₄ ⟨tn, v2, cur, rr, rfl, rfl, hcl, hile, hcur, hg⟩ X
    refine wpAny_execs_nil (wpAny_execs_nil ⟨h₄, tk₄, rfl, hid_hol X.keep, rfl, ?_⟩)
    rw [X.get (j := 1) rfl]
    rw [Nat.sub_self] at hg
    rw [← hg]; rfl

set_option maxHeartbeats 2000000 in
theorem heappop_spec {w : World} {A : Around} {s₀ : Shared} {h : Heap} {tk : Nat} {B : Base} {d : Addr} {n : Nat} {ps : List VE} {last : VE}
    (G : GdB w B) (hB : Hol B h) (hd : B d = none) (R : Rm A 8) (ho : h.get? d = some (lst (ps ++ [last]) n)) (hps : ∀ p ∈ ps ++ [last], IsT3 h p.1 p.2) (hlen : ps.length < 900) :
    codeAny (Mo w) A (.call (.ref 133) ⟨[.ref d], []⟩) (RetTo s₀ h [d] (fun v h' => v = (hpop ltm ps last).1.1 ∧ ∃ n', h'.get? d = some (lst (hpop ltm ps last).2 n'))) (St s₀ h tk) := by
  refine call_fn (k := 7) (D := [d]) (ns := [Str.ofString "heap", Str.ofString "lastelt", Str.ofString "returnitem"])
    (gl := [(Str.ofString "_siftup", .ref 168)]) (bl := [])
    (vals := [.ref d]) (nw := [(d, lst (ps ++ [last]) n)]) G hB (by simpa using hd) rfl (by simpa using ho) (by simp) R rfl (by rfl) rfl (BindsTo.of_eq rfl) ?_
  intro L env A' h₁ tk₁ K R' G' X
  have hps' : ∀ p ∈ ps ++ [last], IsT3B (hid [d] h) p.1 p.2 := fun p hp => t3_hid (hps p hp) ho
  dsimp only [initV] at X
  have esz : sizeLine = 16777216 := rfl
  rw [show lst (ps ++ [last]) n = listOf (ps.map (·.1) ++ [last.1]).toArray n by simp [lst]] at X
  refine wpAny_execs_cons (wpAny_Assign_Name (mcall0 PySem.F.slot_list_pop PySem.F.type_list_pop (ldv 0 X K rfl rfl ⟨_, _, _, rfl, X.get (j := 0) rfl, popL 0 X rfl (by simp; omega) ?_⟩)))
  clear X; intro h₂ tk₂ X; dsimp only [List.set] at X
  refine stv 1 X K rfl rfl ?_
  clear X; intro h₂ tk₂ X; dsimp only [List.set] at X
  refine wpAny_execs_cons (wpAny_If (wpAny_isTrue_value (ldv 0 X K rfl rfl (truthyL (X.get (j := 0) rfl) (by simp; omega) ?_))))
  intro tk₃
  cases ps with
  | nil =>
    rw [if_neg (by simp)]
    refine wpAny_execs_nil (wpAny_execs_cons (wpAny_Return_some (ldv 1 X K rfl rfl ⟨h₂, tk₃, rfl, hid_hol X.keep, rfl, _, X.get (j := 0) rfl⟩)))
  | cons p0 rest =>
    rw [if_pos (by simp)]
    refine wpAny_execs_cons (wpAny_Assign_Name (Subscript_ (ldv 0 X K rfl rfl (cI (subL (x := p0.1) (X.get (j := 0) rfl) (by decide) (by simp at hlen ⊢; omega) (by simp) (stv 2 X K rfl rfl ?_))))))
    clear X; intro h₂ tk₂ X; dsimp only [List.set] at X
    refine wpAny_execs_cons (wpAny_Assign_Subscript (ldv 1 X K rfl rfl (ldv 0 X K rfl rfl (cI (setL 0 X rfl (by decide) (by simp) (by simp at hlen ⊢; omega) ?_)))))
    clear X; intro h₂ tk₂ X; dsimp only [List.set] at X
    have e0 : (List.map (fun x : VE => x.1) (p0 :: rest)).set (0 : Int).toNat last.1 = List.map (fun x : VE => x.1) (last :: rest) := rfl
    rw [e0] at X
    refine wpAny_execs_cons (exprS K (fcall2 X G' K 0 rfl rfl (ldv 0 X K rfl rfl (cI ⟨(X.gd G').k, use_call (siftup_spec (pos := 0) G' X.keep (by simp [hid]) (R'.le (by omega)) (X.get (j := 0) rfl)
      (fun p hp => (hps' p (by simp at hp ⊢; rcases hp with rfl | hp <;> simp [*])).hol X.keep) (new := last) rfl (by simp at hlen ⊢; omega)) ?_⟩))))
    rintro v h₅ tk₅ c ⟨rfl, hp⟩
    have X₂ := X.chg1 (j := 0) rfl c hp
    dsimp only [List.set] at X₂
    exact ⟨rfl, wpAny_execs_cons (wpAny_Return_some (ldv 2 X₂ K rfl rfl ⟨h₅, tk₅, rfl, hid_hol X₂.keep, rfl, _, hp⟩))⟩

set_option maxHeartbeats 2000000 in
theorem heapifyM_spec {w : World} {A : Around} {s₀ : Shared} {h : Heap} {tk : Nat} {B : Base} {d : Addr} {n : Nat} {ps : List VE}
    (G : GdB w B) (hB : Hol B h) (hd : B d = none) (R : Rm A 8) (ho : h.get? d = some (lst ps n)) (hps : ∀ p ∈ ps, IsT3 h p.1 p.2) (hlen : ps.length < 1000) :
    codeAny (Mo w) A (.call (.ref 154) ⟨[.ref d], []⟩) (RetTo s₀ h [d] (fun v h' => v = .none ∧ h'.get? d = some (lst (heapG ltM ps (ps.length / 2)) n))) (St s₀ h tk) := by
  refine call_fn (k := 7) (D := [d]) (ns := [Str.ofString "x", Str.ofString "n", Str.ofString "i"])
    (gl := [(Str.ofString "_siftup_max", .ref 182)]) (bl := [(Str.ofString "len", .builtin "len"), (Str.ofString "range", .type "range"), (Str.ofString "reversed", .type "reversed")])
    (vals := [.ref d]) (nw := [(d, lst ps n)]) G hB (by simpa using hd) rfl (by simpa using ho) (by simp) R rfl (by rfl) rfl (BindsTo.of_eq rfl) ?_
  intro L env A' h₁ tk₁ K R' G' X
  have hps' : ∀ p ∈ ps, IsT3B (hid [d] h) p.1 p.2 := fun p hp => t3_hid (hps p hp) ho
  dsimp only [initV] at X
  refine wpAny_execs_cons (wpAny_Assign_Name (bcall1 X G' K 0 rfl (ldv 0 X K rfl rfl (lenL (X.get (j := 0) rfl) (by simp; omega) (fun tk => stv 1 X K rfl rfl ?_)))))
  clear X; intro h₂ tk₂ X; dsimp only [List.set] at X; rw [List.length_map] at X
  refine wpAny_execs_cons (wpAny_For (tcall1 X G' K 2 rfl (tcall1 X G' K 1 rfl (wpAny_BinOp (ldv 1 X K rfl rfl (cI (fdivI (by decide) (by decide) (callRange X ?_))))))))
  clear X; intro r t' v h₃ tk₃ X
  have ed : ((ps.length : Int) / 2) = ((ps.length / 2 : Nat) : Int) := by omega
  rw [ed] at X
  refine call_reversed_rng (s := St s₀ h₃ tk₃) (X.get (j := 0) rfl) (by omega) (by omega) ?_
  have X' := (X.push (ritO (((ps.length / 2 : Nat) : Int) - 1) ((ps.length / 2 : Nat) : Int) (-1)) rfl)
  have hit := X'.get (j := 0) rfl
  refine wpAny_pyIter_rangeiter (s := St s₀ (h₃.push _) tk₃) hit ?_
  have W := Walks.range (prog := PG) (w := w) R'.hh h₃.objs.size (((ps.length / 2 : Nat) : Int) - 1) (-1) (ps.length / 2)
  refine forW 2 W (fun i h q => ⟨_, q⟩) (fun b hb => .inl (List.mem_singleton.mp hb)) K X' (by simpa using hit) rfl
    (fun i vs nw => ∃ (tn : Tok) (v2 : Option Value) (cur : List VE) (rr : Addr × Obj), vs = [some (Value.ref d), some (Value.int ps.length tn), v2] ∧ nw = [rr, (d, lst cur n)] ∧ cur.length = ps.length ∧ i ≤ ps.length / 2 ∧
      (∀ p ∈ cur, IsT3B (hid [d] h) p.1 p.2) ∧ heapG ltM cur (ps.length / 2 - i) = heapG ltM ps (ps.length / 2)) (fun _ _ => False)
    ⟨_, _, ps, _, rfl, rfl, rfl, Nat.zero_le _, hps', rfl⟩ (by rintro i _ _ ⟨_, _, _, _, rfl, _⟩; rfl) ?_ ?_ (fun _ _ _ _ q => q.elim)
  · clear X X' hit
    rintro i _ oI _ _ h₄ tk₄ Pp hi ⟨t, rfl⟩ ⟨tn, v2, cur, rr, rfl, rfl, hcl, hile, hcur, hg⟩ X hnx hbk hrt
    dsimp only [List.set] at X
    have ei : ((ps.length / 2 : Nat) : Int) - 1 + (i : Int) * (-1) = ((ps.length / 2 - i - 1 : Nat) : Int) := by omega
    rw [ei] at X
    obtain ⟨new, hnew⟩ : ∃ l, cur[ps.length / 2 - i - 1]? = some l := ⟨_, List.getElem?_eq_getElem (by omega)⟩
    refine wpAny_execs_cons (exprS K (fcall2 X G' K 0 rfl rfl (ldv 0 X K rfl rfl (ldv 2 X K rfl rfl ⟨(X.gd G').k, use_call (siftupM_spec G' X.keep (by simp [hid]) (R'.le (by omega)) (X.get (j := 2) rfl)
      (fun p hp => (hcur p hp).hol X.keep) (new := new) hnew (by omega)) ?_⟩))))
    rintro v h₅ tk₅ c ⟨rfl, hp⟩
    have X₂ := X.chg1 (j := 2) rfl c hp
    dsimp only [List.set] at X₂
    refine ⟨rfl, wpAny_execs_nil (hnx _ _ _ _ ⟨tn, _, su ltM new cur (ps.length / 2 - i - 1), rr, rfl, rfl, ?_, by omega, ?_, ?_⟩ X₂).1⟩
    · rw [su_length]; exact hcl
    · intro p hp
      rcases su_mem _ _ _ _ hp with q | rfl
      · exact hcur p q
      · exact hcur _ (List.mem_of_getElem? hnew)
    · rw [← hg]
      have e1 : ps.length / 2 - i = (ps.length / 2 - i - 1) + 1 := by omega
      have e2 : ps.length / 2 - (i + 1) = ps.length / 2 - i - 1 := by omega
      rw [e2, e1, heapG_succ hnew]
      simp
  · clear X X' hit
    rintro _ _ h₄ tk₄ ⟨tn, v2, cur, rr, rfl, rfl, hcl, hile, hcur, hg⟩ X
    refine wpAny_execs_nil (wpAny_execs_nil ⟨h₄, tk₄, rfl, hid_hol X.keep, rfl, ?_⟩)
    rw [X.get (j := 1) rfl]
    rw [Nat.sub_self] at hg
    rw [← hg]; rfl

set_option maxHeartbeats 2000000 in
theorem heappopM_spec {w : World} {A : Around} {s₀ : Shared} {h : Heap} {tk : Nat} {B : Base} {d : Addr} {n : Nat} {ps : List VE} {last : VE}
    (G : GdB w B) (hB : Hol B h) (hd : B d = none) (R : Rm A 8) (ho : h.get? d = some (lst (ps ++ [last]) n)) (hps : ∀ p ∈ ps ++ [last], IsT3 h p.1 p.2) (hlen : ps.length < 900) :
    codeAny (Mo w) A (.call (.ref 147) ⟨[.ref d], []⟩) (RetTo s₀ h [d] (fun v h' => v = (hpop ltM ps last).1.1 ∧ ∃ n', h'.get? d = some (lst (hpop ltM ps last).2 n'))) (St s₀ h tk) := by
  refine call_fn (k := 7) (D := [d]) (ns := [Str.ofString "heap", Str.ofString "lastelt", Str.ofString "returnitem"])
    (gl := [(Str.ofString "_siftup_max", .ref 182)]) (bl := [])
    (vals := [.ref d]) (nw := [(d, lst (ps ++ [last]) n)]) G hB (by simpa using hd) rfl (by simpa using ho) (by simp) R rfl (by rfl) rfl (BindsTo.of_eq rfl) ?_
  intro L env A' h₁ tk₁ K R' G' X
  have hps' : ∀ p ∈ ps ++ [last], IsT3B (hid [d] h) p.1 p.2 := fun p hp => t3_hid (hps p hp) ho
  dsimp only [initV] at X
  have esz : sizeLine = 16777216 := rfl
  rw [show lst (ps ++ [last]) n = listOf (ps.map (·.1) ++ [last.1]).toArray n by simp [lst]] at X
  refine wpAny_execs_cons (wpAny_Assign_Name (mcall0 PySem.F.slot_list_pop PySem.F.type_list_pop (ldv 0 X K rfl rfl ⟨_, _, _, rfl, X.get (j := 0) rfl, popL 0 X rfl (by simp; omega) ?_⟩)))
  clear X; intro h₂ tk₂ X; dsimp only [List.set] at X
  refine stv 1 X K rfl rfl ?_
  clear X; intro h₂ tk₂ X; dsimp only [List.set] at X
  refine wpAny_execs_cons (wpAny_If (wpAny_isTrue_value (ldv 0 X K rfl rfl (truthyL (X.get (j := 0) rfl) (by simp; omega) ?_))))
  intro tk₃
  cases ps with
  | nil =>
    rw [if_neg (by simp)]
    refine wpAny_execs_nil (wpAny_execs_cons (wpAny_Return_some (ldv 1 X K rfl rfl ⟨h₂, tk₃, rfl, hid_hol X.keep, rfl, _, X.get (j := 0) rfl⟩)))
  | cons p0 rest =>
    rw [if_pos (by simp)]
    refine wpAny_execs_cons (wpAny_Assign_Name (Subscript_ (ldv 0 X K rfl rfl (cI (subL (x := p0.1) (X.get (j := 0) rfl) (by decide) (by simp at hlen ⊢; omega) (by simp) (stv 2 X K rfl rfl ?_))))))
    clear X; intro h₂ tk₂ X; dsimp only [List.set] at X
    refine wpAny_execs_cons (wpAny_Assign_Subscript (ldv 1 X K rfl rfl (ldv 0 X K rfl rfl (cI (setL 0 X rfl (by decide) (by simp) (by simp at hlen ⊢; omega) ?_)))))
    clear X; intro h₂ tk₂ X; dsimp only [List.set] at X
    have e0 : (List.map (fun x : VE => x.1) (p0 :: rest)).set (0 : Int).toNat last.1 = List.map (fun x : VE => x.1) (last :: rest) := rfl
    rw [e0] at X
    refine wpAny_execs_cons (exprS K (fcall2 X G' K 0 rfl rfl (ldv 0 X K rfl rfl (cI ⟨(X.gd G').k, use_call (siftupM_spec (pos := 0) G' X.keep (by simp [hid]) (R'.le (by omega)) (X.get (j := 0) rfl)
      (fun p hp => (hps' p (by simp at hp ⊢; rcases hp with rfl | hp <;> simp [*])).hol X.keep) (new := last) rfl (by simp at hlen ⊢; omega)) ?_⟩))))
    rintro v h₅ tk₅ c ⟨rfl, hp⟩
    have X₂ := X.chg1 (j := 0) rfl c hp
    dsimp only [List.set] at X₂
    exact ⟨rfl, wpAny_execs_cons (wpAny_Return_some (ldv 2 X₂ K rfl rfl ⟨h₅, tk₅, rfl, hid_hol X₂.keep, rfl, _, hp⟩))⟩
end Mine
end
section
open PySem PySem.W PyProof.Rows PySem.Calls
set_option Elab.async false
set_option maxRecDepth 100000
namespace Mine

abbrev zs (xs : List Nat) : List Int := xs.map (fun x : Nat => (x : Int))
theorem zs_get {vs : List Value} {xs : List Nat} (hi : IntsAre vs (zs xs)) {i : Nat} {v : Value} (hv : vs[i]? = some v) : ∃ x t, xs[i]? = some x ∧ v = .int (x : Int) t := by
  have hl : i < xs.length := by have := hi.length; have := (List.getElem?_eq_some_iff.mp hv).1; simp at *; omega
  obtain ⟨t, ht⟩ := hi.get i (xs[i] : Nat) (by simp [hl])
  rw [hv] at ht
  exact ⟨xs[i], t, by simp [hl], by simpa using ht⟩
theorem zs_any {xs : List Nat} {k : Nat} : (zs xs).any (fun z => z == (k : Int)) = xs.contains k := by
  induction xs with
  | nil => rfl
  | cons x r ih =>
    simp only [zs, List.map_cons, List.any_cons, List.contains_cons] at ih ⊢
    rw [ih]
    congr 1
    by_cases hx : k = x
    · subst hx; simp
    · rw [beq_eq_false_iff_ne.mpr hx, beq_eq_false_iff_ne.mpr (by omega)]

def plc (p : Nat) : Nat := if p < 9 then 8 - p else 35 - 3 * p
theorem plc_le {p : Nat} (hp : p < 12) : plc p ≤ 8 := by unfold plc; split <;> omega

section
variable {w : World} {A : Around} {s₀ : Shared} {h : Heap} {tk : Nat} {B : Base}

theorem place_spec {p : Nat} {t : Tok} (G : GdB w B) (hB : Hol B h) (R : Rm A 2) (hp : p < 12) :
    codeAny (Mo w) A (.call (.ref 208) ⟨[.int p t], []⟩) (RetTo s₀ h [] (fun v _ => ∃ t, v = .int (plc p : Nat) t)) (St s₀ h tk) := by
  refine call_fn (k := 1) (D := []) (ns := [Str.ofString "power"]) (gl := []) (bl := [])
    (vals := [.int p t]) (nw := []) G hB (by simp) rfl (by simp) (by simp) R rfl (by rfl) rfl (BindsTo.of_eq rfl) ?_
  intro L env A' h₁ tk₁ K R' G' X
  dsimp only [initV] at X
  refine wpAny_execs_cons (wpAny_Return_some (wpAny_IfExp (wpAny_isTrue_Compare1 (ldv 0 X K rfl rfl (cI (ltI (wpAny_truthy_bool ?_)))))))
  by_cases hlt : p < 9
  · rw [if_pos (by simp; omega)]
    refine wpAny_BinOp (cI (ldv 0 X K rfl rfl (subI ?_)))
    have e : (8 : Int) - p = (plc p : Nat) := by unfold plc; rw [if_pos hlt]; omega
    rw [e]
    exact ⟨_, _, rfl, hid_hol X.keep, _, rfl⟩
  · rw [if_neg (by simp; omega)]
    refine wpAny_BinOp (cI (wpAny_BinOp (cI (ldv 0 X K rfl rfl (mulI (IntMulOk.of_left (by decide)) (subI ?_))))))
    have e : (35 : Int) - 3 * p = (plc p : Nat) := by unfold plc; rw [if_neg hlt]; omega
    rw [e]
    exact ⟨_, _, rfl, hid_hol X.keep, _, rfl⟩

def fig (m q ab : Nat) : Nat :=
  let digit := m / 8 ^ (2 - q / 3) % 8
  if q % 3 = 0 then (if digit > 3 then 43 else ab)
  else if q % 3 = 1 then (if digit / 2 % 2 = 0 then ab else 48)
  else [ab, 49, 18 + q / 8, 44 + q / 8].getD (digit % 2 + 2 * (m / 2 ^ (11 - q / 3) % 2)) 0

set_option maxHeartbeats 1000000 in
theorem figure_spec {m q ab : Nat} {t1 t2 t3 : Tok} (G : GdB w B) (hB : Hol B h) (R : Rm A 3) (hq : q < 9) :
    codeAny (Mo w) A (.call (.ref 215) ⟨[.int m t1, .int q t2, .int ab t3], []⟩) (RetTo s₀ h [] (fun v _ => ∃ t, v = .int (fig m q ab : Nat) t)) (St s₀ h tk) := by
  refine call_fn (k := 2) (D := []) (ns := [Str.ofString "mode", Str.ofString "place", Str.ofString "absent", Str.ofString "digit", Str.ofString "extra"]) (gl := []) (bl := [])
    (vals := [.int m t1, .int q t2, .int ab t3]) (nw := []) G hB (by simp) rfl (by simp) (by simp) R rfl (by rfl) rfl (BindsTo.of_eq rfl) ?_
  intro L env A' h₁ tk₁ K R' G' X
  dsimp only [initV] at X
  have e8 : (2 - (q : Int) / 3).toNat = 2 - q / 3 := by omega
  have e11 : (11 - (q : Int) / 3).toNat = 11 - q / 3 := by omega
  have p8 : (8 : Int) ^ (2 - (q : Int) / 3).toNat = ((8 ^ (2 - q / 3) : Nat) : Int) := by rw [e8]; simp
  have p2 : (2 : Int) ^ (11 - (q : Int) / 3).toNat = ((2 ^ (11 - q / 3) : Nat) : Int) := by rw [e11]; simp
  have b8 : 0 < 8 ^ (2 - q / 3) ∧ 8 ^ (2 - q / 3) ≤ 64 := ⟨Nat.pow_pos (by decide), Nat.pow_le_pow_right (by decide) (by omega : 2 - q / 3 ≤ 2)⟩
  have b2 : 0 < 2 ^ (11 - q / 3) ∧ 2 ^ (11 - q / 3) ≤ 2048 := ⟨Nat.pow_pos (by decide), Nat.pow_le_pow_right (by decide) (by omega : 11 - q / 3 ≤ 11)⟩
  refine wpAny_execs_cons (wpAny_Assign_Name (wpAny_BinOp (wpAny_BinOp (ldv 0 X K rfl rfl (wpAny_BinOp (cI (wpAny_BinOp (cI (wpAny_BinOp (ldv 1 X K rfl rfl (cI (fdivI (by decide) (by decide) (subI (powI (by omega) (by omega) (by decide) ?_))))))))))))))
  rw [p8]
  refine fdivI (by omega) (by omega) (cI (modI (by decide) (stv 3 X K rfl rfl ?_)))
  rw [show (m : Int) / ((8 ^ (2 - q / 3) : Nat) : Int) % 8 = ((m / 8 ^ (2 - q / 3) % 8 : Nat) : Int) by simp]
  clear X; intro h₂ tk₂ X; dsimp only [List.set] at X
  obtain ⟨dg, hdg⟩ : ∃ dg, m / 8 ^ (2 - q / 3) % 8 = dg := ⟨_, rfl⟩
  rw [hdg] at X
  refine wpAny_execs_cons (wpAny_If (wpAny_isTrue_Compare1 (wpAny_BinOp (ldv 1 X K rfl rfl (cI (modI (by decide) (cI (eqI (wpAny_truthy_bool ?_)))))))))
  by_cases h0 : q % 3 = 0
  · rw [if_pos (eT (by omega))]
    refine wpAny_execs_cons (wpAny_Return_some (wpAny_IfExp (wpAny_isTrue_Compare1 (ldv 3 X K rfl rfl (cI (gtI (wpAny_truthy_bool ?_)))))))
    by_cases hd : dg > 3
    · rw [if_pos (dT (by omega))]
      have e : fig m q ab = 43 := by simp [fig, hdg, h0, hd]
      rw [e]
      exact cI (⟨_, _, rfl, hid_hol X.keep, _, rfl⟩)
    · rw [if_neg (dF (by omega))]
      have e : fig m q ab = ab := by simp [fig, hdg, h0, hd]
      rw [e]
      exact ldv 2 X K rfl rfl (⟨_, _, rfl, hid_hol X.keep, _, rfl⟩)
  · rw [if_neg (eF (by omega))]
    refine wpAny_execs_nil (wpAny_execs_cons (wpAny_If (wpAny_isTrue_Compare1 (wpAny_BinOp (ldv 1 X K rfl rfl (cI (modI (by decide) (cI (eqI (wpAny_truthy_bool ?_))))))))))
    by_cases h1 : q % 3 = 1
    · rw [if_pos (eT (by omega))]
      refine wpAny_execs_cons (wpAny_Return_some (wpAny_IfExp (wpAny_isTrue_value (wpAny_BinOp (wpAny_BinOp (ldv 3 X K rfl rfl (cI (fdivI (by decide) (by decide) (cI (modI (by decide) (truthyI ?_)))))))))))
      by_cases hd : dg / 2 % 2 = 0
      · rw [if_neg (nF (by omega))]
        have e : fig m q ab = ab := by simp [fig, hdg, h1, hd]
        rw [e]
        exact ldv 2 X K rfl rfl (⟨_, _, rfl, hid_hol X.keep, _, rfl⟩)
      · rw [if_pos (nT (by omega))]
        have e : fig m q ab = 48 := by simp [fig, hdg, h1, hd]
        rw [e]
        exact cI (⟨_, _, rfl, hid_hol X.keep, _, rfl⟩)
    · rw [if_neg (eF (by omega))]
      refine wpAny_execs_nil (wpAny_execs_cons (wpAny_Assign_Name (wpAny_BinOp (wpAny_BinOp (ldv 0 X K rfl rfl (wpAny_BinOp (cI (wpAny_BinOp (cI (wpAny_BinOp (ldv 1 X K rfl rfl (cI (fdivI (by decide) (by decide) (subI (powI (by omega) (by omega) (by decide) ?_)))))))))))))))
      rw [p2]
      refine fdivI (by omega) (by omega) (cI (modI (by decide) (stv 4 X K rfl rfl ?_)))
      rw [show (m : Int) / ((2 ^ (11 - q / 3) : Nat) : Int) % 2 = ((m / 2 ^ (11 - q / 3) % 2 : Nat) : Int) by simp]
      clear X; intro h₃ tk₃ X; dsimp only [List.set] at X
      have hdg8 : dg < 8 := by omega
      obtain ⟨ex, hex⟩ : ∃ ex, m / 2 ^ (11 - q / 3) % 2 = ex := ⟨_, rfl⟩
      have hex2 : ex < 2 := by omega
      rw [hex] at X
      have hsz : (4 : Nat) ≤ sizeLine := by decide
      refine wpAny_execs_cons (wpAny_Return_some (Subscript_ (tupE4 (ldv 2 X K rfl rfl (cI (wpAny_BinOp (cI (wpAny_BinOp (ldv 1 X K rfl rfl (cI (fdivI (by decide) (by decide) (addI (wpAny_BinOp (cI (wpAny_BinOp (ldv 1 X K rfl rfl (cI (fdivI (by decide) (by decide) (addI (newTup X hsz ?_))))))))))))))))))))
      clear X; intro a h₄ tk₄ _ _ X
      refine wpAny_BinOp (wpAny_BinOp (ldv 3 X K rfl rfl (cI (modI (by decide) (wpAny_BinOp (cI (ldv 4 X K rfl rfl (mulI (IntMulOk.of_left (by decide)) (addI ?_)))))))))
      have ei : (dg : Int) % 2 + 2 * (ex : Int) = ((dg % 2 + 2 * ex : Nat) : Int) := by omega
      have e18 : (18 : Int) + (q : Int) / 8 = ((18 + q / 8 : Nat) : Int) := by omega
      have e44 : (44 : Int) + (q : Int) / 8 = ((44 + q / 8 : Nat) : Int) := by omega
      rw [ei]
      have hf : fig m q ab = [ab, 49, 18 + q / 8, 44 + q / 8].getD (dg % 2 + 2 * ex) 0 := by
        simp only [fig, hdg, hex]; rw [if_neg h0, if_neg h1]
      have hlt : dg % 2 + 2 * ex < 4 := by omega
      rw [e18, e44] at X
      rw [hf]
      generalize dg % 2 + 2 * ex = i at hlt ⊢
      have ht : ∀ a b c d : Tok, ∃ t, ([Value.int ab a, Value.int 49 b, Value.int ((18 + q / 8 : Nat) : Int) c, Value.int ((44 + q / 8 : Nat) : Int) d] : List Value)[i]? = some (.int ([ab, 49, 18 + q / 8, 44 + q / 8].getD i 0 : Nat) t) := by
        intro a b c d
        match i, hlt with
        | 0, _ => exact ⟨_, rfl⟩
        | 1, _ => exact ⟨_, rfl⟩
        | 2, _ => exact ⟨_, rfl⟩
        | 3, _ => exact ⟨_, rfl⟩
      obtain ⟨t, ht⟩ := ht _ _ _ _
      exact subT (X.get (j := 0) rfl) (by omega) (by simp) (by rw [Int.toNat_natCast]; exact ht) ⟨_, _, rfl, hid_hol X.keep, t, rfl⟩
end
end Mine
end
section
open PySem PySem.W PyProof.Rows PySem.Calls
set_option Elab.async false
set_option maxRecDepth 100000
namespace Mine

def bt (m o : Nat) : Nat := m / 2 ^ o % 2
def badO (m p : Nat) (hv : Bool) (o : Nat) : Bool := if hv then decide (plc o < plc p) && bt m o == 0 else decide (plc p < plc o) && bt m o == 1
def keptP (m p : Nat) (P : List Nat) (hv : Bool) : Bool :=
  if P.any (badO m p hv) then false else if p < 9 || !(P.contains (8 - plc p)) then true else ((bt m (8 - plc p) == 0) == hv)

theorem pw2 (o : Nat) : (2 : Int) ^ ((o : Int)).toNat = ((2 ^ o : Nat) : Int) := by rw [Int.toNat_natCast]; simp
theorem pw2_b {o : Nat} (h : o < 12) : 0 < 2 ^ o ∧ 2 ^ o ≤ 2048 := ⟨Nat.pow_pos (by decide), Nat.pow_le_pow_right (by decide) (by omega : o ≤ 11)⟩
theorem bt_cast (m o : Nat) : (m : Int) / ((2 ^ o : Nat) : Int) % 2 = ((bt m o : Nat) : Int) := by simp [bt]
theorem bt_lt (m o : Nat) : bt m o < 2 := Nat.mod_lt _ (by decide)

section
variable {w : World} {A : Around} {s₀ : Shared} {h : Heap} {tk : Nat} {B : Base}

set_option maxHeartbeats 2000000 in
theorem kept_spec {m p l n : Nat} {hv : Bool} {vsP : List Value} {P : List Nat} {t1 t2 : Tok} (G : GdB w B) (hB : Hol B h) (R : Rm A 5) (hp : p < 12) (hl : h.get? l = some (listOf vsP.toArray n)) (hi : IntsAre vsP (zs P)) (hP : ∀ o ∈ P, o < 12) :
    codeAny (Mo w) A (.call (.ref 222) ⟨[.int m t1, .int p t2, .ref l, .bool hv], []⟩) (RetTo s₀ h [] (fun v _ => v = .bool (keptP m p P hv))) (St s₀ h tk) := by
  refine call_fn (k := 4) (D := []) (ns := [Str.ofString "mode", Str.ofString "power", Str.ofString "powers", Str.ofString "heavy", Str.ofString "place", Str.ofString "other", Str.ofString "held"])
    (gl := [(Str.ofString "_law_place", .ref 208)]) (bl := [])
    (vals := [.int m t1, .int p t2, .ref l, .bool hv]) (nw := []) G hB (by simp) rfl (by simp) (by simp) R rfl (by rfl) rfl (BindsTo.of_eq rfl) ?_
  intro L env A' h₁ tk₁ K R' G' X
  dsimp only [initV] at X
  have hlB : hid [] h l = some (listOf vsP.toArray n) := by simpa [hid] using hl
  refine wpAny_execs_cons (wpAny_Assign_Name (fcall1 X G' K 0 rfl rfl (ldv 1 X K rfl rfl (And.intro (X.gd G').k (use_call (place_spec G' X.keep (R'.le (by omega)) hp) ?_)))))
  rintro _ h₂ tk₂ c ⟨t4, rfl⟩
  replace X := X.chg0 c
  refine stv 4 X K rfl rfl ?_
  clear X; intro h₂ tk₂ X; dsimp only [List.set] at X
  refine wpAny_execs_cons (forL 5 (fun i vs nw => ∃ v5 v6, vs = [some (Value.int m t1), some (Value.int p t2), some (Value.ref l), some (Value.bool hv), some (Value.int (plc p : Nat) t4), v5, v6] ∧ nw = [] ∧ (P.take i).any (badO m p hv) = false)
    (fun _ _ => False) R' K X rfl (fun Q' hq => ldv 2 X K rfl rfl hq) hlB ⟨_, _, rfl, rfl, by simp⟩ (by rintro i _ _ ⟨_, _, rfl, _⟩; rfl) ?_ ?_ (fun _ _ _ _ q => q.elim))
  · clear X
    rintro i v I oI _ _ h₂ tk₂ Pp hv' ⟨v5, v6, rfl, rfl, hbad⟩ X hnx hbk hrt
    obtain ⟨o, t5, ho, rfl⟩ := zs_get hi hv'
    have ho12 : o < 12 := hP o (List.mem_of_getElem? ho)
    have htake : (P.take (i + 1)).any (badO m p hv) = badO m p hv o := by
      rw [List.take_add_one, ho, List.any_append, hbad]; simp
    dsimp only [List.set] at X
    refine wpAny_execs_cons (wpAny_Assign_Name (wpAny_BinOp (wpAny_BinOp (ldv 0 X K rfl rfl (wpAny_BinOp (cI (ldv 5 X K rfl rfl (powI (by omega) (by omega) (by decide) ?_))))))))
    rw [pw2]
    have hb2 := pw2_b ho12
    refine fdivI (by omega) (by omega) (cI (modI (by decide) ?_))
    rw [bt_cast]
    refine stv 6 X K rfl rfl ?_
    clear X; intro h₂ tk₂ X; dsimp only [List.set] at X
    have hbt := bt_lt m o
    have hFalse : badO m p hv o = true → keptP m p P hv = false := fun hb => by
      unfold keptP
      rw [if_pos (List.any_eq_true.mpr ⟨o, List.mem_of_getElem? ho, hb⟩)]
    cases hv with
    | true =>
      refine wpAny_execs_cons (wpAny_If (wpAny_isTrue_BoolOp (wpAny_allTrue_And_cons (wpAny_isTrue_value (ldv 3 X K rfl rfl (wpAny_truthy_bool ?_))))))
      rw [if_pos (by decide)]
      refine wpAny_allTrue_And_cons (wpAny_isTrue_Compare1 (fcall1 X G' K 0 rfl rfl (ldv 5 X K rfl rfl (And.intro (X.gd G').k (use_call (place_spec G' X.keep (R'.le (by omega)) ho12) ?_)))))
      rintro _ h₃ tk₃ c ⟨t7, rfl⟩
      replace X := X.chg0 c
      refine ldv 4 X K rfl rfl (ltI (wpAny_truthy_bool ?_))
      by_cases hpl : plc o < plc p
      · rw [if_pos (dT (by omega))]
        refine wpAny_allTrue_And_cons (wpAny_isTrue_Compare1 (ldv 6 X K rfl rfl (cI (eqI (wpAny_truthy_bool ?_)))))
        by_cases hz : bt m o = 0
        · rw [if_pos (eT (by omega))]
          refine wpAny_allTrue_And_nil ?_
          rw [if_pos (by decide)]
          refine wpAny_execs_cons (wpAny_Return_some (wpAny_Constant_bool (hrt _ _ ?_)))
          refine ⟨_, _, rfl, hid_hol X.keep, ?_⟩
          rw [hFalse (by simp [badO, hpl, hz])]; rfl
        · rw [if_neg (eF (by omega)), if_neg (by decide)]
          refine wpAny_execs_nil (wpAny_execs_cons (wpAny_If (wpAny_isTrue_BoolOp (wpAny_allTrue_And_cons (wpAny_isTrue_Not (wpAny_isTrue_value (ldv 3 X K rfl rfl (wpAny_truthy_bool ?_))))))))
          rw [if_neg (by decide), if_neg (by decide)]
          exact wpAny_execs_nil (wpAny_execs_nil ((hnx _ _ _ _ ⟨_, _, rfl, rfl, by rw [htake]; simp [badO, hpl, hz]⟩ X).1))
      · rw [if_neg (dF (by omega)), if_neg (by decide)]
        refine wpAny_execs_nil (wpAny_execs_cons (wpAny_If (wpAny_isTrue_BoolOp (wpAny_allTrue_And_cons (wpAny_isTrue_Not (wpAny_isTrue_value (ldv 3 X K rfl rfl (wpAny_truthy_bool ?_))))))))
        rw [if_neg (by decide), if_neg (by decide)]
        exact wpAny_execs_nil (wpAny_execs_nil ((hnx _ _ _ _ ⟨_, _, rfl, rfl, by rw [htake]; simp [badO, hpl]⟩ X).1))
    | false =>
      refine wpAny_execs_cons (wpAny_If (wpAny_isTrue_BoolOp (wpAny_allTrue_And_cons (wpAny_isTrue_value (ldv 3 X K rfl rfl (wpAny_truthy_bool ?_))))))
      rw [if_neg (by decide), if_neg (by decide)]
      refine wpAny_execs_nil (wpAny_execs_cons (wpAny_If (wpAny_isTrue_BoolOp (wpAny_allTrue_And_cons (wpAny_isTrue_Not (wpAny_isTrue_value (ldv 3 X K rfl rfl (wpAny_truthy_bool ?_))))))))
      rw [if_pos (by decide)]
      refine wpAny_allTrue_And_cons (wpAny_isTrue_Compare1 (fcall1 X G' K 0 rfl rfl (ldv 5 X K rfl rfl (And.intro (X.gd G').k (use_call (place_spec G' X.keep (R'.le (by omega)) ho12) ?_)))))
      rintro _ h₃ tk₃ c ⟨t7, rfl⟩
      replace X := X.chg0 c
      refine ldv 4 X K rfl rfl (gtI (wpAny_truthy_bool ?_))
      by_cases hpl : plc p < plc o
      · rw [if_pos (dT (by omega))]
        refine wpAny_allTrue_And_cons (wpAny_isTrue_Compare1 (ldv 6 X K rfl rfl (cI (eqI (wpAny_truthy_bool ?_)))))
        by_cases hz : bt m o = 1
        · rw [if_pos (eT (by omega))]
          refine wpAny_allTrue_And_nil ?_
          rw [if_pos (by decide)]
          refine wpAny_execs_cons (wpAny_Return_some (wpAny_Constant_bool (hrt _ _ ?_)))
          refine ⟨_, _, rfl, hid_hol X.keep, ?_⟩
          rw [hFalse (by simp [badO, hpl, hz])]; rfl
        · rw [if_neg (eF (by omega)), if_neg (by decide)]
          exact wpAny_execs_nil (wpAny_execs_nil ((hnx _ _ _ _ ⟨_, _, rfl, rfl, by rw [htake]; simp [badO, hpl, hz]⟩ X).1))
      · rw [if_neg (dF (by omega)), if_neg (by decide)]
        exact wpAny_execs_nil (wpAny_execs_nil ((hnx _ _ _ _ ⟨_, _, rfl, rfl, by rw [htake]; simp [badO, hpl]⟩ X).1))
  · clear X
    rintro _ _ h₂ tk₂ ⟨v5, v6, rfl, rfl, hbad⟩ X
    have hlen : vsP.length = P.length := by have := hi.length; simpa using this
    rw [hlen, List.take_length] at hbad
    have hk : keptP m p P hv = if p < 9 || !(P.contains (8 - plc p)) then true else ((bt m (8 - plc p) == 0) == hv) := by
      unfold keptP; rw [hbad]; simp
    rw [hk]
    have hpl := plc_le hp
    refine wpAny_execs_nil (wpAny_execs_cons (wpAny_If (wpAny_isTrue_BoolOp (wpAny_allTrue_Or_cons (wpAny_isTrue_Compare1 (ldv 1 X K rfl rfl (cI (ltI (wpAny_truthy_bool ?_)))))))))
    by_cases h9 : p < 9
    · rw [if_pos (dT (by omega)), if_pos (by decide)]
      exact wpAny_execs_cons (wpAny_Return_some (wpAny_Constant_bool (⟨_, _, rfl, hid_hol X.keep, by simp [h9, retv]⟩)))
    · rw [if_neg (dF (by omega))]
      have e8 : (8 : Int) - (plc p : Nat) = ((8 - plc p : Nat) : Int) := by omega
      refine wpAny_allTrue_Or_cons (wpAny_isTrue_Compare1 (wpAny_BinOp (cI (ldv 4 X K rfl rfl (subI (ldv 2 X K rfl rfl (notInL (X.keep _ _ hlB) hi (wpAny_truthy_bool ?_))))))))
      rw [e8, zs_any]
      cases hc : P.contains (8 - plc p) with
      | false =>
        rw [if_pos (by decide), if_pos (by decide)]
        exact wpAny_execs_cons (wpAny_Return_some (wpAny_Constant_bool (⟨_, _, rfl, hid_hol X.keep, by simp [retv]⟩)))
      | true =>
        rw [if_neg (by decide)]
        refine wpAny_allTrue_Or_nil ?_
        rw [if_neg (by decide)]
        refine wpAny_execs_nil (wpAny_execs_cons (wpAny_Return_some (wpAny_Compare1 (wpAny_Compare1 (wpAny_BinOp (wpAny_BinOp (ldv 0 X K rfl rfl (wpAny_BinOp (cI (wpAny_BinOp (cI (ldv 4 X K rfl rfl (subI (powI (by omega) (by omega) (by decide) ?_))))))))))))))
        rw [e8, pw2]
        have hb2 := pw2_b (o := 8 - plc p) (by omega)
        refine fdivI (by omega) (by omega) (cI (modI (by decide) ?_))
        rw [bt_cast]
        have hbt := bt_lt m (8 - plc p)
        refine cI (eqI (ldv 3 X K rfl rfl (eqB ?_)))
        refine ⟨_, _, rfl, hid_hol X.keep, ?_⟩
        have e0 : (((bt m (8 - plc p) : Nat) : Int) == 0) = (bt m (8 - plc p) == 0) := by
          by_cases hz : bt m (8 - plc p) = 0
          · simp [hz]
          · rw [beq_eq_false_iff_ne.mpr hz, beq_eq_false_iff_ne.mpr (by omega)]
        rw [e0]
        simp [h9, retv]

def dedup (ns : List Nat) : List Nat := ns.foldl (fun acc n => if acc.contains (n % 12) then acc else acc ++ [n % 12]) []

set_option maxHeartbeats 2000000 in
theorem powers_spec {l n : Nat} {vsN : List Value} {N : List Nat} (G : GdB w B) (hB : Hol B h) (R : Rm A 5) (hl : h.get? l = some (listOf vsN.toArray n)) (hi : IntsAre vsN (zs N)) (hN : N.length < 100) :
    codeAny (Mo w) A (.call (.ref 196) ⟨[.ref l], []⟩) (RetTo s₀ h [] (fun v h' => ∃ a vs e, v = .ref a ∧ h.get? a = none ∧ h'.get? a = some (listOf vs.toArray e) ∧ IntsAre vs (zs (dedup N)))) (St s₀ h tk) := by
  refine call_fn (k := 4) (D := []) (ns := [Str.ofString "numbers", Str.ofString "powers", Str.ofString "number"])
    (gl := []) (bl := [])
    (vals := [.ref l]) (nw := []) G hB (by simp) rfl (by simp) (by simp) R rfl (by rfl) rfl (BindsTo.of_eq rfl) ?_
  intro L env A' h₁ tk₁ K R' G' X
  dsimp only [initV] at X
  have hlB : hid [] h l = some (listOf vsN.toArray n) := by simpa [hid] using hl
  have hsz : (0 : Nat) ≤ sizeLine := Nat.zero_le _
  have esz : sizeLine = 16777216 := rfl
  refine wpAny_execs_cons (wpAny_Assign_Name (lstE0 (newLst X hsz ?_)))
  clear X; intro a h₂ tk₂ _ hfr X
  have hfr' : h.get? a = none := by
    have := (X.news _ (List.mem_cons_self)).2.1
    simpa [hid] using this
  refine stv 1 X K rfl rfl ?_
  clear X; intro h₂ tk₂ X; dsimp only [List.set] at X
  refine wpAny_execs_cons (forL 2 (fun i vs nw => ∃ v2 e ws, vs = [some (Value.ref l), some (Value.ref a), v2] ∧ nw = [(a, listOf ws.toArray e)] ∧ IntsAre ws (zs (dedup (N.take i))) ∧ ws.length ≤ i)
    (fun _ _ => False) R' K X rfl (fun Q' hq => ldv 0 X K rfl rfl hq) hlB ⟨_, _, [], rfl, rfl, .nil, Nat.le_refl _⟩ (by rintro i _ _ ⟨_, _, _, rfl, _⟩; rfl) ?_ ?_ (fun _ _ _ _ q => q.elim))
  · clear X
    rintro i v I oI _ _ h₂ tk₂ Pp hv' ⟨v2, e, ws, rfl, rfl, hws, hwl⟩ X hnx hbk hrt
    obtain ⟨o, t5, ho, rfl⟩ := zs_get hi hv'
    have hil : i < N.length := (List.getElem?_eq_some_iff.mp ho).1
    dsimp only [List.set] at X
    have htake : dedup (N.take (i + 1)) = if (dedup (N.take i)).contains (o % 12) then dedup (N.take i) else dedup (N.take i) ++ [o % 12] := by
      unfold dedup
      rw [List.take_add_one, ho, List.foldl_append]; rfl
    have em : (o : Int) % 12 = ((o % 12 : Nat) : Int) := by omega
    refine wpAny_execs_cons (wpAny_If (wpAny_isTrue_Compare1 (wpAny_BinOp (ldv 2 X K rfl rfl (cI (modI (by decide) (ldv 1 X K rfl rfl (notInL (X.get (j := 1) rfl) hws (wpAny_truthy_bool ?_)))))))))
    rw [em, zs_any]
    cases hc : (dedup (N.take i)).contains (o % 12) with
    | true =>
      rw [if_neg (by decide)]
      exact wpAny_execs_nil (wpAny_execs_nil ((hnx _ _ _ _ ⟨_, _, ws, rfl, rfl, by rw [htake, hc]; exact hws, by omega⟩ X).1))
    | false =>
      rw [if_pos (by decide)]
      refine wpAny_execs_cons (exprS K (mcall1 PySem.F.slot_list_append PySem.F.type_list_append (ldv 1 X K rfl rfl ?_)))
      refine ⟨_, _, _, rfl, X.get (j := 1) rfl, ?_⟩
      refine wpAny_BinOp (ldv 2 X K rfl rfl (cI (modI (by decide) (appL 1 X rfl (by omega) ?_))))
      rw [em]
      clear X; intro h₂ tk₂ X; dsimp only [List.set] at X
      refine ⟨rfl, ?_⟩
      exact wpAny_execs_nil (wpAny_execs_nil ((hnx _ _ _ _ ⟨_, _, _, rfl, rfl, by rw [htake, hc]; simpa [zs] using IntsAre.append hws (.cons _ _ .nil), by simp; omega⟩ X).1))
  · clear X
    rintro _ _ h₂ tk₂ ⟨v2, e, ws, rfl, rfl, hws, hwl⟩ X
    have hlen : vsN.length = N.length := by have := hi.length; simpa using this
    rw [hlen, List.take_length] at hws
    exact wpAny_execs_nil (wpAny_execs_cons (wpAny_Return_some (ldv 1 X K rfl rfl (⟨_, _, rfl, hid_hol X.keep, a, ws, e, rfl, hfr', X.get (j := 0) rfl, hws⟩))))
end
end Mine
end
section
open PySem PySem.W PyProof.Rows PySem.Calls
set_option Elab.async false
set_option maxRecDepth 100000
namespace Mine

section
variable {prog : Program} {w : World} {A : Around} {E : Value → Shared → Prop} {s : Shared}
/-- the next item of a tuple's iterator, as enumerate asks for it -/
theorem nextOf_tuple {it t : Addr} {i : Nat} {items : Array Value} {x : Value} {Q : Value → Shared → Prop} (hit : s.heap.IsTupleIter it t i) (ht : s.heap.IsTuple t items) (hx : items[i]? = some x)
    (hQ : ∀ h', h'.IsTupleIter it t (i + 1) → Heap.SameBut it s.heap h' → Q x { s with heap := h' }) : wpAny (model prog w) A (Builtin.SmallTypes.nextOf (.ref it)) Q E s := by
  obtain ⟨o, ho, hc, hd⟩ := id hit
  obtain ⟨ot, hot, _, nt, hdt⟩ := ht
  unfold Builtin.SmallTypes.nextOf
  refine wpAny_bind (wpAny_callSpecial?_slot (name := Str.ofString "__next__") hit.typeIs PySem.F.slot_tuple_iterator_next (wpAny_call_entry PySem.F.slot_tuple_iterator_next hit.typeIs PySem.F.entry_tuple_iterator_next ?_ (PySem.F.args_tuple_iterator_next_1 _)))
  show wpAny _ _ (field (.ref it) 0 >>= _) _ _ s
  refine wpAny_bind (wpAny_field ho hd (x := .ref t) rfl ?_)
  show wpAny _ _ (if (Value.ref t == Value.none) = true then _ else _) _ _ s
  rw [if_neg (show ¬ ((Value.ref t == Value.none) = true) from Bool.false_ne_true)]
  show wpAny _ _ (field (.ref it) 1 >>= _) _ _ s
  refine wpAny_bind (wpAny_field ho hd (x := .int i 0) rfl ?_)
  show wpAny _ _ (seqItems? (.ref t) >>= _) _ _ s
  refine wpAny_bind (wpAny_seqItems hot hdt ?_)
  simp only [Int.toNat_natCast, hx]
  refine wpAny_bind (wpAny_setField ho hd (by simp) (wpAny_pure ⟨x, rfl, wpAny_pure (hQ _ ⟨_, Heap.get?_update_self _ ho (Obj.isFreed_of_fields (Obj.data_mapFields hd _)), (Obj.cls_mapFields ..).trans hc, ?_⟩ (Heap.SameBut.update ..))⟩))
  rw [Obj.data_mapFields hd]; simp [rawInt]
theorem nextOf_tuple_end {it t : Addr} {i : Nat} {items : Array Value} {Q : Value → Shared → Prop} (hh : A.handled = none) (hit : s.heap.IsTupleIter it t i) (ht : s.heap.IsTuple t items) (hx : items[i]? = none)
    (hE : ∀ h' e, Heap.ExtBut it s.heap h' → (∃ o, h'.get? e = some o ∧ o.cls = .type "StopIteration") → E (.ref e) { s with heap := h' }) : wpAny (model prog w) A (Builtin.SmallTypes.nextOf (.ref it)) Q E s := by
  obtain ⟨o, ho, hc, hd⟩ := id hit
  obtain ⟨ot, hot, _, nt, hdt⟩ := ht
  unfold Builtin.SmallTypes.nextOf
  refine wpAny_bind (wpAny_callSpecial?_slot (name := Str.ofString "__next__") hit.typeIs PySem.F.slot_tuple_iterator_next (wpAny_call_entry PySem.F.slot_tuple_iterator_next hit.typeIs PySem.F.entry_tuple_iterator_next ?_ (PySem.F.args_tuple_iterator_next_1 _)))
  show wpAny _ _ (field (.ref it) 0 >>= _) _ _ s
  refine wpAny_bind (wpAny_field ho hd (x := .ref t) rfl ?_)
  show wpAny _ _ (if (Value.ref t == Value.none) = true then _ else _) _ _ s
  rw [if_neg (show ¬ ((Value.ref t == Value.none) = true) from Bool.false_ne_true)]
  show wpAny _ _ (field (.ref it) 1 >>= _) _ _ s
  refine wpAny_bind (wpAny_field ho hd (x := .int i 0) rfl ?_)
  show wpAny _ _ (seqItems? (.ref t) >>= _) _ _ s
  refine wpAny_bind (wpAny_seqItems hot hdt ?_)
  simp only [Int.toNat_natCast, hx]
  refine wpAny_bind (wpAny_rule (wpAny_bind (wpAny_setField ho hd (by simp) ?_)))
  show wpAny _ _ (newExc (.type "StopIteration") [] >>= _) _ _ _
  refine wpAny_bind ?_
  simp only [newExc, newTuple]
  refine wpAny_bind (wpAny_newObj_type ?_ (by size_fits))
  refine wpAny_bind (m := firstArgMember _ _) (wpAny_of_eq (a := Value.none) (by first | rfl | (simp only [firstArgMember]; rfl)) ?_)
  refine wpAny_newObj_type ?_ (by size_fits)
  simp only [raiseNew]
  refine wpAny_bind (wpAny_handled ?_)
  rw [show A.in1.handled = none from hh]
  exact wpAny_bind (wpAny_pure (wpAny_throw (hE _ _ (((Heap.SameBut.update ..).extBut.push _).push _) ⟨_, Heap.get?_push_size _ rfl, rfl⟩)))
theorem drawsTuple (hh : A.handled = none) (it t : Addr) (hne : t ≠ it) (items : Array Value) :
    Draws prog w A it [it, t] items.size (fun i v => items[i]? = some v) (fun i h => h.IsTupleIter it t i ∧ h.IsTuple t items) where
  live := fun _ _ st => let ⟨o, ho, _⟩ := st.1; ⟨o, ho⟩
  frame := fun _ _ _ st hk => ⟨st.1.at fun o e => hk it (by simp) o e, st.2.at fun o e => hk t (by simp) o e⟩
  item := fun i s Q E hi st hQ => nextOf_tuple st.1 st.2 (x := items[i]) (by simp [hi]) fun h' hit' hs' => hQ _ h' s.toks (by simp [hi]) ⟨hit', st.2.extBut hs'.extBut hne⟩ hs'
  done := fun s Q E st hE => nextOf_tuple_end hh st.1 st.2 (by simp) hE

set_option maxHeartbeats 1000000 in
theorem meets_enumerate_tup (l : Addr) (items : Array Value) (n : Nat) (dct : Option Addr) (sl : Array (Option Value)) :
    Meets (Builtin.«enumerate.__new__» ⟨[.type "enumerate", .ref l], []⟩) (fun _ R s => s.heap.get? l = some { cls := .type "tuple", dict := dct, data := .seq items n, slots := sl } ∧
      R (.ok (.ret (.ref (s.heap.push { cls := .type "tuple_iterator", data := .fields #[.ref l, .int 0 0] }).objs.size)))
        { s with heap := (s.heap.push { cls := .type "tuple_iterator", data := .fields #[.ref l, .int 0 0] }).push { cls := .type "enumerate", data := .fields #[.none, .bool false, .ref s.heap.objs.size, rawInt 0, .none, .none] } }) :=
  .of_wp fun prog w A R s h => by
    obtain ⟨hp, g, d, tk, os⟩ := s; obtain ⟨hl, h⟩ := h
    have hsub := sub_enumerate
    have hL : Heap.IsTuple (Shared.heap ⟨hp, g, d, tk, os⟩) l items := ⟨_, hl, rfl, n, rfl⟩
    wp_walk using AutoSeq1.wpAny_loadPart' hl
    refine wpAny_stack_any fun st => wpAny_pure ?_
    split
    · rename_i c _ _ _ _ _
      cases (c == Value.type "enumerate")
      · wp_walk using AutoSeq1.wpAny_loadPart' hl, wpAny_pyIter_tuple hL
        exact ⟨_, rfl, h⟩
      · wp_walk using AutoSeq1.wpAny_loadPart' hl, wpAny_pyIter_tuple hL
        exact ⟨_, rfl, h⟩
    · wp_walk using AutoSeq1.wpAny_loadPart' hl, wpAny_pyIter_tuple hL
      exact ⟨_, rfl, h⟩
end

def ownAt (h : Heap) (wr : List Addr) : List (Addr × Obj) := wr.filterMap fun b => (h.get? b).map (b, ·)
theorem ownAt_fst {h : Heap} : ∀ {wr : List Addr}, (∀ b ∈ wr, ∃ o, h.get? b = some o) → (ownAt h wr).map (·.1) = wr
  | [], _ => rfl
  | b :: r, hb => by
    obtain ⟨o, ho⟩ := hb b (List.mem_cons_self)
    have ih := ownAt_fst (h := h) (wr := r) fun c hc => hb c (List.mem_cons_of_mem _ hc)
    simp only [ownAt, List.filterMap_cons, ho, Option.map_some, List.map_cons] at ih ⊢
    rw [ih]
theorem ownAt_get {h : Heap} {wr : List Addr} {p : Addr × Obj} (hp : p ∈ ownAt h wr) : p.1 ∈ wr ∧ h.get? p.1 = some p.2 := by
  unfold ownAt at hp
  obtain ⟨b, hb, e⟩ := List.mem_filterMap.mp hp
  obtain ⟨o, ho, rfl⟩ := Option.map_eq_some_iff.mp e
  exact ⟨hb, ho⟩

theorem Fx.own {B : Base} {L : Addr} {ns : List Str} {vs : List (Option Value)} {own nw : List (Addr × Obj)} {h h' : Heap} {wr : List Addr} (X : Fx B L ns vs (own ++ nw) h) (hown : own.map (·.1) = wr) (c : Chg wr h h')
    (hal : ∀ b ∈ wr, ∃ o, h'.get? b = some o) : Fx B L ns vs (ownAt h' wr ++ nw) h' := by
  obtain ⟨⟨m, hm, hv⟩, kp, hL, nws, nd⟩ := X
  have hw : ∀ b ∈ wr, B b = none ∧ b ≠ L := fun b hb => by
    rw [← hown] at hb
    obtain ⟨p, hp, rfl⟩ := List.mem_map.mp hb
    exact (nws p (List.mem_append_left _ hp)).2
  rw [List.map_append, hown] at nd
  refine ⟨⟨m, ?_, hv⟩, fun a o e => c a o (kp a o e) fun q => ?_, hL, fun p hp => ?_, ?_⟩
  · obtain ⟨oL, es, ep, q1, q2⟩ := hm
    exact ⟨oL, es, ep, c _ _ q1 (fun q => (hw _ q).2 rfl), q2⟩
  · rw [(hw a q).1] at e; cases e
  · rcases List.mem_append.mp hp with q | q
    · obtain ⟨q1, q2⟩ := ownAt_get q
      exact ⟨q2, hw _ q1⟩
    · have hp' := nws p (List.mem_append_right _ q)
      refine ⟨c _ _ hp'.1 fun q1 => ?_, hp'.2⟩
      exact (List.nodup_append.mp nd).2.2 p.1 q1 p.1 (List.mem_map_of_mem q) rfl
  · rw [List.map_append, ownAt_fst hal]; exact nd
theorem Fx.dropOwn {B : Base} {L : Addr} {ns : List Str} {vs : List (Option Value)} {own nw : List (Addr × Obj)} {h : Heap} (X : Fx B L ns vs (own ++ nw) h) : Fx B L ns vs nw h :=
  ⟨X.m, X.keep, X.hL, fun p hp => X.news p (List.mem_append_right _ hp), by have := X.nd; rw [List.map_append] at this; exact (List.nodup_append.mp this).2.1⟩

/-- a for over any turns, any target -/
theorem forK {w : World} {A : Around} {s₀ : Shared} {h : Heap} {tk : Nat} {B : Base} {L : Addr} {ns : List Str} {vs : List (Option Value)} {own nw : List (Addr × Obj)} {env : Env}
    {target : Expr} {body orelse : List Stmt} {Q : Flow → Shared → Prop} {I : Addr} {fp wr : List Addr} {n : Nat} {P Md : Nat → Value → Heap → Prop} {Sw : Nat → Heap → Prop}
    (W : KTurns PG w A target I fp wr n P Md Sw) (hal : ∀ i h, Sw i h → ∀ b ∈ wr, ∃ o, h.get? b = some o) (hfp : ∀ b ∈ fp, b ∈ wr ∨ ∃ o, B b = some o)
    (X : Fx B L ns vs (own ++ nw) h) (hown : own.map (·.1) = wr) (hst : Sw 0 h)
    (Inv : Nat → List (Option Value) → List (Addr × Obj) → Prop) (J : List (Option Value) → List (Addr × Obj) → Prop) (hI : Inv 0 vs nw)
    (turn : ∀ i v own vs nw h tk (Pp : Flow → Shared → Prop), i < n → P i v h → Inv i vs nw → own.map (·.1) = wr → Fx B L ns vs (own ++ nw) h →
      (∀ vs' nw' h' tk', Inv (i + 1) vs' nw' → Fx B L ns vs' (own ++ nw') h' → Pp .next (St s₀ h' tk') ∧ Pp .cont (St s₀ h' tk')) →
      (∀ vs' nw' h' tk', J vs' nw' → Fx B L ns vs' (own ++ nw') h' → Pp .brk (St s₀ h' tk')) → (∀ v s, Q (.ret v) s → Pp (.ret v) s) →
      wpAny (Mo w) A (assign target env v) (fun _ s₂ => wpAny (Mo w) A (execs body env) Pp NE s₂) NE (St s₀ h tk))
    (fin : ∀ vs nw h tk, Inv n vs nw → Fx B L ns vs nw h → wpAny (Mo w) A (execs orelse env) Q NE (St s₀ h tk))
    (brk : ∀ vs nw h tk, J vs nw → Fx B L ns vs nw h → Q .next (St s₀ h tk)) :
    codeAny (Mo w) A (.forLoop target (.ref I) body orelse env) (fun r s' => match r with | .ok f => Q f s' | .error e => cameBackBy (Mo w) A env NE e s') (St s₀ h tk) := by
  refine codeAny_forLoop_any (fun m s => ∃ i vs nw own h tk, m = n + 1 - i ∧ i ≤ n ∧ s = St s₀ h tk ∧ Inv i vs nw ∧ Fx B L ns vs (own ++ nw) h ∧ own.map (·.1) = wr ∧ Sw i h) ?_ (n + 1) ⟨0, vs, nw, own, h, tk, rfl, Nat.zero_le _, rfl, hI, X, hown, hst⟩
  clear hI X hst hown
  rintro m _ ⟨i, vs, nw, own, h, tk, rfl, hin, rfl, hI, X, hown, hst⟩
  by_cases hlt : i < n
  · refine W.item i _ _ _ hlt hst fun v h₁ tk₁ hMd hk₁ => ?_
    refine W.go i v _ _ _ hMd fun h' hP hst' hk₂ => ?_
    have X' : Fx B L ns vs (ownAt h' wr ++ nw) h' := X.own hown (fun a o e hn => hk₂ a o hn (hk₁ a o hn e)) (hal _ _ hst')
    have hown' := ownAt_fst (hal _ _ hst')
    refine wpAny_mono (turn i v _ vs nw h' tk₁ (fun f s₃ => match f with
          | .next | .cont => ∃ m, m < n + 1 - i ∧ ∃ i vs nw own h tk, m = n + 1 - i ∧ i ≤ n ∧ s₃ = St s₀ h tk ∧ Inv i vs nw ∧ Fx B L ns vs (own ++ nw) h ∧ own.map (·.1) = wr ∧ Sw i h
          | .brk => Q .next s₃
          | .ret v => Q (.ret v) s₃) hlt hP hI hown' X' (fun vs' nw' h₃ tk₃ hI' X₃ => ?_) (fun vs' nw' h₃ tk₃ hJ X₃ => brk _ _ _ _ hJ X₃.dropOwn) (fun _ _ q => q)) (fun _ s₂ q => wpAny_mono q (fun f s₃ q => q) fun _ _ e => e.elim) fun _ _ e => e.elim
    have hst₃ : Sw (i + 1) h₃ := W.frame _ _ _ hst' fun b hb o e => by
      rcases hfp b hb with q | ⟨o', ho'⟩
      · have hm : (b, o) ∈ ownAt h' wr := List.mem_filterMap.mpr ⟨b, q, by rw [e]; rfl⟩
        exact (X₃.news _ (List.mem_append_left _ hm)).1
      · have := X'.keep _ _ ho'
        rw [this] at e; cases e
        exact X₃.keep _ _ ho'
    exact ⟨⟨n + 1 - (i + 1), by omega, i + 1, vs', nw', _, h₃, tk₃, rfl, by omega, rfl, hI', X₃, hown', hst₃⟩, ⟨n + 1 - (i + 1), by omega, i + 1, vs', nw', _, h₃, tk₃, rfl, by omega, rfl, hI', X₃, hown', hst₃⟩⟩
  · have hin' : i = n := by omega
    subst hin'
    refine W.done _ _ _ hst fun h' tk' hkp => ?_
    have X' : Fx B L ns vs nw h' := by
      obtain ⟨⟨m, hm, hv⟩, kp, hL, nws, nd⟩ := X
      have hw : ∀ b ∈ wr, B b = none ∧ b ≠ L := fun b hb => by
        rw [← hown] at hb
        obtain ⟨p, hp, rfl⟩ := List.mem_map.mp hb
        exact (nws p (List.mem_append_left _ hp)).2
      rw [List.map_append, hown] at nd
      refine ⟨⟨m, ?_, hv⟩, fun a o e => hkp a o (fun q => ?_) (kp a o e), hL, fun p hp => ?_, (List.nodup_append.mp nd).2.1⟩
      · obtain ⟨oL, es, ep, q1, q2⟩ := hm
        exact ⟨oL, es, ep, hkp _ _ (fun q => (hw _ q).2 rfl) q1, q2⟩
      · rw [(hw a q).1] at e; cases e
      · have hp' := nws p (List.mem_append_right _ hp)
        exact ⟨hkp _ _ (fun q => (List.nodup_append.mp nd).2.2 p.1 q p.1 (List.mem_map_of_mem hp) rfl) hp'.1, hp'.2⟩
    exact wpAny_mono (fin _ _ _ _ hI X') (fun _ _ q => q) fun _ _ e => e.elim

section
variable {w : World} {A : Around} {E : Value → Shared → Prop} {s₀ : Shared} {h : Heap} {tk : Nat} {B : Base} {L : Addr} {ns : List Str} {vs : List (Option Value)} {nw : List (Addr × Obj)}
  {env : Env} {gl bl : List (Str × Value)} {x y : Str} {pos : Pos} {v : Value}
/-- two names out of a tuple of two -/
theorem asg2 {e : Nat} (i j : Nat) {p1 p2 : Pos} {k : Nat} {t : Addr} {u1 u2 : Value} {Q : Unit → Shared → Prop} (R : Rm A e) (X : Fx B L ns vs nw h) (K : FK w env L ns gl bl) (ht : h.IsTuple t #[u1, u2])
    (hx : ns[i]? = some x) (hy : ns[j]? = some y) (hi : (vs[i]?).isSome = true) (hj : ((vs.set i (some u1))[j]?).isSome = true)
    (hq : ∀ h' tk', Fx B L ns ((vs.set i (some u1)).set j (some u2)) nw h' → Q () (St s₀ h' tk')) :
    wpAny (Mo w) A (assign (.Tuple [.Name x p1, .Name y p2] k pos) env (.ref t)) Q E (St s₀ h tk) := by
  refine wpAny_assign_Tuple (s := St s₀ h tk) R.hh ht rfl rfl fun h' hx' => ?_
  have c : Chg [] h h' := fun a o e _ => hx' a o (Nat.ne_of_lt (Heap.lt_size e)) e
  refine wpAny_assignInOrder_more (wpAny_assign_Name (stv (h := h') (tk := tk) i (X.chg0 c) K hx hi fun h₂ tk₂ X₂ => ?_))
  exact wpAny_assignInOrder_more (wpAny_assign_Name (stv j X₂ K hy hj fun h₃ tk₃ X₃ => wpAny_assignInOrder_none (hq _ _ X₃)))
end
end Mine
end
section
open PySem PySem.W PyProof.Rows PySem.Calls
set_option Elab.async false
set_option maxRecDepth 100000
namespace Mine

section
variable {w : World} {A : Around} {E : Value → Shared → Prop} {s₀ : Shared} {h : Heap} {tk : Nat} {B : Base} {L : Addr} {ns : List Str} {vs : List (Option Value)} {nw : List (Addr × Obj)}
  {env : Env} {gl bl : List (Str × Value)} {x y : Str} {pos : Pos} {v : Value}
theorem cS {z : Str} {k : Nat} {Q : Value → Shared → Prop} (hq : Q (.str z tk) (St s₀ h (tk + 1))) : wpAny (Mo w) A (eval (.Constant (.str z) k pos) env) Q E (St s₀ h tk) := wpAny_Constant_str hq
/-- a method call with one argument, any type -/
theorem mcallG1 {T : String} {o e1 : Expr} {name : Str} {id : String} {apos : Pos} {Q : Value → Shared → Prop} (pa : PlainAttrs T)
    (slot : Slot T name id) (hty : typeOf (.builtin id) = pure (.type "method_descriptor"))
    (hq : wpAny (Mo w) A (eval o env) (fun ov s₁ => s₁.TypeIs ov T ∧ (∀ a, ov = .ref a → ∃ ob, s₁.heap.get? a = some ob ∧ ob.dict = none) ∧ wpAny (Mo w) A (eval e1 env) (fun y s₂ => wpAny (Mo w) A (call (.builtin id) [ov, y]) Q E s₂) E s₁) E (St s₀ h tk))
    (hbase : attributeBase o name env (eval o env) = eval o env := by rfl)
    (hline : (apos.endLine == pos.line) = true := by rfl) (he : starEach [e1] env = [(false, eval e1 env)] := by rfl) :
    wpAny (Mo w) A (eval (.Call (.Attribute o name apos) [e1] [] pos) env) Q E (St s₀ h tk) := by
  refine wpAny_Call_method (T := T) (id := id) hbase (by rw [he]; rfl) hline pa slot hty (wpAny_mono hq (fun ov s₁ q => ?_) fun _ _ e => e)
  obtain ⟨q1, q2, hc⟩ := q
  refine ⟨q1, q2, ?_⟩
  rw [he]
  exact Calls.callWith_builtin rfl (Calls.evalArgs_plain (Calls.spliced_cons (wpAny_mono hc (fun _ _ q => Calls.spliced_nil q) fun _ _ e => e)))
theorem noRefS {z : Str} {t : Tok} {hp : Heap} : ∀ a, Value.str z t = .ref a → ∃ ob, hp.get? a = some ob ∧ ob.dict = none := fun _ e => by cases e

theorem ifmt_spec {m : Nat} {t : Tok} (G : GdB w B) (hB : Hol B h) (R : Rm A 2) :
    codeAny (Mo w) A (.call (.ref 28) ⟨[.int m t], []⟩) (RetTo s₀ h [] (fun v _ => ∃ t, v = .int (m &&& 61440 : Nat) t)) (St s₀ h tk) := by
  refine call_fn (k := 1) (D := []) (ns := [Str.ofString "mode"]) (gl := []) (bl := [])
    (vals := [.int m t]) (nw := []) G hB (by simp) rfl (by simp) (by simp) R rfl (by rfl) rfl (BindsTo.of_eq rfl) ?_
  intro L env A' h₁ tk₁ K R' G' X
  dsimp only [initV] at X
  refine wpAny_execs_cons (wpAny_Return_some (wpAny_BinOp (ldv 0 X K rfl rfl (cI (andI ?_)))))
  rw [bitAnd_pp (by omega) (by decide)]
  exact ⟨_, _, rfl, hid_hol X.keep, _, rfl⟩

theorem goTup {I t : Addr} {i : Nat} {elts : List Expr} {k : Nat} {p : Pos} {Q : Unit → Shared → Prop} {s : Shared} (hit : s.heap.IsTupleIter I t i) (hq : Q () s) : wpAny (Mo w) A (letOwnedTupleGo (.Tuple elts k p) (.ref I) v) Q E s := by
  unfold letOwnedTupleGo
  cases v with
  | ref a =>
    obtain ⟨o, ho, hc, hd⟩ := hit
    refine wpAny_bind (wpAny_load ho ?_)
    rw [hc, hd]
    dsimp only
    rw [if_neg]
    · exact wpAny_pure hq
    · intro q
      simp at q
  | _ => exact wpAny_pure hq

theorem callEnum {l : Addr} {items : Array Value} {n : Nat} {Q : Value → Shared → Prop} (X : Fx B L ns vs nw h) (hl : h.get? l = some { cls := .type "tuple", data := .seq items n })
    (hq : ∀ e it h' tk', e ≠ it → Fx B L ns vs ((e, { cls := .type "enumerate", data := .fields #[.none, .bool false, .ref it, rawInt 0, .none, .none] }) :: (it, { cls := .type "tuple_iterator", data := .fields #[.ref l, .int 0 0] }) :: nw) h' → Q (.ref e) (St s₀ h' tk')) :
    wpAny (Mo w) A (call (.type "enumerate") [.ref l]) Q E (St s₀ h tk) := by
  refine callType_new F.called_enumerate (by decide) (F.typeCall_enumerate_1 _) (F.newCall_enumerate_1 _) (fun obj => F.args_object_init_2 obj _) F.entry_enumerate_new
    (meets_enumerate_tup l items n none #[]) ⟨hl, ?_⟩
  have X' := ((X.push { cls := .type "tuple_iterator", data := .fields #[.ref l, .int 0 0] } rfl).push { cls := .type "enumerate", data := .fields #[.none, .bool false, .ref h.objs.size, rawInt 0, .none, .none] } rfl)
  refine ⟨⟨_, Heap.get?_push_size _ rfl, rfl⟩, hq _ h.objs.size _ _ ?_ X'⟩
  rw [Heap.size_push]; exact Nat.succ_ne_self _
end

abbrev Tb := List (Nat × Str)
def PairsB (B : Base) : List Value → Tb → Prop
  | [], [] => True
  | v :: vs, (b, c) :: r => (∃ p t1 t2 n, v = .ref p ∧ B p = some { cls := .type "tuple", data := .seq #[.int (b : Int) t1, .str c t2] n }) ∧ PairsB B vs r
  | _, _ => False
theorem PairsB.get {B : Base} : ∀ {vs : List Value} {tb : Tb}, PairsB B vs tb → ∀ {i : Nat} {v : Value}, vs[i]? = some v → ∃ b c p t1 t2 n, tb[i]? = some (b, c) ∧ v = .ref p ∧ B p = some { cls := .type "tuple", data := .seq #[.int (b : Int) t1, .str c t2] n }
  | [], [], _, i, v, e => by simp at e
  | u :: us, (b, c) :: r, h, 0, v, e => by
    obtain ⟨⟨p, t1, t2, n, h1, h2⟩, _⟩ := h
    simp at e; subst e
    exact ⟨b, c, p, t1, t2, n, rfl, h1, h2⟩
  | u :: us, (b, c) :: r, h, i + 1, v, e => by
    simpa using PairsB.get h.2 (by simpa using e : us[i]? = some v)
  | [], _ :: _, h, _, _, _ => h.elim
  | _ :: _, [], h, _, _, _ => h.elim
theorem PairsB.length {B : Base} : ∀ {vs : List Value} {tb : Tb}, PairsB B vs tb → vs.length = tb.length
  | [], [], _ => rfl
  | _ :: _, (_, _) :: _, h => by simp [PairsB.length h.2]
  | [], _ :: _, h => h.elim
  | _ :: _, [], h => h.elim
def TabB (B : Base) (v : Value) (tb : Tb) : Prop := ∃ a rs n, v = .ref a ∧ B a = some { cls := .type "tuple", data := .seq rs.toArray n } ∧ PairsB B rs tb
def TabsB (B : Base) : List Value → List Tb → Prop
  | [], [] => True
  | v :: vs, tb :: r => TabB B v tb ∧ TabsB B vs r
  | _, _ => False
theorem TabsB.get {B : Base} : ∀ {vs : List Value} {tb : List Tb}, TabsB B vs tb → ∀ {i : Nat} {v : Value}, vs[i]? = some v → ∃ t, tb[i]? = some t ∧ TabB B v t
  | [], [], _, i, v, e => by simp at e
  | u :: us, t :: r, h, 0, v, e => by simp at e; subst e; exact ⟨t, rfl, h.1⟩
  | u :: us, t :: r, h, i + 1, v, e => by simpa using TabsB.get h.2 (by simpa using e : us[i]? = some v)
  | [], _ :: _, h, _, _, _ => h.elim
  | _ :: _, [], h, _, _, _ => h.elim

def tabs : List Tb := [[(40960, Str.ofString "l"), (49152, Str.ofString "s"), (32768, Str.ofString "-"), (24576, Str.ofString "b"), (16384, Str.ofString "d"), (8192, Str.ofString "c"), (4096, Str.ofString "p")],
  [(256, Str.ofString "r")], [(128, Str.ofString "w")], [(2112, Str.ofString "s"), (2048, Str.ofString "S"), (64, Str.ofString "x")],
  [(32, Str.ofString "r")], [(16, Str.ofString "w")], [(1032, Str.ofString "s"), (1024, Str.ofString "S"), (8, Str.ofString "x")],
  [(4, Str.ofString "r")], [(2, Str.ofString "w")], [(513, Str.ofString "t"), (512, Str.ofString "T"), (1, Str.ofString "x")]]
theorem tabs_at {w : World} {h : Heap} (G : Gd w h) : ∃ rs n, hid [] h 61 = some { cls := .type "tuple", data := .seq rs.toArray n } ∧ TabsB (hid [] h) rs tabs ∧ rs.length = 10 := by
  have k : ∀ a o, (KF w.params).lookup a = some o → hid [] h a = some o := fun a o e => by
    unfold hid; rw [if_neg (List.not_mem_nil)]; exact G.k a o e
  refine ⟨[.ref 36, .ref 38, .ref 40, .ref 44, .ref 46, .ref 48, .ref 52, .ref 54, .ref 56, .ref 60], _, k 61 _ rfl, ⟨?_, ?_, ?_, ?_, ?_, ?_, ?_, ?_, ?_, ?_, trivial⟩, rfl⟩
  · exact ⟨36, [.ref 29, .ref 30, .ref 31, .ref 32, .ref 33, .ref 34, .ref 35], _, rfl, k 36 _ rfl, ⟨29, _, _, _, rfl, k 29 _ rfl⟩, ⟨30, _, _, _, rfl, k 30 _ rfl⟩, ⟨31, _, _, _, rfl, k 31 _ rfl⟩, ⟨32, _, _, _, rfl, k 32 _ rfl⟩, ⟨33, _, _, _, rfl, k 33 _ rfl⟩, ⟨34, _, _, _, rfl, k 34 _ rfl⟩, ⟨35, _, _, _, rfl, k 35 _ rfl⟩, trivial⟩
  · exact ⟨38, [.ref 37], _, rfl, k 38 _ rfl, ⟨37, _, _, _, rfl, k 37 _ rfl⟩, trivial⟩
  · exact ⟨40, [.ref 39], _, rfl, k 40 _ rfl, ⟨39, _, _, _, rfl, k 39 _ rfl⟩, trivial⟩
  · exact ⟨44, [.ref 41, .ref 42, .ref 43], _, rfl, k 44 _ rfl, ⟨41, _, _, _, rfl, k 41 _ rfl⟩, ⟨42, _, _, _, rfl, k 42 _ rfl⟩, ⟨43, _, _, _, rfl, k 43 _ rfl⟩, trivial⟩
  · exact ⟨46, [.ref 45], _, rfl, k 46 _ rfl, ⟨45, _, _, _, rfl, k 45 _ rfl⟩, trivial⟩
  · exact ⟨48, [.ref 47], _, rfl, k 48 _ rfl, ⟨47, _, _, _, rfl, k 47 _ rfl⟩, trivial⟩
  · exact ⟨52, [.ref 49, .ref 50, .ref 51], _, rfl, k 52 _ rfl, ⟨49, _, _, _, rfl, k 49 _ rfl⟩, ⟨50, _, _, _, rfl, k 50 _ rfl⟩, ⟨51, _, _, _, rfl, k 51 _ rfl⟩, trivial⟩
  · exact ⟨54, [.ref 53], _, rfl, k 54 _ rfl, ⟨53, _, _, _, rfl, k 53 _ rfl⟩, trivial⟩
  · exact ⟨56, [.ref 55], _, rfl, k 56 _ rfl, ⟨55, _, _, _, rfl, k 55 _ rfl⟩, trivial⟩
  · exact ⟨60, [.ref 57, .ref 58, .ref 59], _, rfl, k 60 _ rfl, ⟨57, _, _, _, rfl, k 57 _ rfl⟩, ⟨58, _, _, _, rfl, k 58 _ rfl⟩, ⟨59, _, _, _, rfl, k 59 _ rfl⟩, trivial⟩

def hitT (m i : Nat) (p : Nat × Str) : Bool := if i = 0 then m &&& 61440 == p.1 else m &&& p.1 == p.1
def chT (m i : Nat) (tb : Tb) : Str := match tb.find? (hitT m i) with
  | some p => p.2
  | none => if i = 0 then Str.ofString "?" else Str.ofString "-"
def listing (m : Nat) : List Str := (List.range 10).map fun i => chT m i (tabs.getD i [])
theorem chT_hit {m i : Nat} {tb : Tb} {j : Nat} {b : Nat} {c : Str} (hn : ∀ k p, k < j → tb[k]? = some p → hitT m i p = false) (hj : tb[j]? = some (b, c)) (hh : hitT m i (b, c) = true) : chT m i tb = c := by
  have : tb.find? (hitT m i) = some (b, c) := by
    rw [List.find?_eq_some_iff_getElem]
    obtain ⟨h1, h2⟩ := List.getElem?_eq_some_iff.mp hj
    refine ⟨hh, j, h1, h2, fun k hk => ?_⟩
    rw [hn k _ hk (List.getElem?_eq_getElem (by omega))]; rfl
  unfold chT; rw [this]
theorem chT_miss {m i : Nat} {tb : Tb} (hn : ∀ k p, k < tb.length → tb[k]? = some p → hitT m i p = false) : chT m i tb = if i = 0 then Str.ofString "?" else Str.ofString "-" := by
  have : tb.find? (hitT m i) = none := by
    rw [List.find?_eq_none]
    intro p hp
    obtain ⟨k, hk⟩ := List.mem_iff_getElem?.mp hp
    rw [hn k p (List.getElem?_eq_some_iff.mp hk).1 hk]; decide
  unfold chT; rw [this]

theorem own1 {own : List (Addr × Obj)} {a : Addr} (h : own.map (·.1) = [a]) : ∃ o, own = [(a, o)] := by
  cases own with
  | nil => cases h
  | cons p r =>
    cases r with
    | nil => obtain ⟨x, o⟩ := p; simp at h; subst h; exact ⟨o, rfl⟩
    | cons q r => simp at h
theorem own2 {own : List (Addr × Obj)} {a b : Addr} (h : own.map (·.1) = [a, b]) : ∃ o o', own = [(a, o), (b, o')] := by
  cases own with
  | nil => cases h
  | cons p r =>
    obtain ⟨x, o⟩ := p
    rw [List.map_cons, List.cons.injEq] at h
    obtain ⟨o', rfl⟩ := own1 h.2
    obtain ⟨rfl, _⟩ := h
    exact ⟨o, o', rfl⟩
theorem tabs_one : (tabs.all fun tb => tb.all fun p => p.2.length == 1) = true := by decide +kernel
theorem qm_one : (Str.ofString "?").length = 1 ∧ (Str.ofString "-").length = 1 ∧ (Str.ofString "").length = 0 := by decide +kernel
theorem chT_one {m i : Nat} : (chT m i (tabs.getD i [])).length = 1 := by
  unfold chT
  split
  · rename_i p hp
    have hm := List.mem_of_find?_eq_some hp
    by_cases hi : i < tabs.length
    · have e : tabs.getD i [] = tabs[i] := by simp [hi]
      rw [e] at hm
      have := List.all_eq_true.mp tabs_one _ (List.getElem_mem hi)
      simpa using List.all_eq_true.mp this p hm
    · rw [show tabs.getD i [] = [] by simp [Nat.not_lt.mp hi]] at hm
      cases hm
  · split
    · exact qm_one.1
    · exact qm_one.2.1
theorem join_fold : ∀ (l : List Str) (k a : Nat), (∀ z ∈ l, z.length = 1) → l.foldl (fun n z => n + z.length + k) a = a + l.length * (1 + k)
  | [], k, a, _ => by simp
  | z :: r, k, a, hz => by
    rw [List.foldl_cons, join_fold r k _ (fun y hy => hz y (List.mem_cons_of_mem _ hy)), hz z List.mem_cons_self, List.length_cons, Nat.add_mul]
    omega
theorem listing_ok (m : Nat) : JoinOk (Str.ofString "") (listing m) = true := by
  unfold JoinOk
  have h1 : ∀ z ∈ listing m, z.length = 1 := fun z hz => by
    obtain ⟨i, _, rfl⟩ := List.mem_map.mp hz
    exact chT_one
  rw [← Array.foldl_toList, show (listing m).toArray.toList = listing m from rfl, qm_one.2.2, join_fold _ _ _ h1]
  have : (listing m).length = 10 := by simp [listing]
  rw [this]
  decide +kernel
abbrev fmN : List Str := [Str.ofString "mode", Str.ofString "perm", Str.ofString "index", Str.ofString "table", Str.ofString "bit", Str.ofString "char"]

section
variable {w : World} {A : Around} {s₀ : Shared} {h : Heap} {tk : Nat} {B : Base}
set_option maxHeartbeats 4000000 in
theorem filemode_spec {m : Nat} {t : Tok} (G : GdB w B) (hB : Hol B h) (R : Rm A 5) :
    codeAny (Mo w) A (.call (.ref 68) ⟨[.int m t], []⟩) (RetTo s₀ h [] (fun v _ => ∃ t, v = .str (Txt.join (Str.ofString "") (listing m)) t)) (St s₀ h tk) := by
  refine call_fn (k := 4) (D := []) (ns := fmN) (gl := [(Str.ofString "_filemode_table", .ref 61), (Str.ofString "S_IFMT", .ref 28)]) (bl := [(Str.ofString "enumerate", .type "enumerate")])
    (vals := [.int m t]) (nw := []) G hB (by simp) rfl (by simp) (by simp) R rfl (by rfl) rfl (BindsTo.of_eq rfl) ?_
  intro L env A' h₁ tk₁ K R' G' X
  dsimp only [initV] at X
  obtain ⟨rs, n61, h61, hTabs, hrs⟩ := tabs_at (G h hB)
  have hsz : (0 : Nat) ≤ sizeLine := Nat.zero_le _
  have esz : sizeLine = 16777216 := rfl
  refine wpAny_execs_cons (wpAny_Assign_Name (lstE0 (newLst X hsz ?_)))
  clear X; intro pa h₂ tk₂ _ _ X
  refine stv 1 X K rfl rfl ?_
  clear X; intro h₂ tk₂ X; dsimp only [List.set] at X
  refine wpAny_execs_cons (wpAny_For (tcall1 X G' K 0 rfl (ldg X G' K 0 rfl (callEnum X (X.keep _ _ h61) ?_))))
  clear X; intro e it h₃ tk₃ hne X
  refine wpAny_pyIter_enum (s := St s₀ h₃ tk₃) (X.get (j := 0) rfl) ?_
  have hB3 := X.keep
  have h61' := X.keep _ _ h61
  have hne1 : (61 : Nat) ≠ it := by
    intro q
    have := (X.news (it, _) (List.mem_cons_of_mem _ (List.mem_cons_self))).2.1
    rw [← q, h61] at this; cases this
  have hne2 : (61 : Nat) ≠ e := by
    intro q
    have := (X.news (e, _) (List.mem_cons_self)).2.1
    rw [← q, h61] at this; cases this
  have W0 := (WalksT.enumerateD (prog := PG) (w := w) (A := A') (drawsTuple (A := A'.in1) R'.hh it 61 hne1 rs.toArray) e hne (by simp [hne, Ne.symm hne2]) (by simp)).toU
  have e0 : ∀ k, (List.range (k + 1)).map (fun i => chT m i (tabs.getD i [])) = (List.range k).map (fun i => chT m i (tabs.getD i [])) ++ [chT m k (tabs.getD k [])] := fun k => by rw [List.range_succ]; simp
  refine forK (KTurns.ofWalksU W0) ?_ ?_ (own := [(e, _), (it, _)]) (nw := [(pa, listOf [].toArray 0)]) X rfl ?_
    (fun i vs nw => ∃ v2 v3 v4 v5 l en, vs = [some (Value.int m t), some (Value.ref pa), v2, v3, v4, v5] ∧ nw = [(pa, listOf (strValues l).toArray en)] ∧ l.map (·.1) = (List.range i).map (fun i => chT m i (tabs.getD i [])) ∧ i ≤ 10) (fun _ _ => False)
    ⟨_, _, _, _, [], 0, rfl, rfl, rfl, by omega⟩ ?_ ?_ (fun _ _ _ _ q => q.elim)
  · rintro i hp ⟨⟨old, q1⟩, ⟨o2, q2, _⟩, _⟩ b hb
    rcases List.mem_cons.mp hb with rfl | hb
    · exact ⟨_, q1⟩
    · rw [List.mem_singleton.mp hb]; exact ⟨_, q2⟩
  · intro b hb
    simp only [List.mem_cons, List.not_mem_nil, or_false] at hb
    rcases hb with rfl | rfl | rfl
    · exact .inl (by simp)
    · exact .inl (by simp)
    · exact .inr ⟨_, h61⟩
  · exact ⟨⟨_, X.get (j := 0) rfl⟩, ⟨_, X.get (j := 1) rfl, rfl, rfl⟩, ⟨_, h61', rfl, _, rfl⟩⟩
  · clear X h61' hB3
    rintro i v own vs nw h₄ tk₄ Pp hi ⟨T, vals, rfl, ⟨t', x, hx, rfl⟩, hT⟩ ⟨v2, v3, v4, v5, l, en, rfl, rfl, hl, hi10⟩ hown X hnx hbk hrt
    obtain ⟨oe, oi, rfl⟩ := own2 hown
    dsimp only [List.cons_append, List.nil_append] at X hnx
    have hil : i < 10 := by simpa [hrs] using hi
    obtain ⟨tb, htb, a, rs', n', rfl, ha, hpr⟩ := hTabs.get (by simpa using hx : rs[i]? = some x)
    have hgd : tabs.getD i [] = tb := by simp [htb]
    refine asg2 2 3 R' X K hT rfl rfl rfl rfl ?_
    clear X hT; intro h₅ tk₅ X; dsimp only [List.set] at X
    have haH := X.keep _ _ ha
    refine wpAny_execs_cons (wpAny_For (ldv 3 X K rfl rfl (wpAny_pyIter_tuple (s := St s₀ h₅ tk₅) ⟨_, haH, rfl, n', rfl⟩ ?_)))
    have hne' : a ≠ h₅.objs.size := Nat.ne_of_lt (Heap.lt_size haH)
    have X' := X.push { cls := .type "tuple_iterator", data := .fields #[.ref a, .int 0 0] } rfl
    have haH' := X'.keep _ _ ha
    have hrl := hpr.length
    have hll : l.length = i := by have := congrArg List.length hl; simpa using this
    refine forK (KTurns.ofWalks (Walks.tuple (prog := PG) (w := w) R'.hh h₅.objs.size a hne' rs'.toArray) (fun j v s Q E st hq => goTup st.1 hq)) ?_ ?_ (own := [(h₅.objs.size, _)]) (nw := [(e, oe), (it, oi), (pa, listOf (strValues l).toArray en)]) X' rfl ?_
      (fun j vs nw => ∃ v4 v5, vs = [some (Value.int m t), some (Value.ref pa), some (Value.int i t'), some (Value.ref a), v4, v5] ∧ nw = [(e, oe), (it, oi), (pa, listOf (strValues l).toArray en)] ∧ (∀ k p, k < j → tb[k]? = some p → hitT m i p = false) ∧ j ≤ tb.length)
      (fun vs nw => ∃ v2 v3 v4 v5 t'' en', vs = [some (Value.int m t), some (Value.ref pa), v2, v3, v4, v5] ∧ nw = [(e, oe), (it, oi), (pa, listOf (strValues (l ++ [(chT m i tb, t'')])).toArray en')])
      ⟨_, _, rfl, rfl, fun k p hk => absurd hk (Nat.not_lt_zero _), Nat.zero_le _⟩ ?_ ?_ ?_
    · rintro j hp ⟨⟨o2, q2, _⟩, _⟩ b hb
      rw [List.mem_singleton.mp hb]; exact ⟨_, q2⟩
    · intro b hb
      simp only [List.mem_cons, List.not_mem_nil, or_false] at hb
      rcases hb with rfl | rfl
      · exact .inl (by simp)
      · exact .inr ⟨_, ha⟩
    · exact ⟨⟨_, X'.get (j := 0) rfl, rfl, rfl⟩, ⟨_, haH', rfl, _, rfl⟩⟩
    · clear X X' haH haH'
      rintro j v own' vs nw h₆ tk₆ Pp' hj hP ⟨v4, v5, rfl, rfl, hno, hjl⟩ hown' X hnx' hbk' hrt'
      obtain ⟨oI, rfl⟩ := own1 hown'
      dsimp only [List.cons_append, List.nil_append] at X hnx' hbk'
      obtain ⟨b, c, p, t1, t2, n2, htj, rfl, hp⟩ := hpr.get (by simpa using hP : rs'[j]? = some v)
      refine asg2 4 5 R' X K ⟨_, X.keep _ _ hp, rfl, n2, rfl⟩ rfl rfl rfl rfl ?_
      clear X; intro h₂ tk₂ X; dsimp only [List.set] at X
      have hjt : j < tb.length := (List.getElem?_eq_some_iff.mp htj).1
      have hmiss : hitT m i (b, c) = false → ∀ k p, k < j + 1 → tb[k]? = some p → hitT m i p = false := fun hf k p hk hp => by
        by_cases hkj : k = j
        · subst hkj; rw [htj] at hp; cases hp; exact hf
        · exact hno k p (by omega) hp
      have hand : ∀ z : Nat, Builtin.bitAnd (m : Int) (z : Int) = ((m &&& z : Nat) : Int) := fun z => by rw [bitAnd_pp (by omega) (by omega)]; simp
      refine wpAny_execs_cons (wpAny_If (wpAny_isTrue_Compare1 (ldv 2 X K rfl rfl (cI (eqI (wpAny_truthy_bool ?_))))))
      by_cases hz : i = 0
      · rw [if_pos (eT (by omega))]
        refine wpAny_execs_cons (wpAny_If (wpAny_isTrue_Compare1 (fcall1 X G' K 1 rfl rfl (ldv 0 X K rfl rfl (And.intro (X.gd G').k (use_call (ifmt_spec G' X.keep (R'.le (by omega))) ?_))))))
        rintro _ h₇ tk₇ c' ⟨t7, rfl⟩
        replace X := X.chg0 c'
        refine ldv 4 X K rfl rfl (eqI (wpAny_truthy_bool ?_))
        by_cases hh : m &&& 61440 = b
        · rw [if_pos (eT (by omega))]
          refine wpAny_execs_cons (exprS K (mcall1 PySem.F.slot_list_append PySem.F.type_list_append (ldv 1 X K rfl rfl ?_)))
          refine ⟨_, _, _, rfl, X.get (j := 3) rfl, ?_⟩
          refine ldv 5 X K rfl rfl (appL 3 X rfl (by simp [strValues]; omega) ?_)
          clear X; intro h₂ tk₂ X; dsimp only [List.set] at X
          refine ⟨rfl, ?_⟩
          have ec : chT m i tb = c := chT_hit hno htj (by simp [hitT, hz, hh])
          have eX : strValues l ++ [Value.str c t2] = strValues (l ++ [(chT m i tb, t2)]) := by rw [ec]; simp [strValues]
          rw [eX] at X
          exact wpAny_execs_cons (wpAny_Break (hbk' _ _ _ _ ⟨_, _, _, _, t2, _, rfl, rfl⟩ X))
        · rw [if_neg (eF (by omega))]
          exact wpAny_execs_nil (wpAny_execs_nil (wpAny_execs_nil (hnx' _ _ _ _ ⟨_, _, rfl, rfl, hmiss (by simp [hitT, hz, hh]), by omega⟩ X).1))
      · rw [if_neg (eF (by omega))]
        refine wpAny_execs_cons (wpAny_If (wpAny_isTrue_Compare1 (wpAny_BinOp (ldv 0 X K rfl rfl (ldv 4 X K rfl rfl (andI ?_))))))
        rw [hand]
        refine ldv 4 X K rfl rfl (eqI (wpAny_truthy_bool ?_))
        by_cases hh : m &&& b = b
        · rw [if_pos (eT (by omega))]
          refine wpAny_execs_cons (exprS K (mcall1 PySem.F.slot_list_append PySem.F.type_list_append (ldv 1 X K rfl rfl ?_)))
          refine ⟨_, _, _, rfl, X.get (j := 3) rfl, ?_⟩
          refine ldv 5 X K rfl rfl (appL 3 X rfl (by simp [strValues]; omega) ?_)
          clear X; intro h₂ tk₂ X; dsimp only [List.set] at X
          refine ⟨rfl, ?_⟩
          have ec : chT m i tb = c := chT_hit hno htj (by simp [hitT, hz, hh])
          have eX : strValues l ++ [Value.str c t2] = strValues (l ++ [(chT m i tb, t2)]) := by rw [ec]; simp [strValues]
          rw [eX] at X
          exact wpAny_execs_cons (wpAny_Break (hbk' _ _ _ _ ⟨_, _, _, _, t2, _, rfl, rfl⟩ X))
        · rw [if_neg (eF (by omega))]
          exact wpAny_execs_nil (wpAny_execs_nil (wpAny_execs_nil (hnx' _ _ _ _ ⟨_, _, rfl, rfl, hmiss (by simp [hitT, hz, hh]), by omega⟩ X).1))
    · clear X X' haH haH'
      rintro _ _ h₆ tk₆ ⟨v4, v5, rfl, rfl, hno, hjl⟩ X
      have hno' : ∀ k p, k < tb.length → tb[k]? = some p → hitT m i p = false := fun k p hk hp => hno k p (by simp; omega) hp
      have ec := chT_miss hno'
      refine wpAny_execs_cons (wpAny_If (wpAny_isTrue_Compare1 (ldv 2 X K rfl rfl (cI (eqI (wpAny_truthy_bool ?_))))))
      by_cases hz : i = 0
      · rw [if_pos (eT (by omega))]
        refine wpAny_execs_cons (exprS K (mcall1 PySem.F.slot_list_append PySem.F.type_list_append (ldv 1 X K rfl rfl ?_)))
        refine ⟨_, _, _, rfl, X.get (j := 2) rfl, ?_⟩
        refine cS (appL 2 X rfl (by simp [strValues]; omega) ?_)
        clear X; intro h₂ tk₂ X; dsimp only [List.set] at X
        refine ⟨rfl, ?_⟩
        rw [if_pos hz] at ec
        have eX : ∀ z, strValues l ++ [Value.str (chT m i tb) z] = strValues (l ++ [(chT m i tb, z)]) := fun z => by simp [strValues]
        rw [← ec, eX] at X
        exact wpAny_execs_nil (wpAny_execs_nil (wpAny_execs_nil (hnx _ _ _ _ ⟨_, _, _, _, _, _, rfl, rfl, by rw [List.map_append, hl, e0, hgd]; rfl, by omega⟩ X).1))
      · rw [if_neg (eF (by omega))]
        refine wpAny_execs_cons (exprS K (mcall1 PySem.F.slot_list_append PySem.F.type_list_append (ldv 1 X K rfl rfl ?_)))
        refine ⟨_, _, _, rfl, X.get (j := 2) rfl, ?_⟩
        refine cS (appL 2 X rfl (by simp [strValues]; omega) ?_)
        clear X; intro h₂ tk₂ X; dsimp only [List.set] at X
        refine ⟨rfl, ?_⟩
        rw [if_neg hz] at ec
        have eX : ∀ z, strValues l ++ [Value.str (chT m i tb) z] = strValues (l ++ [(chT m i tb, z)]) := fun z => by simp [strValues]
        rw [← ec, eX] at X
        exact wpAny_execs_nil (wpAny_execs_nil (wpAny_execs_nil (hnx _ _ _ _ ⟨_, _, _, _, _, _, rfl, rfl, by rw [List.map_append, hl, e0, hgd]; rfl, by omega⟩ X).1))
    · clear X X' haH haH'
      rintro _ _ h₆ tk₆ ⟨v2, v3, v4, v5, t'', en', rfl, rfl⟩ X
      exact wpAny_execs_nil (hnx _ [(pa, listOf (strValues (l ++ [(chT m i tb, t'')])).toArray en')] _ _ ⟨_, _, _, _, _, _, rfl, rfl, by rw [List.map_append, hl, e0, hgd]; rfl, by omega⟩ X).1
  · clear X h61' hB3
    rintro _ _ h₄ tk₄ ⟨v2, v3, v4, v5, l, en, rfl, rfl, hl, hi10⟩ X
    have hl' : l.map (·.1) = listing m := by
      rw [hl]; simp [listing, hrs]
    have hll : l.length = 10 := by have := congrArg List.length hl'; simpa [listing] using this
    refine wpAny_execs_nil (wpAny_execs_cons (wpAny_Return_some (mcallG1 PySem.F.plainAttrs_str PySem.F.slot_str_join PySem.F.type_str_join (cS ?_))))
    refine ⟨typeIs_str _ _ _, noRefS, ?_⟩
    refine ldv 1 X K rfl rfl (PySem.SC.join (l := l) (texts := listing m) ⟨_, X.get (j := 0) rfl, rfl, en, rfl⟩ hl' (listing_ok m) ?_)
    intro t' k
    exact ⟨h₄, k, rfl, hid_hol X.keep, t', rfl⟩
end
end Mine
end
section
open PySem PySem.W PyProof.Rows PySem.Calls
set_option Elab.async false
set_option maxRecDepth 100000
namespace Mine
open PySem.Builtin PySem.Builtin.Str PySem.Builtin._codecs

theorem encode_ascii_tree (x : Str) (t u : Tok) : Builtin.«str.encode» ⟨[.str x t, .str (Str.ofString "ascii") u], []⟩ = (do ret (← encodeRoad "str.encode" (.str x t) x (Str.ofString "ascii") none)) := by
  kernel_rfl
theorem normal_ascii : (normalName (Str.ofString "ascii")).toString = "ascii" := by decide +kernel
theorem encodeRoad_ascii (id : String) (self : Value) (x : Str) (errors : Option Str) : encodeRoad id self x (Str.ofString "ascii") errors = (do mkBytes (← encodeNarrow id asciiCodec errors self x)) := by
  unfold encodeRoad
  rw [normal_ascii]
  rfl
theorem foldl_bytes : ∀ (l : List Nat) (acc : Array UInt8), l.foldl (fun a y => a ++ ([y.toUInt8] : List UInt8).toArray) acc = acc ++ (l.map (·.toUInt8)).toArray
  | [], acc => by simp
  | c :: r, acc => by rw [List.foldl_cons, foldl_bytes r]; simp
theorem loop2 {σ : Type} {f : Nat → σ → Sem (ForInStep σ)} {a b : σ} {k : Nat} (h0 : f 0 a = pure (.yield b)) (h1 : f 1 b = pure (.done b)) : forIn (List.range' 0 (k + 2) 1) a f = pure b := by
  have hrange : List.range' 0 (k + 2) 1 = 0 :: 1 :: List.range' 2 k 1 := by simp [List.range'_succ]
  rw [hrange, List.forIn_cons, h0, pure_bind]
  show forIn (1 :: List.range' 2 k 1) b f = _
  rw [List.forIn_cons, h1, pure_bind]
theorem encodeNarrow_ascii (id : String) (self : Value) (cs : List Nat) (hc : ∀ c ∈ cs, c < 128) (hn : 2 ≤ cs.length) (hn2 : cs.length ≤ 1000) : encodeNarrow id asciiCodec none self ⟨cs.toArray⟩ = pure (cs.map (·.toUInt8)).toArray := by
  obtain ⟨c0, r, rfl⟩ : ∃ c0 r, cs = c0 :: r := by cases cs with
    | nil => simp at hn
    | cons c r => exact ⟨c, r, rfl⟩
  obtain ⟨k, hk⟩ : ∃ k, (c0 :: r).length = k + 2 := ⟨(c0 :: r).length - 2, by omega⟩
  have hlen : (⟨(c0 :: r).toArray⟩ : Str).length = k + 2 := by show (c0 :: r).toArray.size = _; rw [List.size_toArray, hk]
  have hbad : asciiCodec.bad c0 = false := by have := hc c0 List.mem_cons_self; simp [asciiCodec]; omega
  have hno : Array.findIdx? asciiCodec.bad (c0 :: r).toArray = none := by
    rw [Array.findIdx?_eq_none_iff]
    intro x hx
    have := hc x (by simpa using hx)
    simp [asciiCodec]; omega
  have e0 : (c0 :: r).toArray[0]? = some c0 := rfl
  have hend : (c0 :: r).toArray[(c0 :: r).toArray.size]? = none := by simp
  have hb128 : (k + 2 : Nat) ≤ 1000 := by omega
  have hout : Array.foldl (fun acc y => acc ++ (asciiCodec.bytesOf y).toArray) #[] (c0 :: r).toArray = ((c0 :: r).map (·.toUInt8)).toArray := by
    rw [← Array.foldl_toList]
    show List.foldl (fun a y => a ++ ([Nat.toUInt8 y] : List UInt8).toArray) #[] (c0 :: r) = _
    rw [foldl_bytes]; simp
  have hsl : ¬ ((#[] : Array UInt8).size > sizeLine) := by decide
  have hsl2 : ¬ (((c0 :: r).map (·.toUInt8)).toArray.size > sizeLine) := by
    have : sizeLine = 16777216 := rfl
    rw [List.size_toArray, List.length_map, hk, this]; omega
  unfold encodeNarrow
  rw [hlen]
  simp only []
  rw [Std.Legacy.Range.forIn_eq_forIn_range', show Std.Legacy.Range.size [:k + 2] = k + 2 by simp [Std.Legacy.Range.size]]
  rw [loop2 (b := ((c0 :: r).toArray.size, ((c0 :: r).map (·.toUInt8)).toArray, {}))]
  · rfl
  · simp only [hsl, if_false, e0, hbad, Bool.not_false, if_true]
    simp only [Array.extract_size, hno, Option.getD_none, hout, Nat.zero_add]
  · simp only [hsl2, if_false, hend]
end Mine
end
section
open PySem PySem.W PyProof.Rows PySem.Calls
set_option Elab.async false
set_option maxRecDepth 100000
namespace Mine
open PySem.Builtin

theorem slot_bytes_translate : Slot "bytes" "translate" "bytes.translate" :=
  .of (owner := "bytes") (n := "translate") (by rw [typeLookup_type, builtinLookup_eq_fast]; kernel_rfl) (by decide +kernel) (by decide +kernel) (by decide +kernel)
    (by first | exact .inl (by decide +kernel) | exact .inr (by decide +kernel)) (by rw [isSubtype_type]; kernel_rfl)
theorem type_bytes_translate : typeOf (.builtin "bytes.translate") = pure (.type "method_descriptor") := by show builtinType _ = _; rw [builtinType_eq_fast]; kernel_rfl
theorem entry_bytes_translate : entryFor table "bytes.translate" = some Builtin.«bytes.translate» := entryFor_of_tree (by kernel_rfl)
theorem args_bytes_translate_2 (a b : Value) : argsOk "bytes.translate" ⟨[a, b], []⟩ := by unfold argsOk; kernel_rfl
theorem entry_bytes_maketrans : entryFor table "bytes.maketrans" = some Builtin.«bytes.maketrans» := entryFor_of_tree (by kernel_rfl)
theorem plain_bytes_maketrans : plainId "bytes.maketrans" = true := by decide +kernel
theorem check_bytes_maketrans_2 (a b : Value) : checkBuiltinCall "bytes.maketrans" ⟨[a, b], []⟩ = pure () := by kernel_rfl
theorem maketrans_tree (a b : Array UInt8) (t u : Tok) (h : a.size = b.size) : Builtin.«bytes.maketrans» ⟨[.bytes a t, .bytes b u], []⟩ =
    (do ret (← mkBytes ((a.toList.zip b.toList).foldl (fun t (f, x) => t.setIfInBounds f.toNat x) ((Array.range 256).map (·.toUInt8))))) := by
  have e : Builtin.«bytes.maketrans» ⟨[.bytes a t, .bytes b u], []⟩ = (do
      if a.size != b.size then rule "bytes.maketrans.sizes"; raiseError "ValueError" "maketrans arguments must have same length"
      ret (← mkBytes ((a.toList.zip b.toList).foldl (fun t (f, x) => t.setIfInBounds f.toNat x) ((Array.range 256).map (·.toUInt8))))) := by kernel_rfl
  rw [e, h]
  simp
theorem foldl_set_size (l : List (UInt8 × UInt8)) (t : Array UInt8) : (l.foldl (fun t (p : UInt8 × UInt8) => t.setIfInBounds p.1.toNat p.2) t).size = t.size := by
  induction l generalizing t with
  | nil => rfl
  | cons p r ih => rw [List.foldl_cons, ih]; simp

section
variable {w : World} {A : Around} {E : Value → Shared → Prop} {s₀ : Shared} {h : Heap} {tk : Nat} {B : Base} {L : Addr} {ns : List Str} {vs : List (Option Value)} {nw : List (Addr × Obj)}
  {env : Env} {gl bl : List (Str × Value)} {pos : Pos}
theorem encA {cs : List Nat} {t u : Tok} {Q : Value → Shared → Prop} (hc : ∀ c ∈ cs, c < 128) (hn : 2 ≤ cs.length) (hn2 : cs.length ≤ 1000) (hq : ∀ t' tk', Q (.bytes (cs.map (·.toUInt8)).toArray t') (St s₀ h tk')) :
    wpAny (Mo w) A (call (.builtin "str.encode") [.str ⟨cs.toArray⟩ t, .str (Str.ofString "ascii") u]) Q E (St s₀ h tk) := by
  refine wpAny_call_entry PySem.F.slot_str_encode (typeIs_str _ _ _) PySem.F.entry_str_encode ?_ (PySem.F.args_str_encode_2 _ _)
  rw [encode_ascii_tree, encodeRoad_ascii, encodeNarrow_ascii _ _ _ hc hn hn2]
  have hsz : (cs.map (·.toUInt8)).toArray.size ≤ sizeLine := by
    have : sizeLine = 16777216 := rfl
    rw [List.size_toArray, List.length_map, this]; omega
  refine wpAny_bind (wpAny_bind (wpAny_pure (wpAny_mkBytes (wpAny_pure ⟨_, rfl, hq _ _⟩) hsz)))

theorem isi_str {x : Str} {t : Tok} {Q : Value → Shared → Prop} (hq : Q (.bool true) (St s₀ h tk)) : wpAny (Mo w) A (call (.builtin "isinstance") [.str x t, .type "str"]) Q E (St s₀ h tk) :=
  call_isinstance_yes (Tx := "str") (typeIs_str _ _ _) rfl PySem.F.sub_str_str hq
theorem sub_bytes_str : isSubtype (.type "bytes") (.type "str") = pure false := by rw [isSubtype_type]; kernel_rfl
theorem sub_bytes_bytes : isSubtype (.type "bytes") (.type "bytes") = pure true := by rw [isSubtype_type]; kernel_rfl
theorem sub_bytes_bytearray : isSubtype (.type "bytes") (.type "bytearray") = pure false := by rw [isSubtype_type]; kernel_rfl
theorem isi_bytes_str {b : Array UInt8} {t : Tok} {Q : Value → Shared → Prop} (hq : Q (.bool false) (St s₀ h (tk + 1))) : wpAny (Mo w) A (call (.builtin "isinstance") [.bytes b t, .type "str"]) Q E (St s₀ h tk) :=
  call_isinstance_of (isinstance_nested_false_bytes (by decide) rfl sub_bytes_str hq) (by intro e; cases e)
theorem isi_bytes_tup {b : Array UInt8} {t : Tok} {tp : Addr} {Q : Value → Shared → Prop} (ht : h.get? tp = some { cls := .type "tuple", data := .seq #[.type "bytes", .type "bytearray"] }) (hq : ∀ tk', Q (.bool true) (St s₀ h tk')) :
    wpAny (Mo w) A (call (.builtin "isinstance") [.bytes b t, .ref tp]) Q E (St s₀ h tk) := by
  have a2 : Answers (fun s => s.TypeIs (.bytes b t) "bytes") (.bytes b t) (.type "bytearray") false := fun _ _ _ _ _ _ s hs => by
    obtain ⟨h, g, d, tt, os⟩ := s
    exact isinstance_nested_false_bytes (by decide) rfl sub_bytes_bytearray (hs.2 (tt + 1))
  refine call_isinstance (isinstance_tuple (Tx := "bytes") (AnswersAll.cons (Answers.of_true rfl sub_bytes_bytes) (AnswersAll.cons a2 AnswersAll.nil))) ⟨typeIs_bytes _ _ _, ht, fun tk' => hq tk'⟩

theorem mktr {a b : Array UInt8} {t u : Tok} {Q : Value → Shared → Prop} (h2 : a.size = b.size)
    (hq : ∀ t' tk', Q (.bytes ((a.toList.zip b.toList).foldl (fun t (f, x) => t.setIfInBounds f.toNat x) ((Array.range 256).map (·.toUInt8))) t') (St s₀ h tk')) :
    wpAny (Mo w) A (call (.builtin "bytes.maketrans") [.bytes a t, .bytes b u]) Q E (St s₀ h tk) := by
  refine wpAny_call (codeAny_call_builtin plain_bytes_maketrans entry_bytes_maketrans (wpAny_of_eq (check_bytes_maketrans_2 _ _) ?_))
  rw [maketrans_tree _ _ _ _ h2]
  refine wpAny_bind (wpAny_mkBytes (wpAny_pure (hq _ _)) ?_)
  have : sizeLine = 16777216 := rfl
  rw [foldl_set_size, this]; simp
theorem trans_tree (b tb : Array UInt8) (t u : Tok) (h2 : tb.size = 256) : Builtin.«bytes.translate» ⟨[.bytes b t, .bytes tb u], []⟩ =
    (if (b.map fun c => tb.getD c.toNat c) == b then (do rule "bytes.translate.unchanged"; ret (.bytes b t)) else (do ret (← mkBytes (b.map fun c => tb.getD c.toNat c)))) := by
  have e : Builtin.«bytes.translate» ⟨[.bytes b t, .bytes tb u], []⟩ = (do
      if tb.size != 256 then rule "bytes.translate.table-size"; raiseError "ValueError" "translation table must be 256 characters long"
      if ((b.filter (!(#[] : Array UInt8).contains ·)).map fun c => tb.getD c.toNat c) == b then (do rule "bytes.translate.unchanged"; ret (.bytes b t)) else (do ret (← mkBytes ((b.filter (!(#[] : Array UInt8).contains ·)).map fun c => tb.getD c.toNat c)))) := by kernel_rfl
  rw [e, h2]
  have e2 : b.filter (fun x => !(#[] : Array UInt8).contains x) = b := by
    rw [Array.filter_eq_self]; intro a ha; simp
  rw [e2]
  simp
theorem trns {b tb : Array UInt8} {t u : Tok} {Q : Value → Shared → Prop} (h2 : tb.size = 256) (hb : b.size ≤ sizeLine) (hq : ∀ t' tk', Q (.bytes (b.map fun c => tb.getD c.toNat c) t') (St s₀ h tk')) :
    wpAny (Mo w) A (call (.builtin "bytes.translate") [.bytes b t, .bytes tb u]) Q E (St s₀ h tk) := by
  refine wpAny_call_entry slot_bytes_translate (typeIs_bytes _ _ _) entry_bytes_translate ?_ (args_bytes_translate_2 _ _)
  rw [trans_tree _ _ _ _ h2]
  by_cases he : ((b.map fun c => tb.getD c.toNat c) == b) = true
  · rw [if_pos he]
    have e2 := eq_of_beq he
    refine wpAny_bind (wpAny_rule (wpAny_pure ⟨_, rfl, ?_⟩))
    have := hq t tk
    rw [e2] at this; exact this
  · rw [if_neg he]
    exact wpAny_bind (wpAny_mkBytes (wpAny_pure ⟨_, rfl, hq _ _⟩) (by simpa using hb))

theorem bcall2 {e1 e2 : Expr} {g : Str} {id : String} {p : Pos} {Q : Value → Shared → Prop} (X : Fx B L ns vs nw h) (G : GdB w B) (K : FK w env L ns gl bl) (i : Nat) (hg : bl[i]? = some (g, .builtin id))
    (hq : wpAny (Mo w) A (eval e1 env) (fun v1 s1 => wpAny (Mo w) A (eval e2 env) (fun v2 s2 => wpAny (Mo w) A (call (.builtin id) [v1, v2]) Q E s2) E s1) E (St s₀ h tk))
    (he : starEach [e1, e2] env = [(false, eval e1 env), (false, eval e2 env)] := by rfl) : wpAny (Mo w) A (eval (.Call (.Name g p) [e1, e2] [] pos) env) Q E (St s₀ h tk) := by
  refine wpAny_Call_NameR (ldb X G K i hg ?_)
  rw [he]
  exact Calls.callWith_builtin rfl (Calls.evalArgs_plain (Calls.spliced_cons (wpAny_mono hq (fun _ _ q => Calls.spliced_cons (wpAny_mono q (fun _ _ q => Calls.spliced_nil q) fun _ _ e => e)) fun _ _ e => e)))
end

section
variable {w : World} {A : Around} {s₀ : Shared} {h : Heap} {tk : Nat} {B : Base}
theorem bfdS_spec {cs : List Nat} {t : Tok} (G : GdB w B) (hB : Hol B h) (R : Rm A 3) (hc : ∀ c ∈ cs, c < 128) (hn : 2 ≤ cs.length) (hn2 : cs.length ≤ 1000) :
    codeAny (Mo w) A (.call (.ref 76) ⟨[.str ⟨cs.toArray⟩ t], []⟩) (RetTo s₀ h [] (fun v _ => ∃ t, v = .bytes (cs.map (·.toUInt8)).toArray t)) (St s₀ h tk) := by
  refine call_fn (k := 2) (D := []) (ns := [Str.ofString "s"]) (gl := []) (bl := [(Str.ofString "isinstance", .builtin "isinstance"), (Str.ofString "str", .type "str")])
    (vals := [.str ⟨cs.toArray⟩ t]) (nw := []) G hB (by simp) rfl (by simp) (by simp) R rfl (by rfl) rfl (BindsTo.of_eq rfl) ?_
  intro L env A' h₁ tk₁ K R' G' X
  dsimp only [initV] at X
  refine wpAny_execs_cons (wpAny_If (wpAny_isTrue_value (bcall2 X G' K 0 rfl (ldv 0 X K rfl rfl (ldb X G' K 1 rfl (isi_str (wpAny_truthy_bool ?_)))))))
  rw [if_pos rfl]
  refine wpAny_execs_cons (wpAny_Try_except (wpAny_mono (E := NE) (Q := fun f s' => ∃ b tk' t', f = .ret b ∧ s' = St s₀ h₁ tk' ∧ b = .bytes (cs.map (·.toUInt8)).toArray t') ?_ (fun f s' q => ?_) fun _ _ e => e.elim))
  · refine wpAny_execs_cons (wpAny_Return_some (mcallG1 PySem.F.plainAttrs_str PySem.F.slot_str_encode PySem.F.type_str_encode (ldv 0 X K rfl rfl ?_)))
    refine ⟨typeIs_str _ _ _, noRefS, ?_⟩
    refine cS (encA hc hn hn2 ?_)
    intro t' tk'
    exact ⟨_, tk', t', rfl, rfl, rfl⟩
  · obtain ⟨b, tk', t', rfl, rfl, rfl⟩ := q
    exact ⟨h₁, tk', rfl, hid_hol X.keep, t', rfl⟩
theorem bfdB_spec {b : Array UInt8} {t : Tok} (G : GdB w B) (hB : Hol B h) (R : Rm A 3) :
    codeAny (Mo w) A (.call (.ref 76) ⟨[.bytes b t], []⟩) (RetTo s₀ h [] (fun v _ => v = .bytes b t)) (St s₀ h tk) := by
  refine call_fn (k := 2) (D := []) (ns := [Str.ofString "s"]) (gl := [(Str.ofString "bytes_types", .ref 69)]) (bl := [(Str.ofString "isinstance", .builtin "isinstance"), (Str.ofString "str", .type "str")])
    (vals := [.bytes b t]) (nw := []) G hB (by simp) rfl (by simp) (by simp) R rfl (by rfl) rfl (BindsTo.of_eq rfl) ?_
  intro L env A' h₁ tk₁ K R' G' X
  dsimp only [initV] at X
  refine wpAny_execs_cons (wpAny_If (wpAny_isTrue_value (bcall2 X G' K 0 rfl (ldv 0 X K rfl rfl (ldb X G' K 1 rfl (isi_bytes_str (wpAny_truthy_bool ?_)))))))
  rw [if_neg (by decide)]
  refine wpAny_execs_nil (wpAny_execs_cons (wpAny_If (wpAny_isTrue_value (bcall2 X G' K 0 rfl (ldv 0 X K rfl rfl (ldg X G' K 0 rfl (isi_bytes_tup ((X.gd G').k 69 _ rfl) ?_)))))))
  intro tk'
  refine wpAny_truthy_bool ?_
  rw [if_pos rfl]
  exact wpAny_execs_cons (wpAny_Return_some (ldv 0 X K rfl rfl (⟨h₁, tk', rfl, hid_hol X.keep, rfl⟩)))
end
end Mine
end
section
open PySem PySem.W PyProof.Rows PySem.Calls
set_option Elab.async false
set_option maxRecDepth 100000
namespace Mine
open PySem.Builtin

def b64v (c : Nat) : Nat := if 65 ≤ c ∧ c ≤ 90 then c - 65 else if 97 ≤ c ∧ c ≤ 122 then c - 71 else if 48 ≤ c ∧ c ≤ 57 then c + 4 else if c = 43 then 62 else if c = 47 then 63 else 64

section
variable {w : World} {A : Around} {s₀ : Shared} {h : Heap} {tk : Nat} {B : Base}
theorem ascb_spec {b : Array UInt8} {t : Tok} (G : GdB w B) (hB : Hol B h) (R : Rm A 3) :
    codeAny (Mo w) A (.call (.ref 96) ⟨[.bytes b t], []⟩) (RetTo s₀ h [] (fun v _ => v = .bytes b t)) (St s₀ h tk) := by
  refine call_fn (k := 2) (D := []) (ns := [Str.ofString "data", Str.ofString "t"]) (gl := []) (bl := [(Str.ofString "type", .type "type"), (Str.ofString "str", .type "str"), (Str.ofString "bytes", .type "bytes")])
    (vals := [.bytes b t]) (nw := []) G hB (by simp) rfl (by simp) (by simp) R rfl (by rfl) rfl (BindsTo.of_eq rfl) ?_
  intro L env A' h₁ tk₁ K R' G' X
  dsimp only [initV] at X
  refine wpAny_execs_cons (wpAny_Assign_Name (tcall1 X G' K 0 rfl (ldv 0 X K rfl rfl (call_type_of (typeIs_bytes _ _ _) (by decide) (stv 1 X K rfl rfl ?_)))))
  clear X; intro h₂ tk₂ X; dsimp only [List.set] at X
  refine wpAny_execs_cons (wpAny_If (wpAny_isTrue_Compare1 (ldv 1 X K rfl rfl (ldb X G' K 1 rfl (wpAny_is_other rfl (by decide) (wpAny_truthy_bool ?_))))))
  rw [if_neg (by decide)]
  refine wpAny_execs_nil (wpAny_execs_cons (wpAny_If (wpAny_isTrue_Compare1 (ldv 1 X K rfl rfl (ldb X G' K 2 rfl (wpAny_is_self rfl (wpAny_truthy_bool ?_)))))))
  rw [if_pos rfl]
  exact wpAny_execs_cons (wpAny_Return_some (ldv 0 X K rfl rfl (⟨_, _, rfl, hid_hol X.keep, rfl⟩)))

theorem truth_spec (G : GdB w B) (hB : Hol B h) (R : Rm A 3) :
    codeAny (Mo w) A (.call (.ref 103) ⟨[.bool false], []⟩) (RetTo s₀ h [] (fun v _ => v = .bool false)) (St s₀ h tk) := by
  refine call_fn (k := 2) (D := []) (ns := [Str.ofString "x", Str.ofString "t"]) (gl := []) (bl := [(Str.ofString "type", .type "type"), (Str.ofString "bool", .type "bool")])
    (vals := [.bool false]) (nw := []) G hB (by simp) rfl (by simp) (by simp) R rfl (by rfl) rfl (BindsTo.of_eq rfl) ?_
  intro L env A' h₁ tk₁ K R' G' X
  dsimp only [initV] at X
  refine wpAny_execs_cons (wpAny_Assign_Name (tcall1 X G' K 0 rfl (ldv 0 X K rfl rfl (call_type_of (Tx := "bool") rfl (by decide) (stv 1 X K rfl rfl ?_)))))
  clear X; intro h₂ tk₂ X; dsimp only [List.set] at X
  refine wpAny_execs_cons (wpAny_If (wpAny_isTrue_BoolOp (wpAny_allTrue_Or_cons (wpAny_isTrue_Compare1 (ldv 0 X K rfl rfl (wpAny_Constant_none (wpAny_is_other rfl (by decide) (wpAny_truthy_bool ?_))))))))
  rw [if_neg (by decide)]
  refine wpAny_allTrue_Or_cons (wpAny_isTrue_Compare1 (ldv 1 X K rfl rfl (ldb X G' K 1 rfl (wpAny_is_self rfl (wpAny_truthy_bool ?_)))))
  rw [if_pos rfl, if_pos rfl]
  refine wpAny_execs_cons (wpAny_Return_some (wpAny_IfExp (wpAny_isTrue_value (ldv 0 X K rfl rfl (wpAny_truthy_bool ?_)))))
  rw [if_neg (by decide)]
  exact wpAny_Constant_bool (⟨_, _, rfl, hid_hol X.keep, rfl⟩)

set_option maxHeartbeats 1000000 in
theorem b64v_spec {c : Nat} {t : Tok} (G : GdB w B) (hB : Hol B h) (R : Rm A 3) :
    codeAny (Mo w) A (.call (.ref 110) ⟨[.int c t], []⟩) (RetTo s₀ h [] (fun v _ => ∃ t, v = .int (b64v c : Nat) t)) (St s₀ h tk) := by
  refine call_fn (k := 2) (D := []) (ns := [Str.ofString "c"]) (gl := []) (bl := [])
    (vals := [.int c t]) (nw := []) G hB (by simp) rfl (by simp) (by simp) R rfl (by rfl) rfl (BindsTo.of_eq rfl) ?_
  intro L env A' h₁ tk₁ K R' G' X
  dsimp only [initV] at X
  have chain : ∀ {a b : Int} {p1 p2 p3 p4 : Pos} {k1 k2 : Nat} {whole : Sem Value} {Q : Bool → Shared → Prop} (tk : Nat), (∀ tk', Q (decide (a ≤ (c : Int) ∧ (c : Int) ≤ b)) (St s₀ h₁ tk')) →
      wpAny (Mo w) A' (isTrue (.Compare (.Constant (.int a) k1 p1) [.LtE, .LtE] [.Name (Str.ofString "c") p2, .Constant (.int b) k2 p3] p4) env whole) Q NE (St s₀ h₁ tk) := by
    intro a b p1 p2 p3 p4 k1 k2 whole Q tk hq
    refine isTrue_chain (cI (test_link (ldv 0 X K rfl rfl (leI (wpAny_truthy_bool ?_)))))
    by_cases h1 : a ≤ (c : Int)
    · rw [if_pos (dT h1)]
      refine test_last (cI (leI (wpAny_truthy_bool ?_)))
      have := hq (tk + 1 + 1)
      by_cases h2 : (c : Int) ≤ b
      · rw [decide_eq_true h2]; rw [decide_eq_true ⟨h1, h2⟩] at this; exact this
      · rw [decide_eq_false h2]; rw [decide_eq_false (fun q => h2 q.2)] at this; exact this
    · rw [if_neg (dF h1)]
      have := hq (tk + 1)
      rw [decide_eq_false (fun q => h1 q.1)] at this; exact this
  refine wpAny_execs_cons (wpAny_If (chain _ fun tk₂ => ?_))
  by_cases c1 : 65 ≤ c ∧ c ≤ 90
  · rw [if_pos (dT (by omega))]
    refine wpAny_execs_cons (wpAny_Return_some (wpAny_BinOp (ldv 0 X K rfl rfl (cI (subI ?_)))))
    rw [show (c : Int) - 65 = ((b64v c : Nat) : Int) by unfold b64v; rw [if_pos c1]; omega]
    exact ⟨_, _, rfl, hid_hol X.keep, _, rfl⟩
  rw [if_neg (dF (by omega))]
  refine wpAny_execs_nil (wpAny_execs_cons (wpAny_If (chain _ fun tk₂ => ?_)))
  by_cases c2 : 97 ≤ c ∧ c ≤ 122
  · rw [if_pos (dT (by omega))]
    refine wpAny_execs_cons (wpAny_Return_some (wpAny_BinOp (ldv 0 X K rfl rfl (cI (subI ?_)))))
    rw [show (c : Int) - 71 = ((b64v c : Nat) : Int) by unfold b64v; rw [if_neg c1, if_pos c2]; omega]
    exact ⟨_, _, rfl, hid_hol X.keep, _, rfl⟩
  rw [if_neg (dF (by omega))]
  refine wpAny_execs_nil (wpAny_execs_cons (wpAny_If (chain _ fun tk₂ => ?_)))
  by_cases c3 : 48 ≤ c ∧ c ≤ 57
  · rw [if_pos (dT (by omega))]
    refine wpAny_execs_cons (wpAny_Return_some (wpAny_BinOp (ldv 0 X K rfl rfl (cI (addI ?_)))))
    rw [show (c : Int) + 4 = ((b64v c : Nat) : Int) by unfold b64v; rw [if_neg c1, if_neg c2, if_pos c3]; omega]
    exact ⟨_, _, rfl, hid_hol X.keep, _, rfl⟩
  rw [if_neg (dF (by omega))]
  refine wpAny_execs_nil (wpAny_execs_cons (wpAny_If (wpAny_isTrue_Compare1 (ldv 0 X K rfl rfl (cI (eqI (wpAny_truthy_bool ?_)))))))
  by_cases c4 : c = 43
  · rw [if_pos (eT (by omega)), show b64v c = 62 by rw [c4]; decide]
    exact wpAny_execs_cons (wpAny_Return_some (cI (⟨_, _, rfl, hid_hol X.keep, _, rfl⟩)))
  rw [if_neg (eF (by omega))]
  refine wpAny_execs_nil (wpAny_execs_cons (wpAny_If (wpAny_isTrue_Compare1 (ldv 0 X K rfl rfl (cI (eqI (wpAny_truthy_bool ?_)))))))
  by_cases c5 : c = 47
  · rw [if_pos (eT (by omega)), show b64v c = 63 by rw [c5]; decide]
    exact wpAny_execs_cons (wpAny_Return_some (cI (⟨_, _, rfl, hid_hol X.keep, _, rfl⟩)))
  rw [if_neg (eF (by omega)), show b64v c = 64 by unfold b64v; rw [if_neg c1, if_neg c2, if_neg c3, if_neg c4, if_neg c5]]
  exact wpAny_execs_nil (wpAny_execs_cons (wpAny_Return_some (cI (⟨_, _, rfl, hid_hol X.keep, _, rfl⟩))))
end
end Mine
end
section
open PySem PySem.W PyProof.Rows PySem.Calls
set_option Elab.async false
set_option maxRecDepth 100000
namespace Mine
open PySem.Builtin

theorem and_low (a b k : Nat) (hb : b < 2 ^ k) : (a * 2 ^ k) &&& b = 0 := by
  apply Nat.eq_of_testBit_eq
  intro i
  rw [Nat.testBit_and, Nat.zero_testBit]
  by_cases hi : i < k
  · rw [Nat.testBit_mul_two_pow]
    simp [Nat.not_le.mpr hi]
  · rw [Nat.testBit_lt_two_pow (x := b) (Nat.lt_of_lt_of_le hb (Nat.pow_le_pow_right (by decide) (Nat.not_lt.mp hi)))]
    simp
theorem orN (a b k : Nat) (hb : b < 2 ^ k) : Builtin.bitOr ((a * 2 ^ k : Nat) : Int) (b : Int) = ((a * 2 ^ k + b : Nat) : Int) := by
  rw [bitOr_and, bitAnd_pp (by omega) (by omega), Int.toNat_natCast, Int.toNat_natCast, and_low a b k hb]
  omega

abbrev S3 := Nat × Nat × List Nat
def stp (s : S3) (v : Nat) : S3 := match s.1 with
  | 0 => (1, v, s.2.2)
  | 1 => (2, v % 16, s.2.2 ++ [s.2.1 * 4 + v / 16])
  | 2 => (3, v % 4, s.2.2 ++ [s.2.1 * 16 + v / 4])
  | _ => (0, 0, s.2.2 ++ [s.2.1 * 64 + v])
theorem stp_out {s : S3} {v : Nat} : (stp s v).2.2.length ≤ s.2.2.length + 1 := by
  unfold stp; split <;> simp
theorem stp_fold_out : ∀ (l : List Nat) (s : S3), (l.foldl stp s).2.2.length ≤ s.2.2.length + l.length
  | [], s => by simp
  | v :: r, s => by
    rw [List.foldl_cons, List.length_cons]
    have := stp_fold_out r (stp s v); have := @stp_out s v; omega

section
variable {w : World} {A : Around} {E : Value → Shared → Prop} {s₀ : Shared} {h : Heap} {tk : Nat} {B : Base} {L : Addr} {ns : List Str} {vs : List (Option Value)} {nw : List (Addr × Obj)}
theorem itB {b : Array UInt8} {t : Tok} {Q : Value → Shared → Prop} (X : Fx B L ns vs nw h) (hq : ∀ I h' tk', Fx B L ns vs ((I, { cls := .type "bytes_iterator", data := .fields #[.bytes b t, .int 0 0] }) :: nw) h' → Q (.ref I) (St s₀ h' tk')) :
    wpAny (Mo w) A (pyIter (.bytes b t)) Q E (St s₀ h tk) := KBw.pyIter_bytes (hq _ _ _ (X.push _ rfl))
end
section
variable {w : World} {A : Around} {s₀ : Shared} {h : Heap} {tk : Nat} {B : Base}
abbrev aN : List Str := [Str.ofString "data", Str.ofString "strict_mode", Str.ofString "ascii_data", Str.ofString "out", Str.ofString "quad_pos", Str.ofString "leftchar", Str.ofString "pads", Str.ofString "i", Str.ofString "this_ch"]
set_option maxHeartbeats 4000000 in
theorem a2b_spec {b : Array UInt8} {t : Tok} {out : List Nat} (G : GdB w B) (hB : Hol B h) (R : Rm A 6) (hsz : b.size < 1000)
    (hb : ∀ (i : Nat) (c : UInt8), b[i]? = some c → c.toNat ≠ 61 ∧ b64v c.toNat < 64) (hfin : (b.toList.map fun c => b64v c.toNat).foldl stp (0, 0, []) = (0, 0, out)) (hout : ∀ x ∈ out, x < 256) :
    codeAny (Mo w) A (.call (.ref 118) ⟨[.bytes b t], [(Str.ofString "strict_mode", .bool false)]⟩) (RetTo s₀ h [] (fun v _ => ∃ t, v = .bytes (byteArr (zs out)) t)) (St s₀ h tk) := by
  refine call_fn (k := 5) (D := []) (ns := aN) (gl := [(Str.ofString "_ascii_buffer", .ref 96), (Str.ofString "_truth", .ref 103), (Str.ofString "_b64_value", .ref 110)]) (bl := [(Str.ofString "bytes", .type "bytes")])
    (vals := [.bytes b t, .bool false]) (nw := []) G hB (by simp) rfl (by simp) (by simp) R rfl (by rfl) rfl (BindsTo.of_eq rfl) ?_
  intro L env A' h₁ tk₁ K R' G' X
  dsimp only [initV] at X
  have esz : sizeLine = 16777216 := rfl
  have z0 : (0 : Nat) ≤ sizeLine := Nat.zero_le _
  refine wpAny_execs_cons (wpAny_Assign_Name (fcall1 X G' K 0 rfl rfl (ldv 0 X K rfl rfl (And.intro (X.gd G').k (use_call (ascb_spec G' X.keep (R'.le (by omega))) ?_)))))
  rintro _ h₂ tk₂ c rfl
  replace X := X.chg0 c
  refine stv 2 X K rfl rfl ?_
  clear X; intro h₂ tk₂ X; dsimp only [List.set] at X
  refine wpAny_execs_cons (wpAny_Assign_Name (fcall1 X G' K 1 rfl rfl (ldv 1 X K rfl rfl (And.intro (X.gd G').k (use_call (truth_spec G' X.keep (R'.le (by omega))) ?_)))))
  rintro _ h₂ tk₂ c rfl
  replace X := X.chg0 c
  refine stv 1 X K rfl rfl ?_
  clear X; intro h₂ tk₂ X; dsimp only [List.set] at X
  refine wpAny_execs_cons (wpAny_Assign_Name (lstE0 (newLst X z0 ?_)))
  clear X; intro o h₂ tk₂ _ _ X
  refine stv 3 X K rfl rfl ?_
  clear X; intro h₂ tk₂ X; dsimp only [List.set] at X
  refine wpAny_execs_cons (wpAny_Assign_Name (cI (stv 4 X K rfl rfl ?_)))
  clear X; intro h₂ tk₂ X; dsimp only [List.set] at X
  refine wpAny_execs_cons (wpAny_Assign_Name (cI (stv 5 X K rfl rfl ?_)))
  clear X; intro h₂ tk₂ X; dsimp only [List.set] at X
  refine wpAny_execs_cons (wpAny_Assign_Name (cI (stv 6 X K rfl rfl ?_)))
  clear X; intro h₂ tk₂ X; dsimp only [List.set] at X
  refine wpAny_execs_cons (wpAny_Assign_Name (cI (stv 7 X K rfl rfl ?_)))
  clear X; intro h₂ tk₂ X; dsimp only [List.set] at X
  refine wpAny_execs_cons (wpAny_For (ldv 2 X K rfl rfl (itB X ?_)))
  clear X; intro I hI tkI X'
  refine forW 8 (KBw.walks (prog := PG) (w := w) R'.hh I b t) (fun i h q => by obtain ⟨o, ho, _⟩ := q; exact ⟨o, ho⟩) (fun b hb => .inl (List.mem_singleton.mp hb)) K X' ⟨_, X'.get (j := 0) rfl, rfl, rfl⟩ rfl
    (fun j vs nw => ∃ (t4 t5 t6 t7 : Tok) (v8 : Option Value) (ws : List Value) (en q l : Nat) (os : List Nat), vs = [some (Value.bytes b t), some (Value.bool false), some (Value.bytes b t), some (Value.ref o), some (Value.int q t4), some (Value.int l t5), some (Value.int 0 t6), some (Value.int j t7), v8] ∧
      nw = [(o, listOf ws.toArray en)] ∧ IntsAre ws (zs os) ∧ ((b.toList.map fun c => b64v c.toNat).take j).foldl stp (0, 0, []) = (q, l, os) ∧ q < 4 ∧ l < 64) (fun _ _ => False)
    ⟨_, _, _, _, _, [], 0, 0, 0, [], rfl, rfl, .nil, rfl, by omega, by omega⟩ (by rintro i _ _ ⟨_, _, _, _, _, _, _, _, _, _, rfl, _⟩; rfl) ?_ ?_ (fun _ _ _ _ q => q.elim)
  · clear X'
    rintro j _ oI _ _ h₃ tk₃ Pp hj ⟨c, u, hcj, rfl⟩ ⟨t4, t5, t6, t7, v8, ws, en, q, l, os, rfl, rfl, hws, hst, hq4, hl64⟩ X hnx hbk hrt
    dsimp only [List.set] at X
    obtain ⟨hc61, hv64⟩ := hb j c hcj
    have hwl : ws.length ≤ j := by
      have h1 := hws.length
      have h2 := stp_fold_out ((b.toList.map fun c => b64v c.toNat).take j) (0, 0, [])
      rw [hst] at h2
      simp at h1 h2; omega
    have hnext : ((b.toList.map fun c => b64v c.toNat).take (j + 1)).foldl stp (0, 0, []) = stp (q, l, os) (b64v c.toNat) := by
      have e : (b.toList.map fun c => b64v c.toNat)[j]? = some (b64v c.toNat) := by
        rw [List.getElem?_map, Array.getElem?_toList, hcj]; rfl
      rw [List.take_add_one, e, List.foldl_append, hst]; rfl
    obtain ⟨v, hv⟩ : ∃ v, b64v c.toNat = v := ⟨_, rfl⟩
    rw [hv] at hv64 hnext
    refine wpAny_execs_cons (wpAny_If (wpAny_isTrue_Compare1 (ldv 8 X K rfl rfl (cI (eqI (wpAny_truthy_bool ?_))))))
    rw [if_neg (eF (by omega))]
    refine wpAny_execs_nil (wpAny_execs_cons (wpAny_Assign_Name (fcall1 X G' K 2 rfl rfl (ldv 8 X K rfl rfl (And.intro (X.gd G').k (use_call (b64v_spec G' X.keep (R'.le (by omega))) ?_))))))
    rintro _ h₂ tk₂ c' ⟨t8, rfl⟩
    replace X := X.chg0 c'
    rw [hv]
    refine stv 8 X K rfl rfl ?_
    clear X; intro h₂ tk₂ X; dsimp only [List.set] at X
    refine wpAny_execs_cons (wpAny_If (wpAny_isTrue_Compare1 (ldv 8 X K rfl rfl (cI (geI (wpAny_truthy_bool ?_))))))
    rw [if_neg (dF (by omega))]
    refine wpAny_execs_nil (wpAny_execs_cons (wpAny_If (wpAny_isTrue_BoolOp (wpAny_allTrue_And_cons (wpAny_isTrue_value (ldv 6 X K rfl rfl (truthyI ?_)))))))
    rw [if_neg (nF (by omega)), if_neg (by decide)]
    refine wpAny_execs_nil (wpAny_execs_cons (wpAny_Assign_Name (cI (stv 6 X K rfl rfl ?_))))
    clear X; intro h₂ tk₂ X; dsimp only [List.set] at X
    refine cutS X (fun vs nw => ∃ (t4 t5 t6 : Tok) (ws : List Value) (en q' l' : Nat) (os' : List Nat), vs = [some (Value.bytes b t), some (Value.bool false), some (Value.bytes b t), some (Value.ref o), some (Value.int q' t4), some (Value.int l' t5), some (Value.int 0 t6), some (Value.int j t7), some (Value.int v t8)] ∧
      nw = [(I, oI), (o, listOf ws.toArray en)] ∧ IntsAre ws (zs os') ∧ stp (q, l, os) v = (q', l', os') ∧ q' < 4 ∧ l' < 64) ?_ ?_
    · intro RR hR
      refine wpAny_If (wpAny_isTrue_Compare1 (ldv 4 X K rfl rfl (cI (eqI (wpAny_truthy_bool ?_)))))
      by_cases q0 : q = 0
      · subst q0
        rw [if_pos (eT (by omega))]
        refine wpAny_execs_cons (wpAny_Assign_Name (cI (stv 4 X K rfl rfl ?_)))
        clear X; intro h₂ tk₂ X; dsimp only [List.set] at X
        refine wpAny_execs_cons (wpAny_Assign_Name (ldv 8 X K rfl rfl (stv 5 X K rfl rfl ?_)))
        clear X; intro h₂ tk₂ X; dsimp only [List.set] at X
        exact wpAny_execs_nil (hR _ _ _ _ ⟨_, _, _, ws, en, 1, v, os, rfl, rfl, hws, rfl, by omega, hv64⟩ X)
      · rw [if_neg (eF (by omega))]
        refine wpAny_execs_cons (wpAny_If (wpAny_isTrue_Compare1 (ldv 4 X K rfl rfl (cI (eqI (wpAny_truthy_bool ?_))))))
        by_cases q1 : q = 1
        · subst q1
          rw [if_pos (eT (by omega))]
          refine wpAny_execs_cons (wpAny_Assign_Name (cI (stv 4 X K rfl rfl ?_)))
          clear X; intro h₂ tk₂ X; dsimp only [List.set] at X
          refine wpAny_execs_cons (exprS K (mcall1 PySem.F.slot_list_append PySem.F.type_list_append (ldv 3 X K rfl rfl ?_)))
          refine ⟨_, _, _, rfl, X.get (j := 1) rfl, ?_⟩
          refine wpAny_BinOp (wpAny_BinOp (ldv 5 X K rfl rfl (cI (shlI (by decide) (by decide) (by omega) (wpAny_BinOp (ldv 8 X K rfl rfl (cI (shrI (by decide) (orI ?_)))))))))
          rw [show Builtin.bitOr ((l : Int) * 2 ^ (2 : Int).toNat) ((v : Int) / 2 ^ (4 : Int).toNat) = ((l * 4 + v / 16 : Nat) : Int) from by
            rw [show (l : Int) * 2 ^ (2 : Int).toNat = ((l * 2 ^ 2 : Nat) : Int) by simp, show (v : Int) / 2 ^ (4 : Int).toNat = ((v / 16 : Nat) : Int) by simp]
            exact orN l (v / 16) 2 (by omega)]
          refine appL 1 X rfl (by omega) ?_
          clear X; intro h₂ tk₂ X; dsimp only [List.set] at X
          refine ⟨rfl, ?_⟩
          refine wpAny_execs_cons (wpAny_Assign_Name (wpAny_BinOp (ldv 8 X K rfl rfl (cI (andI (stv 5 X K rfl rfl ?_))))))
          rw [bitAnd_m4, show (v : Int) % 16 = ((v % 16 : Nat) : Int) by omega]
          clear X; intro h₂ tk₂ X; dsimp only [List.set] at X
          exact wpAny_execs_nil (wpAny_execs_nil (hR _ _ _ _ ⟨_, _, _, _, _, 2, v % 16, os ++ [l * 4 + v / 16], rfl, rfl, by simpa [zs] using IntsAre.append hws (.cons _ _ .nil), rfl, by omega, by omega⟩ X))
        · rw [if_neg (eF (by omega))]
          refine wpAny_execs_cons (wpAny_If (wpAny_isTrue_Compare1 (ldv 4 X K rfl rfl (cI (eqI (wpAny_truthy_bool ?_))))))
          by_cases q2 : q = 2
          · subst q2
            rw [if_pos (eT (by omega))]
            refine wpAny_execs_cons (wpAny_Assign_Name (cI (stv 4 X K rfl rfl ?_)))
            clear X; intro h₂ tk₂ X; dsimp only [List.set] at X
            refine wpAny_execs_cons (exprS K (mcall1 PySem.F.slot_list_append PySem.F.type_list_append (ldv 3 X K rfl rfl ?_)))
            refine ⟨_, _, _, rfl, X.get (j := 1) rfl, ?_⟩
            refine wpAny_BinOp (wpAny_BinOp (ldv 5 X K rfl rfl (cI (shlI (by decide) (by decide) (by omega) (wpAny_BinOp (ldv 8 X K rfl rfl (cI (shrI (by decide) (orI ?_)))))))))
            rw [show Builtin.bitOr ((l : Int) * 2 ^ (4 : Int).toNat) ((v : Int) / 2 ^ (2 : Int).toNat) = ((l * 16 + v / 4 : Nat) : Int) from by
              rw [show (l : Int) * 2 ^ (4 : Int).toNat = ((l * 2 ^ 4 : Nat) : Int) by simp, show (v : Int) / 2 ^ (2 : Int).toNat = ((v / 4 : Nat) : Int) by simp]
              exact orN l (v / 4) 4 (by omega)]
            refine appL 1 X rfl (by omega) ?_
            clear X; intro h₂ tk₂ X; dsimp only [List.set] at X
            refine ⟨rfl, ?_⟩
            refine wpAny_execs_cons (wpAny_Assign_Name (wpAny_BinOp (ldv 8 X K rfl rfl (cI (andI (stv 5 X K rfl rfl ?_))))))
            rw [bitAnd_m2, show (v : Int) % 4 = ((v % 4 : Nat) : Int) by omega]
            clear X; intro h₂ tk₂ X; dsimp only [List.set] at X
            exact wpAny_execs_nil (wpAny_execs_nil (wpAny_execs_nil (hR _ _ _ _ ⟨_, _, _, _, _, 3, v % 4, os ++ [l * 16 + v / 4], rfl, rfl, by simpa [zs] using IntsAre.append hws (.cons _ _ .nil), rfl, by omega, by omega⟩ X)))
          · have q3 : q = 3 := by omega
            subst q3
            rw [if_neg (eF (by omega))]
            refine wpAny_execs_cons (wpAny_Assign_Name (cI (stv 4 X K rfl rfl ?_)))
            clear X; intro h₂ tk₂ X; dsimp only [List.set] at X
            refine wpAny_execs_cons (exprS K (mcall1 PySem.F.slot_list_append PySem.F.type_list_append (ldv 3 X K rfl rfl ?_)))
            refine ⟨_, _, _, rfl, X.get (j := 1) rfl, ?_⟩
            refine wpAny_BinOp (wpAny_BinOp (ldv 5 X K rfl rfl (cI (shlI (by decide) (by decide) (by omega) (ldv 8 X K rfl rfl (orI ?_))))))
            rw [show Builtin.bitOr ((l : Int) * 2 ^ (6 : Int).toNat) (v : Int) = ((l * 64 + v : Nat) : Int) from by
              rw [show (l : Int) * 2 ^ (6 : Int).toNat = ((l * 2 ^ 6 : Nat) : Int) by simp]
              exact orN l v 6 (by omega)]
            refine appL 1 X rfl (by omega) ?_
            clear X; intro h₂ tk₂ X; dsimp only [List.set] at X
            refine ⟨rfl, ?_⟩
            refine wpAny_execs_cons (wpAny_Assign_Name (cI (stv 5 X K rfl rfl ?_)))
            clear X; intro h₂ tk₂ X; dsimp only [List.set] at X
            exact wpAny_execs_nil (wpAny_execs_nil (wpAny_execs_nil (hR _ _ _ _ ⟨_, _, _, _, _, 0, 0, os ++ [l * 64 + v], rfl, rfl, by simpa [zs] using IntsAre.append hws (.cons _ _ .nil), rfl, by omega, by omega⟩ X)))
    · clear X
      rintro _ _ h₄ tk₄ ⟨t4, t5, t6, ws', en', q', l', os', rfl, rfl, hws', hst', hq', hl'⟩ X
      refine wpAny_execs_cons (wpAny_Assign_Name (wpAny_BinOp (ldv 7 X K rfl rfl (cI (addI (stv 7 X K rfl rfl ?_))))))
      rw [show (j : Int) + 1 = ((j + 1 : Nat) : Int) by omega]
      clear X; intro h₂ tk₂ X; dsimp only [List.set] at X
      exact wpAny_execs_nil (hnx _ _ _ _ ⟨_, _, _, _, _, _, _, q', l', os', rfl, rfl, hws', by rw [hnext, hst'], hq', hl'⟩ X).1
  · clear X'
    rintro _ _ h₃ tk₃ ⟨t4, t5, t6, t7, v8, ws, en, q, l, os, rfl, rfl, hws, hst, hq4, hl64⟩ X
    have hlen : (b.toList.map fun c => b64v c.toNat).length = b.size := by simp
    rw [← hlen, List.take_length, hfin] at hst
    obtain ⟨rfl, rfl, rfl⟩ : (0 : Nat) = q ∧ (0 : Nat) = l ∧ out = os := by
      injection hst with a1 a2; injection a2 with a2 a3; exact ⟨a1, a2, a3⟩
    refine wpAny_execs_nil (wpAny_execs_cons (wpAny_If (wpAny_isTrue_Compare1 (ldv 4 X K rfl rfl (cI (eqI (wpAny_truthy_bool ?_)))))))
    rw [if_neg (eF (by omega))]
    refine wpAny_execs_nil (wpAny_execs_cons (wpAny_If (wpAny_isTrue_BoolOp (wpAny_allTrue_And_cons (wpAny_isTrue_Compare1 (ldv 4 X K rfl rfl (cI (neI (wpAny_truthy_bool ?_)))))))))
    rw [if_neg (nF (by omega)), if_neg (by decide)]
    have hwl : ws.length ≤ sizeLine := by
      have h1 := hws.length
      have h2 := stp_fold_out (b.toList.map fun c => b64v c.toNat) (0, 0, [])
      rw [hfin] at h2
      simp at h1 h2; omega
    refine wpAny_execs_nil (wpAny_execs_cons (wpAny_Return_some (tcall1 X G' K 0 rfl (ldv 3 X K rfl rfl (call_bytes_ints (s := St s₀ h₃ _) ⟨_, X.get (j := 0) rfl, rfl, en, rfl⟩ hws ?_ hwl R'.hh ?_)))))
    · intro n hn
      obtain ⟨x, hx, rfl⟩ := List.mem_map.mp hn
      have := hout x hx
      omega
    · intro h' t' k hk
      exact ⟨h', k, rfl, hid_hol (X.chg0 (fun a o e _ => hk a o e)).keep, t', rfl⟩
end
end Mine
end
section
open PySem PySem.W PyProof.Rows PySem.Calls
set_option Elab.async false
set_option maxRecDepth 100000
namespace Mine

theorem ty_bytes : typeOf (.type "bytes") = pure (.type "type") := by rfl
theorem stub_bytes : Manifest.isStub "bytes" = false := by decide +kernel
theorem find_mk : findCls [] (.type "bytes") (.type "type") (Str.ofString "maketrans") = some (.val (.builtin "bytes.maketrans")) := by kernel_rfl
theorem hand_mk : handedIn (.builtin "bytes.maketrans") = true := by decide +kernel
section
variable {w : World} {A : Around} {E : Value → Shared → Prop} {s₀ : Shared} {h : Heap} {tk : Nat} {B : Base} {L : Addr} {ns : List Str} {vs : List (Option Value)} {nw : List (Addr × Obj)}
  {env : Env} {gl bl : List (Str × Value)} {pos : Pos}
theorem cB {b : List UInt8} {k : Nat} {Q : Value → Shared → Prop} (hq : Q (.bytes b.toArray tk) (St s₀ h (tk + 1))) : wpAny (Mo w) A (eval (.Constant (.bytes b) k pos) env) Q E (St s₀ h tk) := fun _ _ _ => hq
theorem use_callK {f : Value} {args : List Value} {kw : List (Str × Value)} {D : List Addr} {P : Value → Heap → Prop} {Q : Value → Shared → Prop}
    (hc : codeAny (Mo w) A (.call f ⟨args, kw⟩) (RetTo s₀ h D P) (St s₀ h tk)) (hq : ∀ v h' tk', Chg D h h' → P v h' → Q v (St s₀ h' tk')) :
    wpAny (Mo w) A (call f args kw) Q E (St s₀ h tk) := by
  refine wpAny_call (codeAny_mono hc fun r s' hr => ?_)
  obtain ⟨v, h', tk', rfl, rfl, c, p⟩ := hr
  exact hq v h' tk' c p
theorem fcall1k {e1 e2 : Expr} {g kn : Str} {f : Addr} {p kp : Pos} {oc : Value} {od : Option Addr} {osl : Array (Option Value)} {fd : FuncData} {Q : Value → Shared → Prop} (X : Fx B L ns vs nw h) (G : GdB w B) (K : FK w env L ns gl bl) (i : Nat) (hg : gl[i]? = some (g, .ref f))
    (ho : (KF w.params).lookup f = some ⟨oc, od, .func fd, osl⟩)
    (hq : wpAny (Mo w) A (eval e1 env) (fun v1 s1 => wpAny (Mo w) A (eval e2 env) (fun v2 s2 => (KF w.params).In s2.heap ∧ wpAny (Mo w) A (call (.ref f) [v1] [(kn, v2)]) Q E s2) E s1) E (St s₀ h tk))
    (he : starEach [e1] env = [(false, eval e1 env)] := by rfl) : wpAny (Mo w) A (eval (.Call (.Name g p) [e1] [⟨some kn, e2, kp⟩] pos) env) Q E (St s₀ h tk) := by
  refine wpAny_Call_Name_kw (ldg X G K i hg ?_)
  rw [he]
  refine callWith_function_kw (o := ⟨oc, od, .func fd, osl⟩) (fd := fd) (evalArgs_kw rfl (Calls.spliced_cons (wpAny_mono hq (fun v1 s1 q => Calls.spliced_nil ?_) fun _ _ e => e)))
  refine wpAny_evalAll_cons (wpAny_bind (wpAny_mono q (fun v2 s2 q2 => wpAny_bind (wpAny_standAt (wpAny_pure (wpAny_evalAll_nil ?_)))) fun _ _ e => e))
  exact ⟨⟨q2.1 _ _ ho, rfl⟩, q2.2⟩
theorem empty_get {a : Addr} {o : Obj} (e : (Heap.mk #[] {}).get? a = some o) : False := by
  have := Heap.lt_size e
  exact Nat.not_lt_zero _ this
theorem frE {L : Addr} {h : Heap} {m : Str → Option Value} (hm : h.Ns L m) : Fr (Heap.mk #[] {}) L h m := ⟨hm, fun _ _ e => (empty_get e).elim, Nat.zero_le _⟩
theorem nilIn {h : Heap} : Frag.In [] h := fun _ _ e => by cases e
theorem methB {prog : Program} {s : Shared} {m : Str → Option Value} {pl : Sem Bool} {Q : Value × List Value → Shared → Prop} {nm : Str} {v : Value} (h₀ : Heap) (F : Fr h₀ L s.heap m) (X : Frag.In [] h₀) (hf : findCls [] (.type "bytes") (.type "type") nm = some (.val v)) (hh : handedIn v = true) (hs : Manifest.isStub "bytes" = false)
    (hq : Q (v, []) { s with toks := s.toks + 1 }) : wpAny (model prog w) A (getMethod (.type "bytes") nm pl) Q E s := by
  have ht : typeOf (.type "bytes") = pure (.type "type") := ty_bytes
  exact method_type (K := []) (T := "bytes") F X ht hs hf hh hq
theorem getMk0 {prog : Program} {s : Shared} {m : Str → Option Value} {pl : Sem Bool} {Q : Value × List Value → Shared → Prop} {nm : Str} {v : Value} (hm : s.heap.Ns L m) (hf : findCls [] (.type "bytes") (.type "type") nm = some (.val v)) (hh : handedIn v = true)
    (hq : Q (v, []) { s with toks := s.toks + 1 }) : wpAny (model prog w) A (getMethod (.type "bytes") nm pl) Q E s := by
  have F := frE hm
  generalize Heap.mk #[] {} = h₀ at F
  exact methB h₀ F nilIn hf hh stub_bytes hq
theorem getMk {pl : Sem Bool} {Q : Value × List Value → Shared → Prop} (X : Fx B L ns vs nw h) (hq : Q (.builtin "bytes.maketrans", []) (St s₀ h (tk + 1))) :
    wpAny (Mo w) A (getMethod (.type "bytes") (Str.ofString "maketrans") pl) Q E (St s₀ h tk) := by
  obtain ⟨m, hm, _⟩ := X.m
  exact getMk0 (s := St s₀ h tk) hm find_mk hand_mk hq
/-- bytes.maketrans(a, b) -/
theorem mkCall {e1 e2 : Expr} {p apos : Pos} {Q : Value → Shared → Prop} (X : Fx B L ns vs nw h) (G : GdB w B) (K : FK w env L ns gl bl) (i : Nat) (hg : bl[i]? = some (Str.ofString "bytes", .type "bytes"))
    (hq : wpAny (Mo w) A (eval e1 env) (fun v1 s1 => wpAny (Mo w) A (eval e2 env) (fun v2 s2 => wpAny (Mo w) A (call (.builtin "bytes.maketrans") [v1, v2]) Q E s2) E s1) E (St s₀ h (tk + 1)))
    (hline : (apos.endLine == pos.line) = true := by rfl) (he : starEach [e1, e2] env = [(false, eval e1 env), (false, eval e2 env)] := by rfl) :
    wpAny (Mo w) A (eval (.Call (.Attribute (.Name (Str.ofString "bytes") p) (Str.ofString "maketrans") apos) [e1, e2] [] pos) env) Q E (St s₀ h tk) := by
  rw [arm_eval_Call]
  refine wpAny_bind (m := eval (.Name (Str.ofString "bytes") p) env) (ldb X G K i hg (wpAny_bind (wpAny_standAt ?_)))
  have hform : methodCallForm ([e1, e2].length + ([] : List Keyword).length) (backTo pos (starEach [e1, e2] env)) (backToKw pos (keywordEach [] env)) = true := by rw [he]; rfl
  have hpos : methodCallPos true (.Name (Str.ofString "bytes") p) env apos pos = pure pos := by unfold methodCallPos; simp [hline]
  unfold methodCall
  rw [hform]
  refine wpAny_bind (wpAny_holding (getMk X ?_))
  refine wpAny_bind (wpAny_of_eq hpos ?_)
  rw [he]
  exact Calls.callWith_builtin rfl (Calls.evalArgs_plain (Calls.spliced_cons (wpAny_mono hq (fun _ _ q => Calls.spliced_cons (wpAny_mono q (fun _ _ q => Calls.spliced_nil q) fun _ _ e => e)) fun _ _ e => e)))
end
end Mine
end
section
open PySem PySem.W PyProof.Rows PySem.Calls
set_option Elab.async false
set_option maxRecDepth 100000
namespace Mine

def trT (alt : Array UInt8) : Array UInt8 := (alt.toList.zip ([43, 47] : List UInt8)).foldl (fun t (f, x) => t.setIfInBounds f.toNat x) ((Array.range 256).map (·.toUInt8))
def trB (alt : Array UInt8) (cs : List Nat) : Array UInt8 := ((cs.map (·.toUInt8)).toArray).map fun c => (trT alt).getD c.toNat c
theorem trT_size (alt : Array UInt8) : (trT alt).size = 256 := by
  unfold trT; rw [foldl_set_size]; simp
theorem noRefB {b : Array UInt8} {t : Tok} {hp : Heap} : ∀ a, Value.bytes b t = .ref a → ∃ ob, hp.get? a = some ob ∧ ob.dict = none := fun _ e => by cases e

section
variable {w : World} {A : Around} {s₀ : Shared} {h : Heap} {tk : Nat} {B : Base}
set_option maxHeartbeats 4000000 in
theorem b64decode_spec {alt : Array UInt8} {cs : List Nat} {t t2 : Tok} {out : List Nat} (G : GdB w B) (hB : Hol B h) (R : Rm A 8) (halt : alt.size = 2) (hc : ∀ c ∈ cs, c < 128) (hn : 2 ≤ cs.length) (hn2 : cs.length < 900)
    (hb : ∀ (i : Nat) (c : UInt8), (trB alt cs)[i]? = some c → c.toNat ≠ 61 ∧ b64v c.toNat < 64) (hfin : ((trB alt cs).toList.map fun c => b64v c.toNat).foldl stp (0, 0, []) = (0, 0, out)) (hout : ∀ x ∈ out, x < 256) :
    codeAny (Mo w) A (.call (.ref 126) ⟨[.str ⟨cs.toArray⟩ t, .bytes alt t2], []⟩) (RetTo s₀ h [] (fun v _ => ∃ t, v = .bytes (byteArr (zs out)) t)) (St s₀ h tk) := by
  refine call_fn (k := 7) (D := []) (ns := [Str.ofString "s", Str.ofString "altchars", Str.ofString "validate"]) (gl := [(Str.ofString "_bytes_from_decode_data", .ref 76), (Str.ofString "a2b_base64", .ref 118)]) (bl := [(Str.ofString "len", .builtin "len"), (Str.ofString "bytes", .type "bytes")])
    (vals := [.str ⟨cs.toArray⟩ t, .bytes alt t2, .bool false]) (nw := []) G hB (by simp) rfl (by simp) (by simp) R rfl (by rfl) rfl (BindsTo.of_defaults (T := 119) rfl ((G h hB).k 119 _ rfl) rfl rfl rfl) ?_
  intro L env A' h₁ tk₁ K R' G' X
  dsimp only [initV] at X
  have esz : sizeLine = 16777216 := rfl
  refine wpAny_execs_cons (wpAny_Assign_Name (fcall1 X G' K 0 rfl rfl (ldv 0 X K rfl rfl (And.intro (X.gd G').k (use_call (bfdS_spec G' X.keep (R'.le (by omega)) hc hn (by omega)) ?_)))))
  rintro _ h₂ tk₂ c ⟨t3, rfl⟩
  replace X := X.chg0 c
  refine stv 0 X K rfl rfl ?_
  clear X; intro h₂ tk₂ X; dsimp only [List.set] at X
  refine wpAny_execs_cons (wpAny_If (wpAny_isTrue_Compare1 (ldv 1 X K rfl rfl (wpAny_Constant_none (wpAny_isNot_other rfl (by intro e; cases e) (wpAny_truthy_bool ?_))))))
  rw [if_pos rfl]
  refine wpAny_execs_cons (wpAny_Assign_Name (fcall1 X G' K 0 rfl rfl (ldv 1 X K rfl rfl (And.intro (X.gd G').k (use_call (bfdB_spec G' X.keep (R'.le (by omega))) ?_)))))
  rintro _ h₂ tk₂ c rfl
  replace X := X.chg0 c
  refine stv 1 X K rfl rfl ?_
  clear X; intro h₂ tk₂ X; dsimp only [List.set] at X
  refine wpAny_execs_cons (wpAny_Assert_holds (wpAny_isTrue_Compare1 (bcall1 X G' K 0 rfl (ldv 1 X K rfl rfl (len_bytes (s := St s₀ h₂ tk₂) (by omega) (cI (eqI (wpAny_truthy_bool ?_))))))))
  refine ⟨eT (by rw [halt]; rfl), ?_⟩
  refine wpAny_execs_cons (wpAny_Assign_Name (mcallG1 FB.plainAttrs_bytes slot_bytes_translate type_bytes_translate (ldv 0 X K rfl rfl ?_)))
  refine ⟨typeIs_bytes _ _ _, noRefB, ?_⟩
  refine mkCall X G' K 1 rfl (ldv 1 X K rfl rfl (cB (mktr (by rw [halt]; rfl) ?_)))
  intro t4 tk4
  refine trns (trT_size alt) (by rw [List.size_toArray, List.length_map]; omega) ?_
  intro t5 tk5
  refine stv 0 X K rfl rfl ?_
  clear X; intro h₂ tk₂ X; dsimp only [List.set] at X
  refine wpAny_execs_nil (wpAny_execs_cons (wpAny_Return_some (fcall1k X G' K 1 rfl rfl (ldv 0 X K rfl rfl (ldv 2 X K rfl rfl (And.intro (X.gd G').k (use_callK (a2b_spec (b := trB alt cs) G' X.keep (R'.le (by omega)) (by simp [trB]; omega) hb hfin hout) ?_)))))))
  rintro _ h₃ tk₃ c ⟨t6, rfl⟩
  replace X := X.chg0 c
  exact ⟨h₃, tk₃, rfl, hid_hol X.keep, t6, rfl⟩

def val256 (out : List Nat) : Nat := out.foldl (fun a o => a * 256 + o) 0

set_option maxHeartbeats 4000000 in
theorem price_spec {alt : Array UInt8} {m : Nat} {t t2 : Tok} {out : List Nat} {cs : List Nat} (G : GdB w B) (hB : Hol B h) (R : Rm A 12) (halt : alt.size = 2) (hcs : Txt.join (Str.ofString "") (listing m) ++ Str.ofString "AA" = ⟨cs.toArray⟩) (hc : ∀ c ∈ cs, c < 128) (hn : 2 ≤ cs.length) (hn2 : cs.length < 900)
    (hb : ∀ (i : Nat) (c : UInt8), (trB alt cs)[i]? = some c → c.toNat ≠ 61 ∧ b64v c.toNat < 64) (hfin : ((trB alt cs).toList.map fun c => b64v c.toNat).foldl stp (0, 0, []) = (0, 0, out)) (hout : ∀ x ∈ out, x < 256) (hol : out.length < 900) :
    codeAny (Mo w) A (.call (.ref 189) ⟨[.int m t, .bytes alt t2], []⟩) (RetTo s₀ h [] (fun v _ => ∃ t, v = .int (val256 out : Nat) t)) (St s₀ h tk) := by
  refine call_fn (k := 11) (D := []) (ns := [Str.ofString "mode", Str.ofString "altchars", Str.ofString "value", Str.ofString "octet"]) (gl := [(Str.ofString "b64decode", .ref 126), (Str.ofString "filemode", .ref 68)]) (bl := [])
    (vals := [.int m t, .bytes alt t2]) (nw := []) G hB (by simp) rfl (by simp) (by simp) R rfl (by rfl) rfl (BindsTo.of_eq rfl) ?_
  intro L env A' h₁ tk₁ K R' G' X
  dsimp only [initV] at X
  have esz : sizeLine = 16777216 := rfl
  have hlen : (Txt.join (Str.ofString "") (listing m)).length + (Str.ofString "AA").length ≤ sizeLine := by
    have h1 := congrArg Str.length hcs
    rw [Str.length_append] at h1
    rw [h1, esz]
    show cs.toArray.size ≤ _
    rw [List.size_toArray]; omega
  refine wpAny_execs_cons (wpAny_Assign_Name (cI (stv 2 X K rfl rfl ?_)))
  clear X; intro h₂ tk₂ X; dsimp only [List.set] at X
  refine wpAny_execs_cons (wpAny_For (fcall2 X G' K 0 rfl rfl (wpAny_BinOp (fcall1 X G' K 1 rfl rfl (ldv 0 X K rfl rfl (And.intro (X.gd G').k (use_call (filemode_spec G' X.keep (R'.le (by omega))) ?_)))))))
  rintro _ h₂ tk₂ c ⟨t3, rfl⟩
  replace X := X.chg0 c
  refine cS (add_str ?_ hlen)
  intro t4 tk4
  rw [hcs]
  refine ldv (tk := tk4) 1 X K rfl rfl (And.intro (X.gd G').k (use_call (b64decode_spec G' X.keep (R'.le (by omega)) halt hc hn hn2 hb hfin hout) ?_))
  rintro _ h₂ tk₂ c ⟨t5, rfl⟩
  replace X := X.chg0 c
  refine itB X ?_
  clear X; intro I hI tkI X'
  refine forW 3 (KBw.walks (prog := PG) (w := w) R'.hh I (byteArr (zs out)) t5) (fun i h q => by obtain ⟨o, ho, _⟩ := q; exact ⟨o, ho⟩) (fun b hb => .inl (List.mem_singleton.mp hb)) K X' ⟨_, X'.get (j := 0) rfl, rfl, rfl⟩ rfl
    (fun j vs nw => ∃ (t2' : Tok) (v3 : Option Value), vs = [some (Value.int m t), some (Value.bytes alt t2), some (Value.int (val256 (out.take j) : Nat) t2'), v3] ∧ nw = []) (fun _ _ => False)
    ⟨_, _, rfl, rfl⟩ (by rintro i _ _ ⟨_, _, rfl, _⟩; rfl) ?_ ?_ (fun _ _ _ _ q => q.elim)
  · clear X'
    rintro j _ oI _ _ h₃ tk₃ Pp hj ⟨c, u, hcj, rfl⟩ ⟨t2', v3, rfl, rfl⟩ X hnx hbk hrt
    dsimp only [List.set] at X
    have hjl : j < out.length := by simpa [byteArr] using hj
    have ec : c.toNat = out[j] := by
      have hx := hout out[j] (List.getElem_mem hjl)
      have : (byteArr (zs out))[j]? = some (out[j].toUInt8) := by simp [byteArr, zs, hjl]
      rw [this] at hcj
      obtain rfl := Option.some.inj hcj
      show (UInt8.ofNat _).toNat = _
      rw [UInt8.toNat_ofNat']
      omega
    rw [ec] at X
    have hnext : val256 (out.take (j + 1)) = val256 (out.take j) * 256 + out[j] := by
      unfold val256
      rw [List.take_add_one, List.getElem?_eq_getElem hjl, List.foldl_append]; rfl
    refine wpAny_execs_cons (wpAny_Assign_Name (wpAny_BinOp (wpAny_BinOp (ldv 2 X K rfl rfl (cI (mulI (IntMulOk.of_right (by decide)) (ldv 3 X K rfl rfl (addI (stv 2 X K rfl rfl ?_)))))))))
    rw [show ((val256 (out.take j) : Nat) : Int) * 256 + ((out[j] : Nat) : Int) = ((val256 (out.take (j + 1)) : Nat) : Int) by rw [hnext]; omega]
    clear X; intro h₂ tk₂ X; dsimp only [List.set] at X
    exact wpAny_execs_nil (hnx _ _ _ _ ⟨_, _, rfl, rfl⟩ X).1
  · clear X'
    rintro _ _ h₃ tk₃ ⟨t2', v3, rfl, rfl⟩ X
    have hsz : (byteArr (zs out)).size = out.length := by simp [byteArr]
    rw [hsz, List.take_length] at X
    exact wpAny_execs_nil (wpAny_execs_cons (wpAny_Return_some (ldv 2 X K rfl rfl ⟨h₃, tk₃, rfl, hid_hol X.keep, _, rfl⟩)))
end
end Mine
end
section
open PySem PySem.W PyProof.Rows PySem.Calls
set_option Elab.async false
set_option maxRecDepth 100000
namespace Mine

/-- a dict of ints -/
def DictIs (o : Obj) (f : Int → Option Value) (n : Nat) : Prop := o.cls = .type "dict" ∧ ∃ es ep, o.data = .dict es ep ∧ IntKeys es ∧ (∀ k, findBy Value.isInt es k = f k) ∧ es.size ≤ n
theorem DictIs.map {h : Heap} {d : Addr} {o : Obj} {f : Int → Option Value} {n : Nat} (hd : DictIs o f n) (ho : h.get? d = some o) : h.IntMap d f :=
  let ⟨hc, es, ep, h1, h2, h3, _⟩ := hd; ⟨o, es, ep, ho, hc, h1, h2, h3⟩
theorem DictIs.le {h : Heap} {d : Addr} {o : Obj} {f : Int → Option Value} {n : Nat} (hd : DictIs o f n) (ho : h.get? d = some o) : h.DictLe d n := by
  obtain ⟨hc, es, ep, h1, h2, h3, h4⟩ := hd
  intro o' es' ep' e1 e2
  rw [ho] at e1; cases e1
  rw [h1] at e2; cases e2
  exact h4
theorem DictIs.of {h : Heap} {d : Addr} {f : Int → Option Value} {n : Nat} (hm : h.IntMap d f) (hl : h.DictLe d n) : ∃ o, h.get? d = some o ∧ DictIs o f n := by
  obtain ⟨o, es, ep, ho, hc, h1, h2, h3⟩ := hm
  exact ⟨o, ho, hc, es, ep, h1, h2, h3, hl _ _ _ ho h1⟩
theorem DictIs.new : DictIs { cls := .type "dict", data := .dict #[] } (fun _ => none) 0 := ⟨rfl, #[], 0, rfl, (fun e he => by simp at he), fun k => rfl, by simp⟩

section
variable {w : World} {A : Around} {E : Value → Shared → Prop} {s₀ : Shared} {h : Heap} {tk : Nat} {B : Base} {L : Addr} {ns : List Str} {vs : List (Option Value)} {nw : List (Addr × Obj)}
  {env : Env} {gl bl : List (Str × Value)} {pos : Pos} {d : Addr} {o : Obj} {f : Int → Option Value} {n : Nat} {k : Int} {t : Tok} {v : Value}
theorem setD (j : Nat) {Q : Unit → Shared → Prop} (X : Fx B L ns vs nw h) (hj : nw[j]? = some (d, o)) (hd : DictIs o f n) (hn : n ≤ sizeLine)
    (hq : ∀ o' h' tk', DictIs o' (fun x => if x = k then some v else f x) (n + 1) → Fx B L ns vs (nw.set j (d, o')) h' → Q () (St s₀ h' tk')) :
    wpAny (Mo w) A (setItem (.ref d) (.int k t) v) Q E (St s₀ h tk) := by
  have ho := X.get hj
  refine wpAny_setItem_intMap_le (s := St s₀ h tk) (hd.map ho) (hd.le ho) hn fun h' hm hl hs => ?_
  obtain ⟨o', ho', hd'⟩ := DictIs.of hm hl
  exact hq o' h' _ hd' (X.chg1 hj (Chg.sameBut hs) ho')
theorem dsetD (j : Nat) {Q : Unit → Shared → Prop} (X : Fx B L ns vs nw h) (hj : nw[j]? = some (d, o)) (hd : DictIs o f n) (hn : n ≤ sizeLine)
    (hq : ∀ o' h' tk', DictIs o' (fun x => if x = k then some v else f x) (n + 1) → Fx B L ns vs (nw.set j (d, o')) h' → Q () (St s₀ h' tk')) :
    wpAny (Mo w) A (dictSet d (.int k t) v) Q E (St s₀ h tk) := by
  have ho := X.get hj
  refine wpAny_dictSet_int_le (s := St s₀ h tk) (hd.map ho) (hd.le ho) hn fun h' hm hl hs => ?_
  obtain ⟨o', ho', hd'⟩ := DictIs.of hm hl
  exact hq o' h' _ hd' (X.chg1 hj (Chg.sameBut hs) ho')
theorem subD {value slice : Expr} {Q : Value → Shared → Prop} (ho : h.get? d = some o) (hd : DictIs o f n) (hv : f k = some v) (hq : Q v (St s₀ h (tk + 1)))
    (hs : subscripted slice false (.ref d) (.int k t) = operate [.ref d, .int k t] (getItem (.ref d) (.int k t)) := by with_unfolding_all rfl) :
    wpAny (Mo w) A (subscriptTail value slice (.ref d) (.int k t)) Q E (St s₀ h tk) := by
  have hm := hd.map ho
  exact tail_any (s := St s₀ h tk) hm.typeIs slot_dict_getitem.lookup (wpAny_getItem_intMap hm hv hq) hs
theorem newD {Q : Value → Shared → Prop} (X : Fx B L ns vs nw h) (hq : ∀ a o h' tk', DictIs o (fun _ => none) 0 → Fx B L ns vs ((a, o) :: nw) h' → Q (.ref a) (St s₀ h' tk')) :
    wpAny (Mo w) A (eval (.Dict [] [] pos) env) Q E (St s₀ h tk) := wpAny_Dict_empty (hq _ _ _ _ DictIs.new (X.push _ rfl))
end

/-- a frame's object -/
def FrO (o : Obj) (ns : List Str) (vs : List (Option Value)) : Prop :=
  ∃ (es : Array DictEntry) (ep : Nat) (m : Str → Option Value), o.data = .dict es ep ∧ StrKeys es ∧ (∀ name, nsFind es name = m name) ∧ ∀ (i : Nat) (x : Str), ns[i]? = some x → m x = (vs[i]?).join
theorem Fx.switch {B : Base} {C L : Addr} {ns ns' : List Str} {vs vs' : List (Option Value)} {nw : List (Addr × Obj)} {oL : Obj} {h : Heap} (Y : Fx B C ns' vs' ((L, oL) :: nw) h) (ho : FrO oL ns vs) :
    ∃ oC, FrO oC ns' vs' ∧ Fx B L ns vs ((C, oC) :: nw) h := by
  obtain ⟨⟨m, ⟨oC, es, ep, h1, h2, h3, h4⟩, hv⟩, kp, hL, nws, nd⟩ := Y
  obtain ⟨es', ep', m', g2, g3, g4, gv⟩ := ho
  have hLL := nws (L, oL) List.mem_cons_self
  refine ⟨oC, ⟨es, ep, m, h2, h3, h4, hv⟩, ⟨m', ⟨oL, es', ep', hLL.1, g2, g3, g4⟩, gv⟩, kp, hLL.2.1, fun p hp => ?_, ?_⟩
  · rcases List.mem_cons.mp hp with rfl | hp
    · exact ⟨h1, hL, fun e => hLL.2.2 e.symm⟩
    · have := nws p (List.mem_cons_of_mem _ hp)
      refine ⟨this.1, this.2.1, fun e => ?_⟩
      exact (List.nodup_cons.mp nd).1 (List.mem_map.mpr ⟨p, hp, e⟩)
  · rw [List.map_cons, List.nodup_cons]
    refine ⟨fun q => ?_, (List.nodup_cons.mp nd).2⟩
    obtain ⟨p, hp, e⟩ := List.mem_map.mp q
    exact (nws p (List.mem_cons_of_mem _ hp)).2.2 e
theorem Fx.enter {B : Base} {C L : Addr} {ns ns' : List Str} {vs : List (Option Value)} {nw : List (Addr × Obj)} {h h₁ : Heap} {m₁ : Str → Option Value} (X : Fx B L ns vs nw h) (hns : h₁.Ns C m₁) (hm : ∀ x, m₁ x = none) (hC : h.get? C = none) (c : Chg [] h h₁) :
    ∃ oL, FrO oL ns vs ∧ Fx B C ns' (ns'.map fun _ => none) ((L, oL) :: nw) h₁ := by
  have X' := X.chg0 c
  obtain ⟨⟨m, ⟨oL, es, ep, h1, h2, h3, h4⟩, hv⟩, kp, hL, nws, nd⟩ := X'
  obtain ⟨m0, ⟨oL0, es0, ep0, q1, _⟩, _⟩ := X.m
  have hCL : L ≠ C := fun e => by rw [e, hC] at q1; cases q1
  refine ⟨oL, ⟨es, ep, m, h2, h3, h4, hv⟩, ⟨m₁, hns, fun i x hx => ?_⟩, kp, ?_, fun p hp => ?_, ?_⟩
  · rw [hm]; simp [hx]
  · cases e : B C with
    | none => rfl
    | some o => have := X.keep _ _ e; rw [hC] at this; cases this
  · rcases List.mem_cons.mp hp with rfl | hp
    · exact ⟨h1, hL, hCL⟩
    · refine ⟨(nws p hp).1, (nws p hp).2.1, fun e => ?_⟩
      have := (X.news p hp).1
      rw [e, hC] at this; cases this
  · rw [List.map_cons, List.nodup_cons]
    refine ⟨fun q => ?_, nd⟩
    obtain ⟨p, hp, e⟩ := List.mem_map.mp q
    exact (nws p hp).2.2 e
theorem Fx.perm {B : Base} {L : Addr} {ns : List Str} {vs : List (Option Value)} {nw nw' : List (Addr × Obj)} {h : Heap} (X : Fx B L ns vs nw h) (p : nw'.Perm nw) : Fx B L ns vs nw' h :=
  ⟨X.m, X.keep, X.hL, fun q hq => X.news q (p.mem_iff.mp hq), (p.map _).nodup_iff.mpr X.nd⟩
theorem Fx.swap01 {B : Base} {L : Addr} {ns : List Str} {vs : List (Option Value)} {a b : Addr × Obj} {nw : List (Addr × Obj)} {h : Heap} (X : Fx B L ns vs (a :: b :: nw) h) : Fx B L ns vs (b :: a :: nw) h := X.perm (List.Perm.swap ..)

section
variable {w : World} {A : Around} {s₀ : Shared} {h : Heap} {tk : Nat} {B : Base} {L : Addr} {ns : List Str} {vs : List (Option Value)} {nw : List (Addr × Obj)}
  {env : Env} {gl bl : List (Str × Value)}
/-- the env of a comprehension's own frame -/
theorem fk_comp {scope : Scope} {cl : List (Str × Addr)} {C : Addr} {ns' : List Str} {gl' bl' : List (Str × Value)} (K : FK w env L ns gl bl) (h : fkOk w.params (relabel scope env) ns' gl' bl' = true) : FK w (compEnvC scope cl C env) C ns' gl' bl' := by
  unfold fkOk at h
  simp only [Bool.and_eq_true, decide_eq_true_eq, List.all_eq_true, Bool.not_eq_true'] at h
  obtain ⟨⟨⟨⟨h1, h2⟩, h3⟩, h4⟩, h5⟩ := h
  refine ⟨rfl, h1, K.glob, K.bi, fun x hx => ⟨(h2 x hx).1, (h2 x hx).2⟩, h3, fun p hp => ?_, fun p hp => ?_⟩
  · obtain ⟨⟨a, b⟩, c⟩ := h4 p hp
    exact ⟨a, b, c⟩
  · obtain ⟨⟨⟨⟨a, b⟩, c⟩, d⟩, e⟩ := h5 p hp
    exact ⟨a, b, c, d, e⟩

theorem itL {E : Value → Shared → Prop} {l : Addr} {xs : Array Value} {Q : Value → Shared → Prop} (X : Fx B L ns vs nw h) (hl : h.IsList l xs) (hq : ∀ I h' tk', I = h.objs.size → Fx B L ns vs ((I, { cls := .type "list_iterator", data := .fields #[.ref l, .int 0 0] }) :: nw) h' → Q (.ref I) (St s₀ h' tk')) :
    wpAny (Mo w) A (pyIter (.ref l)) Q E (St s₀ h tk) := wpAny_pyIter_list (s := St s₀ h tk) hl (hq _ _ _ rfl (X.push _ rfl))
theorem ndD {E : Value → Shared → Prop} {Q : Value → Shared → Prop} (X : Fx B L ns vs nw h) (hq : ∀ a h' tk', Fx B L ns vs ((a, { cls := .type "dict", data := .dict #[] }) :: nw) h' → Q (.ref a) (St s₀ h' tk')) :
    wpAny (Mo w) A newDict Q E (St s₀ h tk) := wpAny_newObj_type (s := St s₀ h tk) (T := "dict") (data := .dict #[]) (dict := none) (hq _ _ _ (X.push _ rfl)) (by show (0 : Nat) ≤ _; exact Nat.zero_le _)
theorem nfE {E : Value → Shared → Prop} {scope : Scope} {ns' : List Str} {P : Env → Addr → Shared → Prop} (X : Fx B L ns vs nw h) (hcell : ∀ z ∈ scope.names, z.2 ≠ .cell) (hkind : scope.kind = .function)
    (hq : ∀ C oL h' tk', FrO oL ns vs → Fx B C ns' (ns'.map fun _ => none) ((L, oL) :: nw) h' → P (compEnvC scope [] C env) C (St s₀ h' tk')) :
    wpAny (Mo w) A (newFunctionEnv scope env.globals [] [] env.qual none Value.none (some env)) (fun cenv s₄ => P { scope := relabel scope env, locals := cenv.locals, globals := cenv.globals, cells := cenv.cells, qual := cenv.qual, func := cenv.func, code := cenv.code, frame := cenv.frame, builtins := cenv.builtins } cenv.locals s₄) E (St s₀ h tk) := by
  refine wpAny_newFunctionEnv (s := St s₀ h tk) hcell (by intro z hz; cases hz) (fun h₁ hns hsb => ?_) hkind
  have hCnone : h.get? h.objs.size = none := by
    cases e : h.get? h.objs.size with
    | none => rfl
    | some o => exact absurd (Heap.lt_size e) (Nat.lt_irrefl _)
  have c₃ : Chg [] h h₁ := fun a o e _ => (hsb.2 a (Nat.ne_of_lt (Heap.lt_size e))).trans (Heap.get?_push_of_some _ e)
  obtain ⟨oL, hoL, Y⟩ := X.enter (ns' := ns') hns (fun _ => rfl) hCnone c₃
  exact hq _ _ _ _ hoL Y

theorem fk_swaps {k v : Expr} {gs : List Comprehension} {y : Str} {pos py : Pos} {line : Nat} {scope : Scope} (i : Nat) (K : FK w env L ns gl bl) (hy : ns[i]? = some y)
    (hl : (py.line == pos.line && !(scope.names.any fun (n, k) => n == y && (k == .local || k == .cell))) = true) : swapsWith (.DictComp k v gs scope pos) (some (.Name y py)) line env = pure true := by
  have h1 : env.blockKind = .function := by unfold Env.blockKind; rw [K.kind]; rfl
  have h2 := (K.vars y (List.mem_of_getElem? hy)).1
  show (pure (env.blockKind == .function && env.kindOf y == some .local && py.line == pos.line && !(scope.names.any fun (n, k) => n == y && (k == .local || k == .cell))) : Sem Bool) = pure true
  rw [h1, h2, Bool.and_assoc, hl]; rfl
theorem fk_swapsL {k : Expr} {gs : List Comprehension} {y : Str} {pos py : Pos} {line : Nat} {scope : Scope} (i : Nat) (K : FK w env L ns gl bl) (hy : ns[i]? = some y)
    (hl : (py.line == pos.line && !(scope.names.any fun (n, k) => n == y && (k == .local || k == .cell))) = true) : swapsWith (.ListComp k gs scope pos) (some (.Name y py)) line env = pure true := by
  have h1 : env.blockKind = .function := by unfold Env.blockKind; rw [K.kind]; rfl
  have h2 := (K.vars y (List.mem_of_getElem? hy)).1
  show (pure (env.blockKind == .function && env.kindOf y == some .local && py.line == pos.line && !(scope.names.any fun (n, k) => n == y && (k == .local || k == .cell))) : Sem Bool) = pure true
  rw [h1, h2, Bool.and_assoc, hl]; rfl

/-- y = {x: x for x in src}, src a list of ints of the base -/
theorem asgDC {x y src : Str} {p1 p2 px ps py pos spos : Pos} {scope : Scope} {Q : Flow → Shared → Prop} {l : Addr} {xs : List Value} {zl : List Int} {e n : Nat} (isrc iy : Nat)
    (R : Rm A e) (K : FK w env L ns gl bl) (X : Fx B L ns vs nw h) (hsrc : ns[isrc]? = some src) (hvs : vs[isrc]? = some (some (.ref l))) (hl : B l = some (listOf xs.toArray n)) (hi : IntsAre xs zl) (hlen : xs.length ≤ 1000)
    (hy : ns[iy]? = some y) (hvy : (vs[iy]?).isSome = true)
    (hsw : swapsWith (.DictComp (.Name x p1) (.Name x p2) [⟨.Name x px, .Name src ps, [], 0⟩] scope pos) (some (.Name y py)) spos.line env = pure true)
    (hclos : closureFor scope env = pure []) (hcell : ∀ z ∈ scope.names, z.2 ≠ .cell) (hkind : scope.kind = .function)
    (hnames : ∀ z ∈ scope.names, z.2 = .local → scope.names.lookup z.1 = some .local) (hfk : fkOk w.params (relabel scope env) [x] [] [] = true)
    (hq : ∀ a o f h' tk', DictIs o f xs.length → (∀ z ∈ zl, ∃ t, f z = some (.int z t)) → Fx B L ns (vs.set iy (some (.ref a))) ((a, o) :: nw) h' → Q .next (St s₀ h' tk')) :
    wpAny (Mo w) A (exec (.Assign [.Name y py] (.DictComp (.Name x p1) (.Name x p2) [⟨.Name x px, .Name src ps, [], 0⟩] scope pos) spos) env) Q NE (St s₀ h tk) := by
  rw [exec_Assign_Name_used _ _ _ _ hsw]
  refine wpAny_bind (wpAny_standAt (wpAny_bind ?_))
  show wpAny _ A (do let _ ← comprehension (.DictComp (.Name x p1) (.Name x p2) [⟨.Name x px, .Name src ps, [], 0⟩] scope pos) scope env _ newDict false (eval (.Name src ps) env) (some (assign (.Name y py) env))) _ _ _
  refine wpAny_bind (wpAny_mono (wpAny_comprehension_free (use := some (assign (.Name y py) env)) (Q := fun _ s' => Q .next s') rfl (by intro _; rfl) hclos hkind hnames ?_) (fun _ s' hq => wpAny_pure (wpAny_pure hq)) fun _ _ e => e)
  refine ldv isrc X K hsrc hvs ?_
  have hl' : (St s₀ h tk).heap.IsList l xs.toArray := ⟨_, X.keep _ _ hl, rfl, n, rfl⟩
  refine itL X hl' fun I g₁ tk₁ hI X₁ => ?_
  have hne : l ≠ I := hI ▸ Nat.ne_of_lt (Heap.lt_size (X.keep _ _ hl))
  have W := Walks.list (prog := PG) (w := w) R.hh I l hne xs.toArray
  rw [show xs.toArray.size = xs.length by simp] at W
  have esz : sizeLine = 16777216 := rfl
  refine ndD X₁ fun D g₂ tk₂ X₂ => ?_
  refine nfE (ns' := [x]) (P := fun e C s₄ => codeAny (Mo w) A (.compStart _ 0 (.ref I) (.ref D) e) (compPost (Mo w) A NE (some (assign (.Name y py) env)) (fun _ s' => Q .next s') (.ref D) C) s₄) X₂ hcell hkind fun C oL h₁ tk₃ hoL Y => ?_
  have hst₃ : h₁.IsListIter I l 0 := ⟨_, Y.get (j := 2) rfl, rfl, rfl⟩
  have KC := fk_comp (C := C) (cl := []) K hfk
  have main : codeAny (Mo w) A (.compLoop (.DictComp (.Name x p1) (.Name x p2) [⟨.Name x px, .Name src ps, [], 0⟩] scope pos) 0 (.ref I) (.ref D) (compEnvC scope [] C env)) (compPost (Mo w) A NE (some (assign (.Name y py) env)) (fun _ s' => Q .next s') (.ref D) C) (St s₀ h₁ tk₃) := by
    refine codeAny_compLoop_testsD (fun m s => ∃ i v oI o f h tk, m = xs.length + 1 - i ∧ i ≤ xs.length ∧ s = St s₀ h tk ∧ DictIs o f i ∧ (∀ z ∈ zl.take i, ∃ t, f z = some (.int z t)) ∧ Fx B C [x] [v] ((L, oL) :: (D, o) :: (I, oI) :: nw) h ∧ h.IsListIter I l i) ?_ (xs.length + 1)
      ⟨0, none, _, _, _, h₁, tk₃, rfl, Nat.zero_le _, rfl, DictIs.new, by simp, Y, hst₃⟩
    rintro m _ ⟨i, v, oI, o, f, h₂, tk₂, rfl, hil, rfl, hd, hz, Z, hit⟩
    have hlz : (St s₀ h₂ tk₂).heap.IsList l xs.toArray := ⟨_, Z.keep _ _ hl, rfl, n, rfl⟩
    by_cases hlt : i < xs.length
    · refine W.item i _ _ _ hlt ⟨hit, hlz⟩ fun v' h₃ tk₃ hP hst hk => ?_
      obtain ⟨⟨oI', hoI', r⟩, _⟩ := hst
      have Z' := Z.chg1 (j := 2) rfl (fun a o e hn => hk a o hn e) hoI'
      dsimp only [List.set] at Z'
      have hv' : xs[i]? = some v' := by simpa using hP
      have hzi : i < zl.length := by rw [← hi.length]; exact hlt
      obtain ⟨t', ht'⟩ := hi.get i zl[i] (by simp [hzi])
      rw [hv'] at ht'
      obtain rfl := Option.some.inj ht'
      refine wpAny_assign_Name (stv (h := h₃) (tk := tk₃) 0 Z' KC rfl rfl fun h₄ tk₄ Z₄ => ?_)
      dsimp only [List.set] at Z₄
      refine wpAny_pure ?_
      rw [if_pos rfl]
      refine ldv 0 Z₄ KC rfl rfl (ldv 0 Z₄ KC rfl rfl (dsetD 1 Z₄ rfl hd (by omega) fun o' h₅ tk₅ hd' Z₅ => ?_))
      dsimp only [List.set] at Z₅
      refine ⟨xs.length + 1 - (i + 1), by omega, i + 1, _, oI', o', _, h₅, tk₅, rfl, by omega, rfl, hd', ?_, Z₅, ⟨oI', Z₅.get (j := 2) rfl, r⟩⟩
      intro z hz'
      rw [List.take_add_one, show zl[i]? = some zl[i] by simp [hzi]] at hz'
      by_cases he : z = zl[i]
      · exact ⟨t', by simp [he]⟩
      · rw [if_neg he]
        rcases List.mem_append.mp hz' with q | q
        · exact hz z q
        · simp at q; exact absurd q he
    · have hin : i = xs.length := by omega
      subst hin
      refine W.done _ _ _ ⟨hit, hlz⟩ fun h₃ tk₃ hk => ?_
      have Z1 : Fx B C [x] [v] ((I, oI) :: (L, oL) :: (D, o) :: nw) h₂ := Z.perm (by
        refine List.Perm.trans (List.Perm.swap ..) (List.Perm.cons _ (List.Perm.swap ..)))
      have Z2 : Fx B C [x] [v] ((L, oL) :: (D, o) :: nw) h₃ := by
        obtain ⟨⟨m, hm, hv⟩, kp, hL, nws, nd⟩ := Z1
        have hI2 := nws (I, oI) (List.mem_cons_self)
        refine ⟨⟨m, ?_, hv⟩, fun a o e => hk a o ?_ (kp a o e), hL, fun p hp => ?_, (List.nodup_cons.mp nd).2⟩
        · obtain ⟨oL, es, ep, q1, q2⟩ := hm
          exact ⟨oL, es, ep, hk _ _ (fun q => hI2.2.2 (List.mem_singleton.mp q).symm) q1, q2⟩
        · intro q
          rw [List.mem_singleton.mp q, hI2.2.1] at e; cases e
        · have hp' := nws p (List.mem_cons_of_mem _ hp)
          refine ⟨hk _ _ (fun q => ?_) hp'.1, hp'.2⟩
          exact (List.nodup_cons.mp nd).1 (List.mem_map.mpr ⟨p, hp, List.mem_singleton.mp q⟩)
      obtain ⟨oC, hoC, V⟩ := Z2.switch hoL
      show wpAny _ _ (assign (.Name y py) env (.ref D)) _ _ _
      refine wpAny_assign_Name (stv (h := h₃) (tk := tk₃) iy V K hy hvy fun h₄ tk₄ V₄ => ?_)
      obtain ⟨es, ep, m, g2, g3, g4, _⟩ := hoC
      refine ⟨m, ⟨oC, es, ep, V₄.get (j := 0) rfl, g2, g3, g4⟩, fun h₅ hsb => ?_⟩
      have hzl : zl.length = xs.length := hi.length.symm
      rw [← hzl, List.take_length] at hz
      refine hq D o f h₅ tk₄ hd hz ?_
      have V' : Fx B L ns (vs.set iy (some (.ref D))) ((D, o) :: nw) h₅ := by
        obtain ⟨⟨m, hm, hv⟩, kp, hL, nws, nd⟩ := V₄
        have hI2 := nws (C, oC) (List.mem_cons_self)
        refine ⟨⟨m, hm.sameBut hsb (fun q => hI2.2.2 q.symm), hv⟩, fun a o e => (hsb.2 a ?_).trans (kp a o e), hL, fun p hp => ?_, (List.nodup_cons.mp nd).2⟩
        · rintro rfl
          rw [hI2.2.1] at e; cases e
        · have hp' := nws p (List.mem_cons_of_mem _ hp)
          refine ⟨(hsb.2 _ fun q => ?_).trans hp'.1, hp'.2⟩
          exact (List.nodup_cons.mp nd).1 (List.mem_map.mpr ⟨p, hp, q⟩)
      exact V'
  exact codeAny_compStart_dict main (W.self 0 _ _ _ ⟨hst₃, ⟨_, Y.keep _ _ hl, rfl, n, rfl⟩⟩ main)
end
end Mine
end
section
open PySem PySem.W PyProof.Rows PySem.Calls
set_option Elab.async false
set_option maxRecDepth 100000
namespace Mine

/-- what a price needs -/
def PrOk (alt : Array UInt8) (m v : Nat) : Prop := ∃ (cs out : List Nat), Txt.join (Str.ofString "") (listing m) ++ Str.ofString "AA" = ⟨cs.toArray⟩ ∧ (∀ c ∈ cs, c < 128) ∧ 2 ≤ cs.length ∧ cs.length < 900 ∧
  (∀ (i : Nat) (c : UInt8), (trB alt cs)[i]? = some c → c.toNat ≠ 61 ∧ b64v c.toNat < 64) ∧ ((trB alt cs).toList.map fun c => b64v c.toNat).foldl stp (0, 0, []) = (0, 0, out) ∧ (∀ x ∈ out, x < 256) ∧ out.length < 900 ∧ v = val256 out

def edgeOf (pr : Nat → Nat) (m p : Nat) : List E3 := if bt m p = 0 then [((((pr m : Int) - (pr (m + 2 ^ p) : Int)).natAbs : Int), (m : Int), ((2 ^ p : Nat) : Int))] else []
def edgesOf (pr : Nat → Nat) (M P : List Nat) : List E3 := M.flatMap fun m => P.flatMap (edgeOf pr m)
/-- a tuple of the ledger -/
def InT (T : List (Addr × Obj)) (p : VE) : Prop := ∃ a t1 t2 t3 n, p.1 = .ref a ∧ (a, tupO p.2 t1 t2 t3 n) ∈ T
theorem InT.mono {T T' : List (Addr × Obj)} {p : VE} (h : InT T p) (hs : ∀ x ∈ T, x ∈ T') : InT T' p := let ⟨a, t1, t2, t3, n, e1, e2⟩ := h; ⟨a, t1, t2, t3, n, e1, hs _ e2⟩
theorem InT.is {T : List (Addr × Obj)} {p : VE} {B : Base} {L : Addr} {ns : List Str} {vs : List (Option Value)} {nw : List (Addr × Obj)} {h : Heap} (q : InT T p) (X : Fx B L ns vs nw h) (hs : ∀ x ∈ T, x ∈ nw) : IsT3 h p.1 p.2 := by
  obtain ⟨a, t1, t2, t3, n, e1, e2⟩ := q
  exact ⟨a, t1, t2, t3, n, e1, (X.news _ (hs _ e2)).1⟩

def relab (f : Int → Int) (a b : Int) : Int → Int := fun x => if f x = b then a else f x
/-- the net, as it grows -/
def krun (lt : VE → VE → Bool) : Nat → List VE → (Int → Int) → List VE → List VE
  | 0, _, _, kept => kept
  | n + 1, hp, f, kept => match hp.getLast? with
    | none => kept
    | some last =>
      let r := hpop lt hp.dropLast last
      let a := f r.1.2.2.1
      let b := f (r.1.2.2.1 + r.1.2.2.2)
      if a = b then krun lt n r.2 f kept else krun lt n r.2 (relab f a b) (kept ++ [r.1])
def ltH (hv : Bool) : VE → VE → Bool := if hv then ltM else ltm

theorem and_bt {m p : Nat} : m &&& 2 ^ p = bt m p * 2 ^ p := by
  have ht : m.testBit p = decide (bt m p = 1) := by rw [Nat.testBit_eq_decide_div_mod_eq]; rfl
  have hlt := bt_lt m p
  apply Nat.eq_of_testBit_eq
  intro i
  rw [Nat.testBit_and, Nat.testBit_two_pow]
  by_cases hb : bt m p = 1
  · rw [hb, Nat.one_mul, Nat.testBit_two_pow]
    by_cases hi : p = i
    · subst hi; simp [ht, hb]
    · simp [hi]
  · have h0 : bt m p = 0 := by omega
    rw [h0, Nat.zero_mul, Nat.zero_testBit]
    by_cases hi : p = i
    · subst hi; simp [ht, h0]
    · simp [hi]
theorem su_memI {lt : VE → VE → Bool} {new : VE} {ps : List VE} {k : Nat} (hn : new ∈ ps) : ∀ x ∈ su lt new ps k, x ∈ ps := fun x hx => by
  rcases su_mem _ _ _ _ hx with q | rfl
  · exact q
  · exact hn
theorem heapG_length {lt : VE → VE → Bool} : ∀ (k : Nat) (ps : List VE), (heapG lt ps k).length = ps.length
  | 0, ps => rfl
  | k + 1, ps => by
    rw [heapG]
    split
    · rw [heapG_length k, su_length]
    · rfl
theorem heapG_mem {lt : VE → VE → Bool} : ∀ (k : Nat) (ps : List VE), ∀ x ∈ heapG lt ps k, x ∈ ps
  | 0, ps, x, h => h
  | k + 1, ps, x, h => by
    rw [heapG] at h
    split at h
    · rename_i y hy
      exact su_memI (List.mem_of_getElem? hy) x (heapG_mem k _ x h)
    · exact h
theorem hpop_length {lt : VE → VE → Bool} {ps : List VE} {last : VE} : (hpop lt ps last).2.length = ps.length := by
  unfold hpop
  cases ps with
  | nil => rfl
  | cons p r => simp [su_length]
theorem hpop_mem {lt : VE → VE → Bool} {ps : List VE} {last : VE} : (hpop lt ps last).1 ∈ ps ++ [last] ∧ ∀ x ∈ (hpop lt ps last).2, x ∈ ps ++ [last] := by
  unfold hpop
  cases ps with
  | nil => simp
  | cons p r =>
    refine ⟨by simp, fun x hx => ?_⟩
    have := su_memI (List.mem_cons_self) x hx
    simp only [List.mem_cons, List.mem_append] at this ⊢
    rcases this with q | q
    · exact .inr (.inl q)
    · exact .inl (.inr q)

theorem krun_eq {lt : VE → VE → Bool} {n : Nat} {ps : List VE} {last : VE} {g : Int → Int} {ks : List VE} (h : g (hpop lt ps last).1.2.2.1 = g ((hpop lt ps last).1.2.2.1 + (hpop lt ps last).1.2.2.2)) :
    krun lt (n + 1) (ps ++ [last]) g ks = krun lt n (hpop lt ps last).2 g ks := by
  rw [krun]
  simp [h]
theorem krun_ne {lt : VE → VE → Bool} {n : Nat} {ps : List VE} {last : VE} {g : Int → Int} {ks : List VE} (h : g (hpop lt ps last).1.2.2.1 ≠ g ((hpop lt ps last).1.2.2.1 + (hpop lt ps last).1.2.2.2)) :
    krun lt (n + 1) (ps ++ [last]) g ks = krun lt n (hpop lt ps last).2 (relab g (g (hpop lt ps last).1.2.2.1) (g ((hpop lt ps last).1.2.2.1 + (hpop lt ps last).1.2.2.2))) (ks ++ [(hpop lt ps last).1]) := by
  rw [krun]
  simp [h]
theorem edges_mem {pr : Nat → Nat} {M P : List Nat} {e : E3} (h : e ∈ edgesOf pr M P) : ∃ m p, m ∈ M ∧ p ∈ P ∧ bt m p = 0 ∧ e = ((((pr m : Int) - (pr (m + 2 ^ p) : Int)).natAbs : Int), (m : Int), ((2 ^ p : Nat) : Int)) := by
  unfold edgesOf at h
  obtain ⟨m, hm, h⟩ := List.mem_flatMap.mp h
  obtain ⟨p, hp, h⟩ := List.mem_flatMap.mp h
  unfold edgeOf at h
  split at h
  · rename_i hb
    exact ⟨m, p, hm, hp, hb, List.mem_singleton.mp h⟩
  · cases h

section
variable {w : World} {A : Around} {s₀ : Shared} {h : Heap} {tk : Nat} {B : Base}
abbrev nN : List Str := [Str.ofString "modes", Str.ofString "powers", Str.ofString "altchars", Str.ofString "heavy", Str.ofString "prices", Str.ofString "mode", Str.ofString "heap", Str.ofString "power", Str.ofString "bit", Str.ofString "parts", Str.ofString "kept", Str.ofString "edge", Str.ofString "here", Str.ofString "there"]
set_option maxHeartbeats 8000000 in
theorem net_spec {lm lp nm np : Nat} {vm vp : List Value} {M P : List Nat} {alt : Array UInt8} {ta : Tok} {hv : Bool} {pr : Nat → Nat} (G : GdB w B) (hB : Hol B h) (R : Rm A 20)
    (hlm : h.get? lm = some (listOf vm.toArray nm)) (him : IntsAre vm (zs M)) (hlp : h.get? lp = some (listOf vp.toArray np)) (hip : IntsAre vp (zs P)) (hM : M.length ≤ 16) (hP : P.length ≤ 4) (hP12 : ∀ p ∈ P, p < 12)
    (halt : alt.size = 2) (hpr : ∀ m ∈ M, PrOk alt m (pr m)) (hcl : ∀ m ∈ M, ∀ p ∈ P, bt m p = 0 → m + 2 ^ p ∈ M) :
    codeAny (Mo w) A (.call (.ref 201) ⟨[.ref lm, .ref lp, .bytes alt ta, .bool hv], []⟩) (RetTo s₀ h [] (fun v h' => ∃ a n es ks, v = .ref a ∧ h.get? a = none ∧ h'.get? a = some (lst ks n) ∧
      (∀ p ∈ ks, ∃ a t1 t2 t3 n, p.1 = .ref a ∧ h.get? a = none ∧ h'.get? a = some (tupO p.2 t1 t2 t3 n)) ∧ es.map (·.2) = edgesOf pr M P ∧ ks = krun (ltH hv) es.length (heapG (ltH hv) es (es.length / 2)) (fun x => x) [])) (St s₀ h tk) := by
  refine call_fn (k := 19) (D := []) (ns := nN) (gl := [(Str.ofString "_law_price", .ref 189), (Str.ofString "_heapify_max", .ref 154), (Str.ofString "heapify", .ref 140), (Str.ofString "_heappop_max", .ref 147), (Str.ofString "heappop", .ref 133)]) (bl := [(Str.ofString "abs", .builtin "abs")])
    (vals := [.ref lm, .ref lp, .bytes alt ta, .bool hv]) (nw := []) G hB (by simp) rfl (by simp) (by simp) R rfl (by rfl) rfl (BindsTo.of_eq rfl) ?_
  intro L env A' h₁ tk₁ K R' G' X
  dsimp only [initV] at X
  have esz : sizeLine = 16777216 := rfl
  have hBm : hid [] h lm = some (listOf vm.toArray nm) := by simpa [hid] using hlm
  have hBp : hid [] h lp = some (listOf vp.toArray np) := by simpa [hid] using hlp
  have hvm : vm.length = M.length := by have := him.length; simpa using this
  have hvp : vp.length = P.length := by have := hip.length; simpa using this
  refine wpAny_execs_cons (wpAny_Assign_Name (newD X ?_))
  clear X; intro pd o₀ h₂ tk₂ hd₀ X
  refine stv 4 X K rfl rfl ?_
  clear X; intro h₂ tk₂ X; dsimp only [List.set] at X
  refine cutS X (fun vs nw => ∃ v5 o f, vs = [some (.ref lm), some (.ref lp), some (.bytes alt ta), some (.bool hv), some (.ref pd), v5, none, none, none, none, none, none, none, none] ∧ nw = [(pd, o)] ∧ DictIs o f 16 ∧ ∀ z ∈ M, ∃ t, f (z : Int) = some (.int (pr z : Nat) t)) ?_ ?_
  · intro Rr hR
    refine forL 5 (fun i vs nw => ∃ v5 o f, vs = [some (.ref lm), some (.ref lp), some (.bytes alt ta), some (.bool hv), some (.ref pd), v5, none, none, none, none, none, none, none, none] ∧ nw = [(pd, o)] ∧ DictIs o f i ∧ ∀ z ∈ M.take i, ∃ t, f (z : Int) = some (.int (pr z : Nat) t))
      (fun _ _ => False) R' K X rfl (fun Q' hq => ldv 0 X K rfl rfl hq) hBm ⟨_, _, _, rfl, rfl, hd₀, by simp⟩ (by rintro i _ _ ⟨_, _, _, rfl, _⟩; rfl) ?_ ?_ (fun _ _ _ _ q => q.elim)
    · clear X
      rintro i v I oI _ _ h₂ tk₂ Pp hv' ⟨v5, o, f, rfl, rfl, hd, hf⟩ X hnx hbk hrt
      obtain ⟨m, t5, hm, rfl⟩ := zs_get him hv'
      dsimp only [List.set] at X
      have hil : i < M.length := (List.getElem?_eq_some_iff.mp hm).1
      obtain ⟨cs, out, q1, q2, q3, q4, q5, q6, q7, q8, q9⟩ := hpr m (List.mem_of_getElem? hm)
      refine wpAny_execs_cons (wpAny_Assign_Subscript (fcall2 X G' K 0 rfl rfl (ldv 5 X K rfl rfl (ldv 2 X K rfl rfl (And.intro (X.gd G').k (use_call (price_spec (cs := cs) (out := out) G' X.keep (R'.le (by omega)) halt q1 q2 q3 q4 q5 q6 q7 q8) ?_))))))
      rintro _ h₃ tk₃ c ⟨t6, rfl⟩
      replace X := X.chg0 c
      refine ldv 4 X K rfl rfl (ldv 5 X K rfl rfl (setD 1 X rfl hd (by omega) ?_))
      clear X
      intro o' h₄ tk₄ hd' X
      dsimp only [List.set] at X
      refine wpAny_execs_nil (hnx _ _ _ _ ⟨_, o', _, rfl, rfl, hd', fun z hz => ?_⟩ X).1
      by_cases hzm : z = m
      · subst hzm
        exact ⟨t6, by rw [if_pos rfl, q9]⟩
      · rw [if_neg (by omega)]
        rw [List.take_add_one, hm] at hz
        rcases List.mem_append.mp hz with q | q
        · exact hf z q
        · simp at q; exact absurd q hzm
    · clear X
      rintro _ _ h₂ tk₂ ⟨v5, o, f, rfl, rfl, hd, hf⟩ X
      rw [hvm] at hd hf
      rw [List.take_length] at hf
      obtain ⟨hc, es, ep, d1, d2, d3, d4⟩ := hd
      exact wpAny_execs_nil (hR _ _ _ _ ⟨_, _, _, rfl, rfl, ⟨hc, es, ep, d1, d2, d3, by omega⟩, hf⟩ X)
  clear X hd₀ o₀
  rintro _ _ h₂ tk₂ ⟨v5, o, f, rfl, rfl, hd, hf⟩ X
  refine wpAny_execs_cons (wpAny_Assign_Name (lstE0 (newLst X (Nat.zero_le _) ?_)))
  clear X; intro hl h₂ tk₂ _ _ X
  refine stv 6 X K rfl rfl ?_
  clear X; intro h₂ tk₂ X; dsimp only [List.set] at X
  refine cutS X (fun vs nw => ∃ v5 v7 v8 es n T, vs = [some (.ref lm), some (.ref lp), some (.bytes alt ta), some (.bool hv), some (.ref pd), v5, some (.ref hl), v7, v8, none, none, none, none, none] ∧ nw = (hl, lst es n) :: T ∧ (∀ p ∈ es, InT T p) ∧ es.map (·.2) = edgesOf pr M P ∧ es.length ≤ 64) ?_ ?_
  · intro Rr hR
    refine forL 5 (fun i vs nw => ∃ v5 v7 v8 es n T, vs = [some (.ref lm), some (.ref lp), some (.bytes alt ta), some (.bool hv), some (.ref pd), v5, some (.ref hl), v7, v8, none, none, none, none, none] ∧ nw = (hl, lst es n) :: (pd, o) :: T ∧ (∀ p ∈ es, InT T p) ∧ es.map (·.2) = edgesOf pr (M.take i) P ∧ es.length ≤ i * 4)
      (fun _ _ => False) R' K X rfl (fun Q' hq => ldv 0 X K rfl rfl hq) hBm ⟨_, _, _, [], _, [], rfl, rfl, by simp, by simp [edgesOf], by simp⟩ (by rintro i _ _ ⟨_, _, _, _, _, _, rfl, _⟩; rfl) ?_ ?_ (fun _ _ _ _ q => q.elim)
    · clear X
      rintro i v I oI _ _ h₂ tk₂ Pp hv' ⟨v5, v7, v8, es, n, T, rfl, rfl, hT, hes, hel⟩ X hnx hbk hrt
      obtain ⟨m, t5, hm, rfl⟩ := zs_get him hv'
      dsimp only [List.set] at X
      have hmM := List.mem_of_getElem? hm
      have hil : i < M.length := (List.getElem?_eq_some_iff.mp hm).1
      refine wpAny_execs_cons (forL 7 (fun j vs nw => ∃ v7 v8 es n T, vs = [some (.ref lm), some (.ref lp), some (.bytes alt ta), some (.bool hv), some (.ref pd), some (.int (m : Nat) t5), some (.ref hl), v7, v8, none, none, none, none, none] ∧ nw = (I, oI) :: (hl, lst es n) :: (pd, o) :: T ∧ (∀ p ∈ es, InT T p) ∧ es.map (·.2) = edgesOf pr (M.take i) P ++ (P.take j).flatMap (edgeOf pr m) ∧ es.length ≤ i * 4 + j)
        (fun _ _ => False) R' K X rfl (fun Q' hq => ldv 1 X K rfl rfl hq) hBp ⟨_, _, es, _, T, rfl, rfl, hT, by simp [hes], by omega⟩ (by rintro i _ _ ⟨_, _, _, _, _, rfl, _⟩; rfl) ?_ ?_ (fun _ _ _ _ q => q.elim))
      · clear X hT hes hel
        rintro j v J oJ _ _ h₂ tk₂ Pq hv' ⟨v7, v8, es, n, T, rfl, rfl, hT, hes, hel⟩ X hnx hbk hrt
        obtain ⟨p, t7, hp, rfl⟩ := zs_get hip hv'
        dsimp only [List.set] at X
        have hpP := List.mem_of_getElem? hp
        have hjl : j < P.length := (List.getElem?_eq_some_iff.mp hp).1
        have hp12 := hP12 p hpP
        have htk : (P.take (j + 1)).flatMap (edgeOf pr m) = (P.take j).flatMap (edgeOf pr m) ++ edgeOf pr m p := by
          rw [List.take_add_one, hp, List.flatMap_append]; simp
        refine wpAny_execs_cons (wpAny_Assign_Name (wpAny_BinOp (cI (ldv 7 X K rfl rfl (powI (by omega) (by omega) (by decide) ?_)))))
        rw [pw2]
        refine stv 8 X K rfl rfl ?_
        clear X; intro h₂ tk₂ X; dsimp only [List.set] at X
        refine wpAny_execs_cons (wpAny_If (wpAny_isTrue_Not (wpAny_isTrue_value (wpAny_BinOp (ldv 5 X K rfl rfl (ldv 8 X K rfl rfl (andI (truthyI ?_))))))))
        have hb2 := pw2_b hp12
        rw [bitAnd_pp (by omega) (by omega), Int.toNat_natCast, Int.toNat_natCast, and_bt]
        by_cases hb : bt m p = 0
        · rw [hb, Nat.zero_mul]
          rw [if_pos (by decide)]
          obtain ⟨u1, hu1⟩ := hf m hmM
          obtain ⟨u2, hu2⟩ := hf (m + 2 ^ p) (hcl m hmM p hpP hb)
          have hu2' : f ((m : Int) + ((2 ^ p : Nat) : Int)) = some (.int (pr (m + 2 ^ p) : Nat) u2) := by rw [← hu2]; congr 1
          refine wpAny_execs_cons (exprS K (mcall1 PySem.F.slot_list_append PySem.F.type_list_append (ldv 6 X K rfl rfl ?_)))
          refine ⟨_, _, _, rfl, X.get (j := 2) rfl, ?_⟩
          refine tupE3 (bcall1 X G' K 0 rfl (wpAny_BinOp (Subscript_ (ldv 4 X K rfl rfl (ldv 5 X K rfl rfl (subD (X.get (j := 3) rfl) hd hu1 (Subscript_ (ldv 4 X K rfl rfl (wpAny_BinOp (ldv 5 X K rfl rfl (ldv 8 X K rfl rfl (addI (subD (X.get (j := 3) rfl) hd hu2' (subI (absI ?_)))))))))))))))
          intro t' tk'
          refine ldv 5 X K rfl rfl (ldv 8 X K rfl rfl (newTup X (by simp; omega) ?_))
          clear X; intro a h₃ tk₃ _ _ X
          replace X := X.perm (nw' := (J, oJ) :: (I, oI) :: (hl, lst es n) :: (pd, o) :: (a, _) :: T) (by
            refine List.Perm.trans ?_ (List.perm_middle (l₁ := [(J, oJ), (I, oI), (hl, lst es n), (pd, o)]))
            exact List.Perm.refl _)
          refine appL 2 X rfl (by simp; omega) ?_
          clear X; intro h₂ tk₂ X; dsimp only [List.set] at X
          rw [show listOf (es.map (·.1) ++ [Value.ref a]).toArray (n + 1) = lst (es ++ [(.ref a, ((((pr m : Int) - (pr (m + 2 ^ p) : Int)).natAbs : Int), (m : Int), ((2 ^ p : Nat) : Int)))]) (n + 1) by simp [lst]] at X
          refine ⟨rfl, wpAny_execs_nil (wpAny_execs_nil (hnx _ _ _ _ ⟨_, _, es ++ [(.ref a, ((((pr m : Int) - (pr (m + 2 ^ p) : Int)).natAbs : Int), (m : Int), ((2 ^ p : Nat) : Int)))], _, _, rfl, rfl, ?_, ?_, ?_⟩ X).1)⟩
          · intro q hq
            rcases List.mem_append.mp hq with r | r
            · exact (hT q r).mono fun x hx => List.mem_cons_of_mem _ hx
            · rw [List.mem_singleton.mp r]
              exact ⟨a, _, _, _, _, rfl, List.mem_cons_self⟩
          · rw [List.map_append, hes, htk, edgeOf, if_pos hb]; simp
          · rw [List.length_append]; simp; omega
        · have hb1 : bt m p = 1 := by have := bt_lt m p; omega
          rw [hb1, Nat.one_mul]
          rw [nT (a := ((2 ^ p : Nat) : Int)) (b := 0) (by omega), if_neg (by decide)]
          refine wpAny_execs_nil (wpAny_execs_nil (hnx _ _ _ _ ⟨_, _, es, _, T, rfl, rfl, hT, ?_, by omega⟩ X).1)
          rw [htk, edgeOf, if_neg hb, List.append_nil]; exact hes
      · clear X hT hes hel
        rintro _ _ h₂ tk₂ ⟨v7, v8, es, n, T, rfl, rfl, hT, hes, hel⟩ X
        rw [hvp, List.take_length] at hes
        refine wpAny_execs_nil (wpAny_execs_nil (hnx _ _ _ _ ⟨_, _, _, es, _, T, rfl, rfl, hT, ?_, by omega⟩ X).1)
        rw [hes, List.take_add_one, hm]
        simp [edgesOf]
    · clear X
      rintro _ _ h₂ tk₂ ⟨v5, v7, v8, es, n, T, rfl, rfl, hT, hes, hel⟩ X
      rw [hvm, List.take_length] at hes
      exact wpAny_execs_nil (hR _ _ _ _ ⟨_, _, _, es, _, (pd, o) :: T, rfl, rfl, fun p hp => (hT p hp).mono fun x hx => List.mem_cons_of_mem _ hx, hes, by omega⟩ X)
  clear X hd hf
  rintro _ _ h₂ tk₂ ⟨v5, v7, v8, es, n, T, rfl, rfl, hT, hes, hel⟩ X
  have hee : ∀ p ∈ es, ∃ m q, m ∈ M ∧ m + 2 ^ q ∈ M ∧ p.2.2.1 = (m : Int) ∧ p.2.2.2 = ((2 ^ q : Nat) : Int) := fun p hp => by
    have hx : p.2 ∈ edgesOf pr M P := by rw [← hes]; exact List.mem_map.mpr ⟨p, hp, rfl⟩
    obtain ⟨m, q, h1, h2, h3, h4⟩ := edges_mem hx
    exact ⟨m, q, h1, hcl m h1 q h2 h3, by rw [h4], by rw [h4]⟩
  refine cutS X (fun vs nw => ∃ n, vs = [some (.ref lm), some (.ref lp), some (.bytes alt ta), some (.bool hv), some (.ref pd), v5, some (.ref hl), v7, v8, none, none, none, none, none] ∧ nw = (hl, lst (heapG (ltH hv) es (es.length / 2)) n) :: T) ?_ ?_
  · intro Rr hR
    refine wpAny_If (wpAny_isTrue_value (ldv 3 X K rfl rfl (wpAny_truthy_bool ?_)))
    cases hv with
    | true =>
      rw [if_pos (by decide)]
      refine wpAny_execs_cons (exprS K (fcall1 X G' K 1 rfl rfl (ldv 6 X K rfl rfl (And.intro (X.gd G').k (use_call (heapifyM_spec G' X.keep (X.news _ List.mem_cons_self).2.1 (R'.le (by omega)) (X.get (j := 0) rfl) (fun p hp => (hT p hp).is X fun x hx => List.mem_cons_of_mem _ hx) (by omega)) ?_)))))
      rintro _ h₃ tk₃ c ⟨rfl, hp⟩
      replace X := X.chg1 (j := 0) rfl c hp
      dsimp only [List.set] at X
      exact ⟨rfl, wpAny_execs_nil (hR _ _ _ _ ⟨_, rfl, rfl⟩ X)⟩
    | false =>
      rw [if_neg (by decide)]
      refine wpAny_execs_cons (exprS K (fcall1 X G' K 2 rfl rfl (ldv 6 X K rfl rfl (And.intro (X.gd G').k (use_call (heapify_spec G' X.keep (X.news _ List.mem_cons_self).2.1 (R'.le (by omega)) (X.get (j := 0) rfl) (fun p hp => (hT p hp).is X fun x hx => List.mem_cons_of_mem _ hx) (by omega)) ?_)))))
      rintro _ h₃ tk₃ c ⟨rfl, hp⟩
      replace X := X.chg1 (j := 0) rfl c hp
      dsimp only [List.set] at X
      exact ⟨rfl, wpAny_execs_nil (hR _ _ _ _ ⟨_, rfl, rfl⟩ X)⟩
  clear X
  rintro _ _ h₂ tk₂ ⟨n, rfl, rfl⟩ X
  refine wpAny_execs_cons (asgDC 0 9 R' K X rfl rfl hBm him (by omega) rfl rfl (fk_swaps 9 K rfl rfl) (by rfl) (by decide) rfl (by decide) (by rfl) ?_)
  clear X; intro qd o₁ f₁ h₂ tk₂ hd₁ hf₁ X
  dsimp only [List.set] at X
  refine wpAny_execs_cons (wpAny_Assign_Name (lstE0 (newLst X (Nat.zero_le _) ?_)))
  clear X; intro kd h₂ tk₂ _ _ X
  refine stv 10 X K rfl rfl ?_
  clear X; intro h₂ tk₂ X; dsimp only [List.set] at X
  rw [show listOf ([] : List Value).toArray 0 = lst [] 0 by rfl] at X
  generalize hH : heapG (ltH hv) es (es.length / 2) = H at X ⊢
  have hHl : H.length = es.length := by rw [← hH, heapG_length]
  have hHm : ∀ p ∈ H, p ∈ es := by rw [← hH]; exact heapG_mem _ _
  generalize hRES : krun (ltH hv) es.length H (fun x => x) [] = RES
  rw [← hHl] at hRES
  refine wpAny_execs_cons (whileX (fun k vs nw => ∃ v5 v11 v12 v13 hp n ks kn o f g nd, vs = [some (.ref lm), some (.ref lp), some (.bytes alt ta), some (.bool hv), some (.ref pd), v5, some (.ref hl), v7, v8, some (.ref qd), some (.ref kd), v11, v12, v13] ∧ nw = (kd, lst ks kn) :: (qd, o) :: (hl, lst hp n) :: T ∧ k = hp.length ∧
      (∀ p ∈ hp, p ∈ es) ∧ (∀ p ∈ ks, p ∈ es) ∧ DictIs o f nd ∧ nd + 100 * hp.length ≤ 10000 ∧ (∀ z ∈ M, ∃ t, f (z : Int) = some (.int (g (z : Int)) t)) ∧ krun (ltH hv) hp.length hp g ks = RES ∧ ks.length + hp.length ≤ 64)
    (fun vs nw => ∃ v5 v11 v12 v13 kn r, vs = [some (.ref lm), some (.ref lp), some (.bytes alt ta), some (.bool hv), some (.ref pd), v5, some (.ref hl), v7, v8, some (.ref qd), some (.ref kd), v11, v12, v13] ∧ nw = (kd, lst RES kn) :: r ∧ (∀ x ∈ T, x ∈ r) ∧ ∀ p ∈ RES, p ∈ es)
    H.length ⟨_, _, _, _, H, _, [], _, o₁, f₁, fun x => x, _, rfl, rfl, rfl, hHm, by simp, hd₁, by omega, fun z hz => hf₁ z (List.mem_map.mpr ⟨z, hz, rfl⟩), hRES, by simp; omega⟩ X ?_ ?_)
  · clear X hd₁ hf₁ hRES hHm hHl hH H
    rintro k _ _ h₂ tk₂ Pp Dd ⟨v5, v11, v12, v13, hp, n, ks, kn, o, f, g, nd, rfl, rfl, rfl, hpe, hke, hd, hnd, hf, hkr, hln⟩ X hnx hbk hrt
    refine wpAny_isTrue_value (ldv 6 X K rfl rfl (truthyL (X.get (j := 2) rfl) (by simp; omega) ?_))
    intro tk₃
    rcases List.eq_nil_or_concat hp with rfl | ⟨ps, last, rfl⟩
    · rw [if_neg (by simp)]
      have hkr' : ks = RES := hkr
      subst hkr'
      exact (hbk _ _ _ _ ⟨_, _, _, _, _, _, rfl, rfl, fun x hx => List.mem_cons_of_mem _ (List.mem_cons_of_mem _ hx), hke⟩ X).2
    · rw [List.concat_eq_append] at *
      rw [if_pos (by simp)]
      rw [List.length_append] at hln hnd
      simp only [List.length_singleton] at hln hnd
      refine cutS X (fun vs nw => ∃ n, vs = [some (.ref lm), some (.ref lp), some (.bytes alt ta), some (.bool hv), some (.ref pd), v5, some (.ref hl), v7, v8, some (.ref qd), some (.ref kd), some (hpop (ltH hv) ps last).1.1, v12, v13] ∧ nw = (kd, lst ks kn) :: (qd, o) :: (hl, lst (hpop (ltH hv) ps last).2 n) :: T) ?_ ?_
      · intro Rr hR
        refine wpAny_Assign_Name (wpAny_IfExp (wpAny_isTrue_value (ldv 3 X K rfl rfl (wpAny_truthy_bool ?_))))
        have hdn := (X.news (hl, lst (ps ++ [last]) n) (by simp)).2.1
        cases hv with
        | true =>
          rw [if_pos (by decide)]
          refine fcall1 X G' K 3 rfl rfl (ldv 6 X K rfl rfl (And.intro (X.gd G').k (use_call (heappopM_spec G' X.keep hdn (R'.le (by omega)) (X.get (j := 2) rfl) (fun p hp => (hT p (hpe p hp)).is X fun x hx => List.mem_cons_of_mem _ (List.mem_cons_of_mem _ (List.mem_cons_of_mem _ hx))) (by omega)) ?_)))
          rintro _ h₃ tk₃ c ⟨rfl, n', hp⟩
          replace X := X.chg1 (j := 2) rfl c hp
          dsimp only [List.set] at X
          refine stv 11 X K rfl rfl ?_
          clear X; intro h₂ tk₂ X; dsimp only [List.set] at X
          exact hR _ _ _ _ ⟨_, rfl, rfl⟩ X
        | false =>
          rw [if_neg (by decide)]
          refine fcall1 X G' K 4 rfl rfl (ldv 6 X K rfl rfl (And.intro (X.gd G').k (use_call (heappop_spec G' X.keep hdn (R'.le (by omega)) (X.get (j := 2) rfl) (fun p hp => (hT p (hpe p hp)).is X fun x hx => List.mem_cons_of_mem _ (List.mem_cons_of_mem _ (List.mem_cons_of_mem _ hx))) (by omega)) ?_)))
          rintro _ h₃ tk₃ c ⟨rfl, n', hp⟩
          replace X := X.chg1 (j := 2) rfl c hp
          dsimp only [List.set] at X
          refine stv 11 X K rfl rfl ?_
          clear X; intro h₂ tk₂ X; dsimp only [List.set] at X
          exact hR _ _ _ _ ⟨_, rfl, rfl⟩ X
      clear X
      rintro _ _ h₂ tk₂ ⟨n, rfl, rfl⟩ X
      have hrm := hpop_mem (lt := ltH hv) (ps := ps) (last := last)
      have hrl := hpop_length (lt := ltH hv) (ps := ps) (last := last)
      have hk1 := krun_eq (lt := ltH hv) (n := ps.length) (ps := ps) (last := last) (g := g) (ks := ks)
      have hk2 := krun_ne (lt := ltH hv) (n := ps.length) (ps := ps) (last := last) (g := g) (ks := ks)
      rw [List.length_append, List.length_singleton] at hkr
      generalize hpop (ltH hv) ps last = r at X hrm hrl hk1 hk2
      have hre : r.1 ∈ es := hpe _ hrm.1
      obtain ⟨a, t1, t2, t3, n3, e1, e2⟩ := hT _ hre
      obtain ⟨m, q, hm1, hm2, em, eq⟩ := hee _ hre
      obtain ⟨u1, hu1⟩ := hf m hm1
      obtain ⟨u2, hu2⟩ := hf _ hm2
      rw [em, eq] at hk1 hk2
      have hu2' : f ((m : Int) + ((2 ^ q : Nat) : Int)) = some (.int (g ((m : Int) + ((2 ^ q : Nat) : Int))) u2) := by
        rw [← Int.natCast_add]; exact hu2
      rw [e1] at X
      rw [show tupO r.1.2 t1 t2 t3 n3 = { cls := .type "tuple", data := .seq [Value.int r.1.2.1 t1, .int (m : Int) t2, .int ((2 ^ q : Nat) : Int) t3].toArray n3 } by rw [tupO, em, eq]] at e2
      have hmem : ∀ (x y z : Addr × Obj), (a, { cls := .type "tuple", data := .seq [Value.int r.1.2.1 t1, .int (m : Int) t2, .int ((2 ^ q : Nat) : Int) t3].toArray n3 }) ∈ x :: y :: z :: T := fun x y z => List.mem_cons_of_mem _ (List.mem_cons_of_mem _ (List.mem_cons_of_mem _ e2))
      refine wpAny_execs_cons (wpAny_Assign_Name (Subscript_ (ldv 9 X K rfl rfl (Subscript_ (ldv 11 X K rfl rfl (cI (subT (X.news _ (hmem _ _ _)).1 (by decide) (by simp) rfl (subD (X.get (j := 1) rfl) hd hu1 (stv 12 X K rfl rfl ?_)))))))))
      clear X; intro h₂ tk₂ X; dsimp only [List.set] at X
      refine wpAny_execs_cons (wpAny_Assign_Name (Subscript_ (ldv 9 X K rfl rfl (wpAny_BinOp (Subscript_ (ldv 11 X K rfl rfl (cI (subT (X.news _ (hmem _ _ _)).1 (by decide) (by simp) rfl (Subscript_ (ldv 11 X K rfl rfl (cI (subT (X.news _ (hmem _ _ _)).1 (by decide) (by simp) rfl (addI (subD (X.get (j := 1) rfl) hd hu2' (stv 13 X K rfl rfl ?_)))))))))))))))
      clear X; intro h₂ tk₂ X; dsimp only [List.set] at X
      refine wpAny_execs_cons (wpAny_If (wpAny_isTrue_Compare1 (ldv 12 X K rfl rfl (ldv 13 X K rfl rfl (neI (wpAny_truthy_bool ?_))))))
      generalize hga : g (m : Int) = ga at X hk1 hk2 ⊢
      generalize hgb : g ((m : Int) + ((2 ^ q : Nat) : Int)) = gb at X hk1 hk2 ⊢
      by_cases hne : ga = gb
      · rw [if_neg (nF hne)]
        refine wpAny_execs_nil (wpAny_execs_nil (hnx r.2.length _ _ _ _ (by rw [hrl]; simp) ⟨_, _, _, _, r.2, _, ks, _, o, f, g, nd, rfl, rfl, rfl, fun p hp => hpe p (hrm.2 p hp), hke, hd, by omega, hf, ?_, by omega⟩ X).1)
        rw [hrl, ← hk1 hne]; exact hkr
      · rw [if_pos (nT hne)]
        refine wpAny_execs_cons (exprS K (mcall1 PySem.F.slot_list_append PySem.F.type_list_append (ldv 10 X K rfl rfl ?_)))
        refine ⟨_, _, _, rfl, X.get (j := 0) rfl, ?_⟩
        refine ldv 11 X K rfl rfl (appL 0 X rfl (by simp; omega) ?_)
        clear X; intro h₂ tk₂ X; dsimp only [List.set] at X
        rw [show listOf (ks.map (·.1) ++ [Value.ref a]).toArray (kn + 1) = lst (ks ++ [r.1]) (kn + 1) by simp [lst, e1]] at X
        refine ⟨rfl, ?_⟩
        refine wpAny_execs_cons (forL 5 (fun j vs nw => ∃ v5 o f, vs = [some (.ref lm), some (.ref lp), some (.bytes alt ta), some (.bool hv), some (.ref pd), v5, some (.ref hl), v7, v8, some (.ref qd), some (.ref kd), some (.ref a), some (.int ga u1), some (.int gb u2)] ∧ nw = (kd, lst (ks ++ [r.1]) (kn + 1)) :: (qd, o) :: (hl, lst r.2 n) :: T ∧ DictIs o f (nd + j) ∧
            (∀ z ∈ M, ∃ t, f (z : Int) = some (.int (if z ∈ M.take j then relab g ga gb (z : Int) else g (z : Int)) t)))
          (fun _ _ => False) R' K X rfl (fun Q' hq => ldv 0 X K rfl rfl hq) hBm ⟨_, o, f, rfl, rfl, hd, by simpa using hf⟩ (by rintro i _ _ ⟨_, _, _, rfl, _⟩; rfl) ?_ ?_ (fun _ _ _ _ q => q.elim))
        · clear X hf hd hu1 hu2 hu2' f o
          rintro j v J oJ _ _ h₂ tk₂ Pq hv' ⟨v5, o, f, rfl, rfl, hd, hf⟩ X hnx' hbk' hrt'
          obtain ⟨z, t5, hz, rfl⟩ := zs_get him hv'
          dsimp only [List.set] at X
          have hzM := List.mem_of_getElem? hz
          have hjl : j < M.length := (List.getElem?_eq_some_iff.mp hz).1
          obtain ⟨u, hu⟩ := hf z hzM
          refine wpAny_execs_cons (wpAny_If (wpAny_isTrue_Compare1 (Subscript_ (ldv 9 X K rfl rfl (ldv 5 X K rfl rfl (subD (X.get (j := 2) rfl) hd hu (ldv 13 X K rfl rfl (eqI (wpAny_truthy_bool ?_)))))))))
          have hrel : relab g ga gb (z : Int) = if g (z : Int) = gb then ga else g (z : Int) := rfl
          by_cases hq : (if z ∈ M.take j then relab g ga gb (z : Int) else g (z : Int)) = gb
          · rw [if_pos (eT hq)]
            have hgz : g (z : Int) = gb := by
              split at hq
              · rw [hrel] at hq
                split at hq
                · exact absurd hq hne
                · exact hq
              · exact hq
            refine wpAny_execs_cons (wpAny_Assign_Subscript (ldv 12 X K rfl rfl (ldv 9 X K rfl rfl (ldv 5 X K rfl rfl (setD 2 X rfl hd (by omega) ?_)))))
            clear X
            intro o' h₄ tk₄ hd' X
            dsimp only [List.set] at X
            refine wpAny_execs_nil (wpAny_execs_nil (hnx' _ _ _ _ ⟨_, o', _, rfl, rfl, hd', fun y hy => ?_⟩ X).1)
            by_cases hyz : y = z
            · subst hyz
              refine ⟨u1, ?_⟩
              rw [if_pos rfl, if_pos (by rw [List.take_add_one, hz]; simp), hrel, if_pos hgz]
            · rw [if_neg (by omega)]
              obtain ⟨t, ht⟩ := hf y hy
              refine ⟨t, ?_⟩
              rw [ht]
              have : (y ∈ M.take (j + 1)) ↔ y ∈ M.take j := by rw [List.take_add_one, hz]; simp [hyz]
              simp only [this]
          · rw [if_neg (eF hq)]
            obtain ⟨hc, es', ep, d1, d2, d3, d4⟩ := hd
            refine wpAny_execs_nil (wpAny_execs_nil (hnx' _ _ _ _ ⟨_, o, f, rfl, rfl, ⟨hc, es', ep, d1, d2, d3, by omega⟩, fun y hy => ?_⟩ X).1)
            obtain ⟨t, ht⟩ := hf y hy
            refine ⟨t, ?_⟩
            rw [ht]
            by_cases hyz : y = z
            · subst hyz
              rw [if_pos (by rw [List.take_add_one, hz]; simp : y ∈ M.take (j + 1))]
              split
              · rfl
              · rename_i hni
                rw [if_neg hni] at hq
                rw [hrel, if_neg hq]
            · have : (y ∈ M.take (j + 1)) ↔ y ∈ M.take j := by rw [List.take_add_one, hz]; simp [hyz]
              simp only [this]
        · clear X hf hd hu1 hu2 hu2' f o
          rintro _ _ h₂ tk₂ ⟨v5, o, f, rfl, rfl, hd, hf⟩ X
          rw [hvm, List.take_length] at hf
          refine wpAny_execs_nil (wpAny_execs_nil (wpAny_execs_nil (hnx r.2.length _ _ _ _ (by rw [hrl]; simp) ⟨_, _, _, _, r.2, _, ks ++ [r.1], _, o, f, relab g ga gb, _, rfl, rfl, rfl, fun p hp => hpe p (hrm.2 p hp), ?_, hd, by omega, ?_, ?_, by simp; omega⟩ X).1))
          · intro p hp
            rcases List.mem_append.mp hp with q | q
            · exact hke p q
            · rw [List.mem_singleton.mp q]; exact hre
          · intro z hz
            obtain ⟨t, ht⟩ := hf z hz
            rw [if_pos hz] at ht
            exact ⟨t, ht⟩
          · rw [hrl, ← hk2 hne]; exact hkr
  · clear X
    rintro _ _ h₂ tk₂ ⟨v5, v11, v12, v13, kn, r, rfl, rfl, hr, hre⟩ X
    have hfr : ∀ p ∈ (kd, lst RES kn) :: r, h.get? p.1 = none := fun p hp => by
      have := (X.news p hp).2.1
      simpa [hid] using this
    refine wpAny_execs_cons (wpAny_Return_some (ldv 10 X K rfl rfl ⟨h₂, tk₂, rfl, hid_hol X.keep, kd, kn, es, RES, rfl, hfr _ List.mem_cons_self, X.get (j := 0) rfl, fun p hp => ?_, hes, ?_⟩))
    · obtain ⟨a, t1, t2, t3, n, e1, e2⟩ := hT p (hre p hp)
      have hm := List.mem_cons_of_mem (kd, lst RES kn) (hr _ e2)
      exact ⟨a, t1, t2, t3, n, e1, hfr _ hm, (X.news _ hm).1⟩
    · rw [hH, ← hHl]; exact hRES.symm
end
end Mine
end
section
open PySem PySem.W PyProof.Rows PySem.Calls
set_option Elab.async false
set_option maxRecDepth 100000
namespace Mine

/-- a name that lives in a cell -/
structure CK (env : Env) (x : Str) (c : Addr) : Prop where
  kind : env.kindOf x = some .cell
  look : env.cells.lookup x = some c
  dbg : (x == ("__debug__" : Str)) = false

section
variable {w : World} {A : Around} {E : Value → Shared → Prop} {s₀ : Shared} {h : Heap} {tk : Nat} {B : Base} {L : Addr} {ns : List Str} {vs : List (Option Value)} {nw : List (Addr × Obj)}
  {env : Env} {gl bl : List (Str × Value)} {x : Str} {c : Addr} {pos : Pos} {v : Value} {oc : Obj}
theorem ldc (j : Nat) {Q : Value → Shared → Prop} (X : Fx B L ns vs nw h) (K : FK w env L ns gl bl) (C : CK env x c) (hj : nw[j]? = some (c, oc)) (hd : oc.data = .cell (some v)) (hq : Q v (St s₀ h tk)) :
    wpAny (Mo w) A (eval (.Name x pos) env) Q E (St s₀ h tk) :=
  wpAny_Name (wpAny_loadName_cell K.kind C.kind C.look ⟨_, X.get hj, hd⟩ hq) C.dbg
theorem stc (j : Nat) {v₀ : Option Value} {Q : Unit → Shared → Prop} (X : Fx B L ns vs nw h) (K : FK w env L ns gl bl) (C : CK env x c) (hj : nw[j]? = some (c, oc)) (hd : oc.data = .cell v₀)
    (hq : ∀ oc' h' tk', oc'.data = .cell (some v) → Fx B L ns vs (nw.set j (c, oc')) h' → Q () (St s₀ h' tk')) :
    wpAny (Mo w) A (storeName env x v) Q E (St s₀ h tk) := by
  refine wpAny_storeName_cell (s := St s₀ h tk) K.kind C.kind C.look ⟨_, X.get hj, hd⟩ fun h' hc hs => ?_
  obtain ⟨oc', ho', hd'⟩ := hc
  exact hq oc' h' tk hd' (X.chg1 hj (Chg.sameBut hs) ho')

/-- take ledger's head into the base -/
def addB (B : Base) (a : Addr) (o : Obj) : Base := fun x => if x = a then some o else B x
theorem addB_self {a : Addr} {o : Obj} : addB B a o a = some o := if_pos rfl
theorem addB_old {a b : Addr} {o p : Obj} (h : B b = some p) (hn : B a = none) : addB B a o b = some p := by
  unfold addB
  rw [if_neg (fun e => by rw [e, hn] at h; cases h)]; exact h
theorem Fx.absorb {a : Addr} {o : Obj} (X : Fx B L ns vs ((a, o) :: nw) h) : Fx (addB B a o) L ns vs nw h := by
  obtain ⟨hm, kp, hL, nws, nd⟩ := X
  have ha := nws (a, o) List.mem_cons_self
  refine ⟨hm, fun b p e => ?_, ?_, fun p hp => ?_, (List.nodup_cons.mp nd).2⟩
  · unfold addB at e
    split at e
    · rename_i q; cases e; rw [q]; exact ha.1
    · exact kp b p e
  · unfold addB; rw [if_neg (fun q => ha.2.2 q.symm)]; exact hL
  · have hp' := nws p (List.mem_cons_of_mem _ hp)
    refine ⟨hp'.1, ?_, hp'.2.2⟩
    unfold addB
    rw [if_neg fun q => (List.nodup_cons.mp nd).1 (List.mem_map.mpr ⟨p, hp, q⟩)]
    exact hp'.2.1
theorem GdB.add {a : Addr} {o : Obj} (G : GdB w B) (hn : B a = none) : GdB w (addB B a o) := G.mono fun _ _ e => addB_old e hn

theorem newLstE {ys : List Value} {Q : Value → Shared → Prop} (X : Fx B L ns vs nw h) (hn : ys.length ≤ sizeLine) (hq : ∀ a h' tk', Fx B L ns vs ((a, listOf ys.toArray 0) :: nw) h' → Q (.ref a) (St s₀ h' tk')) :
    wpAny (Mo w) A (newList ys) Q E (St s₀ h tk) := newLst X hn fun a h' tk' _ _ X => hq a h' tk' X
/-- a list and a list -/
theorem addL {l b : Addr} {xs ys : List Value} {n n2 : Nat} {Q : Value → Shared → Prop} (X : Fx B L ns vs nw h) (hl : h.get? l = some (listOf xs.toArray n)) (hb : h.get? b = some (listOf ys.toArray n2)) (hsz : xs.length + ys.length ≤ sizeLine)
    (hq : ∀ a h' tk', Fx B L ns vs ((a, listOf (xs ++ ys).toArray 0) :: nw) h' → Q (.ref a) (St s₀ h' tk')) :
    wpAny (Mo w) A (binaryOp .Add (.ref l) (.ref b)) Q E (St s₀ h tk) := by
  have e : xs.toArray ++ ys.toArray = (xs ++ ys).toArray := by simp
  refine concat_meets (s := St s₀ h tk) ⟨_, hl, rfl⟩ ⟨_, hb, rfl⟩ noFill_list_add seq_list_add PySem.F.slot_list_add PySem.F.entry_list_add (PySem.F.args_list_add_2 _ _) (list_addW l b xs.toArray ys.toArray n n2 none none #[] #[] (by simpa using hsz)) ⟨hl, hb, ?_⟩
  rw [e]
  exact hq _ _ _ (X.push _ rfl)
/-- a slice of a list -/
theorem sliL {value : Expr} {lower upper : Option Expr} {p : Pos} {Q : Value → Shared → Prop}
    (hq : wpAny (Mo w) A (eval value env) (fun o s₁ => wpAny (Mo w) A (evalPart lower env) (fun vl s₂ => wpAny (Mo w) A (evalPart upper env) (fun vu s₃ =>
      ∃ (L : Addr) (vs : List (Option Value)) (nw : List (Addr × Obj)) (h : Heap) (tk : Nat) (l : Addr) (xs : List Value) (n : Nat) (lo hi : Option Int), s₃ = St s₀ h tk ∧ Fx B L ns vs nw h ∧ o = .ref l ∧ h.get? l = some (listOf xs.toArray n) ∧ xs.length ≤ sizeLine ∧ IsPart vl lo ∧ IsPart vu hi ∧
        ∀ a h' tk', Fx B L ns vs ((a, listOf (slicePick xs.toArray lo hi none) 0) :: nw) h' → Q (.ref a) (St s₀ h' tk')) E s₂) E s₁) E (St s₀ h tk))
    (ht : ∀ o r, letTemporaryGo value o r = pure () := by intro _ _; rfl) :
    wpAny (Mo w) A (eval (.Subscript value (.Slice lower upper none p) pos) env) Q E (St s₀ h tk) := by
  refine wpAny_Subscript_list_slice (wpAny_mono hq (fun o s₁ q => wpAny_mono q (fun vl s₂ q => wpAny_mono q (fun vu s₃ q => ?_) fun _ _ e => e) fun _ _ e => e) fun _ _ e => e) ht
  obtain ⟨L, vs, nw, h, tk, l, xs, n, lo, hi, rfl, X, rfl, hl, hsz, pl, pu, hq⟩ := q
  refine ⟨l, xs.toArray, lo, hi, rfl, ⟨_, hl, rfl, n, rfl⟩, by simpa using hsz, pl, pu, ?_⟩
  have X2 := ((X.push { cls := .type "slice", data := .fields #[vl, vu, .none] } rfl).push { cls := .type "list", data := .seq (slicePick xs.toArray lo hi none) } rfl)
  rw [Heap.size_push] at X2
  exact hq (h.objs.size + 1) _ tk (X2.perm (List.Perm.swap ..) |>.drop)
/-- a slice of a list, any base -/
theorem sliT {value : Expr} {lower upper : Option Expr} {p : Pos} {Q : Value → Shared → Prop}
    (hq : wpAny (Mo w) A (eval value env) (fun o s₁ => wpAny (Mo w) A (evalPart lower env) (fun vl s₂ => wpAny (Mo w) A (evalPart upper env) (fun vu s₃ =>
      ∃ (L : Addr) (vs : List (Option Value)) (nw : List (Addr × Obj)) (h : Heap) (tk : Nat) (l : Addr) (xs : List Value) (n : Nat) (lo hi : Option Int), s₃ = St s₀ h tk ∧ Fx B L ns vs nw h ∧ o = .ref l ∧ h.get? l = some (listOf xs.toArray n) ∧ xs.length ≤ sizeLine ∧ IsPart vl lo ∧ IsPart vu hi ∧
        ∀ a h' tk', Fx B L ns vs ((a, listOf (slicePick xs.toArray lo hi none) 0) :: nw) h' → Q (.ref a) (St s₀ h' tk')) E s₂) E s₁) E (St s₀ h tk)) :
    wpAny (Mo w) A (eval (.Subscript value (.Slice lower upper none p) pos) env) Q E (St s₀ h tk) := by
  refine Subscript_ (wpAny_mono hq (fun o s₁ q => wpAny_Slice (wpAny_mono q (fun vl s₂ q => wpAny_mono q (fun vu s₃ q => ?_) fun _ _ e => e) fun _ _ e => e)) fun _ _ e => e)
  obtain ⟨L, vs, nw, h, tk, l, xs, n, lo, hi, rfl, X, rfl, hl, hsz, pl, pu, hq⟩ := q
  rw [evalPart_none]
  refine wpAny_pure ?_
  have hl' : (St s₀ h tk).heap.IsList l xs.toArray := ⟨_, hl, rfl, n, rfl⟩
  refine tail_any (Heap.IsList.typeIs (s := { (St s₀ h tk) with heap := (St s₀ h tk).heap.push { cls := .type "slice", data := .fields #[vl, vu, .none] } }) (hl'.push _)) list_getitem_lookup (wpAny_getItem_list_slice (hl'.push _) (Heap.IsSliceOf.new ..) pl pu .none (by simp) ?_ (by simpa using hsz)) (by with_unfolding_all rfl)
  have X2 := ((X.push { cls := .type "slice", data := .fields #[vl, vu, .none] } rfl).push { cls := .type "list", data := .seq (slicePick xs.toArray lo hi none) } rfl)
  exact hq _ _ tk (X2.perm (List.Perm.swap ..) |>.drop)
/-- a slice from a place, of ints -/
theorem sliF {value : Expr} {lower upper : Option Expr} {p : Pos} {Q : Value → Shared → Prop}
    (hq : wpAny (Mo w) A (eval value env) (fun o s₁ => wpAny (Mo w) A (evalPart lower env) (fun vl s₂ => wpAny (Mo w) A (evalPart upper env) (fun vu s₃ =>
      ∃ (L : Addr) (vs : List (Option Value)) (nw : List (Addr × Obj)) (h : Heap) (tk : Nat) (l : Addr) (xs : List Value) (n : Nat) (zl : List Int) (k : Nat) (t : Tok), s₃ = St s₀ h tk ∧ Fx B L ns vs nw h ∧ o = .ref l ∧ h.get? l = some (listOf xs.toArray n) ∧ xs.length ≤ sizeLine ∧ vl = .int (k : Int) t ∧ vu = .none ∧ IntsAre xs zl ∧
        ∀ a ys h' tk', IntsAre ys (zl.drop k) → Fx B L ns vs ((a, listOf ys.toArray 0) :: nw) h' → Q (.ref a) (St s₀ h' tk')) E s₂) E s₁) E (St s₀ h tk)) :
    wpAny (Mo w) A (eval (.Subscript value (.Slice lower upper none p) pos) env) Q E (St s₀ h tk) := by
  refine sliT (B := B) (ns := ns) (wpAny_mono hq (fun o s₁ q => wpAny_mono q (fun vl s₂ q => wpAny_mono q (fun vu s₃ q => ?_) fun _ _ e => e) fun _ _ e => e) fun _ _ e => e)
  obtain ⟨L, vs, nw, h, tk, l, xs, n, zl, k, t, rfl, X, rfl, hl, hsz, rfl, rfl, hi, hq⟩ := q
  refine ⟨L, vs, nw, h, tk, l, xs, n, some k, none, rfl, X, rfl, hl, hsz, .int _ _, .none, fun a h' tk' X' => ?_⟩
  have hs := slice_ints_fromW hi (x := (k : Int)) (by omega)
  generalize slicePick xs.toArray (some (k : Int)) none none = sl at X' hs
  obtain ⟨sl⟩ := sl
  exact hq a sl h' tk' (by simpa using hs) X'
theorem lstE4 {e1 e2 e3 e4 : Expr} {Q : Value → Shared → Prop} {s : Shared} (hq : wpAny (Mo w) A (eval e1 env) (fun v1 s1 => wpAny (Mo w) A (eval e2 env) (fun v2 s2 => wpAny (Mo w) A (eval e3 env) (fun v3 s3 => wpAny (Mo w) A (eval e4 env) (fun v4 s4 => wpAny (Mo w) A (newList [v1, v2, v3, v4]) Q E s4) E s3) E s2) E s1) E s)
    (he : starEach [e1, e2, e3, e4] env = [(false, eval e1 env), (false, eval e2 env), (false, eval e3 env), (false, eval e4 env)] := by rfl) : wpAny (Mo w) A (eval (.List [e1, e2, e3, e4] pos) env) Q E s := by
  refine List_ ?_
  rw [he]
  exact Calls.spliced_cons (wpAny_mono hq (fun _ _ q => Calls.spliced_cons (wpAny_mono q (fun _ _ q => Calls.spliced_cons (wpAny_mono q (fun _ _ q => Calls.spliced_cons (wpAny_mono q (fun _ _ q => Calls.spliced_nil q) fun _ _ e => e)) fun _ _ e => e)) fun _ _ e => e)) fun _ _ e => e)
end

/-- a for over any walk, the target any one name -/
theorem forC {w : World} {A : Around} {s₀ : Shared} {h : Heap} {tk : Nat} {B : Base} {L : Addr} {ns : List Str} {vs : List (Option Value)} {nw : List (Addr × Obj)} {env : Env}
    {x : Str} {px pos : Pos} {iter : Expr} {body orelse : List Stmt} {Q : Flow → Shared → Prop} {l : Addr} {xs : List Value} {e n : Nat}
    (Inv : Nat → List (Option Value) → List (Addr × Obj) → Prop)
    (R : Rm A e) (X : Fx B L ns vs nw h)
    (hit : ∀ Q' : Value → Shared → Prop, Q' (.ref l) (St s₀ h tk) → wpAny (Mo w) A (eval iter env) Q' NE (St s₀ h tk))
    (hl : B l = some (listOf xs.toArray n))
    (hI : Inv 0 vs nw)
    (turn : ∀ i v I oI vs nw h tk (Pp : Flow → Shared → Prop), xs[i]? = some v → Inv i vs nw → Fx B L ns vs ((I, oI) :: nw) h →
      (∀ vs' nw' h' tk', Inv (i + 1) vs' nw' → Fx B L ns vs' ((I, oI) :: nw') h' → Pp .next (St s₀ h' tk')) →
      wpAny (Mo w) A (storeName env x v) (fun _ s₂ => wpAny (Mo w) A (execs body env) Pp NE s₂) NE (St s₀ h tk))
    (fin : ∀ vs nw h tk, Inv xs.length vs nw → Fx B L ns vs nw h → wpAny (Mo w) A (execs orelse env) Q NE (St s₀ h tk))
    (hs : ∀ x, foldedSetIterable iter env x = pure x := by intro _; rfl) :
    wpAny (Mo w) A (exec (.For (.Name x px) iter body orelse pos) env) Q NE (St s₀ h tk) := by
  refine wpAny_For (hit _ ?_) hs
  have hl' : (St s₀ h tk).heap.IsList l xs.toArray := ⟨_, X.keep _ _ hl, rfl, n, rfl⟩
  refine itL X hl' fun I g₁ tk₁ hI' X₁ => ?_
  have hne : l ≠ I := hI' ▸ Nat.ne_of_lt (Heap.lt_size (X.keep _ _ hl))
  have W := Walks.list (prog := PG) (w := w) R.hh I l hne xs.toArray
  rw [show xs.toArray.size = xs.length by simp] at W
  clear hit hl' hI' X
  refine codeAny_forLoop (fun m s => ∃ i vs nw oI h tk, m = xs.length + 1 - i ∧ i ≤ xs.length ∧ s = St s₀ h tk ∧ Inv i vs nw ∧ Fx B L ns vs ((I, oI) :: nw) h ∧ h.IsListIter I l i) ?_ (xs.length + 1) ⟨0, vs, nw, _, g₁, tk₁, rfl, Nat.zero_le _, rfl, hI, X₁, ⟨_, X₁.get (j := 0) rfl, rfl, rfl⟩⟩
  clear hI X₁
  rintro m _ ⟨i, vs, nw, oI, h, tk, rfl, hin, rfl, hI, X, hst⟩
  have hlz : (St s₀ h tk).heap.IsList l xs.toArray := ⟨_, X.keep _ _ hl, rfl, n, rfl⟩
  by_cases hlt : i < xs.length
  · refine W.item i _ _ _ hlt ⟨hst, hlz⟩ fun v h' tk' hP hst' hkp => ?_
    obtain ⟨⟨oI', hoI', r⟩, _⟩ := hst'
    have X' : Fx B L ns vs ((I, oI') :: nw) h' := X.chg1 (j := 0) rfl (fun a o e hn => hkp a o hn e) hoI'
    refine wpAny_assign_Name ?_
    refine wpAny_mono (turn i v I oI' vs nw h' tk' (fun f s₃ => match f with
          | .next | .cont => ∃ m, m < xs.length + 1 - i ∧ ∃ i vs nw oI h tk, m = xs.length + 1 - i ∧ i ≤ xs.length ∧ s₃ = St s₀ h tk ∧ Inv i vs nw ∧ Fx B L ns vs ((I, oI) :: nw) h ∧ h.IsListIter I l i
          | .brk => Q .next s₃
          | .ret v => Q (.ret v) s₃) (by simpa using hP) hI X' (fun vs' nw' h₃ tk₃ hI' X₃ => ?_)) (fun _ s₂ q => wpAny_mono q (fun f s₃ q => q) fun _ _ e => e.elim) fun _ _ e => e.elim
    exact ⟨xs.length + 1 - (i + 1), by omega, i + 1, vs', nw', oI', h₃, tk₃, rfl, by omega, rfl, hI', X₃, ⟨oI', X₃.get (j := 0) rfl, r⟩⟩
  · have hin' : i = xs.length := by omega
    subst hin'
    refine W.done _ _ _ ⟨hst, hlz⟩ fun h' tk' hkp => ?_
    have X' : Fx B L ns vs nw h' := by
      obtain ⟨⟨m, hm, hv⟩, kp, hL, nws, nd⟩ := X
      have hI2 := nws (I, oI) (List.mem_cons_self)
      refine ⟨⟨m, ?_, hv⟩, fun a o e => hkp a o ?_ (kp a o e), hL, fun p hp => ?_, (List.nodup_cons.mp nd).2⟩
      · obtain ⟨oL, es, ep, q1, q2⟩ := hm
        exact ⟨oL, es, ep, hkp _ _ (fun q => hI2.2.2 (List.mem_singleton.mp q).symm) q1, q2⟩
      · intro q
        rw [List.mem_singleton.mp q, hI2.2.1] at e; cases e
      · have hp' := nws p (List.mem_cons_of_mem _ hp)
        refine ⟨hkp _ _ (fun q => ?_) hp'.1, hp'.2⟩
        exact (List.nodup_cons.mp nd).1 (List.mem_map.mpr ⟨p, hp, List.mem_singleton.mp q⟩)
    exact wpAny_mono (fin _ _ _ _ hI X') (fun _ _ q => q) fun _ _ e => e.elim
end Mine
end
section
open PySem PySem.W PyProof.Rows PySem.Calls
set_option Elab.async false
set_option maxRecDepth 100000
namespace Mine
section
variable {w : World} {A : Around} {s₀ : Shared} {h : Heap} {tk : Nat} {B : Base} {L : Addr} {ns : List Str} {vs : List (Option Value)} {nw : List (Addr × Obj)}
  {env : Env} {gl bl : List (Str × Value)}
theorem nfE2 {E : Value → Shared → Prop} {scope : Scope} {cl : List (Str × Addr)} {ns' : List Str} {P : Env → Addr → Shared → Prop} (X : Fx B L ns vs nw h) (hcell : ∀ z ∈ scope.names, z.2 ≠ .cell) (hkind : scope.kind = .function)
    (hq : ∀ C oL h' tk', FrO oL ns vs → Fx B C ns' (ns'.map fun _ => none) ((L, oL) :: nw) h' → P (compEnvC scope cl C env) C (St s₀ h' tk')) :
    wpAny (Mo w) A (newFunctionEnv scope env.globals cl [] env.qual none Value.none (some env)) (fun cenv s₄ => P { scope := relabel scope env, locals := cenv.locals, globals := cenv.globals, cells := cenv.cells, qual := cenv.qual, func := cenv.func, code := cenv.code, frame := cenv.frame, builtins := cenv.builtins } cenv.locals s₄) E (St s₀ h tk) := by
  refine wpAny_newFunctionEnv (s := St s₀ h tk) hcell (by intro z hz; cases hz) (fun h₁ hns hsb => ?_) hkind
  have hCnone : h.get? h.objs.size = none := by
    cases e : h.get? h.objs.size with
    | none => rfl
    | some o => exact absurd (Heap.lt_size e) (Nat.lt_irrefl _)
  have c₃ : Chg [] h h₁ := fun a o e _ => (hsb.2 a (Nat.ne_of_lt (Heap.lt_size e))).trans (Heap.get?_push_of_some _ e)
  obtain ⟨oL, hoL, Y⟩ := X.enter (ns' := ns') hns (fun _ => rfl) hCnone c₃
  exact hq _ _ _ _ hoL Y

/-- the heart of a list comprehension over a list of the ledger or the base -/
theorem lcCore {x : Str} {px pos : Pos} {elt iter : Expr} {scope : Scope} {cl : List (Str × Addr)} {RR : Value → Addr → Result → Shared → Prop} {l : Addr} {xs : List Value} {n e : Nat} {gl' bl' : List (Str × Value)} (Pf : Nat → Value → Prop)
    (R : Rm A e) (K : FK w env L ns gl bl) (X : Fx B L ns vs nw h) (hl : ∀ g, Hol B g → (∀ p ∈ nw, g.get? p.1 = some p.2) → g.get? l = some (listOf xs.toArray n)) (hlen : xs.length ≤ 1000)
    (hcell : ∀ z ∈ scope.names, z.2 ≠ .cell) (hkind : scope.kind = .function) (hfk : fkOk w.params (relabel scope env) [x] gl' bl' = true)
    (helt : ∀ C oL D oD I oI i v h tk (Q' : Value → Shared → Prop), xs[i]? = some v → FK w (compEnvC scope cl C env) C [x] gl' bl' → Fx B C [x] [some v] ((L, oL) :: (D, oD) :: (I, oI) :: nw) h →
      (∀ y h' tk', Pf i y → Fx B C [x] [some v] ((L, oL) :: (D, oD) :: (I, oI) :: nw) h' → Q' y (St s₀ h' tk')) → wpAny (Mo w) A (eval elt (compEnvC scope cl C env)) Q' (notedBy (Mo w) A (compEnvC scope cl C env) fun e s' => RR (.ref D) C (.error e) s') (St s₀ h tk))
    (hR : ∀ C oC D (ys : List Value) e v h' tk', ys.length = xs.length → (∀ i y, ys[i]? = some y → Pf i y) → FrO oC [x] [v] → Fx B L ns vs ((C, oC) :: (D, listOf ys.toArray e) :: nw) h' → RR (.ref D) C (.ok .next) (St s₀ h' tk')) :
    wpAny (Mo w) A (pyIter (.ref l)) (fun it s₂ => wpAny (Mo w) A (newList []) (fun acc s₃ =>
      wpAny (Mo w) A (newFunctionEnv scope env.globals cl [] env.qual none .none (some env)) (fun cenv s₄ =>
        codeAny (Mo w) A (.compStart (.ListComp elt [⟨.Name x px, iter, [], 0⟩] scope pos) 0 it acc { cenv with scope := relabel scope env }) (RR acc cenv.locals) s₄) NE s₃) NE s₂) NE (St s₀ h tk) := by
  have hl0 := hl h X.keep fun p hp => (X.news p hp).1
  have hl' : (St s₀ h tk).heap.IsList l xs.toArray := ⟨_, hl0, rfl, n, rfl⟩
  refine itL X hl' fun I g₁ tk₁ hI X₁ => ?_
  have hne : l ≠ I := hI ▸ Nat.ne_of_lt (Heap.lt_size hl0)
  have W := Walks.list (prog := PG) (w := w) R.hh I l hne xs.toArray
  rw [show xs.toArray.size = xs.length by simp] at W
  have esz : sizeLine = 16777216 := rfl
  refine newLstE X₁ (Nat.zero_le _) fun D g₂ tk₂ X₂ => ?_
  refine nfE2 (ns' := [x]) (P := fun e C s₄ => codeAny (Mo w) A (.compStart _ 0 (.ref I) (.ref D) e) (RR (.ref D) C) s₄) X₂ hcell hkind fun C oL h₁ tk₃ hoL Y => ?_
  have hst₃ : h₁.IsListIter I l 0 := ⟨_, Y.get (j := 2) rfl, rfl, rfl⟩
  have KC := fk_comp (C := C) (cl := cl) K hfk
  have hlz : ∀ {v oD oI g}, Fx B C [x] [v] ((L, oL) :: (D, oD) :: (I, oI) :: nw) g → ∀ tk, (St s₀ g tk).heap.IsList l xs.toArray := fun {v oD oI g} Z tk =>
    ⟨_, hl g Z.keep fun p hp => (Z.news p (List.mem_cons_of_mem _ (List.mem_cons_of_mem _ (List.mem_cons_of_mem _ hp)))).1, rfl, n, rfl⟩
  have main : codeAny (Mo w) A (.compLoop (.ListComp elt [⟨.Name x px, iter, [], 0⟩] scope pos) 0 (.ref I) (.ref D) (compEnvC scope cl C env)) (RR (.ref D) C) (St s₀ h₁ tk₃) := by
    refine codeAny_compLoop_tests (fun m s => ∃ (i : Nat) (v : Option Value) (oI : Obj) (ys : List Value) (e : Nat) (h : Heap) (tk : Nat), m = xs.length + 1 - i ∧ i ≤ xs.length ∧ s = St s₀ h tk ∧ ys.length = i ∧ (∀ i y, ys[i]? = some y → Pf i y) ∧ Fx B C [x] [v] ((L, oL) :: (D, listOf ys.toArray e) :: (I, oI) :: nw) h ∧ h.IsListIter I l i) ?_ (xs.length + 1)
      ⟨0, none, _, [], _, h₁, tk₃, rfl, Nat.zero_le _, rfl, rfl, by simp, Y, hst₃⟩
    rintro m _ ⟨i, v, oI, ys, e, h₂, tk₂, rfl, hil, rfl, hyl, hyp, Z, hit⟩
    by_cases hlt : i < xs.length
    · refine W.item i _ _ _ hlt ⟨hit, hlz Z _⟩ fun v' h₃ tk₃ hP hst hk => ?_
      obtain ⟨⟨oI', hoI', r⟩, _⟩ := hst
      have Z' := Z.chg1 (j := 2) rfl (fun a o e hn => hk a o hn e) hoI'
      dsimp only [List.set] at Z'
      have hv' : xs[i]? = some v' := by simpa using hP
      refine wpAny_assign_Name (stv (h := h₃) (tk := tk₃) 0 Z' KC rfl rfl fun h₄ tk₄ Z₄ => ?_)
      dsimp only [List.set] at Z₄
      refine wpAny_pure ?_
      rw [if_pos rfl]
      refine helt C oL D _ I oI' i v' h₄ tk₄ _ hv' KC Z₄ fun y h₅ tk₅ hy Z₅ => ?_
      refine appL 1 Z₅ rfl (by omega) fun h₆ tk₆ Z₆ => ?_
      dsimp only [List.set] at Z₆
      refine ⟨xs.length + 1 - (i + 1), by omega, i + 1, _, oI', ys ++ [y], _, h₆, tk₆, rfl, by omega, rfl, by simp [hyl], ?_, Z₆, ⟨oI', Z₆.get (j := 2) rfl, r⟩⟩
      intro j z hz
      rw [List.getElem?_append] at hz
      split at hz
      · exact hyp j z hz
      · rename_i hj
        have : j = ys.length := by
          have := (List.getElem?_eq_some_iff.mp hz).1
          simp at this; omega
        subst this
        simp at hz
        subst hz
        rw [hyl]; exact hy
    · have hin : i = xs.length := by omega
      subst hin
      refine W.done _ _ _ ⟨hit, hlz Z _⟩ fun h₃ tk₃ hk => ?_
      have Z1 : Fx B C [x] [v] ((I, oI) :: (L, oL) :: (D, listOf ys.toArray e) :: nw) h₂ := Z.perm (by
        refine List.Perm.trans (List.Perm.swap ..) (List.Perm.cons _ (List.Perm.swap ..)))
      have Z2 : Fx B C [x] [v] ((L, oL) :: (D, listOf ys.toArray e) :: nw) h₃ := by
        obtain ⟨⟨m, hm, hv⟩, kp, hL, nws, nd⟩ := Z1
        have hI2 := nws (I, oI) (List.mem_cons_self)
        refine ⟨⟨m, ?_, hv⟩, fun a o e => hk a o ?_ (kp a o e), hL, fun p hp => ?_, (List.nodup_cons.mp nd).2⟩
        · obtain ⟨oL, es, ep, q1, q2⟩ := hm
          exact ⟨oL, es, ep, hk _ _ (fun q => hI2.2.2 (List.mem_singleton.mp q).symm) q1, q2⟩
        · intro q
          rw [List.mem_singleton.mp q, hI2.2.1] at e; cases e
        · have hp' := nws p (List.mem_cons_of_mem _ hp)
          refine ⟨hk _ _ (fun q => ?_) hp'.1, hp'.2⟩
          exact (List.nodup_cons.mp nd).1 (List.mem_map.mpr ⟨p, hp, List.mem_singleton.mp q⟩)
      obtain ⟨oC, hoC, V⟩ := Z2.switch hoL
      exact hR C oC D ys e v h₃ tk₃ hyl hyp hoC V
  exact codeAny_compStart_list main (W.self 0 _ _ _ ⟨hst₃, hlz Y _⟩ main)

theorem Fx.sameBut0 {C : Addr} {oC : Obj} {h' : Heap} (V : Fx B L ns vs ((C, oC) :: nw) h) (hsb : Heap.SameBut C h h') : Fx B L ns vs nw h' := by
  obtain ⟨⟨m, hm, hv⟩, kp, hL, nws, nd⟩ := V
  have hI2 := nws (C, oC) (List.mem_cons_self)
  refine ⟨⟨m, hm.sameBut hsb (fun q => hI2.2.2 q.symm), hv⟩, fun a o e => (hsb.2 a ?_).trans (kp a o e), hL, fun p hp => ?_, (List.nodup_cons.mp nd).2⟩
  · rintro rfl
    rw [hI2.2.1] at e; cases e
  · have hp' := nws p (List.mem_cons_of_mem _ hp)
    refine ⟨(hsb.2 _ fun q => ?_).trans hp'.1, hp'.2⟩
    exact (List.nodup_cons.mp nd).1 (List.mem_map.mpr ⟨p, hp, q⟩)

/-- y = [elt for x in iter] -/
theorem asgLC {x y : Str} {px py pos spos : Pos} {elt iter : Expr} {scope : Scope} {cl : List (Str × Addr)} {Q : Flow → Shared → Prop} {e : Nat} {gl' bl' : List (Str × Value)} (iy : Nat) (Pf : List Value → Nat → Value → Prop)
    (R : Rm A e) (K : FK w env L ns gl bl)
    (hy : ns[iy]? = some y)
    (hsw : swapsWith (.ListComp elt [⟨.Name x px, iter, [], 0⟩] scope pos) (some (.Name y py)) spos.line env = pure true)
    (hclos : closureFor scope env = pure cl) (hcell : ∀ z ∈ scope.names, z.2 ≠ .cell) (hkind : scope.kind = .function)
    (hnames : ∀ z ∈ scope.names, z.2 = .local → scope.names.lookup z.1 = some .local) (hfk : fkOk w.params (relabel scope env) [x] gl' bl' = true)
    (hq : wpAny (Mo w) A (eval iter env) (fun o s₁ => ∃ (vs : List (Option Value)) (nw : List (Addr × Obj)) (h : Heap) (tk : Nat) (l : Addr) (xs : List Value) (n : Nat), s₁ = St s₀ h tk ∧ Fx B L ns vs nw h ∧ o = .ref l ∧ (vs[iy]?).isSome = true ∧
      (∀ g, Hol B g → (∀ p ∈ nw, g.get? p.1 = some p.2) → g.get? l = some (listOf xs.toArray n)) ∧ xs.length ≤ 1000 ∧
      (∀ C oL D oD I oI i v h tk E (Q' : Value → Shared → Prop), xs[i]? = some v → FK w (compEnvC scope cl C env) C [x] gl' bl' → Fx B C [x] [some v] ((L, oL) :: (D, oD) :: (I, oI) :: nw) h →
        (∀ y h' tk', Pf xs i y → Fx B C [x] [some v] ((L, oL) :: (D, oD) :: (I, oI) :: nw) h' → Q' y (St s₀ h' tk')) → wpAny (Mo w) A (eval elt (compEnvC scope cl C env)) Q' E (St s₀ h tk)) ∧
      (∀ D (ys : List Value) e h' tk', ys.length = xs.length → (∀ i y, ys[i]? = some y → Pf xs i y) → Fx B L ns (vs.set iy (some (.ref D))) ((D, listOf ys.toArray e) :: nw) h' → Q .next (St s₀ h' tk'))) NE (St s₀ h tk))
    (hs : ∀ x, foldedSetIterable iter env x = pure x := by intro _; rfl) :
    wpAny (Mo w) A (exec (.Assign [.Name y py] (.ListComp elt [⟨.Name x px, iter, [], 0⟩] scope pos) spos) env) Q NE (St s₀ h tk) := by
  rw [exec_Assign_Name_used _ _ _ _ hsw]
  refine wpAny_bind (wpAny_standAt (wpAny_bind ?_))
  show wpAny _ A (do let _ ← comprehension (.ListComp elt [⟨.Name x px, iter, [], 0⟩] scope pos) scope env _ (newList []) false (eval iter env) (some (assign (.Name y py) env))) _ _ _
  refine wpAny_bind (wpAny_mono (wpAny_comprehension_free (use := some (assign (.Name y py) env)) (Q := fun _ s' => Q .next s') rfl hs hclos hkind hnames (wpAny_mono hq (fun o s₁ q => ?_) fun _ _ e => e)) (fun _ s' hq => wpAny_pure (wpAny_pure hq)) fun _ _ e => e)
  obtain ⟨vs, nw, h, tk, l, xs, n, rfl, X, rfl, hvy, hl, hlen, helt, hfin⟩ := q
  refine lcCore (RR := fun acc C => compPost (Mo w) A NE (some (assign (.Name y py) env)) (fun _ s' => Q .next s') acc C) (Pf xs) R K X hl hlen hcell hkind hfk (fun C oL D oD I oI i v h tk Q' => helt C oL D oD I oI i v h tk _ Q') ?_
  intro C oC D ys e v h₃ tk₃ hyl hyp hoC V
  show wpAny _ _ (assign (.Name y py) env (.ref D)) _ _ _
  refine wpAny_assign_Name (stv (h := h₃) (tk := tk₃) iy V K hy hvy fun h₄ tk₄ V₄ => ?_)
  obtain ⟨es, ep, m, g2, g3, g4, _⟩ := hoC
  exact ⟨m, ⟨oC, es, ep, V₄.get (j := 0) rfl, g2, g3, g4⟩, fun h₅ hsb => hfin D ys e h₅ tk₄ hyl hyp (V₄.sameBut0 hsb)⟩

/-- [elt for x in iter] -/
theorem evLC {x : Str} {px pos : Pos} {elt iter : Expr} {scope : Scope} {cl : List (Str × Addr)} {Q : Value → Shared → Prop} {e : Nat} {gl' bl' : List (Str × Value)} (Pf : List Value → Nat → Value → Prop)
    (R : Rm A e) (K : FK w env L ns gl bl)
    (hclos : closureFor scope env = pure cl) (hcell : ∀ z ∈ scope.names, z.2 ≠ .cell) (hkind : scope.kind = .function)
    (hnames : ∀ z ∈ scope.names, z.2 = .local → scope.names.lookup z.1 = some .local) (hfk : fkOk w.params (relabel scope env) [x] gl' bl' = true)
    (hq : wpAny (Mo w) A (eval iter env) (fun o s₁ => ∃ (vs : List (Option Value)) (nw : List (Addr × Obj)) (h : Heap) (tk : Nat) (l : Addr) (xs : List Value) (n : Nat), s₁ = St s₀ h tk ∧ Fx B L ns vs nw h ∧ o = .ref l ∧
      (∀ g, Hol B g → (∀ p ∈ nw, g.get? p.1 = some p.2) → g.get? l = some (listOf xs.toArray n)) ∧ xs.length ≤ 1000 ∧
      (∀ C oL D oD I oI i v h tk E (Q' : Value → Shared → Prop), xs[i]? = some v → FK w (compEnvC scope cl C env) C [x] gl' bl' → Fx B C [x] [some v] ((L, oL) :: (D, oD) :: (I, oI) :: nw) h →
        (∀ y h' tk', Pf xs i y → Fx B C [x] [some v] ((L, oL) :: (D, oD) :: (I, oI) :: nw) h' → Q' y (St s₀ h' tk')) → wpAny (Mo w) A (eval elt (compEnvC scope cl C env)) Q' E (St s₀ h tk)) ∧
      (∀ D (ys : List Value) e h' tk', ys.length = xs.length → (∀ i y, ys[i]? = some y → Pf xs i y) → Fx B L ns vs ((D, listOf ys.toArray e) :: nw) h' → Q (.ref D) (St s₀ h' tk'))) NE (St s₀ h tk))
    (hs : ∀ x, foldedSetIterable iter env x = pure x := by intro _; rfl) :
    wpAny (Mo w) A (eval (.ListComp elt [⟨.Name x px, iter, [], 0⟩] scope pos) env) Q NE (St s₀ h tk) := by
  rw [eval_ListComp]
  refine wpAny_comprehension_free (use := none) rfl hs hclos hkind hnames (wpAny_mono hq (fun o s₁ q => ?_) fun _ _ e => e)
  obtain ⟨vs, nw, h, tk, l, xs, n, rfl, X, rfl, hl, hlen, helt, hfin⟩ := q
  refine lcCore (RR := fun acc C => compPost (Mo w) A NE none Q acc C) (Pf xs) R K X hl hlen hcell hkind hfk (fun C oL D oD I oI i v h tk Q' => helt C oL D oD I oI i v h tk _ Q') ?_
  intro C oC D ys e v h₃ tk₃ hyl hyp hoC V
  obtain ⟨es, ep, m, g2, g3, g4, _⟩ := hoC
  exact ⟨m, ⟨oC, es, ep, V.get (j := 0) rfl, g2, g3, g4⟩, fun h₅ hsb => hfin D ys e h₅ tk₃ hyl hyp (V.sameBut0 hsb)⟩
end
end Mine
end
section
open PySem PySem.W PyProof.Rows
set_option Elab.async false
set_option maxRecDepth 100000
namespace Mine

def KW {α : Type} (lt : Nat → Nat → Bool) (n : Nat) : KasT α → (α → Prop) → Prop
  | .ret a, Q => Q a
  | .ask i j k, Q => i < n ∧ j < n ∧ KW lt n (k (lt i j)) Q
theorem KW.mono {α : Type} {lt : Nat → Nat → Bool} {n : Nat} {Q Q' : α → Prop} (hq : ∀ a, Q a → Q' a) : ∀ {t : KasT α}, KW lt n t Q → KW lt n t Q'
  | .ret a, h => hq a h
  | .ask i j k, h => ⟨h.1, h.2.1, KW.mono hq h.2.2⟩
theorem KW.bind {α β : Type} {lt : Nat → Nat → Bool} {n : Nat} {f : α → KasT β} {Q : β → Prop} : ∀ {t : KasT α}, KW lt n t (fun a => KW lt n (f a) Q) → KW lt n (t.bind f) Q
  | .ret _, h => h
  | .ask _ _ _, h => ⟨h.1, h.2.1, KW.bind h.2.2⟩
theorem KW.wp {α : Type} {lt : Nat → Nat → Bool} {n : Nat} {cmp : Nat → Nat → (Bool → Shared → Prop) → Shared → Prop} {Q : α → Shared → Prop} {s : Shared}
    (hc : ∀ i j (C : Bool → Shared → Prop), i < n → j < n → C (lt i j) s → cmp i j C s) : ∀ {t : KasT α}, KW lt n t (fun a => Q a s) → t.kasWp cmp Q s
  | .ret _, h => h
  | .ask i j _, h => hc i j _ h.1 h.2.1 (KW.wp hc h.2.2)

/-- a strict total order on the first n numbers -/
structure STO (lt : Nat → Nat → Bool) (n : Nat) : Prop where
  tr : ∀ i j k, lt i j = true → lt j k = true → lt i k = true
  irr : ∀ i, lt i i = false
  tot : ∀ i j, i < n → j < n → i ≠ j → lt i j = false → lt j i = true

def vv (p : Array Nat) (i : Nat) : Nat := p.getD i 0
theorem vv_eq (p : Array Nat) (i : Nat) : vv p i = (p[i]?).getD 0 := by unfold vv; simp [Array.getD_eq_getD_getElem?]
def OkP (n : Nat) (p : Array Nat) : Prop := p.Perm (List.range n).toArray
theorem OkP.size {n : Nat} {p : Array Nat} (h : OkP n p) : p.size = n := by have := h.size_eq; simpa using this
theorem OkP.lt {n : Nat} {p : Array Nat} (h : OkP n p) (hn : 0 < n) (i : Nat) : vv p i < n := by
  rw [vv_eq]
  by_cases hi : i < p.size
  · rw [Array.getElem?_eq_getElem hi]
    have : p[i] ∈ p := Array.getElem_mem hi
    have := (Array.Perm.mem_iff h).mp this
    simpa using this
  · rw [Array.getElem?_eq_none (by omega)]; simpa using hn
theorem OkP.inj {n : Nat} {p : Array Nat} (h : OkP n p) {i j : Nat} (hi : i < n) (hj : j < n) (he : vv p i = vv p j) : i = j := by
  have hp : p.toList.Perm (List.range n) := by have := Array.perm_iff_toList_perm.mp h; simpa using this
  have hnd : p.toList.Nodup := hp.nodup_iff.mpr List.nodup_range
  have hs := h.size
  rw [vv_eq, vv_eq, Array.getElem?_eq_getElem (by omega), Array.getElem?_eq_getElem (by omega)] at he
  simp only [Option.getD_some] at he
  refine (List.getElem?_inj (by simpa using (by omega : i < p.size)) hnd).mp ?_
  rw [Array.getElem?_toList, Array.getElem?_toList, Array.getElem?_eq_getElem (by omega), Array.getElem?_eq_getElem (by omega), he]

def SoT (lt : Nat → Nat → Bool) (p : Array Nat) (k : Nat) : Prop := ∀ i j, i < j → j < k → lt (vv p i) (vv p j) = true
def DeT (lt : Nat → Nat → Bool) (p : Array Nat) (k : Nat) : Prop := ∀ i j, i < j → j < k → lt (vv p j) (vv p i) = true

section
variable {lt : Nat → Nat → Bool} {n : Nat}
theorem kw_asc (O : STO lt n) {p : Array Nat} (hp : OkP n p) : ∀ (f a : Nat), 1 ≤ a → a + f ≤ n →
    KW lt n (kas_asc p f a) (fun m => a ≤ m ∧ m ≤ a + f ∧ (SoT lt p a → SoT lt p m) ∧ (m < a + f → lt (vv p m) (vv p (m - 1)) = true))
  | 0, a, h1, h2 => ⟨Nat.le_refl _, Nat.le_refl _, fun h => h, fun h => absurd h (Nat.lt_irrefl _)⟩
  | f + 1, a, h1, h2 => by
    have hn : 0 < n := by omega
    refine ⟨hp.lt hn a, hp.lt hn (a - 1), ?_⟩
    cases hc : lt (vv p a) (vv p (a - 1)) with
    | true =>
      show KW lt n (if lt (vv p a) (vv p (a - 1)) = true then _ else _) _
      rw [if_pos hc]
      exact ⟨Nat.le_refl _, by omega, fun h => h, fun _ => hc⟩
    | false =>
      show KW lt n (if lt (vv p a) (vv p (a - 1)) = true then _ else _) _
      rw [if_neg (by rw [hc]; decide)]
      refine KW.mono (fun m hm => ?_) (kw_asc O hp f (a + 1) (by omega) (by omega))
      obtain ⟨q1, q2, q3, q4⟩ := hm
      refine ⟨by omega, by omega, fun hs => q3 ?_, fun hm => q4 (by omega)⟩
      have hlt : lt (vv p (a - 1)) (vv p a) = true := O.tot _ _ (hp.lt hn _) (hp.lt hn _) (fun e => by have := hp.inj (by omega) (by omega) e; omega) hc
      intro i j hij hj
      by_cases hja : j = a
      · subst hja
        by_cases hia : i = j - 1
        · rw [hia]; exact hlt
        · exact O.tr _ _ _ (hs i (j - 1) (by omega) (by omega)) hlt
      · exact hs i j hij (by omega)

theorem kw_desc (O : STO lt n) {p : Array Nat} (hp : OkP n p) : ∀ (f a : Nat), 1 ≤ a → a + f ≤ n →
    KW lt n (kas_desc f p a 0) (fun r => r.1 = p ∧ r.2.2 = 0 ∧ a ≤ r.2.1 ∧ r.2.1 ≤ a + f ∧ (DeT lt p a → DeT lt p r.2.1))
  | 0, a, h1, h2 => ⟨rfl, rfl, Nat.le_refl _, Nat.le_refl _, fun h => h⟩
  | f + 1, a, h1, h2 => by
    have hn : 0 < n := by omega
    refine ⟨hp.lt hn a, hp.lt hn (a - 1), ?_⟩
    cases hc : lt (vv p a) (vv p (a - 1)) with
    | true =>
      show KW lt n (if lt (vv p a) (vv p (a - 1)) = true then _ else _) _
      rw [if_pos hc, if_neg (by omega)]
      refine KW.mono (fun m hm => ?_) (kw_desc O hp f (a + 1) (by omega) (by omega))
      obtain ⟨q1, q2, q3, q4, q5⟩ := hm
      refine ⟨q1, q2, by omega, by omega, fun hs => q5 ?_⟩
      intro i j hij hj
      by_cases hja : j = a
      · subst hja
        by_cases hia : i = j - 1
        · rw [hia]; exact hc
        · exact O.tr _ _ _ hc (hs i (j - 1) (by omega) (by omega))
      · exact hs i j hij (by omega)
    | false =>
      have hlt : lt (vv p (a - 1)) (vv p a) = true := O.tot _ _ (hp.lt hn _) (hp.lt hn _) (fun e => by have := hp.inj (by omega) (by omega) e; omega) hc
      show KW lt n (if lt (vv p a) (vv p (a - 1)) = true then _ else _) _
      rw [if_neg (by rw [hc]; decide)]
      refine ⟨hp.lt hn (a - 1), hp.lt hn a, ?_⟩
      show KW lt n (if lt (vv p (a - 1)) (vv p a) = true then _ else _) _
      rw [if_pos hlt]
      exact ⟨rfl, rfl, Nat.le_refl _, Nat.le_add_right _ _, fun h => h⟩

theorem okP_rev {p : Array Nat} (hp : OkP n p) (i j : Nat) : OkP n (kas_rev p i j) := (mirror_perm p i j _).trans hp
theorem vv_rev {p : Array Nat} {m : Nat} (hm : m ≤ p.size) (k : Nat) : vv (kas_rev p 0 m) k = if k < m then vv p (m - 1 - k) else vv p k := by
  rw [vv_eq]
  have := getElem?_mirror_all (xs := p) (i := 0) (j := m) hm k
  unfold kas_rev
  rw [this]
  by_cases hk : k < m
  · rw [if_pos ⟨Nat.zero_le _, hk⟩, if_pos hk, vv_eq, Nat.zero_add]
  · rw [if_neg (fun q => hk q.2), if_neg hk, vv_eq]
theorem kw_tail3 (O : STO lt n) {p : Array Nat} (hp : OkP n p) {m : Nat} (h1 : 1 ≤ m) (h2 : m ≤ n) (hd : DeT lt p m) :
    KW lt n (kas_tail3 m n p) (fun r => OkP n r.2 ∧ 1 ≤ r.1 ∧ r.1 ≤ n ∧ SoT lt r.2 r.1) := by
  unfold kas_tail3
  refine KW.bind (KW.mono (fun m' hm => ?_) (kw_asc O (okP_rev hp 0 m) (n - m) m h1 (by omega)))
  obtain ⟨q1, q2, q3, q4⟩ := hm
  refine ⟨okP_rev hp 0 m, by show 1 ≤ m'; omega, by show m' ≤ n; omega, q3 ?_⟩
  intro i j hij hj
  have hs := hp.size
  rw [vv_rev (by omega), vv_rev (by omega), if_pos (by omega), if_pos hj]
  exact hd _ _ (by omega) (by omega)
theorem kw_descPart (O : STO lt n) {p : Array Nat} (hp : OkP n p) (h2 : 2 ≤ n) (hd : lt (vv p 1) (vv p 0) = true) :
    KW lt n (kas_descPart 1 n p) (fun r => OkP n r.2 ∧ 1 ≤ r.1 ∧ r.1 ≤ n ∧ SoT lt r.2 r.1) := by
  unfold kas_descPart
  refine KW.bind (KW.mono (fun r hm => ?_) (kw_desc O hp (n - (1 + 1)) (1 + 1) (by omega) (by omega)))
  obtain ⟨q1, q2, q3, q4, q5⟩ := hm
  rw [if_neg (by omega), q1]
  refine kw_tail3 O hp (by omega) (by omega) (q5 ?_)
  intro i j hij hj
  have : i = 0 ∧ j = 1 := by omega
  rw [this.1, this.2]; exact hd
theorem kw_count (O : STO lt n) {p : Array Nat} (hp : OkP n p) (h2 : 2 ≤ n) : KW lt n (kas_count n p) (fun r => OkP n r.2 ∧ 1 ≤ r.1 ∧ r.1 ≤ n ∧ SoT lt r.2 r.1) := by
  unfold kas_count
  refine KW.bind (KW.mono (fun m hm => ?_) (kw_asc O hp (n - 1) 1 (by omega) (by omega)))
  obtain ⟨q1, q2, q3, q4⟩ := hm
  have hs := q3 (fun i j hij hj => by omega)
  by_cases hmn : m = n
  · rw [if_pos (by simpa using hmn)]
    exact ⟨hp, by show 1 ≤ m; omega, by show m ≤ n; omega, hs⟩
  · rw [if_neg (by simpa using hmn)]
    by_cases hm1 : m > 1
    · rw [if_pos hm1]
      refine ⟨hp.lt (by omega) 0, hp.lt (by omega) (m - 1), ?_⟩
      show KW lt n (if lt (vv p 0) (vv p (m - 1)) = true then _ else _) _
      rw [if_pos (hs 0 (m - 1) (by omega) (by omega))]
      exact ⟨hp, by show 1 ≤ m; omega, by show m ≤ n; omega, hs⟩
    · rw [if_neg hm1]
      have : m = 1 := by omega
      subst this
      exact kw_descPart O hp h2 (q4 (by omega))
theorem kw_place (O : STO lt n) {p : Array Nat} (hp : OkP n p) {k : Nat} (hk : k < n) (hs : SoT lt p k) : ∀ (f l r : Nat), l ≤ r → r ≤ k → r - l ≤ f → (∀ i, i < l → lt (vv p i) (vv p k) = true) → (∀ i, r ≤ i → i < k → lt (vv p k) (vv p i) = true) →
    KW lt n (kas_place p k f l r) (fun x => x ≤ k ∧ (∀ i, i < x → lt (vv p i) (vv p k) = true) ∧ (∀ i, x ≤ i → i < k → lt (vv p k) (vv p i) = true))
  | 0, l, r, h1, h2, h3, h4, h5 => ⟨by omega, h4, fun i hi => h5 i (by omega)⟩
  | f + 1, l, r, h1, h2, h3, h4, h5 => by
    have hn : 0 < n := by omega
    unfold kas_place
    by_cases hlr : l ≥ r
    · rw [if_pos hlr]
      exact ⟨by omega, h4, fun i hi => h5 i (by omega)⟩
    · rw [if_neg hlr]
      refine ⟨hp.lt hn k, hp.lt hn _, ?_⟩
      show KW lt n (if lt (vv p k) (vv p ((l + r) / 2)) = true then _ else _) _
      cases hc : lt (vv p k) (vv p ((l + r) / 2)) with
      | true =>
        rw [if_pos rfl]
        refine kw_place O hp hk hs f l ((l + r) / 2) (by omega) (by omega) (by omega) h4 fun i hi hik => ?_
        by_cases e : i = (l + r) / 2
        · rw [e]; exact hc
        · exact O.tr _ _ _ hc (hs _ _ (by omega) hik)
      | false =>
        rw [if_neg (by decide)]
        have hlt : lt (vv p ((l + r) / 2)) (vv p k) = true := O.tot _ _ (hp.lt hn _) (hp.lt hn _) (fun e => by have := hp.inj (by omega) (by omega) e; omega) hc
        refine kw_place O hp hk hs f ((l + r) / 2 + 1) r (by omega) h2 (by omega) (fun i hi => ?_) h5
        by_cases e : i = (l + r) / 2
        · rw [e]; exact hlt
        · exact O.tr _ _ _ (hs _ _ (by omega) (by omega)) hlt
theorem vv_bub {p : Array Nat} {k l : Nat} (hk : k < p.size) (hl : l ≤ k) (i : Nat) : vv (bubble p k (k - l)) i = if i = l then vv p k else if l < i ∧ i ≤ k then vv p (i - 1) else vv p i := by
  rw [vv_eq, getElem?_bubble hk _ (by omega) i]
  have e : k - (k - l) = l := by omega
  rw [e]
  split
  · rw [vv_eq]
  · split <;> rw [vv_eq]
theorem kw_bin (O : STO lt n) : ∀ (f : Nat) (p : Array Nat) (k : Nat), OkP n p → 1 ≤ k → k + f = n → SoT lt p k → KW lt n (kas_bin f p k) (fun q => OkP n q ∧ SoT lt q n)
  | 0, p, k, hp, h1, h2, hs => ⟨hp, by rw [← h2]; exact hs⟩
  | f + 1, p, k, hp, h1, h2, hs => by
    unfold kas_bin
    refine KW.bind (KW.mono (fun l hm => ?_) (kw_place O hp (by omega) hs k 0 k (by omega) (by omega) (by omega) (fun i hi => by omega) (fun i hi hik => by omega)))
    obtain ⟨q1, q2, q3⟩ := hm
    have hsz := hp.size
    refine kw_bin O f _ (k + 1) ((bubble_perm p k _).trans hp) (by omega) (by omega) ?_
    intro i j hij hj
    rw [vv_bub (by omega) q1, vv_bub (by omega) q1]
    by_cases hil : i = l
    · rw [if_pos hil, if_neg (by omega), if_pos (by omega)]
      exact q3 _ (by omega) (by omega)
    · rw [if_neg hil]
      by_cases hjl : j = l
      · rw [if_pos hjl, if_neg (by omega)]
        exact q2 _ (by omega)
      · rw [if_neg hjl]
        by_cases h3 : l < i ∧ i ≤ k
        · rw [if_pos h3, if_pos (by omega)]
          exact hs _ _ (by omega) (by omega)
        · rw [if_neg h3]
          by_cases h4 : l < j ∧ j ≤ k
          · rw [if_pos h4]
            exact hs _ _ (by omega) (by omega)
          · rw [if_neg h4]
            exact hs _ _ (by omega) (by omega)
theorem kw_sort (O : STO lt n) (h2 : 2 ≤ n) : KW lt n (kas_sort n) (fun q => OkP n q ∧ SoT lt q n) := by
  unfold kas_sort
  refine KW.bind (KW.mono (fun r hm => ?_) (kw_count O (p := (List.range n).toArray) (Array.Perm.refl _) h2))
  obtain ⟨q1, q2, q3, q4⟩ := hm
  by_cases hr : r.1 < n
  · rw [if_pos hr]
    have e : max r.1 1 = r.1 := by omega
    rw [e]
    exact kw_bin O _ _ _ q1 q2 (by omega) q4
  · rw [if_neg hr]
    have e : r.1 = n := by omega
    rw [e] at q4
    exact ⟨q1, q4⟩
end
end Mine
end
section
open PySem PySem.W PyProof.Rows PySem.Calls
set_option Elab.async false
set_option maxRecDepth 100000
namespace Mine

theorem lt3_iff {a b : E3} : lt3 a b = true ↔ a.1 < b.1 ∨ (a.1 = b.1 ∧ (a.2.1 < b.2.1 ∨ (a.2.1 = b.2.1 ∧ a.2.2 < b.2.2))) := by
  simp [lt3]
theorem lt3_tr {a b c : E3} (h1 : lt3 a b = true) (h2 : lt3 b c = true) : lt3 a c = true := by
  rw [lt3_iff] at *; omega
theorem lt3_irr (a : E3) : lt3 a a = false := by
  cases h : lt3 a a with
  | false => rfl
  | true => rw [lt3_iff] at h; omega
theorem lt3_tot {a b : E3} (hn : a ≠ b) (h : lt3 a b = false) : lt3 b a = true := by
  rw [lt3_iff]
  have h' : ¬ (lt3 a b = true) := by rw [h]; decide
  rw [lt3_iff] at h'
  obtain ⟨a1, a2, a3⟩ := a
  obtain ⟨b1, b2, b3⟩ := b
  dsimp only at *
  by_cases e1 : a1 = b1
  · by_cases e2 : a2 = b2
    · by_cases e3 : a3 = b3
      · subst e1 e2 e3; exact absurd rfl hn
      · omega
    · omega
  · omega

section
variable {prog : Program} {w : World} {A : Around} {E : Value → Shared → Prop} {s : Shared}
theorem keyLtT {v u : Value} {e1 e2 : E3} {Q : Bool → Shared → Prop} (hx : IsT3 s.heap v e1) (hy : IsT3 s.heap u e2) (hq : Q (lt3 e1 e2) s) : wpAny (model prog w) A (keyLt' (tuples' true) v u) Q E s := by
  obtain ⟨a, t1, t2, t3, n, rfl, ha⟩ := hx
  obtain ⟨b, u1, u2, u3, m, rfl, hb⟩ := hy
  obtain ⟨x1, x2, x3⟩ := e1
  obtain ⟨y1, y2, y3⟩ := e2
  refine kat_lt ha rfl hb rfl ?_
  have fin : ∀ (b : Bool), b = lt3 (x1, x2, x3) (y1, y2, y3) → Q b s := fun b e => e ▸ hq
  refine kat_cons (wpAny_eqBool_int ?_)
  by_cases h1 : x1 = y1
  · rw [eT h1]
    refine kat_yes (kat_cons (wpAny_eqBool_int ?_))
    by_cases h2 : x2 = y2
    · rw [eT h2]
      refine kat_yes (kat_cons (wpAny_eqBool_int ?_))
      by_cases h3 : x3 = y3
      · rw [eT h3]
        refine kat_yes (kat_nil (fin _ ?_))
        simp [lt3, h1, h2, h3]
      · rw [beq_eq_false_iff_ne.mpr h3]
        refine kat_no (show wpAny _ _ (oneLt' false _ _) _ _ _ from kat_one _ _ (lt_int ?_))
        exact fin _ (by simp [lt3, h1, h2])
    · rw [beq_eq_false_iff_ne.mpr h2]
      refine kat_no (show wpAny _ _ (oneLt' false _ _) _ _ _ from kat_one _ _ (lt_int ?_))
      exact fin _ (by simp [lt3, h1, h2])
  · rw [beq_eq_false_iff_ne.mpr h1]
    refine kat_no (show wpAny _ _ (oneLt' true _ _) _ _ _ from oneLt_int ?_)
    exact fin _ (by simp [lt3, h1])
theorem katTups_of {h : Heap} : ∀ (es : List VE), (∀ p ∈ es, IsT3 h p.1 p.2) → ∃ fs, KatTups h (es.map (·.1)) fs ∧ fs.length = es.length ∧ ∀ v ∈ fs, ∃ x t, v = .int x t
  | [], _ => ⟨[], trivial, rfl, by simp⟩
  | p :: r, hp => by
    obtain ⟨fs, h1, h2, h3⟩ := katTups_of r fun q hq => hp q (List.mem_cons_of_mem _ hq)
    obtain ⟨a, t1, t2, t3, n, e1, e2⟩ := hp p List.mem_cons_self
    refine ⟨.int p.2.1 t1 :: fs, ?_, by simp [h2], ?_⟩
    · rw [List.map_cons, e1]
      exact KatTups.cons e2 rfl rfl rfl h1
    · intro v hv
      rcases List.mem_cons.mp hv with rfl | hv
      · exact ⟨_, _, rfl⟩
      · exact h3 v hv
theorem katRev_map {α β : Type} (b : Bool) (f : α → β) (l : List α) : (katRev b l).map f = katRev b (l.map f) := by
  unfold katRev; split <;> simp
theorem katRev_perm {α : Type} (b : Bool) (l : List α) : (katRev b l).Perm l := by
  unfold katRev; split
  · exact List.reverse_perm _
  · exact List.Perm.refl _
abbrev dVE : VE := (Value.none, (0, 0, 0))
theorem map_getD_range {α : Type} (l : List α) (d : α) : (List.range l.length).map (fun i => l.getD i d) = l := by
  apply List.ext_getElem (by simp)
  intro i h1 h2
  simp at h1
  simp [h1]

theorem sort_few (b : Bool) : ∀ (vs : List Value), vs.length < 2 → (if b = true then (((if b = true then (vs.toArray.zip vs.toArray).reverse else vs.toArray.zip vs.toArray)).map (·.2)).reverse else ((if b = true then (vs.toArray.zip vs.toArray).reverse else vs.toArray.zip vs.toArray)).map (·.2)) = vs.toArray
  | [], _ => by cases b <;> simp
  | [v], _ => by cases b <;> simp
  | _ :: _ :: _, h => by simp only [List.length_cons] at h; omega

set_option maxHeartbeats 2000000 in
theorem list_sort_T {a : Addr} {n : Nat} {es : List VE} {b : Bool} {P : Fin → Shared → Prop} (ho : s.heap.get? a = some (seqObj "list" (es.map (·.1)).toArray n))
    (hes : ∀ p ∈ es, IsT3 s.heap p.1 p.2) (hnd : (es.map (·.2)).Nodup) (h64 : es.length < 64)
    (h : ∀ os : List VE, os.Perm es → os.Pairwise (fun x y => ltH b x y = true) → P (.done (.ret .none)) { s with heap := sortedHeap s.heap a (es.map (·.1)) (os.map (·.1)).toArray }) :
    wpAny (model prog w) A (Builtin.«list.sort» ⟨[.ref a], [(Str.ofString "reverse", .bool b)]⟩) P E s := by
  rw [list_sort_rev]
  generalize hvs : es.map (·.1) = vs at *
  have hvl : vs.length = es.length := by rw [← hvs]; simp
  have ha : a < s.heap.objs.size := Heap.lt_size ho
  refine wpAny_bind (listItems_at ho rfl ?_)
  refine wpAny_bind (listUpdate_at ho rfl ?_)
  obtain ⟨e1, ho1⟩ : ∃ e1, (s.heap.update a (Obj.mapSeq fun _ => #[])).get? a = some (seqObj "list" #[] e1) := ⟨_, get?_update_seq ho (fun _ => #[])⟩
  refine wpAny_bind (seqEpoch_at ho1 rfl ?_)
  refine wpAny_bind (wpAny_newTuple ?_)
  refine wpAny_bind (wpAny_newList ?_)
  refine wpAny_holding ?_
  have ho6 : (((s.heap.update a (Obj.mapSeq fun _ => #[])).push (seqObj "tuple" vs.toArray 0)).push (seqObj "list" #[] 0)).get? a = some (seqObj "list" #[] e1) := by
    rw [Heap.get?_push_ne _ _ _ (by rw [size_push', Heap.size_update]; exact Nat.ne_of_lt (Nat.lt_succ_of_lt ha)), Heap.get?_push_ne _ _ _ (by rw [Heap.size_update]; exact Nat.ne_of_lt ha)]
    exact ho1
  have ht6 : ∀ p ∈ es, IsT3 (((s.heap.update a (Obj.mapSeq fun _ => #[])).push (seqObj "tuple" vs.toArray 0)).push (seqObj "list" #[] 0)) p.1 p.2 := fun p hp => by
    obtain ⟨c, t1, t2, t3, m, q1, q2⟩ := hes p hp
    refine ⟨c, t1, t2, t3, m, q1, Heap.get?_push_of_some _ (Heap.get?_push_of_some _ ?_)⟩
    rw [Heap.get?_update_ne _ _ _ _ (fun e => ?_)]
    · exact q2
    · rw [e, ho] at q2
      simp [tupO, seqObj] at q2
  show wpAny (model prog w) A _ P E { s with heap := ((s.heap.update a (Obj.mapSeq fun _ => #[])).push (seqObj "tuple" vs.toArray 0)).push (seqObj "list" #[] 0) }
  have hsz : vs.toArray.size = vs.length := by simp
  dsimp only
  have step : ∀ t : Sem Fin, wpAny (model prog w) A t P E { s with heap := ((s.heap.update a (Obj.mapSeq fun _ => #[])).push (seqObj "tuple" vs.toArray 0)).push (seqObj "list" #[] 0) } →
      wpAny (model prog w) A (if b = true then (do let _ ← rule "list.sort.reverse"; t) else t) P E { s with heap := ((s.heap.update a (Obj.mapSeq fun _ => #[])).push (seqObj "tuple" vs.toArray 0)).push (seqObj "list" #[] 0) } := by
    intro t ht
    split
    · exact wpAny_bind (wpAny_rule ht)
    · exact ht
  refine step _ ?_
  clear step
  by_cases h2 : vs.toArray.size < 2
  · rw [if_pos h2, if_pos h2]
    refine wpAny_bind (wpAny_pure ?_)
    rw [StateT.run_pure]
    refine wpAny_bind (wpAny_pure ?_)
    dsimp only
    refine wpAny_bind (seqEpoch_at ho6 rfl ?_)
    have hout : (if b = true then ((arrOf (SortSt.mk' general' (if b = true then (vs.toArray.zip vs.toArray).reverse else vs.toArray.zip vs.toArray) #[] 7 none)).map (·.2)).reverse else (arrOf (SortSt.mk' general' (if b = true then (vs.toArray.zip vs.toArray).reverse else vs.toArray.zip vs.toArray) #[] 7 none)).map (·.2)) = (es.map (·.1)).toArray := by
      rw [hvs]
      rw [hsz] at h2
      exact sort_few b vs h2
    rw [hout]
    refine wpAny_bind (listUpdate_at ho6 rfl ?_ (hsz2 := by simp; rw [sizeLine_eq]; omega))
    simp only [bne_self_eq_false, Bool.false_eq_true, if_false]
    refine wpAny_pure (h es (List.Perm.refl _) ?_)
    rw [hsz, hvl] at h2
    match es, h2 with
    | [], _ => exact List.Pairwise.nil
    | [e], _ => simp
    | _ :: _ :: _, h2 => simp only [List.length_cons] at h2; omega
  · rw [if_neg h2, if_neg h2]
    rw [hsz, hvl] at h2
    obtain ⟨fs, hk1, hk2, hk3⟩ := katTups_of es ht6
    rw [hvs] at hk1
    refine wpAny_bind (kat_kind (T := .type "int") hk1 (by omega) (fun v hv => ?_) (by rfl) ?_)
    · obtain ⟨x, t, rfl⟩ := hk3 v hv
      exact Looks.of_pure rfl
    show wpAny _ _ ((sortRuns').run (SortSt.mk' (tuples' true) _ #[] 7 none) >>= _) _ _ _
    rw [kat_pairs b rfl]
    have hel : (katRev b es).length = es.length := kat_len b es
    have hrl : (katRev b vs).length = es.length := by rw [kat_len, hvl]
    have hr0 : (katRev b es).map (·.1) = katRev b vs := by rw [katRev_map, hvs]
    have hget : ∀ i, i < es.length → (katRev b vs).getD i Value.none = ((katRev b es).getD i dVE).1 := fun i hi => by
      rw [← hr0]
      simp [hel, hi]
    have hmem : ∀ i, i < es.length → (katRev b es).getD i dVE ∈ es := fun i hi => by
      have : (katRev b es).getD i dVE ∈ katRev b es := by
        simp [hel, hi]
      exact (katRev_perm b es).mem_iff.mp this
    have hnd' : ((katRev b es).map (·.2)).Nodup := ((katRev_perm b es).map _).nodup_iff.mpr hnd
    have O : STO (fun i j => lt3 ((katRev b es).getD i dVE).2 ((katRev b es).getD j dVE).2) es.length := by
      refine ⟨fun i j k => lt3_tr, fun i => lt3_irr _, fun i j hi hj hij hl => lt3_tot (fun e => hij ?_) hl⟩
      refine (List.getElem?_inj (by simpa [hel] using hi) hnd').mp ?_
      simp only [List.getElem?_map]
      simp only [List.getD_eq_getElem?_getD] at e
      rw [List.getElem?_eq_getElem (by omega), List.getElem?_eq_getElem (by omega)] at e ⊢
      simpa using e
    refine wpAny_bind (wpAny_mono (kat_run (E := E) (Q := fun st' s' => ∃ p, (arrOf st') = p.map (kas_item ((katRev b vs).toArray.zip (katRev b vs).toArray)) ∧ failedOf st' = none ∧ s' = { s with heap := ((s.heap.update a (Obj.mapSeq fun _ => #[])).push (seqObj "tuple" vs.toArray 0)).push (seqObj "list" #[] 0) } ∧ OkP es.length p ∧ SoT (fun i j => lt3 ((katRev b es).getD i dVE).2 ((katRev b es).getD j dVE).2) p es.length)
      (G := fun p s' => s' = { s with heap := ((s.heap.update a (Obj.mapSeq fun _ => #[])).push (seqObj "tuple" vs.toArray 0)).push (seqObj "list" #[] 0) } ∧ OkP es.length p ∧ SoT (fun i j => lt3 ((katRev b es).getD i dVE).2 ((katRev b es).getD j dVE).2) p es.length)
      rfl (by omega) (by omega) (fun p st' s' q1 q2 q3 q4 => ⟨p, q2, q3, q4⟩) ?_) ?_ fun _ _ e => e)
    · rw [hrl]
      refine KW.wp (n := es.length) (lt := fun i j => lt3 ((katRev b es).getD i dVE).2 ((katRev b es).getD j dVE).2) (fun i j C hi hj hC => ?_) (KW.mono (fun p hp => ⟨rfl, hp⟩) (kw_sort O (by omega)))
      unfold kas_ask
      rw [hget i hi, hget j hj]
      exact keyLtT (ht6 _ (hmem i hi)) (ht6 _ (hmem j hj)) hC
    rintro ⟨⟨⟩, st'⟩ s' ⟨p, hp1, hp2, rfl, hp4, hp5⟩
    dsimp only at hp1 hp2 ⊢
    refine wpAny_bind (seqEpoch_at ho6 rfl ?_)
    rw [kat_snds (ks := katRev b vs) (vs := katRev b vs) rfl hp1, kat_outs]
    have hpl : p.toList.Perm (List.range es.length) := by have := Array.perm_iff_toList_perm.mp hp4; simpa using this
    have hos : p.toList.map (fun i => (katRev b vs).getD i Value.none) = (p.toList.map fun i => (katRev b es).getD i dVE).map (·.1) := by
      rw [List.map_map]
      refine List.map_congr_left fun i hi => ?_
      exact hget i (by have := hpl.mem_iff.mp hi; simpa using this)
    rw [hos, ← katRev_map]
    have hperm : (katRev b (p.toList.map fun i => (katRev b es).getD i dVE)).Perm es := by
      refine (katRev_perm b _).trans ((hpl.map _).trans ?_)
      rw [← hel, map_getD_range]
      exact katRev_perm b es
    have hsort : (katRev b (p.toList.map fun i => (katRev b es).getD i dVE)).Pairwise (fun x y => ltH b x y = true) := by
      have hpw : (p.toList.map fun i => (katRev b es).getD i dVE).Pairwise (fun x y => lt3 x.2 y.2 = true) := by
        rw [List.pairwise_iff_getElem]
        intro i j hi hj hij
        have hps := hp4.size
        simp at hi hj
        have := hp5 i j hij (by omega)
        simp only [vv_eq, Array.getElem?_eq_getElem hi, Array.getElem?_eq_getElem hj, Option.getD_some] at this
        simpa using this
      cases b with
      | false => exact hpw
      | true =>
        show List.Pairwise _ (List.reverse _)
        rw [List.pairwise_reverse]
        exact hpw
    generalize katRev b (p.toList.map fun i => (katRev b es).getD i dVE) = os at hperm hsort
    refine wpAny_bind (listUpdate_at ho6 rfl ?_ (hsz2 := by
      have := hperm.length_eq
      simp; rw [sizeLine_eq]; omega))
    rw [hp2]
    simp only [bne_self_eq_false, Bool.false_eq_true, if_false]
    exact wpAny_pure (h os hperm hsort)
end
section
variable {w : World} {A : Around} {E : Value → Shared → Prop} {s₀ : Shared} {h : Heap} {tk : Nat} {B : Base} {L : Addr} {ns : List Str} {vs : List (Option Value)} {nw : List (Addr × Obj)}
  {env : Env} {gl bl : List (Str × Value)} {pos : Pos}
theorem sortT {l : Addr} {es : List VE} {n : Nat} {b : Bool} {Q : Value → Shared → Prop} (X : Fx B L ns vs nw h) (hl : h.get? l = some (lst es n)) (hes : ∀ p ∈ es, IsT3 h p.1 p.2) (hnd : (es.map (·.2)).Nodup) (h64 : es.length < 64)
    (hq : ∀ a os e h' tk', Chg [] h h' → h.get? a = none → Fx B L ns vs ((a, lst os e) :: nw) h' → os.Perm es → os.Pairwise (fun x y => ltH b x y = true) → Q (.ref a) (St s₀ h' tk')) :
    wpAny (Mo w) A (call (.builtin "sorted") [.ref l] [(Str.ofString "reverse", .bool b)]) Q E (St s₀ h tk) := by
  have hl' : (St s₀ h tk).heap.IsList l (es.map (·.1)).toArray := ⟨_, hl, rfl, n, rfl⟩
  refine call_function_entry_kw kind_sorted plain_sorted entry_sorted (args_sorted_rev _ _) ?_
  unfold Builtin.«sorted»
  refine wpAny_bind (m := checkCount "sorted" 1 1 _) (wpAny_pure ?_)
  refine wpAny_bind (collect_list hl' ?_)
  refine wpAny_bind (wpAny_newList ?_)
  have hsz : ((h.push (seqObj "list" #[] 0)).update h.objs.size (Obj.mapSeq (· ++ (es.map (·.1)).toArray))).objs.size = h.objs.size + 1 := by
    rw [Heap.size_update, size_push']
  have hoL : (((h.push (seqObj "list" #[] 0)).update h.objs.size (Obj.mapSeq (· ++ (es.map (·.1)).toArray))).push (seqObj "list" (es.map (·.1)).toArray 0)).get? (h.objs.size + 1) = some (seqObj "list" (es.map (·.1)).toArray 0) := by
    rw [← hsz]; exact Heap.get?_push_size _ rfl
  show wpAny _ _ _ _ _ { (St s₀ h tk) with heap := ((h.push (seqObj "list" #[] 0)).update h.objs.size (Obj.mapSeq (· ++ (es.map (·.1)).toArray))).push (seqObj "list" (es.map (·.1)).toArray 0) }
  rw [show ((St s₀ h tk).heap.push (seqObj "list" #[] 0)) = h.push (seqObj "list" #[] 0) from rfl, show (St s₀ h tk).heap.objs.size = h.objs.size from rfl, hsz]
  have hk : ∀ b o, h.get? b = some o → (((h.push (seqObj "list" #[] 0)).update h.objs.size (Obj.mapSeq (· ++ (es.map (·.1)).toArray))).push (seqObj "list" (es.map (·.1)).toArray 0)).get? b = some o := fun b o e => by
    have hlt := Heap.lt_size e
    refine Heap.get?_push_of_some _ ?_
    rw [Heap.get?_update_ne _ _ _ _ (Nat.ne_of_lt hlt)]
    exact Heap.get?_push_of_some _ e
  refine wpAny_bind (wpAny_holding (wpAny_call_entry_kw slot_list_sort ⟨_, hoL, rfl⟩ entry_list_sort (list_sort_T (b := b) hoL (fun p hp => ?_) hnd h64 fun os a1 a2 => ⟨_, rfl, ?_⟩) (args_list_sort_rev _ _)))
  · obtain ⟨c, t1, t2, t3, m, q1, q2⟩ := hes p hp
    exact ⟨c, t1, t2, t3, m, q1, hk _ _ q2⟩
  · refine wpAny_pure ⟨_, rfl, ?_⟩
    obtain ⟨e, he⟩ := sortedAll_at h (es.map (·.1)) (os.map (·.1)).toArray
    have hc : Chg [] h (sortedAll h (es.map (·.1)) (os.map (·.1)).toArray) := fun a o q _ => sortedAll_old q
    have hn : h.get? (h.objs.size + 1) = none := by
      cases q : h.get? (h.objs.size + 1) with
      | none => rfl
      | some o => exact absurd (Nat.lt_trans (Nat.lt_succ_self _) (Heap.lt_size q)) (Nat.lt_irrefl _)
    exact hq _ os e _ tk hc hn (X.add hc hn he) a1 a2
/-- a call of sorted with reverse -/
theorem bcallS {e1 e2 : Expr} {g : Str} {p kp : Pos} {Q : Value → Shared → Prop} (X : Fx B L ns vs nw h) (G : GdB w B) (K : FK w env L ns gl bl) (i : Nat) (hg : bl[i]? = some (g, .builtin "sorted"))
    (hq : wpAny (Mo w) A (eval e1 env) (fun v1 s1 => wpAny (Mo w) A (eval e2 env) (fun v2 s2 => wpAny (Mo w) A (call (.builtin "sorted") [v1] [(Str.ofString "reverse", v2)]) Q E s2) E s1) E (St s₀ h tk))
    (he : starEach [e1] env = [(false, eval e1 env)] := by rfl) : wpAny (Mo w) A (eval (.Call (.Name g p) [e1] [⟨some (Str.ofString "reverse"), e2, kp⟩] pos) env) Q E (St s₀ h tk) := by
  show wpAny _ A (do callWith pos (← eval (.Name g p) env) [] (backTo pos (starEach [e1] env)) (backToKw pos (keywordEach [⟨some (Str.ofString "reverse"), e2, kp⟩] env))) Q E _
  refine wpAny_bind (ldb X G K i hg ?_)
  rw [he]
  refine callWith_builtin_kwB rfl rfl (evalArgs_kwB rfl (Calls.spliced_cons (wpAny_mono hq (fun v1 s1 q => Calls.spliced_nil (kws_cons (wpAny_mono q (fun v2 s2 q => kws_nil q) fun _ _ e => e))) fun _ _ e => e)))
theorem all_tt (n : Nat) : ((List.range n).all fun _ => true) = true := by simp [List.all_eq_true]
theorem eqTT {v u : Value} {e : E3} {s : Shared} {k : Nat} (R : Rm A k) (hx : IsT3 s.heap v e) (hy : IsT3 s.heap u e) : SeqAt.EqAt A s v u true := by
  obtain ⟨a, t1, t2, t3, n, rfl, ha⟩ := hx
  obtain ⟨b, u1, u2, u3, m, rfl, hb⟩ := hy
  by_cases hab : a = b
  · subst hab; exact SeqAt.EqAt.same _
  refine SeqAt.EqAt.of_refs hab ?_
  have := SeqAt.RcAt.tuples (A := A) (s := s) (e := fun _ => true) ⟨_, ha, rfl, n, rfl⟩ ⟨_, hb, rfl, m, rfl⟩ R.units (fun j h1 h2 => ?_)
  · have e3 : ((List.range 3).all fun _ => true) = true := all_tt 3
    simpa [e3] using this
  · intro prog w E Q hq
    have hj : j = 0 ∨ j = 1 ∨ j = 2 := by simp at h1; omega
    rcases hj with rfl | rfl | rfl <;> exact wpAny_eqBool_int (by simpa using hq)
theorem eqLL {l b : Addr} {ks os : List VE} {n m k : Nat} {Q : Value → Shared → Prop} (R : Rm A (k + 1)) (hl : h.get? l = some (lst ks n)) (hb : h.get? b = some (lst os m)) (hks : ∀ p ∈ ks, IsT3 h p.1 p.2) (hos : ∀ p ∈ os, IsT3 h p.1 p.2)
    (he : ks.map (·.2) = os.map (·.2)) (hq : Q (.bool true) (St s₀ h tk)) : wpAny (Mo w) A (compareOp .Eq (.ref l) (.ref b)) Q E (St s₀ h tk) := by
  have hlen : ks.length = os.length := by have := congrArg List.length he; simpa using this
  refine SeqAt.eq_listAt (s := St s₀ h tk) (e := fun _ => true) ⟨_, hl, rfl, n, rfl⟩ ⟨_, hb, rfl, m, rfl⟩ (by simpa using hlen) R.units (fun j h1 h2 => ?_) (by rw [all_tt]; exact hq)
  simp at h1 h2
  have e1 : ks[j].2 = os[j].2 := by
    have : (ks.map (·.2))[j]? = (os.map (·.2))[j]? := by rw [he]
    simpa [h1, h2] using this
  have q1 := hks _ (List.getElem_mem h1)
  have q2 := hos _ (List.getElem_mem h2)
  rw [← e1] at q2
  simpa using eqTT R.in1 q1 q2
end
end Mine
end
section
open PySem PySem.W PyProof.Rows PySem.Calls
set_option Elab.async false
set_option maxRecDepth 100000
namespace Mine
section
variable {w : World} {A : Around} {E : Value → Shared → Prop} {s₀ : Shared} {h : Heap} {tk : Nat} {B : Base}
theorem fk_ofC {w : World} {fd : FuncData} {L f : Addr} {ns : List Str} {gl bl : List (Str × Value)} (h : fkOk w.params fd.scope ns gl bl = true)
    (hg : fd.globals = mainGlobals) (hb : fd.builtins = builtinsNs) : FK w (callEnvC fd L f) L ns gl bl := by
  unfold fkOk at h
  simp only [Bool.and_eq_true, decide_eq_true_eq, List.all_eq_true, Bool.not_eq_true'] at h
  obtain ⟨⟨⟨⟨h1, h2⟩, h3⟩, h4⟩, h5⟩ := h
  refine ⟨rfl, h1, hg, hb, fun x hx => ⟨(h2 x hx).1, (h2 x hx).2⟩, h3, fun p hp => ?_, fun p hp => ?_⟩
  · obtain ⟨⟨a, b⟩, c⟩ := h4 p hp
    exact ⟨a, b, c⟩
  · obtain ⟨⟨⟨⟨a, b⟩, c⟩, d⟩, e⟩ := h5 p hp
    exact ⟨a, b, c, d, e⟩
/-- a call with one argument of a def with one cell -/
theorem call_fnC {k : Nat} {P : Value → Heap → Prop} {f : Addr} {oc : Value} {od : Option Addr} {osl : Array (Option Value)} {fd : FuncData} {body : List Stmt} {v : Value} {x0 xc : Str}
    {ns : List Str} {gl bl : List (Str × Value)}
    (G : GdB w B) (hB : Hol B h) (R : Rm A (k + 1))
    (ho : (KF w.params).lookup f = some ⟨oc, od, .func fd, osl⟩)
    (hok : (codeIn (KF w.params) fd.code fd.qualname && fkOk w.params fd.scope (x0 :: ns) gl bl && decide (fd.scope.names.lookup xc = some .cell) && decide (fd.globals = mainGlobals) && decide (fd.builtins = builtinsNs)
      && !fd.scope.isCoroutine && !fd.scope.isGenerator) = true) (hdb : (xc == ("__debug__" : Str)) = false)
    (hbody : fd.body = .stmts body) (hclo : fd.closure = []) (hcl : ∀ n, (cellsFrom n fd.scope.names []).lookup xc = some n)
    (hbind : bindArgs fd ⟨[v], []⟩ = pure [(x0, v)])
    (hh : ∀ L env A' h₁ tk₁ c o, FK w env L (x0 :: ns) gl bl → CK env xc c → Rm A' k → GdB w (hid [] h) → o.data = .cell none → Fx (hid [] h) L (x0 :: ns) (initV (x0 :: ns) [v]) [(c, o)] h₁ →
      wpAny (Mo w) A' (execs body env) (BodyTo s₀ h [] P) NE (St s₀ h₁ tk₁)) :
    codeAny (Mo w) A (.call (.ref f) ⟨[v], []⟩) (RetTo s₀ h [] P) (St s₀ h tk) := by
  simp only [Bool.and_eq_true, decide_eq_true_eq, Bool.not_eq_true'] at hok
  obtain ⟨⟨⟨⟨⟨⟨q1, q2⟩, q3⟩, q4⟩, q5⟩, q6⟩, q7⟩ := hok
  have G' := G h hB
  have GH : GdB w (hid [] h) := G.mono fun a o e => by
    unfold hid
    rw [if_neg (List.not_mem_nil)]
    exact hB a o e
  have hfk := fun L => fk_ofC (w := w) (fd := fd) (L := L) (f := f) q2 q4 q5
  have hx0 : fd.scope.names.lookup x0 = some .local := ((hfk 0).vars x0 List.mem_cons_self).1
  have hnone : ∀ a, h.objs.size ≤ a → h.get? a = none := fun a ha => by
    cases e : h.get? a with
    | none => rfl
    | some o => exact absurd (Heap.lt_size e) (Nat.not_lt.mpr ha)
  refine codeAny_call_cells (s := St s₀ h tk) (fd := fd) (body := body) (binds := [(x0, v)]) R.depth (G'.k _ _ ho) rfl G'.nl (codeRec_of G'.k q1) hbody hbind hclo (fun x hx => ?_) (fun s₁ IC => ?_) q6 q7 (hfk 0).kind
  · rw [List.mem_singleton.mp hx]; exact .inl hx0
  obtain ⟨h₁, tk₁, rfl⟩ := IC.toInCall.same
  have hk0 : (callEnvC fd (St s₀ h tk).heap.objs.size f).kindOf x0 = some .local := hx0
  have hns := IC.toInCall.ns
  have hcell := IC.cell xc _ (hcl _)
  have hab := IC.above xc _ (mem_of_lookup (hcl _))
  unfold bindL bindL at hns
  unfold bindC bindC at hcell
  rw [if_pos hk0] at hns hcell
  obtain ⟨o, hco, hcd⟩ := hcell
  refine wpAny_mono (hh h.objs.size _ _ h₁ tk₁ (h.objs.size + 1) o (hfk _) ⟨q3, hcl _, hdb⟩ R.deeper GH hcd ⟨⟨_, hns, fun i x hx => ?_⟩, fun a o e => ?_, ?_, fun p hp => ?_, ?_⟩) (fun fl s' hs' => ?_) fun _ _ e => e.elim
  · rw [← initV_get (x0 :: ns) [v] (hfk 0).nodup i x hx]
    show (if x = x0 then some v else none) = _
    rw [List.zip_cons_cons, List.zip_nil_right, List.lookup_cons]
    by_cases e : x = x0
    · rw [if_pos e, beq_iff_eq.mpr e]
    · rw [if_neg e, beq_eq_false_iff_ne.mpr e]; rfl
  · unfold hid at e
    rw [if_neg (List.not_mem_nil)] at e
    exact IC.toInCall.keep a o e
  · unfold hid
    rw [if_neg (List.not_mem_nil)]
    exact hnone _ (Nat.le_refl _)
  · rw [List.mem_singleton.mp hp]
    refine ⟨hco, ?_, Nat.succ_ne_self _⟩
    unfold hid
    rw [if_neg (List.not_mem_nil)]
    exact hnone _ (Nat.le_succ _)
  · simp
  · obtain ⟨h', tk', rfl, hc, hp⟩ := hs'
    refine ⟨retv fl, h', tk', ?_, rfl, hc, hp⟩
    cases fl <;> rfl
end

def draw (scr : List Int) : List Nat := (scr.take 5).map fun z => (z % 1000000).toNat
def nums (scr : List Int) : List Nat := draw scr ++ [16877, 0, 9, 3].drop (draw scr).length
def baseOf (P : List Nat) (b : Nat) : Nat := P.foldl (fun b p => b - b / 2 ^ p % 2 * 2 ^ p) b
def modesOf (P : List Nat) (M : List Nat) : List Nat := P.foldl (fun M p => M ++ M.map (· + 2 ^ p)) M
def toldAt (P : List Nat) (hv : Bool) (ab m p : Nat) : List E3 :=
  if bt m p = 0 ∧ keptP m p P hv = true then [(((fig m (plc p) ab : Int) - (fig (m + 2 ^ p) (plc p) ab : Int)).natAbs * (64 : Int) ^ (10 - plc p), (m : Int), ((2 ^ p : Nat) : Int))] else []
def toldOf (M P : List Nat) (hv : Bool) (ab : Nat) : List E3 := M.flatMap fun m => P.flatMap (toldAt P hv ab m)
def altOf (odd : Nat) : Array UInt8 := if odd = 0 then #[45, 63] else #[63, 45]
theorem alt_at {odd : Nat} {t1 t2 : Tok} (h : odd < 2) : ∃ t, ([Value.bytes [45, 63].toArray t1, Value.bytes [63, 45].toArray t2] : List Value)[odd]? = some (.bytes (altOf odd) t) := by
  match odd, h with
  | 0, _ => exact ⟨_, rfl⟩
  | 1, _ => exact ⟨_, rfl⟩
/-- what the plain law must give -/
def PlainOk (P : List Nat) (b0 odd : Nat) (hv : Bool) : Prop := ∃ pr : Nat → Nat,
  (∀ m ∈ modesOf P [baseOf P b0], PrOk (altOf odd) m (pr m)) ∧
  (∀ m ∈ modesOf P [baseOf P b0], ∀ p ∈ P, bt m p = 0 → m + 2 ^ p ∈ modesOf P [baseOf P b0]) ∧
  (toldOf (modesOf P [baseOf P b0]) P hv (62 + odd)).Nodup ∧ (toldOf (modesOf P [baseOf P b0]) P hv (62 + odd)).length < 64 ∧
  ∀ es os : List VE, es.map (·.2) = edgesOf pr (modesOf P [baseOf P b0]) P → (os.map (·.2)).Perm (toldOf (modesOf P [baseOf P b0]) P hv (62 + odd)) → os.Pairwise (fun x y => ltH hv x y = true) →
    (krun (ltH hv) es.length (heapG (ltH hv) es (es.length / 2)) (fun x => x) []).map (·.2) = os.map (·.2)
theorem draw_length (scr : List Int) : (draw scr).length ≤ 5 := by unfold draw; simp; omega
theorem nums_length (scr : List Int) : 1 ≤ (nums scr).length ∧ (nums scr).length ≤ 5 := by
  have := draw_length scr
  unfold nums
  rw [List.length_append, List.length_drop]
  simp only [List.length_cons, List.length_nil]
  omega
theorem dedup_ok (N : List Nat) : (dedup N).length ≤ N.length ∧ (∀ p ∈ dedup N, p < 12) ∧ (dedup N).Nodup := by
  have : ∀ (N acc : List Nat), (∀ p ∈ acc, p < 12) → acc.Nodup → (N.foldl (fun acc n => if acc.contains (n % 12) then acc else acc ++ [n % 12]) acc).length ≤ acc.length + N.length ∧
      (∀ p ∈ N.foldl (fun acc n => if acc.contains (n % 12) then acc else acc ++ [n % 12]) acc, p < 12) ∧ (N.foldl (fun acc n => if acc.contains (n % 12) then acc else acc ++ [n % 12]) acc).Nodup := by
    intro N
    induction N with
    | nil => intro acc h1 h2; exact ⟨by simp, h1, h2⟩
    | cons n N ih =>
      intro acc h1 h2
      rw [List.foldl_cons]
      split
      · have := ih acc h1 h2
        exact ⟨by rw [List.length_cons]; omega, this.2⟩
      · rename_i hc
        have hni : n % 12 ∉ acc := fun q => hc (by simpa using q)
        have := ih (acc ++ [n % 12]) (fun p hp => by
          rcases List.mem_append.mp hp with q | q
          · exact h1 p q
          · rw [List.mem_singleton.mp q]; exact Nat.mod_lt _ (by decide)) (by
          rw [List.nodup_append]
          refine ⟨h2, by simp, fun a ha b hb e => ?_⟩
          rw [List.mem_singleton.mp hb] at e
          exact hni (e ▸ ha))
        refine ⟨?_, this.2⟩
        have h3 := this.1
        rw [List.length_append, List.length_singleton] at h3
        rw [List.length_cons]; omega
  have := this N [] (by simp) (by simp)
  unfold dedup
  exact ⟨by simpa using this.1, this.2⟩
theorem zs_mk {vs : List Value} {xs : List Nat} (hl : vs.length = xs.length) (h : ∀ (i : Nat) (v : Value), vs[i]? = some v → ∃ (x : Nat) (t : Tok), xs[i]? = some x ∧ v = Value.int ((x : Nat) : Int) t) : IntsAre vs (zs xs) := by
  induction vs generalizing xs with
  | nil =>
    cases xs with
    | nil => exact .nil
    | cons x xs => simp at hl
  | cons v vs ih =>
    cases xs with
    | nil => simp at hl
    | cons x xs =>
      obtain ⟨x', t, h1, h2⟩ := h 0 v rfl
      simp at h1; subst h1; subst h2
      exact .cons _ _ (ih (by simpa using hl) fun i v hv => h (i + 1) v (by simpa using hv))

theorem Fx.rm {B : Base} {L : Addr} {ns : List Str} {vs : List (Option Value)} {nw : List (Addr × Obj)} {h : Heap} (j : Nat) (X : Fx B L ns vs nw h) : Fx B L ns vs (nw.eraseIdx j) h :=
  ⟨X.m, X.keep, X.hL, fun q hq => X.news q ((List.eraseIdx_sublist nw j).subset hq), X.nd.sublist ((List.eraseIdx_sublist nw j).map _)⟩
theorem Hol.of_add {B : Base} {a : Addr} {o : Obj} {h : Heap} (x : Hol (addB B a o) h) (hn : B a = none) : Hol B h := fun b p e => x b p (addB_old e hn)
theorem clos1 {env : Env} {x0 x1 xc : Str} {c : Addr} {more : List (Str × Const)} (C : CK env xc c) : closureFor { kind := .function, names := [(x0, .local), (x1, .local), (xc, .free)], isGenerator := false, isCoroutine := false, more := more } env = pure [(xc, c)] := by
  have hc : cellOf env xc = pure c := by unfold cellOf; rw [C.look]
  unfold closureFor
  simp [hc]
theorem mulPw {a : Nat} {p : Nat} (ha : a < 2) (hp : p < 12) : IntMulOk (a : Int) ((2 ^ p : Nat) : Int) := by
  refine IntMulOk.of_left ?_
  have : (a : Int) = 0 ∨ (a : Int) = 1 := by omega
  rcases this with e | e <;> rw [e] <;> decide
theorem ck_comp {w : World} {env : Env} {L C' : Addr} {ns : List Str} {gl bl : List (Str × Value)} {x0 x1 xc : Str} {c : Addr} {more : List (Str × Const)} (K : FK w env L ns gl bl) (C : CK env xc c) (h0 : (xc == x0) = false) (h1 : (xc == x1) = false) :
    CK (compEnvC { kind := .function, names := [(x0, .local), (x1, .local), (xc, .free)], isGenerator := false, isCoroutine := false, more := more } [(xc, c)] C' env) xc c := by
  have h2 := C.kind
  have h3 := K.kind
  refine ⟨?_, by simp [compEnvC], C.dbg⟩
  have e : relabel { kind := .function, names := [(x0, .local), (x1, .local), (xc, .free)], isGenerator := false, isCoroutine := false, more := more } env = { kind := .function, names := [(x0, .local), (x1, .local), (xc, .cell)], isGenerator := false, isCoroutine := false, more := more } := by
    unfold relabel
    simp [h2, h3]
  show (relabel _ env).names.lookup xc = some .cell
  rw [e]
  simp [List.lookup_cons, h0, h1]
theorem modesOf_take {P : List Nat} {M : List Nat} {i p : Nat} (hp : P[i]? = some p) : modesOf (P.take (i + 1)) M = modesOf (P.take i) M ++ (modesOf (P.take i) M).map (· + 2 ^ p) := by
  unfold modesOf
  rw [List.take_add_one, hp, List.foldl_append]; rfl
theorem modesOf_length (P M : List Nat) : (modesOf P M).length = M.length * 2 ^ P.length := by
  unfold modesOf
  induction P generalizing M with
  | nil => simp
  | cons p P ih =>
    rw [List.foldl_cons, ih, List.length_append, List.length_map, List.length_cons, Nat.pow_succ]
    rw [← Nat.two_mul, Nat.mul_comm 2, Nat.mul_assoc, Nat.mul_comm 2]
theorem zs_app {a b : List Nat} : zs (a ++ b) = zs a ++ zs b := List.map_append
theorem mul64 {a : Int} {k : Nat} (hk : k ≤ 10) : IntMulOk a ((64 : Int) ^ k) := by
  refine IntMulOk.of_right ?_
  have : ∀ k : Fin 11, Builtin.Int.intBits ((64 : Int) ^ k.val) ≤ 64 := by decide +kernel
  exact this ⟨k, by omega⟩
section
variable {w : World} {A : Around} {E : Value → Shared → Prop} {s₀ : Shared} {h : Heap} {tk : Nat} {B : Base} {ns : List Str} {env : Env} {pos : Pos}
/-- a slice of a list that is known by IsList alone -/
theorem sliI {value : Expr} {lower upper : Option Expr} {p : Pos} {Q : Value → Shared → Prop}
    (hq : wpAny (Mo w) A (eval value env) (fun o s₁ => wpAny (Mo w) A (evalPart lower env) (fun vl s₂ => wpAny (Mo w) A (evalPart upper env) (fun vu s₃ =>
      ∃ (L : Addr) (vs : List (Option Value)) (nw : List (Addr × Obj)) (h : Heap) (tk : Nat) (l : Addr) (xs : List Value) (lo hi : Option Int), s₃ = St s₀ h tk ∧ Fx B L ns vs nw h ∧ o = .ref l ∧ h.IsList l xs.toArray ∧ xs.length ≤ sizeLine ∧ IsPart vl lo ∧ IsPart vu hi ∧
        ∀ a h' tk', Fx B L ns vs ((a, listOf (slicePick xs.toArray lo hi none) 0) :: nw) h' → Q (.ref a) (St s₀ h' tk')) E s₂) E s₁) E (St s₀ h tk))
    (ht : ∀ o r, letTemporaryGo value o r = pure () := by intro _ _; rfl) :
    wpAny (Mo w) A (eval (.Subscript value (.Slice lower upper none p) pos) env) Q E (St s₀ h tk) := by
  refine wpAny_Subscript_list_slice (wpAny_mono hq (fun o s₁ q => wpAny_mono q (fun vl s₂ q => wpAny_mono q (fun vu s₃ q => ?_) fun _ _ e => e) fun _ _ e => e) fun _ _ e => e) ht
  obtain ⟨L, vs, nw, h, tk, l, xs, lo, hi, rfl, X, rfl, hl, hsz, pl, pu, hq⟩ := q
  refine ⟨l, xs.toArray, lo, hi, rfl, hl, by simpa using hsz, pl, pu, ?_⟩
  have X2 := ((X.push { cls := .type "slice", data := .fields #[vl, vu, .none] } rfl).push { cls := .type "list", data := .seq (slicePick xs.toArray lo hi none) } rfl)
  rw [Heap.size_push] at X2
  exact hq (h.objs.size + 1) _ tk (X2.perm (List.Perm.swap ..) |>.drop)
abbrev wN : List Str := [Str.ofString "drawn", Str.ofString "numbers", Str.ofString "odd", Str.ofString "heavy", Str.ofString "powers", Str.ofString "base", Str.ofString "modes", Str.ofString "mode", Str.ofString "told", Str.ofString "place", Str.ofString "here", Str.ofString "there"]
set_option maxHeartbeats 8000000 in
theorem law_spec {ls : Nat} {sv : List Value} {scr : List Int} (G : GdB w B) (hB : Hol B h) (R : Rm A 30)
    (hls : h.IsList ls sv.toArray) (hi : IntsAre sv scr) (hsl : sv.length ≤ 63)
    (PL : ∀ P b0 odd hv, P.length ≤ 4 → (∀ p ∈ P, p < 12) → P.Nodup → b0 < 65536 → odd < 2 → PlainOk P b0 odd hv) :
    codeAny (Mo w) A (.call (.ref 227) ⟨[.ref ls], []⟩) (RetTo s₀ h [] (fun v _ => v = .bool true)) (St s₀ h tk) := by
  refine call_fnC (k := 29) (x0 := Str.ofString "script") (xc := Str.ofString "power") (ns := wN) (gl := [(Str.ofString "_law_powers", .ref 196), (Str.ofString "_law_kept", .ref 222), (Str.ofString "_law_place", .ref 208), (Str.ofString "_law_figure", .ref 215), (Str.ofString "_law_net", .ref 201)])
    (bl := [(Str.ofString "len", .builtin "len"), (Str.ofString "abs", .builtin "abs"), (Str.ofString "sorted", .builtin "sorted")])
    G hB R rfl (by rfl) rfl rfl rfl (by intro n; rfl) (by rfl) ?_
  intro L env A' h₁ tk₁ c oc K C R' G' hoc X
  dsimp only [initV] at X
  have esz : sizeLine = 16777216 := rfl
  obtain ⟨ol, hol, holc, nol, hold⟩ := hls
  have hBs : hid [] h ls = some ol := by simpa [hid] using hol
  refine wpAny_execs_cons (asgLC (B := hid [] h) 1 (gl' := []) (bl' := [(Str.ofString "int", .type "int")]) (fun xs i y => ∃ z t, (scr.take 5)[i]? = some z ∧ y = .int ((z % 1000000).toNat : Nat) t) R' K rfl (fk_swapsL 1 K rfl rfl) (by rfl) (by decide) rfl (by decide) (by rfl) ?_)
  refine sliI (B := hid [] h) (ns := Str.ofString "script" :: wN) ?_
  refine ldv 0 X K rfl rfl (evalPart_none_step (evalPart_some_step (cI ?_)))
  refine ⟨L, _, _, _, _, ls, sv, none, some 5, rfl, X, rfl, ⟨ol, X.keep _ _ hBs, holc, nol, hold⟩, by omega, .none, .int 5 _, ?_⟩
  clear X; intro a h₂ tk₂ X
  have hsl := slice_ints_uptoW hi (y := 5) (by decide)
  generalize slicePick sv.toArray none (some 5) none = sl at X hsl
  obtain ⟨sl⟩ := sl
  have hsl' : IntsAre sl (scr.take 5) := hsl
  have hsll := hsl'.length
  refine ⟨_, _, _, _, a, sl, _, rfl, X, rfl, rfl, fun g _ hg => hg (a, listOf sl.toArray 0) (by simp), by simp at hsll; omega, ?_, ?_⟩
  · clear X
    intro C' oL D oD I oI i v h₃ tk₃ E Q' hv KC X hq
    have hil : i < (scr.take 5).length := by rw [← hsll]; exact (List.getElem?_eq_some_iff.mp hv).1
    obtain ⟨t, ht⟩ := hsl'.get i (scr.take 5)[i] (List.getElem?_eq_getElem hil)
    rw [hv] at ht
    obtain rfl := Option.some.inj ht
    refine wpAny_BinOp (tcall1 X G' KC 0 rfl (ldv 0 X KC rfl rfl (call_int_int (wpAny_BinOp (cI (cI (powI (by decide) (by decide) (by decide) (modI (by decide) ?_))))))))
    have e6 : ((10 : Int) ^ (6 : Int).toNat) = 1000000 := by decide
    rw [e6, show (scr.take 5)[i] % 1000000 = (((scr.take 5)[i] % 1000000).toNat : Int) by omega]
    exact hq _ _ _ ⟨(scr.take 5)[i], _, List.getElem?_eq_getElem hil, rfl⟩ X
  clear X
  intro D ys e h₃ tk₃ hyl hyp X
  dsimp only [List.set] at X
  have hyd : IntsAre ys (zs (draw scr)) := by
    refine zs_mk (by rw [hyl, hsll]; simp [draw]) fun i v hv => ?_
    obtain ⟨z, t, hz, rfl⟩ := hyp i v hv
    refine ⟨_, t, ?_, rfl⟩
    simp only [draw, List.getElem?_map, hz, Option.map_some]
  have hydl : ys.length = (draw scr).length := by have := hyd.length; simpa using this
  have hdl := draw_length scr
  -- numbers
  replace X := X.swap01.drop
  refine wpAny_execs_cons (wpAny_Assign_Name (wpAny_BinOp (ldv 1 X K rfl rfl (sliF (B := hid [] h) (ns := Str.ofString "script" :: wN) (lstE4 (cI (cI (cI (cI (newLstE X (by simp; omega) ?_))))))))))
  clear X; intro a4 h₃ tk₃ X
  refine evalPart_some_step (bcall1 X G' K 0 rfl (ldv 1 X K rfl rfl (lenL (X.get (j := 1) rfl) (by omega) ?_)))
  intro tk₄
  refine evalPart_none_step ⟨L, _, _, _, _, a4, _, _, [16877, 0, 9, 3], ys.length, _, rfl, X, rfl, X.get (j := 0) rfl, by simp; omega, rfl, rfl, .cons _ _ (.cons _ _ (.cons _ _ (.cons _ _ .nil))), ?_⟩
  clear X; intro a5 s4 h₃ tk₃ hs4 X
  have hs4l : s4.length ≤ 4 := by have := hs4.length; simp at this; omega
  refine addL X (X.get (j := 2) rfl) (X.get (j := 0) rfl) (by omega) ?_
  clear X; intro a6 h₃ tk₃ X
  refine stv 2 X K rfl rfl ?_
  clear X; intro h₂ tk₂ X; dsimp only [List.set] at X
  replace X := ((X.rm 1).rm 1).rm 1
  dsimp only [List.eraseIdx] at X
  have hnv : IntsAre (ys ++ s4) (zs (nums scr)) := by
    have e : zs (nums scr) = zs (draw scr) ++ ([16877, 0, 9, 3] : List Int).drop ys.length := by
      rw [hydl]; simp only [zs, nums, List.map_append, List.map_drop]; rfl
    rw [e]
    exact hyd.append hs4
  generalize ys ++ s4 = nv at X hnv
  clear hs4 hs4l hyp hyd hydl hyl
  have hnl := nums_length scr
  obtain ⟨n0, N, hN⟩ : ∃ n0 N, nums scr = n0 :: N := by
    cases e : nums scr with
    | nil => rw [e] at hnl; simp at hnl
    | cons n0 N => exact ⟨n0, N, rfl⟩
  rw [hN] at hnv hnl
  have hNl : N.length ≤ 4 := by simp at hnl; omega
  obtain ⟨t0, nv', rfl, hnv'⟩ : ∃ t nv', nv = .int (n0 : Int) t :: nv' ∧ IntsAre nv' (zs N) := by
    cases hnv with
    | cons _ t r => exact ⟨t, _, rfl, r⟩
  have hnvl : nv'.length = N.length := by have := hnv'.length; simpa using this
  refine wpAny_execs_cons (wpAny_Assign_Name (wpAny_BinOp (wpAny_BinOp (Subscript_ (ldv 2 X K rfl rfl (cI (subL (X.get (j := 0) rfl) (by decide) (by simp; omega) rfl (cI (fdivI (by decide) (by decide) (cI (modI (by decide) ?_)))))))))))
  rw [show (n0 : Int) / 65536 % 2 = ((n0 / 65536 % 2 : Nat) : Int) by omega]
  generalize hodd : n0 / 65536 % 2 = odd
  have hodd2 : odd < 2 := by omega
  refine stv 3 X K rfl rfl ?_
  clear X; intro h₂ tk₂ X; dsimp only [List.set] at X
  refine wpAny_execs_cons (wpAny_Assign_Name (wpAny_Compare1 (wpAny_BinOp (wpAny_BinOp (Subscript_ (ldv 2 X K rfl rfl (cI (subL (X.get (j := 0) rfl) (by decide) (by simp; omega) rfl (cI (fdivI (by decide) (by decide) (cI (modI (by decide) (cI (eqI ?_))))))))))))))
  generalize ((n0 : Int) / 131072 % 2 == 1) = hv
  refine stv 4 X K rfl rfl ?_
  clear X; intro h₂ tk₂ X; dsimp only [List.set] at X
  refine wpAny_execs_cons (wpAny_Assign_Name (fcall1 X G' K 0 rfl rfl (sliF (B := hid [] h) (ns := Str.ofString "script" :: wN) (ldv 2 X K rfl rfl (evalPart_some_step (cI ?_))))))
  refine evalPart_none_step ⟨L, _, _, _, _, a6, _, _, _, 1, _, rfl, X, rfl, X.get (j := 0) rfl, by simp; omega, rfl, rfl, .cons _ _ hnv', ?_⟩
  clear X; intro a7 s1 h₃ tk₃ hs1 X
  refine And.intro (X.gd G').k (use_call (powers_spec (N := N) G' X.keep (R'.le (by omega)) (X.get (j := 0) rfl) hs1 (by omega)) ?_)
  rintro _ h₄ tk₄ cc ⟨lp, vp, ep, rfl, hfr, hlp, hip⟩
  replace X := X.add cc hfr hlp
  refine stv 5 X K rfl rfl ?_
  clear X; intro h₂ tk₂ X; dsimp only [List.set] at X
  have hPok := dedup_ok N
  generalize dedup N = P at hip hPok
  obtain ⟨hPl, hP12, hPnd⟩ := hPok
  have hPl4 : P.length ≤ 4 := by omega
  have hvpl : vp.length = P.length := by have := hip.length; simpa using this
  have hlpB : hid [] h lp = none := (X.news _ List.mem_cons_self).2.1
  replace X := (X.rm 1).absorb
  have G2 := G'.add (a := lp) (o := listOf vp.toArray ep) hlpB
  have hBp : addB (hid [] h) lp (listOf vp.toArray ep) lp = some (listOf vp.toArray ep) := addB_self
  have hBs' : ∀ h', Hol (addB (hid [] h) lp (listOf vp.toArray ep)) h' → Hol (hid [] h) h' := fun h' x => x.of_add hlpB
  generalize addB (hid [] h) lp (listOf vp.toArray ep) = B2 at X G2 hBp hBs'
  clear hs1 hfr hlp cc
  refine wpAny_execs_cons (wpAny_Assign_Name (wpAny_BinOp (Subscript_ (ldv 2 X K rfl rfl (cI (subL (X.get (j := 0) rfl) (by decide) (by simp; omega) rfl (cI (modI (by decide) ?_))))))))
  rw [show (n0 : Int) % 65536 = ((n0 % 65536 : Nat) : Int) by omega]
  refine stv 6 X K rfl rfl ?_
  clear X; intro h₂ tk₂ X; dsimp only [List.set] at X
  replace X := X.rm 0
  dsimp only [List.eraseIdx] at X
  generalize hb0 : n0 % 65536 = b0 at X
  have hb0l : b0 < 65536 := by omega
  refine cutS X (fun vs nw => ∃ to tb oc v0, vs = [some (.ref ls), some (.ref D), some (.ref a6), some (.int (odd : Nat) to), some (.bool hv), some (.ref lp), some (.int (baseOf P b0 : Nat) tb), none, none, none, none, none, none] ∧ nw = [(c, oc)] ∧ oc.data = .cell v0) ?_ ?_
  · intro Rr hR
    refine forC (fun i vs nw => ∃ to tb oc v0, vs = [some (.ref ls), some (.ref D), some (.ref a6), some (.int (odd : Nat) to), some (.bool hv), some (.ref lp), some (.int (baseOf (P.take i) b0 : Nat) tb), none, none, none, none, none, none] ∧ nw = [(c, oc)] ∧ oc.data = .cell v0)
      R' X (fun Q' hq => ldv 5 X K rfl rfl hq) hBp ⟨_, _, _, _, rfl, rfl, hoc⟩ ?_ ?_
    · clear X
      rintro i v I oI _ _ h₂ tk₂ Pp hv' ⟨to, tb, oc, v0, rfl, rfl, hoc⟩ X hnx
      obtain ⟨p, tp, hp, rfl⟩ := zs_get hip hv'
      have hp12 := hP12 p (List.mem_of_getElem? hp)
      have hb2 := pw2_b hp12
      have htk : baseOf (P.take (i + 1)) b0 = baseOf (P.take i) b0 - baseOf (P.take i) b0 / 2 ^ p % 2 * 2 ^ p := by
        unfold baseOf
        rw [List.take_add_one, hp, List.foldl_append]; rfl
      generalize baseOf (P.take i) b0 = b at X htk
      refine stc 1 X K C rfl hoc ?_
      clear X; clear hoc; intro oc h₂ tk₂ hoc X
      dsimp only [List.set] at X
      refine wpAny_execs_cons (wpAny_Assign_Name (wpAny_BinOp (ldv 6 X K rfl rfl (wpAny_BinOp (wpAny_BinOp (wpAny_BinOp (ldv 6 X K rfl rfl (wpAny_BinOp (cI (ldc 1 X K C rfl hoc (powI (by omega) (by omega) (by decide) ?_)))))))))))
      rw [pw2]
      refine fdivI (by omega) (by omega) (cI (modI (by decide) ?_))
      rw [bt_cast]
      refine wpAny_BinOp (cI (ldc 1 X K C rfl hoc (powI (by omega) (by omega) (by decide) ?_)))
      rw [pw2]
      have hbt := bt_lt b p
      refine mulI (mulPw hbt hp12) (subI ?_)
      have hle : bt b p * 2 ^ p ≤ b := by
        have h1 : bt b p ≤ b / 2 ^ p := Nat.mod_le _ _
        exact Nat.le_trans (Nat.mul_le_mul_right _ h1) (Nat.div_mul_le_self b (2 ^ p))
      rw [show (b : Int) - ((bt b p : Nat) : Int) * ((2 ^ p : Nat) : Int) = ((baseOf (P.take (i + 1)) b0 : Nat) : Int) by
        rw [htk, ← Int.natCast_mul]
        show _ = ((b - bt b p * 2 ^ p : Nat) : Int)
        omega]
      refine stv 6 X K rfl rfl ?_
      clear X; intro h₂ tk₂ X; dsimp only [List.set] at X
      exact wpAny_execs_nil (hnx _ _ _ _ ⟨_, _, _, _, rfl, rfl, hoc⟩ X)
    · clear X
      rintro _ _ h₂ tk₂ ⟨to, tb, oc, v0, rfl, rfl, hoc⟩ X
      rw [hvpl, List.take_length] at X
      exact wpAny_execs_nil (hR _ _ _ _ ⟨_, _, _, _, rfl, rfl, hoc⟩ X)
  clear X; clear hoc
  rintro _ _ h₂ tk₂ ⟨to, tb, oc, v0, rfl, rfl, hoc⟩ X
  generalize hbb : baseOf P b0 = b at X
  refine wpAny_execs_cons (wpAny_Assign_Name (lstE1 (ldv 6 X K rfl rfl (newLstE X (by simp; omega) ?_))))
  clear X; intro am h₂ tk₂ X
  refine stv 7 X K rfl rfl ?_
  clear X; intro h₂ tk₂ X; dsimp only [List.set] at X
  refine cutS X (fun vs nw => ∃ to tb oc v0 am mv em, vs = [some (.ref ls), some (.ref D), some (.ref a6), some (.int (odd : Nat) to), some (.bool hv), some (.ref lp), some (.int (b : Nat) tb), some (.ref am), none, none, none, none, none] ∧ nw = [(am, listOf mv.toArray em), (c, oc)] ∧ oc.data = .cell v0 ∧ IntsAre mv (zs (modesOf P [b]))) ?_ ?_
  · intro Rr hR
    refine forC (fun i vs nw => ∃ to tb oc v0 am mv em, vs = [some (.ref ls), some (.ref D), some (.ref a6), some (.int (odd : Nat) to), some (.bool hv), some (.ref lp), some (.int (b : Nat) tb), some (.ref am), none, none, none, none, none] ∧ nw = [(am, listOf mv.toArray em), (c, oc)] ∧ oc.data = .cell v0 ∧ IntsAre mv (zs (modesOf (P.take i) [b])))
      R' X (fun Q' hq => ldv 5 X K rfl rfl hq) hBp ⟨_, _, _, _, _, _, _, rfl, rfl, hoc, .cons _ _ .nil⟩ ?_ ?_
    · clear X; clear hoc
      rintro i v I oI _ _ h₂ tk₂ Pp hv' ⟨to, tb, oc, v0, am, mv, em, rfl, rfl, hoc, him⟩ X hnx
      obtain ⟨p, tp, hp, rfl⟩ := zs_get hip hv'
      have hp12 := hP12 p (List.mem_of_getElem? hp)
      have hb2 := pw2_b hp12
      have htk := modesOf_take (M := [b]) hp
      have hil : i < P.length := (List.getElem?_eq_some_iff.mp hp).1
      have hml : mv.length = (modesOf (P.take i) [b]).length := by have := him.length; simpa using this
      have hml8 : mv.length ≤ 8 := by
        rw [hml, modesOf_length, List.length_take, Nat.min_eq_left (by omega)]
        have : 2 ^ i ≤ 2 ^ 3 := Nat.pow_le_pow_right (by decide) (by omega)
        simp; omega
      generalize modesOf (P.take i) [b] = M0 at him htk hml
      refine stc 2 X K C rfl hoc ?_
      clear X; clear hoc; intro oc h₂ tk₂ hoc X
      dsimp only [List.set] at X
      refine wpAny_execs_cons (wpAny_Assign_Name (wpAny_BinOp (ldv 7 X K rfl rfl ?_)))
      refine evLC (B := B2) (cl := [(Str.ofString "power", c)]) (gl' := []) (bl' := []) (fun _ j y => ∃ (m : Nat) (t : Tok), M0[j]? = some m ∧ y = .int ((m + 2 ^ p : Nat) : Int) t) R' K (clos1 C) (by decide) rfl (by decide) (by rfl) ?_
      refine ldv 7 X K rfl rfl ?_
      refine ⟨_, _, _, _, am, mv, em, rfl, X, rfl, fun g _ hg => hg (am, listOf mv.toArray em) (by simp), by omega, ?_, ?_⟩
      · intro C' oL D' oD I' oI' j y h₃ tk₃ E Q' hy KC Y hq
        obtain ⟨m, tm, hm, rfl⟩ := zs_get him hy
        have CC := ck_comp (C' := C') (x0 := Str.ofString ".0") (x1 := Str.ofString "mode") (more := []) K C (by decide) (by decide)
        refine wpAny_BinOp (ldv 0 Y KC rfl rfl (wpAny_BinOp (cI (ldc 5 Y KC CC rfl hoc (powI (by omega) (by omega) (by decide) ?_)))))
        rw [pw2]
        refine addI ?_
        rw [← Int.natCast_add]
        exact hq _ _ _ ⟨m, _, hm, rfl⟩ Y
      · clear X
        intro D' ys' e' h₃ tk₃ hyl hyp X
        refine addL X (X.get (j := 2) rfl) (X.get (j := 0) rfl) (by omega) ?_
        clear X; intro am' h₃ tk₃ X
        refine stv 7 X K rfl rfl ?_
        clear X; intro h₂ tk₂ X; dsimp only [List.set] at X
        replace X := ((X.rm 1).rm 2).swap01
        refine wpAny_execs_nil (hnx _ _ _ _ ⟨_, _, _, _, am', mv ++ ys', _, rfl, rfl, hoc, ?_⟩ X)
        rw [htk, zs_app]
        refine him.append (zs_mk (by rw [hyl, hml, List.length_map]) fun j y hy => ?_)
        obtain ⟨m, t, hm, rfl⟩ := hyp j y hy
        exact ⟨m + 2 ^ p, t, by rw [List.getElem?_map, hm]; rfl, rfl⟩
    · clear X; clear hoc
      rintro _ _ h₂ tk₂ ⟨to, tb, oc, v0, am, mv, em, rfl, rfl, hoc, him⟩ X
      rw [hvpl, List.take_length] at him
      exact wpAny_execs_nil (hR _ _ _ _ ⟨_, _, _, _, _, _, _, rfl, rfl, hoc, him⟩ X)
  clear X; clear hoc
  rintro _ _ h₂ tk₂ ⟨to, tb, oc, v0, am, mv, em, rfl, rfl, hoc, him⟩ X
  have hMl : (modesOf P [b]).length ≤ 16 := by
    rw [modesOf_length]
    have : 2 ^ P.length ≤ 2 ^ 4 := Nat.pow_le_pow_right (by decide) (by omega)
    simp; omega
  generalize hMM : modesOf P [b] = M at him hMl
  have hmvl : mv.length = M.length := by have := him.length; simpa using this
  have hamB : B2 am = none := (X.news _ List.mem_cons_self).2.1
  replace X := X.absorb
  have G3 := G2.add (a := am) (o := listOf mv.toArray em) hamB
  have hBm : addB B2 am (listOf mv.toArray em) am = some (listOf mv.toArray em) := addB_self
  have hBp3 : addB B2 am (listOf mv.toArray em) lp = some (listOf vp.toArray ep) := addB_old hBp hamB
  have hBs3 : ∀ h', Hol (addB B2 am (listOf mv.toArray em)) h' → Hol (hid [] h) h' := fun h' x => hBs' h' (x.of_add hamB)
  generalize addB B2 am (listOf mv.toArray em) = B3 at X G3 hBm hBp3 hBs3
  clear hBs' hBp G2
  refine wpAny_execs_cons (wpAny_Assign_Name (lstE0 (newLstE X (Nat.zero_le _) ?_)))
  clear X; intro tl h₂ tk₂ X
  refine stv 9 X K rfl rfl ?_
  clear X; intro h₂ tk₂ X; dsimp only [List.set] at X
  rw [show listOf ([] : List Value).toArray 0 = lst [] 0 by rfl] at X
  refine cutS X (fun vs nw => ∃ to tb oc v0 v8 v10 v11 v12 es n T, vs = [some (.ref ls), some (.ref D), some (.ref a6), some (.int (odd : Nat) to), some (.bool hv), some (.ref lp), some (.int (b : Nat) tb), some (.ref am), v8, some (.ref tl), v10, v11, v12] ∧ nw = (tl, lst es n) :: (c, oc) :: T ∧ oc.data = .cell v0 ∧ (∀ p ∈ es, InT T p) ∧ es.map (·.2) = toldOf M P hv (62 + odd) ∧ es.length ≤ 64) ?_ ?_
  · intro Rr hR
    refine forL 8 (fun i vs nw => ∃ to tb oc v0 v8 v10 v11 v12 es n T, vs = [some (.ref ls), some (.ref D), some (.ref a6), some (.int (odd : Nat) to), some (.bool hv), some (.ref lp), some (.int (b : Nat) tb), some (.ref am), v8, some (.ref tl), v10, v11, v12] ∧ nw = (tl, lst es n) :: (c, oc) :: T ∧ oc.data = .cell v0 ∧ (∀ p ∈ es, InT T p) ∧ es.map (·.2) = (M.take i).flatMap (fun m => P.flatMap (toldAt P hv (62 + odd) m)) ∧ es.length ≤ i * 4)
      (fun _ _ => False) R' K X rfl (fun Q' hq => ldv 7 X K rfl rfl hq) hBm ⟨_, _, _, _, _, _, _, _, [], _, [], rfl, rfl, hoc, by simp, by simp, by simp⟩ (by rintro i _ _ ⟨_, _, _, _, _, _, _, _, _, _, _, rfl, _⟩; rfl) ?_ ?_ (fun _ _ _ _ q => q.elim)
    · clear X; clear hoc
      rintro i v I oI _ _ h₂ tk₂ Pp hv' ⟨to, tb, oc, v0, v8, v10, v11, v12, es, n, T, rfl, rfl, hoc, hT, hes, hel⟩ X hnx hbk hrt
      obtain ⟨m, t5, hm, rfl⟩ := zs_get him hv'
      dsimp only [List.set] at X
      have hmM := List.mem_of_getElem? hm
      have hil : i < M.length := (List.getElem?_eq_some_iff.mp hm).1
      refine wpAny_execs_cons (forC (fun j vs nw => ∃ oc v0 v10 v11 v12 es n T, vs = [some (.ref ls), some (.ref D), some (.ref a6), some (.int (odd : Nat) to), some (.bool hv), some (.ref lp), some (.int (b : Nat) tb), some (.ref am), some (.int (m : Nat) t5), some (.ref tl), v10, v11, v12] ∧ nw = (I, oI) :: (tl, lst es n) :: (c, oc) :: T ∧ oc.data = .cell v0 ∧ (∀ p ∈ es, InT T p) ∧ es.map (·.2) = (M.take i).flatMap (fun m => P.flatMap (toldAt P hv (62 + odd) m)) ++ (P.take j).flatMap (toldAt P hv (62 + odd) m) ∧ es.length ≤ i * 4 + j)
        R' X (fun Q' hq => ldv 5 X K rfl rfl hq) hBp3 ⟨_, _, _, _, _, es, _, T, rfl, rfl, hoc, hT, by simp [hes], by omega⟩ ?_ ?_)
      · clear X hT hes hel; clear hoc
        rintro j v J oJ _ _ h₂ tk₂ Pq hv' ⟨oc, v0, v10, v11, v12, es, n, T, rfl, rfl, hoc, hT, hes, hel⟩ X hnx
        obtain ⟨p, t7, hp, rfl⟩ := zs_get hip hv'
        have hpP := List.mem_of_getElem? hp
        have hjl : j < P.length := (List.getElem?_eq_some_iff.mp hp).1
        have hp12 := hP12 p hpP
        have hb2 := pw2_b hp12
        have hpl := plc_le hp12
        have htk : (P.take (j + 1)).flatMap (toldAt P hv (62 + odd) m) = (P.take j).flatMap (toldAt P hv (62 + odd) m) ++ toldAt P hv (62 + odd) m p := by
          rw [List.take_add_one, hp, List.flatMap_append]; simp
        refine stc 3 X K C rfl hoc ?_
        clear X; clear hoc; intro oc h₂ tk₂ hoc X
        dsimp only [List.set] at X
        refine wpAny_execs_cons (wpAny_If (wpAny_isTrue_BoolOp (wpAny_allTrue_And_cons (wpAny_isTrue_Compare1 (wpAny_BinOp (wpAny_BinOp (ldv 8 X K rfl rfl (wpAny_BinOp (cI (ldc 3 X K C rfl hoc (powI (by omega) (by omega) (by decide) ?_)))))))))))
        rw [pw2]
        refine fdivI (by omega) (by omega) (cI (modI (by decide) ?_))
        rw [bt_cast]
        refine cI (eqI (wpAny_truthy_bool ?_))
        by_cases hb : bt m p = 0
        · rw [if_pos (eT (by omega))]
          refine wpAny_allTrue_And_cons (wpAny_isTrue_value (fcall4 X G3 K 1 rfl rfl (ldv 8 X K rfl rfl (ldc 3 X K C rfl hoc (ldv 5 X K rfl rfl (ldv 4 X K rfl rfl (And.intro (X.gd G3).k (use_call (kept_spec G3 X.keep (R'.le (by omega)) hp12 (X.keep _ _ hBp3) hip hP12) ?_))))))))
          rintro _ h₃ tk₃ cc rfl
          replace X := X.chg0 cc
          refine wpAny_truthy_bool ?_
          by_cases hk : keptP m p P hv = true
          · rw [if_pos hk]
            refine wpAny_allTrue_And_nil ?_
            rw [if_pos (by decide)]
            refine wpAny_execs_cons (wpAny_Assign_Name (fcall1 X G3 K 2 rfl rfl (ldc 3 X K C rfl hoc (And.intro (X.gd G3).k (use_call (place_spec G3 X.keep (R'.le (by omega)) hp12) ?_)))))
            rintro _ h₃ tk₃ cc ⟨t10, rfl⟩
            replace X := X.chg0 cc
            refine stv 10 X K rfl rfl ?_
            clear X; intro h₂ tk₂ X; dsimp only [List.set] at X
            refine wpAny_execs_cons (wpAny_Assign_Name (fcall3 X G3 K 3 rfl rfl (ldv 8 X K rfl rfl (ldv 10 X K rfl rfl (wpAny_BinOp (cI (ldv 3 X K rfl rfl (addI ?_))))))))
            rw [show (62 : Int) + (odd : Nat) = ((62 + odd : Nat) : Int) by omega]
            refine And.intro (X.gd G3).k (use_call (figure_spec G3 X.keep (R'.le (by omega)) (by omega)) ?_)
            rintro _ h₃ tk₃ cc ⟨t11, rfl⟩
            replace X := X.chg0 cc
            refine stv 11 X K rfl rfl ?_
            clear X; intro h₂ tk₂ X; dsimp only [List.set] at X
            refine wpAny_execs_cons (wpAny_Assign_Name (fcall3 X G3 K 3 rfl rfl (wpAny_BinOp (ldv 8 X K rfl rfl (wpAny_BinOp (cI (ldc 3 X K C rfl hoc (powI (by omega) (by omega) (by decide) ?_))))))))
            rw [pw2]
            refine addI (ldv 10 X K rfl rfl (wpAny_BinOp (cI (ldv 3 X K rfl rfl (addI ?_)))))
            rw [show (62 : Int) + (odd : Nat) = ((62 + odd : Nat) : Int) by omega, ← Int.natCast_add]
            refine And.intro (X.gd G3).k (use_call (figure_spec G3 X.keep (R'.le (by omega)) (by omega)) ?_)
            rintro _ h₃ tk₃ cc ⟨t12, rfl⟩
            replace X := X.chg0 cc
            refine stv 12 X K rfl rfl ?_
            clear X; intro h₂ tk₂ X; dsimp only [List.set] at X
            refine wpAny_execs_cons (exprS K (mcall1 PySem.F.slot_list_append PySem.F.type_list_append (ldv 9 X K rfl rfl ?_)))
            refine ⟨_, _, _, rfl, X.get (j := 2) rfl, ?_⟩
            refine tupE3 (wpAny_BinOp (bcall1 X G3 K 1 rfl (wpAny_BinOp (ldv 11 X K rfl rfl (ldv 12 X K rfl rfl (subI (absI ?_)))))))
            intro t' tk'
            refine wpAny_BinOp (cI (wpAny_BinOp (cI (ldv 10 X K rfl rfl (subI (powI (by omega) (by omega) (by decide) ?_))))))
            rw [show ((10 : Int) - ((plc p : Nat) : Int)).toNat = 10 - plc p by omega]
            refine mulI (mul64 (by omega)) (ldv 8 X K rfl rfl (wpAny_BinOp (cI (ldc 3 X K C rfl hoc (powI (by omega) (by omega) (by decide) ?_)))))
            rw [pw2]
            refine newTup X (by simp; omega) ?_
            clear X; intro a h₃ tk₃ _ _ X
            replace X := X.perm (nw' := (J, oJ) :: (I, oI) :: (tl, lst es n) :: (c, oc) :: (a, _) :: T) (by
              refine List.Perm.trans ?_ (List.perm_middle (l₁ := [(J, oJ), (I, oI), (tl, lst es n), (c, oc)]))
              exact List.Perm.refl _)
            refine appL 2 X rfl (by simp; omega) ?_
            clear X; intro h₂ tk₂ X; dsimp only [List.set] at X
            rw [show listOf (es.map (·.1) ++ [Value.ref a]).toArray (n + 1) = lst (es ++ [(.ref a, ((((fig m (plc p) (62 + odd) : Int) - (fig (m + 2 ^ p) (plc p) (62 + odd) : Int)).natAbs : Int) * (64 : Int) ^ (10 - plc p), (m : Int), ((2 ^ p : Nat) : Int)))]) (n + 1) by simp [lst]] at X
            refine ⟨rfl, wpAny_execs_nil (wpAny_execs_nil (hnx _ _ _ _ ⟨_, _, _, _, _, es ++ [(.ref a, ((((fig m (plc p) (62 + odd) : Int) - (fig (m + 2 ^ p) (plc p) (62 + odd) : Int)).natAbs : Int) * (64 : Int) ^ (10 - plc p), (m : Int), ((2 ^ p : Nat) : Int)))], _, _, rfl, rfl, hoc, ?_, ?_, ?_⟩ X))⟩
            · intro q hq
              rcases List.mem_append.mp hq with r | r
              · exact (hT q r).mono fun x hx => List.mem_cons_of_mem _ hx
              · rw [List.mem_singleton.mp r]
                exact ⟨a, _, _, _, _, rfl, List.mem_cons_self⟩
            · rw [List.map_append, hes, htk, toldAt, if_pos ⟨hb, hk⟩]; simp
            · rw [List.length_append]; simp; omega
          · rw [if_neg hk, if_neg (by decide)]
            refine wpAny_execs_nil (wpAny_execs_nil (hnx _ _ _ _ ⟨_, _, _, _, _, es, _, T, rfl, rfl, hoc, hT, ?_, by omega⟩ X))
            rw [htk, toldAt, if_neg (fun q => hk q.2), List.append_nil]; exact hes
        · have hbt := bt_lt m p
          rw [if_neg (eF (by omega)), if_neg (by decide)]
          refine wpAny_execs_nil (wpAny_execs_nil (hnx _ _ _ _ ⟨_, _, _, _, _, es, _, T, rfl, rfl, hoc, hT, ?_, by omega⟩ X))
          rw [htk, toldAt, if_neg (fun q => hb q.1), List.append_nil]; exact hes
      · clear X hT hes hel; clear hoc
        rintro _ _ h₂ tk₂ ⟨oc, v0, v10, v11, v12, es, n, T, rfl, rfl, hoc, hT, hes, hel⟩ X
        rw [hvpl, List.take_length] at hes
        refine wpAny_execs_nil (wpAny_execs_nil (hnx _ _ _ _ ⟨_, _, _, _, _, _, _, _, es, _, T, rfl, rfl, hoc, hT, ?_, by omega⟩ X).1)
        rw [hes, List.take_add_one, hm]
        simp
    · clear X; clear hoc
      rintro _ _ h₂ tk₂ ⟨to, tb, oc, v0, v8, v10, v11, v12, es, n, T, rfl, rfl, hoc, hT, hes, hel⟩ X
      rw [hmvl, List.take_length] at hes
      exact wpAny_execs_nil (hR _ _ _ _ ⟨_, _, _, _, _, _, _, _, es, _, T, rfl, rfl, hoc, hT, hes, by omega⟩ X)
  clear X; clear hoc
  rintro _ _ h₂ tk₂ ⟨to, tb, oc, v0, v8, v10, v11, v12, es, n, T, rfl, rfl, hoc, hT, hes, hel⟩ X
  obtain ⟨pr, hpr, hcl, hnd, h64, hfin⟩ := PL P b0 odd hv hPl4 hP12 hPnd hb0l hodd2
  rw [hbb, hMM] at hpr hcl hnd h64 hfin
  refine wpAny_execs_cons (wpAny_Return_some (wpAny_Compare1 (fcall4 X G3 K 4 rfl rfl (ldv 7 X K rfl rfl (ldv 5 X K rfl rfl (Subscript_ (tupE2 (cB (cB (newTup X (by simp; omega) ?_))))))))))
  clear X; intro at' h₃ tk₃ _ _ X
  obtain ⟨ta, hta⟩ := alt_at (odd := odd) (t1 := tk₂) (t2 := tk₂ + 1) hodd2
  refine ldv 3 X K rfl rfl (subT (X.get (j := 0) rfl) (by omega) (by simp) (by rw [Int.toNat_natCast]; exact hta) ?_)
  replace X := X.drop
  refine ldv 4 X K rfl rfl ?_
  refine And.intro (X.gd G3).k (use_call (net_spec (M := M) (P := P) (pr := pr) G3 X.keep (R'.le (by omega)) (X.keep _ _ hBm) him (X.keep _ _ hBp3) hip hMl hPl4 hP12 (by unfold altOf; split <;> rfl) hpr hcl) ?_)
  rintro _ h₄ tk₄ cc ⟨nl, nn, ed, ks, rfl, hnf, hnl, hkt, hed, hks⟩
  replace X := X.chg0 cc
  have hkt' : ∀ p ∈ ks, IsT3 h₄ p.1 p.2 := fun p hp => by
    obtain ⟨a, t1, t2, t3, n, q1, q2, q3⟩ := hkt p hp
    exact ⟨a, t1, t2, t3, n, q1, q3⟩
  have hTs : ∀ x ∈ T, x ∈ (tl, lst es n) :: (c, oc) :: T := fun x hx => List.mem_cons_of_mem _ (List.mem_cons_of_mem _ hx)
  have hel64 : es.length < 64 := by
    have e := congrArg List.length hes
    rw [List.length_map] at e
    omega
  refine bcallS X G3 K 2 rfl (ldv 9 X K rfl rfl (ldv 4 X K rfl rfl (sortT X (X.get (j := 0) rfl) (fun p hp => (hT p hp).is X hTs) (by rw [hes]; exact hnd) hel64 ?_)))
  rintro a os e h₅ tk₅ c5 hfr X5 hperm hsort
  refine eqLL (k := 0) (R'.le (by omega)) (c5 _ _ hnl List.not_mem_nil) (X5.get (j := 0) rfl) (fun p hp => ?_) (fun p hp => ?_) ?_ ?_
  · obtain ⟨a, t1, t2, t3, n, q1, q2⟩ := hkt' p hp
    exact ⟨a, t1, t2, t3, n, q1, c5 _ _ q2 List.not_mem_nil⟩
  · exact (hT p (hperm.mem_iff.mp hp)).is X5 fun x hx => List.mem_cons_of_mem _ (hTs x hx)
  · rw [hks]
    refine hfin ed os hed ?_ hsort
    rw [← hes]
    exact hperm.map _
  · exact ⟨h₅, _, rfl, hid_hol (hBs3 _ X5.keep), rfl⟩
end
end Mine
end
section
open PySem PySem.W PyProof.Rows PySem.Calls
set_option Elab.async false
set_option maxRecDepth 100000
namespace Mine

/-- le is total and transitive: 'not (y < x)' -/
structure Ord {α : Type} (lt : α → α → Bool) : Prop where
  asym : ∀ x y, lt x y = true → lt y x = false
  ntr : ∀ x y z, lt y x = false → lt z y = false → lt z x = false

inductive Dsc (k : Nat) : Nat → Prop
  | root : Dsc k k
  | left {p : Nat} : Dsc k p → Dsc k (2 * p + 1)
  | right {p : Nat} : Dsc k p → Dsc k (2 * p + 2)
theorem Dsc.ge {k p : Nat} (h : Dsc k p) : k ≤ p := by
  induction h with
  | root => exact Nat.le_refl _
  | left _ ih => omega
  | right _ ih => omega
theorem Dsc.up {k p : Nat} (h : Dsc k p) (hk : k < p) : k ≤ (p - 1) / 2 ∧ Dsc k ((p - 1) / 2) := by
  cases h with
  | root => omega
  | left h =>
    rename_i q
    have e : (2 * q + 1 - 1) / 2 = q := by omega
    rw [e]; exact ⟨h.ge, h⟩
  | right h =>
    rename_i q
    have e : (2 * q + 2 - 1) / 2 = q := by omega
    rw [e]; exact ⟨h.ge, h⟩

section
variable {α : Type} {lt : α → α → Bool}
/-- all pairs with a parent from k on stand right, but those that touch pos -/
def HP (lt : α → α → Bool) (k : Nat) (ps : List α) (pos : Nat) : Prop :=
  ∀ i x y, 1 ≤ i → k ≤ (i - 1) / 2 → i ≠ pos → (i - 1) / 2 ≠ pos → ps[i]? = some x → ps[(i - 1) / 2]? = some y → lt x y = false
def HG (lt : α → α → Bool) (k : Nat) (ps : List α) (pos : Nat) : Prop :=
  1 ≤ pos → k ≤ (pos - 1) / 2 → ∀ i x y, 1 ≤ i → (i - 1) / 2 = pos → ps[i]? = some x → ps[(pos - 1) / 2]? = some y → lt x y = false
def HF (lt : α → α → Bool) (k : Nat) (ps : List α) : Prop :=
  ∀ i x y, 1 ≤ i → k ≤ (i - 1) / 2 → ps[i]? = some x → ps[(i - 1) / 2]? = some y → lt x y = false

theorem down_step {k pos c : Nat} {ps : List α} {v : α} (hP : HP lt k ps pos) (hG : HG lt k ps pos) (hk : k ≤ pos)
    (hc1 : 1 ≤ c) (hc : (c - 1) / 2 = pos) (hv : ps[c]? = some v)
    (hs : ∀ i x, 1 ≤ i → (i - 1) / 2 = pos → i ≠ c → ps[i]? = some x → lt x v = false) : HP lt k (ps.set pos v) c ∧ HG lt k (ps.set pos v) c := by
  have hcp : c ≠ pos := by omega
  constructor
  · intro i x y h1 h2 h3 h4 hx hy
    by_cases hip : i = pos
    · subst hip
      rw [List.getElem?_set_self' ] at hx
      have hx' : x = v := by
        cases e : ps[i]? with
        | none => rw [e] at hx; simp at hx
        | some z => rw [e] at hx; simp at hx; exact hx.symm
      rw [List.getElem?_set_ne (by omega)] at hy
      subst hx'
      exact hG h1 h2 c x y hc1 hc hv hy
    · rw [List.getElem?_set_ne (by omega)] at hx
      by_cases hpp : (i - 1) / 2 = pos
      · rw [hpp, List.getElem?_set_self'] at hy
        have hy' : y = v := by
          cases e : ps[pos]? with
          | none => rw [e] at hy; simp at hy
          | some z => rw [e] at hy; simp at hy; exact hy.symm
        subst hy'
        exact hs i x h1 hpp h3 hx
      · rw [List.getElem?_set_ne (by omega)] at hy
        exact hP i x y h1 h2 hip hpp hx hy
  · intro h1 h2 i x y hi1 hi hx hy
    rw [List.getElem?_set_ne (by omega)] at hx
    rw [hc, List.getElem?_set_self'] at hy
    have hy' : y = v := by
      cases e : ps[pos]? with
      | none => rw [e] at hy; simp at hy
      | some z => rw [e] at hy; simp at hy; exact hy.symm
    subst hy'
    exact hP i x y hi1 (by omega) (by omega) (by omega) hx (by rw [hi]; exact hv)

theorem set_swap {ps : List α} {pos c : Nat} {v x : α} (hne : c ≠ pos) (hpos : pos < ps.length) (hv : ps[c]? = some v) : ((ps.set pos v).set c x).Perm (ps.set pos x) := by
  obtain ⟨hc, hv⟩ := List.getElem?_eq_some_iff.mp hv
  have h1 : c < (ps.set pos x).length := by rw [List.length_set]; exact hc
  have h2 : pos < (ps.set pos x).length := by rw [List.length_set]; exact hpos
  have := List.set_set_perm (as := ps.set pos x) h2 h1
  rw [List.getElem_set_self, List.getElem_set_ne (by omega), hv, List.set_set] at this
  exact this

/-- the way down keeps the order but at the hole -/
theorem suGo_ok (O : Ord lt) {k : Nat} : ∀ (n : Nat) (ps : List α) (pos : Nat), ps.length - pos ≤ n → pos < ps.length → Dsc k pos → HP lt k ps pos → HG lt k ps pos →
    HP lt k (suGo lt ps pos).1 (suGo lt ps pos).2 ∧ HG lt k (suGo lt ps pos).1 (suGo lt ps pos).2 ∧ Dsc k (suGo lt ps pos).2 ∧ (suGo lt ps pos).2 < ps.length ∧
    ps.length ≤ 2 * (suGo lt ps pos).2 + 1 ∧ (suGo lt ps pos).1.length = ps.length ∧ ∀ x, ((suGo lt ps pos).1.set (suGo lt ps pos).2 x).Perm (ps.set pos x) := by
  intro n
  induction n with
  | zero => intro ps pos h1 h2; omega
  | succ n ih =>
    intro ps pos h1 h2 hd hP hG
    have hk := hd.ge
    by_cases h : 2 * pos + 1 < ps.length
    · have hlen := suGo_length (lt := lt) _ ps pos (Nat.le_refl _)
      have go : ∀ (c : Nat) (v : α), (c = 2 * pos + 1 ∨ c = 2 * pos + 2) → ps[c]? = some v → (∀ i x, 1 ≤ i → (i - 1) / 2 = pos → i ≠ c → ps[i]? = some x → lt x v = false) → suGo lt ps pos = suGo lt (ps.set pos v) c →
          HP lt k (suGo lt ps pos).1 (suGo lt ps pos).2 ∧ HG lt k (suGo lt ps pos).1 (suGo lt ps pos).2 ∧ Dsc k (suGo lt ps pos).2 ∧ (suGo lt ps pos).2 < ps.length ∧
          ps.length ≤ 2 * (suGo lt ps pos).2 + 1 ∧ (suGo lt ps pos).1.length = ps.length ∧ ∀ x, ((suGo lt ps pos).1.set (suGo lt ps pos).2 x).Perm (ps.set pos x) := by
        intro c v hc hv hs e
        have hcl := (List.getElem?_eq_some_iff.mp hv).1
        obtain ⟨a1, a2⟩ := down_step hP hG hk (by omega) (by omega) hv hs
        have hdc : Dsc k c := by
          rcases hc with rfl | rfl
          · exact hd.left
          · exact hd.right
        have := ih (ps.set pos v) c (by rw [List.length_set]; omega) (by rw [List.length_set]; exact hcl) hdc a1 a2
        rw [← e, List.length_set] at this
        obtain ⟨b1, b2, b3, b4, b5, b6, b7⟩ := this
        exact ⟨b1, b2, b3, b4, b5, b6, fun x => (b7 x).trans (set_swap (by omega) h2 hv)⟩
      cases hl : ps[2 * pos + 1]? with
      | none => rw [List.getElem?_eq_none_iff] at hl; omega
      | some l =>
        cases hr : ps[2 * pos + 2]? with
        | none =>
          refine go _ l (.inl rfl) hl (fun i x h1 h2 h3 hx => ?_) (suGo_one hl hr)
          have : i = 2 * pos + 2 := by omega
          subst this; rw [hr] at hx; cases hx
        | some r =>
          cases hlt : lt l r with
          | true =>
            refine go _ l (.inl rfl) hl (fun i x h1 h2 h3 hx => ?_) (suGo_left hl hr hlt)
            have : i = 2 * pos + 2 := by omega
            subst this; rw [hr] at hx; cases hx
            exact O.asym _ _ hlt
          | false =>
            refine go _ r (.inr rfl) hr (fun i x h1 h2 h3 hx => ?_) (suGo_right hl hr hlt)
            have : i = 2 * pos + 1 := by omega
            subst this; rw [hl] at hx; cases hx
            exact hlt
    · rw [suGo_stop h]
      exact ⟨hP, hG, hd, h2, by omega, rfl, fun x => List.Perm.refl _⟩

theorem set_some {ps : List α} {pos : Nat} {v x : α} (h : (ps.set pos v)[pos]? = some x) : x = v := by
  rw [List.getElem?_set_self'] at h
  cases e : ps[pos]? with
  | none => rw [e] at h; simp at h
  | some z => rw [e] at h; simp at h; exact h.symm

theorem sd_ok (O : Ord lt) {k : Nat} {new : α} : ∀ (pos : Nat) (ps : List α), pos < ps.length → Dsc k pos → HP lt k ps pos → HG lt k ps pos → (∀ i x, 1 ≤ i → (i - 1) / 2 = pos → ps[i]? = some x → lt x new = false) →
    HF lt k (sd lt k new ps pos) ∧ (sd lt k new ps pos).Perm (ps.set pos new) := by
  intro pos
  induction pos using Nat.strongRecOn with
  | ind pos ih =>
    intro ps hpos hd hP hG hN
    have stop : (k < pos → ∀ y, ps[(pos - 1) / 2]? = some y → lt new y = false) → HF lt k (ps.set pos new) := by
      intro hb i x y h1 h2 hx hy
      by_cases hip : i = pos
      · subst hip
        have := set_some hx; subst this
        rw [List.getElem?_set_ne (by omega)] at hy
        exact hb (by omega) y hy
      · rw [List.getElem?_set_ne (by omega)] at hx
        by_cases hpp : (i - 1) / 2 = pos
        · rw [hpp] at hy
          have := set_some hy; subst this
          exact hN i x h1 hpp hx
        · rw [List.getElem?_set_ne (by omega)] at hy
          exact hP i x y h1 h2 hip hpp hx hy
    by_cases h : k < pos
    · obtain ⟨hku, hdu⟩ := hd.up h
      have hup : (pos - 1) / 2 < ps.length := by omega
      have hpar := List.getElem?_eq_getElem hup
      generalize ps[(pos - 1) / 2] = par at hpar
      cases hl : lt new par with
      | true =>
        rw [sd_go h hpar hl]
        have hu1 : (pos - 1) / 2 < pos := by omega
        have := ih _ hu1 (ps.set pos par) (by rw [List.length_set]; omega) hdu ?_ ?_ ?_
        · exact ⟨this.1, this.2.trans (set_swap (by omega) hpos hpar)⟩
        · intro i x y h1 h2 h3 h4 hx hy
          by_cases hip : i = pos
          · subst hip; exact absurd rfl h4
          · rw [List.getElem?_set_ne (by omega)] at hx
            by_cases hpp : (i - 1) / 2 = pos
            · rw [hpp] at hy
              have := set_some hy; subst this
              exact hG (by omega) hku i x y h1 hpp hx hpar
            · rw [List.getElem?_set_ne (by omega)] at hy
              exact hP i x y h1 h2 hip hpp hx hy
        · intro h1 h2 i x y hi1 hi hx hy
          rw [List.getElem?_set_ne (by omega)] at hy
          have hgp : lt par y = false := hP _ par y h1 h2 (by omega) (by omega) hpar hy
          by_cases hip : i = pos
          · subst hip
            have := set_some hx; subst this
            exact hgp
          · rw [List.getElem?_set_ne (by omega)] at hx
            exact O.ntr _ _ _ hgp (hP i x par hi1 (by omega) hip (by omega) hx (by rw [hi]; exact hpar))
        · intro i x hi1 hi hx
          by_cases hip : i = pos
          · subst hip
            have := set_some hx; subst this
            exact O.asym _ _ hl
          · rw [List.getElem?_set_ne (by omega)] at hx
            exact O.ntr _ _ _ (O.asym _ _ hl) (hP i x par hi1 (by omega) hip (by omega) hx (by rw [hi]; exact hpar))
      | false =>
        rw [sd_brk h hpar hl]
        refine ⟨stop fun _ y hy => ?_, List.Perm.refl _⟩
        rw [hpar] at hy; cases hy; exact hl
    · rw [sd_stop h]
      exact ⟨stop fun q => absurd q h, List.Perm.refl _⟩

theorem su_ok (O : Ord lt) {k : Nat} {new : α} {ps : List α} (hk : k < ps.length) (hF : HF lt (k + 1) ps) : HF lt k (su lt new ps k) ∧ (su lt new ps k).Perm (ps.set k new) := by
  obtain ⟨b1, b2, b3, b4, b5, b6, b7⟩ := suGo_ok O (k := k) _ ps k (Nat.le_refl _) hk .root (fun i x y h1 h2 h3 h4 hx hy => hF i x y h1 (by omega) hx hy) (fun h1 h2 => by omega)
  unfold su
  generalize (suGo lt ps k).1 = qs at *
  generalize (suGo lt ps k).2 = pos at *
  have := sd_ok O (new := new) pos (qs.set pos new) (by rw [List.length_set]; omega) b3 ?_ ?_ ?_
  · rw [List.set_set] at this
    exact ⟨this.1, this.2.trans (b7 new)⟩
  · intro i x y h1 h2 h3 h4 hx hy
    rw [List.getElem?_set_ne (by omega)] at hx hy
    exact b1 i x y h1 h2 h3 h4 hx hy
  · intro h1 h2 i x y hi1 hi hx hy
    rw [List.getElem?_set_ne (by omega)] at hx hy
    exact b2 h1 h2 i x y hi1 hi hx hy
  · intro i x hi1 hi hx
    have := (List.getElem?_eq_some_iff.mp hx).1
    rw [List.length_set] at this
    omega
theorem heapG_ok (O : Ord lt) : ∀ (k : Nat) (ps : List α), k ≤ ps.length → HF lt k ps → HF lt 0 (heapG lt ps k) ∧ (heapG lt ps k).Perm ps
  | 0, ps, _, h => ⟨h, List.Perm.refl _⟩
  | k + 1, ps, hk, h => by
    obtain ⟨x, hx⟩ : ∃ x, ps[k]? = some x := ⟨_, List.getElem?_eq_getElem (by omega)⟩
    rw [heapG_succ hx]
    obtain ⟨a1, a2⟩ := su_ok O (new := x) (by omega : k < ps.length) h
    have e : ps.set k x = ps := by
      obtain ⟨h1, h2⟩ := List.getElem?_eq_some_iff.mp hx
      rw [← h2, List.set_getElem_self]
    rw [e] at a2
    obtain ⟨b1, b2⟩ := heapG_ok O k (su lt x ps k) (by rw [su_length]; omega) a1
    exact ⟨b1, b2.trans a2⟩
theorem heapify_ok (O : Ord lt) (ps : List α) : HF lt 0 (heapG lt ps (ps.length / 2)) ∧ (heapG lt ps (ps.length / 2)).Perm ps :=
  heapG_ok O _ ps (by omega) fun i x y h1 h2 hx hy => by
    have := (List.getElem?_eq_some_iff.mp hx).1
    omega
/-- the head of a heap is least -/
theorem heap_min (O : Ord lt) {p : α} {r : List α} (h : HF lt 0 (p :: r)) : ∀ (i : Nat) (x : α), (p :: r)[i]? = some x → lt x p = false := by
  intro i
  induction i using Nat.strongRecOn with
  | ind i ih =>
    intro x hx
    by_cases h0 : i = 0
    · subst h0; simp at hx; subst hx
      cases e : lt p p with
      | false => rfl
      | true => have := O.asym _ _ e; rw [e] at this; cases this
    · have hl := (List.getElem?_eq_some_iff.mp hx).1
      have hy : (p :: r)[(i - 1) / 2]? = some (p :: r)[(i - 1) / 2] := List.getElem?_eq_getElem (by omega)
      exact O.ntr _ _ _ (ih _ (by omega) _ hy) (h i x _ (by omega) (by omega) hx hy)
theorem hpop_ok (O : Ord lt) {ps : List α} {last : α} (h : HF lt 0 (ps ++ [last])) : HF lt 0 (hpop lt ps last).2 ∧ ((hpop lt ps last).1 :: (hpop lt ps last).2).Perm (ps ++ [last]) ∧ ∀ x ∈ ps ++ [last], lt x (hpop lt ps last).1 = false := by
  cases ps with
  | nil =>
    refine ⟨fun i x y _ _ hx => by simp [hpop] at hx, List.Perm.refl _, fun x hx => ?_⟩
    simp at hx; subst hx
    show lt x x = false
    cases e : lt x x with
    | false => rfl
    | true => have := O.asym _ _ e; rw [e] at this; cases this
  | cons p r =>
    unfold hpop
    have hF : HF lt 1 (last :: r) := by
      intro i x y h1 h2 hx hy
      have hl := (List.getElem?_eq_some_iff.mp hx).1
      have g : ∀ (j : Nat) (z : α), 1 ≤ j → (last :: r)[j]? = some z → ((p :: r) ++ [last])[j]? = some z := fun j z hj hz => by
        cases j with
        | zero => omega
        | succ j =>
          rw [List.getElem?_cons_succ] at hz
          rw [List.cons_append, List.getElem?_cons_succ, List.getElem?_append_left (List.getElem?_eq_some_iff.mp hz).1]
          exact hz
      exact h i x y h1 (by omega) (g _ _ h1 hx) (g _ _ h2 hy)
    obtain ⟨a1, a2⟩ := su_ok O (new := last) (k := 0) (by simp) hF
    refine ⟨a1, ?_, fun x hx => ?_⟩
    · refine (a2.cons p).trans ?_
      rw [List.set_cons_zero, List.cons_append]
      exact (List.perm_append_singleton last r).symm.cons p
    · obtain ⟨i, hi⟩ := List.mem_iff_getElem?.mp hx
      exact heap_min O h i x hi
end
end Mine
end
section
open PySem PySem.W PyProof.Rows PySem.Calls
set_option Elab.async false
set_option maxRecDepth 100000
namespace Mine

/-- the net over a list of edges -/
def kfold : List VE → (Int → Int) → List VE → List VE
  | [], _, kept => kept
  | e :: r, f, kept => if f e.2.2.1 = f (e.2.2.1 + e.2.2.2) then kfold r f kept else kfold r (relab f (f e.2.2.1) (f (e.2.2.1 + e.2.2.2))) (kept ++ [e])
def pops (lt : VE → VE → Bool) : Nat → List VE → List VE
  | 0, _ => []
  | n + 1, hp => match hp.getLast? with
    | none => []
    | some last => (hpop lt hp.dropLast last).1 :: pops lt n (hpop lt hp.dropLast last).2
theorem krun_kfold {lt : VE → VE → Bool} : ∀ (n : Nat) (hp : List VE) (f : Int → Int) (kept : List VE), krun lt n hp f kept = kfold (pops lt n hp) f kept
  | 0, _, _, _ => rfl
  | n + 1, hp, f, kept => by
    rw [krun, pops]
    cases hp.getLast? with
    | none => rfl
    | some last =>
      show (if _ then _ else _) = kfold (_ :: _) f kept
      rw [kfold]
      split
      · exact krun_kfold n _ _ _
      · exact krun_kfold n _ _ _
theorem pops_ok {lt : VE → VE → Bool} (O : Ord lt) : ∀ (n : Nat) (hp : List VE), hp.length = n → HF lt 0 hp → (pops lt n hp).Perm hp ∧ (pops lt n hp).Pairwise (fun x y => lt y x = false)
  | 0, hp, hl, _ => by
    have : hp = [] := List.eq_nil_of_length_eq_zero hl
    subst this; exact ⟨List.Perm.refl _, List.Pairwise.nil⟩
  | n + 1, hp, hl, hF => by
    rcases List.eq_nil_or_concat hp with rfl | ⟨ps, last, rfl⟩
    · simp at hl
    · rw [List.concat_eq_append] at *
      rw [pops]
      simp only [List.getLast?_append, List.getLast?_singleton, Option.some_or, List.dropLast_concat]
      obtain ⟨a1, a2, a3⟩ := hpop_ok O hF
      have hl2 : (hpop lt ps last).2.length = n := by rw [hpop_length]; simpa using hl
      obtain ⟨b1, b2⟩ := pops_ok O n _ hl2 a1
      refine ⟨(b1.cons _).trans a2, List.pairwise_cons.mpr ⟨fun y hy => ?_, b2⟩⟩
      exact a3 y (hpop_mem.2 y (b1.mem_iff.mp hy))

/-- the net keeps the edges that K names -/
theorem kfold_ok (K : VE → Bool) : ∀ (rest pre : List VE) (f : Int → Int) (kept : List VE),
    (∀ p1 e p2, pre ++ rest = p1 ++ e :: p2 → pre.length ≤ p1.length → K e = true → ∃ S : Int → Prop, S e.2.2.1 ∧ ¬ S (e.2.2.1 + e.2.2.2) ∧ ∀ e' ∈ p1, (S e'.2.2.1 ↔ S (e'.2.2.1 + e'.2.2.2))) →
    (∀ p1 e p2, pre ++ rest = p1 ++ e :: p2 → pre.length ≤ p1.length → K e = false → ∀ g : Int → Int, (∀ e' ∈ p1, g e'.2.2.1 = g (e'.2.2.1 + e'.2.2.2)) → g e.2.2.1 = g (e.2.2.1 + e.2.2.2)) →
    (∀ u v, f u = f v → ∀ S : Int → Prop, (∀ e' ∈ pre, (S e'.2.2.1 ↔ S (e'.2.2.1 + e'.2.2.2))) → (S u ↔ S v)) →
    (∀ e ∈ pre, f e.2.2.1 = f (e.2.2.1 + e.2.2.2)) →
    kfold rest f kept = kept ++ rest.filter K
  | [], pre, f, kept, _, _, _, _ => by simp [kfold]
  | e :: rest, pre, f, kept, hT, hF, hs, hc => by
    have ea : pre ++ e :: rest = (pre ++ [e]) ++ rest := by simp
    have hT' : ∀ p1 e₁ p2, (pre ++ [e]) ++ rest = p1 ++ e₁ :: p2 → (pre ++ [e]).length ≤ p1.length → K e₁ = true → ∃ S : Int → Prop, S e₁.2.2.1 ∧ ¬ S (e₁.2.2.1 + e₁.2.2.2) ∧ ∀ e' ∈ p1, (S e'.2.2.1 ↔ S (e'.2.2.1 + e'.2.2.2)) :=
      fun p1 e₁ p2 q hl => hT p1 e₁ p2 (ea.trans q) (by rw [List.length_append] at hl; omega)
    have hF' : ∀ p1 e₁ p2, (pre ++ [e]) ++ rest = p1 ++ e₁ :: p2 → (pre ++ [e]).length ≤ p1.length → K e₁ = false → ∀ g : Int → Int, (∀ e' ∈ p1, g e'.2.2.1 = g (e'.2.2.1 + e'.2.2.2)) → g e₁.2.2.1 = g (e₁.2.2.1 + e₁.2.2.2) :=
      fun p1 e₁ p2 q hl => hF p1 e₁ p2 (ea.trans q) (by rw [List.length_append] at hl; omega)
    rw [kfold]
    by_cases hq : f e.2.2.1 = f (e.2.2.1 + e.2.2.2)
    · rw [if_pos hq]
      have hK : K e = false := by
        cases hk : K e with
        | false => rfl
        | true =>
          obtain ⟨S, h1, h2, h3⟩ := hT pre e rest rfl (Nat.le_refl _) hk
          exact absurd ((hs _ _ hq S h3).mp h1) h2
      rw [List.filter_cons_of_neg (by rw [hK]; decide)]
      refine kfold_ok K rest (pre ++ [e]) f kept hT' hF' (fun u v huv S hS => hs u v huv S fun e' he' => hS e' (List.mem_append_left _ he')) fun e' he' => ?_
      rcases List.mem_append.mp he' with r | r
      · exact hc e' r
      · rw [List.mem_singleton.mp r]; exact hq
    · rw [if_neg hq]
      have hK : K e = true := by
        cases hk : K e with
        | true => rfl
        | false => exact absurd (hF pre e rest rfl (Nat.le_refl _) hk f hc) hq
      rw [List.filter_cons_of_pos hK]
      rw [kfold_ok K rest (pre ++ [e]) (relab f (f e.2.2.1) (f (e.2.2.1 + e.2.2.2))) (kept ++ [e]) hT' hF' ?_ ?_]
      · simp
      · intro u v huv S hS
        have hS' : ∀ e' ∈ pre, (S e'.2.2.1 ↔ S (e'.2.2.1 + e'.2.2.2)) := fun e' he' => hS e' (List.mem_append_left _ he')
        have he := hS e (List.mem_append_right _ (List.mem_singleton.mpr rfl))
        unfold relab at huv
        by_cases hu : f u = f (e.2.2.1 + e.2.2.2)
        · rw [if_pos hu] at huv
          by_cases hv : f v = f (e.2.2.1 + e.2.2.2)
          · exact hs u v (hu.trans hv.symm) S hS'
          · rw [if_neg hv] at huv
            exact (hs _ _ hu S hS').trans (he.symm.trans (hs _ _ huv S hS'))
        · rw [if_neg hu] at huv
          by_cases hv : f v = f (e.2.2.1 + e.2.2.2)
          · rw [if_pos hv] at huv
            exact (hs _ _ huv S hS').trans (he.trans (hs _ _ hv.symm S hS'))
          · rw [if_neg hv] at huv
            exact hs _ _ huv S hS'
      · intro e' he'
        rcases List.mem_append.mp he' with r | r
        · unfold relab
          rw [hc e' r]
        · rw [List.mem_singleton.mp r]
          unfold relab
          rw [if_pos rfl]
          split <;> rfl

theorem lt3_iffE {a b : E3} : lt3 a b = true ↔ a.1 < b.1 ∨ (a.1 = b.1 ∧ (a.2.1 < b.2.1 ∨ (a.2.1 = b.2.1 ∧ a.2.2 < b.2.2))) := by
  unfold lt3; simp
theorem lt3_asymE {a b : E3} (h : lt3 a b = true) : lt3 b a = false := by
  rw [Bool.eq_false_iff]; intro q
  rw [lt3_iffE] at h q; omega
theorem lt3_ntrE {a b c : E3} (h1 : lt3 b a = false) (h2 : lt3 c b = false) : lt3 c a = false := by
  rw [Bool.eq_false_iff] at *
  intro q; apply h2
  have h1' : ¬ _ := fun r => h1 (lt3_iffE.mpr r)
  rw [lt3_iffE] at q ⊢; omega
theorem lt3_irrE (a : E3) : lt3 a a = false := by
  rw [Bool.eq_false_iff]; intro q
  rw [lt3_iffE] at q; omega
theorem lt3_totE {a b : E3} (h1 : lt3 b a = false) (h2 : a ≠ b) : lt3 a b = true := by
  have h1' : ¬ _ := fun r => (Bool.eq_false_iff.mp h1) (lt3_iffE.mpr r)
  rw [lt3_iffE]
  have : ¬ (a.1 = b.1 ∧ a.2.1 = b.2.1 ∧ a.2.2 = b.2.2) := fun q => h2 (Prod.ext q.1 (Prod.ext q.2.1 q.2.2))
  omega
theorem lt3_trE {a b c : E3} (h1 : lt3 a b = true) (h2 : lt3 b c = true) : lt3 a c = true := by
  rw [lt3_iffE] at *; omega
/-- the order of the edges, without the values -/
def ltE (hv : Bool) (a b : E3) : Bool := if hv then lt3 b a else lt3 a b
theorem ltH_E {hv : Bool} {p q : VE} : ltH hv p q = ltE hv p.2 q.2 := by cases hv <;> rfl
theorem ltE_asym {hv : Bool} {a b : E3} (h : ltE hv a b = true) : ltE hv b a = false := by cases hv <;> exact lt3_asymE h
theorem ltE_ntr {hv : Bool} {a b c : E3} (h1 : ltE hv b a = false) (h2 : ltE hv c b = false) : ltE hv c a = false := by
  cases hv
  · exact lt3_ntrE h1 h2
  · exact lt3_ntrE h2 h1
theorem ltE_irr {hv : Bool} (a : E3) : ltE hv a a = false := by cases hv <;> exact lt3_irrE a
theorem ltE_tot {hv : Bool} {a b : E3} (h1 : ltE hv b a = false) (h2 : a ≠ b) : ltE hv a b = true := by
  cases hv
  · exact lt3_totE h1 h2
  · exact lt3_totE h1 h2.symm
theorem ltH_ord (hv : Bool) : Ord (ltH hv) :=
  ⟨fun x y h => by rw [ltH_E] at *; exact ltE_asym h, fun x y z h1 h2 => by rw [ltH_E] at *; exact ltE_ntr h1 h2⟩

/-- two lists in strict order with the same elements are one -/
theorem strict_eq {hv : Bool} : ∀ {l1 l2 : List E3}, l1.Perm l2 → l1.Pairwise (fun x y => ltE hv x y = true) → l2.Pairwise (fun x y => ltE hv x y = true) → l1 = l2
  | [], l2, h, _, _ => (List.nil_perm.mp h).symm
  | a :: l1, [], h, _, _ => (List.perm_nil.mp h)
  | a :: l1, b :: l2, h, h1, h2 => by
    rw [List.pairwise_cons] at h1 h2
    have hab : a = b := by
      have m1 : a ∈ b :: l2 := h.mem_iff.mp List.mem_cons_self
      have m2 : b ∈ a :: l1 := h.mem_iff.mpr List.mem_cons_self
      rcases List.mem_cons.mp m1 with e | q1
      · exact e
      · rcases List.mem_cons.mp m2 with e | q2
        · exact e.symm
        · have r1 := h2.1 a q1
          have r2 := h1.1 b q2
          rw [ltE_asym r1] at r2; cases r2
    subst hab
    rw [strict_eq (h.cons_inv) h1.2 h2.2]

/-- the plain law from the net's two halves -/
theorem net_plain {hv : Bool} {edges told : List E3} (hnd : edges.Nodup) (hsub : told.Sublist edges)
    (hT : ∀ e ∈ told, ∃ S : Int → Prop, S e.2.1 ∧ ¬ S (e.2.1 + e.2.2) ∧ ∀ e' ∈ edges, ltE hv e' e = true → (S e'.2.1 ↔ S (e'.2.1 + e'.2.2)))
    (hF : ∀ e ∈ edges, e ∉ told → ∀ g : Int → Int, (∀ e' ∈ edges, ltE hv e' e = true → g e'.2.1 = g (e'.2.1 + e'.2.2)) → g e.2.1 = g (e.2.1 + e.2.2))
    (es os : List VE) (he : es.map (·.2) = edges) (ho : (os.map (·.2)).Perm told) (hos : os.Pairwise (fun x y => ltH hv x y = true)) :
    (krun (ltH hv) es.length (heapG (ltH hv) es (es.length / 2)) (fun x => x) []).map (·.2) = os.map (·.2) := by
  obtain ⟨a1, a2⟩ := heapify_ok (ltH_ord hv) es
  obtain ⟨b1, b2⟩ := pops_ok (ltH_ord hv) es.length _ (heapG_length _ _) a1
  rw [krun_kfold]
  generalize pops (ltH hv) es.length (heapG (ltH hv) es (es.length / 2)) = L at *
  have hp : L.Perm es := b1.trans a2
  have hpe : (L.map (·.2)).Perm edges := by rw [← he]; exact hp.map _
  have hLn : (L.map (·.2)).Nodup := hpe.nodup_iff.mpr hnd
  have hst : L.Pairwise (fun x y => ltE hv x.2 y.2 = true) := by
    have hne : L.Pairwise (fun x y => x.2 ≠ y.2) := List.pairwise_map.mp hLn
    refine (b2.and hne).imp fun q => ltE_tot ?_ q.2
    rw [← ltH_E]; exact q.1
  have hmem : ∀ e ∈ L, e.2 ∈ edges := fun e h => hpe.mem_iff.mp (List.mem_map_of_mem h)
  rw [kfold_ok (fun e => decide (e.2 ∈ told)) L [] (fun x => x) [] ?_ ?_ ?_ ?_]
  · rw [List.nil_append]
    have hmf : (L.filter (fun e => decide (e.2 ∈ told))).map (·.2) = (L.map (·.2)).filter (fun e => decide (e ∈ told)) := by
      rw [List.filter_map]; rfl
    refine strict_eq (hv := hv) ?_ ?_ ?_
    · rw [hmf]
      refine List.Perm.trans ?_ ho.symm
      have hst : (edges.filter fun e => decide (e ∈ told)).Perm told := by
        rw [List.perm_ext_iff_of_nodup (hnd.filter _) (hnd.sublist hsub)]
        intro e
        rw [List.mem_filter]
        exact ⟨fun q => by simpa using q.2, fun q => ⟨hsub.subset q, by simpa using q⟩⟩
      exact (hpe.filter _).trans hst
    · exact List.pairwise_map.mpr (hst.filter _)
    · refine List.pairwise_map.mpr (hos.imp fun q => ?_)
      rw [← ltH_E]; exact q
  · intro p1 e p2 q _ hk
    have hk : e.2 ∈ told := by simpa using hk
    obtain ⟨S, h1, h2, h3⟩ := hT e.2 hk
    rw [List.nil_append] at q
    refine ⟨S, h1, h2, fun e' he' => h3 e'.2 (hmem e' (by rw [q]; exact List.mem_append_left _ he')) ?_⟩
    rw [q, List.pairwise_append] at hst
    exact hst.2.2 e' he' e List.mem_cons_self
  · intro p1 e p2 q _ hk g hg
    have hk : e.2 ∉ told := by simpa using hk
    rw [List.nil_append] at q
    refine hF e.2 (hmem e (by rw [q]; simp)) hk g fun e' he' hlt => ?_
    have : e' ∈ L.map (·.2) := hpe.mem_iff.mpr he'
    obtain ⟨x, hx, rfl⟩ := List.mem_map.mp this
    rw [q] at hx
    rcases List.mem_append.mp hx with r | r
    · exact hg x r
    · rcases List.mem_cons.mp r with rfl | r
      · rw [ltE_irr] at hlt; cases hlt
      · rw [q, List.pairwise_append] at hst
        have := (List.pairwise_cons.mp hst.2.1).1 x r
        rw [ltE_asym this] at hlt; cases hlt
  · intro u v huv S _
    have : u = v := huv
    rw [this]
  · intro e he; cases he
end Mine
end
section
open PySem PySem.W PyProof.Rows PySem.Calls
set_option Elab.async false
set_option maxRecDepth 100000
namespace Mine

theorem bt_tb (m o : Nat) : bt m o = (m.testBit o).toNat := by
  rw [Nat.testBit_eq_decide_div_mod_eq]
  have := bt_lt m o
  unfold bt at *
  by_cases h : m / 2 ^ o % 2 = 1
  · rw [h]; rfl
  · have : m / 2 ^ o % 2 = 0 := by omega
    rw [this]; rfl
theorem bt_inj {m n o : Nat} : bt m o = bt n o ↔ m.testBit o = n.testBit o := by
  rw [bt_tb, bt_tb]
  cases m.testBit o <;> cases n.testBit o <;> decide
theorem bt_ext {m n : Nat} (h : ∀ o, bt m o = bt n o) : m = n := Nat.eq_of_testBit_eq fun o => bt_inj.mp (h o)
theorem bt_le {m n : Nat} (h : ∀ o, bt m o ≤ bt n o) : m ≤ n := by
  have : m &&& n = m := by
    apply Nat.eq_of_testBit_eq
    intro i
    have := h i
    rw [bt_tb, bt_tb] at this
    rw [Nat.testBit_and]
    cases hm : m.testBit i <;> cases hn : n.testBit i <;> simp_all
  rw [← this]
  exact Nat.and_le_right
theorem bt_add {m p : Nat} (h : bt m p = 0) (o : Nat) : bt (m + 2 ^ p) o = if o = p then 1 else bt m o := by
  have hp : 0 < 2 ^ p := Nat.pow_pos (by decide)
  have hm : m = 2 ^ (p + 1) * (m / 2 ^ (p + 1)) + m % 2 ^ p := by
    have h1 := Nat.div_add_mod m (2 ^ (p + 1))
    have h2 : m % 2 ^ (p + 1) = m % 2 ^ p + 2 ^ p * (m / 2 ^ p % 2) := Nat.mod_pow_succ
    unfold bt at h
    rw [h] at h2
    omega
  have hlt : m % 2 ^ p < 2 ^ p := Nat.mod_lt _ hp
  generalize m / 2 ^ (p + 1) = a at hm
  generalize m % 2 ^ p = r at hm hlt
  have hs : 2 ^ (p + 1) = 2 * 2 ^ p := by rw [Nat.pow_succ, Nat.mul_comm]
  by_cases ho : o = p
  · rw [if_pos ho, ho]
    unfold bt
    have : m + 2 ^ p = 2 ^ p * (2 * a + 1) + r := by rw [hm, hs, Nat.mul_add, Nat.mul_one, ← Nat.mul_assoc, Nat.mul_comm (2 ^ p) 2]; omega
    rw [this, Nat.mul_add_div hp, Nat.div_eq_of_lt hlt]
    omega
  · rw [if_neg ho, bt_inj]
    have e : m + 2 ^ p = 2 ^ (p + 1) * a + (2 ^ p + r) := by omega
    rw [e, hm, Nat.testBit_two_pow_mul_add _ (by omega), Nat.testBit_two_pow_mul_add _ (by omega)]
    by_cases hlo : o < p + 1
    · rw [if_pos hlo, if_pos hlo, Nat.testBit_two_pow_add_gt (by omega)]
    · rw [if_neg hlo, if_neg hlo]
theorem bt_sub {m p : Nat} (h : bt m p = 1) : ∃ n, m = n + 2 ^ p ∧ bt n p = 0 ∧ ∀ o, bt n o = if o = p then 0 else bt m o := by
  have hp : 0 < 2 ^ p := Nat.pow_pos (by decide)
  have h1 := Nat.div_add_mod m (2 ^ p)
  have hlt : m % 2 ^ p < 2 ^ p := Nat.mod_lt _ hp
  have hge : 1 ≤ m / 2 ^ p := by unfold bt at h; generalize m / 2 ^ p = q at h ⊢; omega
  have hmul : 2 ^ p * 1 ≤ 2 ^ p * (m / 2 ^ p) := Nat.mul_le_mul_left _ hge
  have hm : m = (m - 2 ^ p) + 2 ^ p := by omega
  have h0 : bt (m - 2 ^ p) p = 0 := by
    unfold bt at *
    have : m / 2 ^ p = (m - 2 ^ p) / 2 ^ p + 1 := by
      conv => lhs; rw [hm]
      rw [Nat.add_div_right _ hp]
    omega
  refine ⟨m - 2 ^ p, hm, h0, fun o => ?_⟩
  have := bt_add h0 o
  rw [← hm] at this
  by_cases ho : o = p
  · rw [if_pos ho, ho]; exact h0
  · rw [if_neg ho] at this ⊢; exact this.symm

/-- the modes: one base with each choice of the bits -/
theorem modes_mem : ∀ (P M : List Nat), P.Nodup → (∀ n ∈ M, ∀ p ∈ P, bt n p = 0) → ∀ n, n ∈ modesOf P M ↔ ∃ n0 ∈ M, ∀ o, o ∉ P → bt n o = bt n0 o
  | [], M, _, _, n => by
    refine ⟨fun h => ⟨n, h, fun _ _ => rfl⟩, fun ⟨n0, h, e⟩ => ?_⟩
    have : n = n0 := bt_ext fun o => e o (by simp)
    rw [this]; exact h
  | p :: P, M, hnd, hz, n => by
    rw [List.nodup_cons] at hnd
    have hz' : ∀ n ∈ M ++ M.map (· + 2 ^ p), ∀ q ∈ P, bt n q = 0 := by
      intro n hn q hq
      rcases List.mem_append.mp hn with r | r
      · exact hz n r q (List.mem_cons_of_mem _ hq)
      · obtain ⟨n0, hn0, rfl⟩ := List.mem_map.mp r
        rw [bt_add (hz n0 hn0 p List.mem_cons_self), if_neg (by rintro rfl; exact hnd.1 hq)]
        exact hz n0 hn0 q (List.mem_cons_of_mem _ hq)
    have := modes_mem P (M ++ M.map (· + 2 ^ p)) hnd.2 hz' n
    show n ∈ modesOf P (M ++ M.map (· + 2 ^ p)) ↔ _
    rw [this]
    constructor
    · rintro ⟨n1, h1, e⟩
      rcases List.mem_append.mp h1 with r | r
      · exact ⟨n1, r, fun o ho => e o (fun q => ho (List.mem_cons_of_mem _ q))⟩
      · obtain ⟨n0, hn0, rfl⟩ := List.mem_map.mp r
        refine ⟨n0, hn0, fun o ho => ?_⟩
        rw [e o (fun q => ho (List.mem_cons_of_mem _ q)), bt_add (hz n0 hn0 p List.mem_cons_self), if_neg (by rintro rfl; exact ho List.mem_cons_self)]
    · rintro ⟨n0, hn0, e⟩
      have hp0 := hz n0 hn0 p List.mem_cons_self
      have hl := bt_lt n p
      by_cases hb : bt n p = 0
      · refine ⟨n0, List.mem_append_left _ hn0, fun o ho => ?_⟩
        by_cases hop : o = p
        · rw [hop, hb, hp0]
        · exact e o (fun q => (List.mem_cons.mp q).elim hop ho)
      · refine ⟨n0 + 2 ^ p, List.mem_append_right _ (List.mem_map_of_mem hn0), fun o ho => ?_⟩
        rw [bt_add hp0]
        by_cases hop : o = p
        · rw [if_pos hop, hop]; omega
        · rw [if_neg hop]; exact e o (fun q => (List.mem_cons.mp q).elim hop ho)
theorem modes_nodup : ∀ (P M : List Nat), P.Nodup → M.Nodup → (∀ n ∈ M, ∀ p ∈ P, bt n p = 0) → (modesOf P M).Nodup
  | [], M, _, h, _ => h
  | p :: P, M, hnd, h, hz => by
    rw [List.nodup_cons] at hnd
    have hz' : ∀ n ∈ M ++ M.map (· + 2 ^ p), ∀ q ∈ P, bt n q = 0 := by
      intro n hn q hq
      rcases List.mem_append.mp hn with r | r
      · exact hz n r q (List.mem_cons_of_mem _ hq)
      · obtain ⟨n0, hn0, rfl⟩ := List.mem_map.mp r
        rw [bt_add (hz n0 hn0 p List.mem_cons_self), if_neg (by rintro rfl; exact hnd.1 hq)]
        exact hz n0 hn0 q (List.mem_cons_of_mem _ hq)
    refine modes_nodup P (M ++ M.map (· + 2 ^ p)) hnd.2 ?_ hz'
    rw [List.nodup_append]
    refine ⟨h, List.Pairwise.map _ (fun a b hab q => hab (by simpa using q)) h, fun a ha b hb e => ?_⟩
    obtain ⟨n0, hn0, rfl⟩ := List.mem_map.mp hb
    have h1 := hz a ha p List.mem_cons_self
    have h2 := bt_add (hz n0 hn0 p List.mem_cons_self) p
    rw [if_pos rfl, ← e, h1] at h2
    omega
theorem base_step (b p : Nat) : bt (b - b / 2 ^ p % 2 * 2 ^ p) p = 0 ∧ ∀ o, bt b o = 0 → bt (b - b / 2 ^ p % 2 * 2 ^ p) o = 0 := by
  have hl := bt_lt b p
  by_cases hb : bt b p = 0
  · have e : b / 2 ^ p % 2 = 0 := hb
    rw [e, Nat.zero_mul, Nat.sub_zero]
    exact ⟨hb, fun _ h => h⟩
  · have e : b / 2 ^ p % 2 = 1 := by unfold bt at hb hl; omega
    obtain ⟨n, h1, h2, h3⟩ := bt_sub (m := b) (p := p) e
    rw [e, Nat.one_mul]
    have : b - 2 ^ p = n := by omega
    rw [this]
    refine ⟨h2, fun o ho => ?_⟩
    rw [h3 o]
    split
    · rfl
    · exact ho
theorem base_zero : ∀ (P : List Nat) (b : Nat), (∀ p ∈ P, bt (baseOf P b) p = 0) ∧ ∀ o, bt b o = 0 → bt (baseOf P b) o = 0
  | [], b => ⟨fun _ h => (List.not_mem_nil h).elim, fun _ h => h⟩
  | p :: P, b => by
    have h1 := base_step b p
    have h2 := base_zero P (b - b / 2 ^ p % 2 * 2 ^ p)
    show (∀ q ∈ p :: P, bt (baseOf P (b - b / 2 ^ p % 2 * 2 ^ p)) q = 0) ∧ ∀ o, bt b o = 0 → bt (baseOf P (b - b / 2 ^ p % 2 * 2 ^ p)) o = 0
    refine ⟨fun q hq => ?_, fun o ho => h2.2 o (h1.2 o ho)⟩
    rcases List.mem_cons.mp hq with rfl | r
    · exact h2.2 _ h1.1
    · exact h2.1 q r

/-- a set of modes, closed under the choice of the bits in P -/
structure Cube (P M : List Nat) : Prop where
  nd : M.Nodup
  up : ∀ m ∈ M, ∀ n, (∀ o, o ∉ P → bt n o = bt m o) → n ∈ M
  same : ∀ m ∈ M, ∀ n ∈ M, ∀ o, o ∉ P → bt m o = bt n o
theorem cube_modes {P : List Nat} (hP : P.Nodup) (b0 : Nat) : Cube P (modesOf P [baseOf P b0]) := by
  have hz : ∀ n ∈ [baseOf P b0], ∀ p ∈ P, bt n p = 0 := fun n hn p hp => by
    rw [List.mem_singleton.mp hn]; exact (base_zero P b0).1 p hp
  have hm := modes_mem P [baseOf P b0] hP hz
  refine ⟨modes_nodup P _ hP (by simp) hz, fun m h n hn => ?_, fun m h n h' o ho => ?_⟩
  · obtain ⟨n0, h0, e⟩ := (hm m).mp h
    exact (hm n).mpr ⟨n0, h0, fun o ho => (hn o ho).trans (e o ho)⟩
  · obtain ⟨n0, h0, e⟩ := (hm m).mp h
    obtain ⟨n1, h1, e'⟩ := (hm n).mp h'
    rw [List.mem_singleton.mp h0] at e
    rw [List.mem_singleton.mp h1] at e'
    rw [e o ho, e' o ho]
theorem Cube.add {P M : List Nat} (C : Cube P M) {m p : Nat} (hm : m ∈ M) (hp : p ∈ P) (hb : bt m p = 0) : m + 2 ^ p ∈ M :=
  C.up m hm _ fun o ho => by rw [bt_add hb, if_neg (by rintro rfl; exact ho hp)]
theorem Cube.sub {P M : List Nat} (C : Cube P M) {m p : Nat} (hm : m ∈ M) (hp : p ∈ P) (hb : bt m p = 1) : ∃ n ∈ M, m = n + 2 ^ p ∧ bt n p = 0 ∧ ∀ o, bt n o = if o = p then 0 else bt m o := by
  obtain ⟨n, h1, h2, h3⟩ := bt_sub hb
  exact ⟨n, C.up m hm _ fun o ho => by rw [h3, if_neg (by rintro rfl; exact ho hp)], h1, h2, h3⟩
end Mine
end
section
open PySem PySem.W PyProof.Rows PySem.Calls
set_option Elab.async false
set_option maxRecDepth 100000
namespace Mine

def figF (q ab u s : Nat) : Nat := if q % 3 = 0 then (if u = 1 then 43 else ab) else if q % 3 = 1 then (if u = 0 then ab else 48) else [ab, 49, 18 + q / 8, 44 + q / 8].getD (u + 2 * s) 0
theorem fig_bt {m q ab : Nat} (hq : q < 9) : fig m q ab = figF q ab (bt m (8 - q)) (bt m (11 - q / 3)) := by
  have h0 : ∀ k, (q = k) → fig m k ab = figF k ab (bt m (8 - k)) (bt m (11 - k / 3)) → fig m q ab = figF q ab (bt m (8 - q)) (bt m (11 - q / 3)) := fun k e h => e ▸ h
  have c3 : ∀ a b : Nat, (a > 3 ↔ b = 1) → (if a > 3 then 43 else ab) = (if b = 1 then 43 else ab) := fun a b h => by
    by_cases q : b = 1
    · rw [if_pos q, if_pos (h.mpr q)]
    · rw [if_neg q, if_neg (fun r => q (h.mp r))]
  have c2 : ∀ a b : Nat, a = b → (if a = 0 then ab else 48) = (if b = 0 then ab else 48) := fun a b h => by rw [h]
  have c1 : ∀ (a b s : Nat) (l : List Nat), a = b → l.getD (a + 2 * s) 0 = l.getD (b + 2 * s) 0 := fun a b s l h => by rw [h]
  have : q = 0 ∨ q = 1 ∨ q = 2 ∨ q = 3 ∨ q = 4 ∨ q = 5 ∨ q = 6 ∨ q = 7 ∨ q = 8 := by omega
  rcases this with e | e | e | e | e | e | e | e | e
  · refine h0 0 e (c3 (m / 64 % 8) (m / 256 % 2) (by omega))
  · refine h0 1 e (c2 (m / 64 % 8 / 2 % 2) (m / 128 % 2) (by omega))
  · refine h0 2 e (c1 (m / 64 % 8 % 2) (m / 64 % 2) (m / 2048 % 2) _ (by omega))
  · refine h0 3 e (c3 (m / 8 % 8) (m / 32 % 2) (by omega))
  · refine h0 4 e (c2 (m / 8 % 8 / 2 % 2) (m / 16 % 2) (by omega))
  · refine h0 5 e (c1 (m / 8 % 8 % 2) (m / 8 % 2) (m / 1024 % 2) _ (by omega))
  · refine h0 6 e (c3 (m / 1 % 8) (m / 4 % 2) (by omega))
  · refine h0 7 e (c2 (m / 1 % 8 / 2 % 2) (m / 2 % 2) (by omega))
  · refine h0 8 e (c1 (m / 1 % 8 % 2) (m / 1 % 2) (m / 512 % 2) _ (by omega))

/-- the other bit of the same sign -/
def par (p : Nat) : Nat := if p < 9 then 11 - plc p / 3 else 8 - plc p
def Dw (p s ab : Nat) : Nat := if p < 9 then ((figF (plc p) ab 0 s : Int) - (figF (plc p) ab 1 s : Int)).natAbs else ((figF (plc p) ab s 0 : Int) - (figF (plc p) ab s 1 : Int)).natAbs
theorem plc_lo {p : Nat} (h : p < 9) : 8 - plc p = p := by unfold plc; rw [if_pos h]; omega
theorem plc_hi {p : Nat} (h : ¬ p < 9) (h2 : p < 12) : 11 - plc p / 3 = p := by unfold plc; rw [if_neg h]; omega
theorem par_ne {p : Nat} (h : p < 12) : par p ≠ p := by
  have := plc_le h
  unfold par
  split
  · omega
  · rename_i h9
    have : 8 - plc p ≤ 8 := by omega
    omega
theorem D_eq {m p ab : Nat} (hp : p < 12) (hb : bt m p = 0) : ((fig m (plc p) ab : Int) - (fig (m + 2 ^ p) (plc p) ab : Int)).natAbs = Dw p (bt m (par p)) ab := by
  have h8 := plc_le hp
  have hn := par_ne hp
  rw [fig_bt (by omega), fig_bt (by omega)]
  by_cases h : p < 9
  · have e1 := plc_lo h
    have e2 : 11 - plc p / 3 = par p := by unfold par; rw [if_pos h]
    rw [e1, e2, bt_add hb, bt_add hb, if_pos rfl, if_neg hn, hb]
    unfold Dw; rw [if_pos h]
  · have e1 := plc_hi h hp
    have e2 : 8 - plc p = par p := by unfold par; rw [if_neg h]
    rw [e1, e2, bt_add hb, bt_add hb, if_pos rfl, if_neg hn, hb]
    unfold Dw; rw [if_neg h]

/-- the facts of the weights, each over a few numbers -/
theorem W_right {p p' s s' o : Nat} (hp : p < 12) (hp' : p' < 12) (hs : s < 2) (hs' : s' < 2) (ho : o < 2) (h : plc p < plc p') :
    Dw p' s' (62 + o) * 64 ^ (10 - plc p') < Dw p s (62 + o) * 64 ^ (10 - plc p) := by
  have H : ∀ (p p' : Fin 12) (s s' o : Fin 2), plc p.val < plc p'.val → Dw p'.val s'.val (62 + o.val) * 64 ^ (10 - plc p'.val) < Dw p.val s.val (62 + o.val) * 64 ^ (10 - plc p.val) := by decide +kernel
  exact H ⟨p, hp⟩ ⟨p', hp'⟩ ⟨s, hs⟩ ⟨s', hs'⟩ ⟨o, ho⟩ h
theorem W_free {p s s' o : Nat} (hp : p < 12) (hs : s < 2) (hs' : s' < 2) (ho : o < 2) (h : plc (par p) ≠ plc p) : Dw p s (62 + o) = Dw p s' (62 + o) := by
  have H : ∀ (p : Fin 12) (s s' o : Fin 2), plc (par p.val) ≠ plc p.val → Dw p.val s.val (62 + o.val) = Dw p.val s'.val (62 + o.val) := by decide +kernel
  exact H ⟨p, hp⟩ ⟨s, hs⟩ ⟨s', hs'⟩ ⟨o, ho⟩ h
theorem W_sp {p o : Nat} (h9 : 9 ≤ p) (hp : p < 12) (ho : o < 2) : par p < 9 ∧ plc (par p) = plc p ∧ par (par p) = p ∧
    Dw p 1 (62 + o) < Dw (par p) 0 (62 + o) ∧ Dw (par p) 0 (62 + o) < Dw (par p) 1 (62 + o) ∧ Dw (par p) 1 (62 + o) < Dw p 0 (62 + o) := by
  have H : ∀ (p : Fin 12) (o : Fin 2), 9 ≤ p.val → par p.val < 9 ∧ plc (par p.val) = plc p.val ∧ par (par p.val) = p.val ∧
    Dw p.val 1 (62 + o.val) < Dw (par p.val) 0 (62 + o.val) ∧ Dw (par p.val) 0 (62 + o.val) < Dw (par p.val) 1 (62 + o.val) ∧ Dw (par p.val) 1 (62 + o.val) < Dw p.val 0 (62 + o.val) := by decide +kernel
  exact H ⟨p, hp⟩ ⟨o, ho⟩ h9
theorem plc_same {p p' : Nat} (hp : p < 12) (hp' : p' < 12) (h : plc p' = plc p) : p' = p ∨ (9 ≤ p ∧ p' = par p) ∨ (9 ≤ p' ∧ p = par p') := by
  have H : ∀ (p p' : Fin 12), plc p'.val = plc p.val → p'.val = p.val ∨ (9 ≤ p.val ∧ p'.val = par p.val) ∨ (9 ≤ p'.val ∧ p.val = par p'.val) := by decide +kernel
  exact H ⟨p, hp⟩ ⟨p', hp'⟩ h

def Wn (o m p : Nat) : Nat := Dw p (bt m (par p)) (62 + o) * 64 ^ (10 - plc p)
def eOf (o m p : Nat) : E3 := ((Wn o m p : Nat), (m : Nat), ((2 ^ p : Nat) : Int))
theorem eOf_told {o m p : Nat} (hp : p < 12) (hb : bt m p = 0) : ((((fig m (plc p) (62 + o) : Int) - (fig (m + 2 ^ p) (plc p) (62 + o) : Int)).natAbs * (64 : Int) ^ (10 - plc p), (m : Int), ((2 ^ p : Nat) : Int)) : E3) = eOf o m p := by
  unfold eOf Wn
  rw [D_eq hp hb]
  simp
theorem lt_eOf {o m p m' p' : Nat} : lt3 (eOf o m p) (eOf o m' p') = true ↔ Wn o m p < Wn o m' p' ∨ (Wn o m p = Wn o m' p' ∧ (m < m' ∨ (m = m' ∧ 2 ^ p < 2 ^ p'))) := by
  rw [lt3_iffE]
  unfold eOf
  dsimp only
  omega
theorem kept_light {m p : Nat} {P : List Nat} (h : keptP m p P false = true) : (∀ o ∈ P, plc p < plc o → bt m o = 0) ∧ (9 ≤ p → par p ∈ P → bt m (par p) = 1) := by
  unfold keptP at h
  split at h
  · cases h
  · rename_i hn
    refine ⟨fun o ho hl => ?_, fun h9 hm => ?_⟩
    · have := bt_lt m o
      by_cases q : bt m o = 1
      · exact absurd (List.any_eq_true.mpr ⟨o, ho, by simp [badO, hl, q]⟩) hn
      · omega
    · have e : par p = 8 - plc p := by unfold par; rw [if_neg (by omega)]
      rw [e] at hm ⊢
      have := bt_lt m (8 - plc p)
      rw [if_neg (by simp [hm]; omega)] at h
      have h' : (bt m (8 - plc p) == 0) = false := by simpa using h
      have h' : bt m (8 - plc p) ≠ 0 := by simpa using h'
      omega
theorem kept_heavy {m p : Nat} {P : List Nat} (h : keptP m p P true = true) : (∀ o ∈ P, plc o < plc p → bt m o = 1) ∧ (9 ≤ p → par p ∈ P → bt m (par p) = 0) := by
  unfold keptP at h
  split at h
  · cases h
  · rename_i hn
    refine ⟨fun o ho hl => ?_, fun h9 hm => ?_⟩
    · have := bt_lt m o
      by_cases q : bt m o = 0
      · exact absurd (List.any_eq_true.mpr ⟨o, ho, by simp [badO, hl, q]⟩) hn
      · omega
    · have e : par p = 8 - plc p := by unfold par; rw [if_neg (by omega)]
      rw [e] at hm ⊢
      rw [if_neg (by simp [hm]; omega)] at h
      simpa using h
theorem left_light {m p : Nat} {P : List Nat} (h : keptP m p P false = false) : (∃ o ∈ P, plc p < plc o ∧ bt m o = 1) ∨ (9 ≤ p ∧ par p ∈ P ∧ bt m (par p) = 0) := by
  unfold keptP at h
  split at h
  · rename_i ha
    obtain ⟨o, ho, hb⟩ := List.any_eq_true.mp ha
    refine .inl ⟨o, ho, by simpa [badO] using hb⟩
  · split at h
    · cases h
    · rename_i hc
      simp at hc
      refine .inr ⟨hc.1, ?_⟩
      have e : par p = 8 - plc p := by unfold par; rw [if_neg (by omega)]
      rw [e]
      exact ⟨hc.2, by simpa using h⟩
theorem left_heavy {m p : Nat} {P : List Nat} (h : keptP m p P true = false) : (∃ o ∈ P, plc o < plc p ∧ bt m o = 0) ∨ (9 ≤ p ∧ par p ∈ P ∧ bt m (par p) = 1) := by
  unfold keptP at h
  split at h
  · rename_i ha
    obtain ⟨o, ho, hb⟩ := List.any_eq_true.mp ha
    refine .inl ⟨o, ho, by simpa [badO] using hb⟩
  · split at h
    · cases h
    · rename_i hc
      simp at hc
      refine .inr ⟨hc.1, ?_⟩
      have e : par p = 8 - plc p := by unfold par; rw [if_neg (by omega)]
      rw [e]
      have := bt_lt m (8 - plc p)
      refine ⟨hc.2, ?_⟩
      have h' : bt m (8 - plc p) ≠ 0 := by simpa using h
      omega
end Mine
end
section
open PySem PySem.W PyProof.Rows PySem.Calls
set_option Elab.async false
set_option maxRecDepth 100000
namespace Mine

section
variable {P M : List Nat} {o : Nat}
theorem W_same {m n p : Nat} (hp : p < 12) (ho : o < 2) (h : plc (par p) = plc p → bt n (par p) = bt m (par p)) : Wn o n p = Wn o m p := by
  unfold Wn
  by_cases q : plc (par p) = plc p
  · rw [h q]
  · rw [W_free hp (bt_lt _ _) (bt_lt _ _) ho q]
theorem W_lt {m p m' p' : Nat} (hp : p < 12) (hp' : p' < 12) (ho : o < 2) (h : plc p < plc p') : Wn o m' p' < Wn o m p :=
  W_right hp hp' (bt_lt _ _) (bt_lt _ _) ho h
theorem W_cmp {m p m' p' : Nat} (hpl : plc p' = plc p) (h : Dw p' (bt m' (par p')) (62 + o) < Dw p (bt m (par p)) (62 + o)) : Wn o m' p' < Wn o m p := by
  unfold Wn
  rw [hpl]
  exact Nat.mul_lt_mul_of_pos_right h (Nat.pow_pos (by decide))
/-- the bits of a mode, one more held -/
theorem bt_up {m p q : Nat} (h : bt m p = 0) (hq : q ≠ p) : bt (m + 2 ^ p) q = bt m q := by rw [bt_add h, if_neg hq]
theorem bt_at {m p : Nat} (h : bt m p = 0) : bt (m + 2 ^ p) p = 1 := by rw [bt_add h, if_pos rfl]

theorem cut_light (C : Cube P M) (hP : ∀ p ∈ P, p < 12) (ho : o < 2) {m p : Nat} (hm : m ∈ M) (hp : p ∈ P) (hb : bt m p = 0) (hk : keptP m p P false = true) :
    ∃ S : Nat → Prop, S m ∧ ¬ S (m + 2 ^ p) ∧ ∀ m' p', m' ∈ M → p' ∈ P → bt m' p' = 0 → lt3 (eOf o m' p') (eOf o m p) = true → (S m' ↔ S (m' + 2 ^ p')) := by
  have hp12 := hP p hp
  obtain ⟨k1, k2⟩ := kept_light hk
  refine ⟨fun n => ∀ q ∈ P, plc q ≤ plc p → bt n q = bt m q, fun _ _ _ => rfl, fun h => ?_, fun m' p' hm' hp' hb' hlt => ?_⟩
  · have := h p hp (Nat.le_refl _)
    rw [bt_at hb, hb] at this; cases this
  · have hp12' := hP p' hp'
    rw [lt_eOf] at hlt
    rcases Nat.lt_trichotomy (plc p') (plc p) with hl | hl | hl
    · have := W_lt (m := m') (m' := m) hp12' hp12 ho hl
      omega
    · have key : (∀ q ∈ P, plc q ≤ plc p → bt m' q = bt m q) ∨ (∀ q ∈ P, plc q ≤ plc p → bt (m' + 2 ^ p') q = bt m q) → False := by
        intro hor
        rcases plc_same hp12 hp12' hl with e | ⟨h9, e⟩ | ⟨h9, e⟩
        · subst e
          rcases hor with h | h
          · have hW : Wn o m' p' = Wn o m p' := W_same hp12' ho fun hpl => by
              by_cases hin : par p' ∈ P
              · exact h _ hin (by omega)
              · exact C.same m' hm' m hm _ hin
            have hle : m ≤ m' := bt_le fun q => by
              by_cases hq : q ∈ P
              · by_cases hql : plc q ≤ plc p'
                · rw [h q hq hql]; exact Nat.le_refl _
                · rw [k1 q hq (by omega)]; exact Nat.zero_le _
              · rw [C.same m' hm' m hm q hq]; exact Nat.le_refl _
            have : 2 ^ p' = 2 ^ p' := rfl
            omega
          · have := h p' hp' (Nat.le_refl _)
            rw [bt_at hb', hb] at this; cases this
        · have hne : p ≠ p' := by rw [e]; exact (par_ne hp12).symm
          have hb0 : bt m' p = 0 := by
            rcases hor with h | h
            · rw [h p hp (Nat.le_refl _), hb]
            · have := h p hp (Nat.le_refl _)
              rw [bt_up hb' hne] at this
              rw [this, hb]
          obtain ⟨s1, s2, s3, s4, s5, s6⟩ := W_sp h9 hp12 ho
          have : Wn o m p < Wn o m' p' := by
            refine W_cmp hl.symm ?_
            rw [e, s3, hb0, k2 h9 (e ▸ hp')]
            exact s4
          omega
        · have hne : p ≠ p' := by rw [e]; exact par_ne hp12'
          have hb0 : bt m' p = 0 := by
            rcases hor with h | h
            · rw [h p hp (Nat.le_refl _), hb]
            · have := h p hp (Nat.le_refl _)
              rw [bt_up hb' hne] at this
              rw [this, hb]
          obtain ⟨s1, s2, s3, s4, s5, s6⟩ := W_sp h9 hp12' ho
          have hbl := bt_lt m (par p)
          have : Wn o m p < Wn o m' p' := by
            refine W_cmp hl.symm ?_
            rw [← e] at s4 s5 s6 ⊢
            rw [hb0]
            have : bt m (par p) = 0 ∨ bt m (par p) = 1 := by omega
            rcases this with q | q <;> rw [q] <;> omega
          omega
      exact ⟨fun h => (key (.inl h)).elim, fun h => (key (.inr h)).elim⟩
    · have e : ∀ q, plc q ≤ plc p → bt (m' + 2 ^ p') q = bt m' q := fun q hq => bt_up hb' (by rintro rfl; omega)
      exact ⟨fun h q hq hql => (e q hql).trans (h q hq hql), fun h q hq hql => (e q hql).symm.trans (h q hq hql)⟩

theorem cut_heavy (C : Cube P M) (hP : ∀ p ∈ P, p < 12) (ho : o < 2) {m p : Nat} (hm : m ∈ M) (hp : p ∈ P) (hb : bt m p = 0) (hk : keptP m p P true = true) :
    ∃ S : Nat → Prop, S m ∧ ¬ S (m + 2 ^ p) ∧ ∀ m' p', m' ∈ M → p' ∈ P → bt m' p' = 0 → lt3 (eOf o m p) (eOf o m' p') = true → (S m' ↔ S (m' + 2 ^ p')) := by
  have hp12 := hP p hp
  obtain ⟨k1, k2⟩ := kept_heavy hk
  refine ⟨fun n => ¬ ∀ q ∈ P, plc p ≤ plc q → bt n q = bt (m + 2 ^ p) q, fun h => ?_, fun h => h fun _ _ _ => rfl, fun m' p' hm' hp' hb' hlt => not_congr ?_⟩
  · have := h p hp (Nat.le_refl _)
    rw [bt_at hb, hb] at this; cases this
  · have hp12' := hP p' hp'
    rw [lt_eOf] at hlt
    rcases Nat.lt_trichotomy (plc p') (plc p) with hl | hl | hl
    · have e : ∀ q, plc p ≤ plc q → bt (m' + 2 ^ p') q = bt m' q := fun q hq => bt_up hb' (by rintro rfl; omega)
      exact ⟨fun h q hq hql => (e q hql).trans (h q hq hql), fun h q hq hql => (e q hql).symm.trans (h q hq hql)⟩
    · have key : (∀ q ∈ P, plc p ≤ plc q → bt m' q = bt (m + 2 ^ p) q) ∨ (∀ q ∈ P, plc p ≤ plc q → bt (m' + 2 ^ p') q = bt (m + 2 ^ p) q) → False := by
        intro hor
        rcases plc_same hp12 hp12' hl with e | ⟨h9, e⟩ | ⟨h9, e⟩
        · subst e
          rcases hor with h | h
          · have := h p' hp' (Nat.le_refl _)
            rw [bt_at hb, hb'] at this; cases this
          · have hs : ∀ q ∈ P, plc p' ≤ plc q → bt m' q = bt m q := fun q hq hql => by
              by_cases e : q = p'
              · rw [e, hb, hb']
              · have := h q hq hql
                rw [bt_up hb' e, bt_up hb e] at this; exact this
            have hW : Wn o m' p' = Wn o m p' := W_same hp12' ho fun hpl => by
              by_cases hin : par p' ∈ P
              · exact hs _ hin (by omega)
              · exact C.same m' hm' m hm _ hin
            have hle : m' ≤ m := bt_le fun q => by
              by_cases hq : q ∈ P
              · by_cases hql : plc p' ≤ plc q
                · rw [hs q hq hql]; exact Nat.le_refl _
                · rw [k1 q hq (by omega)]; have := bt_lt m' q; omega
              · rw [C.same m' hm' m hm q hq]; exact Nat.le_refl _
            have : 2 ^ p' = 2 ^ p' := rfl
            omega
        · have hne : p ≠ p' := by rw [e]; exact (par_ne hp12).symm
          have hb0 : bt m' p = 1 := by
            rcases hor with h | h
            · rw [h p hp (Nat.le_refl _), bt_at hb]
            · have := h p hp (Nat.le_refl _)
              rw [bt_up hb' hne] at this
              rw [this, bt_at hb]
          obtain ⟨s1, s2, s3, s4, s5, s6⟩ := W_sp h9 hp12 ho
          have : Wn o m' p' < Wn o m p := by
            refine W_cmp hl ?_
            rw [e, s3, hb0, k2 h9 (e ▸ hp')]
            exact s6
          omega
        · have hne : p ≠ p' := by rw [e]; exact par_ne hp12'
          have hb0 : bt m' p = 1 := by
            rcases hor with h | h
            · rw [h p hp (Nat.le_refl _), bt_at hb]
            · have := h p hp (Nat.le_refl _)
              rw [bt_up hb' hne] at this
              rw [this, bt_at hb]
          obtain ⟨s1, s2, s3, s4, s5, s6⟩ := W_sp h9 hp12' ho
          have hbl := bt_lt m (par p)
          have : Wn o m' p' < Wn o m p := by
            refine W_cmp hl ?_
            rw [← e] at s4 s5 s6 ⊢
            rw [hb0]
            have : bt m (par p) = 0 ∨ bt m (par p) = 1 := by omega
            rcases this with q | q <;> rw [q] <;> omega
          omega
      exact ⟨fun h => (key (.inl h)).elim, fun h => (key (.inr h)).elim⟩
    · have := W_lt (m := m) (m' := m') hp12 hp12' ho hl
      omega

theorem way_light (C : Cube P M) (hP : ∀ p ∈ P, p < 12) (ho : o < 2) {m p : Nat} (hm : m ∈ M) (hp : p ∈ P) (hb : bt m p = 0) (hk : keptP m p P false = false)
    (g : Nat → Int) (hg : ∀ m' p', m' ∈ M → p' ∈ P → bt m' p' = 0 → lt3 (eOf o m' p') (eOf o m p) = true → g m' = g (m' + 2 ^ p')) : g m = g (m + 2 ^ p) := by
  have hp12 := hP p hp
  rcases left_light hk with ⟨q, hq, hl, hbq⟩ | ⟨h9, hx, hbx⟩
  · have hq12 := hP q hq
    obtain ⟨n, hn, e, hnq, hnb⟩ := C.sub hm hq hbq
    have hqp : p ≠ q := by rintro rfl; omega
    have hnp : bt n p = 0 := by rw [hnb, if_neg hqp, hb]
    have h1 := hg n q hn hq hnq (lt_eOf.mpr (.inl (W_lt hp12 hq12 ho hl)))
    have h2 := hg n p hn hp hnp (lt_eOf.mpr (.inr ⟨W_same hp12 ho fun hpl => by rw [hnb, if_neg (by rintro rfl; omega)], .inl (by have : 0 < 2 ^ q := Nat.pow_pos (by decide); omega)⟩))
    have h3 := hg (n + 2 ^ p) q (C.add hn hp hnp) hq (by rw [bt_up hnp hqp.symm, hnq]) (lt_eOf.mpr (.inl (W_lt hp12 hq12 ho hl)))
    have e2 : n + 2 ^ p + 2 ^ q = m + 2 ^ p := by omega
    rw [e2] at h3
    rw [← e] at h1
    rw [← h1, h2, h3]
  · obtain ⟨s1, s2, s3, s4, s5, s6⟩ := W_sp h9 hp12 ho
    have hne := par_ne hp12
    have hup := C.add hm hp hb
    have hbx' : bt (m + 2 ^ p) (par p) = 0 := by rw [bt_up hb hne, hbx]
    have hW : Dw p (bt m (par p)) (62 + o) = Dw p 0 (62 + o) := by rw [hbx]
    have h1 := hg m (par p) hm hx hbx (lt_eOf.mpr (.inl (W_cmp s2 (by rw [hW, s3, hb]; omega))))
    have hb2 : bt (m + 2 ^ par p) p = 0 := by rw [bt_up hbx hne.symm, hb]
    have h2 := hg (m + 2 ^ par p) p (C.add hm hx hbx) hp hb2 (lt_eOf.mpr (.inl (W_cmp rfl (by rw [hW, bt_at hbx]; omega))))
    have h3 := hg (m + 2 ^ p) (par p) hup hx hbx' (lt_eOf.mpr (.inl (W_cmp s2 (by rw [hW, s3, bt_at hb]; omega))))
    have e2 : m + 2 ^ par p + 2 ^ p = m + 2 ^ p + 2 ^ par p := by omega
    rw [h1, h2, h3, e2]

theorem way_heavy (C : Cube P M) (hP : ∀ p ∈ P, p < 12) (ho : o < 2) {m p : Nat} (hm : m ∈ M) (hp : p ∈ P) (hb : bt m p = 0) (hk : keptP m p P true = false)
    (g : Nat → Int) (hg : ∀ m' p', m' ∈ M → p' ∈ P → bt m' p' = 0 → lt3 (eOf o m p) (eOf o m' p') = true → g m' = g (m' + 2 ^ p')) : g m = g (m + 2 ^ p) := by
  have hp12 := hP p hp
  have hup := C.add hm hp hb
  rcases left_heavy hk with ⟨q, hq, hl, hbq⟩ | ⟨h9, hx, hbx⟩
  · have hq12 := hP q hq
    have hqp : p ≠ q := by rintro rfl; omega
    have h1 := hg m q hm hq hbq (lt_eOf.mpr (.inl (W_lt hq12 hp12 ho hl)))
    have hnp : bt (m + 2 ^ q) p = 0 := by rw [bt_up hbq hqp, hb]
    have h2 := hg (m + 2 ^ q) p (C.add hm hq hbq) hp hnp (lt_eOf.mpr (.inr ⟨(W_same hp12 ho fun hpl => by rw [bt_up hbq (by rintro rfl; omega)]).symm, .inl (by have : 0 < 2 ^ q := Nat.pow_pos (by decide); omega)⟩))
    have h3 := hg (m + 2 ^ p) q hup hq (by rw [bt_up hb hqp.symm, hbq]) (lt_eOf.mpr (.inl (W_lt hq12 hp12 ho hl)))
    have e2 : m + 2 ^ q + 2 ^ p = m + 2 ^ p + 2 ^ q := by omega
    rw [h1, h2, h3, e2]
  · obtain ⟨s1, s2, s3, s4, s5, s6⟩ := W_sp h9 hp12 ho
    have hne := par_ne hp12
    obtain ⟨n, hn, e, hnx, hnb⟩ := C.sub hm hx hbx
    have hnp : bt n p = 0 := by rw [hnb, if_neg hne.symm, hb]
    have hW : Dw p (bt m (par p)) (62 + o) = Dw p 1 (62 + o) := by rw [hbx]
    have h1 := hg n (par p) hn hx hnx (lt_eOf.mpr (.inl (W_cmp s2.symm (by rw [hW, s3, hnp]; omega))))
    have h2 := hg n p hn hp hnp (lt_eOf.mpr (.inl (W_cmp rfl (by rw [hW, hnx]; omega))))
    have h3 := hg (n + 2 ^ p) (par p) (C.add hn hp hnp) hx (by rw [bt_up hnp hne, hnx]) (lt_eOf.mpr (.inl (W_cmp s2.symm (by rw [hW, s3, bt_at hnp]; omega))))
    have e2 : n + 2 ^ p + 2 ^ par p = m + 2 ^ p := by omega
    rw [e2] at h3
    rw [← e] at h1
    rw [← h1, h2, h3]
end
end Mine
end
section
open PySem PySem.W PyProof.Rows PySem.Calls
set_option Elab.async false
set_option maxRecDepth 100000
namespace Mine

/-- the signs of a listing, as numbers -/
def chF (q u s : Nat) : Nat := if q % 3 = 0 then (if u = 1 then 114 else 45) else if q % 3 = 1 then (if u = 0 then 45 else 119) else [45, 120, 83 + q / 8, 115 + q / 8].getD (u + 2 * s) 0
def tyc (k : Nat) : Nat := if k = 40960 then 108 else if k = 49152 then 115 else if k = 32768 then 45 else if k = 24576 then 98 else if k = 16384 then 100 else if k = 8192 then 99 else if k = 4096 then 112 else 63
abbrev one (c : Nat) : Str := ⟨#[c]⟩
theorem ch1 {m i b : Nat} {c : Str} (hi : i ≠ 0) : chT m i [(b, c)] = if m &&& b = b then c else Str.ofString "-" := by
  unfold chT
  rw [List.find?_cons]
  unfold hitT
  rw [if_neg hi]
  by_cases h : m &&& b = b
  · rw [beq_iff_eq.mpr h, if_pos h]
  · rw [beq_eq_false_iff_ne.mpr h, if_neg h]; simp [hi]
theorem ch3 {m i b1 b2 b3 : Nat} {c1 c2 c3 : Str} (hi : i ≠ 0) : chT m i [(b1, c1), (b2, c2), (b3, c3)] = if m &&& b1 = b1 then c1 else if m &&& b2 = b2 then c2 else if m &&& b3 = b3 then c3 else Str.ofString "-" := by
  unfold chT
  rw [List.find?_cons, List.find?_cons, List.find?_cons]
  unfold hitT
  rw [if_neg hi, if_neg hi, if_neg hi]
  by_cases h1 : m &&& b1 = b1
  · rw [beq_iff_eq.mpr h1, if_pos h1]
  · rw [beq_eq_false_iff_ne.mpr h1, if_neg h1]
    by_cases h2 : m &&& b2 = b2
    · rw [beq_iff_eq.mpr h2, if_pos h2]
    · rw [beq_eq_false_iff_ne.mpr h2, if_neg h2]
      by_cases h3 : m &&& b3 = b3
      · rw [beq_iff_eq.mpr h3, if_pos h3]
      · rw [beq_eq_false_iff_ne.mpr h3, if_neg h3]; simp [hi]
theorem tb_two {m : Nat} (a b : Nat) : m &&& (2 ^ a ||| 2 ^ b) = (bt m a * 2 ^ a) ||| (bt m b * 2 ^ b) := by
  rw [Nat.and_or_distrib_left, and_bt, and_bt]
theorem bt01 (m o : Nat) : bt m o = 0 ∨ bt m o = 1 := by have := bt_lt m o; omega
theorem chq_one {m i b c k : Nat} (hi : i ≠ 0) {s : Str} (hs : s = one c) (hk : b = 2 ^ k) : chT m i [(b, s)] = one (if bt m k = 1 then c else 45) := by
  have hm : Str.ofString "-" = one 45 := by decide +kernel
  rw [ch1 hi, hk, and_bt, hs, hm]
  have hp : 0 < 2 ^ k := Nat.pow_pos (by decide)
  rcases bt01 m k with e | e
  · rw [e, Nat.zero_mul, if_neg (by omega), if_neg (by decide)]
  · rw [e, Nat.one_mul, if_pos rfl, if_pos rfl]
theorem chq_three {m i b1 b2 b3 c1 c2 c3 k x : Nat} (hi : i ≠ 0) {s1 s2 s3 : Str} (h1 : s1 = one c1) (h2 : s2 = one c2) (h3 : s3 = one c3) (hk : b2 = 2 ^ k) (hx : b3 = 2 ^ x) (hb : b1 = 2 ^ k ||| 2 ^ x)
    (n1 : 2 ^ k ||| 2 ^ x ≠ 2 ^ k) (n2 : 2 ^ k ||| 2 ^ x ≠ 2 ^ x) :
    chT m i [(b1, s1), (b2, s2), (b3, s3)] = one ([45, c3, c2, c1].getD (bt m x + 2 * bt m k) 0) := by
  have hm : Str.ofString "-" = one 45 := by decide +kernel
  rw [ch3 hi, hb, hk, hx, tb_two, and_bt, and_bt, h1, h2, h3, hm]
  have hp : 0 < 2 ^ k := Nat.pow_pos (by decide)
  have hq : 0 < 2 ^ x := Nat.pow_pos (by decide)
  have n0 : 0 ≠ 2 ^ k ||| 2 ^ x := fun e => by
    have := Nat.left_le_or (n := 2 ^ k) (m := 2 ^ x)
    omega
  rcases bt01 m k with e | e <;> rcases bt01 m x with e' | e' <;> rw [e, e']
  · rw [Nat.zero_mul, Nat.zero_mul, Nat.or_zero, if_neg n0, if_neg (by omega), if_neg (by omega)]; rfl
  · rw [Nat.zero_mul, Nat.one_mul, Nat.zero_or, if_neg n2.symm, if_neg (by omega), if_pos rfl]; rfl
  · rw [Nat.zero_mul, Nat.one_mul, Nat.or_zero, if_neg n1.symm, if_pos rfl]; rfl
  · rw [Nat.one_mul, Nat.one_mul, if_pos rfl]; rfl
theorem chq {m q : Nat} (hq : q < 9) : chT m (q + 1) (tabs.getD (q + 1) []) = one (chF q (bt m (8 - q)) (bt m (11 - q / 3))) := by
  have h0 : ∀ k, q = k → chT m (k + 1) (tabs.getD (k + 1) []) = one (chF k (bt m (8 - k)) (bt m (11 - k / 3))) → chT m (q + 1) (tabs.getD (q + 1) []) = one (chF q (bt m (8 - q)) (bt m (11 - q / 3))) := fun k e h => e ▸ h
  have hr : Str.ofString "r" = one 114 := by decide +kernel
  have hw : Str.ofString "w" = one 119 := by decide +kernel
  have hx : Str.ofString "x" = one 120 := by decide +kernel
  have hs : Str.ofString "s" = one 115 := by decide +kernel
  have hS : Str.ofString "S" = one 83 := by decide +kernel
  have ht : Str.ofString "t" = one 116 := by decide +kernel
  have hT : Str.ofString "T" = one 84 := by decide +kernel
  have c2 : ∀ b : Nat, b = 0 ∨ b = 1 → (if b = 1 then 119 else 45) = (if b = 0 then 45 else 119) := fun b h => by
    rcases h with e | e <;> rw [e] <;> rfl
  have : q = 0 ∨ q = 1 ∨ q = 2 ∨ q = 3 ∨ q = 4 ∨ q = 5 ∨ q = 6 ∨ q = 7 ∨ q = 8 := by omega
  rcases this with e | e | e | e | e | e | e | e | e
  · exact h0 0 e (chq_one (i := 1) (b := 256) (k := 8) (by decide) hr (by decide))
  · exact h0 1 e ((chq_one (i := 2) (b := 128) (k := 7) (by decide) hw (by decide)).trans (congrArg one (c2 _ (bt01 m 7))))
  · exact h0 2 e (chq_three (i := 3) (b1 := 2112) (b2 := 2048) (b3 := 64) (k := 11) (x := 6) (by decide) hs hS hx (by decide) (by decide) (by decide) (by decide) (by decide))
  · exact h0 3 e (chq_one (i := 4) (b := 32) (k := 5) (by decide) hr (by decide))
  · exact h0 4 e ((chq_one (i := 5) (b := 16) (k := 4) (by decide) hw (by decide)).trans (congrArg one (c2 _ (bt01 m 4))))
  · exact h0 5 e (chq_three (i := 6) (b1 := 1032) (b2 := 1024) (b3 := 8) (k := 10) (x := 3) (by decide) hs hS hx (by decide) (by decide) (by decide) (by decide) (by decide))
  · exact h0 6 e (chq_one (i := 7) (b := 4) (k := 2) (by decide) hr (by decide))
  · exact h0 7 e ((chq_one (i := 8) (b := 2) (k := 1) (by decide) hw (by decide)).trans (congrArg one (c2 _ (bt01 m 1))))
  · exact h0 8 e (chq_three (i := 9) (b1 := 513) (b2 := 512) (b3 := 1) (k := 9) (x := 0) (by decide) ht hT hx (by decide) (by decide) (by decide) (by decide) (by decide))
theorem ch0 {m : Nat} : chT m 0 (tabs.getD 0 []) = one (tyc (m &&& 61440)) := by
  have hl : Str.ofString "l" = one 108 := by decide +kernel
  have hs : Str.ofString "s" = one 115 := by decide +kernel
  have hm : Str.ofString "-" = one 45 := by decide +kernel
  have hb : Str.ofString "b" = one 98 := by decide +kernel
  have hd : Str.ofString "d" = one 100 := by decide +kernel
  have hc : Str.ofString "c" = one 99 := by decide +kernel
  have hp : Str.ofString "p" = one 112 := by decide +kernel
  have hq : Str.ofString "?" = one 63 := by decide +kernel
  show chT m 0 [(40960, Str.ofString "l"), (49152, Str.ofString "s"), (32768, Str.ofString "-"), (24576, Str.ofString "b"), (16384, Str.ofString "d"), (8192, Str.ofString "c"), (4096, Str.ofString "p")] = _
  unfold chT tyc
  simp only [List.find?_cons, hitT, if_true]
  generalize m &&& 61440 = k
  by_cases h1 : k = 40960
  · rw [beq_iff_eq.mpr h1, if_pos h1, hl]
  rw [beq_eq_false_iff_ne.mpr h1, if_neg h1]
  by_cases h2 : k = 49152
  · rw [beq_iff_eq.mpr h2, if_pos h2, hs]
  rw [beq_eq_false_iff_ne.mpr h2, if_neg h2]
  by_cases h3 : k = 32768
  · rw [beq_iff_eq.mpr h3, if_pos h3, hm]
  rw [beq_eq_false_iff_ne.mpr h3, if_neg h3]
  by_cases h4 : k = 24576
  · rw [beq_iff_eq.mpr h4, if_pos h4, hb]
  rw [beq_eq_false_iff_ne.mpr h4, if_neg h4]
  by_cases h5 : k = 16384
  · rw [beq_iff_eq.mpr h5, if_pos h5, hd]
  rw [beq_eq_false_iff_ne.mpr h5, if_neg h5]
  by_cases h6 : k = 8192
  · rw [beq_iff_eq.mpr h6, if_pos h6, hc]
  rw [beq_eq_false_iff_ne.mpr h6, if_neg h6]
  by_cases h7 : k = 4096
  · rw [beq_iff_eq.mpr h7, if_pos h7, hp]
  rw [beq_eq_false_iff_ne.mpr h7, if_neg h7]
  exact hq
end Mine
end
section
open PySem PySem.W PyProof.Rows PySem.Calls
set_option Elab.async false
set_option maxRecDepth 100000
namespace Mine

/-- the figure of a sign -/
def trc (o c : Nat) : UInt8 := (trT (altOf o)).getD c.toUInt8.toNat c.toUInt8
def fc (o c : Nat) : Nat := b64v (trc o c).toNat
abbrev okc (o c : Nat) : Prop := c < 128 ∧ (trc o c).toNat ≠ 61 ∧ fc o c < 64
theorem okc_H : (∀ (o : Fin 2) (q : Fin 9) (u s : Fin 2), okc o.val (chF q.val u.val s.val) ∧ fc o.val (chF q.val u.val s.val) = figF q.val (62 + o.val) u.val s.val) ∧
    (∀ (o : Fin 2), okc o.val 65 ∧ fc o.val 65 = 0) ∧
    (∀ (o : Fin 2), okc o.val 108 ∧ okc o.val 115 ∧ okc o.val 45 ∧ okc o.val 98 ∧ okc o.val 100 ∧ okc o.val 99 ∧ okc o.val 112 ∧ okc o.val 63) := by decide +kernel
theorem okc_chF {o q u s : Nat} (ho : o < 2) (hq : q < 9) (hu : u < 2) (hs : s < 2) : okc o (chF q u s) ∧ fc o (chF q u s) = figF q (62 + o) u s :=
  okc_H.1 ⟨o, ho⟩ ⟨q, hq⟩ ⟨u, hu⟩ ⟨s, hs⟩
theorem okc_A {o : Nat} (ho : o < 2) : okc o 65 ∧ fc o 65 = 0 := okc_H.2.1 ⟨o, ho⟩
theorem okc_ty {o k : Nat} (ho : o < 2) : okc o (tyc k) := by
  obtain ⟨h1, h2, h3, h4, h5, h6, h7, h8⟩ := okc_H.2.2 ⟨o, ho⟩
  unfold tyc
  repeat' split
  all_goals assumption

theorem text12 (c0 c1 c2 c3 c4 c5 c6 c7 c8 c9 : Nat) : Txt.join (Str.ofString "") [one c0, one c1, one c2, one c3, one c4, one c5, one c6, one c7, one c8, one c9] ++ Str.ofString "AA" = ⟨[c0, c1, c2, c3, c4, c5, c6, c7, c8, c9, 65, 65].toArray⟩ := by
  rfl
theorem trB_list (o : Nat) (cs : List Nat) : (trB (altOf o) cs).toList = cs.map (trc o) := by
  unfold trB
  rw [Array.toList_map, List.map_map]; rfl
theorem stp0 (x v : Nat) (l : List Nat) : stp (0, x, l) v = (1, v, l) := rfl
theorem stp1 (x v : Nat) (l : List Nat) : stp (1, x, l) v = (2, v % 16, l ++ [x * 4 + v / 16]) := rfl
theorem stp2 (x v : Nat) (l : List Nat) : stp (2, x, l) v = (3, v % 4, l ++ [x * 16 + v / 4]) := rfl
theorem stp3 (x v : Nat) (l : List Nat) : stp (3, x, l) v = (0, 0, l ++ [x * 64 + v]) := rfl
theorem fold12 (a b c d e f g h i j k l : Nat) : [a, b, c, d, e, f, g, h, i, j, k, l].foldl stp (0, 0, []) =
    (0, 0, [a * 4 + b / 16, b % 16 * 16 + c / 4, c % 4 * 64 + d, e * 4 + f / 16, f % 16 * 16 + g / 4, g % 4 * 64 + h, i * 4 + j / 16, j % 16 * 16 + k / 4, k % 4 * 64 + l]) := by
  simp only [List.foldl_cons, List.foldl_nil, stp0, stp1, stp2, stp3, List.nil_append, List.cons_append]
theorem quad {a b c d : Nat} (hb : b < 64) (hc : c < 64) (hd : d < 64) : ((a * 4 + b / 16) * 256 + (b % 16 * 16 + c / 4)) * 256 + (c % 4 * 64 + d) = a * 262144 + b * 4096 + c * 64 + d := by omega
theorem val9 (a b c d e f g h i : Nat) : val256 [a, b, c, d, e, f, g, h, i] = ((a * 256 + b) * 256 + c) * 281474976710656 + (((d * 256 + e) * 256 + f) * 16777216 + ((g * 256 + h) * 256 + i)) := by
  unfold val256
  simp only [List.foldl_cons, List.foldl_nil]
  omega
/-- the figures by their places -/
def sumF (f : Nat → Nat) : Nat → Nat
  | 0 => 0
  | n + 1 => sumF f n + f n * 64 ^ (10 - n)
theorem sumF_nine (t : Nat) (f : Nat → Nat) : (t * 262144 + f 0 * 4096 + f 1 * 64 + f 2) * 281474976710656 + ((f 3 * 262144 + f 4 * 4096 + f 5 * 64 + f 6) * 16777216 + (f 7 * 262144 + f 8 * 4096 + 0 * 64 + 0)) = t * 64 ^ 11 + sumF f 9 := by
  simp only [sumF, Nat.reduceSub, Nat.reducePow]
  omega
theorem val12 {a b c d e f g h i j k l : Nat} (hb : b < 64) (hc : c < 64) (hd : d < 64) (hf : f < 64) (hg : g < 64) (hh : h < 64) (hj : j < 64) (hk : k < 64) (hl : l < 64) :
    val256 [a * 4 + b / 16, b % 16 * 16 + c / 4, c % 4 * 64 + d, e * 4 + f / 16, f % 16 * 16 + g / 4, g % 4 * 64 + h, i * 4 + j / 16, j % 16 * 16 + k / 4, k % 4 * 64 + l] =
    (a * 262144 + b * 4096 + c * 64 + d) * 281474976710656 + ((e * 262144 + f * 4096 + g * 64 + h) * 16777216 + (i * 262144 + j * 4096 + k * 64 + l)) := by
  rw [val9, quad hb hc hd, quad hf hg hh, quad hj hk hl]

def prOf (o m : Nat) : Nat := fc o (tyc (m &&& 61440)) * 64 ^ 11 + sumF (fun q => fig m q (62 + o)) 9
theorem prOk {o m : Nat} (ho : o < 2) : PrOk (altOf o) m (prOf o m) := by
  have hl : listing m = [chT m 0 (tabs.getD 0 []), chT m 1 (tabs.getD 1 []), chT m 2 (tabs.getD 2 []), chT m 3 (tabs.getD 3 []), chT m 4 (tabs.getD 4 []), chT m 5 (tabs.getD 5 []), chT m 6 (tabs.getD 6 []), chT m 7 (tabs.getD 7 []), chT m 8 (tabs.getD 8 []), chT m 9 (tabs.getD 9 [])] := rfl
  have key : ∀ q, q < 9 → okc o (chF q (bt m (8 - q)) (bt m (11 - q / 3))) ∧ fc o (chF q (bt m (8 - q)) (bt m (11 - q / 3))) = fig m q (62 + o) := fun q hq => by
    rw [fig_bt hq]; exact okc_chF ho hq (bt_lt _ _) (bt_lt _ _)
  rw [ch0, chq (q := 0) (by decide), chq (q := 1) (by decide), chq (q := 2) (by decide), chq (q := 3) (by decide), chq (q := 4) (by decide), chq (q := 5) (by decide), chq (q := 6) (by decide), chq (q := 7) (by decide), chq (q := 8) (by decide)] at hl
  have kt := okc_ty (k := m &&& 61440) ho
  obtain ⟨kA, kA0⟩ := okc_A ho
  unfold prOf
  generalize tyc (m &&& 61440) = ct at *
  obtain ⟨k0, e0⟩ := key 0 (by decide); generalize chF 0 (bt m (8 - 0)) (bt m (11 - 0 / 3)) = c0 at *
  obtain ⟨k1, e1⟩ := key 1 (by decide); generalize chF 1 (bt m (8 - 1)) (bt m (11 - 1 / 3)) = c1 at *
  obtain ⟨k2, e2⟩ := key 2 (by decide); generalize chF 2 (bt m (8 - 2)) (bt m (11 - 2 / 3)) = c2 at *
  obtain ⟨k3, e3⟩ := key 3 (by decide); generalize chF 3 (bt m (8 - 3)) (bt m (11 - 3 / 3)) = c3 at *
  obtain ⟨k4, e4⟩ := key 4 (by decide); generalize chF 4 (bt m (8 - 4)) (bt m (11 - 4 / 3)) = c4 at *
  obtain ⟨k5, e5⟩ := key 5 (by decide); generalize chF 5 (bt m (8 - 5)) (bt m (11 - 5 / 3)) = c5 at *
  obtain ⟨k6, e6⟩ := key 6 (by decide); generalize chF 6 (bt m (8 - 6)) (bt m (11 - 6 / 3)) = c6 at *
  obtain ⟨k7, e7⟩ := key 7 (by decide); generalize chF 7 (bt m (8 - 7)) (bt m (11 - 7 / 3)) = c7 at *
  obtain ⟨k8, e8⟩ := key 8 (by decide); generalize chF 8 (bt m (8 - 8)) (bt m (11 - 8 / 3)) = c8 at *
  clear key
  have hall : ∀ c ∈ [ct, c0, c1, c2, c3, c4, c5, c6, c7, c8, 65, 65], okc o c := by
    intro c hc
    simp only [List.mem_cons, List.not_mem_nil, or_false] at hc
    rcases hc with rfl | rfl | rfl | rfl | rfl | rfl | rfl | rfl | rfl | rfl | rfl | rfl <;> assumption
  refine ⟨[ct, c0, c1, c2, c3, c4, c5, c6, c7, c8, 65, 65], [fc o ct * 4 + fc o c0 / 16, fc o c0 % 16 * 16 + fc o c1 / 4, fc o c1 % 4 * 64 + fc o c2, fc o c3 * 4 + fc o c4 / 16, fc o c4 % 16 * 16 + fc o c5 / 4, fc o c5 % 4 * 64 + fc o c6, fc o c7 * 4 + fc o c8 / 16, fc o c8 % 16 * 16 + fc o 65 / 4, fc o 65 % 4 * 64 + fc o 65], by rw [hl]; exact text12 .., fun c hc => (hall c hc).1, Nat.le_add_left 2 10, (by decide : 12 < 900), fun i c hi => ?_, ?_, ?_, ?_, ?_⟩
  · rw [← Array.getElem?_toList, trB_list] at hi
    obtain ⟨x, hx, rfl⟩ := List.mem_map.mp (List.mem_of_getElem? hi)
    exact (hall x hx).2
  · rw [trB_list, List.map_map]
    exact fold12 (fc o ct) (fc o c0) (fc o c1) (fc o c2) (fc o c3) (fc o c4) (fc o c5) (fc o c6) (fc o c7) (fc o c8) (fc o 65) (fc o 65)
  · have ht := kt.2.2; have h0 := k0.2.2; have h1 := k1.2.2; have h2 := k2.2.2; have h3 := k3.2.2; have h4 := k4.2.2; have h5 := k5.2.2; have h6 := k6.2.2; have h7 := k7.2.2; have h8 := k8.2.2; have hA := kA.2.2
    intro x hx
    simp only [List.mem_cons, List.not_mem_nil, or_false] at hx
    rcases hx with rfl | rfl | rfl | rfl | rfl | rfl | rfl | rfl | rfl <;> omega
  · exact (by decide : 9 < 900)
  · rw [val12 k0.2.2 k1.2.2 k2.2.2 k4.2.2 k5.2.2 k6.2.2 k8.2.2 kA.2.2 kA.2.2, kA0, e0, e1, e2, e3, e4, e5, e6, e7, e8]
    exact (sumF_nine (fc o ct) (fun q => fig m q (62 + o))).symm

theorem ty_up {m p : Nat} (hp : p < 12) (hb : bt m p = 0) : (m + 2 ^ p) &&& 61440 = m &&& 61440 := by
  apply Nat.eq_of_testBit_eq
  intro i
  rw [Nat.testBit_and, Nat.testBit_and]
  by_cases hi : i = p
  · have : Nat.testBit 61440 i = false := by
      rw [show (61440 : Nat) = 15 * 2 ^ 12 by rfl, Nat.testBit_mul_two_pow]
      simp; omega
    rw [this, Bool.and_false, Bool.and_false]
  · rw [bt_inj.mp (bt_up hb hi)]
theorem fig_other {m p q ab : Nat} (hp : p < 12) (hb : bt m p = 0) (hq : q < 9) (hne : q ≠ plc p) : fig (m + 2 ^ p) q ab = fig m q ab := by
  have H : ∀ (p : Fin 12) (q : Fin 9), q.val ≠ plc p.val → 8 - q.val ≠ p.val ∧ (q.val % 3 ≠ 2 ∨ 11 - q.val / 3 ≠ p.val) := by decide +kernel
  obtain ⟨h1, h2⟩ := H ⟨p, hp⟩ ⟨q, hq⟩ hne
  dsimp only at h1 h2
  rw [fig_bt hq, fig_bt hq, bt_up hb h1]
  rcases h2 with h | h
  · unfold figF
    by_cases h0 : q % 3 = 0
    · rw [if_pos h0, if_pos h0]
    · have h1 : q % 3 = 1 := by omega
      rw [if_neg h0, if_pos h1, if_neg h0, if_pos h1]
  · rw [bt_up hb h]
theorem sumF_same {f g : Nat → Nat} : ∀ n, (∀ q, q < n → g q = f q) → sumF g n = sumF f n
  | 0, _ => rfl
  | n + 1, h => by
    rw [sumF, sumF, sumF_same n (fun q hq => h q (by omega)), h n (by omega)]
theorem sumF_diff {f g : Nat → Nat} {k : Nat} : ∀ n, k < n → (∀ q, q < n → q ≠ k → g q = f q) → (sumF f n : Int) - (sumF g n : Int) = ((f k : Int) - (g k : Int)) * ((64 ^ (10 - k) : Nat) : Int)
  | 0, hk, _ => absurd hk (Nat.not_lt_zero _)
  | n + 1, hk, h => by
    rw [sumF, sumF, Int.natCast_add, Int.natCast_add, Int.natCast_mul, Int.natCast_mul]
    by_cases e : k = n
    · subst e
      rw [sumF_same k (fun q hq => h q (by omega) (by omega)), Int.sub_mul]
      omega
    · have := sumF_diff n (by omega) (fun q hq => h q (by omega))
      rw [h n (by omega) (fun q => e q.symm), ← this]
      omega
theorem pr_diff {o m p : Nat} (hp : p < 12) (hb : bt m p = 0) : ((prOf o m : Int) - (prOf o (m + 2 ^ p) : Int)).natAbs = ((fig m (plc p) (62 + o) : Int) - (fig (m + 2 ^ p) (plc p) (62 + o) : Int)).natAbs * 64 ^ (10 - plc p) := by
  unfold prOf
  rw [ty_up hp hb]
  have := plc_le hp
  have h := sumF_diff (f := fun q => fig m q (62 + o)) (g := fun q => fig (m + 2 ^ p) q (62 + o)) (k := plc p) 9 (by omega) fun q hq hne => fig_other hp hb hq hne
  have e : ∀ a b c : Nat, ((a + b : Nat) : Int) - ((a + c : Nat) : Int) = (b : Int) - (c : Int) := fun a b c => by omega
  rw [e, h, Int.natAbs_mul, Int.natAbs_natCast]
end Mine
end
section
open PySem PySem.W PyProof.Rows PySem.Calls
set_option Elab.async false
set_option maxRecDepth 100000
namespace Mine

/-- the pairs of a mode and a bit -/
def prs (M P : List Nat) : List (Nat × Nat) := M.flatMap fun m => P.map fun p => (m, p)
theorem prs_nodup {M P : List Nat} (hM : M.Nodup) (hP : P.Nodup) : (prs M P).Nodup := by
  unfold prs
  induction M with
  | nil => simp
  | cons m M ih =>
    rw [List.nodup_cons] at hM
    rw [List.flatMap_cons, List.nodup_append]
    refine ⟨List.Pairwise.map _ (fun a b hne e => hne (Prod.mk.inj e).2) hP, ih hM.2, fun a ha b hb e => ?_⟩
    obtain ⟨p, hp, rfl⟩ := List.mem_map.mp ha
    obtain ⟨m', hm', hb⟩ := List.mem_flatMap.mp hb
    obtain ⟨p', hp', rfl⟩ := List.mem_map.mp hb
    have := (Prod.mk.inj e).1
    subst this; exact hM.1 hm'
theorem flat_pick {M P : List Nat} (c : Nat → Nat → Bool) (f : Nat → Nat → E3) : (M.flatMap fun m => P.flatMap fun p => if c m p = true then [f m p] else []) = ((prs M P).filter fun x => c x.1 x.2).map fun x => f x.1 x.2 := by
  unfold prs
  induction M with
  | nil => rfl
  | cons m M ih =>
    rw [List.flatMap_cons, List.flatMap_cons, List.filter_append, List.map_append, ih]
    congr 1
    clear ih
    induction P with
    | nil => rfl
    | cons p P ihp =>
      rw [List.flatMap_cons, List.map_cons, List.filter_cons, ihp]
      by_cases h : c m p = true
      · rw [if_pos h, if_pos h]; rfl
      · rw [if_neg h, if_neg h]; rfl
theorem mem_prs {M P : List Nat} {x : Nat × Nat} : x ∈ prs M P ↔ x.1 ∈ M ∧ x.2 ∈ P := by
  unfold prs
  rw [List.mem_flatMap]
  constructor
  · rintro ⟨m, hm, h⟩
    obtain ⟨p, hp, rfl⟩ := List.mem_map.mp h
    exact ⟨hm, hp⟩
  · rintro ⟨h1, h2⟩
    exact ⟨x.1, h1, List.mem_map.mpr ⟨x.2, h2, rfl⟩⟩
theorem prs_length {M P : List Nat} : (prs M P).length = M.length * P.length := by
  unfold prs
  induction M with
  | nil => simp
  | cons m M ih => rw [List.flatMap_cons, List.length_append, ih, List.length_map, List.length_cons, Nat.succ_mul, Nat.add_comm]

abbrev cE (m p : Nat) : Bool := decide (bt m p = 0)
abbrev cT (P : List Nat) (hv : Bool) (m p : Nat) : Bool := decide (bt m p = 0) && keptP m p P hv
theorem edges_eq {M P : List Nat} {o : Nat} (hP : ∀ p ∈ P, p < 12) : edgesOf (prOf o) M P = ((prs M P).filter fun x => cE x.1 x.2).map fun x => eOf o x.1 x.2 := by
  rw [← flat_pick (c := cE) (f := eOf o)]
  unfold edgesOf
  refine congrArg (fun f => List.flatMap f M) (funext fun m => ?_)
  rw [List.flatMap_def, List.flatMap_def]
  refine congrArg _ (List.map_congr_left fun p hp => ?_)
  unfold edgeOf
  by_cases h : bt m p = 0
  · rw [if_pos h, if_pos (by simpa using h), pr_diff (hP p hp) h, ← eOf_told (hP p hp) h]
    simp
  · rw [if_neg h, if_neg (by simpa using h)]
theorem told_eq {M P : List Nat} {o : Nat} {hv : Bool} (hP : ∀ p ∈ P, p < 12) : toldOf M P hv (62 + o) = ((prs M P).filter fun x => cT P hv x.1 x.2).map fun x => eOf o x.1 x.2 := by
  rw [← flat_pick (c := cT P hv) (f := eOf o)]
  unfold toldOf
  refine congrArg (fun f => List.flatMap f M) (funext fun m => ?_)
  rw [List.flatMap_def, List.flatMap_def]
  refine congrArg _ (List.map_congr_left fun p hp => ?_)
  unfold toldAt
  by_cases h : bt m p = 0
  · by_cases hk : keptP m p P hv = true
    · rw [if_pos ⟨h, hk⟩, if_pos (by simp [h, hk]), eOf_told (hP p hp) h]
    · rw [if_neg (fun q => hk q.2), if_neg (by simp [hk])]
  · rw [if_neg (fun q => h q.1), if_neg (by simp [h])]
theorem eOf_inj {o m p m' p' : Nat} (h : eOf o m p = eOf o m' p') : m = m' ∧ p = p' := by
  unfold eOf at h
  obtain ⟨-, h⟩ := Prod.mk.inj h
  obtain ⟨h1, h2⟩ := Prod.mk.inj h
  refine ⟨by omega, ?_⟩
  have h2 : 2 ^ p = 2 ^ p' := by omega
  exact Nat.pow_right_inj (by decide) |>.mp h2

theorem plain_ok (P : List Nat) (b0 odd : Nat) (hv : Bool) (hl : P.length ≤ 4) (hP : ∀ p ∈ P, p < 12) (hnd : P.Nodup) (_hb : b0 < 65536) (ho : odd < 2) : PlainOk P b0 odd hv := by
  have C := cube_modes hnd b0
  have hml : (modesOf P [baseOf P b0]).length = 2 ^ P.length := by rw [modesOf_length]; simp
  have hne : ∃ m, m ∈ modesOf P [baseOf P b0] := by
    cases e : modesOf P [baseOf P b0] with
    | nil =>
      have : 0 < 2 ^ P.length := Nat.pow_pos (by decide)
      rw [e] at hml; simp at hml; omega
    | cons m _ => exact ⟨m, List.mem_cons_self⟩
  generalize hM : modesOf P [baseOf P b0] = M at C hml hne
  have hsub : ((prs M P).filter fun x => cT P hv x.1 x.2).Sublist ((prs M P).filter fun x => cE x.1 x.2) := by
    have : ((prs M P).filter fun x => cT P hv x.1 x.2) = (((prs M P).filter fun x => cE x.1 x.2).filter fun x => keptP x.1 x.2 P hv) := by
      rw [List.filter_filter]
      refine congrArg (fun f => List.filter f (prs M P)) (funext fun x => ?_)
      exact Bool.and_comm _ _
    rw [this]
    exact List.filter_sublist
  have hnE : (((prs M P).filter fun x => cE x.1 x.2).map fun x => eOf odd x.1 x.2).Nodup := by
    refine List.Pairwise.map _ (fun x y hne e => hne ?_) ((prs_nodup C.nd hnd).filter _)
    obtain ⟨h1, h2⟩ := eOf_inj e
    exact Prod.ext h1 h2
  refine ⟨prOf odd, fun m _ => prOk ho, ?_, ?_, ?_, ?_⟩
  · rw [hM]; exact fun m hm p hp hb => C.add hm hp hb
  · rw [hM, told_eq hP]
    exact hnE.sublist (hsub.map _)
  · rw [hM, told_eq hP, List.length_map]
    have h1 := hsub.length_le
    cases P with
    | nil =>
      have h2 : ((prs M []).filter fun x => cE x.1 x.2).length ≤ (prs M []).length := List.length_filter_le _ _
      rw [prs_length, List.length_nil, Nat.mul_zero] at h2
      omega
    | cons p P =>
      obtain ⟨m, hm⟩ := hne
      have hx : ∃ n ∈ M, bt n p = 1 := by
        rcases bt01 m p with e | e
        · exact ⟨_, C.add hm List.mem_cons_self e, bt_at e⟩
        · exact ⟨m, hm, e⟩
      obtain ⟨n, hn, e⟩ := hx
      have h2 : ((prs M (p :: P)).filter fun x => cE x.1 x.2).length < (prs M (p :: P)).length := by
        rw [List.length_filter_lt_length_iff_exists]
        exact ⟨(n, p), mem_prs.mpr ⟨hn, List.mem_cons_self⟩, by simp [e]⟩
      rw [prs_length, hml] at h2
      have h3 : 2 ^ (p :: P).length ≤ 2 ^ 4 := Nat.pow_le_pow_right (by decide) hl
      have h4 : 2 ^ (p :: P).length * (p :: P).length ≤ 2 ^ 4 * 4 := Nat.mul_le_mul h3 hl
      omega
  · intro es os he hos hsort
    rw [hM] at he hos
    rw [edges_eq hP] at he
    rw [told_eq hP] at hos
    have cast : ∀ m p : Nat, (m : Int) + ((2 ^ p : Nat) : Int) = ((m + 2 ^ p : Nat) : Int) := fun m p => (Int.natCast_add _ _).symm
    refine net_plain (hv := hv) hnE (hsub.map _) ?_ ?_ es os he hos hsort
    · intro e he
      obtain ⟨⟨m, p⟩, hx, rfl⟩ := List.mem_map.mp he
      obtain ⟨hx, hc⟩ := List.mem_filter.mp hx
      obtain ⟨hm, hp⟩ := mem_prs.mp hx
      dsimp only at hm hp hc ⊢
      obtain ⟨hb, hk⟩ := Bool.and_eq_true_iff.mp hc
      have hb : bt m p = 0 := by simpa using hb
      have hcut : ∃ S : Nat → Prop, S m ∧ ¬ S (m + 2 ^ p) ∧ ∀ m' p', m' ∈ M → p' ∈ P → bt m' p' = 0 → ltE hv (eOf odd m' p') (eOf odd m p) = true → (S m' ↔ S (m' + 2 ^ p')) := by
        cases hv with
        | false => exact cut_light C hP ho hm hp hb hk
        | true => exact cut_heavy C hP ho hm hp hb hk
      obtain ⟨S, s1, s2, s3⟩ := hcut
      refine ⟨fun z => S z.toNat, ?_, ?_, ?_⟩
      · show S ((m : Int)).toNat
        rw [Int.toNat_natCast]; exact s1
      · show ¬ S ((m : Int) + ((2 ^ p : Nat) : Int)).toNat
        rw [cast, Int.toNat_natCast]; exact s2
      · intro e' he' hlt
        obtain ⟨⟨m', p'⟩, hx', rfl⟩ := List.mem_map.mp he'
        obtain ⟨hx', hc'⟩ := List.mem_filter.mp hx'
        obtain ⟨hm', hp'⟩ := mem_prs.mp hx'
        show S ((m' : Int)).toNat ↔ S ((m' : Int) + ((2 ^ p' : Nat) : Int)).toNat
        rw [cast, Int.toNat_natCast, Int.toNat_natCast]
        exact s3 m' p' hm' hp' (by simpa using hc') hlt
    · intro e he hnt g hg
      obtain ⟨⟨m, p⟩, hx, rfl⟩ := List.mem_map.mp he
      obtain ⟨hx, hc⟩ := List.mem_filter.mp hx
      obtain ⟨hm, hp⟩ := mem_prs.mp hx
      dsimp only at hm hp hc
      have hb : bt m p = 0 := by simpa using hc
      have hk : keptP m p P hv = false := by
        cases hk : keptP m p P hv with
        | false => rfl
        | true => exact absurd (List.mem_map.mpr ⟨(m, p), List.mem_filter.mpr ⟨mem_prs.mpr ⟨hm, hp⟩, by simp [hb, hk]⟩, rfl⟩) hnt
      have hg' : ∀ m' p', m' ∈ M → p' ∈ P → bt m' p' = 0 → ltE hv (eOf odd m' p') (eOf odd m p) = true → g (m' : Int) = g ((m' + 2 ^ p' : Nat) : Int) := by
        intro m' p' hm' hp' hb' hlt
        have := hg (eOf odd m' p') (List.mem_map.mpr ⟨(m', p'), List.mem_filter.mpr ⟨mem_prs.mpr ⟨hm', hp'⟩, by simp [hb']⟩, rfl⟩) hlt
        rw [← cast]; exact this
      show g (m : Int) = g ((m : Int) + ((2 ^ p : Nat) : Int))
      rw [cast]
      cases hv with
      | false => exact way_light C hP ho hm hp hb hk (fun n => g (n : Int)) hg'
      | true => exact way_heavy C hP ho hm hp hb hk (fun n => g (n : Int)) hg'
end Mine
end
section
open PySem PySem.W PyProof.Rows PySem.Calls
set_option Elab.async false
set_option maxRecDepth 100000
namespace Mine
theorem ns_some_of {K : Frag} {h : Heap} {N : Addr} {mg : Str → Option Value} {n : Str} {v : Value} (X : K.In h) (G : h.Ns N mg) (e : nsIn K N n = some (some v)) : mg n = some v := by
  obtain ⟨o, es, ep, ho, hd, _, hf⟩ := G
  unfold nsIn at e
  split at e
  · rename_i c d es' n' sl q
    have hx := X _ _ q
    rw [ho] at hx
    cases hx
    cases hd
    split at e
    · rename_i en he
      rw [← hf]
      unfold nsFind findBy
      rw [← Array.find?_toList, he]
      simpa using e
    · split at e <;> cases e
  · cases e
theorem law_at {w : World} {h : Heap} {mg : Str → Option Value} {fa : Addr} (X : (KF w.params).In h) (G : h.Ns mainGlobals mg) (hm : mg (Str.ofString "law") = some (.ref fa)) : fa = 227 := by
  have := ns_some_of X G (n := Str.ofString "law") (v := .ref 227) (by rfl)
  rw [hm] at this
  cases this; rfl
theorem law_all {w : World} {s₁ : Shared} {mg mb : Str → Option Value} {fa l : Addr} {sv : List Value} {scr : List Int} {P : Result → Shared → Prop}
    (X : (KF w.params).In s₁.heap) (G : s₁.heap.Ns mainGlobals mg) (Gb : s₁.heap.Ns builtinsNs mb) (hb : ∀ x : Str, x ≠ "__name__" → mb x = bootBuiltins x) (hn : s₁.heap.NoLimit) (hm : mg (Str.ofString "law") = some (.ref fa))
    (hl : s₁.heap.IsList l sv.toArray) (hi : IntsAre sv scr) (hs : scr.length ≤ 63)
    (hP : ∀ h' tk', (∀ b o, s₁.heap.get? b = some o → h'.get? b = some o) → P (.ok (.ret (.bool true))) (St s₁ h' tk')) :
    codeAny (Mo w) callerA (.call (.ref fa) ⟨[.ref l], []⟩) P s₁ := by
  have hfa := law_at X G hm
  subst hfa
  have g : Gd w s₁.heap := ⟨X, ⟨mg, G⟩, ⟨mb, Gb, hb⟩, hn⟩
  have GB : GdB w (fun a => s₁.heap.get? a) := fun h' hh => g.keeps fun b o e => hh b o e
  have R : Rm callerA 30 := ⟨by decide, by decide, rfl⟩
  have hlen := hi.length
  exact codeAny_mono (law_spec (s₀ := s₁) (h := s₁.heap) (tk := s₁.toks) GB (fun _ _ e => e) R hl hi (by omega) plain_ok) fun r s' q => by
    obtain ⟨v, h', tk', rfl, rfl, hc, rfl⟩ := q
    exact hP h' tk' fun b o e => hc b o e List.not_mem_nil
end Mine
end
open PySem PySem.W PyProof.Rows PySem.Calls
set_option maxRecDepth 100000 in
set_option maxHeartbeats 8000000 in
theorem PySem.Challenge.cw_pa0053_01_holds : PySem.Challenge.rw_pa0053_01.Holds := by
  refine holds_law Mine.said0 fun said => ?_
  w_on
  refine holds_open (q := Mine.myV) (loose := Mine.myL) (Xt := Mine.myX) (XP := XL Mine.myV []) (Yf := Mine.myH.obs) (Ya := Mine.myH.val) (YP := Mine.myH.says) (N := 2818) Mine.left0 Mine.myH.of Mine.myH.keeps
    (fun s e => xl_of s (Bool.and_eq_true_iff.mp e).1) XL.keeps (by rfl) (by rfl) (by rfl) (fun s e => recFacts_of (Bool.and_eq_true_iff.mp e).2) (by rfl) said (by decide +kernel) ⟨rfl, rfl, rfl, rfl, rfl, by decide +kernel⟩
    ⟨[.list []], by decide +kernel, by decide +kernel⟩ ?_
  intro w s₀ s₁ mg mb G Y fa o pm cd doc dV kV ho hd hcd hD hmg hg args vals as hpre hlay hrd hwl hlo
  have KX := kIn_of Y
  have T := G.T
  clear hd hcd hD ho Y G
  wrow_args hpre hlay hrd hwl hlo
  rename_i hcond _
  refine enter_call (Mine.law_all KX T.g T.b T.builtins T.nolimit hmg (by assumption) (by assumption) (by omega) fun h' tk' hk => ?_)
  exact ⟨.inl ⟨.bool true, .bool true, [], rfl, raisesW_false (by wrow_none_raised), .bool true, postW_of (by wrow_shape) (by wtm_val) (by w_fin), unshared_nil⟩, .of_keep hk, rfl, AllBare.of_eq hg⟩
