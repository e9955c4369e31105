/-
  unicode.SimpleFold as a function; four steps of it lead back: plain law.
-/
import Derived.Lib.CaseU
namespace Go.Proofs.YtnoghiefpdbpbaaGreatFmt
open Go.Lib

def ascF : List Nat := [
  0, 1, 2, 3, 4, 5, 6, 7, 8, 9, 10, 11, 12, 13, 14, 15,
  16, 17, 18, 19, 20, 21, 22, 23, 24, 25, 26, 27, 28, 29, 30, 31,
  32, 33, 34, 35, 36, 37, 38, 39, 40, 41, 42, 43, 44, 45, 46, 47,
  48, 49, 50, 51, 52, 53, 54, 55, 56, 57, 58, 59, 60, 61, 62, 63,
  64, 97, 98, 99, 100, 101, 102, 103, 104, 105, 106, 107, 108, 109, 110, 111,
  112, 113, 114, 115, 116, 117, 118, 119, 120, 121, 122, 91, 92, 93, 94, 95,
  96, 65, 66, 67, 68, 69, 70, 71, 72, 73, 74, 8490, 76, 77, 78, 79,
  80, 81, 82, 383, 84, 85, 86, 87, 88, 89, 90, 123, 124, 125, 126, 127]
def orbT : List (Nat × Nat) := [
  (75, 107), (83, 115), (107, 8490), (115, 383), (181, 924), (197, 229), (223, 7838), (229, 8491), (304, 304), (305, 305),
  (383, 83), (452, 453), (453, 454), (454, 452), (455, 456), (456, 457), (457, 455), (458, 459), (459, 460), (460, 458),
  (497, 498), (498, 499), (499, 497), (837, 921), (912, 8147), (914, 946), (917, 949), (920, 952), (921, 953), (922, 954),
  (924, 956), (928, 960), (929, 961), (931, 962), (934, 966), (937, 969), (944, 8163), (946, 976), (949, 1013), (952, 977),
  (953, 8126), (954, 1008), (956, 181), (960, 982), (961, 1009), (962, 963), (963, 931), (966, 981), (969, 8486), (976, 914),
  (977, 1012), (981, 934), (982, 928), (1008, 922), (1009, 929), (1012, 920), (1013, 917), (1042, 1074), (1044, 1076), (1054, 1086),
  (1057, 1089), (1058, 1090), (1066, 1098), (1074, 7296), (1076, 7297), (1086, 7298), (1089, 7299), (1090, 7300), (1098, 7302), (1122, 1123),
  (1123, 7303), (7296, 1042), (7297, 1044), (7298, 1054), (7299, 1057), (7300, 7301), (7301, 1058), (7302, 1066), (7303, 1122), (7304, 42570),
  (7776, 7777), (7777, 7835), (7835, 7776), (7838, 223), (8126, 837), (8147, 912), (8163, 944), (8486, 937), (8490, 75), (8491, 197),
  (42570, 42571), (42571, 7304), (64261, 64262), (64262, 64261)]

/-- Rows in a tree, for a quick look. -/
inductive RT where
  | l : RT
  | n : RT → CaseRow → RT → RT
def RT.rows : RT → List CaseRow
  | .l => []
  | .n a x b => a.rows ++ x :: b.rows
def RT.look : RT → Nat → Option CaseRow
  | .l, _ => none
  | .n a x b, r => if r < x.1 then a.look r else if x.2.1 < r then b.look r else some x
theorem RT.look_ok {t : RT} {r : Nat} {x : CaseRow} (h : t.look r = some x) : x ∈ t.rows ∧ x.1 ≤ r ∧ r ≤ x.2.1 := by
  induction t with
  | l => cases h
  | n a y b iha ihb =>
    unfold RT.look at h
    unfold RT.rows
    by_cases h1 : r < y.1
    · rw [if_pos h1] at h
      obtain ⟨i1, i2, i3⟩ := iha h
      exact ⟨List.mem_append_left _ i1, i2, i3⟩
    · rw [if_neg h1] at h
      by_cases h2 : y.2.1 < r
      · rw [if_pos h2] at h
        obtain ⟨i1, i2, i3⟩ := ihb h
        exact ⟨List.mem_append_right _ (List.mem_cons_of_mem _ i1), i2, i3⟩
      · rw [if_neg h2] at h
        cases h
        exact ⟨List.mem_append_right _ List.mem_cons_self, by omega, by omega⟩

set_option maxRecDepth 100000 in
def caseTree : RT :=
  (.n (.n (.n (.n (.n (.n (.n (.n (.n .l (65, 90, 0, 32, 0) .l) (97, 122, -32, 0, -32) .l) (181, 181, 743, 0, 743) (.n (.n .l (192, 214, 0, 32, 0) .l) (216, 222, 0, 32, 0) .l)) (224, 246, -32, 0, -32) (.n (.n (.n .l (248, 254, -32, 0, -32) .l) (255, 255, 121, 0, 121) .l) (256, 303, 1114112, 1114112, 1114112) (.n .l (304, 304, 0, -199, 0) .l))) (305, 305, -232, 0, -232) (.n (.n (.n (.n .l (306, 311, 1114112, 1114112, 1114112) .l) (313, 328, 1114112, 1114112, 1114112) .l) (330, 375, 1114112, 1114112, 1114112) (.n (.n .l (376, 376, 0, -121, 0) .l) (377, 382, 1114112, 1114112, 1114112) .l)) (383, 383, -300, 0, -300) (.n (.n (.n .l (384, 384, 195, 0, 195) .l) (385, 385, 0, 210, 0) .l) (386, 389, 1114112, 1114112, 1114112) (.n .l (390, 390, 0, 206, 0) .l)))) (391, 392, 1114112, 1114112, 1114112) (.n (.n (.n (.n (.n .l (393, 394, 0, 205, 0) .l) (395, 396, 1114112, 1114112, 1114112) .l) (398, 398, 0, 79, 0) (.n (.n .l (399, 399, 0, 202, 0) .l) (400, 400, 0, 203, 0) .l)) (401, 402, 1114112, 1114112, 1114112) (.n (.n (.n .l (403, 403, 0, 205, 0) .l) (404, 404, 0, 207, 0) .l) (405, 405, 97, 0, 97) (.n .l (406, 406, 0, 211, 0) .l))) (407, 407, 0, 209, 0) (.n (.n (.n (.n .l (408, 409, 1114112, 1114112, 1114112) .l) (410, 410, 163, 0, 163) .l) (411, 411, 42561, 0, 42561) (.n .l (412, 412, 0, 211, 0) .l)) (413, 413, 0, 213, 0) (.n (.n (.n .l (414, 414, 130, 0, 130) .l) (415, 415, 0, 214, 0) .l) (416, 421, 1114112, 1114112, 1114112) (.n .l (422, 422, 0, 218, 0) .l))))) (423, 424, 1114112, 1114112, 1114112) (.n (.n (.n (.n (.n (.n .l (425, 425, 0, 218, 0) .l) (428, 429, 1114112, 1114112, 1114112) .l) (430, 430, 0, 218, 0) (.n (.n .l (431, 432, 1114112, 1114112, 1114112) .l) (433, 434, 0, 217, 0) .l)) (435, 438, 1114112, 1114112, 1114112) (.n (.n (.n .l (439, 439, 0, 219, 0) .l) (440, 441, 1114112, 1114112, 1114112) .l) (444, 445, 1114112, 1114112, 1114112) (.n .l (447, 447, 56, 0, 56) .l))) (452, 452, 0, 2, 1) (.n (.n (.n (.n .l (453, 453, -1, 1, 0) .l) (454, 454, -2, 0, -1) .l) (455, 455, 0, 2, 1) (.n .l (456, 456, -1, 1, 0) .l)) (457, 457, -2, 0, -1) (.n (.n (.n .l (458, 458, 0, 2, 1) .l) (459, 459, -1, 1, 0) .l) (460, 460, -2, 0, -1) (.n .l (461, 476, 1114112, 1114112, 1114112) .l)))) (477, 477, -79, 0, -79) (.n (.n (.n (.n (.n .l (478, 495, 1114112, 1114112, 1114112) .l) (497, 497, 0, 2, 1) .l) (498, 498, -1, 1, 0) (.n (.n .l (499, 499, -2, 0, -1) .l) (500, 501, 1114112, 1114112, 1114112) .l)) (502, 502, 0, -97, 0) (.n (.n (.n .l (503, 503, 0, -56, 0) .l) (504, 543, 1114112, 1114112, 1114112) .l) (544, 544, 0, -130, 0) (.n .l (546, 563, 1114112, 1114112, 1114112) .l))) (570, 570, 0, 10795, 0) (.n (.n (.n (.n .l (571, 572, 1114112, 1114112, 1114112) .l) (573, 573, 0, -163, 0) .l) (574, 574, 0, 10792, 0) (.n .l (575, 576, 10815, 0, 10815) .l)) (577, 578, 1114112, 1114112, 1114112) (.n (.n (.n .l (579, 579, 0, -195, 0) .l) (580, 580, 0, 69, 0) .l) (581, 581, 0, 71, 0) (.n .l (582, 591, 1114112, 1114112, 1114112) .l)))))) (592, 592, 10783, 0, 10783) (.n (.n (.n (.n (.n (.n (.n .l (593, 593, 10780, 0, 10780) .l) (594, 594, 10782, 0, 10782) .l) (595, 595, -210, 0, -210) (.n (.n .l (596, 596, -206, 0, -206) .l) (598, 599, -205, 0, -205) .l)) (601, 601, -202, 0, -202) (.n (.n (.n .l (603, 603, -203, 0, -203) .l) (604, 604, 42319, 0, 42319) .l) (608, 608, -205, 0, -205) (.n .l (609, 609, 42315, 0, 42315) .l))) (611, 611, -207, 0, -207) (.n (.n (.n (.n .l (612, 612, 42343, 0, 42343) .l) (613, 613, 42280, 0, 42280) .l) (614, 614, 42308, 0, 42308) (.n .l (616, 616, -209, 0, -209) .l)) (617, 617, -211, 0, -211) (.n (.n (.n .l (618, 618, 42308, 0, 42308) .l) (619, 619, 10743, 0, 10743) .l) (620, 620, 42305, 0, 42305) (.n .l (623, 623, -211, 0, -211) .l)))) (625, 625, 10749, 0, 10749) (.n (.n (.n (.n (.n .l (626, 626, -213, 0, -213) .l) (629, 629, -214, 0, -214) .l) (637, 637, 10727, 0, 10727) (.n (.n .l (640, 640, -218, 0, -218) .l) (642, 642, 42307, 0, 42307) .l)) (643, 643, -218, 0, -218) (.n (.n (.n .l (647, 647, 42282, 0, 42282) .l) (648, 648, -218, 0, -218) .l) (649, 649, -69, 0, -69) (.n .l (650, 651, -217, 0, -217) .l))) (652, 652, -71, 0, -71) (.n (.n (.n (.n .l (658, 658, -219, 0, -219) .l) (669, 669, 42261, 0, 42261) .l) (670, 670, 42258, 0, 42258) (.n .l (837, 837, 84, 0, 84) .l)) (880, 883, 1114112, 1114112, 1114112) (.n (.n (.n .l (886, 887, 1114112, 1114112, 1114112) .l) (891, 893, 130, 0, 130) .l) (895, 895, 0, 116, 0) (.n .l (902, 902, 0, 38, 0) .l))))) (904, 906, 0, 37, 0) (.n (.n (.n (.n (.n (.n .l (908, 908, 0, 64, 0) .l) (910, 911, 0, 63, 0) .l) (913, 929, 0, 32, 0) (.n (.n .l (931, 939, 0, 32, 0) .l) (940, 940, -38, 0, -38) .l)) (941, 943, -37, 0, -37) (.n (.n (.n .l (945, 961, -32, 0, -32) .l) (962, 962, -31, 0, -31) .l) (963, 971, -32, 0, -32) (.n .l (972, 972, -64, 0, -64) .l))) (973, 974, -63, 0, -63) (.n (.n (.n (.n .l (975, 975, 0, 8, 0) .l) (976, 976, -62, 0, -62) .l) (977, 977, -57, 0, -57) (.n .l (981, 981, -47, 0, -47) .l)) (982, 982, -54, 0, -54) (.n (.n (.n .l (983, 983, -8, 0, -8) .l) (984, 1007, 1114112, 1114112, 1114112) .l) (1008, 1008, -86, 0, -86) (.n .l (1009, 1009, -80, 0, -80) .l)))) (1010, 1010, 7, 0, 7) (.n (.n (.n (.n (.n .l (1011, 1011, -116, 0, -116) .l) (1012, 1012, 0, -60, 0) .l) (1013, 1013, -96, 0, -96) (.n (.n .l (1015, 1016, 1114112, 1114112, 1114112) .l) (1017, 1017, 0, -7, 0) .l)) (1018, 1019, 1114112, 1114112, 1114112) (.n (.n (.n .l (1021, 1023, 0, -130, 0) .l) (1024, 1039, 0, 80, 0) .l) (1040, 1071, 0, 32, 0) (.n .l (1072, 1103, -32, 0, -32) .l))) (1104, 1119, -80, 0, -80) (.n (.n (.n (.n .l (1120, 1153, 1114112, 1114112, 1114112) .l) (1162, 1215, 1114112, 1114112, 1114112) .l) (1216, 1216, 0, 15, 0) (.n .l (1217, 1230, 1114112, 1114112, 1114112) .l)) (1231, 1231, -15, 0, -15) (.n (.n (.n .l (1232, 1327, 1114112, 1114112, 1114112) .l) (1329, 1366, 0, 48, 0) .l) (1377, 1414, -48, 0, -48) (.n .l (4256, 4293, 0, 7264, 0) .l))))))) (4295, 4295, 0, 7264, 0) (.n (.n (.n (.n (.n (.n (.n (.n .l (4301, 4301, 0, 7264, 0) .l) (4304, 4346, 3008, 0, 0) .l) (4349, 4351, 3008, 0, 0) (.n (.n .l (5024, 5103, 0, 38864, 0) .l) (5104, 5109, 0, 8, 0) .l)) (5112, 5117, -8, 0, -8) (.n (.n (.n .l (7296, 7296, -6254, 0, -6254) .l) (7297, 7297, -6253, 0, -6253) .l) (7298, 7298, -6244, 0, -6244) (.n .l (7299, 7300, -6242, 0, -6242) .l))) (7301, 7301, -6243, 0, -6243) (.n (.n (.n (.n .l (7302, 7302, -6236, 0, -6236) .l) (7303, 7303, -6181, 0, -6181) .l) (7304, 7304, 35266, 0, 35266) (.n .l (7305, 7306, 1114112, 1114112, 1114112) .l)) (7312, 7354, 0, -3008, 0) (.n (.n (.n .l (7357, 7359, 0, -3008, 0) .l) (7545, 7545, 35332, 0, 35332) .l) (7549, 7549, 3814, 0, 3814) (.n .l (7566, 7566, 35384, 0, 35384) .l)))) (7680, 7829, 1114112, 1114112, 1114112) (.n (.n (.n (.n (.n .l (7835, 7835, -59, 0, -59) .l) (7838, 7838, 0, -7615, 0) .l) (7840, 7935, 1114112, 1114112, 1114112) (.n (.n .l (7936, 7943, 8, 0, 8) .l) (7944, 7951, 0, -8, 0) .l)) (7952, 7957, 8, 0, 8) (.n (.n (.n .l (7960, 7965, 0, -8, 0) .l) (7968, 7975, 8, 0, 8) .l) (7976, 7983, 0, -8, 0) (.n .l (7984, 7991, 8, 0, 8) .l))) (7992, 7999, 0, -8, 0) (.n (.n (.n (.n .l (8000, 8005, 8, 0, 8) .l) (8008, 8013, 0, -8, 0) .l) (8017, 8017, 8, 0, 8) (.n .l (8019, 8019, 8, 0, 8) .l)) (8021, 8021, 8, 0, 8) (.n (.n (.n .l (8023, 8023, 8, 0, 8) .l) (8025, 8025, 0, -8, 0) .l) (8027, 8027, 0, -8, 0) (.n .l (8029, 8029, 0, -8, 0) .l))))) (8031, 8031, 0, -8, 0) (.n (.n (.n (.n (.n (.n .l (8032, 8039, 8, 0, 8) .l) (8040, 8047, 0, -8, 0) .l) (8048, 8049, 74, 0, 74) (.n (.n .l (8050, 8053, 86, 0, 86) .l) (8054, 8055, 100, 0, 100) .l)) (8056, 8057, 128, 0, 128) (.n (.n (.n .l (8058, 8059, 112, 0, 112) .l) (8060, 8061, 126, 0, 126) .l) (8064, 8071, 8, 0, 8) (.n .l (8072, 8079, 0, -8, 0) .l))) (8080, 8087, 8, 0, 8) (.n (.n (.n (.n .l (8088, 8095, 0, -8, 0) .l) (8096, 8103, 8, 0, 8) .l) (8104, 8111, 0, -8, 0) (.n .l (8112, 8113, 8, 0, 8) .l)) (8115, 8115, 9, 0, 9) (.n (.n (.n .l (8120, 8121, 0, -8, 0) .l) (8122, 8123, 0, -74, 0) .l) (8124, 8124, 0, -9, 0) (.n .l (8126, 8126, -7205, 0, -7205) .l)))) (8131, 8131, 9, 0, 9) (.n (.n (.n (.n (.n .l (8136, 8139, 0, -86, 0) .l) (8140, 8140, 0, -9, 0) .l) (8144, 8145, 8, 0, 8) (.n (.n .l (8152, 8153, 0, -8, 0) .l) (8154, 8155, 0, -100, 0) .l)) (8160, 8161, 8, 0, 8) (.n (.n (.n .l (8165, 8165, 7, 0, 7) .l) (8168, 8169, 0, -8, 0) .l) (8170, 8171, 0, -112, 0) (.n .l (8172, 8172, 0, -7, 0) .l))) (8179, 8179, 9, 0, 9) (.n (.n (.n (.n .l (8184, 8185, 0, -128, 0) .l) (8186, 8187, 0, -126, 0) .l) (8188, 8188, 0, -9, 0) (.n .l (8486, 8486, 0, -7517, 0) .l)) (8490, 8490, 0, -8383, 0) (.n (.n (.n .l (8491, 8491, 0, -8262, 0) .l) (8498, 8498, 0, 28, 0) .l) (8526, 8526, -28, 0, -28) (.n .l (8544, 8559, 0, 16, 0) .l)))))) (8560, 8575, -16, 0, -16) (.n (.n (.n (.n (.n (.n (.n .l (8579, 8580, 1114112, 1114112, 1114112) .l) (9398, 9423, 0, 26, 0) .l) (9424, 9449, -26, 0, -26) (.n (.n .l (11264, 11311, 0, 48, 0) .l) (11312, 11359, -48, 0, -48) .l)) (11360, 11361, 1114112, 1114112, 1114112) (.n (.n (.n .l (11362, 11362, 0, -10743, 0) .l) (11363, 11363, 0, -3814, 0) .l) (11364, 11364, 0, -10727, 0) (.n .l (11365, 11365, -10795, 0, -10795) .l))) (11366, 11366, -10792, 0, -10792) (.n (.n (.n (.n .l (11367, 11372, 1114112, 1114112, 1114112) .l) (11373, 11373, 0, -10780, 0) .l) (11374, 11374, 0, -10749, 0) (.n .l (11375, 11375, 0, -10783, 0) .l)) (11376, 11376, 0, -10782, 0) (.n (.n (.n .l (11378, 11379, 1114112, 1114112, 1114112) .l) (11381, 11382, 1114112, 1114112, 1114112) .l) (11390, 11391, 0, -10815, 0) (.n .l (11392, 11491, 1114112, 1114112, 1114112) .l)))) (11499, 11502, 1114112, 1114112, 1114112) (.n (.n (.n (.n (.n .l (11506, 11507, 1114112, 1114112, 1114112) .l) (11520, 11557, -7264, 0, -7264) .l) (11559, 11559, -7264, 0, -7264) (.n (.n .l (11565, 11565, -7264, 0, -7264) .l) (42560, 42605, 1114112, 1114112, 1114112) .l)) (42624, 42651, 1114112, 1114112, 1114112) (.n (.n (.n .l (42786, 42799, 1114112, 1114112, 1114112) .l) (42802, 42863, 1114112, 1114112, 1114112) .l) (42873, 42876, 1114112, 1114112, 1114112) (.n .l (42877, 42877, 0, -35332, 0) .l))) (42878, 42887, 1114112, 1114112, 1114112) (.n (.n (.n (.n .l (42891, 42892, 1114112, 1114112, 1114112) .l) (42893, 42893, 0, -42280, 0) .l) (42896, 42899, 1114112, 1114112, 1114112) (.n .l (42900, 42900, 48, 0, 48) .l)) (42902, 42921, 1114112, 1114112, 1114112) (.n (.n (.n .l (42922, 42922, 0, -42308, 0) .l) (42923, 42923, 0, -42319, 0) .l) (42924, 42924, 0, -42315, 0) (.n .l (42925, 42925, 0, -42305, 0) .l))))) (42926, 42926, 0, -42308, 0) (.n (.n (.n (.n (.n (.n .l (42928, 42928, 0, -42258, 0) .l) (42929, 42929, 0, -42282, 0) .l) (42930, 42930, 0, -42261, 0) (.n (.n .l (42931, 42931, 0, 928, 0) .l) (42932, 42947, 1114112, 1114112, 1114112) .l)) (42948, 42948, 0, -48, 0) (.n (.n (.n .l (42949, 42949, 0, -42307, 0) .l) (42950, 42950, 0, -35384, 0) .l) (42951, 42954, 1114112, 1114112, 1114112) (.n .l (42955, 42955, 0, -42343, 0) .l))) (42956, 42971, 1114112, 1114112, 1114112) (.n (.n (.n (.n .l (42972, 42972, 0, -42561, 0) .l) (42997, 42998, 1114112, 1114112, 1114112) .l) (43859, 43859, -928, 0, -928) (.n .l (43888, 43967, -38864, 0, -38864) .l)) (65313, 65338, 0, 32, 0) (.n (.n (.n .l (65345, 65370, -32, 0, -32) .l) (66560, 66599, 0, 40, 0) .l) (66600, 66639, -40, 0, -40) (.n .l (66736, 66771, 0, 40, 0) .l)))) (66776, 66811, -40, 0, -40) (.n (.n (.n (.n (.n .l (66928, 66938, 0, 39, 0) .l) (66940, 66954, 0, 39, 0) .l) (66956, 66962, 0, 39, 0) (.n (.n .l (66964, 66965, 0, 39, 0) .l) (66967, 66977, -39, 0, -39) .l)) (66979, 66993, -39, 0, -39) (.n (.n (.n .l (66995, 67001, -39, 0, -39) .l) (67003, 67004, -39, 0, -39) .l) (68736, 68786, 0, 64, 0) (.n .l (68800, 68850, -64, 0, -64) .l))) (68944, 68965, 0, 32, 0) (.n (.n (.n (.n .l (68976, 68997, -32, 0, -32) .l) (71840, 71871, 0, 32, 0) .l) (71872, 71903, -32, 0, -32) (.n .l (93760, 93791, 0, 32, 0) .l)) (93792, 93823, -32, 0, -32) (.n (.n (.n .l (93856, 93880, 0, 27, 0) .l) (93883, 93907, -27, 0, -27) .l) (125184, 125217, 0, 34, 0) (.n .l (125218, 125251, -34, 0, -34) .l))))))))
set_option maxRecDepth 100000 in
theorem tree_rows : caseTree.rows = caseT := by decide +kernel

/-! The library's binary search finds the row that holds a rune. -/
theorem idx_find {T : Array CaseRow} {r : Int} {k : Nat} (hs : ∀ i j, i < j → j < T.size → (T.getD i (0, 0, 0, 0, 0)).2.1 < (T.getD j (0, 0, 0, 0, 0)).1) (hw : ∀ i, i < T.size → (T.getD i (0, 0, 0, 0, 0)).1 ≤ (T.getD i (0, 0, 0, 0, 0)).2.1) (hk : k < T.size)
    (h1 : ((T.getD k (0, 0, 0, 0, 0)).1 : Int) ≤ r) (h2 : r ≤ ((T.getD k (0, 0, 0, 0, 0)).2.1 : Int)) (f lo hi : Nat) (l1 : lo ≤ k) (l2 : k < hi) (l3 : hi ≤ T.size) (l4 : hi - lo < f) : lookupIdx T r f lo hi = some k := by
  induction f generalizing lo hi with
  | zero => omega
  | succ f ih =>
    unfold lookupIdx
    rw [if_pos (by omega)]
    rcases Nat.lt_trichotomy ((lo + hi) / 2) k with h | h | h
    · have q := hs _ _ h hk
      have q2 := hw ((lo + hi) / 2) (by omega)
      rw [if_neg (by omega), if_neg (by omega)]
      exact ih _ _ (by omega) l2 l3 (by omega)
    · rw [h, if_pos ⟨h1, h2⟩]
    · have q := hs _ _ h (by omega)
      rw [if_neg (by omega), if_pos (by omega)]
      exact ih _ _ l1 h (by omega) (by omega)
theorem idx_in {T : Array CaseRow} {r : Int} {k : Nat} (f lo hi : Nat) (l3 : hi ≤ T.size) (h : lookupIdx T r f lo hi = some k) : k < T.size ∧ ((T.getD k (0, 0, 0, 0, 0)).1 : Int) ≤ r ∧ r ≤ ((T.getD k (0, 0, 0, 0, 0)).2.1 : Int) := by
  induction f generalizing lo hi with
  | zero => cases h
  | succ f ih =>
    unfold lookupIdx at h
    by_cases h0 : lo < hi
    · rw [if_pos h0] at h
      split at h
      · rename_i h1
        cases h
        exact ⟨by omega, h1.1, h1.2⟩
      · split at h
        · exact ih _ _ (by omega) h
        · exact ih _ _ l3 h
    · rw [if_neg h0] at h
      cases h

set_option maxRecDepth 100000 in
theorem rows_apart : caseT.Pairwise (fun x y => x.2.1 < y.1) := by decide +kernel
set_option maxRecDepth 100000 in
theorem rows_whole : ∀ x ∈ caseT, x.1 ≤ x.2.1 := by decide +kernel
theorem caseA_size : caseA.size = caseT.length := by unfold caseA; simp
theorem caseA_at (i : Nat) (hi : i < caseA.size) : caseA.getD i (0, 0, 0, 0, 0) = caseT[i]'(by rw [← caseA_size]; exact hi) := by
  unfold caseA
  simp [Array.getD, caseA_size ▸ hi]
theorem apart (i j : Nat) (h : i < j) (hj : j < caseA.size) : (caseA.getD i (0, 0, 0, 0, 0)).2.1 < (caseA.getD j (0, 0, 0, 0, 0)).1 := by
  rw [caseA_at i (by omega), caseA_at j hj]
  exact List.pairwise_iff_getElem.1 rows_apart i j _ _ h
theorem whole (i : Nat) (hi : i < caseA.size) : (caseA.getD i (0, 0, 0, 0, 0)).1 ≤ (caseA.getD i (0, 0, 0, 0, 0)).2.1 := by
  rw [caseA_at i hi]
  exact rows_whole _ (List.getElem_mem _)

/-- The row of a rune. -/
def rowOf (r : Int) : Option CaseRow := lookupGo caseA r (caseA.size + 1) 0 caseA.size
theorem look_in (T : Array CaseRow) {r : Int} {x : CaseRow} (h : lookupGo T r (T.size + 1) 0 T.size = some x) : ∃ i, i < T.size ∧ x = T.getD i (0, 0, 0, 0, 0) ∧ (x.1 : Int) ≤ r ∧ r ≤ (x.2.1 : Int) := by
  unfold lookupGo at h
  obtain ⟨i, hi, hx⟩ := Option.map_eq_some_iff.1 h
  obtain ⟨h1, h2, h3⟩ := idx_in _ _ _ (Nat.le_refl _) hi
  subst hx
  exact ⟨i, h1, rfl, h2, h3⟩
theorem look_at (T : Array CaseRow) {r : Int} {i : Nat} (hs : ∀ i j, i < j → j < T.size → (T.getD i (0, 0, 0, 0, 0)).2.1 < (T.getD j (0, 0, 0, 0, 0)).1) (hw : ∀ i, i < T.size → (T.getD i (0, 0, 0, 0, 0)).1 ≤ (T.getD i (0, 0, 0, 0, 0)).2.1) (hi : i < T.size)
    (h1 : ((T.getD i (0, 0, 0, 0, 0)).1 : Int) ≤ r) (h2 : r ≤ ((T.getD i (0, 0, 0, 0, 0)).2.1 : Int)) : lookupGo T r (T.size + 1) 0 T.size = some (T.getD i (0, 0, 0, 0, 0)) := by
  unfold lookupGo
  rw [idx_find hs hw hi h1 h2 _ _ _ (Nat.zero_le _) hi (Nat.le_refl _) (by omega)]
  rfl
theorem rowOf_mem {r : Int} {x : CaseRow} (h : rowOf r = some x) : x ∈ caseT ∧ (x.1 : Int) ≤ r ∧ r ≤ (x.2.1 : Int) := by
  obtain ⟨i, hi, hx, h2, h3⟩ := look_in caseA h
  refine ⟨?_, h2, h3⟩
  rw [hx, caseA_at i hi]
  exact List.getElem_mem _
theorem rowOf_of_mem {r : Nat} {x : CaseRow} (h : x ∈ caseT) (h1 : x.1 ≤ r) (h2 : r ≤ x.2.1) : rowOf r = some x := by
  obtain ⟨i, hi, hx⟩ := List.getElem_of_mem h
  have hi' : i < caseA.size := by rw [caseA_size]; exact hi
  have e : caseA.getD i (0, 0, 0, 0, 0) = x := (caseA_at i hi').trans hx
  have h3 := look_at caseA (r := (r : Int)) apart whole hi' (by rw [e]; omega) (by rw [e]; omega)
  rw [e] at h3
  exact h3

/-- What a row makes of a rune. -/
def stepR (r : Int) (x : CaseRow) : Int := if convertR 1 r x = r then convertR 0 r x else convertR 1 r x
def orbGet (r : Nat) : Option Nat := (orbT.find? fun p => p.1 == r).map (·.2)
/-- unicode.SimpleFold. -/
def foldI (r : Int) : Int :=
  if r < 0 ∨ 1114111 < r then r else if r < 128 then ((ascF.getD r.toNat 0 : Nat) : Int) else
  match orbGet r.toNat with
  | some t => (t : Int)
  | none => match rowOf r with
    | some x => stepR r x
    | none => r
def foldC (r : Nat) : Option Int :=
  if r < 128 then some ((ascF.getD r 0 : Nat) : Int) else
  match orbGet r with
  | some t => some (t : Int)
  | none => (caseTree.look r).map fun x => stepR r x
theorem foldC_sound {r : Nat} (h : r ≤ 1114111) {v : Int} (hv : foldC r = some v) : foldI r = v := by
  unfold foldC at hv
  unfold foldI
  rw [if_neg (by omega)]
  by_cases h1 : r < 128
  · rw [if_pos h1] at hv
    rw [if_pos (by omega), Int.toNat_natCast]
    exact Option.some.inj hv
  · rw [if_neg h1] at hv
    rw [if_neg (by omega), Int.toNat_natCast]
    cases ho : orbGet r with
    | some t =>
      rw [ho] at hv
      exact Option.some.inj hv
    | none =>
      rw [ho] at hv
      obtain ⟨x, hx, rfl⟩ := Option.map_eq_some_iff.1 hv
      obtain ⟨h2, h3, h4⟩ := RT.look_ok hx
      rw [tree_rows] at h2
      simp only [rowOf_of_mem h2 h3 h4]

/-- It comes back to r0 within n steps. -/
def backIn : Nat → Nat → Nat → Bool
  | 0, _, _ => false
  | n + 1, r0, r => match foldC r with
    | some v => Nat.ble v.toNat 1114111 && ((v.toNat : Int) == v) && (v.toNat == r0 || backIn n r0 v.toNat)
    | none => false
set_option maxRecDepth 100000 in
set_option maxHeartbeats 0 in
theorem all_back : ((List.range 128).all fun r => backIn 4 r r) = true ∧ (orbT.all fun p => backIn 4 p.1 p.1) = true ∧ (caseT.all fun x => (List.range (x.2.1 + 1 - x.1)).all fun i => backIn 4 (x.1 + i) (x.1 + i)) = true := by decide +kernel

/-- The i-th rune behind r. -/
def nthF (r : Int) : Nat → Int
  | 0 => r
  | i + 1 => foldI (nthF r i)
theorem back_nth {n r0 r : Nat} {s : Int} {i : Nat} (h : backIn n r0 r = true) (hr : r ≤ 1114111) (e : nthF s i = r) : ∃ k, k < n ∧ nthF s (i + 1 + k) = r0 := by
  induction n generalizing r i with
  | zero => cases h
  | succ n ih =>
    unfold backIn at h
    cases hv : foldC r with
    | none => rw [hv] at h; cases h
    | some v =>
      rw [hv] at h
      simp only [Bool.and_eq_true, Bool.or_eq_true, beq_iff_eq] at h
      obtain ⟨⟨h1, h2⟩, h3⟩ := h
      have h1 : v.toNat ≤ 1114111 := Nat.le_of_ble_eq_true h1
      have e2 : nthF s (i + 1) = v := by
        show foldI (nthF s i) = v
        rw [e]
        exact foldC_sound hr hv
      rcases h3 with h3 | h3
      · exact ⟨0, Nat.succ_pos _, by rw [Nat.add_zero, e2, ← h2, h3]⟩
      · obtain ⟨k, hk, he⟩ := ih (i := i + 1) h3 h1 (by rw [e2, h2])
        exact ⟨k + 1, by omega, by rw [← he, show i + 1 + (k + 1) = i + 1 + 1 + k by omega]⟩

theorem orbGet_mem {r t : Nat} (h : orbGet r = some t) : ∃ p ∈ orbT, p.1 = r ∧ p.2 = t := by
  unfold orbGet at h
  obtain ⟨p, hp, rfl⟩ := Option.map_eq_some_iff.1 h
  exact ⟨p, List.mem_of_find?_eq_some hp, by simpa using List.find?_some hp, rfl⟩

/-- Four steps lead back. -/
theorem fold_back (r : Int) : ∃ k, k < 4 ∧ nthF r (1 + k) = r := by
  have key : ∀ m : Nat, r = m → m ≤ 1114111 → backIn 4 m m = true → ∃ k, k < 4 ∧ nthF r (1 + k) = r := fun m e h1 h2 => by
    obtain ⟨k, hk, he⟩ := back_nth (s := r) (i := 0) h2 h1 e
    exact ⟨k, hk, by rw [Nat.zero_add] at he; rw [he, e]⟩
  by_cases h0 : r < 0 ∨ 1114111 < r
  · exact ⟨0, by omega, by show foldI r = r; unfold foldI; rw [if_pos h0]⟩
  obtain ⟨m, rfl⟩ : ∃ m : Nat, r = m := ⟨r.toNat, by omega⟩
  by_cases h1 : m < 128
  · exact key m rfl (by omega) (List.all_eq_true.1 all_back.1 m (List.mem_range.2 h1))
  cases ho : orbGet m with
  | some t =>
    obtain ⟨p, hp, rfl, _⟩ := orbGet_mem ho
    exact key _ rfl (by omega) (List.all_eq_true.1 all_back.2.1 p hp)
  | none =>
    cases hx : rowOf m with
    | some x =>
      obtain ⟨g1, g2, g3⟩ := rowOf_mem hx
      have g4 := List.all_eq_true.1 (List.all_eq_true.1 all_back.2.2 x g1) (m - x.1) (List.mem_range.2 (by omega))
      rw [show x.1 + (m - x.1) = m by omega] at g4
      exact key m rfl (by omega) g4
    | none =>
      refine ⟨0, by omega, ?_⟩
      show foldI m = m
      unfold foldI
      rw [if_neg h0, if_neg (by omega), Int.toNat_natCast, ho, hx]
end Go.Proofs.YtnoghiefpdbpbaaGreatFmt
