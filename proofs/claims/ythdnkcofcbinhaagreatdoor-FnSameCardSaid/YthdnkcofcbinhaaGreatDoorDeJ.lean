/- describeSchema: its frame, its statements, and the words of its sections (no program's steps here). -/
import Derived.Test.YthdnkcofcbinhaaGreatDoorKwJ
import Derived.Test.YthdnkcofcbinhaaGreatDoorScJ
import Derived.Deep.Cut
import Derived.Deep.CutRange
set_option linter.unusedVariables false
set_option linter.unusedSimpArgs false
namespace Go.Proofs.YthdnkcofcbinhaaGreatDoor
open Go.RowKit

theorem bs_app (a b : ByteArray) : bs (a ++ b) = bs a ++ bs b := by simp [bs]
theorem bs_len (a : ByteArray) : (bs a).length = a.size := rfl
/-- A text and what follows of it. -/
def Fits (r : ByteArray) (rest whole : List UInt8) : Prop := bs r ++ rest = whole
theorem Fits.size {r : ByteArray} {rest whole : List UInt8} (h : Fits r rest whole) : r.size + rest.length = whole.length := by
  have := congrArg List.length h
  simpa [bs_len] using this
theorem Fits.add {r s : ByteArray} {rest whole : List UInt8} (h : Fits r (bs s ++ rest) whole) : Fits (r ++ s) rest whole := by
  unfold Fits at *
  rw [bs_app, List.append_assoc]
  exact h
theorem Fits.app {r s : ByteArray} {L rest whole : List UInt8} (h : Fits r L whole) (e : L = bs s ++ rest) : Fits (r ++ s) rest whole := Fits.add (e ▸ h)

theorem itemsT_at {R : List UInt8 → Dat → List UInt8} {ind : List UInt8} {xs : List Dat} {i : Nat} (h : i < xs.length) : itemsT R ind i (xs.drop i) = ind ++ ([32, 32] ++ (bs (intText (i : Int)) ++ ([58, 10] ++ (R (ind ++ [32, 32, 32, 32]) xs[i] ++ itemsT R ind (i + 1) (xs.drop (i + 1)))))) := by
  rw [List.drop_eq_getElem_cons h]
  rfl
theorem itemsT_end {R : List UInt8 → Dat → List UInt8} {ind : List UInt8} {xs : List Dat} {n i : Nat} (h : xs.length ≤ i) : itemsT R ind n (xs.drop i) = [] := by
  rw [List.drop_of_length_le h]
  rfl
theorem namedT_at {R : List UInt8 → Dat → List UInt8} {ind : List UInt8} {ks : List ByteArray} {xs : List Dat} {i : Nat} (h' : i < ks.length) (h : i < xs.length) : namedT R ind (ks.drop i) (xs.drop i) = ind ++ ([32, 32] ++ (bs ks[i] ++ ([58, 10] ++ (R (ind ++ [32, 32, 32, 32]) xs[i] ++ namedT R ind (ks.drop (i + 1)) (xs.drop (i + 1)))))) := by
  rw [List.drop_eq_getElem_cons h, List.drop_eq_getElem_cons h']
  rfl
theorem namedT_end {R : List UInt8 → Dat → List UInt8} {ind : List UInt8} {ks : List ByteArray} {xs : List Dat} {i : Nat} (h : xs.length ≤ i) : namedT R ind (ks.drop i) (xs.drop i) = [] := by
  rw [List.drop_of_length_le h]
  cases ks.drop i <;> rfl
theorem linesT_at {ind : List UInt8} {xs : List Dat} {i : Nat} (h : i < xs.length) : linesT ind (xs.drop i) = ind ++ ([32, 32, 32, 32] ++ (bs xs[i].text ++ ([10] ++ linesT ind (xs.drop (i + 1))))) := by
  rw [List.drop_eq_getElem_cons h]
  rfl
theorem linesT_end {ind : List UInt8} {xs : List Dat} {i : Nat} (h : xs.length ≤ i) : linesT ind (xs.drop i) = [] := by
  rw [List.drop_of_length_le h]
  rfl
theorem depsT_at {ind : List UInt8} {ks : List ByteArray} {xs : List Dat} {i : Nat} (h' : i < ks.length) (h : i < xs.length) : depsT ind (ks.drop i) (xs.drop i) = ind ++ ([32, 32] ++ (bs ks[i] ++ ([58, 10] ++ (linesT ind (xs[i].items.drop 0) ++ depsT ind (ks.drop (i + 1)) (xs.drop (i + 1)))))) := by
  rw [List.drop_eq_getElem_cons h, List.drop_eq_getElem_cons h']
  rfl
theorem depsT_end {ind : List UInt8} {ks : List ByteArray} {xs : List Dat} {i : Nat} (h : xs.length ≤ i) : depsT ind (ks.drop i) (xs.drop i) = [] := by
  rw [List.drop_of_length_le h]
  cases ks.drop i <;> rfl
theorem enumT_at {ind : List UInt8} {xs : List Dat} {i : Nat} (h : i < xs.length) : enumT ind (xs.drop i) = ind ++ ([32, 32] ++ (bs (if xs[i].kind = 3 then xs[i].text else boolT xs[i]) ++ ([10] ++ enumT ind (xs.drop (i + 1))))) := by
  rw [List.drop_eq_getElem_cons h]
  rfl
theorem enumT_end {ind : List UInt8} {xs : List Dat} {i : Nat} (h : xs.length ≤ i) : enumT ind (xs.drop i) = [] := by
  rw [List.drop_of_length_le h]
  rfl
theorem listT_at {R : List UInt8 → Dat → List UInt8} {ind : List UInt8} {xs : List Dat} {i : Nat} (h : i < xs.length) : listT R ind (xs.drop i) = R (ind ++ [32, 32]) xs[i] ++ (ind ++ ([45, 10] ++ listT R ind (xs.drop (i + 1)))) := by
  rw [List.drop_eq_getElem_cons h]
  rfl
theorem listT_end {R : List UInt8 → Dat → List UInt8} {ind : List UInt8} {xs : List Dat} {i : Nat} (h : xs.length ≤ i) : listT R ind (xs.drop i) = [] := by
  rw [List.drop_of_length_le h]
  rfl

/-- What describeSchema gives. -/
def GivesText (t : List UInt8) (w : World) (e : Ending) (w' : World) : Prop := ∃ s : ByteArray, e = .returned (.string s) ∧ bs s = t ∧ Below w.heap.size w w'

/-- The statements of a body, one by one. -/
def stmtAt : Nat → Code → Code
  | 0, .seq a _ => a
  | n + 1, .seq _ b => stmtAt n b
  | _, _ => .skip
def restAt : Nat → Code → Code
  | 0, c => c
  | n + 1, .seq _ b => restAt n b
  | _, _ => .skip
noncomputable def dBody : Code := (Tryz.f51.body).getD .skip
noncomputable def dSec (k : Nat) : Code := stmtAt k dBody
noncomputable def dRest (k : Nat) : Code := restAt k dBody

set_option maxRecDepth 1000000 in
def dlit (b : Nat) (ind r : ByteArray) (u : Nat → Value) : Act := ⟨#[.pointer (some ⟨b, 0, none⟩), .string ind, u 2, u 3, u 4, .string r, u 6, u 7, u 8, u 9, u 10, u 11, u 12, u 13, u 14, u 15, u 16, u 17, u 18, u 19, u 20, u 21, u 22, u 23, u 24, u 25, u 26, u 27, u 28, u 29, u 30, u 31, u 32, u 33, u 34, u 35, u 36, u 37, u 38, u 39, u 40, u 41, u 42, u 43, u 44, u 45, u 46, u 47, u 48, u 49, u 50, u 51, u 52, u 53, u 54, u 55, u 56, u 57, u 58, u 59, u 60, u 61, u 62, u 63, u 64, u 65, u 66, u 67, u 68, u 69, u 70, u 71, u 72, u 73, u 74, u 75, u 76, u 77, u 78, u 79, u 80, u 81, u 82, u 83, u 84, u 85, u 86, u 87, u 88, u 89, u 90, u 91, u 92, u 93, u 94, u 95, u 96, u 97, u 98, u 99, u 100, u 101, u 102, u 103, u 104, u 105, u 106, u 107, u 108, u 109, u 110, u 111, u 112, u 113, u 114, u 115, u 116, u 117, u 118, u 119, u 120, u 121, u 122, u 123, u 124, u 125, u 126, u 127, u 128, u 129, u 130, u 131, u 132, u 133, u 134, u 135, u 136, u 137, u 138, u 139, u 140, u 141, u 142, u 143, u 144, u 145, u 146, u 147, u 148, u 149, u 150, u 151, u 152, u 153, u 154, u 155, u 156, u 157, u 158, u 159, u 160, u 161, u 162, u 163, u 164, u 165, u 166, u 167, u 168, u 169, u 170, u 171, u 172, u 173, u 174, u 175, u 176, u 177, u 178, u 179, u 180, u 181, u 182, u 183, u 184, u 185, u 186, u 187, u 188, u 189, u 190, u 191, u 192, u 193, u 194, u 195, u 196, u 197, u 198, u 199, u 200, u 201, u 202, u 203, u 204, u 205, u 206, u 207, u 208, u 209, u 210, u 211, u 212, u 213, u 214, u 215, u 216, u 217, u 218, u 219, u 220, u 221, u 222, u 223, u 224, u 225, u 226, u 227, u 228, u 229, u 230, u 231, u 232, u 233, u 234, u 235, u 236, u 237, u 238, u 239, u 240, u 241, u 242, u 243, u 244, u 245, u 246, u 247, u 248, u 249, u 250, u 251, u 252, u 253, u 254, u 255, u 256, u 257, u 258, u 259, u 260, u 261, u 262, u 263, u 264, u 265, u 266, u 267, u 268, u 269, u 270, u 271, u 272, u 273, u 274, u 275, u 276, u 277, u 278, u 279, u 280, u 281, u 282, u 283, u 284, u 285, u 286, u 287, u 288, u 289, u 290, u 291, u 292, u 293, u 294, u 295, u 296, u 297, u 298, u 299, u 300, u 301, u 302, u 303, u 304, u 305, u 306, u 307, u 308, u 309, u 310, u 311, u 312, u 313, u 314, u 315, u 316, u 317, u 318, u 319, u 320, u 321, u 322, u 323, u 324, u 325, u 326, u 327, u 328, u 329, u 330, u 331, u 332, u 333, u 334, u 335, u 336, u 337, u 338, u 339, u 340, u 341, u 342, u 343, u 344, u 345, u 346, u 347, u 348, u 349, u 350, u 351, u 352, u 353, u 354, u 355, u 356, u 357, u 358, u 359, u 360, u 361, u 362, u 363, u 364, u 365, u 366, u 367, u 368, u 369, u 370, u 371, u 372, u 373, u 374, u 375, u 376, u 377, u 378, u 379, u 380, u 381, u 382, u 383, u 384, u 385, u 386, u 387, u 388, u 389, u 390, u 391, u 392, u 393, u 394, u 395, u 396, u 397, u 398, u 399, u 400, u 401, u 402, u 403, u 404, u 405, u 406, u 407, u 408, u 409, u 410, u 411, u 412, u 413, u 414, u 415, u 416, u 417, u 418, u 419, u 420, u 421, u 422, u 423, u 424, u 425, u 426, u 427, u 428, u 429, u 430, u 431, u 432, u 433, u 434, u 435, u 436, u 437, u 438, u 439, u 440, u 441, u 442, u 443, u 444, u 445, u 446, u 447, u 448, u 449, u 450, u 451, u 452, u 453, u 454, u 455, u 456, u 457, u 458, u 459, u 460, u 461, u 462, u 463, u 464, u 465, u 466, u 467, u 468, u 469, u 470, u 471, u 472, u 473, u 474, u 475, u 476, u 477, u 478, u 479, u 480, u 481, u 482, u 483, u 484, u 485, u 486, u 487, u 488, u 489, u 490, u 491, u 492, u 493, u 494, u 495, u 496, u 497, u 498, u 499, u 500, u 501, u 502, u 503, u 504, u 505, u 506, u 507, u 508, u 509, u 510, u 511, u 512, u 513, u 514, u 515, u 516, u 517, u 518, u 519, u 520, u 521, u 522, u 523, u 524, u 525, u 526, u 527, u 528, u 529, u 530, u 531, u 532, u 533, u 534, u 535, u 536, u 537, u 538, u 539, u 540, u 541, u 542, u 543, u 544, u 545, u 546, u 547, u 548, u 549, u 550, u 551, u 552, u 553, u 554, u 555, u 556, u 557, u 558, u 559, u 560, u 561, u 562, u 563, u 564, u 565, u 566, u 567, u 568, u 569, u 570, u 571, u 572, u 573, u 574, u 575, u 576, u 577, u 578, u 579, u 580, u 581, u 582, u 583, u 584, u 585, u 586, u 587, u 588, u 589, u 590, u 591, u 592, u 593, u 594, u 595, u 596, u 597, u 598, u 599, u 600, u 601, u 602, u 603, u 604, u 605, u 606, u 607, u 608, u 609, u 610, u 611, u 612, u 613, u 614, u 615, u 616, u 617, u 618, u 619, u 620, u 621, u 622, u 623, u 624, u 625, u 626, u 627, u 628, u 629, u 630, u 631, u 632, u 633, u 634, u 635, u 636, u 637, u 638, u 639, u 640, u 641, u 642, u 643, u 644, u 645, u 646, u 647, u 648, u 649, u 650, u 651, u 652, u 653, u 654, u 655, u 656, u 657, u 658, u 659, u 660, u 661, u 662, u 663, u 664, u 665, u 666, u 667, u 668, u 669, u 670, u 671, u 672, u 673, u 674, u 675, u 676, u 677, u 678, u 679, u 680, u 681, u 682, u 683, u 684, u 685, u 686, u 687, u 688, u 689, u 690, u 691, u 692, u 693, u 694, u 695, u 696, u 697, u 698, u 699, u 700, u 701, u 702, u 703, u 704, u 705, u 706, u 707, u 708, u 709, u 710, u 711, u 712, u 713, u 714, u 715, u 716, u 717, u 718, u 719, u 720, u 721, u 722, u 723, u 724, u 725, u 726, u 727, u 728, u 729, u 730, u 731, u 732, u 733, u 734, u 735, u 736, u 737, u 738, u 739, u 740, u 741, u 742, u 743, u 744, u 745, u 746, u 747, u 748, u 749, u 750, u 751, u 752, u 753, u 754, u 755, u 756, u 757, u 758, u 759, u 760, u 761, u 762, u 763, u 764, u 765, u 766, u 767, u 768, u 769, u 770, u 771, u 772, u 773, u 774, u 775, u 776, u 777, u 778, u 779, u 780, u 781, u 782, u 783, u 784, u 785, u 786, u 787, u 788, u 789, u 790, u 791, u 792, u 793, u 794, u 795, u 796, u 797, u 798, u 799, u 800, u 801, u 802, u 803, u 804, u 805, u 806, u 807, u 808, u 809, u 810, u 811, u 812, u 813, u 814, u 815, u 816, u 817, u 818, u 819, u 820, u 821, u 822, u 823, u 824, u 825, u 826, u 827, u 828, u 829, u 830, u 831, u 832, u 833, u 834, u 835, u 836, u 837, u 838, u 839, u 840, u 841, u 842, u 843, u 844, u 845, u 846, u 847, u 848, u 849, u 850, u 851, u 852, u 853, u 854, u 855, u 856, u 857, u 858, u 859, u 860, u 861, u 862, u 863, u 864, u 865, u 866, u 867, u 868, u 869, u 870, u 871, u 872, u 873, u 874, u 875, u 876, u 877, u 878, u 879, u 880, u 881, u 882, u 883, u 884, u 885, u 886, u 887, u 888, u 889, u 890, u 891, u 892, u 893, u 894, u 895, u 896, u 897, u 898, u 899, u 900, u 901, u 902, u 903, u 904, u 905, u 906, u 907, u 908, u 909, u 910, u 911, u 912, u 913, u 914, u 915, u 916, u 917, u 918, u 919, u 920, u 921, u 922, u 923, u 924, u 925, u 926, u 927, u 928, u 929, u 930, u 931, u 932, u 933, u 934, u 935, u 936, u 937, u 938, u 939, u 940, u 941, u 942, u 943, u 944, u 945, u 946, u 947, u 948, u 949, u 950, u 951, u 952, u 953, u 954, u 955, u 956, u 957, u 958, u 959, u 960, u 961, u 962, u 963, u 964, u 965, u 966, u 967, u 968, u 969, u 970, u 971, u 972, u 973, u 974, u 975, u 976, u 977, u 978, u 979, u 980, u 981, u 982, u 983, u 984, u 985, u 986, u 987, u 988, u 989, u 990, u 991, u 992, u 993, u 994, u 995, u 996, u 997, u 998, u 999, u 1000, u 1001, u 1002, u 1003, u 1004, u 1005, u 1006, u 1007, u 1008], []⟩
/-- The frame behind a section that wrote named slots, and those from lo to hi. -/
def DFrame (b : Nat) (ind r : ByteArray) (u : Nat → Value) (lo hi : Nat) (a : Act) : Prop := a = dlit b ind r (fun i => bif (Nat.ble i 40 || (Nat.ble lo i && Nat.ble i hi)) then a.tmps.getD i undef else u i)

/-- A keyword's field, by the value that the key has, if any. -/
def FieldO (S : Nat → Prop) (w : World) (R : Dat → Nat → Prop) (code : Nat) (o : Option Dat) (f : Value) : Prop :=
  match o with
  | none => f = .pointer none
  | some x => FieldOk S w R code x f
/-- Behind a section: the text has grown, the world has new blocks alone. -/
def DK (b : Nat) (ind : ByteArray) (rest whole : List UInt8) (w : World) (K : Act → World → Prop) : Prop :=
  ∀ (r' : ByteArray) (u' : Nat → Value) (w' : World), Fits r' rest whole → Below w.heap.size w w' → K (dlit b ind r' u') w'
theorem DK.at {b lo hi : Nat} {ind r' : ByteArray} {u : Nat → Value} {rest whole : List UInt8} {w w' : World} {K : Act → World → Prop} {a : Act} (h : DK b ind rest whole w K) (hF : Fits r' rest whole) (hb : Below w.heap.size w w') (ha : DFrame b ind r' u lo hi a) : K a w' := by
  rw [show a = _ from ha]
  exact h _ _ _ hF hb
end Go.Proofs.YthdnkcofcbinhaaGreatDoor
