/- The loop of scanDoubleQuote: its body, its frame, what it holds. -/
import Derived.Test.YtpjfmfaijcbopaaGreatDoorQs
namespace Go.Proofs.YtpjfmfaijcbopaaGreatDoor
open Go.RowKit Go.Proofs

def firstLoop : Code → Option Code
  | .loop c => some c
  | .seq a b => match firstLoop a with
    | some c => some c
    | none => firstLoop b
  | .block _ c => firstLoop c
  | .cond _ a b => match firstLoop a with
    | some c => some c
    | none => firstLoop b
  | _ => none
noncomputable def qdBody : Code := ((Tryz.f99.body.bind firstLoop).getD .skip)

/-- The frame: the slots that hold something are written out, all others are what g says. -/
def qdFr (B pb n cap : Nat) (v i : Value) (g : Nat → Value) : Array Value := #[.pointer (some ⟨B, 0, none⟩), .pointer (some ⟨B + 3, 0, none⟩), g 2, g 3, .pointer none, .nilIface, .pointer (some ⟨pb, 0, none⟩), .int .i64 1, .slice (some ⟨B + 1, 0, none⟩) n cap, .int .i64 n, v,
    .bool false, .bool false, i, g 14, g 15, g 16, g 17, g 18, g 19, g 20, g 21, g 22, g 23, g 24, g 25, g 26, g 27, g 28, g 29, g 30, g 31, g 32, g 33, g 34, g 35, g 36, g 37, g 38, g 39, g 40, g 41, g
    42, g 43, g 44, g 45, g 46, g 47, g 48, g 49, g 50, g 51, g 52, g 53, g 54, g 55, g 56, g 57, g 58, g 59, g 60, g 61, g 62, g 63, g 64, g 65, g 66, g 67, g 68, g 69, g 70, g 71, g 72, g 73, g 74, g
    75, g 76, g 77, g 78, g 79, g 80, g 81, g 82, g 83, g 84, g 85, g 86, g 87, g 88, g 89, g 90, g 91, g 92, g 93, g 94, g 95, g 96, g 97, g 98, g 99, g 100, g 101, g 102, g 103, g 104, g 105, g 106, g
    107, g 108, g 109, g 110, g 111, g 112, g 113, g 114, g 115, g 116, g 117, g 118, g 119, g 120, g 121, g 122, g 123, g 124, g 125, g 126, g 127, g 128, g 129, g 130, g 131, g 132, g 133, g 134, g 135,
    g 136, g 137, g 138, g 139, g 140, g 141, g 142, g 143, g 144, g 145, g 146, g 147, g 148, g 149, g 150, g 151, g 152, g 153, g 154, g 155, g 156, g 157, g 158, g 159, g 160, g 161, g 162, g 163, g
    164, g 165, g 166, g 167, g 168, g 169, g 170, g 171, g 172, g 173, g 174, g 175, g 176, g 177, g 178, g 179, g 180, g 181, g 182, g 183, g 184, g 185, g 186, g 187, g 188, g 189, g 190, g 191, g 192,
    g 193, g 194, g 195, g 196, g 197, g 198, g 199, g 200, g 201, g 202, g 203, g 204, g 205, g 206, g 207, g 208, g 209, g 210, g 211, g 212, g 213, g 214, g 215, g 216, g 217, g 218, g 219, g 220, g
    221, g 222, g 223, g 224, g 225, g 226, g 227, g 228, g 229, g 230, g 231, g 232, g 233, g 234, g 235, g 236, g 237, g 238, g 239, g 240, g 241, g 242, g 243, g 244, g 245, g 246, g 247, g 248, g 249,
    g 250, g 251, g 252, g 253, g 254, g 255, g 256, g 257, g 258, g 259, g 260, g 261, g 262, g 263, g 264, g 265, g 266, g 267, g 268, g 269, g 270, g 271, g 272, g 273, g 274, g 275, g 276, g 277, g
    278, g 279, g 280, g 281, g 282, g 283, g 284, g 285, g 286, g 287, g 288, g 289, g 290, g 291, g 292, g 293, g 294, g 295, g 296, g 297, g 298, g 299, g 300, g 301, g 302, g 303, g 304, g 305, g 306,
    g 307, g 308, g 309, g 310, g 311, g 312, g 313, g 314, g 315, g 316, g 317, g 318, g 319, g 320, g 321, g 322, g 323, g 324, g 325, g 326, g 327, g 328, g 329, g 330, g 331, g 332, g 333, g 334, g
    335, g 336, g 337, g 338, g 339, g 340, g 341, g 342, g 343, g 344, g 345, g 346, g 347, g 348, g 349, g 350, g 351, g 352, g 353, g 354, g 355, g 356, g 357, g 358, g 359, g 360, g 361, g 362, g 363,
    g 364, g 365, g 366, g 367, g 368, g 369, g 370, g 371, g 372, g 373, g 374, g 375, g 376, g 377, g 378, g 379, g 380, g 381, g 382, g 383, g 384, g 385, g 386, g 387, g 388, g 389, g 390, g 391, g
    392, g 393, g 394, g 395, g 396, g 397, g 398, g 399, g 400, g 401, g 402, g 403, g 404, g 405, g 406, g 407, g 408, g 409, g 410, g 411, g 412, g 413, g 414, g 415, g 416, g 417, g 418, g 419, g 420,
    g 421, g 422, g 423, g 424, g 425, g 426, g 427, g 428, g 429, g 430, g 431, g 432, g 433, g 434, g 435, g 436, g 437, g 438, g 439, g 440, g 441, g 442, g 443, g 444, g 445, g 446, g 447, g 448, g
    449, g 450, g 451, g 452, g 453, g 454, g 455, g 456, g 457, g 458, g 459, g 460, g 461, g 462, g 463, g 464, g 465, g 466, g 467, g 468, g 469, g 470, g 471, g 472, g 473, g 474, g 475, g 476, g 477,
    g 478, g 479, g 480, g 481, g 482, g 483, g 484, g 485, g 486, g 487, g 488, g 489, g 490, g 491, g 492, g 493, g 494, g 495, g 496, g 497, g 498, g 499, g 500, g 501, g 502, g 503, g 504, g 505, g
    506, g 507, g 508, g 509, g 510, g 511, g 512, g 513, g 514, g 515, g 516, g 517, g 518, g 519, g 520, g 521, g 522, g 523, g 524, g 525, g 526, g 527, g 528, g 529, g 530, g 531, g 532, g 533, g 534,
    g 535, g 536, g 537, g 538, g 539, g 540, g 541, g 542, g 543, g 544, g 545, g 546, g 547, g 548, g 549, g 550, g 551, g 552, g 553, g 554, g 555, g 556, g 557, g 558, g 559, g 560, g 561, g 562, g
    563, g 564, g 565, g 566, g 567, g 568, g 569, g 570, g 571, g 572, g 573, g 574, g 575, g 576, g 577, g 578, g 579, g 580, g 581, g 582, g 583, g 584, g 585, g 586, g 587, g 588, g 589, g 590, g 591,
    g 592, g 593, g 594]

/-- The runes of a text that begins with a quote, a line and a quote. -/
structure Quo (q : Int) (rs ls : List Int) : Prop where
  first : rs.getD 0 0 = q
  at' : ∀ j, j < ls.length → rs.getD (1 + j) 0 = ls.getD j 0
  last : rs.getD (1 + ls.length) 0 = q
  len : ls.length + 2 ≤ rs.length
  most : ls.length ≤ 1000
  big : rs.length ≤ 70368744177664
  ran : ∀ j, 0 ≤ ls.getD j 0 ∧ ls.getD j 0 ≤ 1114111
  no : ∀ j, ls.getD j 0 ≠ 10 ∧ ls.getD j 0 ≠ 13 ∧ ls.getD j 0 ≠ 9 ∧ ls.getD j 0 ≠ 85

/-- What the scanning of a quoted scalar leaves: its token, or an error. -/
def QEnd (B : Nat) (ty : Int) (n : Nat) (T : Option (List Int)) (w : World) (e : Ending) (w' : World) : Prop :=
  Below B w w' ∧ (∀ vals, T = some vals → ∃ tb pb org ps, e = .returned (.tuple #[.pointer (some ⟨tb, 0, none⟩), .nilIface]) ∧ Blk w' tb (tokCells ty 0 6 (runesBytes vals) org (.pointer (some ⟨pb, 0, none⟩))) 108 ∧
    Blk w' pb (posCells ps) 116 ∧ w'.cell? ⟨B, 1, none⟩ = some (.int .i64 ((n + 2 : Nat) : Int))) ∧
  (T = none → ∃ t a x, e = .returned (.tuple #[.pointer none, .iface t (.pointer (some a))]) ∧ w'.cell? ⟨B, 1, none⟩ = some (.int .i64 x))

/-- What stays as it is in the loop. -/
structure QdC (B pb cap : Nat) (rs ls : List Int) (T : Option (List Int)) (s : S) (w3 : World) : Prop where
  lie : Lie B (B + 1) pb w3
  quo : Quo 34 rs ls
  dq : dq ls = some T
  last : ls.getD (ls.length - 1) 0 ≠ 92
  xu : T = none → ∀ j, ls.getD j 0 ≠ 120 ∧ ls.getD j 0 ≠ 117
  run : ∀ i, i < rs.length → w3.cell? ⟨B + 1, i, none⟩ = some (.int .i32 (rs.getD i 0))
  cap : rs.length ≤ cap
  pos : ∃ ps, Blk w3 pb (posCells ps) 116

/-- What the loop holds; the number: how many rounds are to come at most. -/
def QdI (B pb cap : Nat) (rs ls : List Int) (s : S) (w3 : World) (k : Nat) (a : Act) (wr : World) : Prop :=
  ∃ (j no gv cv : Nat) (acc : List Int) (g : Nat → Value), a = ⟨qdFr B pb rs.length cap (.slice (some ⟨gv, 0, none⟩) acc.length cv) (.int .i64 ((j : Int) + 1)) g, []⟩ ∧ k + j = ls.length ∧ no ≤ 2 * j ∧ acc.length ≤ j ∧
    QSt B (B + 1) pb s w3 j no acc gv cv wr ∧ RdRel ls j false acc
theorem QdI.mk {B pb cap : Nat} {rs ls : List Int} {s : S} {w3 : World} {k : Nat} {t : Array Value} {wr : World} (j no gv cv : Nat) (acc : List Int)
    (ht : t = qdFr B pb rs.length cap (.slice (some ⟨gv, 0, none⟩) acc.length cv) (.int .i64 ((j : Int) + 1)) (fun k => t.getD k undef)) (hk : k + j = ls.length) (hno : no ≤ 2 * j) (ha : acc.length ≤ j)
    (hq : QSt B (B + 1) pb s w3 j no acc gv cv wr) (hr : RdRel ls j false acc) : QdI B pb cap rs ls s w3 k ⟨t, []⟩ wr := ⟨j, no, gv, cv, acc, _, by rw [← ht], hk, hno, ha, hq, hr⟩
end Go.Proofs.YtpjfmfaijcbopaaGreatDoor
