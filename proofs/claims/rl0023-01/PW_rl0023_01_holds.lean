import PyProof.Rows.All
import Wide.All
import OpenK.AllK
import Wide.FinOn
import PySem.Challenge.RW_rl0023_01
open PySem PySem.W PyProof.Rows
set_option Elab.async false
set_option maxRecDepth 100000
set_option maxHeartbeats 0

/-! part H1 -/
namespace Mine
/-! the top's run, in states of our own -/
noncomputable abbrev PP : Program := PySem.Challenge.rw_rl0023_01.row.toRowW.prog
noncomputable abbrev bodyP : List Stmt := behindTheImports PP
def hx (k : Nat) : Nat := if k < 10 then 48 + k else 55 + k
def q (i t : Nat) : Value := .str ⟨#[61, hx (i / 16), hx (i % 16)]⟩ t
def ch (c t : Nat) : Value := .str ⟨#[c]⟩ t
noncomputable def en (P : Params) (k : Str) (t : Nat) (v : Value) : DictEntry := { hash := PyData.keyHash P k, key := .str k t, val := v }
/-- the loader's value, as the start leaves it -/
noncomputable def ldrV (P : Params) : Value := match (boot_o_3 P).data with
  | .dict es _ => (es[3]?.map (·.val)).getD .none
  | _ => .none
def life0 : Life := {}
def drawn0 : Drawn := {}
def ann0 : Option Value := some (.ref 6)
def fnOfStmt : Option Stmt → Option (Arguments × List Stmt × Scope)
  | some (.FunctionDef _ a b _ _ _ s _ _ _) => some (a, b, s)
  | _ => none
noncomputable def cl0 : { s : Stmt // bodyP[0]? = some s } := ⟨_, rfl⟩
noncomputable def cl1 : { s : Stmt // bodyP[1]? = some s } := ⟨_, rfl⟩
noncomputable def cl2 : { s : Stmt // bodyP[2]? = some s } := ⟨_, rfl⟩
noncomputable def cl3 : { s : Stmt // bodyP[3]? = some s } := ⟨_, rfl⟩
noncomputable def cl4 : { s : Stmt // bodyP[4]? = some s } := ⟨_, rfl⟩
noncomputable def cl5 : { s : Stmt // bodyP[5]? = some s } := ⟨_, rfl⟩
noncomputable def cl6 : { s : Stmt // bodyP[6]? = some s } := ⟨_, rfl⟩
noncomputable def cl7 : { s : Stmt // bodyP[7]? = some s } := ⟨_, rfl⟩
noncomputable def cl8 : { s : Stmt // bodyP[8]? = some s } := ⟨_, rfl⟩
noncomputable def cl9 : { s : Stmt // bodyP[9]? = some s } := ⟨_, rfl⟩
noncomputable def cl10 : { s : Stmt // bodyP[10]? = some s } := ⟨_, rfl⟩
noncomputable def cl11 : { s : Stmt // bodyP[11]? = some s } := ⟨_, rfl⟩
noncomputable def cl12 : { s : Stmt // bodyP[12]? = some s } := ⟨_, rfl⟩
noncomputable def cl13 : { s : Stmt // bodyP[13]? = some s } := ⟨_, rfl⟩
noncomputable def cl14 : { s : Stmt // bodyP[14]? = some s } := ⟨_, rfl⟩
noncomputable def cl15 : { s : Stmt // bodyP[15]? = some s } := ⟨_, rfl⟩
noncomputable def cl16 : { s : Stmt // bodyP[16]? = some s } := ⟨_, rfl⟩
noncomputable def cl17 : { s : Stmt // bodyP[17]? = some s } := ⟨_, rfl⟩
noncomputable def cl18 : { s : Stmt // bodyP[18]? = some s } := ⟨_, rfl⟩
noncomputable def cl19 : { s : Stmt // bodyP[19]? = some s } := ⟨_, rfl⟩
noncomputable def cl20 : { s : Stmt // bodyP[20]? = some s } := ⟨_, rfl⟩
noncomputable def cl21 : { s : Stmt // bodyP[21]? = some s } := ⟨_, rfl⟩
noncomputable def cl22 : { s : Stmt // bodyP[22]? = some s } := ⟨_, rfl⟩
noncomputable def cl23 : { s : Stmt // bodyP[23]? = some s } := ⟨_, rfl⟩
noncomputable def cl24 : { s : Stmt // bodyP[24]? = some s } := ⟨_, rfl⟩
noncomputable def fp11 : { x : Arguments × List Stmt × Scope // fnOfStmt bodyP[11]? = some x } := ⟨(_, _, _), rfl⟩
noncomputable def fp19 : { x : Arguments × List Stmt × Scope // fnOfStmt bodyP[19]? = some x } := ⟨(_, _, _), rfl⟩
noncomputable def fp20 : { x : Arguments × List Stmt × Scope // fnOfStmt bodyP[20]? = some x } := ⟨(_, _, _), rfl⟩
noncomputable def fp22 : { x : Arguments × List Stmt × Scope // fnOfStmt bodyP[22]? = some x } := ⟨(_, _, _), rfl⟩
noncomputable def fp23 : { x : Arguments × List Stmt × Scope // fnOfStmt bodyP[23]? = some x } := ⟨(_, _, _), rfl⟩
noncomputable def fp24 : { x : Arguments × List Stmt × Scope // fnOfStmt bodyP[24]? = some x } := ⟨(_, _, _), rfl⟩
noncomputable def o11_0 (P : Params) : Obj := { cls := .type "tuple", data := .seq #[] }
noncomputable def o12_0 (P : Params) : Obj := { cls := .none, data := .fields #[] }
noncomputable def o13_0 (P : Params) : Obj := { cls := .type "code", data := .fields #[.str (Str.ofString "<module>") 182, .str (Str.ofString "<module>") 183, .str (Str.ofString "/claim/cut.py") 184, .int 1 0, .int 0 0, .int 0 0, .int 0 0, .int 0 0, .ref 11, .bool false, .int 181 0, .ref 12, .none, .none, .none, .none, .int 185 0, .int 1 0, .str (Str.ofString "/claim/cut.py") 186] }
noncomputable def o14_0 (P : Params) : Obj := { cls := .type "frame", slots := #[some (.ref 13), some (.ref 3), some (.ref 3), none, some (.str (Str.ofString "__main__") 164), none, some (.ref 0)] }
noncomputable def o15_0 (P : Params) : Obj := { cls := .type "range", data := .fields #[.int 0 188, .int 256 187, .int 1 189] }
noncomputable def o16_0 (P : Params) : Obj := { cls := .type "range_iterator", data := .fields #[.int 1 0, .int 255 0, .int 1 0] }
noncomputable def o17_0 (P : Params) : Obj := { cls := .type "list", data := .seq #[.str (Str.ofString "=00") 193] 1 }
noncomputable def o18_0 (P : Params) : Obj := { cls := .type "dict", data := .dict #[en P (Str.ofString "c") 191 (.int 0 190)] 1 }
noncomputable def o16_1 (P : Params) : Obj := { cls := .type "range_iterator", data := .fields #[.int 32 0, .int 224 0, .int 1 0] }
noncomputable def o17_1 (P : Params) : Obj := { cls := .type "list", data := .seq #[q 0 193, q 1 197, q 2 201, q 3 205, q 4 209, q 5 213, q 6 217, q 7 221, q 8 225, q 9 229, q 10 233, q 11 237, q 12 241, q 13 245, q 14 249, q 15 253, q 16 257, q 17 261, q 18 265, q 19 269, q 20 273, q 21 277, q 22 281, q 23 285, q 24 289, q 25 293, q 26 297, q 27 301, q 28 305, q 29 309, q 30 313, q 31 317] 32 }
noncomputable def o18_1 (P : Params) : Obj := { cls := .type "dict", data := .dict #[en P (Str.ofString "c") 191 (.int 31 314)] 1 }
noncomputable def o16_2 (P : Params) : Obj := { cls := .type "range_iterator", data := .fields #[.int 64 0, .int 192 0, .int 1 0] }
noncomputable def o17_2 (P : Params) : Obj := { cls := .type "list", data := .seq #[q 0 193, q 1 197, q 2 201, q 3 205, q 4 209, q 5 213, q 6 217, q 7 221, q 8 225, q 9 229, q 10 233, q 11 237, q 12 241, q 13 245, q 14 249, q 15 253, q 16 257, q 17 261, q 18 265, q 19 269, q 20 273, q 21 277, q 22 281, q 23 285, q 24 289, q 25 293, q 26 297, q 27 301, q 28 305, q 29 309, q 30 313, q 31 317, q 32 321, q 33 325, q 34 329, q 35 333, q 36 337, q 37 341, q 38 345, q 39 349, q 40 353, q 41 357, q 42 361, q 43 365, q 44 369, q 45 373, q 46 377, q 47 381, q 48 385, q 49 389, q 50 393, q 51 397, q 52 401, q 53 405, q 54 409, q 55 413, q 56 417, q 57 421, q 58 425, q 59 429, q 60 433, q 61 437, q 62 441, q 63 445] 64 }
noncomputable def o18_2 (P : Params) : Obj := { cls := .type "dict", data := .dict #[en P (Str.ofString "c") 191 (.int 63 442)] 1 }
noncomputable def o16_3 (P : Params) : Obj := { cls := .type "range_iterator", data := .fields #[.int 96 0, .int 160 0, .int 1 0] }
noncomputable def o17_3 (P : Params) : Obj := { cls := .type "list", data := .seq #[q 0 193, q 1 197, q 2 201, q 3 205, q 4 209, q 5 213, q 6 217, q 7 221, q 8 225, q 9 229, q 10 233, q 11 237, q 12 241, q 13 245, q 14 249, q 15 253, q 16 257, q 17 261, q 18 265, q 19 269, q 20 273, q 21 277, q 22 281, q 23 285, q 24 289, q 25 293, q 26 297, q 27 301, q 28 305, q 29 309, q 30 313, q 31 317, q 32 321, q 33 325, q 34 329, q 35 333, q 36 337, q 37 341, q 38 345, q 39 349, q 40 353, q 41 357, q 42 361, q 43 365, q 44 369, q 45 373, q 46 377, q 47 381, q 48 385, q 49 389, q 50 393, q 51 397, q 52 401, q 53 405, q 54 409, q 55 413, q 56 417, q 57 421, q 58 425, q 59 429, q 60 433, q 61 437, q 62 441, q 63 445, q 64 449, q 65 453, q 66 457, q 67 461, q 68 465, q 69 469, q 70 473, q 71 477, q 72 481, q 73 485, q 74 489, q 75 493, q 76 497, q 77 501, q 78 505, q 79 509, q 80 513, q 81 517, q 82 521, q 83 525, q 84 529, q 85 533, q 86 537, q 87 541, q 88 545, q 89 549, q 90 553, q 91 557, q 92 561, q 93 565, q 94 569, q 95 573] 96 }
noncomputable def o18_3 (P : Params) : Obj := { cls := .type "dict", data := .dict #[en P (Str.ofString "c") 191 (.int 95 570)] 1 }
noncomputable def o16_4 (P : Params) : Obj := { cls := .type "range_iterator", data := .fields #[.int 128 0, .int 128 0, .int 1 0] }
noncomputable def o17_4 (P : Params) : Obj := { cls := .type "list", data := .seq #[q 0 193, q 1 197, q 2 201, q 3 205, q 4 209, q 5 213, q 6 217, q 7 221, q 8 225, q 9 229, q 10 233, q 11 237, q 12 241, q 13 245, q 14 249, q 15 253, q 16 257, q 17 261, q 18 265, q 19 269, q 20 273, q 21 277, q 22 281, q 23 285, q 24 289, q 25 293, q 26 297, q 27 301, q 28 305, q 29 309, q 30 313, q 31 317, q 32 321, q 33 325, q 34 329, q 35 333, q 36 337, q 37 341, q 38 345, q 39 349, q 40 353, q 41 357, q 42 361, q 43 365, q 44 369, q 45 373, q 46 377, q 47 381, q 48 385, q 49 389, q 50 393, q 51 397, q 52 401, q 53 405, q 54 409, q 55 413, q 56 417, q 57 421, q 58 425, q 59 429, q 60 433, q 61 437, q 62 441, q 63 445, q 64 449, q 65 453, q 66 457, q 67 461, q 68 465, q 69 469, q 70 473, q 71 477, q 72 481, q 73 485, q 74 489, q 75 493, q 76 497, q 77 501, q 78 505, q 79 509, q 80 513, q 81 517, q 82 521, q 83 525, q 84 529, q 85 533, q 86 537, q 87 541, q 88 545, q 89 549, q 90 553, q 91 557, q 92 561, q 93 565, q 94 569, q 95 573, q 96 577, q 97 581, q 98 585, q 99 589, q 100 593, q 101 597, q 102 601, q 103 605, q 104 609, q 105 613, q 106 617, q 107 621, q 108 625, q 109 629, q 110 633, q 111 637, q 112 641, q 113 645, q 114 649, q 115 653, q 116 657, q 117 661, q 118 665, q 119 669, q 120 673, q 121 677, q 122 681, q 123 685, q 124 689, q 125 693, q 126 697, q 127 701] 128 }
noncomputable def o18_4 (P : Params) : Obj := { cls := .type "dict", data := .dict #[en P (Str.ofString "c") 191 (.int 127 698)] 1 }
noncomputable def o16_5 (P : Params) : Obj := { cls := .type "range_iterator", data := .fields #[.int 160 0, .int 96 0, .int 1 0] }
noncomputable def o17_5 (P : Params) : Obj := { cls := .type "list", data := .seq #[q 0 193, q 1 197, q 2 201, q 3 205, q 4 209, q 5 213, q 6 217, q 7 221, q 8 225, q 9 229, q 10 233, q 11 237, q 12 241, q 13 245, q 14 249, q 15 253, q 16 257, q 17 261, q 18 265, q 19 269, q 20 273, q 21 277, q 22 281, q 23 285, q 24 289, q 25 293, q 26 297, q 27 301, q 28 305, q 29 309, q 30 313, q 31 317, q 32 321, q 33 325, q 34 329, q 35 333, q 36 337, q 37 341, q 38 345, q 39 349, q 40 353, q 41 357, q 42 361, q 43 365, q 44 369, q 45 373, q 46 377, q 47 381, q 48 385, q 49 389, q 50 393, q 51 397, q 52 401, q 53 405, q 54 409, q 55 413, q 56 417, q 57 421, q 58 425, q 59 429, q 60 433, q 61 437, q 62 441, q 63 445, q 64 449, q 65 453, q 66 457, q 67 461, q 68 465, q 69 469, q 70 473, q 71 477, q 72 481, q 73 485, q 74 489, q 75 493, q 76 497, q 77 501, q 78 505, q 79 509, q 80 513, q 81 517, q 82 521, q 83 525, q 84 529, q 85 533, q 86 537, q 87 541, q 88 545, q 89 549, q 90 553, q 91 557, q 92 561, q 93 565, q 94 569, q 95 573, q 96 577, q 97 581, q 98 585, q 99 589, q 100 593, q 101 597, q 102 601, q 103 605, q 104 609, q 105 613, q 106 617, q 107 621, q 108 625, q 109 629, q 110 633, q 111 637, q 112 641, q 113 645, q 114 649, q 115 653, q 116 657, q 117 661, q 118 665, q 119 669, q 120 673, q 121 677, q 122 681, q 123 685, q 124 689, q 125 693, q 126 697, q 127 701, q 128 705, q 129 709, q 130 713, q 131 717, q 132 721, q 133 725, q 134 729, q 135 733, q 136 737, q 137 741, q 138 745, q 139 749, q 140 753, q 141 757, q 142 761, q 143 765, q 144 769, q 145 773, q 146 777, q 147 781, q 148 785, q 149 789, q 150 793, q 151 797, q 152 801, q 153 805, q 154 809, q 155 813, q 156 817, q 157 821, q 158 825, q 159 829] 160 }
noncomputable def o18_5 (P : Params) : Obj := { cls := .type "dict", data := .dict #[en P (Str.ofString "c") 191 (.int 159 826)] 1 }
noncomputable def o16_6 (P : Params) : Obj := { cls := .type "range_iterator", data := .fields #[.int 192 0, .int 64 0, .int 1 0] }
noncomputable def o17_6 (P : Params) : Obj := { cls := .type "list", data := .seq #[q 0 193, q 1 197, q 2 201, q 3 205, q 4 209, q 5 213, q 6 217, q 7 221, q 8 225, q 9 229, q 10 233, q 11 237, q 12 241, q 13 245, q 14 249, q 15 253, q 16 257, q 17 261, q 18 265, q 19 269, q 20 273, q 21 277, q 22 281, q 23 285, q 24 289, q 25 293, q 26 297, q 27 301, q 28 305, q 29 309, q 30 313, q 31 317, q 32 321, q 33 325, q 34 329, q 35 333, q 36 337, q 37 341, q 38 345, q 39 349, q 40 353, q 41 357, q 42 361, q 43 365, q 44 369, q 45 373, q 46 377, q 47 381, q 48 385, q 49 389, q 50 393, q 51 397, q 52 401, q 53 405, q 54 409, q 55 413, q 56 417, q 57 421, q 58 425, q 59 429, q 60 433, q 61 437, q 62 441, q 63 445, q 64 449, q 65 453, q 66 457, q 67 461, q 68 465, q 69 469, q 70 473, q 71 477, q 72 481, q 73 485, q 74 489, q 75 493, q 76 497, q 77 501, q 78 505, q 79 509, q 80 513, q 81 517, q 82 521, q 83 525, q 84 529, q 85 533, q 86 537, q 87 541, q 88 545, q 89 549, q 90 553, q 91 557, q 92 561, q 93 565, q 94 569, q 95 573, q 96 577, q 97 581, q 98 585, q 99 589, q 100 593, q 101 597, q 102 601, q 103 605, q 104 609, q 105 613, q 106 617, q 107 621, q 108 625, q 109 629, q 110 633, q 111 637, q 112 641, q 113 645, q 114 649, q 115 653, q 116 657, q 117 661, q 118 665, q 119 669, q 120 673, q 121 677, q 122 681, q 123 685, q 124 689, q 125 693, q 126 697, q 127 701, q 128 705, q 129 709, q 130 713, q 131 717, q 132 721, q 133 725, q 134 729, q 135 733, q 136 737, q 137 741, q 138 745, q 139 749, q 140 753, q 141 757, q 142 761, q 143 765, q 144 769, q 145 773, q 146 777, q 147 781, q 148 785, q 149 789, q 150 793, q 151 797, q 152 801, q 153 805, q 154 809, q 155 813, q 156 817, q 157 821, q 158 825, q 159 829, q 160 833, q 161 837, q 162 841, q 163 845, q 164 849, q 165 853, q 166 857, q 167 861, q 168 865, q 169 869, q 170 873, q 171 877, q 172 881, q 173 885, q 174 889, q 175 893, q 176 897, q 177 901, q 178 905, q 179 909, q 180 913, q 181 917, q 182 921, q 183 925, q 184 929, q 185 933, q 186 937, q 187 941, q 188 945, q 189 949, q 190 953, q 191 957] 192 }
noncomputable def o18_6 (P : Params) : Obj := { cls := .type "dict", data := .dict #[en P (Str.ofString "c") 191 (.int 191 954)] 1 }
noncomputable def o16_7 (P : Params) : Obj := { cls := .type "range_iterator", data := .fields #[.int 224 0, .int 32 0, .int 1 0] }
noncomputable def o17_7 (P : Params) : Obj := { cls := .type "list", data := .seq #[q 0 193, q 1 197, q 2 201, q 3 205, q 4 209, q 5 213, q 6 217, q 7 221, q 8 225, q 9 229, q 10 233, q 11 237, q 12 241, q 13 245, q 14 249, q 15 253, q 16 257, q 17 261, q 18 265, q 19 269, q 20 273, q 21 277, q 22 281, q 23 285, q 24 289, q 25 293, q 26 297, q 27 301, q 28 305, q 29 309, q 30 313, q 31 317, q 32 321, q 33 325, q 34 329, q 35 333, q 36 337, q 37 341, q 38 345, q 39 349, q 40 353, q 41 357, q 42 361, q 43 365, q 44 369, q 45 373, q 46 377, q 47 381, q 48 385, q 49 389, q 50 393, q 51 397, q 52 401, q 53 405, q 54 409, q 55 413, q 56 417, q 57 421, q 58 425, q 59 429, q 60 433, q 61 437, q 62 441, q 63 445, q 64 449, q 65 453, q 66 457, q 67 461, q 68 465, q 69 469, q 70 473, q 71 477, q 72 481, q 73 485, q 74 489, q 75 493, q 76 497, q 77 501, q 78 505, q 79 509, q 80 513, q 81 517, q 82 521, q 83 525, q 84 529, q 85 533, q 86 537, q 87 541, q 88 545, q 89 549, q 90 553, q 91 557, q 92 561, q 93 565, q 94 569, q 95 573, q 96 577, q 97 581, q 98 585, q 99 589, q 100 593, q 101 597, q 102 601, q 103 605, q 104 609, q 105 613, q 106 617, q 107 621, q 108 625, q 109 629, q 110 633, q 111 637, q 112 641, q 113 645, q 114 649, q 115 653, q 116 657, q 117 661, q 118 665, q 119 669, q 120 673, q 121 677, q 122 681, q 123 685, q 124 689, q 125 693, q 126 697, q 127 701, q 128 705, q 129 709, q 130 713, q 131 717, q 132 721, q 133 725, q 134 729, q 135 733, q 136 737, q 137 741, q 138 745, q 139 749, q 140 753, q 141 757, q 142 761, q 143 765, q 144 769, q 145 773, q 146 777, q 147 781, q 148 785, q 149 789, q 150 793, q 151 797, q 152 801, q 153 805, q 154 809, q 155 813, q 156 817, q 157 821, q 158 825, q 159 829, q 160 833, q 161 837, q 162 841, q 163 845, q 164 849, q 165 853, q 166 857, q 167 861, q 168 865, q 169 869, q 170 873, q 171 877, q 172 881, q 173 885, q 174 889, q 175 893, q 176 897, q 177 901, q 178 905, q 179 909, q 180 913, q 181 917, q 182 921, q 183 925, q 184 929, q 185 933, q 186 937, q 187 941, q 188 945, q 189 949, q 190 953, q 191 957, q 192 961, q 193 965, q 194 969, q 195 973, q 196 977, q 197 981, q 198 985, q 199 989, q 200 993, q 201 997, q 202 1001, q 203 1005, q 204 1009, q 205 1013, q 206 1017, q 207 1021, q 208 1025, q 209 1029, q 210 1033, q 211 1037, q 212 1041, q 213 1045, q 214 1049, q 215 1053, q 216 1057, q 217 1061, q 218 1065, q 219 1069, q 220 1073, q 221 1077, q 222 1081, q 223 1085] 224 }
noncomputable def o18_7 (P : Params) : Obj := { cls := .type "dict", data := .dict #[en P (Str.ofString "c") 191 (.int 223 1082)] 1 }
noncomputable def o16_8 (P : Params) : Obj := { cls := .type "range_iterator", data := .fields #[.int 256 0, .int 0 0, .int 1 0] }
noncomputable def o17_8 (P : Params) : Obj := { cls := .type "list", data := .seq #[q 0 193, q 1 197, q 2 201, q 3 205, q 4 209, q 5 213, q 6 217, q 7 221, q 8 225, q 9 229, q 10 233, q 11 237, q 12 241, q 13 245, q 14 249, q 15 253, q 16 257, q 17 261, q 18 265, q 19 269, q 20 273, q 21 277, q 22 281, q 23 285, q 24 289, q 25 293, q 26 297, q 27 301, q 28 305, q 29 309, q 30 313, q 31 317, q 32 321, q 33 325, q 34 329, q 35 333, q 36 337, q 37 341, q 38 345, q 39 349, q 40 353, q 41 357, q 42 361, q 43 365, q 44 369, q 45 373, q 46 377, q 47 381, q 48 385, q 49 389, q 50 393, q 51 397, q 52 401, q 53 405, q 54 409, q 55 413, q 56 417, q 57 421, q 58 425, q 59 429, q 60 433, q 61 437, q 62 441, q 63 445, q 64 449, q 65 453, q 66 457, q 67 461, q 68 465, q 69 469, q 70 473, q 71 477, q 72 481, q 73 485, q 74 489, q 75 493, q 76 497, q 77 501, q 78 505, q 79 509, q 80 513, q 81 517, q 82 521, q 83 525, q 84 529, q 85 533, q 86 537, q 87 541, q 88 545, q 89 549, q 90 553, q 91 557, q 92 561, q 93 565, q 94 569, q 95 573, q 96 577, q 97 581, q 98 585, q 99 589, q 100 593, q 101 597, q 102 601, q 103 605, q 104 609, q 105 613, q 106 617, q 107 621, q 108 625, q 109 629, q 110 633, q 111 637, q 112 641, q 113 645, q 114 649, q 115 653, q 116 657, q 117 661, q 118 665, q 119 669, q 120 673, q 121 677, q 122 681, q 123 685, q 124 689, q 125 693, q 126 697, q 127 701, q 128 705, q 129 709, q 130 713, q 131 717, q 132 721, q 133 725, q 134 729, q 135 733, q 136 737, q 137 741, q 138 745, q 139 749, q 140 753, q 141 757, q 142 761, q 143 765, q 144 769, q 145 773, q 146 777, q 147 781, q 148 785, q 149 789, q 150 793, q 151 797, q 152 801, q 153 805, q 154 809, q 155 813, q 156 817, q 157 821, q 158 825, q 159 829, q 160 833, q 161 837, q 162 841, q 163 845, q 164 849, q 165 853, q 166 857, q 167 861, q 168 865, q 169 869, q 170 873, q 171 877, q 172 881, q 173 885, q 174 889, q 175 893, q 176 897, q 177 901, q 178 905, q 179 909, q 180 913, q 181 917, q 182 921, q 183 925, q 184 929, q 185 933, q 186 937, q 187 941, q 188 945, q 189 949, q 190 953, q 191 957, q 192 961, q 193 965, q 194 969, q 195 973, q 196 977, q 197 981, q 198 985, q 199 989, q 200 993, q 201 997, q 202 1001, q 203 1005, q 204 1009, q 205 1013, q 206 1017, q 207 1021, q 208 1025, q 209 1029, q 210 1033, q 211 1037, q 212 1041, q 213 1045, q 214 1049, q 215 1053, q 216 1057, q 217 1061, q 218 1065, q 219 1069, q 220 1073, q 221 1077, q 222 1081, q 223 1085, q 224 1089, q 225 1093, q 226 1097, q 227 1101, q 228 1105, q 229 1109, q 230 1113, q 231 1117, q 232 1121, q 233 1125, q 234 1129, q 235 1133, q 236 1137, q 237 1141, q 238 1145, q 239 1149, q 240 1153, q 241 1157, q 242 1161, q 243 1165, q 244 1169, q 245 1173, q 246 1177, q 247 1181, q 248 1185, q 249 1189, q 250 1193, q 251 1197, q 252 1201, q 253 1205, q 254 1209, q 255 1213] 256 }
noncomputable def o18_8 (P : Params) : Obj := { cls := .type "dict", data := .dict #[en P (Str.ofString "c") 191 (.int 255 1210)] 1 }
noncomputable def o3_0 (P : Params) : Obj := { cls := .type "dict", data := .dict #[en P (Str.ofString "__name__") 165 (.str (Str.ofString "__main__") 164), en P (Str.ofString "__doc__") 166 (.none), en P (Str.ofString "__package__") 167 (.none), en P (Str.ofString "__loader__") 168 (ldrV P), en P (Str.ofString "__spec__") 169 (.none), en P (Str.ofString "__annotations__") 170 (.ref 6), en P (Str.ofString "__builtins__") 171 (.ref 4), en P (Str.ofString "__file__") 173 (.str (Str.ofString "/claim/cut.py") 172), en P (Str.ofString "__cached__") 174 (.none), en P (Str.ofString "_QUOPRI_MAP") 1214 (.ref 17)] 10 }
noncomputable def o18_9 (P : Params) : Obj := { cls := .type "dict", data := .dict #[] 2 }
noncomputable def o19_0 (P : Params) : Obj := { cls := .type "tuple", data := .seq #[] }
noncomputable def o20_0 (P : Params) : Obj := { cls := .type "StopIteration", data := .fields #[.ref 19, .none, .none, .none, .bool false, .none] }
noncomputable def o3_1 (P : Params) : Obj := { cls := .type "dict", data := .dict #[en P (Str.ofString "__name__") 165 (.str (Str.ofString "cpy313.email.quoprimime") 1225), en P (Str.ofString "__doc__") 166 (.none), en P (Str.ofString "__package__") 167 (.none), en P (Str.ofString "__loader__") 168 (ldrV P), en P (Str.ofString "__spec__") 169 (.none), en P (Str.ofString "__annotations__") 170 (.ref 6), en P (Str.ofString "__builtins__") 171 (.ref 4), en P (Str.ofString "__file__") 173 (.str (Str.ofString "/claim/cut.py") 172), en P (Str.ofString "__cached__") 174 (.none), en P (Str.ofString "_QUOPRI_MAP") 1214 (.ref 17), en P (Str.ofString "_QUOPRI_HEADER_MAP") 1215 (.ref 22), en P (Str.ofString "_QUOPRI_BODY_MAP") 1216 (.ref 24), en P (Str.ofString "ascii_lowercase") 1218 (.str (Str.ofString "abcdefghijklmnopqrstuvwxyz") 1217), en P (Str.ofString "ascii_uppercase") 1220 (.str (Str.ofString "ABCDEFGHIJKLMNOPQRSTUVWXYZ") 1219), en P (Str.ofString "ascii_letters") 1222 (.str (Str.ofString "abcdefghijklmnopqrstuvwxyzABCDEFGHIJKLMNOPQRSTUVWXYZ") 1221), en P (Str.ofString "digits") 1224 (.str (Str.ofString "0123456789") 1223)] 16 }
noncomputable def o21_0 (P : Params) : Obj := { cls := .type "slice", data := .fields #[.none, .none, .none] }
noncomputable def o22_0 (P : Params) : Obj := { cls := .type "list", data := .seq #[q 0 193, q 1 197, q 2 201, q 3 205, q 4 209, q 5 213, q 6 217, q 7 221, q 8 225, q 9 229, q 10 233, q 11 237, q 12 241, q 13 245, q 14 249, q 15 253, q 16 257, q 17 261, q 18 265, q 19 269, q 20 273, q 21 277, q 22 281, q 23 285, q 24 289, q 25 293, q 26 297, q 27 301, q 28 305, q 29 309, q 30 313, q 31 317, q 32 321, q 33 325, q 34 329, q 35 333, q 36 337, q 37 341, q 38 345, q 39 349, q 40 353, q 41 357, q 42 361, q 43 365, q 44 369, q 45 373, q 46 377, q 47 381, q 48 385, q 49 389, q 50 393, q 51 397, q 52 401, q 53 405, q 54 409, q 55 413, q 56 417, q 57 421, q 58 425, q 59 429, q 60 433, q 61 437, q 62 441, q 63 445, q 64 449, q 65 453, q 66 457, q 67 461, q 68 465, q 69 469, q 70 473, q 71 477, q 72 481, q 73 485, q 74 489, q 75 493, q 76 497, q 77 501, q 78 505, q 79 509, q 80 513, q 81 517, q 82 521, q 83 525, q 84 529, q 85 533, q 86 537, q 87 541, q 88 545, q 89 549, q 90 553, q 91 557, q 92 561, q 93 565, q 94 569, q 95 573, q 96 577, q 97 581, q 98 585, q 99 589, q 100 593, q 101 597, q 102 601, q 103 605, q 104 609, q 105 613, q 106 617, q 107 621, q 108 625, q 109 629, q 110 633, q 111 637, q 112 641, q 113 645, q 114 649, q 115 653, q 116 657, q 117 661, q 118 665, q 119 669, q 120 673, q 121 677, q 122 681, q 123 685, q 124 689, q 125 693, q 126 697, q 127 701, q 128 705, q 129 709, q 130 713, q 131 717, q 132 721, q 133 725, q 134 729, q 135 733, q 136 737, q 137 741, q 138 745, q 139 749, q 140 753, q 141 757, q 142 761, q 143 765, q 144 769, q 145 773, q 146 777, q 147 781, q 148 785, q 149 789, q 150 793, q 151 797, q 152 801, q 153 805, q 154 809, q 155 813, q 156 817, q 157 821, q 158 825, q 159 829, q 160 833, q 161 837, q 162 841, q 163 845, q 164 849, q 165 853, q 166 857, q 167 861, q 168 865, q 169 869, q 170 873, q 171 877, q 172 881, q 173 885, q 174 889, q 175 893, q 176 897, q 177 901, q 178 905, q 179 909, q 180 913, q 181 917, q 182 921, q 183 925, q 184 929, q 185 933, q 186 937, q 187 941, q 188 945, q 189 949, q 190 953, q 191 957, q 192 961, q 193 965, q 194 969, q 195 973, q 196 977, q 197 981, q 198 985, q 199 989, q 200 993, q 201 997, q 202 1001, q 203 1005, q 204 1009, q 205 1013, q 206 1017, q 207 1021, q 208 1025, q 209 1029, q 210 1033, q 211 1037, q 212 1041, q 213 1045, q 214 1049, q 215 1053, q 216 1057, q 217 1061, q 218 1065, q 219 1069, q 220 1073, q 221 1077, q 222 1081, q 223 1085, q 224 1089, q 225 1093, q 226 1097, q 227 1101, q 228 1105, q 229 1109, q 230 1113, q 231 1117, q 232 1121, q 233 1125, q 234 1129, q 235 1133, q 236 1137, q 237 1141, q 238 1145, q 239 1149, q 240 1153, q 241 1157, q 242 1161, q 243 1165, q 244 1169, q 245 1173, q 246 1177, q 247 1181, q 248 1185, q 249 1189, q 250 1193, q 251 1197, q 252 1201, q 253 1205, q 254 1209, q 255 1213] 0 }
noncomputable def o23_0 (P : Params) : Obj := { cls := .type "slice", data := .fields #[.none, .none, .none] }
noncomputable def o24_0 (P : Params) : Obj := { cls := .type "list", data := .seq #[q 0 193, q 1 197, q 2 201, q 3 205, q 4 209, q 5 213, q 6 217, q 7 221, q 8 225, q 9 229, q 10 233, q 11 237, q 12 241, q 13 245, q 14 249, q 15 253, q 16 257, q 17 261, q 18 265, q 19 269, q 20 273, q 21 277, q 22 281, q 23 285, q 24 289, q 25 293, q 26 297, q 27 301, q 28 305, q 29 309, q 30 313, q 31 317, q 32 321, q 33 325, q 34 329, q 35 333, q 36 337, q 37 341, q 38 345, q 39 349, q 40 353, q 41 357, q 42 361, q 43 365, q 44 369, q 45 373, q 46 377, q 47 381, q 48 385, q 49 389, q 50 393, q 51 397, q 52 401, q 53 405, q 54 409, q 55 413, q 56 417, q 57 421, q 58 425, q 59 429, q 60 433, q 61 437, q 62 441, q 63 445, q 64 449, q 65 453, q 66 457, q 67 461, q 68 465, q 69 469, q 70 473, q 71 477, q 72 481, q 73 485, q 74 489, q 75 493, q 76 497, q 77 501, q 78 505, q 79 509, q 80 513, q 81 517, q 82 521, q 83 525, q 84 529, q 85 533, q 86 537, q 87 541, q 88 545, q 89 549, q 90 553, q 91 557, q 92 561, q 93 565, q 94 569, q 95 573, q 96 577, q 97 581, q 98 585, q 99 589, q 100 593, q 101 597, q 102 601, q 103 605, q 104 609, q 105 613, q 106 617, q 107 621, q 108 625, q 109 629, q 110 633, q 111 637, q 112 641, q 113 645, q 114 649, q 115 653, q 116 657, q 117 661, q 118 665, q 119 669, q 120 673, q 121 677, q 122 681, q 123 685, q 124 689, q 125 693, q 126 697, q 127 701, q 128 705, q 129 709, q 130 713, q 131 717, q 132 721, q 133 725, q 134 729, q 135 733, q 136 737, q 137 741, q 138 745, q 139 749, q 140 753, q 141 757, q 142 761, q 143 765, q 144 769, q 145 773, q 146 777, q 147 781, q 148 785, q 149 789, q 150 793, q 151 797, q 152 801, q 153 805, q 154 809, q 155 813, q 156 817, q 157 821, q 158 825, q 159 829, q 160 833, q 161 837, q 162 841, q 163 845, q 164 849, q 165 853, q 166 857, q 167 861, q 168 865, q 169 869, q 170 873, q 171 877, q 172 881, q 173 885, q 174 889, q 175 893, q 176 897, q 177 901, q 178 905, q 179 909, q 180 913, q 181 917, q 182 921, q 183 925, q 184 929, q 185 933, q 186 937, q 187 941, q 188 945, q 189 949, q 190 953, q 191 957, q 192 961, q 193 965, q 194 969, q 195 973, q 196 977, q 197 981, q 198 985, q 199 989, q 200 993, q 201 997, q 202 1001, q 203 1005, q 204 1009, q 205 1013, q 206 1017, q 207 1021, q 208 1025, q 209 1029, q 210 1033, q 211 1037, q 212 1041, q 213 1045, q 214 1049, q 215 1053, q 216 1057, q 217 1061, q 218 1065, q 219 1069, q 220 1073, q 221 1077, q 222 1081, q 223 1085, q 224 1089, q 225 1093, q 226 1097, q 227 1101, q 228 1105, q 229 1109, q 230 1113, q 231 1117, q 232 1121, q 233 1125, q 234 1129, q 235 1133, q 236 1137, q 237 1141, q 238 1145, q 239 1149, q 240 1153, q 241 1157, q 242 1161, q 243 1165, q 244 1169, q 245 1173, q 246 1177, q 247 1181, q 248 1185, q 249 1189, q 250 1193, q 251 1197, q 252 1201, q 253 1205, q 254 1209, q 255 1213] 0 }
noncomputable def o3_2 (P : Params) : Obj := { cls := .type "dict", data := .dict #[en P (Str.ofString "__name__") 165 (.str (Str.ofString "cpy313.email.quoprimime") 1225), en P (Str.ofString "__doc__") 166 (.none), en P (Str.ofString "__package__") 167 (.none), en P (Str.ofString "__loader__") 168 (ldrV P), en P (Str.ofString "__spec__") 169 (.none), en P (Str.ofString "__annotations__") 170 (.ref 6), en P (Str.ofString "__builtins__") 171 (.ref 4), en P (Str.ofString "__file__") 173 (.str (Str.ofString "/claim/cut.py") 172), en P (Str.ofString "__cached__") 174 (.none), en P (Str.ofString "_QUOPRI_MAP") 1214 (.ref 17), en P (Str.ofString "_QUOPRI_HEADER_MAP") 1215 (.ref 22), en P (Str.ofString "_QUOPRI_BODY_MAP") 1216 (.ref 24), en P (Str.ofString "ascii_lowercase") 1218 (.str (Str.ofString "abcdefghijklmnopqrstuvwxyz") 1217), en P (Str.ofString "ascii_uppercase") 1220 (.str (Str.ofString "ABCDEFGHIJKLMNOPQRSTUVWXYZ") 1219), en P (Str.ofString "ascii_letters") 1222 (.str (Str.ofString "abcdefghijklmnopqrstuvwxyzABCDEFGHIJKLMNOPQRSTUVWXYZ") 1221), en P (Str.ofString "digits") 1224 (.str (Str.ofString "0123456789") 1223), en P (Str.ofString "c") 1235 (.int 33 1237)] 17 }
noncomputable def o22_1 (P : Params) : Obj := { cls := .type "list", data := .seq #[q 0 193, q 1 197, q 2 201, q 3 205, q 4 209, q 5 213, q 6 217, q 7 221, q 8 225, q 9 229, q 10 233, q 11 237, q 12 241, q 13 245, q 14 249, q 15 253, q 16 257, q 17 261, q 18 265, q 19 269, q 20 273, q 21 277, q 22 281, q 23 285, q 24 289, q 25 293, q 26 297, q 27 301, q 28 305, q 29 309, q 30 313, q 31 317, q 32 321, ch 33 1239, q 34 329, q 35 333, q 36 337, q 37 341, q 38 345, q 39 349, q 40 353, q 41 357, q 42 361, q 43 365, q 44 369, ch 45 1236, q 46 377, q 47 381, q 48 385, q 49 389, q 50 393, q 51 397, q 52 401, q 53 405, q 54 409, q 55 413, q 56 417, q 57 421, q 58 425, q 59 429, q 60 433, q 61 437, q 62 441, q 63 445, q 64 449, q 65 453, q 66 457, q 67 461, q 68 465, q 69 469, q 70 473, q 71 477, q 72 481, q 73 485, q 74 489, q 75 493, q 76 497, q 77 501, q 78 505, q 79 509, q 80 513, q 81 517, q 82 521, q 83 525, q 84 529, q 85 533, q 86 537, q 87 541, q 88 545, q 89 549, q 90 553, q 91 557, q 92 561, q 93 565, q 94 569, q 95 573, q 96 577, q 97 581, q 98 585, q 99 589, q 100 593, q 101 597, q 102 601, q 103 605, q 104 609, q 105 613, q 106 617, q 107 621, q 108 625, q 109 629, q 110 633, q 111 637, q 112 641, q 113 645, q 114 649, q 115 653, q 116 657, q 117 661, q 118 665, q 119 669, q 120 673, q 121 677, q 122 681, q 123 685, q 124 689, q 125 693, q 126 697, q 127 701, q 128 705, q 129 709, q 130 713, q 131 717, q 132 721, q 133 725, q 134 729, q 135 733, q 136 737, q 137 741, q 138 745, q 139 749, q 140 753, q 141 757, q 142 761, q 143 765, q 144 769, q 145 773, q 146 777, q 147 781, q 148 785, q 149 789, q 150 793, q 151 797, q 152 801, q 153 805, q 154 809, q 155 813, q 156 817, q 157 821, q 158 825, q 159 829, q 160 833, q 161 837, q 162 841, q 163 845, q 164 849, q 165 853, q 166 857, q 167 861, q 168 865, q 169 869, q 170 873, q 171 877, q 172 881, q 173 885, q 174 889, q 175 893, q 176 897, q 177 901, q 178 905, q 179 909, q 180 913, q 181 917, q 182 921, q 183 925, q 184 929, q 185 933, q 186 937, q 187 941, q 188 945, q 189 949, q 190 953, q 191 957, q 192 961, q 193 965, q 194 969, q 195 973, q 196 977, q 197 981, q 198 985, q 199 989, q 200 993, q 201 997, q 202 1001, q 203 1005, q 204 1009, q 205 1013, q 206 1017, q 207 1021, q 208 1025, q 209 1029, q 210 1033, q 211 1037, q 212 1041, q 213 1045, q 214 1049, q 215 1053, q 216 1057, q 217 1061, q 218 1065, q 219 1069, q 220 1073, q 221 1077, q 222 1081, q 223 1085, q 224 1089, q 225 1093, q 226 1097, q 227 1101, q 228 1105, q 229 1109, q 230 1113, q 231 1117, q 232 1121, q 233 1125, q 234 1129, q 235 1133, q 236 1137, q 237 1141, q 238 1145, q 239 1149, q 240 1153, q 241 1157, q 242 1161, q 243 1165, q 244 1169, q 245 1173, q 246 1177, q 247 1181, q 248 1185, q 249 1189, q 250 1193, q 251 1197, q 252 1201, q 253 1205, q 254 1209, q 255 1213] 0 }
noncomputable def o25_0 (P : Params) : Obj := { cls := .type "bytes_iterator", data := .fields #[.bytes #[45, 33, 42, 43, 47, 97, 98, 99, 100, 101, 102, 103, 104, 105, 106, 107, 108, 109, 110, 111, 112, 113, 114, 115, 116, 117, 118, 119, 120, 121, 122, 65, 66, 67, 68, 69, 70, 71, 72, 73, 74, 75, 76, 77, 78, 79, 80, 81, 82, 83, 84, 85, 86, 87, 88, 89, 90, 48, 49, 50, 51, 52, 53, 54, 55, 56, 57] 1233, .int 2 0] }
noncomputable def o3_3 (P : Params) : Obj := { cls := .type "dict", data := .dict #[en P (Str.ofString "__name__") 165 (.str (Str.ofString "cpy313.email.quoprimime") 1225), en P (Str.ofString "__doc__") 166 (.none), en P (Str.ofString "__package__") 167 (.none), en P (Str.ofString "__loader__") 168 (ldrV P), en P (Str.ofString "__spec__") 169 (.none), en P (Str.ofString "__annotations__") 170 (.ref 6), en P (Str.ofString "__builtins__") 171 (.ref 4), en P (Str.ofString "__file__") 173 (.str (Str.ofString "/claim/cut.py") 172), en P (Str.ofString "__cached__") 174 (.none), en P (Str.ofString "_QUOPRI_MAP") 1214 (.ref 17), en P (Str.ofString "_QUOPRI_HEADER_MAP") 1215 (.ref 22), en P (Str.ofString "_QUOPRI_BODY_MAP") 1216 (.ref 24), en P (Str.ofString "ascii_lowercase") 1218 (.str (Str.ofString "abcdefghijklmnopqrstuvwxyz") 1217), en P (Str.ofString "ascii_uppercase") 1220 (.str (Str.ofString "ABCDEFGHIJKLMNOPQRSTUVWXYZ") 1219), en P (Str.ofString "ascii_letters") 1222 (.str (Str.ofString "abcdefghijklmnopqrstuvwxyzABCDEFGHIJKLMNOPQRSTUVWXYZ") 1221), en P (Str.ofString "digits") 1224 (.str (Str.ofString "0123456789") 1223), en P (Str.ofString "c") 1235 (.int 116 1306)] 17 }
noncomputable def o22_2 (P : Params) : Obj := { cls := .type "list", data := .seq #[q 0 193, q 1 197, q 2 201, q 3 205, q 4 209, q 5 213, q 6 217, q 7 221, q 8 225, q 9 229, q 10 233, q 11 237, q 12 241, q 13 245, q 14 249, q 15 253, q 16 257, q 17 261, q 18 265, q 19 269, q 20 273, q 21 277, q 22 281, q 23 285, q 24 289, q 25 293, q 26 297, q 27 301, q 28 305, q 29 309, q 30 313, q 31 317, q 32 321, ch 33 1239, q 34 329, q 35 333, q 36 337, q 37 341, q 38 345, q 39 349, q 40 353, q 41 357, ch 42 1242, ch 43 1245, q 44 369, ch 45 1236, q 46 377, ch 47 1248, q 48 385, q 49 389, q 50 393, q 51 397, q 52 401, q 53 405, q 54 409, q 55 413, q 56 417, q 57 421, q 58 425, q 59 429, q 60 433, q 61 437, q 62 441, q 63 445, q 64 449, q 65 453, q 66 457, q 67 461, q 68 465, q 69 469, q 70 473, q 71 477, q 72 481, q 73 485, q 74 489, q 75 493, q 76 497, q 77 501, q 78 505, q 79 509, q 80 513, q 81 517, q 82 521, q 83 525, q 84 529, q 85 533, q 86 537, q 87 541, q 88 545, q 89 549, q 90 553, q 91 557, q 92 561, q 93 565, q 94 569, q 95 573, q 96 577, ch 97 1251, ch 98 1254, ch 99 1257, ch 100 1260, ch 101 1263, ch 102 1266, ch 103 1269, ch 104 1272, ch 105 1275, ch 106 1278, ch 107 1281, ch 108 1284, ch 109 1287, ch 110 1290, ch 111 1293, ch 112 1296, ch 113 1299, ch 114 1302, ch 115 1305, ch 116 1308, q 117 661, q 118 665, q 119 669, q 120 673, q 121 677, q 122 681, q 123 685, q 124 689, q 125 693, q 126 697, q 127 701, q 128 705, q 129 709, q 130 713, q 131 717, q 132 721, q 133 725, q 134 729, q 135 733, q 136 737, q 137 741, q 138 745, q 139 749, q 140 753, q 141 757, q 142 761, q 143 765, q 144 769, q 145 773, q 146 777, q 147 781, q 148 785, q 149 789, q 150 793, q 151 797, q 152 801, q 153 805, q 154 809, q 155 813, q 156 817, q 157 821, q 158 825, q 159 829, q 160 833, q 161 837, q 162 841, q 163 845, q 164 849, q 165 853, q 166 857, q 167 861, q 168 865, q 169 869, q 170 873, q 171 877, q 172 881, q 173 885, q 174 889, q 175 893, q 176 897, q 177 901, q 178 905, q 179 909, q 180 913, q 181 917, q 182 921, q 183 925, q 184 929, q 185 933, q 186 937, q 187 941, q 188 945, q 189 949, q 190 953, q 191 957, q 192 961, q 193 965, q 194 969, q 195 973, q 196 977, q 197 981, q 198 985, q 199 989, q 200 993, q 201 997, q 202 1001, q 203 1005, q 204 1009, q 205 1013, q 206 1017, q 207 1021, q 208 1025, q 209 1029, q 210 1033, q 211 1037, q 212 1041, q 213 1045, q 214 1049, q 215 1053, q 216 1057, q 217 1061, q 218 1065, q 219 1069, q 220 1073, q 221 1077, q 222 1081, q 223 1085, q 224 1089, q 225 1093, q 226 1097, q 227 1101, q 228 1105, q 229 1109, q 230 1113, q 231 1117, q 232 1121, q 233 1125, q 234 1129, q 235 1133, q 236 1137, q 237 1141, q 238 1145, q 239 1149, q 240 1153, q 241 1157, q 242 1161, q 243 1165, q 244 1169, q 245 1173, q 246 1177, q 247 1181, q 248 1185, q 249 1189, q 250 1193, q 251 1197, q 252 1201, q 253 1205, q 254 1209, q 255 1213] 0 }
noncomputable def o25_1 (P : Params) : Obj := { cls := .type "bytes_iterator", data := .fields #[.bytes #[45, 33, 42, 43, 47, 97, 98, 99, 100, 101, 102, 103, 104, 105, 106, 107, 108, 109, 110, 111, 112, 113, 114, 115, 116, 117, 118, 119, 120, 121, 122, 65, 66, 67, 68, 69, 70, 71, 72, 73, 74, 75, 76, 77, 78, 79, 80, 81, 82, 83, 84, 85, 86, 87, 88, 89, 90, 48, 49, 50, 51, 52, 53, 54, 55, 56, 57] 1233, .int 25 0] }
noncomputable def o3_4 (P : Params) : Obj := { cls := .type "dict", data := .dict #[en P (Str.ofString "__name__") 165 (.str (Str.ofString "cpy313.email.quoprimime") 1225), en P (Str.ofString "__doc__") 166 (.none), en P (Str.ofString "__package__") 167 (.none), en P (Str.ofString "__loader__") 168 (ldrV P), en P (Str.ofString "__spec__") 169 (.none), en P (Str.ofString "__annotations__") 170 (.ref 6), en P (Str.ofString "__builtins__") 171 (.ref 4), en P (Str.ofString "__file__") 173 (.str (Str.ofString "/claim/cut.py") 172), en P (Str.ofString "__cached__") 174 (.none), en P (Str.ofString "_QUOPRI_MAP") 1214 (.ref 17), en P (Str.ofString "_QUOPRI_HEADER_MAP") 1215 (.ref 22), en P (Str.ofString "_QUOPRI_BODY_MAP") 1216 (.ref 24), en P (Str.ofString "ascii_lowercase") 1218 (.str (Str.ofString "abcdefghijklmnopqrstuvwxyz") 1217), en P (Str.ofString "ascii_uppercase") 1220 (.str (Str.ofString "ABCDEFGHIJKLMNOPQRSTUVWXYZ") 1219), en P (Str.ofString "ascii_letters") 1222 (.str (Str.ofString "abcdefghijklmnopqrstuvwxyzABCDEFGHIJKLMNOPQRSTUVWXYZ") 1221), en P (Str.ofString "digits") 1224 (.str (Str.ofString "0123456789") 1223), en P (Str.ofString "c") 1235 (.int 82 1378)] 17 }
noncomputable def o22_3 (P : Params) : Obj := { cls := .type "list", data := .seq #[q 0 193, q 1 197, q 2 201, q 3 205, q 4 209, q 5 213, q 6 217, q 7 221, q 8 225, q 9 229, q 10 233, q 11 237, q 12 241, q 13 245, q 14 249, q 15 253, q 16 257, q 17 261, q 18 265, q 19 269, q 20 273, q 21 277, q 22 281, q 23 285, q 24 289, q 25 293, q 26 297, q 27 301, q 28 305, q 29 309, q 30 313, q 31 317, q 32 321, ch 33 1239, q 34 329, q 35 333, q 36 337, q 37 341, q 38 345, q 39 349, q 40 353, q 41 357, ch 42 1242, ch 43 1245, q 44 369, ch 45 1236, q 46 377, ch 47 1248, q 48 385, q 49 389, q 50 393, q 51 397, q 52 401, q 53 405, q 54 409, q 55 413, q 56 417, q 57 421, q 58 425, q 59 429, q 60 433, q 61 437, q 62 441, q 63 445, q 64 449, ch 65 1329, ch 66 1332, ch 67 1335, ch 68 1338, ch 69 1341, ch 70 1344, ch 71 1347, ch 72 1350, ch 73 1353, ch 74 1356, ch 75 1359, ch 76 1362, ch 77 1365, ch 78 1368, ch 79 1371, ch 80 1374, ch 81 1377, ch 82 1380, q 83 525, q 84 529, q 85 533, q 86 537, q 87 541, q 88 545, q 89 549, q 90 553, q 91 557, q 92 561, q 93 565, q 94 569, q 95 573, q 96 577, ch 97 1251, ch 98 1254, ch 99 1257, ch 100 1260, ch 101 1263, ch 102 1266, ch 103 1269, ch 104 1272, ch 105 1275, ch 106 1278, ch 107 1281, ch 108 1284, ch 109 1287, ch 110 1290, ch 111 1293, ch 112 1296, ch 113 1299, ch 114 1302, ch 115 1305, ch 116 1308, ch 117 1311, ch 118 1314, ch 119 1317, ch 120 1320, ch 121 1323, ch 122 1326, q 123 685, q 124 689, q 125 693, q 126 697, q 127 701, q 128 705, q 129 709, q 130 713, q 131 717, q 132 721, q 133 725, q 134 729, q 135 733, q 136 737, q 137 741, q 138 745, q 139 749, q 140 753, q 141 757, q 142 761, q 143 765, q 144 769, q 145 773, q 146 777, q 147 781, q 148 785, q 149 789, q 150 793, q 151 797, q 152 801, q 153 805, q 154 809, q 155 813, q 156 817, q 157 821, q 158 825, q 159 829, q 160 833, q 161 837, q 162 841, q 163 845, q 164 849, q 165 853, q 166 857, q 167 861, q 168 865, q 169 869, q 170 873, q 171 877, q 172 881, q 173 885, q 174 889, q 175 893, q 176 897, q 177 901, q 178 905, q 179 909, q 180 913, q 181 917, q 182 921, q 183 925, q 184 929, q 185 933, q 186 937, q 187 941, q 188 945, q 189 949, q 190 953, q 191 957, q 192 961, q 193 965, q 194 969, q 195 973, q 196 977, q 197 981, q 198 985, q 199 989, q 200 993, q 201 997, q 202 1001, q 203 1005, q 204 1009, q 205 1013, q 206 1017, q 207 1021, q 208 1025, q 209 1029, q 210 1033, q 211 1037, q 212 1041, q 213 1045, q 214 1049, q 215 1053, q 216 1057, q 217 1061, q 218 1065, q 219 1069, q 220 1073, q 221 1077, q 222 1081, q 223 1085, q 224 1089, q 225 1093, q 226 1097, q 227 1101, q 228 1105, q 229 1109, q 230 1113, q 231 1117, q 232 1121, q 233 1125, q 234 1129, q 235 1133, q 236 1137, q 237 1141, q 238 1145, q 239 1149, q 240 1153, q 241 1157, q 242 1161, q 243 1165, q 244 1169, q 245 1173, q 246 1177, q 247 1181, q 248 1185, q 249 1189, q 250 1193, q 251 1197, q 252 1201, q 253 1205, q 254 1209, q 255 1213] 0 }
noncomputable def o25_2 (P : Params) : Obj := { cls := .type "bytes_iterator", data := .fields #[.bytes #[45, 33, 42, 43, 47, 97, 98, 99, 100, 101, 102, 103, 104, 105, 106, 107, 108, 109, 110, 111, 112, 113, 114, 115, 116, 117, 118, 119, 120, 121, 122, 65, 66, 67, 68, 69, 70, 71, 72, 73, 74, 75, 76, 77, 78, 79, 80, 81, 82, 83, 84, 85, 86, 87, 88, 89, 90, 48, 49, 50, 51, 52, 53, 54, 55, 56, 57] 1233, .int 49 0] }
noncomputable def o3_5 (P : Params) : Obj := { cls := .type "dict", data := .dict #[en P (Str.ofString "__name__") 165 (.str (Str.ofString "cpy313.email.quoprimime") 1225), en P (Str.ofString "__doc__") 166 (.none), en P (Str.ofString "__package__") 167 (.none), en P (Str.ofString "__loader__") 168 (ldrV P), en P (Str.ofString "__spec__") 169 (.none), en P (Str.ofString "__annotations__") 170 (.ref 6), en P (Str.ofString "__builtins__") 171 (.ref 4), en P (Str.ofString "__file__") 173 (.str (Str.ofString "/claim/cut.py") 172), en P (Str.ofString "__cached__") 174 (.none), en P (Str.ofString "_QUOPRI_MAP") 1214 (.ref 17), en P (Str.ofString "_QUOPRI_HEADER_MAP") 1215 (.ref 22), en P (Str.ofString "_QUOPRI_BODY_MAP") 1216 (.ref 24), en P (Str.ofString "ascii_lowercase") 1218 (.str (Str.ofString "abcdefghijklmnopqrstuvwxyz") 1217), en P (Str.ofString "ascii_uppercase") 1220 (.str (Str.ofString "ABCDEFGHIJKLMNOPQRSTUVWXYZ") 1219), en P (Str.ofString "ascii_letters") 1222 (.str (Str.ofString "abcdefghijklmnopqrstuvwxyzABCDEFGHIJKLMNOPQRSTUVWXYZ") 1221), en P (Str.ofString "digits") 1224 (.str (Str.ofString "0123456789") 1223), en P (Str.ofString "c") 1235 (.int 57 1432)] 17 }
noncomputable def o22_4 (P : Params) : Obj := { cls := .type "list", data := .seq #[q 0 193, q 1 197, q 2 201, q 3 205, q 4 209, q 5 213, q 6 217, q 7 221, q 8 225, q 9 229, q 10 233, q 11 237, q 12 241, q 13 245, q 14 249, q 15 253, q 16 257, q 17 261, q 18 265, q 19 269, q 20 273, q 21 277, q 22 281, q 23 285, q 24 289, q 25 293, q 26 297, q 27 301, q 28 305, q 29 309, q 30 313, q 31 317, q 32 321, ch 33 1239, q 34 329, q 35 333, q 36 337, q 37 341, q 38 345, q 39 349, q 40 353, q 41 357, ch 42 1242, ch 43 1245, q 44 369, ch 45 1236, q 46 377, ch 47 1248, ch 48 1407, ch 49 1410, ch 50 1413, ch 51 1416, ch 52 1419, ch 53 1422, ch 54 1425, ch 55 1428, ch 56 1431, ch 57 1434, q 58 425, q 59 429, q 60 433, q 61 437, q 62 441, q 63 445, q 64 449, ch 65 1329, ch 66 1332, ch 67 1335, ch 68 1338, ch 69 1341, ch 70 1344, ch 71 1347, ch 72 1350, ch 73 1353, ch 74 1356, ch 75 1359, ch 76 1362, ch 77 1365, ch 78 1368, ch 79 1371, ch 80 1374, ch 81 1377, ch 82 1380, ch 83 1383, ch 84 1386, ch 85 1389, ch 86 1392, ch 87 1395, ch 88 1398, ch 89 1401, ch 90 1404, q 91 557, q 92 561, q 93 565, q 94 569, q 95 573, q 96 577, ch 97 1251, ch 98 1254, ch 99 1257, ch 100 1260, ch 101 1263, ch 102 1266, ch 103 1269, ch 104 1272, ch 105 1275, ch 106 1278, ch 107 1281, ch 108 1284, ch 109 1287, ch 110 1290, ch 111 1293, ch 112 1296, ch 113 1299, ch 114 1302, ch 115 1305, ch 116 1308, ch 117 1311, ch 118 1314, ch 119 1317, ch 120 1320, ch 121 1323, ch 122 1326, q 123 685, q 124 689, q 125 693, q 126 697, q 127 701, q 128 705, q 129 709, q 130 713, q 131 717, q 132 721, q 133 725, q 134 729, q 135 733, q 136 737, q 137 741, q 138 745, q 139 749, q 140 753, q 141 757, q 142 761, q 143 765, q 144 769, q 145 773, q 146 777, q 147 781, q 148 785, q 149 789, q 150 793, q 151 797, q 152 801, q 153 805, q 154 809, q 155 813, q 156 817, q 157 821, q 158 825, q 159 829, q 160 833, q 161 837, q 162 841, q 163 845, q 164 849, q 165 853, q 166 857, q 167 861, q 168 865, q 169 869, q 170 873, q 171 877, q 172 881, q 173 885, q 174 889, q 175 893, q 176 897, q 177 901, q 178 905, q 179 909, q 180 913, q 181 917, q 182 921, q 183 925, q 184 929, q 185 933, q 186 937, q 187 941, q 188 945, q 189 949, q 190 953, q 191 957, q 192 961, q 193 965, q 194 969, q 195 973, q 196 977, q 197 981, q 198 985, q 199 989, q 200 993, q 201 997, q 202 1001, q 203 1005, q 204 1009, q 205 1013, q 206 1017, q 207 1021, q 208 1025, q 209 1029, q 210 1033, q 211 1037, q 212 1041, q 213 1045, q 214 1049, q 215 1053, q 216 1057, q 217 1061, q 218 1065, q 219 1069, q 220 1073, q 221 1077, q 222 1081, q 223 1085, q 224 1089, q 225 1093, q 226 1097, q 227 1101, q 228 1105, q 229 1109, q 230 1113, q 231 1117, q 232 1121, q 233 1125, q 234 1129, q 235 1133, q 236 1137, q 237 1141, q 238 1145, q 239 1149, q 240 1153, q 241 1157, q 242 1161, q 243 1165, q 244 1169, q 245 1173, q 246 1177, q 247 1181, q 248 1185, q 249 1189, q 250 1193, q 251 1197, q 252 1201, q 253 1205, q 254 1209, q 255 1213] 0 }
noncomputable def o25_3 (P : Params) : Obj := { cls := .type "bytes_iterator", data := .fields #[.bytes #[45, 33, 42, 43, 47, 97, 98, 99, 100, 101, 102, 103, 104, 105, 106, 107, 108, 109, 110, 111, 112, 113, 114, 115, 116, 117, 118, 119, 120, 121, 122, 65, 66, 67, 68, 69, 70, 71, 72, 73, 74, 75, 76, 77, 78, 79, 80, 81, 82, 83, 84, 85, 86, 87, 88, 89, 90, 48, 49, 50, 51, 52, 53, 54, 55, 56, 57] 1233, .int 67 0] }
noncomputable def o25_4 (P : Params) : Obj := { cls := .type "bytes_iterator", data := .fields #[.none, .int 67 0] }
noncomputable def o26_0 (P : Params) : Obj := { cls := .type "tuple", data := .seq #[] }
noncomputable def o27_0 (P : Params) : Obj := { cls := .type "StopIteration", data := .fields #[.ref 26, .none, .none, .none, .bool false, .none] }
noncomputable def o22_5 (P : Params) : Obj := { cls := .type "list", data := .seq #[q 0 193, q 1 197, q 2 201, q 3 205, q 4 209, q 5 213, q 6 217, q 7 221, q 8 225, q 9 229, q 10 233, q 11 237, q 12 241, q 13 245, q 14 249, q 15 253, q 16 257, q 17 261, q 18 265, q 19 269, q 20 273, q 21 277, q 22 281, q 23 285, q 24 289, q 25 293, q 26 297, q 27 301, q 28 305, q 29 309, q 30 313, q 31 317, ch 95 1435, ch 33 1239, q 34 329, q 35 333, q 36 337, q 37 341, q 38 345, q 39 349, q 40 353, q 41 357, ch 42 1242, ch 43 1245, q 44 369, ch 45 1236, q 46 377, ch 47 1248, ch 48 1407, ch 49 1410, ch 50 1413, ch 51 1416, ch 52 1419, ch 53 1422, ch 54 1425, ch 55 1428, ch 56 1431, ch 57 1434, q 58 425, q 59 429, q 60 433, q 61 437, q 62 441, q 63 445, q 64 449, ch 65 1329, ch 66 1332, ch 67 1335, ch 68 1338, ch 69 1341, ch 70 1344, ch 71 1347, ch 72 1350, ch 73 1353, ch 74 1356, ch 75 1359, ch 76 1362, ch 77 1365, ch 78 1368, ch 79 1371, ch 80 1374, ch 81 1377, ch 82 1380, ch 83 1383, ch 84 1386, ch 85 1389, ch 86 1392, ch 87 1395, ch 88 1398, ch 89 1401, ch 90 1404, q 91 557, q 92 561, q 93 565, q 94 569, q 95 573, q 96 577, ch 97 1251, ch 98 1254, ch 99 1257, ch 100 1260, ch 101 1263, ch 102 1266, ch 103 1269, ch 104 1272, ch 105 1275, ch 106 1278, ch 107 1281, ch 108 1284, ch 109 1287, ch 110 1290, ch 111 1293, ch 112 1296, ch 113 1299, ch 114 1302, ch 115 1305, ch 116 1308, ch 117 1311, ch 118 1314, ch 119 1317, ch 120 1320, ch 121 1323, ch 122 1326, q 123 685, q 124 689, q 125 693, q 126 697, q 127 701, q 128 705, q 129 709, q 130 713, q 131 717, q 132 721, q 133 725, q 134 729, q 135 733, q 136 737, q 137 741, q 138 745, q 139 749, q 140 753, q 141 757, q 142 761, q 143 765, q 144 769, q 145 773, q 146 777, q 147 781, q 148 785, q 149 789, q 150 793, q 151 797, q 152 801, q 153 805, q 154 809, q 155 813, q 156 817, q 157 821, q 158 825, q 159 829, q 160 833, q 161 837, q 162 841, q 163 845, q 164 849, q 165 853, q 166 857, q 167 861, q 168 865, q 169 869, q 170 873, q 171 877, q 172 881, q 173 885, q 174 889, q 175 893, q 176 897, q 177 901, q 178 905, q 179 909, q 180 913, q 181 917, q 182 921, q 183 925, q 184 929, q 185 933, q 186 937, q 187 941, q 188 945, q 189 949, q 190 953, q 191 957, q 192 961, q 193 965, q 194 969, q 195 973, q 196 977, q 197 981, q 198 985, q 199 989, q 200 993, q 201 997, q 202 1001, q 203 1005, q 204 1009, q 205 1013, q 206 1017, q 207 1021, q 208 1025, q 209 1029, q 210 1033, q 211 1037, q 212 1041, q 213 1045, q 214 1049, q 215 1053, q 216 1057, q 217 1061, q 218 1065, q 219 1069, q 220 1073, q 221 1077, q 222 1081, q 223 1085, q 224 1089, q 225 1093, q 226 1097, q 227 1101, q 228 1105, q 229 1109, q 230 1113, q 231 1117, q 232 1121, q 233 1125, q 234 1129, q 235 1133, q 236 1137, q 237 1141, q 238 1145, q 239 1149, q 240 1153, q 241 1157, q 242 1161, q 243 1165, q 244 1169, q 245 1173, q 246 1177, q 247 1181, q 248 1185, q 249 1189, q 250 1193, q 251 1197, q 252 1201, q 253 1205, q 254 1209, q 255 1213] 0 }
noncomputable def o3_6 (P : Params) : Obj := { cls := .type "dict", data := .dict #[en P (Str.ofString "__name__") 165 (.str (Str.ofString "cpy313.email.quoprimime") 1225), en P (Str.ofString "__doc__") 166 (.none), en P (Str.ofString "__package__") 167 (.none), en P (Str.ofString "__loader__") 168 (ldrV P), en P (Str.ofString "__spec__") 169 (.none), en P (Str.ofString "__annotations__") 170 (.ref 6), en P (Str.ofString "__builtins__") 171 (.ref 4), en P (Str.ofString "__file__") 173 (.str (Str.ofString "/claim/cut.py") 172), en P (Str.ofString "__cached__") 174 (.none), en P (Str.ofString "_QUOPRI_MAP") 1214 (.ref 17), en P (Str.ofString "_QUOPRI_HEADER_MAP") 1215 (.ref 22), en P (Str.ofString "_QUOPRI_BODY_MAP") 1216 (.ref 24), en P (Str.ofString "ascii_lowercase") 1218 (.str (Str.ofString "abcdefghijklmnopqrstuvwxyz") 1217), en P (Str.ofString "ascii_uppercase") 1220 (.str (Str.ofString "ABCDEFGHIJKLMNOPQRSTUVWXYZ") 1219), en P (Str.ofString "ascii_letters") 1222 (.str (Str.ofString "abcdefghijklmnopqrstuvwxyzABCDEFGHIJKLMNOPQRSTUVWXYZ") 1221), en P (Str.ofString "digits") 1224 (.str (Str.ofString "0123456789") 1223), en P (Str.ofString "c") 1235 (.int 33 1442)] 17 }
noncomputable def o24_1 (P : Params) : Obj := { cls := .type "list", data := .seq #[q 0 193, q 1 197, q 2 201, q 3 205, q 4 209, q 5 213, q 6 217, q 7 221, q 8 225, q 9 229, q 10 233, q 11 237, q 12 241, q 13 245, q 14 249, q 15 253, q 16 257, q 17 261, q 18 265, q 19 269, q 20 273, q 21 277, q 22 281, q 23 285, q 24 289, q 25 293, q 26 297, q 27 301, q 28 305, q 29 309, q 30 313, q 31 317, ch 32 1441, ch 33 1444, q 34 329, q 35 333, q 36 337, q 37 341, q 38 345, q 39 349, q 40 353, q 41 357, q 42 361, q 43 365, q 44 369, q 45 373, q 46 377, q 47 381, q 48 385, q 49 389, q 50 393, q 51 397, q 52 401, q 53 405, q 54 409, q 55 413, q 56 417, q 57 421, q 58 425, q 59 429, q 60 433, q 61 437, q 62 441, q 63 445, q 64 449, q 65 453, q 66 457, q 67 461, q 68 465, q 69 469, q 70 473, q 71 477, q 72 481, q 73 485, q 74 489, q 75 493, q 76 497, q 77 501, q 78 505, q 79 509, q 80 513, q 81 517, q 82 521, q 83 525, q 84 529, q 85 533, q 86 537, q 87 541, q 88 545, q 89 549, q 90 553, q 91 557, q 92 561, q 93 565, q 94 569, q 95 573, q 96 577, q 97 581, q 98 585, q 99 589, q 100 593, q 101 597, q 102 601, q 103 605, q 104 609, q 105 613, q 106 617, q 107 621, q 108 625, q 109 629, q 110 633, q 111 637, q 112 641, q 113 645, q 114 649, q 115 653, q 116 657, q 117 661, q 118 665, q 119 669, q 120 673, q 121 677, q 122 681, q 123 685, q 124 689, q 125 693, q 126 697, q 127 701, q 128 705, q 129 709, q 130 713, q 131 717, q 132 721, q 133 725, q 134 729, q 135 733, q 136 737, q 137 741, q 138 745, q 139 749, q 140 753, q 141 757, q 142 761, q 143 765, q 144 769, q 145 773, q 146 777, q 147 781, q 148 785, q 149 789, q 150 793, q 151 797, q 152 801, q 153 805, q 154 809, q 155 813, q 156 817, q 157 821, q 158 825, q 159 829, q 160 833, q 161 837, q 162 841, q 163 845, q 164 849, q 165 853, q 166 857, q 167 861, q 168 865, q 169 869, q 170 873, q 171 877, q 172 881, q 173 885, q 174 889, q 175 893, q 176 897, q 177 901, q 178 905, q 179 909, q 180 913, q 181 917, q 182 921, q 183 925, q 184 929, q 185 933, q 186 937, q 187 941, q 188 945, q 189 949, q 190 953, q 191 957, q 192 961, q 193 965, q 194 969, q 195 973, q 196 977, q 197 981, q 198 985, q 199 989, q 200 993, q 201 997, q 202 1001, q 203 1005, q 204 1009, q 205 1013, q 206 1017, q 207 1021, q 208 1025, q 209 1029, q 210 1033, q 211 1037, q 212 1041, q 213 1045, q 214 1049, q 215 1053, q 216 1057, q 217 1061, q 218 1065, q 219 1069, q 220 1073, q 221 1077, q 222 1081, q 223 1085, q 224 1089, q 225 1093, q 226 1097, q 227 1101, q 228 1105, q 229 1109, q 230 1113, q 231 1117, q 232 1121, q 233 1125, q 234 1129, q 235 1133, q 236 1137, q 237 1141, q 238 1145, q 239 1149, q 240 1153, q 241 1157, q 242 1161, q 243 1165, q 244 1169, q 245 1173, q 246 1177, q 247 1181, q 248 1185, q 249 1189, q 250 1193, q 251 1197, q 252 1201, q 253 1205, q 254 1209, q 255 1213] 0 }
noncomputable def o28_0 (P : Params) : Obj := { cls := .type "bytes_iterator", data := .fields #[.bytes #[32, 33, 34, 35, 36, 37, 38, 39, 40, 41, 42, 43, 44, 45, 46, 47, 48, 49, 50, 51, 52, 53, 54, 55, 56, 57, 58, 59, 60, 62, 63, 64, 65, 66, 67, 68, 69, 70, 71, 72, 73, 74, 75, 76, 77, 78, 79, 80, 81, 82, 83, 84, 85, 86, 87, 88, 89, 90, 91, 92, 93, 94, 95, 96, 97, 98, 99, 100, 101, 102, 103, 104, 105, 106, 107, 108, 109, 110, 111, 112, 113, 114, 115, 116, 117, 118, 119, 120, 121, 122, 123, 124, 125, 126, 9] 1438, .int 2 0] }
noncomputable def o3_7 (P : Params) : Obj := { cls := .type "dict", data := .dict #[en P (Str.ofString "__name__") 165 (.str (Str.ofString "cpy313.email.quoprimime") 1225), en P (Str.ofString "__doc__") 166 (.none), en P (Str.ofString "__package__") 167 (.none), en P (Str.ofString "__loader__") 168 (ldrV P), en P (Str.ofString "__spec__") 169 (.none), en P (Str.ofString "__annotations__") 170 (.ref 6), en P (Str.ofString "__builtins__") 171 (.ref 4), en P (Str.ofString "__file__") 173 (.str (Str.ofString "/claim/cut.py") 172), en P (Str.ofString "__cached__") 174 (.none), en P (Str.ofString "_QUOPRI_MAP") 1214 (.ref 17), en P (Str.ofString "_QUOPRI_HEADER_MAP") 1215 (.ref 22), en P (Str.ofString "_QUOPRI_BODY_MAP") 1216 (.ref 24), en P (Str.ofString "ascii_lowercase") 1218 (.str (Str.ofString "abcdefghijklmnopqrstuvwxyz") 1217), en P (Str.ofString "ascii_uppercase") 1220 (.str (Str.ofString "ABCDEFGHIJKLMNOPQRSTUVWXYZ") 1219), en P (Str.ofString "ascii_letters") 1222 (.str (Str.ofString "abcdefghijklmnopqrstuvwxyzABCDEFGHIJKLMNOPQRSTUVWXYZ") 1221), en P (Str.ofString "digits") 1224 (.str (Str.ofString "0123456789") 1223), en P (Str.ofString "c") 1235 (.int 56 1511)] 17 }
noncomputable def o24_2 (P : Params) : Obj := { cls := .type "list", data := .seq #[q 0 193, q 1 197, q 2 201, q 3 205, q 4 209, q 5 213, q 6 217, q 7 221, q 8 225, q 9 229, q 10 233, q 11 237, q 12 241, q 13 245, q 14 249, q 15 253, q 16 257, q 17 261, q 18 265, q 19 269, q 20 273, q 21 277, q 22 281, q 23 285, q 24 289, q 25 293, q 26 297, q 27 301, q 28 305, q 29 309, q 30 313, q 31 317, ch 32 1441, ch 33 1444, ch 34 1447, ch 35 1450, ch 36 1453, ch 37 1456, ch 38 1459, ch 39 1462, ch 40 1465, ch 41 1468, ch 42 1471, ch 43 1474, ch 44 1477, ch 45 1480, ch 46 1483, ch 47 1486, ch 48 1489, ch 49 1492, ch 50 1495, ch 51 1498, ch 52 1501, ch 53 1504, ch 54 1507, ch 55 1510, ch 56 1513, q 57 421, q 58 425, q 59 429, q 60 433, q 61 437, q 62 441, q 63 445, q 64 449, q 65 453, q 66 457, q 67 461, q 68 465, q 69 469, q 70 473, q 71 477, q 72 481, q 73 485, q 74 489, q 75 493, q 76 497, q 77 501, q 78 505, q 79 509, q 80 513, q 81 517, q 82 521, q 83 525, q 84 529, q 85 533, q 86 537, q 87 541, q 88 545, q 89 549, q 90 553, q 91 557, q 92 561, q 93 565, q 94 569, q 95 573, q 96 577, q 97 581, q 98 585, q 99 589, q 100 593, q 101 597, q 102 601, q 103 605, q 104 609, q 105 613, q 106 617, q 107 621, q 108 625, q 109 629, q 110 633, q 111 637, q 112 641, q 113 645, q 114 649, q 115 653, q 116 657, q 117 661, q 118 665, q 119 669, q 120 673, q 121 677, q 122 681, q 123 685, q 124 689, q 125 693, q 126 697, q 127 701, q 128 705, q 129 709, q 130 713, q 131 717, q 132 721, q 133 725, q 134 729, q 135 733, q 136 737, q 137 741, q 138 745, q 139 749, q 140 753, q 141 757, q 142 761, q 143 765, q 144 769, q 145 773, q 146 777, q 147 781, q 148 785, q 149 789, q 150 793, q 151 797, q 152 801, q 153 805, q 154 809, q 155 813, q 156 817, q 157 821, q 158 825, q 159 829, q 160 833, q 161 837, q 162 841, q 163 845, q 164 849, q 165 853, q 166 857, q 167 861, q 168 865, q 169 869, q 170 873, q 171 877, q 172 881, q 173 885, q 174 889, q 175 893, q 176 897, q 177 901, q 178 905, q 179 909, q 180 913, q 181 917, q 182 921, q 183 925, q 184 929, q 185 933, q 186 937, q 187 941, q 188 945, q 189 949, q 190 953, q 191 957, q 192 961, q 193 965, q 194 969, q 195 973, q 196 977, q 197 981, q 198 985, q 199 989, q 200 993, q 201 997, q 202 1001, q 203 1005, q 204 1009, q 205 1013, q 206 1017, q 207 1021, q 208 1025, q 209 1029, q 210 1033, q 211 1037, q 212 1041, q 213 1045, q 214 1049, q 215 1053, q 216 1057, q 217 1061, q 218 1065, q 219 1069, q 220 1073, q 221 1077, q 222 1081, q 223 1085, q 224 1089, q 225 1093, q 226 1097, q 227 1101, q 228 1105, q 229 1109, q 230 1113, q 231 1117, q 232 1121, q 233 1125, q 234 1129, q 235 1133, q 236 1137, q 237 1141, q 238 1145, q 239 1149, q 240 1153, q 241 1157, q 242 1161, q 243 1165, q 244 1169, q 245 1173, q 246 1177, q 247 1181, q 248 1185, q 249 1189, q 250 1193, q 251 1197, q 252 1201, q 253 1205, q 254 1209, q 255 1213] 0 }
noncomputable def o28_1 (P : Params) : Obj := { cls := .type "bytes_iterator", data := .fields #[.bytes #[32, 33, 34, 35, 36, 37, 38, 39, 40, 41, 42, 43, 44, 45, 46, 47, 48, 49, 50, 51, 52, 53, 54, 55, 56, 57, 58, 59, 60, 62, 63, 64, 65, 66, 67, 68, 69, 70, 71, 72, 73, 74, 75, 76, 77, 78, 79, 80, 81, 82, 83, 84, 85, 86, 87, 88, 89, 90, 91, 92, 93, 94, 95, 96, 97, 98, 99, 100, 101, 102, 103, 104, 105, 106, 107, 108, 109, 110, 111, 112, 113, 114, 115, 116, 117, 118, 119, 120, 121, 122, 123, 124, 125, 126, 9] 1438, .int 25 0] }
noncomputable def o3_8 (P : Params) : Obj := { cls := .type "dict", data := .dict #[en P (Str.ofString "__name__") 165 (.str (Str.ofString "cpy313.email.quoprimime") 1225), en P (Str.ofString "__doc__") 166 (.none), en P (Str.ofString "__package__") 167 (.none), en P (Str.ofString "__loader__") 168 (ldrV P), en P (Str.ofString "__spec__") 169 (.none), en P (Str.ofString "__annotations__") 170 (.ref 6), en P (Str.ofString "__builtins__") 171 (.ref 4), en P (Str.ofString "__file__") 173 (.str (Str.ofString "/claim/cut.py") 172), en P (Str.ofString "__cached__") 174 (.none), en P (Str.ofString "_QUOPRI_MAP") 1214 (.ref 17), en P (Str.ofString "_QUOPRI_HEADER_MAP") 1215 (.ref 22), en P (Str.ofString "_QUOPRI_BODY_MAP") 1216 (.ref 24), en P (Str.ofString "ascii_lowercase") 1218 (.str (Str.ofString "abcdefghijklmnopqrstuvwxyz") 1217), en P (Str.ofString "ascii_uppercase") 1220 (.str (Str.ofString "ABCDEFGHIJKLMNOPQRSTUVWXYZ") 1219), en P (Str.ofString "ascii_letters") 1222 (.str (Str.ofString "abcdefghijklmnopqrstuvwxyzABCDEFGHIJKLMNOPQRSTUVWXYZ") 1221), en P (Str.ofString "digits") 1224 (.str (Str.ofString "0123456789") 1223), en P (Str.ofString "c") 1235 (.int 81 1583)] 17 }
noncomputable def o24_3 (P : Params) : Obj := { cls := .type "list", data := .seq #[q 0 193, q 1 197, q 2 201, q 3 205, q 4 209, q 5 213, q 6 217, q 7 221, q 8 225, q 9 229, q 10 233, q 11 237, q 12 241, q 13 245, q 14 249, q 15 253, q 16 257, q 17 261, q 18 265, q 19 269, q 20 273, q 21 277, q 22 281, q 23 285, q 24 289, q 25 293, q 26 297, q 27 301, q 28 305, q 29 309, q 30 313, q 31 317, ch 32 1441, ch 33 1444, ch 34 1447, ch 35 1450, ch 36 1453, ch 37 1456, ch 38 1459, ch 39 1462, ch 40 1465, ch 41 1468, ch 42 1471, ch 43 1474, ch 44 1477, ch 45 1480, ch 46 1483, ch 47 1486, ch 48 1489, ch 49 1492, ch 50 1495, ch 51 1498, ch 52 1501, ch 53 1504, ch 54 1507, ch 55 1510, ch 56 1513, ch 57 1516, ch 58 1519, ch 59 1522, ch 60 1525, q 61 437, ch 62 1528, ch 63 1531, ch 64 1534, ch 65 1537, ch 66 1540, ch 67 1543, ch 68 1546, ch 69 1549, ch 70 1552, ch 71 1555, ch 72 1558, ch 73 1561, ch 74 1564, ch 75 1567, ch 76 1570, ch 77 1573, ch 78 1576, ch 79 1579, ch 80 1582, ch 81 1585, q 82 521, q 83 525, q 84 529, q 85 533, q 86 537, q 87 541, q 88 545, q 89 549, q 90 553, q 91 557, q 92 561, q 93 565, q 94 569, q 95 573, q 96 577, q 97 581, q 98 585, q 99 589, q 100 593, q 101 597, q 102 601, q 103 605, q 104 609, q 105 613, q 106 617, q 107 621, q 108 625, q 109 629, q 110 633, q 111 637, q 112 641, q 113 645, q 114 649, q 115 653, q 116 657, q 117 661, q 118 665, q 119 669, q 120 673, q 121 677, q 122 681, q 123 685, q 124 689, q 125 693, q 126 697, q 127 701, q 128 705, q 129 709, q 130 713, q 131 717, q 132 721, q 133 725, q 134 729, q 135 733, q 136 737, q 137 741, q 138 745, q 139 749, q 140 753, q 141 757, q 142 761, q 143 765, q 144 769, q 145 773, q 146 777, q 147 781, q 148 785, q 149 789, q 150 793, q 151 797, q 152 801, q 153 805, q 154 809, q 155 813, q 156 817, q 157 821, q 158 825, q 159 829, q 160 833, q 161 837, q 162 841, q 163 845, q 164 849, q 165 853, q 166 857, q 167 861, q 168 865, q 169 869, q 170 873, q 171 877, q 172 881, q 173 885, q 174 889, q 175 893, q 176 897, q 177 901, q 178 905, q 179 909, q 180 913, q 181 917, q 182 921, q 183 925, q 184 929, q 185 933, q 186 937, q 187 941, q 188 945, q 189 949, q 190 953, q 191 957, q 192 961, q 193 965, q 194 969, q 195 973, q 196 977, q 197 981, q 198 985, q 199 989, q 200 993, q 201 997, q 202 1001, q 203 1005, q 204 1009, q 205 1013, q 206 1017, q 207 1021, q 208 1025, q 209 1029, q 210 1033, q 211 1037, q 212 1041, q 213 1045, q 214 1049, q 215 1053, q 216 1057, q 217 1061, q 218 1065, q 219 1069, q 220 1073, q 221 1077, q 222 1081, q 223 1085, q 224 1089, q 225 1093, q 226 1097, q 227 1101, q 228 1105, q 229 1109, q 230 1113, q 231 1117, q 232 1121, q 233 1125, q 234 1129, q 235 1133, q 236 1137, q 237 1141, q 238 1145, q 239 1149, q 240 1153, q 241 1157, q 242 1161, q 243 1165, q 244 1169, q 245 1173, q 246 1177, q 247 1181, q 248 1185, q 249 1189, q 250 1193, q 251 1197, q 252 1201, q 253 1205, q 254 1209, q 255 1213] 0 }
noncomputable def o28_2 (P : Params) : Obj := { cls := .type "bytes_iterator", data := .fields #[.bytes #[32, 33, 34, 35, 36, 37, 38, 39, 40, 41, 42, 43, 44, 45, 46, 47, 48, 49, 50, 51, 52, 53, 54, 55, 56, 57, 58, 59, 60, 62, 63, 64, 65, 66, 67, 68, 69, 70, 71, 72, 73, 74, 75, 76, 77, 78, 79, 80, 81, 82, 83, 84, 85, 86, 87, 88, 89, 90, 91, 92, 93, 94, 95, 96, 97, 98, 99, 100, 101, 102, 103, 104, 105, 106, 107, 108, 109, 110, 111, 112, 113, 114, 115, 116, 117, 118, 119, 120, 121, 122, 123, 124, 125, 126, 9] 1438, .int 49 0] }
noncomputable def o3_9 (P : Params) : Obj := { cls := .type "dict", data := .dict #[en P (Str.ofString "__name__") 165 (.str (Str.ofString "cpy313.email.quoprimime") 1225), en P (Str.ofString "__doc__") 166 (.none), en P (Str.ofString "__package__") 167 (.none), en P (Str.ofString "__loader__") 168 (ldrV P), en P (Str.ofString "__spec__") 169 (.none), en P (Str.ofString "__annotations__") 170 (.ref 6), en P (Str.ofString "__builtins__") 171 (.ref 4), en P (Str.ofString "__file__") 173 (.str (Str.ofString "/claim/cut.py") 172), en P (Str.ofString "__cached__") 174 (.none), en P (Str.ofString "_QUOPRI_MAP") 1214 (.ref 17), en P (Str.ofString "_QUOPRI_HEADER_MAP") 1215 (.ref 22), en P (Str.ofString "_QUOPRI_BODY_MAP") 1216 (.ref 24), en P (Str.ofString "ascii_lowercase") 1218 (.str (Str.ofString "abcdefghijklmnopqrstuvwxyz") 1217), en P (Str.ofString "ascii_uppercase") 1220 (.str (Str.ofString "ABCDEFGHIJKLMNOPQRSTUVWXYZ") 1219), en P (Str.ofString "ascii_letters") 1222 (.str (Str.ofString "abcdefghijklmnopqrstuvwxyzABCDEFGHIJKLMNOPQRSTUVWXYZ") 1221), en P (Str.ofString "digits") 1224 (.str (Str.ofString "0123456789") 1223), en P (Str.ofString "c") 1235 (.int 105 1655)] 17 }
noncomputable def o24_4 (P : Params) : Obj := { cls := .type "list", data := .seq #[q 0 193, q 1 197, q 2 201, q 3 205, q 4 209, q 5 213, q 6 217, q 7 221, q 8 225, q 9 229, q 10 233, q 11 237, q 12 241, q 13 245, q 14 249, q 15 253, q 16 257, q 17 261, q 18 265, q 19 269, q 20 273, q 21 277, q 22 281, q 23 285, q 24 289, q 25 293, q 26 297, q 27 301, q 28 305, q 29 309, q 30 313, q 31 317, ch 32 1441, ch 33 1444, ch 34 1447, ch 35 1450, ch 36 1453, ch 37 1456, ch 38 1459, ch 39 1462, ch 40 1465, ch 41 1468, ch 42 1471, ch 43 1474, ch 44 1477, ch 45 1480, ch 46 1483, ch 47 1486, ch 48 1489, ch 49 1492, ch 50 1495, ch 51 1498, ch 52 1501, ch 53 1504, ch 54 1507, ch 55 1510, ch 56 1513, ch 57 1516, ch 58 1519, ch 59 1522, ch 60 1525, q 61 437, ch 62 1528, ch 63 1531, ch 64 1534, ch 65 1537, ch 66 1540, ch 67 1543, ch 68 1546, ch 69 1549, ch 70 1552, ch 71 1555, ch 72 1558, ch 73 1561, ch 74 1564, ch 75 1567, ch 76 1570, ch 77 1573, ch 78 1576, ch 79 1579, ch 80 1582, ch 81 1585, ch 82 1588, ch 83 1591, ch 84 1594, ch 85 1597, ch 86 1600, ch 87 1603, ch 88 1606, ch 89 1609, ch 90 1612, ch 91 1615, ch 92 1618, ch 93 1621, ch 94 1624, ch 95 1627, ch 96 1630, ch 97 1633, ch 98 1636, ch 99 1639, ch 100 1642, ch 101 1645, ch 102 1648, ch 103 1651, ch 104 1654, ch 105 1657, q 106 617, q 107 621, q 108 625, q 109 629, q 110 633, q 111 637, q 112 641, q 113 645, q 114 649, q 115 653, q 116 657, q 117 661, q 118 665, q 119 669, q 120 673, q 121 677, q 122 681, q 123 685, q 124 689, q 125 693, q 126 697, q 127 701, q 128 705, q 129 709, q 130 713, q 131 717, q 132 721, q 133 725, q 134 729, q 135 733, q 136 737, q 137 741, q 138 745, q 139 749, q 140 753, q 141 757, q 142 761, q 143 765, q 144 769, q 145 773, q 146 777, q 147 781, q 148 785, q 149 789, q 150 793, q 151 797, q 152 801, q 153 805, q 154 809, q 155 813, q 156 817, q 157 821, q 158 825, q 159 829, q 160 833, q 161 837, q 162 841, q 163 845, q 164 849, q 165 853, q 166 857, q 167 861, q 168 865, q 169 869, q 170 873, q 171 877, q 172 881, q 173 885, q 174 889, q 175 893, q 176 897, q 177 901, q 178 905, q 179 909, q 180 913, q 181 917, q 182 921, q 183 925, q 184 929, q 185 933, q 186 937, q 187 941, q 188 945, q 189 949, q 190 953, q 191 957, q 192 961, q 193 965, q 194 969, q 195 973, q 196 977, q 197 981, q 198 985, q 199 989, q 200 993, q 201 997, q 202 1001, q 203 1005, q 204 1009, q 205 1013, q 206 1017, q 207 1021, q 208 1025, q 209 1029, q 210 1033, q 211 1037, q 212 1041, q 213 1045, q 214 1049, q 215 1053, q 216 1057, q 217 1061, q 218 1065, q 219 1069, q 220 1073, q 221 1077, q 222 1081, q 223 1085, q 224 1089, q 225 1093, q 226 1097, q 227 1101, q 228 1105, q 229 1109, q 230 1113, q 231 1117, q 232 1121, q 233 1125, q 234 1129, q 235 1133, q 236 1137, q 237 1141, q 238 1145, q 239 1149, q 240 1153, q 241 1157, q 242 1161, q 243 1165, q 244 1169, q 245 1173, q 246 1177, q 247 1181, q 248 1185, q 249 1189, q 250 1193, q 251 1197, q 252 1201, q 253 1205, q 254 1209, q 255 1213] 0 }
noncomputable def o28_3 (P : Params) : Obj := { cls := .type "bytes_iterator", data := .fields #[.bytes #[32, 33, 34, 35, 36, 37, 38, 39, 40, 41, 42, 43, 44, 45, 46, 47, 48, 49, 50, 51, 52, 53, 54, 55, 56, 57, 58, 59, 60, 62, 63, 64, 65, 66, 67, 68, 69, 70, 71, 72, 73, 74, 75, 76, 77, 78, 79, 80, 81, 82, 83, 84, 85, 86, 87, 88, 89, 90, 91, 92, 93, 94, 95, 96, 97, 98, 99, 100, 101, 102, 103, 104, 105, 106, 107, 108, 109, 110, 111, 112, 113, 114, 115, 116, 117, 118, 119, 120, 121, 122, 123, 124, 125, 126, 9] 1438, .int 73 0] }
noncomputable def o3_10 (P : Params) : Obj := { cls := .type "dict", data := .dict #[en P (Str.ofString "__name__") 165 (.str (Str.ofString "cpy313.email.quoprimime") 1225), en P (Str.ofString "__doc__") 166 (.none), en P (Str.ofString "__package__") 167 (.none), en P (Str.ofString "__loader__") 168 (ldrV P), en P (Str.ofString "__spec__") 169 (.none), en P (Str.ofString "__annotations__") 170 (.ref 6), en P (Str.ofString "__builtins__") 171 (.ref 4), en P (Str.ofString "__file__") 173 (.str (Str.ofString "/claim/cut.py") 172), en P (Str.ofString "__cached__") 174 (.none), en P (Str.ofString "_QUOPRI_MAP") 1214 (.ref 17), en P (Str.ofString "_QUOPRI_HEADER_MAP") 1215 (.ref 22), en P (Str.ofString "_QUOPRI_BODY_MAP") 1216 (.ref 24), en P (Str.ofString "ascii_lowercase") 1218 (.str (Str.ofString "abcdefghijklmnopqrstuvwxyz") 1217), en P (Str.ofString "ascii_uppercase") 1220 (.str (Str.ofString "ABCDEFGHIJKLMNOPQRSTUVWXYZ") 1219), en P (Str.ofString "ascii_letters") 1222 (.str (Str.ofString "abcdefghijklmnopqrstuvwxyzABCDEFGHIJKLMNOPQRSTUVWXYZ") 1221), en P (Str.ofString "digits") 1224 (.str (Str.ofString "0123456789") 1223), en P (Str.ofString "c") 1235 (.int 9 1721)] 17 }
noncomputable def o24_5 (P : Params) : Obj := { cls := .type "list", data := .seq #[q 0 193, q 1 197, q 2 201, q 3 205, q 4 209, q 5 213, q 6 217, q 7 221, q 8 225, ch 9 1723, q 10 233, q 11 237, q 12 241, q 13 245, q 14 249, q 15 253, q 16 257, q 17 261, q 18 265, q 19 269, q 20 273, q 21 277, q 22 281, q 23 285, q 24 289, q 25 293, q 26 297, q 27 301, q 28 305, q 29 309, q 30 313, q 31 317, ch 32 1441, ch 33 1444, ch 34 1447, ch 35 1450, ch 36 1453, ch 37 1456, ch 38 1459, ch 39 1462, ch 40 1465, ch 41 1468, ch 42 1471, ch 43 1474, ch 44 1477, ch 45 1480, ch 46 1483, ch 47 1486, ch 48 1489, ch 49 1492, ch 50 1495, ch 51 1498, ch 52 1501, ch 53 1504, ch 54 1507, ch 55 1510, ch 56 1513, ch 57 1516, ch 58 1519, ch 59 1522, ch 60 1525, q 61 437, ch 62 1528, ch 63 1531, ch 64 1534, ch 65 1537, ch 66 1540, ch 67 1543, ch 68 1546, ch 69 1549, ch 70 1552, ch 71 1555, ch 72 1558, ch 73 1561, ch 74 1564, ch 75 1567, ch 76 1570, ch 77 1573, ch 78 1576, ch 79 1579, ch 80 1582, ch 81 1585, ch 82 1588, ch 83 1591, ch 84 1594, ch 85 1597, ch 86 1600, ch 87 1603, ch 88 1606, ch 89 1609, ch 90 1612, ch 91 1615, ch 92 1618, ch 93 1621, ch 94 1624, ch 95 1627, ch 96 1630, ch 97 1633, ch 98 1636, ch 99 1639, ch 100 1642, ch 101 1645, ch 102 1648, ch 103 1651, ch 104 1654, ch 105 1657, ch 106 1660, ch 107 1663, ch 108 1666, ch 109 1669, ch 110 1672, ch 111 1675, ch 112 1678, ch 113 1681, ch 114 1684, ch 115 1687, ch 116 1690, ch 117 1693, ch 118 1696, ch 119 1699, ch 120 1702, ch 121 1705, ch 122 1708, ch 123 1711, ch 124 1714, ch 125 1717, ch 126 1720, q 127 701, q 128 705, q 129 709, q 130 713, q 131 717, q 132 721, q 133 725, q 134 729, q 135 733, q 136 737, q 137 741, q 138 745, q 139 749, q 140 753, q 141 757, q 142 761, q 143 765, q 144 769, q 145 773, q 146 777, q 147 781, q 148 785, q 149 789, q 150 793, q 151 797, q 152 801, q 153 805, q 154 809, q 155 813, q 156 817, q 157 821, q 158 825, q 159 829, q 160 833, q 161 837, q 162 841, q 163 845, q 164 849, q 165 853, q 166 857, q 167 861, q 168 865, q 169 869, q 170 873, q 171 877, q 172 881, q 173 885, q 174 889, q 175 893, q 176 897, q 177 901, q 178 905, q 179 909, q 180 913, q 181 917, q 182 921, q 183 925, q 184 929, q 185 933, q 186 937, q 187 941, q 188 945, q 189 949, q 190 953, q 191 957, q 192 961, q 193 965, q 194 969, q 195 973, q 196 977, q 197 981, q 198 985, q 199 989, q 200 993, q 201 997, q 202 1001, q 203 1005, q 204 1009, q 205 1013, q 206 1017, q 207 1021, q 208 1025, q 209 1029, q 210 1033, q 211 1037, q 212 1041, q 213 1045, q 214 1049, q 215 1053, q 216 1057, q 217 1061, q 218 1065, q 219 1069, q 220 1073, q 221 1077, q 222 1081, q 223 1085, q 224 1089, q 225 1093, q 226 1097, q 227 1101, q 228 1105, q 229 1109, q 230 1113, q 231 1117, q 232 1121, q 233 1125, q 234 1129, q 235 1133, q 236 1137, q 237 1141, q 238 1145, q 239 1149, q 240 1153, q 241 1157, q 242 1161, q 243 1165, q 244 1169, q 245 1173, q 246 1177, q 247 1181, q 248 1185, q 249 1189, q 250 1193, q 251 1197, q 252 1201, q 253 1205, q 254 1209, q 255 1213] 0 }
noncomputable def o28_4 (P : Params) : Obj := { cls := .type "bytes_iterator", data := .fields #[.bytes #[32, 33, 34, 35, 36, 37, 38, 39, 40, 41, 42, 43, 44, 45, 46, 47, 48, 49, 50, 51, 52, 53, 54, 55, 56, 57, 58, 59, 60, 62, 63, 64, 65, 66, 67, 68, 69, 70, 71, 72, 73, 74, 75, 76, 77, 78, 79, 80, 81, 82, 83, 84, 85, 86, 87, 88, 89, 90, 91, 92, 93, 94, 95, 96, 97, 98, 99, 100, 101, 102, 103, 104, 105, 106, 107, 108, 109, 110, 111, 112, 113, 114, 115, 116, 117, 118, 119, 120, 121, 122, 123, 124, 125, 126, 9] 1438, .int 95 0] }
noncomputable def o28_5 (P : Params) : Obj := { cls := .type "bytes_iterator", data := .fields #[.none, .int 95 0] }
noncomputable def o29_0 (P : Params) : Obj := { cls := .type "tuple", data := .seq #[] }
noncomputable def o30_0 (P : Params) : Obj := { cls := .type "StopIteration", data := .fields #[.ref 29, .none, .none, .none, .bool false, .none] }
noncomputable def o3_11 (P : Params) : Obj := { cls := .type "dict", data := .dict #[en P (Str.ofString "__name__") 165 (.str (Str.ofString "cpy313.email.quoprimime") 1225), en P (Str.ofString "__doc__") 166 (.none), en P (Str.ofString "__package__") 167 (.none), en P (Str.ofString "__loader__") 168 (ldrV P), en P (Str.ofString "__spec__") 169 (.none), en P (Str.ofString "__annotations__") 170 (.ref 6), en P (Str.ofString "__builtins__") 171 (.ref 4), en P (Str.ofString "__file__") 173 (.str (Str.ofString "/claim/cut.py") 172), en P (Str.ofString "__cached__") 174 (.none), en P (Str.ofString "_QUOPRI_MAP") 1214 (.ref 17), en P (Str.ofString "_QUOPRI_HEADER_MAP") 1215 (.ref 22), en P (Str.ofString "_QUOPRI_BODY_MAP") 1216 (.ref 24), en P (Str.ofString "ascii_lowercase") 1218 (.str (Str.ofString "abcdefghijklmnopqrstuvwxyz") 1217), en P (Str.ofString "ascii_uppercase") 1220 (.str (Str.ofString "ABCDEFGHIJKLMNOPQRSTUVWXYZ") 1219), en P (Str.ofString "ascii_letters") 1222 (.str (Str.ofString "abcdefghijklmnopqrstuvwxyzABCDEFGHIJKLMNOPQRSTUVWXYZ") 1221), en P (Str.ofString "digits") 1224 (.str (Str.ofString "0123456789") 1223), en P (Str.ofString "c") 1235 (.int 9 1721), en P (Str.ofString "quote") 1730 (.ref 37), en P (Str.ofString "_QUOPRI_BODY_ENCODE_MAP") 1731 (.ref 39)] 19 }
noncomputable def o12_1 (P : Params) : Obj := { cls := .none, data := .fields #[.int 14 0, .int 0 0, .ref 36] }
noncomputable def o31_0 (P : Params) : Obj := { cls := .type "tuple", data := .seq #[] }
noncomputable def o32_0 (P : Params) : Obj := { cls := .none, data := .fields #[] }
noncomputable def o33_0 (P : Params) : Obj := { cls := .type "tuple", data := .seq #[.str (Str.ofString "c") 1727] }
noncomputable def o34_0 (P : Params) : Obj := { cls := .type "tuple", data := .seq #[] }
noncomputable def o35_0 (P : Params) : Obj := { cls := .none, data := .func { name := Str.ofString "quote", qualname := Str.ofString "quote", params := fp11.1.1, body := .stmts fp11.1.2.1, scope := fp11.1.2.2, globals := 0, closure := [], defaults := .none, kwdefaults := .none } }
noncomputable def o36_0 (P : Params) : Obj := { cls := .type "code", data := .fields #[.str (Str.ofString "quote") 1724, .str (Str.ofString "quote") 1725, .str (Str.ofString "/claim/cut.py") 1726, .int 14 0, .int 1 0, .int 0 0, .int 0 0, .int 3 0, .ref 31, .bool true, .int 181 0, .ref 32, .none, .ref 33, .ref 34, .ref 35, .int 1728 0, .int 14 0, .str (Str.ofString "/claim/cut.py") 1729] }
noncomputable def o37_0 (P : Params) : Obj := { cls := .type "function", data := .func { name := Str.ofString "quote", qualname := Str.ofString "quote", params := fp11.1.1, body := .stmts fp11.1.2.1, scope := fp11.1.2.2, globals := 3, closure := [], defaults := .none, kwdefaults := .none, pyModule := .str (Str.ofString "cpy313.email.quoprimime") 1225, code := .ref 36 } }
noncomputable def o38_0 (P : Params) : Obj := { cls := .type "slice", data := .fields #[.none, .none, .none] }
noncomputable def o39_0 (P : Params) : Obj := { cls := .type "list", data := .seq #[q 0 193, q 1 197, q 2 201, q 3 205, q 4 209, q 5 213, q 6 217, q 7 221, q 8 225, ch 9 1723, q 10 233, q 11 237, q 12 241, q 13 245, q 14 249, q 15 253, q 16 257, q 17 261, q 18 265, q 19 269, q 20 273, q 21 277, q 22 281, q 23 285, q 24 289, q 25 293, q 26 297, q 27 301, q 28 305, q 29 309, q 30 313, q 31 317, ch 32 1441, ch 33 1444, ch 34 1447, ch 35 1450, ch 36 1453, ch 37 1456, ch 38 1459, ch 39 1462, ch 40 1465, ch 41 1468, ch 42 1471, ch 43 1474, ch 44 1477, ch 45 1480, ch 46 1483, ch 47 1486, ch 48 1489, ch 49 1492, ch 50 1495, ch 51 1498, ch 52 1501, ch 53 1504, ch 54 1507, ch 55 1510, ch 56 1513, ch 57 1516, ch 58 1519, ch 59 1522, ch 60 1525, q 61 437, ch 62 1528, ch 63 1531, ch 64 1534, ch 65 1537, ch 66 1540, ch 67 1543, ch 68 1546, ch 69 1549, ch 70 1552, ch 71 1555, ch 72 1558, ch 73 1561, ch 74 1564, ch 75 1567, ch 76 1570, ch 77 1573, ch 78 1576, ch 79 1579, ch 80 1582, ch 81 1585, ch 82 1588, ch 83 1591, ch 84 1594, ch 85 1597, ch 86 1600, ch 87 1603, ch 88 1606, ch 89 1609, ch 90 1612, ch 91 1615, ch 92 1618, ch 93 1621, ch 94 1624, ch 95 1627, ch 96 1630, ch 97 1633, ch 98 1636, ch 99 1639, ch 100 1642, ch 101 1645, ch 102 1648, ch 103 1651, ch 104 1654, ch 105 1657, ch 106 1660, ch 107 1663, ch 108 1666, ch 109 1669, ch 110 1672, ch 111 1675, ch 112 1678, ch 113 1681, ch 114 1684, ch 115 1687, ch 116 1690, ch 117 1693, ch 118 1696, ch 119 1699, ch 120 1702, ch 121 1705, ch 122 1708, ch 123 1711, ch 124 1714, ch 125 1717, ch 126 1720, q 127 701, q 128 705, q 129 709, q 130 713, q 131 717, q 132 721, q 133 725, q 134 729, q 135 733, q 136 737, q 137 741, q 138 745, q 139 749, q 140 753, q 141 757, q 142 761, q 143 765, q 144 769, q 145 773, q 146 777, q 147 781, q 148 785, q 149 789, q 150 793, q 151 797, q 152 801, q 153 805, q 154 809, q 155 813, q 156 817, q 157 821, q 158 825, q 159 829, q 160 833, q 161 837, q 162 841, q 163 845, q 164 849, q 165 853, q 166 857, q 167 861, q 168 865, q 169 869, q 170 873, q 171 877, q 172 881, q 173 885, q 174 889, q 175 893, q 176 897, q 177 901, q 178 905, q 179 909, q 180 913, q 181 917, q 182 921, q 183 925, q 184 929, q 185 933, q 186 937, q 187 941, q 188 945, q 189 949, q 190 953, q 191 957, q 192 961, q 193 965, q 194 969, q 195 973, q 196 977, q 197 981, q 198 985, q 199 989, q 200 993, q 201 997, q 202 1001, q 203 1005, q 204 1009, q 205 1013, q 206 1017, q 207 1021, q 208 1025, q 209 1029, q 210 1033, q 211 1037, q 212 1041, q 213 1045, q 214 1049, q 215 1053, q 216 1057, q 217 1061, q 218 1065, q 219 1069, q 220 1073, q 221 1077, q 222 1081, q 223 1085, q 224 1089, q 225 1093, q 226 1097, q 227 1101, q 228 1105, q 229 1109, q 230 1113, q 231 1117, q 232 1121, q 233 1125, q 234 1129, q 235 1133, q 236 1137, q 237 1141, q 238 1145, q 239 1149, q 240 1153, q 241 1157, q 242 1161, q 243 1165, q 244 1169, q 245 1173, q 246 1177, q 247 1181, q 248 1185, q 249 1189, q 250 1193, q 251 1197, q 252 1201, q 253 1205, q 254 1209, q 255 1213] 0 }
noncomputable def o3_12 (P : Params) : Obj := { cls := .type "dict", data := .dict #[en P (Str.ofString "__name__") 165 (.str (Str.ofString "cpy313.email.quoprimime") 1225), en P (Str.ofString "__doc__") 166 (.none), en P (Str.ofString "__package__") 167 (.none), en P (Str.ofString "__loader__") 168 (ldrV P), en P (Str.ofString "__spec__") 169 (.none), en P (Str.ofString "__annotations__") 170 (.ref 6), en P (Str.ofString "__builtins__") 171 (.ref 4), en P (Str.ofString "__file__") 173 (.str (Str.ofString "/claim/cut.py") 172), en P (Str.ofString "__cached__") 174 (.none), en P (Str.ofString "_QUOPRI_MAP") 1214 (.ref 17), en P (Str.ofString "_QUOPRI_HEADER_MAP") 1215 (.ref 22), en P (Str.ofString "_QUOPRI_BODY_MAP") 1216 (.ref 24), en P (Str.ofString "ascii_lowercase") 1218 (.str (Str.ofString "abcdefghijklmnopqrstuvwxyz") 1217), en P (Str.ofString "ascii_uppercase") 1220 (.str (Str.ofString "ABCDEFGHIJKLMNOPQRSTUVWXYZ") 1219), en P (Str.ofString "ascii_letters") 1222 (.str (Str.ofString "abcdefghijklmnopqrstuvwxyzABCDEFGHIJKLMNOPQRSTUVWXYZ") 1221), en P (Str.ofString "digits") 1224 (.str (Str.ofString "0123456789") 1223), en P (Str.ofString "c") 1235 (.int 10 1736), en P (Str.ofString "quote") 1730 (.ref 37), en P (Str.ofString "_QUOPRI_BODY_ENCODE_MAP") 1731 (.ref 39)] 19 }
noncomputable def o39_1 (P : Params) : Obj := { cls := .type "list", data := .seq #[q 0 193, q 1 197, q 2 201, q 3 205, q 4 209, q 5 213, q 6 217, q 7 221, q 8 225, ch 9 1723, ch 10 1738, q 11 237, q 12 241, ch 13 1735, q 14 249, q 15 253, q 16 257, q 17 261, q 18 265, q 19 269, q 20 273, q 21 277, q 22 281, q 23 285, q 24 289, q 25 293, q 26 297, q 27 301, q 28 305, q 29 309, q 30 313, q 31 317, ch 32 1441, ch 33 1444, ch 34 1447, ch 35 1450, ch 36 1453, ch 37 1456, ch 38 1459, ch 39 1462, ch 40 1465, ch 41 1468, ch 42 1471, ch 43 1474, ch 44 1477, ch 45 1480, ch 46 1483, ch 47 1486, ch 48 1489, ch 49 1492, ch 50 1495, ch 51 1498, ch 52 1501, ch 53 1504, ch 54 1507, ch 55 1510, ch 56 1513, ch 57 1516, ch 58 1519, ch 59 1522, ch 60 1525, q 61 437, ch 62 1528, ch 63 1531, ch 64 1534, ch 65 1537, ch 66 1540, ch 67 1543, ch 68 1546, ch 69 1549, ch 70 1552, ch 71 1555, ch 72 1558, ch 73 1561, ch 74 1564, ch 75 1567, ch 76 1570, ch 77 1573, ch 78 1576, ch 79 1579, ch 80 1582, ch 81 1585, ch 82 1588, ch 83 1591, ch 84 1594, ch 85 1597, ch 86 1600, ch 87 1603, ch 88 1606, ch 89 1609, ch 90 1612, ch 91 1615, ch 92 1618, ch 93 1621, ch 94 1624, ch 95 1627, ch 96 1630, ch 97 1633, ch 98 1636, ch 99 1639, ch 100 1642, ch 101 1645, ch 102 1648, ch 103 1651, ch 104 1654, ch 105 1657, ch 106 1660, ch 107 1663, ch 108 1666, ch 109 1669, ch 110 1672, ch 111 1675, ch 112 1678, ch 113 1681, ch 114 1684, ch 115 1687, ch 116 1690, ch 117 1693, ch 118 1696, ch 119 1699, ch 120 1702, ch 121 1705, ch 122 1708, ch 123 1711, ch 124 1714, ch 125 1717, ch 126 1720, q 127 701, q 128 705, q 129 709, q 130 713, q 131 717, q 132 721, q 133 725, q 134 729, q 135 733, q 136 737, q 137 741, q 138 745, q 139 749, q 140 753, q 141 757, q 142 761, q 143 765, q 144 769, q 145 773, q 146 777, q 147 781, q 148 785, q 149 789, q 150 793, q 151 797, q 152 801, q 153 805, q 154 809, q 155 813, q 156 817, q 157 821, q 158 825, q 159 829, q 160 833, q 161 837, q 162 841, q 163 845, q 164 849, q 165 853, q 166 857, q 167 861, q 168 865, q 169 869, q 170 873, q 171 877, q 172 881, q 173 885, q 174 889, q 175 893, q 176 897, q 177 901, q 178 905, q 179 909, q 180 913, q 181 917, q 182 921, q 183 925, q 184 929, q 185 933, q 186 937, q 187 941, q 188 945, q 189 949, q 190 953, q 191 957, q 192 961, q 193 965, q 194 969, q 195 973, q 196 977, q 197 981, q 198 985, q 199 989, q 200 993, q 201 997, q 202 1001, q 203 1005, q 204 1009, q 205 1013, q 206 1017, q 207 1021, q 208 1025, q 209 1029, q 210 1033, q 211 1037, q 212 1041, q 213 1045, q 214 1049, q 215 1053, q 216 1057, q 217 1061, q 218 1065, q 219 1069, q 220 1073, q 221 1077, q 222 1081, q 223 1085, q 224 1089, q 225 1093, q 226 1097, q 227 1101, q 228 1105, q 229 1109, q 230 1113, q 231 1117, q 232 1121, q 233 1125, q 234 1129, q 235 1133, q 236 1137, q 237 1141, q 238 1145, q 239 1149, q 240 1153, q 241 1157, q 242 1161, q 243 1165, q 244 1169, q 245 1173, q 246 1177, q 247 1181, q 248 1185, q 249 1189, q 250 1193, q 251 1197, q 252 1201, q 253 1205, q 254 1209, q 255 1213] 0 }
noncomputable def o40_0 (P : Params) : Obj := { cls := .type "bytes_iterator", data := .fields #[.none, .int 2 0] }
noncomputable def o41_0 (P : Params) : Obj := { cls := .type "tuple", data := .seq #[] }
noncomputable def o42_0 (P : Params) : Obj := { cls := .type "StopIteration", data := .fields #[.ref 41, .none, .none, .none, .bool false, .none] }
noncomputable def o3_13 (P : Params) : Obj := { cls := .type "dict", data := .dict #[en P (Str.ofString "__name__") 165 (.str (Str.ofString "cpy313.traceback") 1739), en P (Str.ofString "__doc__") 166 (.none), en P (Str.ofString "__package__") 167 (.none), en P (Str.ofString "__loader__") 168 (ldrV P), en P (Str.ofString "__spec__") 169 (.none), en P (Str.ofString "__annotations__") 170 (.ref 6), en P (Str.ofString "__builtins__") 171 (.ref 4), en P (Str.ofString "__file__") 173 (.str (Str.ofString "/claim/cut.py") 172), en P (Str.ofString "__cached__") 174 (.none), en P (Str.ofString "_QUOPRI_MAP") 1214 (.ref 17), en P (Str.ofString "_QUOPRI_HEADER_MAP") 1215 (.ref 22), en P (Str.ofString "_QUOPRI_BODY_MAP") 1216 (.ref 24), en P (Str.ofString "ascii_lowercase") 1218 (.str (Str.ofString "abcdefghijklmnopqrstuvwxyz") 1217), en P (Str.ofString "ascii_uppercase") 1220 (.str (Str.ofString "ABCDEFGHIJKLMNOPQRSTUVWXYZ") 1219), en P (Str.ofString "ascii_letters") 1222 (.str (Str.ofString "abcdefghijklmnopqrstuvwxyzABCDEFGHIJKLMNOPQRSTUVWXYZ") 1221), en P (Str.ofString "digits") 1224 (.str (Str.ofString "0123456789") 1223), en P (Str.ofString "quote") 1730 (.ref 37), en P (Str.ofString "_QUOPRI_BODY_ENCODE_MAP") 1731 (.ref 39), en P (Str.ofString "_MAX_STRING_SIZE") 1742 (.int 40 1741), en P (Str.ofString "_MOVE_COST") 1744 (.int 2 1743), en P (Str.ofString "_CASE_COST") 1746 (.int 1 1745), en P (Str.ofString "_substitution_cost") 1754 (.ref 49)] 24 }
noncomputable def o12_2 (P : Params) : Obj := { cls := .none, data := .fields #[.int 14 0, .int 0 0, .ref 36, .int 24 0, .int 0 0, .ref 48] }
noncomputable def o43_0 (P : Params) : Obj := { cls := .type "tuple", data := .seq #[] }
noncomputable def o44_0 (P : Params) : Obj := { cls := .none, data := .fields #[] }
noncomputable def o45_0 (P : Params) : Obj := { cls := .type "tuple", data := .seq #[.str (Str.ofString "ch_a") 1750, .str (Str.ofString "ch_b") 1751] }
noncomputable def o46_0 (P : Params) : Obj := { cls := .type "tuple", data := .seq #[] }
noncomputable def o47_0 (P : Params) : Obj := { cls := .none, data := .func { name := Str.ofString "_substitution_cost", qualname := Str.ofString "_substitution_cost", params := fp19.1.1, body := .stmts fp19.1.2.1, scope := fp19.1.2.2, globals := 0, closure := [], defaults := .none, kwdefaults := .none } }
noncomputable def o48_0 (P : Params) : Obj := { cls := .type "code", data := .fields #[.str (Str.ofString "_substitution_cost") 1747, .str (Str.ofString "_substitution_cost") 1748, .str (Str.ofString "/claim/cut.py") 1749, .int 24 0, .int 2 0, .int 0 0, .int 0 0, .int 3 0, .ref 43, .bool true, .int 181 0, .ref 44, .none, .ref 45, .ref 46, .ref 47, .int 1752 0, .int 24 0, .str (Str.ofString "/claim/cut.py") 1753] }
noncomputable def o49_0 (P : Params) : Obj := { cls := .type "function", data := .func { name := Str.ofString "_substitution_cost", qualname := Str.ofString "_substitution_cost", params := fp19.1.1, body := .stmts fp19.1.2.1, scope := fp19.1.2.2, globals := 3, closure := [], defaults := .none, kwdefaults := .none, pyModule := .str (Str.ofString "cpy313.traceback") 1739, code := .ref 48 } }
noncomputable def o3_14 (P : Params) : Obj := { cls := .type "dict", data := .dict #[en P (Str.ofString "__name__") 165 (.str (Str.ofString "law_rl0023_01") 1775), en P (Str.ofString "__doc__") 166 (.none), en P (Str.ofString "__package__") 167 (.none), en P (Str.ofString "__loader__") 168 (ldrV P), en P (Str.ofString "__spec__") 169 (.none), en P (Str.ofString "__annotations__") 170 (.ref 6), en P (Str.ofString "__builtins__") 171 (.ref 4), en P (Str.ofString "__file__") 173 (.str (Str.ofString "/claim/cut.py") 172), en P (Str.ofString "__cached__") 174 (.none), en P (Str.ofString "_QUOPRI_MAP") 1214 (.ref 17), en P (Str.ofString "_QUOPRI_HEADER_MAP") 1215 (.ref 22), en P (Str.ofString "_QUOPRI_BODY_MAP") 1216 (.ref 24), en P (Str.ofString "ascii_lowercase") 1218 (.str (Str.ofString "abcdefghijklmnopqrstuvwxyz") 1217), en P (Str.ofString "ascii_uppercase") 1220 (.str (Str.ofString "ABCDEFGHIJKLMNOPQRSTUVWXYZ") 1219), en P (Str.ofString "ascii_letters") 1222 (.str (Str.ofString "abcdefghijklmnopqrstuvwxyzABCDEFGHIJKLMNOPQRSTUVWXYZ") 1221), en P (Str.ofString "digits") 1224 (.str (Str.ofString "0123456789") 1223), en P (Str.ofString "quote") 1730 (.ref 37), en P (Str.ofString "_QUOPRI_BODY_ENCODE_MAP") 1731 (.ref 39), en P (Str.ofString "_MAX_STRING_SIZE") 1742 (.int 40 1741), en P (Str.ofString "_MOVE_COST") 1744 (.int 2 1743), en P (Str.ofString "_CASE_COST") 1746 (.int 1 1745), en P (Str.ofString "_substitution_cost") 1754 (.ref 49), en P (Str.ofString "_levenshtein_distance") 1774 (.ref 56), en P (Str.ofString "_law_most") 1782 (.ref 61), en P (Str.ofString "_law_fewest") 1788 (.ref 66), en P (Str.ofString "law") 1794 (.ref 71)] 28 }
noncomputable def o12_3 (P : Params) : Obj := { cls := .none, data := .fields #[.int 14 0, .int 0 0, .ref 36, .int 24 0, .int 0 0, .ref 48, .int 30 0, .int 0 0, .ref 55, .int 69 0, .int 0 0, .ref 60, .int 75 0, .int 0 0, .ref 65, .int 82 0, .int 0 0, .ref 70] }
noncomputable def o50_0 (P : Params) : Obj := { cls := .type "tuple", data := .seq #[] }
noncomputable def o51_0 (P : Params) : Obj := { cls := .none, data := .fields #[] }
noncomputable def o52_0 (P : Params) : Obj := { cls := .type "tuple", data := .seq #[.str (Str.ofString "a") 1758, .str (Str.ofString "b") 1759, .str (Str.ofString "max_cost") 1760, .str (Str.ofString "pre") 1761, .str (Str.ofString "post") 1762, .str (Str.ofString "row") 1763, .str (Str.ofString "result") 1764, .str (Str.ofString "bindex") 1765, .str (Str.ofString "bchar") 1766, .str (Str.ofString "distance") 1767, .str (Str.ofString "minimum") 1768, .str (Str.ofString "index") 1769, .str (Str.ofString "substitute") 1770, .str (Str.ofString "insert_delete") 1771] }
noncomputable def o53_0 (P : Params) : Obj := { cls := .type "tuple", data := .seq #[] }
noncomputable def o54_0 (P : Params) : Obj := { cls := .none, data := .func { name := Str.ofString "_levenshtein_distance", qualname := Str.ofString "_levenshtein_distance", params := fp20.1.1, body := .stmts fp20.1.2.1, scope := fp20.1.2.2, globals := 0, closure := [], defaults := .none, kwdefaults := .none } }
noncomputable def o55_0 (P : Params) : Obj := { cls := .type "code", data := .fields #[.str (Str.ofString "_levenshtein_distance") 1755, .str (Str.ofString "_levenshtein_distance") 1756, .str (Str.ofString "/claim/cut.py") 1757, .int 30 0, .int 3 0, .int 0 0, .int 0 0, .int 3 0, .ref 50, .bool true, .int 181 0, .ref 51, .none, .ref 52, .ref 53, .ref 54, .int 1772 0, .int 30 0, .str (Str.ofString "/claim/cut.py") 1773] }
noncomputable def o56_0 (P : Params) : Obj := { cls := .type "function", data := .func { name := Str.ofString "_levenshtein_distance", qualname := Str.ofString "_levenshtein_distance", params := fp20.1.1, body := .stmts fp20.1.2.1, scope := fp20.1.2.2, globals := 3, closure := [], defaults := .none, kwdefaults := .none, pyModule := .str (Str.ofString "cpy313.traceback") 1739, code := .ref 55 } }
noncomputable def o57_0 (P : Params) : Obj := { cls := .type "tuple", data := .seq #[] }
noncomputable def o58_0 (P : Params) : Obj := { cls := .none, data := .fields #[] }
noncomputable def o59_0 (P : Params) : Obj := { cls := .none, data := .func { name := Str.ofString "_law_most", qualname := Str.ofString "_law_most", params := fp22.1.1, body := .stmts fp22.1.2.1, scope := fp22.1.2.2, globals := 0, closure := [], defaults := .none, kwdefaults := .none } }
noncomputable def o60_0 (P : Params) : Obj := { cls := .type "code", data := .fields #[.str (Str.ofString "_law_most") 1777, .str (Str.ofString "_law_most") 1778, .str (Str.ofString "/claim/cut.py") 1779, .int 69 0, .int 1 0, .int 0 0, .int 0 0, .int 3 0, .ref 57, .bool true, .int 181 0, .ref 58, .none, .none, .none, .ref 59, .int 1780 0, .int 69 0, .str (Str.ofString "/claim/cut.py") 1781] }
noncomputable def o61_0 (P : Params) : Obj := { cls := .type "function", data := .func { name := Str.ofString "_law_most", qualname := Str.ofString "_law_most", params := fp22.1.1, body := .stmts fp22.1.2.1, scope := fp22.1.2.2, globals := 3, closure := [], defaults := .none, kwdefaults := .none, pyModule := .str (Str.ofString "law_rl0023_01") 1775, code := .ref 60 } }
noncomputable def o62_0 (P : Params) : Obj := { cls := .type "tuple", data := .seq #[] }
noncomputable def o63_0 (P : Params) : Obj := { cls := .none, data := .fields #[] }
noncomputable def o64_0 (P : Params) : Obj := { cls := .none, data := .func { name := Str.ofString "_law_fewest", qualname := Str.ofString "_law_fewest", params := fp23.1.1, body := .stmts fp23.1.2.1, scope := fp23.1.2.2, globals := 0, closure := [], defaults := .none, kwdefaults := .none } }
noncomputable def o65_0 (P : Params) : Obj := { cls := .type "code", data := .fields #[.str (Str.ofString "_law_fewest") 1783, .str (Str.ofString "_law_fewest") 1784, .str (Str.ofString "/claim/cut.py") 1785, .int 75 0, .int 1 0, .int 0 0, .int 0 0, .int 3 0, .ref 62, .bool true, .int 181 0, .ref 63, .none, .none, .none, .ref 64, .int 1786 0, .int 75 0, .str (Str.ofString "/claim/cut.py") 1787] }
noncomputable def o66_0 (P : Params) : Obj := { cls := .type "function", data := .func { name := Str.ofString "_law_fewest", qualname := Str.ofString "_law_fewest", params := fp23.1.1, body := .stmts fp23.1.2.1, scope := fp23.1.2.2, globals := 3, closure := [], defaults := .none, kwdefaults := .none, pyModule := .str (Str.ofString "law_rl0023_01") 1775, code := .ref 65 } }
noncomputable def o67_0 (P : Params) : Obj := { cls := .type "tuple", data := .seq #[] }
noncomputable def o68_0 (P : Params) : Obj := { cls := .none, data := .fields #[] }
noncomputable def o69_0 (P : Params) : Obj := { cls := .none, data := .func { name := Str.ofString "law", qualname := Str.ofString "law", params := fp24.1.1, body := .stmts fp24.1.2.1, scope := fp24.1.2.2, globals := 0, closure := [], defaults := .none, kwdefaults := .none } }
noncomputable def o70_0 (P : Params) : Obj := { cls := .type "code", data := .fields #[.str (Str.ofString "law") 1789, .str (Str.ofString "law") 1790, .str (Str.ofString "/claim/cut.py") 1791, .int 82 0, .int 1 0, .int 0 0, .int 0 0, .int 3 0, .ref 67, .bool true, .int 181 0, .ref 68, .none, .none, .none, .ref 69, .int 1792 0, .int 82 0, .str (Str.ofString "/claim/cut.py") 1793] }
noncomputable def o71_0 (P : Params) : Obj := { cls := .type "function", data := .func { name := Str.ofString "law", qualname := Str.ofString "law", params := fp24.1.1, body := .stmts fp24.1.2.1, scope := fp24.1.2.2, globals := 3, closure := [], defaults := .none, kwdefaults := .none, pyModule := .str (Str.ofString "law_rl0023_01") 1775, code := .ref 70 } }

noncomputable def heapA (P : Params) : Heap := ⟨⟨[boot_o_0 P, boot_o_1 P, boot_o_2 P, boot_o_3 P, boot_o_4 P, boot_o_5 P, boot_o_6 P, boot_o_7 P, boot_o_8 P, boot_o_9 P, boot_o_10 P, o11_0 P, o12_0 P, o13_0 P, o14_0 P]⟩, life0⟩
noncomputable def SA (w : World) (os : OsState) : Shared := ⟨heapA w.params, ⟨[]⟩, drawn0, 187, os⟩
noncomputable def tB (P : Params) : BT := (.node (boot_o_0 P) (.node (boot_o_1 P) (.node (boot_o_3 P) (.node (boot_o_7 P) .nil .nil) (.node (o11_0 P) .nil .nil)) (.node (boot_o_5 P) (.node (boot_o_9 P) .nil .nil) (.node (o13_0 P) .nil .nil))) (.node (boot_o_2 P) (.node (boot_o_4 P) (.node (boot_o_8 P) .nil .nil) (.node (o12_0 P) .nil .nil)) (.node (boot_o_6 P) (.node (boot_o_10 P) .nil .nil) (.node (o14_0 P) .nil .nil))))
noncomputable def TB (w : World) (os : OsState) : SharedT := ⟨tB w.params, 15, life0, ⟨[]⟩, drawn0, 187, os⟩
noncomputable def t0L1 (P : Params) : BT := (.node (boot_o_0 P) (.node (boot_o_1 P) (.node (boot_o_3 P) (.node (boot_o_7 P) (.node (o15_0 P) .nil .nil) .nil) (.node (o11_0 P) .nil .nil)) (.node (boot_o_5 P) (.node (boot_o_9 P) (.node (o17_0 P) .nil .nil) .nil) (.node (o13_0 P) .nil .nil))) (.node (boot_o_2 P) (.node (boot_o_4 P) (.node (boot_o_8 P) (.node (o16_0 P) .nil .nil) .nil) (.node (o12_0 P) .nil .nil)) (.node (boot_o_6 P) (.node (boot_o_10 P) (.node (o18_0 P) .nil .nil) .nil) (.node (o14_0 P) .nil .nil))))
noncomputable def T0L1 (w : World) (os : OsState) : SharedT := ⟨t0L1 w.params, 19, life0, ⟨[]⟩, drawn0, 194, os⟩
noncomputable def t0L32 (P : Params) : BT := (.node (boot_o_0 P) (.node (boot_o_1 P) (.node (boot_o_3 P) (.node (boot_o_7 P) (.node (o15_0 P) .nil .nil) .nil) (.node (o11_0 P) .nil .nil)) (.node (boot_o_5 P) (.node (boot_o_9 P) (.node (o17_1 P) .nil .nil) .nil) (.node (o13_0 P) .nil .nil))) (.node (boot_o_2 P) (.node (boot_o_4 P) (.node (boot_o_8 P) (.node (o16_1 P) .nil .nil) .nil) (.node (o12_0 P) .nil .nil)) (.node (boot_o_6 P) (.node (boot_o_10 P) (.node (o18_1 P) .nil .nil) .nil) (.node (o14_0 P) .nil .nil))))
noncomputable def T0L32 (w : World) (os : OsState) : SharedT := ⟨t0L32 w.params, 19, life0, ⟨[]⟩, drawn0, 318, os⟩
noncomputable def t0L64 (P : Params) : BT := (.node (boot_o_0 P) (.node (boot_o_1 P) (.node (boot_o_3 P) (.node (boot_o_7 P) (.node (o15_0 P) .nil .nil) .nil) (.node (o11_0 P) .nil .nil)) (.node (boot_o_5 P) (.node (boot_o_9 P) (.node (o17_2 P) .nil .nil) .nil) (.node (o13_0 P) .nil .nil))) (.node (boot_o_2 P) (.node (boot_o_4 P) (.node (boot_o_8 P) (.node (o16_2 P) .nil .nil) .nil) (.node (o12_0 P) .nil .nil)) (.node (boot_o_6 P) (.node (boot_o_10 P) (.node (o18_2 P) .nil .nil) .nil) (.node (o14_0 P) .nil .nil))))
noncomputable def T0L64 (w : World) (os : OsState) : SharedT := ⟨t0L64 w.params, 19, life0, ⟨[]⟩, drawn0, 446, os⟩
noncomputable def t0L96 (P : Params) : BT := (.node (boot_o_0 P) (.node (boot_o_1 P) (.node (boot_o_3 P) (.node (boot_o_7 P) (.node (o15_0 P) .nil .nil) .nil) (.node (o11_0 P) .nil .nil)) (.node (boot_o_5 P) (.node (boot_o_9 P) (.node (o17_3 P) .nil .nil) .nil) (.node (o13_0 P) .nil .nil))) (.node (boot_o_2 P) (.node (boot_o_4 P) (.node (boot_o_8 P) (.node (o16_3 P) .nil .nil) .nil) (.node (o12_0 P) .nil .nil)) (.node (boot_o_6 P) (.node (boot_o_10 P) (.node (o18_3 P) .nil .nil) .nil) (.node (o14_0 P) .nil .nil))))
noncomputable def T0L96 (w : World) (os : OsState) : SharedT := ⟨t0L96 w.params, 19, life0, ⟨[]⟩, drawn0, 574, os⟩
noncomputable def t0L128 (P : Params) : BT := (.node (boot_o_0 P) (.node (boot_o_1 P) (.node (boot_o_3 P) (.node (boot_o_7 P) (.node (o15_0 P) .nil .nil) .nil) (.node (o11_0 P) .nil .nil)) (.node (boot_o_5 P) (.node (boot_o_9 P) (.node (o17_4 P) .nil .nil) .nil) (.node (o13_0 P) .nil .nil))) (.node (boot_o_2 P) (.node (boot_o_4 P) (.node (boot_o_8 P) (.node (o16_4 P) .nil .nil) .nil) (.node (o12_0 P) .nil .nil)) (.node (boot_o_6 P) (.node (boot_o_10 P) (.node (o18_4 P) .nil .nil) .nil) (.node (o14_0 P) .nil .nil))))
noncomputable def T0L128 (w : World) (os : OsState) : SharedT := ⟨t0L128 w.params, 19, life0, ⟨[]⟩, drawn0, 702, os⟩
noncomputable def t0L160 (P : Params) : BT := (.node (boot_o_0 P) (.node (boot_o_1 P) (.node (boot_o_3 P) (.node (boot_o_7 P) (.node (o15_0 P) .nil .nil) .nil) (.node (o11_0 P) .nil .nil)) (.node (boot_o_5 P) (.node (boot_o_9 P) (.node (o17_5 P) .nil .nil) .nil) (.node (o13_0 P) .nil .nil))) (.node (boot_o_2 P) (.node (boot_o_4 P) (.node (boot_o_8 P) (.node (o16_5 P) .nil .nil) .nil) (.node (o12_0 P) .nil .nil)) (.node (boot_o_6 P) (.node (boot_o_10 P) (.node (o18_5 P) .nil .nil) .nil) (.node (o14_0 P) .nil .nil))))
noncomputable def T0L160 (w : World) (os : OsState) : SharedT := ⟨t0L160 w.params, 19, life0, ⟨[]⟩, drawn0, 830, os⟩
noncomputable def t0L192 (P : Params) : BT := (.node (boot_o_0 P) (.node (boot_o_1 P) (.node (boot_o_3 P) (.node (boot_o_7 P) (.node (o15_0 P) .nil .nil) .nil) (.node (o11_0 P) .nil .nil)) (.node (boot_o_5 P) (.node (boot_o_9 P) (.node (o17_6 P) .nil .nil) .nil) (.node (o13_0 P) .nil .nil))) (.node (boot_o_2 P) (.node (boot_o_4 P) (.node (boot_o_8 P) (.node (o16_6 P) .nil .nil) .nil) (.node (o12_0 P) .nil .nil)) (.node (boot_o_6 P) (.node (boot_o_10 P) (.node (o18_6 P) .nil .nil) .nil) (.node (o14_0 P) .nil .nil))))
noncomputable def T0L192 (w : World) (os : OsState) : SharedT := ⟨t0L192 w.params, 19, life0, ⟨[]⟩, drawn0, 958, os⟩
noncomputable def t0L224 (P : Params) : BT := (.node (boot_o_0 P) (.node (boot_o_1 P) (.node (boot_o_3 P) (.node (boot_o_7 P) (.node (o15_0 P) .nil .nil) .nil) (.node (o11_0 P) .nil .nil)) (.node (boot_o_5 P) (.node (boot_o_9 P) (.node (o17_7 P) .nil .nil) .nil) (.node (o13_0 P) .nil .nil))) (.node (boot_o_2 P) (.node (boot_o_4 P) (.node (boot_o_8 P) (.node (o16_7 P) .nil .nil) .nil) (.node (o12_0 P) .nil .nil)) (.node (boot_o_6 P) (.node (boot_o_10 P) (.node (o18_7 P) .nil .nil) .nil) (.node (o14_0 P) .nil .nil))))
noncomputable def T0L224 (w : World) (os : OsState) : SharedT := ⟨t0L224 w.params, 19, life0, ⟨[]⟩, drawn0, 1086, os⟩
noncomputable def t0L256 (P : Params) : BT := (.node (boot_o_0 P) (.node (boot_o_1 P) (.node (boot_o_3 P) (.node (boot_o_7 P) (.node (o15_0 P) .nil .nil) .nil) (.node (o11_0 P) .nil .nil)) (.node (boot_o_5 P) (.node (boot_o_9 P) (.node (o17_8 P) .nil .nil) .nil) (.node (o13_0 P) .nil .nil))) (.node (boot_o_2 P) (.node (boot_o_4 P) (.node (boot_o_8 P) (.node (o16_8 P) .nil .nil) .nil) (.node (o12_0 P) .nil .nil)) (.node (boot_o_6 P) (.node (boot_o_10 P) (.node (o18_8 P) .nil .nil) .nil) (.node (o14_0 P) .nil .nil))))
noncomputable def T0L256 (w : World) (os : OsState) : SharedT := ⟨t0L256 w.params, 19, life0, ⟨[]⟩, drawn0, 1214, os⟩
noncomputable def t0 (P : Params) : BT := (.node (boot_o_0 P) (.node (boot_o_1 P) (.node (o3_0 P) (.node (boot_o_7 P) (.node (o15_0 P) .nil .nil) .nil) (.node (o11_0 P) (.node (o19_0 P) .nil .nil) .nil)) (.node (boot_o_5 P) (.node (boot_o_9 P) (.node (o17_8 P) .nil .nil) .nil) (.node (o13_0 P) .nil .nil))) (.node (boot_o_2 P) (.node (boot_o_4 P) (.node (boot_o_8 P) (.node (o16_8 P) .nil .nil) .nil) (.node (o12_0 P) (.node (o20_0 P) .nil .nil) .nil)) (.node (boot_o_6 P) (.node (boot_o_10 P) (.node (o18_9 P) .nil .nil) .nil) (.node (o14_0 P) .nil .nil))))
noncomputable def T0 (w : World) (os : OsState) : SharedT := ⟨t0 w.params, 21, life0, ⟨[]⟩, drawn0, 1215, os⟩
noncomputable def t1 (P : Params) : BT := (.node (boot_o_0 P) (.node (boot_o_1 P) (.node (o3_1 P) (.node (boot_o_7 P) (.node (o15_0 P) .nil .nil) (.node (o23_0 P) .nil .nil)) (.node (o11_0 P) (.node (o19_0 P) .nil .nil) .nil)) (.node (boot_o_5 P) (.node (boot_o_9 P) (.node (o17_8 P) .nil .nil) .nil) (.node (o13_0 P) (.node (o21_0 P) .nil .nil) .nil))) (.node (boot_o_2 P) (.node (boot_o_4 P) (.node (boot_o_8 P) (.node (o16_8 P) .nil .nil) (.node (o24_0 P) .nil .nil)) (.node (o12_0 P) (.node (o20_0 P) .nil .nil) .nil)) (.node (boot_o_6 P) (.node (boot_o_10 P) (.node (o18_9 P) .nil .nil) .nil) (.node (o14_0 P) (.node (o22_0 P) .nil .nil) .nil))))
noncomputable def T1 (w : World) (os : OsState) : SharedT := ⟨t1 w.params, 25, life0, ⟨[]⟩, drawn0, 1227, os⟩
noncomputable def t2L1 (P : Params) : BT := (.node (boot_o_0 P) (.node (boot_o_1 P) (.node (o3_2 P) (.node (boot_o_7 P) (.node (o15_0 P) .nil .nil) (.node (o23_0 P) .nil .nil)) (.node (o11_0 P) (.node (o19_0 P) .nil .nil) .nil)) (.node (boot_o_5 P) (.node (boot_o_9 P) (.node (o17_8 P) .nil .nil) (.node (o25_0 P) .nil .nil)) (.node (o13_0 P) (.node (o21_0 P) .nil .nil) .nil))) (.node (boot_o_2 P) (.node (boot_o_4 P) (.node (boot_o_8 P) (.node (o16_8 P) .nil .nil) (.node (o24_0 P) .nil .nil)) (.node (o12_0 P) (.node (o20_0 P) .nil .nil) .nil)) (.node (boot_o_6 P) (.node (boot_o_10 P) (.node (o18_9 P) .nil .nil) .nil) (.node (o14_0 P) (.node (o22_1 P) .nil .nil) .nil))))
noncomputable def T2L1 (w : World) (os : OsState) : SharedT := ⟨t2L1 w.params, 26, life0, ⟨[]⟩, drawn0, 1240, os⟩
noncomputable def t2L24 (P : Params) : BT := (.node (boot_o_0 P) (.node (boot_o_1 P) (.node (o3_3 P) (.node (boot_o_7 P) (.node (o15_0 P) .nil .nil) (.node (o23_0 P) .nil .nil)) (.node (o11_0 P) (.node (o19_0 P) .nil .nil) .nil)) (.node (boot_o_5 P) (.node (boot_o_9 P) (.node (o17_8 P) .nil .nil) (.node (o25_1 P) .nil .nil)) (.node (o13_0 P) (.node (o21_0 P) .nil .nil) .nil))) (.node (boot_o_2 P) (.node (boot_o_4 P) (.node (boot_o_8 P) (.node (o16_8 P) .nil .nil) (.node (o24_0 P) .nil .nil)) (.node (o12_0 P) (.node (o20_0 P) .nil .nil) .nil)) (.node (boot_o_6 P) (.node (boot_o_10 P) (.node (o18_9 P) .nil .nil) .nil) (.node (o14_0 P) (.node (o22_2 P) .nil .nil) .nil))))
noncomputable def T2L24 (w : World) (os : OsState) : SharedT := ⟨t2L24 w.params, 26, life0, ⟨[]⟩, drawn0, 1309, os⟩
noncomputable def t2L48 (P : Params) : BT := (.node (boot_o_0 P) (.node (boot_o_1 P) (.node (o3_4 P) (.node (boot_o_7 P) (.node (o15_0 P) .nil .nil) (.node (o23_0 P) .nil .nil)) (.node (o11_0 P) (.node (o19_0 P) .nil .nil) .nil)) (.node (boot_o_5 P) (.node (boot_o_9 P) (.node (o17_8 P) .nil .nil) (.node (o25_2 P) .nil .nil)) (.node (o13_0 P) (.node (o21_0 P) .nil .nil) .nil))) (.node (boot_o_2 P) (.node (boot_o_4 P) (.node (boot_o_8 P) (.node (o16_8 P) .nil .nil) (.node (o24_0 P) .nil .nil)) (.node (o12_0 P) (.node (o20_0 P) .nil .nil) .nil)) (.node (boot_o_6 P) (.node (boot_o_10 P) (.node (o18_9 P) .nil .nil) .nil) (.node (o14_0 P) (.node (o22_3 P) .nil .nil) .nil))))
noncomputable def T2L48 (w : World) (os : OsState) : SharedT := ⟨t2L48 w.params, 26, life0, ⟨[]⟩, drawn0, 1381, os⟩
noncomputable def t2L66 (P : Params) : BT := (.node (boot_o_0 P) (.node (boot_o_1 P) (.node (o3_5 P) (.node (boot_o_7 P) (.node (o15_0 P) .nil .nil) (.node (o23_0 P) .nil .nil)) (.node (o11_0 P) (.node (o19_0 P) .nil .nil) .nil)) (.node (boot_o_5 P) (.node (boot_o_9 P) (.node (o17_8 P) .nil .nil) (.node (o25_3 P) .nil .nil)) (.node (o13_0 P) (.node (o21_0 P) .nil .nil) .nil))) (.node (boot_o_2 P) (.node (boot_o_4 P) (.node (boot_o_8 P) (.node (o16_8 P) .nil .nil) (.node (o24_0 P) .nil .nil)) (.node (o12_0 P) (.node (o20_0 P) .nil .nil) .nil)) (.node (boot_o_6 P) (.node (boot_o_10 P) (.node (o18_9 P) .nil .nil) .nil) (.node (o14_0 P) (.node (o22_4 P) .nil .nil) .nil))))
noncomputable def T2L66 (w : World) (os : OsState) : SharedT := ⟨t2L66 w.params, 26, life0, ⟨[]⟩, drawn0, 1435, os⟩
noncomputable def t2 (P : Params) : BT := (.node (boot_o_0 P) (.node (boot_o_1 P) (.node (o3_5 P) (.node (boot_o_7 P) (.node (o15_0 P) .nil .nil) (.node (o23_0 P) .nil .nil)) (.node (o11_0 P) (.node (o19_0 P) .nil .nil) (.node (o27_0 P) .nil .nil))) (.node (boot_o_5 P) (.node (boot_o_9 P) (.node (o17_8 P) .nil .nil) (.node (o25_4 P) .nil .nil)) (.node (o13_0 P) (.node (o21_0 P) .nil .nil) .nil))) (.node (boot_o_2 P) (.node (boot_o_4 P) (.node (boot_o_8 P) (.node (o16_8 P) .nil .nil) (.node (o24_0 P) .nil .nil)) (.node (o12_0 P) (.node (o20_0 P) .nil .nil) .nil)) (.node (boot_o_6 P) (.node (boot_o_10 P) (.node (o18_9 P) .nil .nil) (.node (o26_0 P) .nil .nil)) (.node (o14_0 P) (.node (o22_4 P) .nil .nil) .nil))))
noncomputable def T2 (w : World) (os : OsState) : SharedT := ⟨t2 w.params, 28, life0, ⟨[]⟩, drawn0, 1435, os⟩
noncomputable def t3 (P : Params) : BT := (.node (boot_o_0 P) (.node (boot_o_1 P) (.node (o3_5 P) (.node (boot_o_7 P) (.node (o15_0 P) .nil .nil) (.node (o23_0 P) .nil .nil)) (.node (o11_0 P) (.node (o19_0 P) .nil .nil) (.node (o27_0 P) .nil .nil))) (.node (boot_o_5 P) (.node (boot_o_9 P) (.node (o17_8 P) .nil .nil) (.node (o25_4 P) .nil .nil)) (.node (o13_0 P) (.node (o21_0 P) .nil .nil) .nil))) (.node (boot_o_2 P) (.node (boot_o_4 P) (.node (boot_o_8 P) (.node (o16_8 P) .nil .nil) (.node (o24_0 P) .nil .nil)) (.node (o12_0 P) (.node (o20_0 P) .nil .nil) .nil)) (.node (boot_o_6 P) (.node (boot_o_10 P) (.node (o18_9 P) .nil .nil) (.node (o26_0 P) .nil .nil)) (.node (o14_0 P) (.node (o22_5 P) .nil .nil) .nil))))
noncomputable def T3 (w : World) (os : OsState) : SharedT := ⟨t3 w.params, 28, life0, ⟨[]⟩, drawn0, 1438, os⟩
noncomputable def t4L1 (P : Params) : BT := (.node (boot_o_0 P) (.node (boot_o_1 P) (.node (o3_6 P) (.node (boot_o_7 P) (.node (o15_0 P) .nil .nil) (.node (o23_0 P) .nil .nil)) (.node (o11_0 P) (.node (o19_0 P) .nil .nil) (.node (o27_0 P) .nil .nil))) (.node (boot_o_5 P) (.node (boot_o_9 P) (.node (o17_8 P) .nil .nil) (.node (o25_4 P) .nil .nil)) (.node (o13_0 P) (.node (o21_0 P) .nil .nil) .nil))) (.node (boot_o_2 P) (.node (boot_o_4 P) (.node (boot_o_8 P) (.node (o16_8 P) .nil .nil) (.node (o24_1 P) .nil .nil)) (.node (o12_0 P) (.node (o20_0 P) .nil .nil) (.node (o28_0 P) .nil .nil))) (.node (boot_o_6 P) (.node (boot_o_10 P) (.node (o18_9 P) .nil .nil) (.node (o26_0 P) .nil .nil)) (.node (o14_0 P) (.node (o22_5 P) .nil .nil) .nil))))
noncomputable def T4L1 (w : World) (os : OsState) : SharedT := ⟨t4L1 w.params, 29, life0, ⟨[]⟩, drawn0, 1445, os⟩
noncomputable def t4L24 (P : Params) : BT := (.node (boot_o_0 P) (.node (boot_o_1 P) (.node (o3_7 P) (.node (boot_o_7 P) (.node (o15_0 P) .nil .nil) (.node (o23_0 P) .nil .nil)) (.node (o11_0 P) (.node (o19_0 P) .nil .nil) (.node (o27_0 P) .nil .nil))) (.node (boot_o_5 P) (.node (boot_o_9 P) (.node (o17_8 P) .nil .nil) (.node (o25_4 P) .nil .nil)) (.node (o13_0 P) (.node (o21_0 P) .nil .nil) .nil))) (.node (boot_o_2 P) (.node (boot_o_4 P) (.node (boot_o_8 P) (.node (o16_8 P) .nil .nil) (.node (o24_2 P) .nil .nil)) (.node (o12_0 P) (.node (o20_0 P) .nil .nil) (.node (o28_1 P) .nil .nil))) (.node (boot_o_6 P) (.node (boot_o_10 P) (.node (o18_9 P) .nil .nil) (.node (o26_0 P) .nil .nil)) (.node (o14_0 P) (.node (o22_5 P) .nil .nil) .nil))))
noncomputable def T4L24 (w : World) (os : OsState) : SharedT := ⟨t4L24 w.params, 29, life0, ⟨[]⟩, drawn0, 1514, os⟩
noncomputable def t4L48 (P : Params) : BT := (.node (boot_o_0 P) (.node (boot_o_1 P) (.node (o3_8 P) (.node (boot_o_7 P) (.node (o15_0 P) .nil .nil) (.node (o23_0 P) .nil .nil)) (.node (o11_0 P) (.node (o19_0 P) .nil .nil) (.node (o27_0 P) .nil .nil))) (.node (boot_o_5 P) (.node (boot_o_9 P) (.node (o17_8 P) .nil .nil) (.node (o25_4 P) .nil .nil)) (.node (o13_0 P) (.node (o21_0 P) .nil .nil) .nil))) (.node (boot_o_2 P) (.node (boot_o_4 P) (.node (boot_o_8 P) (.node (o16_8 P) .nil .nil) (.node (o24_3 P) .nil .nil)) (.node (o12_0 P) (.node (o20_0 P) .nil .nil) (.node (o28_2 P) .nil .nil))) (.node (boot_o_6 P) (.node (boot_o_10 P) (.node (o18_9 P) .nil .nil) (.node (o26_0 P) .nil .nil)) (.node (o14_0 P) (.node (o22_5 P) .nil .nil) .nil))))
noncomputable def T4L48 (w : World) (os : OsState) : SharedT := ⟨t4L48 w.params, 29, life0, ⟨[]⟩, drawn0, 1586, os⟩
noncomputable def t4L72 (P : Params) : BT := (.node (boot_o_0 P) (.node (boot_o_1 P) (.node (o3_9 P) (.node (boot_o_7 P) (.node (o15_0 P) .nil .nil) (.node (o23_0 P) .nil .nil)) (.node (o11_0 P) (.node (o19_0 P) .nil .nil) (.node (o27_0 P) .nil .nil))) (.node (boot_o_5 P) (.node (boot_o_9 P) (.node (o17_8 P) .nil .nil) (.node (o25_4 P) .nil .nil)) (.node (o13_0 P) (.node (o21_0 P) .nil .nil) .nil))) (.node (boot_o_2 P) (.node (boot_o_4 P) (.node (boot_o_8 P) (.node (o16_8 P) .nil .nil) (.node (o24_4 P) .nil .nil)) (.node (o12_0 P) (.node (o20_0 P) .nil .nil) (.node (o28_3 P) .nil .nil))) (.node (boot_o_6 P) (.node (boot_o_10 P) (.node (o18_9 P) .nil .nil) (.node (o26_0 P) .nil .nil)) (.node (o14_0 P) (.node (o22_5 P) .nil .nil) .nil))))
noncomputable def T4L72 (w : World) (os : OsState) : SharedT := ⟨t4L72 w.params, 29, life0, ⟨[]⟩, drawn0, 1658, os⟩
noncomputable def t4L94 (P : Params) : BT := (.node (boot_o_0 P) (.node (boot_o_1 P) (.node (o3_10 P) (.node (boot_o_7 P) (.node (o15_0 P) .nil .nil) (.node (o23_0 P) .nil .nil)) (.node (o11_0 P) (.node (o19_0 P) .nil .nil) (.node (o27_0 P) .nil .nil))) (.node (boot_o_5 P) (.node (boot_o_9 P) (.node (o17_8 P) .nil .nil) (.node (o25_4 P) .nil .nil)) (.node (o13_0 P) (.node (o21_0 P) .nil .nil) .nil))) (.node (boot_o_2 P) (.node (boot_o_4 P) (.node (boot_o_8 P) (.node (o16_8 P) .nil .nil) (.node (o24_5 P) .nil .nil)) (.node (o12_0 P) (.node (o20_0 P) .nil .nil) (.node (o28_4 P) .nil .nil))) (.node (boot_o_6 P) (.node (boot_o_10 P) (.node (o18_9 P) .nil .nil) (.node (o26_0 P) .nil .nil)) (.node (o14_0 P) (.node (o22_5 P) .nil .nil) .nil))))
noncomputable def T4L94 (w : World) (os : OsState) : SharedT := ⟨t4L94 w.params, 29, life0, ⟨[]⟩, drawn0, 1724, os⟩
noncomputable def t4 (P : Params) : BT := (.node (boot_o_0 P) (.node (boot_o_1 P) (.node (o3_10 P) (.node (boot_o_7 P) (.node (o15_0 P) .nil .nil) (.node (o23_0 P) .nil .nil)) (.node (o11_0 P) (.node (o19_0 P) .nil .nil) (.node (o27_0 P) .nil .nil))) (.node (boot_o_5 P) (.node (boot_o_9 P) (.node (o17_8 P) .nil .nil) (.node (o25_4 P) .nil .nil)) (.node (o13_0 P) (.node (o21_0 P) .nil .nil) (.node (o29_0 P) .nil .nil)))) (.node (boot_o_2 P) (.node (boot_o_4 P) (.node (boot_o_8 P) (.node (o16_8 P) .nil .nil) (.node (o24_5 P) .nil .nil)) (.node (o12_0 P) (.node (o20_0 P) .nil .nil) (.node (o28_5 P) .nil .nil))) (.node (boot_o_6 P) (.node (boot_o_10 P) (.node (o18_9 P) .nil .nil) (.node (o26_0 P) .nil .nil)) (.node (o14_0 P) (.node (o22_5 P) .nil .nil) (.node (o30_0 P) .nil .nil)))))
noncomputable def T4 (w : World) (os : OsState) : SharedT := ⟨t4 w.params, 31, life0, ⟨[]⟩, drawn0, 1724, os⟩
noncomputable def t5 (P : Params) : BT := (.node (boot_o_0 P) (.node (boot_o_1 P) (.node (o3_11 P) (.node (boot_o_7 P) (.node (o15_0 P) (.node (o31_0 P) .nil .nil) .nil) (.node (o23_0 P) (.node (o39_0 P) .nil .nil) .nil)) (.node (o11_0 P) (.node (o19_0 P) (.node (o35_0 P) .nil .nil) .nil) (.node (o27_0 P) .nil .nil))) (.node (boot_o_5 P) (.node (boot_o_9 P) (.node (o17_8 P) (.node (o33_0 P) .nil .nil) .nil) (.node (o25_4 P) .nil .nil)) (.node (o13_0 P) (.node (o21_0 P) (.node (o37_0 P) .nil .nil) .nil) (.node (o29_0 P) .nil .nil)))) (.node (boot_o_2 P) (.node (boot_o_4 P) (.node (boot_o_8 P) (.node (o16_8 P) (.node (o32_0 P) .nil .nil) .nil) (.node (o24_5 P) .nil .nil)) (.node (o12_1 P) (.node (o20_0 P) (.node (o36_0 P) .nil .nil) .nil) (.node (o28_5 P) .nil .nil))) (.node (boot_o_6 P) (.node (boot_o_10 P) (.node (o18_9 P) (.node (o34_0 P) .nil .nil) .nil) (.node (o26_0 P) .nil .nil)) (.node (o14_0 P) (.node (o22_5 P) (.node (o38_0 P) .nil .nil) .nil) (.node (o30_0 P) .nil .nil)))))
noncomputable def T5 (w : World) (os : OsState) : SharedT := ⟨t5 w.params, 40, life0, ⟨[]⟩, drawn0, 1732, os⟩
noncomputable def t6 (P : Params) : BT := (.node (boot_o_0 P) (.node (boot_o_1 P) (.node (o3_12 P) (.node (boot_o_7 P) (.node (o15_0 P) (.node (o31_0 P) .nil .nil) .nil) (.node (o23_0 P) (.node (o39_1 P) .nil .nil) .nil)) (.node (o11_0 P) (.node (o19_0 P) (.node (o35_0 P) .nil .nil) .nil) (.node (o27_0 P) .nil .nil))) (.node (boot_o_5 P) (.node (boot_o_9 P) (.node (o17_8 P) (.node (o33_0 P) .nil .nil) .nil) (.node (o25_4 P) (.node (o41_0 P) .nil .nil) .nil)) (.node (o13_0 P) (.node (o21_0 P) (.node (o37_0 P) .nil .nil) .nil) (.node (o29_0 P) .nil .nil)))) (.node (boot_o_2 P) (.node (boot_o_4 P) (.node (boot_o_8 P) (.node (o16_8 P) (.node (o32_0 P) .nil .nil) .nil) (.node (o24_5 P) (.node (o40_0 P) .nil .nil) .nil)) (.node (o12_1 P) (.node (o20_0 P) (.node (o36_0 P) .nil .nil) .nil) (.node (o28_5 P) .nil .nil))) (.node (boot_o_6 P) (.node (boot_o_10 P) (.node (o18_9 P) (.node (o34_0 P) .nil .nil) .nil) (.node (o26_0 P) (.node (o42_0 P) .nil .nil) .nil)) (.node (o14_0 P) (.node (o22_5 P) (.node (o38_0 P) .nil .nil) .nil) (.node (o30_0 P) .nil .nil)))))
noncomputable def T6 (w : World) (os : OsState) : SharedT := ⟨t6 w.params, 43, life0, ⟨[]⟩, drawn0, 1739, os⟩
noncomputable def t7 (P : Params) : BT := (.node (boot_o_0 P) (.node (boot_o_1 P) (.node (o3_13 P) (.node (boot_o_7 P) (.node (o15_0 P) (.node (o31_0 P) .nil .nil) (.node (o47_0 P) .nil .nil)) (.node (o23_0 P) (.node (o39_1 P) .nil .nil) .nil)) (.node (o11_0 P) (.node (o19_0 P) (.node (o35_0 P) .nil .nil) .nil) (.node (o27_0 P) (.node (o43_0 P) .nil .nil) .nil))) (.node (boot_o_5 P) (.node (boot_o_9 P) (.node (o17_8 P) (.node (o33_0 P) .nil .nil) (.node (o49_0 P) .nil .nil)) (.node (o25_4 P) (.node (o41_0 P) .nil .nil) .nil)) (.node (o13_0 P) (.node (o21_0 P) (.node (o37_0 P) .nil .nil) .nil) (.node (o29_0 P) (.node (o45_0 P) .nil .nil) .nil)))) (.node (boot_o_2 P) (.node (boot_o_4 P) (.node (boot_o_8 P) (.node (o16_8 P) (.node (o32_0 P) .nil .nil) (.node (o48_0 P) .nil .nil)) (.node (o24_5 P) (.node (o40_0 P) .nil .nil) .nil)) (.node (o12_2 P) (.node (o20_0 P) (.node (o36_0 P) .nil .nil) .nil) (.node (o28_5 P) (.node (o44_0 P) .nil .nil) .nil))) (.node (boot_o_6 P) (.node (boot_o_10 P) (.node (o18_9 P) (.node (o34_0 P) .nil .nil) .nil) (.node (o26_0 P) (.node (o42_0 P) .nil .nil) .nil)) (.node (o14_0 P) (.node (o22_5 P) (.node (o38_0 P) .nil .nil) .nil) (.node (o30_0 P) (.node (o46_0 P) .nil .nil) .nil)))))
noncomputable def T7 (w : World) (os : OsState) : SharedT := ⟨t7 w.params, 50, life0, ⟨[]⟩, drawn0, 1755, os⟩
noncomputable def t8 (P : Params) : BT := (.node (boot_o_0 P) (.node (boot_o_1 P) (.node (o3_14 P) (.node (boot_o_7 P) (.node (o15_0 P) (.node (o31_0 P) (.node (o63_0 P) .nil .nil) .nil) (.node (o47_0 P) .nil .nil)) (.node (o23_0 P) (.node (o39_1 P) (.node (o71_0 P) .nil .nil) .nil) (.node (o55_0 P) .nil .nil))) (.node (o11_0 P) (.node (o19_0 P) (.node (o35_0 P) (.node (o67_0 P) .nil .nil) .nil) (.node (o51_0 P) .nil .nil)) (.node (o27_0 P) (.node (o43_0 P) .nil .nil) (.node (o59_0 P) .nil .nil)))) (.node (boot_o_5 P) (.node (boot_o_9 P) (.node (o17_8 P) (.node (o33_0 P) (.node (o65_0 P) .nil .nil) .nil) (.node (o49_0 P) .nil .nil)) (.node (o25_4 P) (.node (o41_0 P) .nil .nil) (.node (o57_0 P) .nil .nil))) (.node (o13_0 P) (.node (o21_0 P) (.node (o37_0 P) (.node (o69_0 P) .nil .nil) .nil) (.node (o53_0 P) .nil .nil)) (.node (o29_0 P) (.node (o45_0 P) .nil .nil) (.node (o61_0 P) .nil .nil))))) (.node (boot_o_2 P) (.node (boot_o_4 P) (.node (boot_o_8 P) (.node (o16_8 P) (.node (o32_0 P) (.node (o64_0 P) .nil .nil) .nil) (.node (o48_0 P) .nil .nil)) (.node (o24_5 P) (.node (o40_0 P) .nil .nil) (.node (o56_0 P) .nil .nil))) (.node (o12_3 P) (.node (o20_0 P) (.node (o36_0 P) (.node (o68_0 P) .nil .nil) .nil) (.node (o52_0 P) .nil .nil)) (.node (o28_5 P) (.node (o44_0 P) .nil .nil) (.node (o60_0 P) .nil .nil)))) (.node (boot_o_6 P) (.node (boot_o_10 P) (.node (o18_9 P) (.node (o34_0 P) (.node (o66_0 P) .nil .nil) .nil) (.node (o50_0 P) .nil .nil)) (.node (o26_0 P) (.node (o42_0 P) .nil .nil) (.node (o58_0 P) .nil .nil))) (.node (o14_0 P) (.node (o22_5 P) (.node (o38_0 P) (.node (o70_0 P) .nil .nil) .nil) (.node (o54_0 P) .nil .nil)) (.node (o30_0 P) (.node (o46_0 P) .nil .nil) (.node (o62_0 P) .nil .nil))))))
noncomputable def T8 (w : World) (os : OsState) : SharedT := ⟨t8 w.params, 72, life0, ⟨[]⟩, drawn0, 1795, os⟩
noncomputable def heapF (P : Params) : Heap := ⟨⟨[boot_o_0 P, boot_o_1 P, boot_o_2 P, o3_14 P, boot_o_4 P, boot_o_5 P, boot_o_6 P, boot_o_7 P, boot_o_8 P, boot_o_9 P, boot_o_10 P, o11_0 P, o12_3 P, o13_0 P, o14_0 P, o15_0 P, o16_8 P, o17_8 P, o18_9 P, o19_0 P, o20_0 P, o21_0 P, o22_5 P, o23_0 P, o24_5 P, o25_4 P, o26_0 P, o27_0 P, o28_5 P, o29_0 P, o30_0 P, o31_0 P, o32_0 P, o33_0 P, o34_0 P, o35_0 P, o36_0 P, o37_0 P, o38_0 P, o39_1 P, o40_0 P, o41_0 P, o42_0 P, o43_0 P, o44_0 P, o45_0 P, o46_0 P, o47_0 P, o48_0 P, o49_0 P, o50_0 P, o51_0 P, o52_0 P, o53_0 P, o54_0 P, o55_0 P, o56_0 P, o57_0 P, o58_0 P, o59_0 P, o60_0 P, o61_0 P, o62_0 P, o63_0 P, o64_0 P, o65_0 P, o66_0 P, o67_0 P, o68_0 P, o69_0 P, o70_0 P, o71_0 P]⟩, life0⟩
noncomputable def SF (w : World) (os : OsState) : Shared := ⟨heapF w.params, ⟨[]⟩, drawn0, 1795, os⟩
noncomputable def envT : Env := { scope := PP.main.scope, locals := mainNs, globals := mainNs, cells := [], code := .ref 13, frame := some 14 }
abbrev q0 : Pos := { line := 0, col := 0, endLine := 0, endCol := 0 }
noncomputable abbrev cE : Code := .body bodyP envT
abbrev B0 : List Frame := [topFrame q0]
noncomputable def st0 : List Stmt := [cl0.1]
abbrev p0 : Pos := { line := 0, col := 0, endLine := 0, endCol := 0 }
noncomputable def th0 : Thread := piecesOf st0 envT cE p0 B0
noncomputable def st1 : List Stmt := [cl1.1, cl2.1, cl3.1, cl4.1, cl5.1, cl6.1, cl7.1]
abbrev p1 : Pos := { line := 1, col := 0, endLine := 1, endCol := 11 }
noncomputable def th1 : Thread := piecesOf st1 envT cE p1 B0
noncomputable def st2 : List Stmt := [cl8.1]
abbrev p2 : Pos := { line := 8, col := 0, endLine := 8, endCol := 8 }
noncomputable def th2 : Thread := piecesOf st2 envT cE p2 B0
noncomputable def st3 : List Stmt := [cl9.1]
abbrev p3 : Pos := { line := 9, col := 9, endLine := 9, endCol := 74 }
noncomputable def th3 : Thread := piecesOf st3 envT cE p3 B0
noncomputable def st4 : List Stmt := [cl10.1]
abbrev p4 : Pos := { line := 11, col := 0, endLine := 11, endCol := 28 }
noncomputable def th4 : Thread := piecesOf st4 envT cE p4 B0
noncomputable def st5 : List Stmt := [cl11.1, cl12.1]
abbrev p5 : Pos := { line := 12, col := 9, endLine := 12, endCol := 110 }
noncomputable def th5 : Thread := piecesOf st5 envT cE p5 B0
noncomputable def st6 : List Stmt := [cl13.1]
abbrev p6 : Pos := { line := 16, col := 0, endLine := 16, endCol := 23 }
noncomputable def th6 : Thread := piecesOf st6 envT cE p6 B0
noncomputable def st7 : List Stmt := [cl14.1, cl15.1, cl16.1, cl17.1, cl18.1, cl19.1]
abbrev p7 : Pos := { line := 17, col := 9, endLine := 17, endCol := 16 }
noncomputable def th7 : Thread := piecesOf st7 envT cE p7 B0
noncomputable def st8 : List Stmt := [cl20.1, cl21.1, cl22.1, cl23.1, cl24.1]
abbrev p8 : Pos := { line := 24, col := 0, endLine := 29, endCol := 21 }
noncomputable def th8 : Thread := piecesOf st8 envT cE p8 B0
abbrev p9 : Pos := { line := 82, col := 0, endLine := 94, endCol := 51 }
end Mine

/-! part H2 -/
namespace Mine
section
variable {tb : String → Option Builtin} {p : Program} {w : World} {n₀ : Nat} {ann : Option Value} {b : Nat}
theorem segRun_more (k : Nat) : ∀ (n : Nat) (s : Shared) (t : Thread) (r : Flow × Shared × Code × Pos), segRun tb p w n₀ ann b n s t = some r → segRun tb p w n₀ ann b (n + k) s t = some r
  | 0, _, _, _, h => by simp [segRun] at h
  | n + 1, s, t, r, h => by
    rw [show n + 1 + k = n + k + 1 by omega]
    unfold segRun at h ⊢
    cases he : endAt b t with
    | some f => rw [he] at h; exact h
    | none =>
      rw [he] at h
      cases hk : stepOk n₀ ann t with
      | false => rw [hk] at h; cases h
      | true =>
        rw [hk] at h
        cases hs : step (denote tb) p w s t with
        | halt o s' => rw [hs] at h; cases h
        | go s' t' => rw [hs] at h; exact segRun_more k n s' t' r h
theorem seg_cat {n N M : Nat} {s s' : SharedT} {t t' : Thread} {r : Flow × Shared × Code × Pos} (h : segGoT tb p w n₀ ann b n s t = some (s', t')) (k : segRun tb p w n₀ ann b N s'.abs t' = some r) (e : Nat.ble (n + N) M = true) :
    segRun tb p w n₀ ann b M s.abs t = some r := by
  have q := segRun_more (M - (n + N)) _ _ _ _ (seg_go (segGo_of h) k)
  rwa [show n + N + (M - (n + N)) = M by have := Nat.le_of_ble_eq_true e; omega] at q
theorem seg_end {n M : Nat} {s s' : SharedT} {t : Thread} {f : Flow} {c : Code} {q : Pos} (h : segRunT tb p w n₀ ann b n s t = some (f, s', c, q)) (e : Nat.ble n M = true) : segRun tb p w n₀ ann b M s.abs t = some (f, s'.abs, c, q) := by
  have k := segRun_more (M - n) _ _ _ _ (segRun_of h)
  rwa [show n + (M - n) = M by have := Nat.le_of_ble_eq_true e; omega] at k
end
noncomputable def thr0 (w : World) (os : OsState) : Thread := Prod.snd (Option.getD (segGoT treeTable PP ((w.withFollow "comprehension-iter-twice" false).withFollow "special-get-raises" false) 11 ann0 1 88 (TB ((w.withFollow "comprehension-iter-twice" false).withFollow "special-get-raises" false) os) th0) (TB w os, th0))
def g0_1 : Prop := ∀ (w : World) (os : OsState), segGoT treeTable PP w 11 ann0 1 1147 (T0L1 w os) (thr0 w os) = some (T0L32 w os, (thr0 w os))
theorem g0_1_e : g0_1 = g0_1 := rfl
name_quick h_g0_1 for Mine.g0_1 by Mine.g0_1_e
theorem g0_1_ok : g0_1 := by
  rw [PySem.W.Fast.h_g0_1_eq]
  intro w os
  kernel_rfl
def g0_32 : Prop := ∀ (w : World) (os : OsState), segGoT treeTable PP w 11 ann0 1 1184 (T0L32 w os) (thr0 w os) = some (T0L64 w os, (thr0 w os))
theorem g0_32_e : g0_32 = g0_32 := rfl
name_quick h_g0_32 for Mine.g0_32 by Mine.g0_32_e
theorem g0_32_ok : g0_32 := by
  rw [PySem.W.Fast.h_g0_32_eq]
  intro w os
  kernel_rfl
def g0_64 : Prop := ∀ (w : World) (os : OsState), segGoT treeTable PP w 11 ann0 1 1184 (T0L64 w os) (thr0 w os) = some (T0L96 w os, (thr0 w os))
theorem g0_64_e : g0_64 = g0_64 := rfl
name_quick h_g0_64 for Mine.g0_64 by Mine.g0_64_e
theorem g0_64_ok : g0_64 := by
  rw [PySem.W.Fast.h_g0_64_eq]
  intro w os
  kernel_rfl
def g0_96 : Prop := ∀ (w : World) (os : OsState), segGoT treeTable PP w 11 ann0 1 1184 (T0L96 w os) (thr0 w os) = some (T0L128 w os, (thr0 w os))
theorem g0_96_e : g0_96 = g0_96 := rfl
name_quick h_g0_96 for Mine.g0_96 by Mine.g0_96_e
theorem g0_96_ok : g0_96 := by
  rw [PySem.W.Fast.h_g0_96_eq]
  intro w os
  kernel_rfl
def g0_128 : Prop := ∀ (w : World) (os : OsState), segGoT treeTable PP w 11 ann0 1 1184 (T0L128 w os) (thr0 w os) = some (T0L160 w os, (thr0 w os))
theorem g0_128_e : g0_128 = g0_128 := rfl
name_quick h_g0_128 for Mine.g0_128 by Mine.g0_128_e
theorem g0_128_ok : g0_128 := by
  rw [PySem.W.Fast.h_g0_128_eq]
  intro w os
  kernel_rfl
def g0_160 : Prop := ∀ (w : World) (os : OsState), segGoT treeTable PP w 11 ann0 1 1184 (T0L160 w os) (thr0 w os) = some (T0L192 w os, (thr0 w os))
theorem g0_160_e : g0_160 = g0_160 := rfl
name_quick h_g0_160 for Mine.g0_160 by Mine.g0_160_e
theorem g0_160_ok : g0_160 := by
  rw [PySem.W.Fast.h_g0_160_eq]
  intro w os
  kernel_rfl
def g0_192 : Prop := ∀ (w : World) (os : OsState), segGoT treeTable PP w 11 ann0 1 1184 (T0L192 w os) (thr0 w os) = some (T0L224 w os, (thr0 w os))
theorem g0_192_e : g0_192 = g0_192 := rfl
name_quick h_g0_192 for Mine.g0_192 by Mine.g0_192_e
theorem g0_192_ok : g0_192 := by
  rw [PySem.W.Fast.h_g0_192_eq]
  intro w os
  kernel_rfl
def g0_224 : Prop := ∀ (w : World) (os : OsState), segGoT treeTable PP w 11 ann0 1 1184 (T0L224 w os) (thr0 w os) = some (T0L256 w os, (thr0 w os))
theorem g0_224_e : g0_224 = g0_224 := rfl
name_quick h_g0_224 for Mine.g0_224 by Mine.g0_224_e
theorem g0_224_ok : g0_224 := by
  rw [PySem.W.Fast.h_g0_224_eq]
  intro w os
  kernel_rfl
def g0_end : Prop := ∀ (w : World) (os : OsState), segRunT treeTable PP w 11 ann0 1 29 (T0L256 w os) (thr0 w os) = some (.next, T0 w os, cE, p1)
theorem g0_end_e : g0_end = g0_end := rfl
name_quick h_g0_end for Mine.g0_end by Mine.g0_end_e
theorem g0_end_ok : g0_end := by
  rw [PySem.W.Fast.h_g0_end_eq]
  intro w os
  kernel_rfl
def a0_ff : Prop := ∀ (w : World) (os : OsState), segGoT treeTable PP ((w.withFollow "special-get-raises" false).withFollow "comprehension-iter-twice" false) 11 ann0 1 88 (TB ((w.withFollow "special-get-raises" false).withFollow "comprehension-iter-twice" false) os) th0 = some (T0L1 ((w.withFollow "special-get-raises" false).withFollow "comprehension-iter-twice" false) os, (thr0 ((w.withFollow "special-get-raises" false).withFollow "comprehension-iter-twice" false) os))
theorem a0_ff_e : a0_ff = a0_ff := rfl
name_quick h_a0_ff for Mine.a0_ff by Mine.a0_ff_e
theorem a0_ff_ok : a0_ff := by
  rw [PySem.W.Fast.h_a0_ff_eq]
  intro w os
  kernel_rfl
def a0_ft : Prop := ∀ (w : World) (os : OsState), segGoT treeTable PP ((w.withFollow "special-get-raises" true).withFollow "comprehension-iter-twice" false) 11 ann0 1 88 (TB ((w.withFollow "special-get-raises" true).withFollow "comprehension-iter-twice" false) os) th0 = some (T0L1 ((w.withFollow "special-get-raises" true).withFollow "comprehension-iter-twice" false) os, (thr0 ((w.withFollow "special-get-raises" true).withFollow "comprehension-iter-twice" false) os))
theorem a0_ft_e : a0_ft = a0_ft := rfl
name_quick h_a0_ft for Mine.a0_ft by Mine.a0_ft_e
theorem a0_ft_ok : a0_ft := by
  rw [PySem.W.Fast.h_a0_ft_eq]
  intro w os
  kernel_rfl
def a0_tf : Prop := ∀ (w : World) (os : OsState), segGoT treeTable PP ((w.withFollow "special-get-raises" false).withFollow "comprehension-iter-twice" true) 11 ann0 1 78 (TB ((w.withFollow "special-get-raises" false).withFollow "comprehension-iter-twice" true) os) th0 = some (T0L1 ((w.withFollow "special-get-raises" false).withFollow "comprehension-iter-twice" true) os, (thr0 ((w.withFollow "special-get-raises" false).withFollow "comprehension-iter-twice" true) os))
theorem a0_tf_e : a0_tf = a0_tf := rfl
name_quick h_a0_tf for Mine.a0_tf by Mine.a0_tf_e
theorem a0_tf_ok : a0_tf := by
  rw [PySem.W.Fast.h_a0_tf_eq]
  intro w os
  kernel_rfl
def a0_tt : Prop := ∀ (w : World) (os : OsState), segGoT treeTable PP ((w.withFollow "special-get-raises" true).withFollow "comprehension-iter-twice" true) 11 ann0 1 78 (TB ((w.withFollow "special-get-raises" true).withFollow "comprehension-iter-twice" true) os) th0 = some (T0L1 ((w.withFollow "special-get-raises" true).withFollow "comprehension-iter-twice" true) os, (thr0 ((w.withFollow "special-get-raises" true).withFollow "comprehension-iter-twice" true) os))
theorem a0_tt_e : a0_tt = a0_tt := rfl
name_quick h_a0_tt for Mine.a0_tt by Mine.a0_tt_e
theorem a0_tt_ok : a0_tt := by
  rw [PySem.W.Fast.h_a0_tt_eq]
  intro w os
  kernel_rfl
theorem r0c (w : World) (os : OsState) : segRun treeTable PP w 11 ann0 1 19000 (T0L1 w os).abs (thr0 w os) = some (.next, (T0 w os).abs, cE, p1) := by
  refine seg_cat (N := 17853) (g0_1_ok w os) ?_ (by decide)
  refine seg_cat (N := 16669) (g0_32_ok w os) ?_ (by decide)
  refine seg_cat (N := 15485) (g0_64_ok w os) ?_ (by decide)
  refine seg_cat (N := 14301) (g0_96_ok w os) ?_ (by decide)
  refine seg_cat (N := 13117) (g0_128_ok w os) ?_ (by decide)
  refine seg_cat (N := 11933) (g0_160_ok w os) ?_ (by decide)
  refine seg_cat (N := 10749) (g0_192_ok w os) ?_ (by decide)
  refine seg_cat (N := 9565) (g0_224_ok w os) ?_ (by decide)
  exact seg_end (g0_end_ok w os) (by decide)
def R0 (w : World) : Prop := ∀ os, segRun treeTable PP w 11 ann0 1 20000 (TB w os).abs th0 = some (.next, (T0 w os).abs, cE, p1)
theorem r0 : ∀ w, R0 w := byRow2 "comprehension-iter-twice" (byRow2 "special-get-raises" (P := fun w => R0 (w.withFollow "comprehension-iter-twice" false)) (fun w os => seg_cat (a0_ff_ok w os) (r0c _ os) (by decide)) (fun w os => seg_cat (a0_ft_ok w os) (r0c _ os) (by decide))) (byRow2 "special-get-raises" (P := fun w => R0 (w.withFollow "comprehension-iter-twice" true)) (fun w os => seg_cat (a0_tf_ok w os) (r0c _ os) (by decide)) (fun w os => seg_cat (a0_tt_ok w os) (r0c _ os) (by decide)))
def R1 (w : World) : Prop := ∀ os, segRun treeTable PP w 11 ann0 1 20000 (T0 w os).abs th1 = some (.next, (T1 w os).abs, cE, p2)
def a1 : Prop := ∀ (w : World) (os : OsState), segRunT treeTable PP w 11 ann0 1 109 (T0 w os) th1 = some (.next, T1 w os, cE, p2)
theorem a1_e : a1 = a1 := rfl
name_quick h_a1 for Mine.a1 by Mine.a1_e
theorem a1_ok : a1 := by
  rw [PySem.W.Fast.h_a1_eq]
  intro w os
  kernel_rfl
theorem r1 : ∀ w, R1 w := fun w os => seg_end (a1_ok w os) (by decide)
noncomputable def thr2 (w : World) (os : OsState) : Thread := Prod.snd (Option.getD (segGoT treeTable PP (w.withFollow "special-get-raises" false) 11 ann0 1 133 (T1 (w.withFollow "special-get-raises" false) os) th2) (T1 w os, th2))
def g2_1 : Prop := ∀ (w : World) (os : OsState), segGoT treeTable PP w 11 ann0 1 1035 (T2L1 w os) (thr2 w os) = some (T2L24 w os, (thr2 w os))
theorem g2_1_e : g2_1 = g2_1 := rfl
name_quick h_g2_1 for Mine.g2_1 by Mine.g2_1_e
theorem g2_1_ok : g2_1 := by
  rw [PySem.W.Fast.h_g2_1_eq]
  intro w os
  kernel_rfl
def g2_24 : Prop := ∀ (w : World) (os : OsState), segGoT treeTable PP w 11 ann0 1 1080 (T2L24 w os) (thr2 w os) = some (T2L48 w os, (thr2 w os))
theorem g2_24_e : g2_24 = g2_24 := rfl
name_quick h_g2_24 for Mine.g2_24 by Mine.g2_24_e
theorem g2_24_ok : g2_24 := by
  rw [PySem.W.Fast.h_g2_24_eq]
  intro w os
  kernel_rfl
def g2_48 : Prop := ∀ (w : World) (os : OsState), segGoT treeTable PP w 11 ann0 1 810 (T2L48 w os) (thr2 w os) = some (T2L66 w os, (thr2 w os))
theorem g2_48_e : g2_48 = g2_48 := rfl
name_quick h_g2_48 for Mine.g2_48 by Mine.g2_48_e
theorem g2_48_ok : g2_48 := by
  rw [PySem.W.Fast.h_g2_48_eq]
  intro w os
  kernel_rfl
def g2_end : Prop := ∀ (w : World) (os : OsState), segRunT treeTable PP w 11 ann0 1 19 (T2L66 w os) (thr2 w os) = some (.next, T2 w os, cE, p3)
theorem g2_end_e : g2_end = g2_end := rfl
name_quick h_g2_end for Mine.g2_end by Mine.g2_end_e
theorem g2_end_ok : g2_end := by
  rw [PySem.W.Fast.h_g2_end_eq]
  intro w os
  kernel_rfl
def a2_f : Prop := ∀ (w : World) (os : OsState), segGoT treeTable PP (w.withFollow "special-get-raises" false) 11 ann0 1 133 (T1 (w.withFollow "special-get-raises" false) os) th2 = some (T2L1 (w.withFollow "special-get-raises" false) os, (thr2 (w.withFollow "special-get-raises" false) os))
theorem a2_f_e : a2_f = a2_f := rfl
name_quick h_a2_f for Mine.a2_f by Mine.a2_f_e
theorem a2_f_ok : a2_f := by
  rw [PySem.W.Fast.h_a2_f_eq]
  intro w os
  kernel_rfl
def a2_t : Prop := ∀ (w : World) (os : OsState), segGoT treeTable PP (w.withFollow "special-get-raises" true) 11 ann0 1 133 (T1 (w.withFollow "special-get-raises" true) os) th2 = some (T2L1 (w.withFollow "special-get-raises" true) os, (thr2 (w.withFollow "special-get-raises" true) os))
theorem a2_t_e : a2_t = a2_t := rfl
name_quick h_a2_t for Mine.a2_t by Mine.a2_t_e
theorem a2_t_ok : a2_t := by
  rw [PySem.W.Fast.h_a2_t_eq]
  intro w os
  kernel_rfl
theorem r2c (w : World) (os : OsState) : segRun treeTable PP w 11 ann0 1 19000 (T2L1 w os).abs (thr2 w os) = some (.next, (T2 w os).abs, cE, p3) := by
  refine seg_cat (N := 17965) (g2_1_ok w os) ?_ (by decide)
  refine seg_cat (N := 16885) (g2_24_ok w os) ?_ (by decide)
  refine seg_cat (N := 16075) (g2_48_ok w os) ?_ (by decide)
  exact seg_end (g2_end_ok w os) (by decide)
def R2 (w : World) : Prop := ∀ os, segRun treeTable PP w 11 ann0 1 20000 (T1 w os).abs th2 = some (.next, (T2 w os).abs, cE, p3)
theorem r2 : ∀ w, R2 w := byRow2 "special-get-raises" (fun w os => seg_cat (a2_f_ok w os) (r2c _ os) (by decide)) (fun w os => seg_cat (a2_t_ok w os) (r2c _ os) (by decide))
def R3 (w : World) : Prop := ∀ os, segRun treeTable PP w 11 ann0 1 20000 (T2 w os).abs th3 = some (.next, (T3 w os).abs, cE, p4)
def a3 : Prop := ∀ (w : World) (os : OsState), segRunT treeTable PP w 11 ann0 1 25 (T2 w os) th3 = some (.next, T3 w os, cE, p4)
theorem a3_e : a3 = a3 := rfl
name_quick h_a3 for Mine.a3 by Mine.a3_e
theorem a3_ok : a3 := by
  rw [PySem.W.Fast.h_a3_eq]
  intro w os
  kernel_rfl
theorem r3 : ∀ w, R3 w := fun w os => seg_end (a3_ok w os) (by decide)
noncomputable def thr4 (w : World) (os : OsState) : Thread := Prod.snd (Option.getD (segGoT treeTable PP (w.withFollow "special-get-raises" false) 11 ann0 1 99 (T3 (w.withFollow "special-get-raises" false) os) th4) (T3 w os, th4))
def g4_1 : Prop := ∀ (w : World) (os : OsState), segGoT treeTable PP w 11 ann0 1 1035 (T4L1 w os) (thr4 w os) = some (T4L24 w os, (thr4 w os))
theorem g4_1_e : g4_1 = g4_1 := rfl
name_quick h_g4_1 for Mine.g4_1 by Mine.g4_1_e
theorem g4_1_ok : g4_1 := by
  rw [PySem.W.Fast.h_g4_1_eq]
  intro w os
  kernel_rfl
def g4_24 : Prop := ∀ (w : World) (os : OsState), segGoT treeTable PP w 11 ann0 1 1080 (T4L24 w os) (thr4 w os) = some (T4L48 w os, (thr4 w os))
theorem g4_24_e : g4_24 = g4_24 := rfl
name_quick h_g4_24 for Mine.g4_24 by Mine.g4_24_e
theorem g4_24_ok : g4_24 := by
  rw [PySem.W.Fast.h_g4_24_eq]
  intro w os
  kernel_rfl
def g4_48 : Prop := ∀ (w : World) (os : OsState), segGoT treeTable PP w 11 ann0 1 1080 (T4L48 w os) (thr4 w os) = some (T4L72 w os, (thr4 w os))
theorem g4_48_e : g4_48 = g4_48 := rfl
name_quick h_g4_48 for Mine.g4_48 by Mine.g4_48_e
theorem g4_48_ok : g4_48 := by
  rw [PySem.W.Fast.h_g4_48_eq]
  intro w os
  kernel_rfl
def g4_72 : Prop := ∀ (w : World) (os : OsState), segGoT treeTable PP w 11 ann0 1 990 (T4L72 w os) (thr4 w os) = some (T4L94 w os, (thr4 w os))
theorem g4_72_e : g4_72 = g4_72 := rfl
name_quick h_g4_72 for Mine.g4_72 by Mine.g4_72_e
theorem g4_72_ok : g4_72 := by
  rw [PySem.W.Fast.h_g4_72_eq]
  intro w os
  kernel_rfl
def g4_end : Prop := ∀ (w : World) (os : OsState), segRunT treeTable PP w 11 ann0 1 19 (T4L94 w os) (thr4 w os) = some (.next, T4 w os, cE, p5)
theorem g4_end_e : g4_end = g4_end := rfl
name_quick h_g4_end for Mine.g4_end by Mine.g4_end_e
theorem g4_end_ok : g4_end := by
  rw [PySem.W.Fast.h_g4_end_eq]
  intro w os
  kernel_rfl
def a4_f : Prop := ∀ (w : World) (os : OsState), segGoT treeTable PP (w.withFollow "special-get-raises" false) 11 ann0 1 99 (T3 (w.withFollow "special-get-raises" false) os) th4 = some (T4L1 (w.withFollow "special-get-raises" false) os, (thr4 (w.withFollow "special-get-raises" false) os))
theorem a4_f_e : a4_f = a4_f := rfl
name_quick h_a4_f for Mine.a4_f by Mine.a4_f_e
theorem a4_f_ok : a4_f := by
  rw [PySem.W.Fast.h_a4_f_eq]
  intro w os
  kernel_rfl
def a4_t : Prop := ∀ (w : World) (os : OsState), segGoT treeTable PP (w.withFollow "special-get-raises" true) 11 ann0 1 99 (T3 (w.withFollow "special-get-raises" true) os) th4 = some (T4L1 (w.withFollow "special-get-raises" true) os, (thr4 (w.withFollow "special-get-raises" true) os))
theorem a4_t_e : a4_t = a4_t := rfl
name_quick h_a4_t for Mine.a4_t by Mine.a4_t_e
theorem a4_t_ok : a4_t := by
  rw [PySem.W.Fast.h_a4_t_eq]
  intro w os
  kernel_rfl
theorem r4c (w : World) (os : OsState) : segRun treeTable PP w 11 ann0 1 19000 (T4L1 w os).abs (thr4 w os) = some (.next, (T4 w os).abs, cE, p5) := by
  refine seg_cat (N := 17965) (g4_1_ok w os) ?_ (by decide)
  refine seg_cat (N := 16885) (g4_24_ok w os) ?_ (by decide)
  refine seg_cat (N := 15805) (g4_48_ok w os) ?_ (by decide)
  refine seg_cat (N := 14815) (g4_72_ok w os) ?_ (by decide)
  exact seg_end (g4_end_ok w os) (by decide)
def R4 (w : World) : Prop := ∀ os, segRun treeTable PP w 11 ann0 1 20000 (T3 w os).abs th4 = some (.next, (T4 w os).abs, cE, p5)
theorem r4 : ∀ w, R4 w := byRow2 "special-get-raises" (fun w os => seg_cat (a4_f_ok w os) (r4c _ os) (by decide)) (fun w os => seg_cat (a4_t_ok w os) (r4c _ os) (by decide))
def R5 (w : World) : Prop := ∀ os, segRun treeTable PP w 11 ann0 1 20000 (T4 w os).abs th5 = some (.next, (T5 w os).abs, cE, p6)
def a5 : Prop := ∀ (w : World) (os : OsState), segRunT treeTable PP w 11 ann0 1 57 (T4 w os) th5 = some (.next, T5 w os, cE, p6)
theorem a5_e : a5 = a5 := rfl
name_quick h_a5 for Mine.a5 by Mine.a5_e
theorem a5_ok : a5 := by
  rw [PySem.W.Fast.h_a5_eq]
  intro w os
  kernel_rfl
theorem r5 : ∀ w, R5 w := fun w os => seg_end (a5_ok w os) (by decide)
def R6 (w : World) : Prop := ∀ os, segRun treeTable PP w 11 ann0 1 20000 (T5 w os).abs th6 = some (.next, (T6 w os).abs, cE, p7)
def a6_f : Prop := ∀ (w : World) (os : OsState), segRunT treeTable PP (w.withFollow "special-get-raises" false) 11 ann0 1 118 (T5 (w.withFollow "special-get-raises" false) os) th6 = some (.next, T6 (w.withFollow "special-get-raises" false) os, cE, p7)
theorem a6_f_e : a6_f = a6_f := rfl
name_quick h_a6_f for Mine.a6_f by Mine.a6_f_e
theorem a6_f_ok : a6_f := by
  rw [PySem.W.Fast.h_a6_f_eq]
  intro w os
  kernel_rfl
def a6_t : Prop := ∀ (w : World) (os : OsState), segRunT treeTable PP (w.withFollow "special-get-raises" true) 11 ann0 1 118 (T5 (w.withFollow "special-get-raises" true) os) th6 = some (.next, T6 (w.withFollow "special-get-raises" true) os, cE, p7)
theorem a6_t_e : a6_t = a6_t := rfl
name_quick h_a6_t for Mine.a6_t by Mine.a6_t_e
theorem a6_t_ok : a6_t := by
  rw [PySem.W.Fast.h_a6_t_eq]
  intro w os
  kernel_rfl
theorem r6 : ∀ w, R6 w := byRow2 "special-get-raises" (fun w os => seg_end (a6_f_ok w os) (by decide)) (fun w os => seg_end (a6_t_ok w os) (by decide))
def R7 (w : World) : Prop := ∀ os, segRun treeTable PP w 11 ann0 1 20000 (T6 w os).abs th7 = some (.next, (T7 w os).abs, cE, p8)
def a7 : Prop := ∀ (w : World) (os : OsState), segRunT treeTable PP w 11 ann0 1 73 (T6 w os) th7 = some (.next, T7 w os, cE, p8)
theorem a7_e : a7 = a7 := rfl
name_quick h_a7 for Mine.a7 by Mine.a7_e
theorem a7_ok : a7 := by
  rw [PySem.W.Fast.h_a7_eq]
  intro w os
  kernel_rfl
theorem r7 : ∀ w, R7 w := fun w os => seg_end (a7_ok w os) (by decide)
def R8 (w : World) : Prop := ∀ os, segRun treeTable PP w 11 ann0 1 20000 (T7 w os).abs th8 = some (.next, (T8 w os).abs, cE, p9)
def a8 : Prop := ∀ (w : World) (os : OsState), segRunT treeTable PP w 11 ann0 1 130 (T7 w os) th8 = some (.next, T8 w os, cE, p9)
theorem a8_e : a8 = a8 := rfl
name_quick h_a8 for Mine.a8 by Mine.a8_e
theorem a8_ok : a8 := by
  rw [PySem.W.Fast.h_a8_eq]
  intro w os
  kernel_rfl
theorem r8 : ∀ w, R8 w := fun w os => seg_end (a8_ok w os) (by decide)
end Mine

/-! part H3 -/
namespace Mine
noncomputable def S0 (w : World) (os : OsState) : Shared := ⟨boot_heap w.params, ⟨[]⟩, boot_drawn, boot_toks, os⟩
def pre : Prop := ∀ (w : World) (os : OsState), topGo treeTable PP w 11 ann0 12 (S0 w os) (topStub PP) = some (SA w os, (⟨denote treeTable cE, cE, q0, B0⟩ : Thread))
theorem pre_e : pre = pre := rfl
name_quick h_pre for Mine.pre by Mine.pre_e
theorem pre_ok : pre := by
  rw [PySem.W.Fast.h_pre_eq]
  intro w os
  kernel_rfl
def blk : Prop := ∀ (w : World) (os : OsState), segRun treeTable PP w 11 ann0 1 1 (SA w os) (blockOf bodyP envT cE q0 B0) = some (.next, (TB w os).abs, cE, q0)
theorem blk_e : blk = blk := rfl
name_quick h_blk for Mine.blk by Mine.blk_e
theorem blk_ok : blk := by
  rw [PySem.W.Fast.h_blk_eq]
  intro w os
  kernel_rfl
def fin : Prop := ∀ (w : World) (os : OsState), topRun treeTable PP w 11 ann0 2 (T8 w os).abs ⟨doneF .next, cE, p9, B0⟩ = some (SF w os)
theorem fin_e : fin = fin := rfl
name_quick h_fin for Mine.fin by Mine.fin_e
theorem fin_ok : fin := by
  rw [PySem.W.Fast.h_fin_eq]
  intro w os
  kernel_rfl
theorem body_eq : bodyP = st0 ++ (st1 ++ (st2 ++ (st3 ++ (st4 ++ (st5 ++ (st6 ++ (st7 ++ (st8 ++ [])))))))) := by kernel_rfl
theorem chain (w : World) (os : OsState) : topRun treeTable PP w 11 ann0 200000 (S0 w os) (topStub PP) = some (SF w os) := by
  have k9 := piece_nil (env := envT) (q := q0) (c := cE) (fin_ok w os)
  have k8 := piece_app (env := envT) (q := q0) (l := st8) (c := cE) (r8 w os) k9
  have k7 := piece_app (env := envT) (q := q0) (l := st7) (c := cE) (r7 w os) k8
  have k6 := piece_app (env := envT) (q := q0) (l := st6) (c := cE) (r6 w os) k7
  have k5 := piece_app (env := envT) (q := q0) (l := st5) (c := cE) (r5 w os) k6
  have k4 := piece_app (env := envT) (q := q0) (l := st4) (c := cE) (r4 w os) k5
  have k3 := piece_app (env := envT) (q := q0) (l := st3) (c := cE) (r3 w os) k4
  have k2 := piece_app (env := envT) (q := q0) (l := st2) (c := cE) (r2 w os) k3
  have k1 := piece_app (env := envT) (q := q0) (l := st1) (c := cE) (r1 w os) k2
  have k0 := piece_app (env := envT) (q := q0) (l := st0) (c := cE) (r0 w os) k1
  rw [← body_eq] at k0
  have kb := piece_block (env := envT) (q := q0) (b := bodyP) (blk_ok w os) k0
  have kp := go_top (pre_ok w os) kb
  exact topRun_mono 19985 _ _ _ _ kp
noncomputable def viewT : Program := { PP with main := { PP.main with body := [cl0.1, cl1.1, cl2.1, cl3.1, cl4.1, cl5.1, cl6.1, cl11.1, cl12.1, cl16.1, cl17.1, cl18.1, cl19.1, cl20.1, cl22.1, cl23.1, cl24.1] } }
def loose0 : List Str := [Str.ofString "_QUOPRI_MAP", Str.ofString "_QUOPRI_HEADER_MAP", Str.ofString "_QUOPRI_BODY_MAP", Str.ofString "ascii_letters", Str.ofString "_QUOPRI_BODY_ENCODE_MAP"]
def lv0 : List (Str × WData) := [(Str.ofString "ascii_letters", WData.str (Str.ofString "abcdefghijklmnopqrstuvwxyzABCDEFGHIJKLMNOPQRSTUVWXYZ"))]
noncomputable def KF (P : Params) : Frag := [(nat_lit 2, boot_o_2 P), (nat_lit 3, o3_14 P), (nat_lit 6, boot_o_6 P), (nat_lit 17, o17_8 P), (nat_lit 22, o22_5 P), (nat_lit 24, o24_5 P), (nat_lit 31, o31_0 P), (nat_lit 33, o33_0 P), (nat_lit 34, o34_0 P), (nat_lit 36, o36_0 P), (nat_lit 37, o37_0 P), (nat_lit 39, o39_1 P), (nat_lit 43, o43_0 P), (nat_lit 45, o45_0 P), (nat_lit 46, o46_0 P), (nat_lit 48, o48_0 P), (nat_lit 49, o49_0 P), (nat_lit 50, o50_0 P), (nat_lit 52, o52_0 P), (nat_lit 53, o53_0 P), (nat_lit 55, o55_0 P), (nat_lit 56, o56_0 P), (nat_lit 57, o57_0 P), (nat_lit 60, o60_0 P), (nat_lit 61, o61_0 P), (nat_lit 62, o62_0 P), (nat_lit 65, o65_0 P), (nat_lit 66, o66_0 P), (nat_lit 67, o67_0 P), (nat_lit 70, o70_0 P), (nat_lit 71, o71_0 P)]
def asF : List Addr := [2, 3, 6, 17, 22, 24, 31, 33, 34, 36, 37, 39, 43, 45, 46, 48, 49, 50, 52, 53, 55, 56, 57, 60, 61, 62, 65, 66, 67, 70, 71]
noncomputable abbrev HK : Hook := kHook KF asF (fun _ => by kernel_rfl)
noncomputable abbrev rowR : RowW := PySem.Challenge.rw_rl0023_01.row.toRowW
noncomputable abbrev XtF (s : Shared) : Bool := xlAt viewT lv0 s && recOk (RowW.records rowR) s
def sizes : Prop := ∀ (w : World), ((boot_heap w.params).isNs mainGlobals && (⟨[]⟩ : Array GenState).size == 0, (boot_heap w.params).objs.size, (boot_heap w.params).nsMap mainGlobals "__annotations__") = (true, 11, ann0)
theorem sizes_e : sizes = sizes := rfl
name_quick h_sizes for Mine.sizes by Mine.sizes_e
theorem sizes_ok : sizes := by
  rw [PySem.W.Fast.h_sizes_eq]
  intro w
  kernel_rfl
def opn : Prop := ∀ (w : World), (fencedOpening treeTable PP w 200000).map (fun s => (s.heap, s.gens, s.drawn, s.toks)) = some (boot_heap w.params, (⟨[]⟩ : Array GenState), boot_drawn, boot_toks)
theorem opn_e : opn = opn := rfl
name_quick h_opn for Mine.opn by Mine.opn_e
theorem opn_ok : opn := by
  rw [PySem.W.Fast.h_opn_eq]
  intro w
  kernel_rfl
def look1 : Prop := ∀ (w : World) (os : OsState), (staticsOk (importedModules PP.main.body) (boot_heap w.params) (heapF w.params) && namesBound PP (heapF w.params) && gensDone (SF w os) && laidKept (boot_heap w.params) (heapF w.params)) = true
theorem look1_e : look1 = look1 := rfl
name_quick h_look1 for Mine.look1 by Mine.look1_e
theorem look1_ok : look1 := by
  rw [PySem.W.Fast.h_look1_eq]
  intro w os
  kernel_rfl
def look2 : Prop := ∀ (w : World) (os : OsState), openSeen viewT loose0 (importedModules PP.main.body) XtF true (SF w os) = openGood viewT loose0
theorem look2_e : look2 = look2 := rfl
name_quick h_look2 for Mine.look2 by Mine.look2_e
theorem look2_ok : look2 := by
  rw [PySem.W.Fast.h_look2_eq]
  intro w os
  kernel_rfl
def look3 : Prop := ∀ (w : World) (os : OsState), asF.map (SF w os).heap.get? = (KF w.params).map fun p => some p.2
theorem look3_e : look3 = look3 := rfl
name_quick h_look3 for Mine.look3 by Mine.look3_e
theorem look3_ok : look3 := by
  rw [PySem.W.Fast.h_look3_eq]
  intro w os
  kernel_rfl
theorem left : LeftO PP viewT loose0 XtF (Hook.obs HK) (Hook.val HK) 200000 := by
  refine LeftO.of_pieces (H₀ := boot_heap) (H₁ := heapF) (gs₀ := ⟨[]⟩) (gs₁ := ⟨[]⟩) (d₀ := boot_drawn) (d₁ := drawn0) (k₀ := boot_toks) (k₁ := 1795) (m₀ := 11) (ann := ann0) (M := 200000) opn_ok sizes_ok chain (by decide) ?l
  case l =>
    intro w
    funext os
    exact looks_pair (look1_ok w os) (looks_pair (look2_ok w os) (look3_ok w os))
end Mine

/-! part B1 -/
namespace Mine


section
variable {prog : Program} {w : World} {A : Around} {s : Shared} {K : Frag}
  {R : Result → Shared → Prop} {name qual : Str} {params : Arguments} {body : List Stmt} {scope : Scope} {dV kV doc pm cdv ct oc : Value} {an od : Option Addr} {osl : Array (Option Value)} {f : Addr} {args : Args} {binds : List (Str × Value)}

theorem call0 (X : K.In s.heap) (hlim : s.heap.NoLimit)
    (ho : K.lookup f = some ⟨oc, od, .func (fnOf name qual params body scope dV kV doc pm an cdv ct), osl⟩) (hcd : codeIn K cdv qual = true) (hroom : A.depth < recursionLimit)
    (hbind : BindsTo s (fnOf name qual params body scope dV kV doc pm an cdv ct) args binds) (hloc : ∀ y ∈ binds, scope.names.lookup y.1 = some .local)
    (h : ∀ L h₁, L = s.heap.objs.size → Fr s.heap L h₁ (fun y => binds.reverse.lookup y) →
      wpAny (model prog w) (A.deeper (envOf qual scope L f cdv)) (execs body (envOf qual scope L f cdv))
        (fun fl s' => R (.ok (.ret (match fl with | .ret v => v | _ => .none))) s') (fun _ _ => False)
        { s with heap := h₁, toks := s.toks + binds.length })
    (hcell : ∀ x ∈ scope.names, x.2 ≠ .cell) (hco : scope.isCoroutine = false := by rfl) (hgen : scope.isGenerator = false := by rfl) (hk : scope.kind = .function := by rfl) :
    codeAny (model prog w) A (.call (.ref f) args) R s := by
  refine codeAny_call_def (fd := fnOf name qual params body scope dV kV doc pm an cdv ct) (body := body) (binds := binds) hroom (X _ _ ho) rfl hlim (codeRec_of X hcd) rfl hbind hcell hloc (fun h₁ hns hk₁ => ?_) hco hgen hk
  exact wpAny_mono (h _ h₁ rfl ⟨hns, hk₁, Nat.le_refl _⟩) (fun _ _ x => x) fun _ _ x => x.elim
end

section
variable {w : World} {A : Around} {s : Shared} {p : Program} {loose : List Str} {mg mb : Str → Option Value}


theorem subst_spec {x y : Str} {t u : Tok} {R : Result → Shared → Prop} (X : (KF w.params).In s.heap) (T : TopRead p loose mg mb s.heap) (hroom : A.depth < recursionLimit)
    (hx : x.length = 1) (hy : y.length = 1) (hl : x ≠ y → Txt.lower x ≠ Txt.lower y)
    (hR : ∀ h' tk tk', (∀ b o, s.heap.get? b = some o → h'.get? b = some o) → R (.ok (.ret (.int (if x = y then 0 else 2) tk'))) { s with heap := h', toks := tk }) :
    codeAny (model PySem.Challenge.rw_rl0023_01.row.prog w) A (.call (.ref 49) ⟨[.str x t, .str y u], []⟩) R s := by
  revert X; k_fill; intro X
  refine' call0 (binds := [(Str.ofString "ch_a", .str x t), (Str.ofString "ch_b", .str y u)]) X T.nolimit ?k6 ?k7 hroom ?k9 ?kB ?_ ?c5 ?c2 ?c3 ?c4; (case k6 => k_is); (case k7 => k_is); (case k9 => exact BindsTo.of_eq rfl); (case c5 => decide); (case kB => exact locs rfl); (case c2 => exact rfl); (case c3 => exact rfl); (case c4 => exact rfl)
  intro L h₁ hL F
  have N : News s.heap L h₁ [] := News.nil
  show wpAny _ _ _ _ _ _
  k_fold
  repeat' (first | (k_unfold; (try dsimp only)) | walk1 | (dsimp only; walk1) | (dsimp only; k_unfold; (try dsimp only)))
  · rename_i he
    have he' : x = y := beq_iff_eq.mp he
    have q := hR h₁ (tk + 1) tk F.keep
    rw [if_pos he'] at q
    exact q
  · rename (x == y) = false => h1
    rename (Txt.lower x == Txt.lower y) = true => h2
    exact absurd (beq_iff_eq.mp h2) (hl fun e => by rw [e] at h1; simp at h1)
  · rename (x == y) = false => h1
    have q := hR h₁ tk 1743 F.keep
    rw [if_neg (fun e => by rw [e] at h1; simp at h1)] at q
    exact q

theorem Fr.more {h₀ h h' : Heap} {L : Addr} {m : Str → Option Value} (F : Fr h₀ L h m) (k : ∀ b o, h.get? b = some o → h'.get? b = some o) : Fr h₀ L h' m :=
  ⟨F.ns.keeps k, fun b o e => k b o (F.keep b o e), F.above⟩
theorem News.more' {h₀ h h' : Heap} {L : Addr} {news : List (Addr × Obj)} (N : News h₀ L h news) (k : ∀ b o, h.get? b = some o → h'.get? b = some o) : News h₀ L h' news :=
  fun p hp => ⟨k _ _ (N p hp).1, (N p hp).2⟩
theorem Frag.keeps' {K : Frag} {h h' : Heap} (X : K.In h) (k : ∀ b o, h.get? b = some o → h'.get? b = some o) : K.In h' := fun a o e => k _ _ (X a o e)

theorem subst_step {x y : Str} {t u : Tok} {Q : Value → Shared → Prop} {E : Value → Shared → Prop} {h₀ : Heap} {L : Addr} {m : Str → Option Value} {news : List (Addr × Obj)}
    (F : Fr h₀ L s.heap m) (N : News h₀ L s.heap news) (X : (KF w.params).In h₀) (T : TopRead p loose mg mb h₀) (hroom : A.depth < recursionLimit)
    (hx : x.length = 1) (hy : y.length = 1) (hl : x ≠ y → Txt.lower x ≠ Txt.lower y)
    (h : ∀ h' tk tk', Fr h₀ L h' m → News h₀ L h' news → Q (.int (if x = y then 0 else 2) tk') { s with heap := h', toks := tk }) :
    wpAny (model PySem.Challenge.rw_rl0023_01.row.prog w) A (call (.ref 49) [.str x t, .str y u]) Q E s :=
  wpAny_call (subst_spec (Frag.keeps' X F.keep) (T.keeps F.keep) hroom hx hy hl fun h' tk tk' k => h h' tk tk' (Fr.more F k) (News.more' N k))
end
end Mine

/-! part B2 -/
namespace Mine

/-- the facts of the top that every heap of the run has -/
structure Bs (w : World) (h : Heap) : Prop where
  kx : (KF w.params).In h
  tr : ∃ p loose mg mb, TopRead p loose mg mb h
theorem Bs.g {w : World} {h : Heap} (B : Bs w h) : ∃ mg, h.Ns mainGlobals mg := let ⟨_, _, mg, _, T⟩ := B.tr; ⟨mg, T.g⟩
theorem Bs.b {w : World} {h : Heap} (B : Bs w h) : ∃ mb, h.Ns builtinsNs mb ∧ ∀ x : Str, x ≠ "__name__" → mb x = bootBuiltins x := let ⟨_, _, _, mb, T⟩ := B.tr; ⟨mb, T.b, T.builtins⟩
theorem Bs.nl {w : World} {h : Heap} (B : Bs w h) : h.NoLimit := let ⟨_, _, _, _, T⟩ := B.tr; T.nolimit
theorem Bs.keeps {w : World} {h h' : Heap} (B : Bs w h) (k : ∀ b o, h.get? b = some o → h'.get? b = some o) : Bs w h' :=
  ⟨fun a o e => k _ _ (B.kx a o e), let ⟨p, l, mg, mb, T⟩ := B.tr; ⟨p, l, mg, mb, T.keeps k⟩⟩

/-- what a frame shows: its names, its cells, the top -/
structure Vw (w : World) (env : Env) (m cm : Str → Option Value) (h : Heap) : Prop where
  ns : h.Ns env.locals m
  cell : ∀ n c, env.cells.lookup n = some c → h.IsCell c (cm n)
  bs : Bs w h
theorem Vw.keeps {w : World} {env : Env} {m cm : Str → Option Value} {h h' : Heap} (V : Vw w env m cm h) (k : ∀ b o, h.get? b = some o → h'.get? b = some o) : Vw w env m cm h' :=
  ⟨V.ns.keeps k, fun n c e => (V.cell n c e).keeps k, V.bs.keeps k⟩

theorem keeps_refl (s : Shared) : Keeps s s := ⟨s.heap, s.toks, rfl, fun _ _ e => e⟩
theorem keeps_tok (s : Shared) (k : Nat) : Keeps s { s with toks := k } := ⟨s.heap, k, rfl, fun _ _ e => e⟩
theorem keeps_push (s : Shared) (o : Obj) (k : Nat) : Keeps s { s with heap := s.heap.push o, toks := k } := ⟨_, k, rfl, fun _ _ e => Heap.get?_push_of_some _ e⟩
theorem Keeps.get {s s' : Shared} (k : Keeps s s') : ∀ b o, s.heap.get? b = some o → s'.heap.get? b = some o := by
  obtain ⟨h', tk, rfl, e⟩ := k; exact e
theorem Keeps.trans {s s' s'' : Shared} (k : Keeps s s') (k' : Keeps s' s'') : Keeps s s'' := by
  obtain ⟨h', tk, rfl, e⟩ := k; obtain ⟨h'', tk', rfl, e'⟩ := k'
  exact ⟨h'', tk', rfl, fun b o x => e' b o (e b o x)⟩

section
variable {M : Model} {w : World} {A : Around} {E : Value → Shared → Prop} {s : Shared} {env : Env} {m cm : Str → Option Value} {x : Str} {pos : Pos} {v : Value} {Q : Value → Shared → Prop}
theorem ev_local (V : Vw w env m cm s.heap) (hv : m x = some v) (h : Q v s) (hl : env.kindOf x = some .local := by rfl) (hk : env.scope.kind = .function := by rfl) (hd : (x == ("__debug__" : Str)) = false := by decide) :
    wpAny M A (eval (.Name x pos) env) Q E s := wpAny_Name (wpAny_loadName_local hk hl V.ns hv h) hd
theorem ev_cell {c : Addr} (V : Vw w env m cm s.heap) (hc : env.cells.lookup x = some c) (hv : cm x = some v) (h : Q v s) (hl : env.kindOf x = some .cell := by rfl) (hk : env.scope.kind = .function := by rfl) (hd : (x == ("__debug__" : Str)) = false := by decide) :
    wpAny M A (eval (.Name x pos) env) Q E s := wpAny_Name (wpAny_loadName_cell hk hl hc (hv ▸ V.cell x c hc) h) hd
theorem ev_glob (V : Vw w env m cm s.heap) (e : nsIn (KF w.params) mainGlobals x = some (some v)) (h : Q v s) (hx : env.kindOf x = some .globalImplicit := by rfl) (hg : env.globals = mainGlobals := by rfl) (hk : env.scope.kind = .function := by rfl) (hd : (x == ("__debug__" : Str)) = false := by decide) :
    wpAny M A (eval (.Name x pos) env) Q E s := by
  obtain ⟨mg, G⟩ := V.bs.g
  exact Calls.Name_function_global hk hx (Calls.loadGlobal_global (env := env) (hg ▸ G) (mg_of V.bs.kx G e) h) hd
theorem ev_bltn (V : Vw w env m cm s.heap) (e : nsIn (KF w.params) mainGlobals x = some none) (hv : bootBuiltins x = some v) (h : Q v s) (hn : x ≠ "__name__" := by decide) (hx : env.kindOf x = some .globalImplicit := by rfl) (hg : env.globals = mainGlobals := by rfl) (hb : env.builtins = builtinsNs := by rfl) (hk : env.scope.kind = .function := by rfl) (hd : (x == ("__debug__" : Str)) = false := by decide) :
    wpAny M A (eval (.Name x pos) env) Q E s := by
  obtain ⟨mg, G⟩ := V.bs.g
  obtain ⟨mb, Bn, Bv⟩ := V.bs.b
  exact Calls.Name_function_global hk hx (Calls.loadGlobal_builtin (env := env) (hg ▸ G) (mg_none_of V.bs.kx G e) (hb ▸ Bn) ((Bv x hn).trans hv) h) hd
end
section
variable (P : Params)
theorem g_map : nsIn (KF P) mainGlobals "_QUOPRI_MAP" = some (some (.ref 17)) := by kernel_rfl
theorem g_quote : nsIn (KF P) mainGlobals "quote" = some (some (.ref 37)) := by kernel_rfl
theorem g_subst : nsIn (KF P) mainGlobals "_substitution_cost" = some (some (.ref 49)) := by kernel_rfl
theorem g_lev : nsIn (KF P) mainGlobals "_levenshtein_distance" = some (some (.ref 56)) := by kernel_rfl
theorem g_most : nsIn (KF P) mainGlobals "_law_most" = some (some (.ref 61)) := by kernel_rfl
theorem g_few : nsIn (KF P) mainGlobals "_law_fewest" = some (some (.ref 66)) := by kernel_rfl
theorem g_move : nsIn (KF P) mainGlobals "_MOVE_COST" = some (some (.int 2 1743)) := by kernel_rfl
theorem g_max : nsIn (KF P) mainGlobals "_MAX_STRING_SIZE" = some (some (.int 40 1741)) := by kernel_rfl
theorem n_len : nsIn (KF P) mainGlobals "len" = some none := by kernel_rfl
theorem n_range : nsIn (KF P) mainGlobals "range" = some none := by kernel_rfl
theorem n_max : nsIn (KF P) mainGlobals "max" = some none := by kernel_rfl
theorem n_min : nsIn (KF P) mainGlobals "min" = some none := by kernel_rfl
theorem n_sum : nsIn (KF P) mainGlobals "sum" = some none := by kernel_rfl
theorem n_chr : nsIn (KF P) mainGlobals "chr" = some none := by kernel_rfl
theorem n_ord : nsIn (KF P) mainGlobals "ord" = some none := by kernel_rfl
theorem n_list : nsIn (KF P) mainGlobals "list" = some none := by kernel_rfl
theorem b_len : bootBuiltins "len" = some (.builtin "len") := by boot_by_name
theorem b_range : bootBuiltins "range" = some (.type "range") := by boot_by_name
theorem b_max : bootBuiltins "max" = some (.builtin "max") := by boot_by_name
theorem b_min : bootBuiltins "min" = some (.builtin "min") := by boot_by_name
theorem b_sum : bootBuiltins "sum" = some (.builtin "sum") := by boot_by_name
theorem b_chr : bootBuiltins "chr" = some (.builtin "chr") := by boot_by_name
theorem b_ord : bootBuiltins "ord" = some (.builtin "ord") := by boot_by_name
theorem b_list : bootBuiltins "list" = some (.type "list") := by boot_by_name
end
end Mine

/-! part B3 -/
namespace Mine

def Pl (o : Obj) : Prop := (∀ es n, o.data ≠ .dict es n) ∧ ∀ v, o.data ≠ .cell v
/-- everything but names and cells, and but the addresses listed, stands as it stood -/
def Tr (Ds : List Addr) (h h' : Heap) : Prop := ∀ b o, h.get? b = some o → Pl o → b ∉ Ds → h'.get? b = some o
theorem Tr.refl {Ds : List Addr} {h : Heap} : Tr Ds h h := fun _ _ e _ _ => e
theorem Tr.trans {Ds : List Addr} {h h' h'' : Heap} (a : Tr Ds h h') (b : Tr Ds h' h'') : Tr Ds h h'' := fun x o e p d => b x o (a x o e p d) p d
theorem Tr.of_keep {Ds : List Addr} {h h' : Heap} (k : ∀ b o, h.get? b = some o → h'.get? b = some o) : Tr Ds h h' := fun b o e _ _ => k b o e
theorem Tr.of_ns {Ds : List Addr} {h h' : Heap} {L : Addr} {m : Str → Option Value} (hn : h.Ns L m) (hs : Heap.SameBut L h h') : Tr Ds h h' := fun b o e p _ => by
  obtain ⟨oL, es, ep, hL, hd, _⟩ := hn
  refine hs.extBut b o (fun q => ?_) e
  subst q
  rw [hL] at e; cases e
  exact p.1 _ _ hd
theorem Tr.of_cell {Ds : List Addr} {h h' : Heap} {c : Addr} {v : Option Value} (hn : h.IsCell c v) (hs : Heap.SameBut c h h') : Tr Ds h h' := fun b o e p _ => by
  obtain ⟨oL, hL, hd⟩ := hn
  refine hs.extBut b o (fun q => ?_) e
  subst q
  rw [hL] at e; cases e
  exact p.2 _ hd
theorem Tr.of_at {Ds : List Addr} {h h' : Heap} {c : Addr} (hm : c ∈ Ds) (hs : Heap.SameBut c h h') : Tr Ds h h' := fun b o e _ d =>
  hs.extBut b o (fun q => d (q ▸ hm)) e
theorem Tr.more {Ds Es : List Addr} {h h' : Heap} (t : Tr Ds h h') (hs : ∀ b ∈ Ds, b ∈ Es) : Tr Es h h' := fun b o e p d => t b o e p fun q => d (hs b q)
theorem pl_seq {o : Obj} {xs : Array Value} {n : Nat} (h : o.data = .seq xs n) : Pl o := ⟨fun _ _ e => (by rw [h] at e; cases e), fun _ e => (by rw [h] at e; cases e)⟩
theorem pl_fields {o : Obj} {xs : Array Value} (h : o.data = .fields xs) : Pl o := ⟨fun _ _ e => (by rw [h] at e; cases e), fun _ e => (by rw [h] at e; cases e)⟩
theorem Tr.isList {Ds : List Addr} {h h' : Heap} {a : Addr} {items : Array Value} (t : Tr Ds h h') (x : h.IsList a items) (ha : a ∉ Ds) : h'.IsList a items :=
  let ⟨o, ho, hc, n, hd⟩ := x; ⟨o, t a o ho (pl_seq hd) ha, hc, n, hd⟩
theorem Tr.isTuple {Ds : List Addr} {h h' : Heap} {a : Addr} {items : Array Value} (t : Tr Ds h h') (x : h.IsTuple a items) (ha : a ∉ Ds) : h'.IsTuple a items :=
  let ⟨o, ho, hc, n, hd⟩ := x; ⟨o, t a o ho (pl_seq hd) ha, hc, n, hd⟩
theorem Tr.plain {Ds : List Addr} {h h' : Heap} {a : Addr} {items : Array Value} (t : Tr Ds h h') (x : h.PlainList a items) (ha : a ∉ Ds) : h'.PlainList a items :=
  let ⟨n, ho⟩ := x; ⟨n, t a _ ho (pl_seq rfl) ha⟩

theorem list_ne_ns {h : Heap} {a L : Addr} {items : Array Value} {m : Str → Option Value} (x : h.IsList a items) (y : h.Ns L m) : a ≠ L := fun q => by
  subst q
  obtain ⟨o, ho, _, n, hd⟩ := x
  obtain ⟨o', es, ep, ho', hd', _⟩ := y
  rw [ho] at ho'; cases ho'; rw [hd] at hd'; cases hd'
theorem list_ne_cell {h : Heap} {a c : Addr} {items : Array Value} {v : Option Value} (x : h.IsList a items) (y : h.IsCell c v) : a ≠ c := fun q => by
  subst q
  obtain ⟨o, ho, _, n, hd⟩ := x
  obtain ⟨o', ho', hd'⟩ := y
  rw [ho] at ho'; cases ho'; rw [hd] at hd'; cases hd'
theorem list_ne_iter {h : Heap} {a c l : Addr} {i : Nat} {items : Array Value} (x : h.IsList a items) (y : h.IsListIter c l i) : a ≠ c := fun q => by
  subst q
  obtain ⟨o, ho, hc, n, hd⟩ := x
  obtain ⟨o', ho', hc', hd'⟩ := y
  rw [ho] at ho'; cases ho'; rw [hd] at hd'; cases hd'
theorem list_ne_rng {h : Heap} {a c : Addr} {x y z : Int} {items : Array Value} (p : h.IsList a items) (q : IsRangeIter h c x y z) : a ≠ c := fun e => by
  subst e
  obtain ⟨o, ho, hc, n, hd⟩ := p
  have q' := Option.some.inj (ho.symm.trans q)
  rw [q'] at hd; cases hd

section
variable {M : Model} {w : World} {A : Around} {E : Value → Shared → Prop} {s₀ s s' : Shared} {env : Env} {m cm : Str → Option Value} {n : Str} {v : Value} {Q : Unit → Shared → Prop}
abbrev upd (m : Str → Option Value) (n : Str) (v : Value) : Str → Option Value := fun y => if y = n then some v else m y

theorem ic_keeps {L : Addr} {cs : List (Str × Addr)} (x : InCallC s₀ L m cs cm s) (k : Keeps s s') : InCallC s₀ L m cs cm s' := by
  obtain ⟨h', tk, rfl, e⟩ := k
  obtain ⟨⟨same, ns, keep, fresh⟩, cell, apart, above⟩ := x
  obtain ⟨h₁, tk₁, rfl⟩ := same
  exact ⟨⟨⟨h', tk, rfl⟩, ns.keeps e, fun b o q => e b o (keep b o q), fresh⟩, fun a c q => (cell a c q).keeps e, apart, above⟩
theorem ic_vw (x : InCallC s₀ env.locals m env.cells cm s) (B : Bs w s₀.heap) : Vw w env m cm s.heap :=
  ⟨x.toInCall.ns, x.cell, B.keeps x.toInCall.keep⟩
theorem st_local (x : InCallC s₀ env.locals m env.cells cm s) (h : ∀ s', InCallC s₀ env.locals (upd m n v) env.cells cm s' → Tr [] s.heap s'.heap → Q () s')
    (hl : env.kindOf n = some .local := by rfl) (hk : env.scope.kind = .function := by rfl) : wpAny M A (storeName env n v) Q E s := by
  refine wpAny_storeName_local hl x.toInCall.ns (fun h' hn' hs' => h _ ⟨⟨?_, hn', fun b o e => ?_, x.toInCall.fresh⟩, fun k c hc => ?_, x.apart, x.above⟩ (Tr.of_ns x.toInCall.ns hs')) (by rw [hk]; rfl)
  · obtain ⟨h₁, tk, rfl⟩ := x.toInCall.same
    exact ⟨h', _, rfl⟩
  · exact hs'.extBut b o (Nat.ne_of_lt (Nat.lt_of_lt_of_le (Heap.lt_size e) x.toInCall.fresh)) (x.toInCall.keep b o e)
  · exact (x.cell k c hc).sameBut hs' (Nat.ne_of_gt (x.above k c (mem_of_lookup hc)))
theorem st_cell {c : Addr} (x : InCallC s₀ env.locals m env.cells cm s) (hc : env.cells.lookup n = some c) (h : ∀ s', InCallC s₀ env.locals m env.cells (upd cm n v) s' → Tr [] s.heap s'.heap → Q () s')
    (hl : env.kindOf n = some .cell := by rfl) (hk : env.scope.kind = .function := by rfl) : wpAny M A (storeName env n v) Q E s := by
  have hLc := x.above n c (mem_of_lookup hc)
  refine wpAny_storeName_cell hk hl hc (x.cell n c hc) fun h' hc' hs' => h _ ⟨⟨?_, x.toInCall.ns.sameBut hs' (Nat.ne_of_lt hLc), fun b o e => ?_, x.toInCall.fresh⟩, fun k c' hk' => ?_, x.apart, x.above⟩ (Tr.of_cell (x.cell n c hc) hs')
  · obtain ⟨h₁, tk, rfl⟩ := x.toInCall.same
    exact ⟨h', _, rfl⟩
  · exact hs'.extBut b o (Nat.ne_of_lt (Nat.lt_trans (Nat.lt_of_lt_of_le (Heap.lt_size e) x.toInCall.fresh) hLc)) (x.toInCall.keep b o e)
  · by_cases hkn : k = n
    · subst hkn
      rw [hc] at hk'; cases hk'
      simpa [upd] using hc'
    · show Heap.IsCell h' c' (if k = n then some v else cm k)
      rw [if_neg hkn]
      exact (x.cell k c' hk').sameBut hs' fun e => hkn (name_of_addr x.apart (mem_of_lookup hk') (e ▸ mem_of_lookup hc))
/-- a list of the call's own is changed -/
theorem ic_at {D : Addr} {h' : Heap} {k : Nat} {items : Array Value} (x : InCallC s₀ env.locals m env.cells cm s) (hD : s.heap.IsList D items) (h0 : s₀.heap.get? D = none) (hs : Heap.SameBut D s.heap h') :
    InCallC s₀ env.locals m env.cells cm { s with heap := h', toks := k } := by
  refine ⟨⟨?_, x.toInCall.ns.sameBut hs (Ne.symm (list_ne_ns hD x.toInCall.ns)), fun b o e => ?_, x.toInCall.fresh⟩, fun a c q => (x.cell a c q).sameBut hs (Ne.symm (list_ne_cell hD (x.cell a c q))), x.apart, x.above⟩
  · obtain ⟨h₁, tk, rfl⟩ := x.toInCall.same
    exact ⟨h', _, rfl⟩
  · exact hs.extBut b o (fun q => by rw [q, h0] at e; cases e) (x.toInCall.keep b o e)
end

section
variable {prog : Program} {w : World} {A : Around} {R : Result → Shared → Prop} {s : Shared}
theorem wpAny_no {α : Type} {t : Sem α} {Q : α → Shared → Prop} {E : Value → Shared → Prop} (h : wpAny (model prog w) A t Q (fun _ _ => False) s) : wpAny (model prog w) A t Q E s :=
  wpAny_mono h (fun _ _ x => x) fun _ _ x => x.elim

theorem compLoop_any {elt target iter : Expr} {ifs : List Expr} {scope : Scope} {pos : Pos} {it acc : Value} {env : Env} (I : Nat → Shared → Prop)
    (turn : ∀ n s, I n s → wpAny (model prog w) A (pyNext it) (fun r s₁ => match r with
      | none => R (.ok .next) s₁
      | some v => wpAny (model prog w) A (letOwnedTupleGo target it v) (fun _ s₁' => wpAny (model prog w) A (assign target env v) (fun _ s₂ =>
          wpAny (model prog w) A (forIn ifs true fun c r => if r = true then do let ok ← isTrue c env (eval c env); pure (ForInStep.yield ok) else pure (ForInStep.yield r)) (fun ok s₃ =>
            if ok = true then wpAny (model prog w) A (eval elt env) (fun x s₄ =>
              wpAny (model prog w) A (call (.builtin "list.append") [acc, x]) (fun _ s₅ => ∃ m, m < n ∧ I m s₅) (fun _ _ => False) s₄) (fun _ _ => False) s₃
            else ∃ m, m < n ∧ I m s₃) (fun _ _ => False) s₂) (fun _ _ => False) s₁') (fun _ _ => False) s₁) (fun _ _ => False) s)
    (n : Nat) (h : I n s) :
    codeAny (model prog w) A (.compLoop (.ListComp elt [⟨target, iter, ifs, 0⟩] scope pos) 0 it acc env) R s := by
  refine codeAny_loop rfl I (fun n s hI => ?_) n h
  show wpAny _ A ((compTurn (.ListComp elt [⟨target, iter, ifs, 0⟩] scope pos) 0 it acc env).onRaise (fun x => do noteFrame x env; theTreesLotGoes x)) _ _ s
  refine wpAny_noted ?_
  rw [compTurn_list]
  refine wpAny_no (wpAny_bind (wpAny_standAt (wpAny_bind (wpAny_mono (turn n s hI) (fun r s₁ h₁ => ?_) fun _ _ h' => h'))))
  cases r with
  | none => exact wpAny_pure h₁
  | some v =>
    refine wpAny_bind (wpAny_mono h₁ (fun _ s₁' h₁' => ?_) fun _ _ h' => h')
    refine wpAny_bind (wpAny_mono h₁' (fun _ s₂ h₂ => wpAny_bind (wpAny_mono h₂ (fun ok s₃ h₃ => ?_) fun _ _ h' => h')) fun _ _ h' => h')
    cases ok with
    | false => exact wpAny_pure ⟨rfl, h₃⟩
    | true =>
      exact wpAny_bind (wpAny_bind (wpAny_mono h₃ (fun x s₄ h₄ => wpAny_bind (wpAny_mono h₄ (fun _ s₅ h₅ => wpAny_pure (wpAny_pure ⟨rfl, h₅⟩)) fun _ _ h' => h')) fun _ _ h' => h'))
end
end Mine

/-! part B4 -/
namespace Mine

section
variable {prog : Program} {w : World} {A : Around} {s₂ : Shared}

/-- one turn of a comprehension: the target bound, the tests, the element -/
def CTurn (prog : Program) (w : World) (A : Around) (target elt : Expr) (ifs : List Expr) (cenv : Env) (v : Value) (G : Heap → Value → Option Value → Prop) (s : Shared) : Prop :=
  wpAny (model prog w) A (assign target cenv v) (fun _ s₃ => (∃ m₃, s₃.heap.Ns cenv.locals m₃) ∧ (∃ h tk, s₃ = { s with heap := h, toks := tk } ∧ ∀ b o, b ≠ cenv.locals → s.heap.get? b = some o → h.get? b = some o) ∧
    wpAny (model prog w) A (forIn ifs true fun c r => if r = true then do let ok ← isTrue c cenv (eval c cenv); pure (ForInStep.yield ok) else pure (ForInStep.yield r)) (fun ok s₄ => Keeps s₃ s₄ ∧
      if ok = true then wpAny (model prog w) A (eval elt cenv) (fun y s₅ => Keeps s₄ s₅ ∧ G s₅.heap v (some y)) (fun _ _ => False) s₄ else G s₄.heap v none) (fun _ _ => False) s₃) (fun _ _ => False) s

theorem filterMap_snoc_none {α β : Type} {f : α → Option β} (l : List α) (x : α) (h : f x = none) : (l ++ [x]).filterMap f = l.filterMap f := by simp [h]
theorem filterMap_snoc_some {α β : Type} {f : α → Option β} (l : List α) (x : α) (y : β) (h : f x = some y) : (l ++ [x]).filterMap f = l.filterMap f ++ [y] := by simp [h]
theorem Paired.mono' {α β : Type} {F F' : α → β → Prop} (hm : ∀ a b, F a b → F' a b) : ∀ {l₁ : List α} {l₂ : List β}, Paired F l₁ l₂ → Paired F' l₁ l₂
  | _, _, .nil => .nil
  | _, _, .cons h t => .cons (hm _ _ h) (Paired.mono' hm t)

theorem comp_block {elt iter target : Expr} {ifs : List Expr} {scope : Scope} {cl : List (Str × Addr)} {pos : Pos} {I : Addr} {fp wr : List Addr} {n : Nat} {P : Nat → Value → Prop} {env : Env}
    {St : Nat → Heap → Prop} (W : Walks prog w A I fp wr n P St) (hsz : n ≤ sizeLine) (G : Heap → Value → Option Value → Prop) {RR : Value → Addr → Result → Shared → Prop} {E : Value → Shared → Prop}
    (Gm : ∀ h h' v y, (∀ b o, b ≠ s₂.heap.objs.size → b ≠ s₂.heap.objs.size + 1 → b ∉ wr → h.get? b = some o → h'.get? b = some o) → G h v y → G h' v y)
    (hgo : ∀ i v s (Q : Unit → Shared → Prop) (E : Value → Shared → Prop), P i v → St (i + 1) s.heap → Q () s → wpAny (model prog w) A (letOwnedTupleGo target (.ref I) v) Q E s)
    (hcell : ∀ y ∈ scope.names, y.2 ≠ .cell) (hkind : scope.kind = .function) (hst : St 0 s₂.heap) (hfp : ∀ b ∈ fp, b < s₂.heap.objs.size)
    (turn : ∀ i v s₃ m₃, i < n → P i v → s₃.heap.Ns (s₂.heap.objs.size + 1) m₃ → s₂.heap.objs.size + 2 ≤ s₃.heap.objs.size → (∀ b o, b ∉ wr → s₂.heap.get? b = some o → s₃.heap.get? b = some o) →
      (∃ h tk, s₃ = { s₂ with heap := h, toks := tk }) → CTurn prog w A target elt ifs (compEnvC scope cl (s₂.heap.objs.size + 1) env) v G s₃)
    (hRR : ∀ h' tk m' ys (vs : List Value) (os : List (Option Value)), s₂.heap.get? s₂.heap.objs.size = none → h'.Ns (s₂.heap.objs.size + 1) m' → h'.PlainList s₂.heap.objs.size ys → vs.length = n → (∀ j v, vs[j]? = some v → P j v) →
      Paired (G h') vs os → ys.toList = os.filterMap id →
      (∀ b o, b ∉ wr → s₂.heap.get? b = some o → h'.get? b = some o) → RR (.ref s₂.heap.objs.size) (s₂.heap.objs.size + 1) (.ok .next) { s₂ with heap := h', toks := tk }) :
    wpAny (model prog w) A (newList []) (fun acc s₃ => wpAny (model prog w) A (newFunctionEnv scope env.globals cl [] env.qual none .none (some env)) (fun cenv s₄ =>
      codeAny (model prog w) A (.compStart (.ListComp elt [⟨target, iter, ifs, 0⟩] scope pos) 0 (.ref I) acc { cenv with scope := relabel scope env }) (RR acc cenv.locals) s₄) E s₃) E s₂ := by
  refine wpAny_newObj_type (wpAny_newFunctionEnv hcell (by intro y hy; simp at hy) (fun h₁ hns₁ hsb₁ => ?_) hkind)
  dsimp only at hns₁ hsb₁ ⊢
  generalize hH2 : s₂.heap.push { cls := .type "list", dict := none, data := .seq ([] : List Value).toArray } = H2 at hns₁ hsb₁ ⊢
  have hC : H2.objs.size = s₂.heap.objs.size + 1 := by rw [← hH2, Heap.size_push]
  rw [hC] at hns₁ hsb₁ ⊢
  have hDC : s₂.heap.objs.size ≠ s₂.heap.objs.size + 1 := Nat.ne_of_lt (Nat.lt_succ_self _)
  have below : ∀ b, b < s₂.heap.objs.size → b ≠ s₂.heap.objs.size + 1 ∧ b ≠ s₂.heap.objs.size := fun b hb => ⟨Nat.ne_of_lt (Nat.lt_succ_of_lt hb), Nat.ne_of_lt hb⟩
  have hDf : s₂.heap.objs.size ∉ fp := fun hm => Nat.lt_irrefl _ (hfp _ hm)
  have hCf : s₂.heap.objs.size + 1 ∉ fp := fun hm => Nat.lt_irrefl _ (Nat.lt_of_succ_lt (hfp _ hm))
  have hDw : s₂.heap.objs.size ∉ wr := fun h => hDf (W.sub _ h)
  have hCw : s₂.heap.objs.size + 1 ∉ wr := fun h => hCf (W.sub _ h)
  have old : ∀ b o, s₂.heap.get? b = some o → h₁.get? b = some o := fun b o e => hsb₁.extBut b o (below b (Heap.lt_size e)).1 (Heap.get?_push_of_some _ (hH2 ▸ Heap.get?_push_of_some _ e))
  have hacc : h₁.PlainList s₂.heap.objs.size #[] := ⟨_, hsb₁.extBut _ _ hDC (Heap.get?_push_of_some _ (hH2 ▸ Heap.get?_push_size _ rfl))⟩
  have hst₁ : St 0 h₁ := W.frame _ _ _ hst fun b _ o e => old b o e
  have fresh : s₂.heap.get? s₂.heap.objs.size = none := by
    cases e : s₂.heap.get? s₂.heap.objs.size with
    | none => rfl
    | some o' => exact absurd (Heap.lt_size e) (Nat.lt_irrefl _)
  have loop : ∀ s₃ : Shared, s₃ = { s₂ with heap := h₁, toks := s₂.toks + ([] : List (Str × Value)).length } →
      codeAny (model prog w) A (.compLoop (.ListComp elt [⟨target, iter, ifs, 0⟩] scope pos) 0 (.ref I) (.ref s₂.heap.objs.size) (compEnvC scope cl (s₂.heap.objs.size + 1) env))
        (RR (.ref s₂.heap.objs.size) (s₂.heap.objs.size + 1)) s₃ := by
    rintro s₃ rfl
    refine compLoop_any (fun k s' => ∃ h' tk m' ys, ∃ (vs : List Value) (os : List (Option Value)), s' = { s₂ with heap := h', toks := tk } ∧ St vs.length h' ∧ h'.PlainList s₂.heap.objs.size ys ∧ h'.Ns (s₂.heap.objs.size + 1) m' ∧
      (∀ j v, vs[j]? = some v → P j v) ∧ Paired (G h') vs os ∧ ys.toList = os.filterMap id ∧ vs.length ≤ n ∧ k = n + 1 - vs.length ∧
      (∀ b o, b ∉ wr → s₂.heap.get? b = some o → h'.get? b = some o)) ?_ (n + 1)
      ⟨h₁, _, _, #[], [], [], rfl, hst₁, hacc, hns₁, (by simp), .nil, (by simp), Nat.zero_le _, rfl, fun b o _ e => old b o e⟩
    rintro k s' ⟨H, tk, m', ys, vs, os, rfl, hst', hacc', hn', hP, hF, hys, hi, rfl, hk⟩
    by_cases hlt : vs.length < n
    · refine W.item vs.length _ _ _ hlt hst' fun v H1 tk₁ hPv hst1 hk1 => ?_
      refine hgo vs.length v _ _ _ hPv hst1 ?_
      have hn1 : H1.Ns (s₂.heap.objs.size + 1) m' := hn'.at' fun o e => hk1 _ o hCw e
      have hsize : s₂.heap.objs.size + 2 ≤ H1.objs.size := by
        obtain ⟨oC, _, _, hoC, _⟩ := hn1
        exact Heap.lt_size hoC
      refine wpAny_mono (turn vs.length v { s₂ with heap := H1, toks := tk₁ } m' hlt hPv hn1 hsize (fun b o hb e => hk1 b o hb (hk b o hb e)) ⟨H1, tk₁, rfl⟩) (fun _ s₃ h₃ => ?_) fun _ _ x => x
      obtain ⟨⟨m₃, hn₃⟩, ⟨H3, tk₃, rfl, hk₃⟩, hT⟩ := h₃
      refine wpAny_mono hT (fun ok s₄ h₄ => ?_) fun _ _ x => x
      obtain ⟨⟨H4, tk₄, rfl, hk₄⟩, hok⟩ := h₄
      have hst4 : St (vs.length + 1) H4 := W.frame _ _ _ hst1 fun b hb o e => hk₄ b o (hk₃ b o (fun q => hCf ((show b = s₂.heap.objs.size + 1 from q) ▸ hb)) e)
      have hacc4 : H4.PlainList s₂.heap.objs.size ys := hacc'.at fun o e => hk₄ _ o (hk₃ _ o hDC (hk1 _ o hDw e))
      have up4 : ∀ b o, b ≠ s₂.heap.objs.size + 1 → b ∉ wr → H.get? b = some o → H4.get? b = some o := fun b o hb hw e => hk₄ b o (hk₃ b o hb (hk1 b o hw e))
      have hP' : ∀ j u, (vs ++ [v])[j]? = some u → P j u := fun j u hj => by
        rcases Nat.lt_trichotomy j vs.length with h | h | h
        · exact hP j u (by rwa [List.getElem?_append_left h] at hj)
        · subst h; simp at hj; subst hj; exact hPv
        · have hnone : (vs ++ [v])[j]? = none := List.getElem?_eq_none (by rw [List.length_append, List.length_singleton]; omega)
          rw [hnone] at hj; cases hj
      cases ok with
      | false =>
        simp only [Bool.false_eq_true, if_false] at hok ⊢
        refine ⟨n + 1 - (vs.length + 1), by omega, H4, tk₄, m₃, ys, vs ++ [v], os ++ [none], rfl, by simpa using hst4, hacc4, hn₃.keeps hk₄, hP', ?_, ?_, by simp; omega, by simp, fun b o hb e => up4 b o (below b (Heap.lt_size e)).1 hb (hk b o hb e)⟩
        · exact Paired.snoc (Paired.mono' (fun a b => Gm _ _ a b fun b o _ h2 h3 e => up4 b o h2 h3 e) hF) hok
        · rw [filterMap_snoc_none (f := id) os none rfl]; exact hys
      | true =>
        simp only [if_true] at hok ⊢
        refine wpAny_mono hok (fun y s₅ h₅ => ?_) fun _ _ x => x
        obtain ⟨⟨H5, tk₅, rfl, hk₅⟩, hG⟩ := h₅
        have hysz : ys.size ≤ sizeLine := by
          have e1 := hF.length
          have e2 : (os.filterMap id).length ≤ os.length := List.length_filterMap_le _ _
          have e3 : ys.toList.length = ys.size := by simp
          rw [hys] at e3
          omega
        refine wpAny_list_append_plain (hsz := hysz) (hacc4.at fun o e => hk₅ _ o e) fun H6 hl6 hs6 => ?_
        refine ⟨n + 1 - (vs.length + 1), by omega, H6, tk₅, m₃, ys.push y, vs ++ [v], os ++ [some y], rfl, ?_, hl6, ((hn₃.keeps hk₄).keeps hk₅).sameBut hs6 (Ne.symm hDC), hP', ?_, ?_, by simp; omega, by simp,
          fun b o hb e => hs6.extBut b o (below b (Heap.lt_size e)).2 (hk₅ b o (up4 b o (below b (Heap.lt_size e)).1 hb (hk b o hb e)))⟩
        · have := W.frame _ _ H6 hst4 fun b hb o e => hs6.extBut b o (fun q => hDf (q ▸ hb)) (hk₅ b o e)
          simpa using this
        · refine Paired.snoc (Paired.mono' (fun a b => Gm _ _ a b fun b o h1 h2 h3 e => hs6.extBut b o h1 (hk₅ b o (up4 b o h2 h3 e))) hF) ?_
          exact Gm _ _ _ _ (fun b o h1 _ _ e => hs6.extBut b o h1 e) hG
        · rw [filterMap_snoc_some (f := id) os (some y) y rfl, ← hys]; simp
    · have hin : vs.length = n := by omega
      refine W.done _ _ _ (hin ▸ hst') fun H1 tk₁ hk1 => ?_
      refine hRR H1 tk₁ m' ys vs os fresh (hn'.at' fun o e => hk1 _ o hCw e) (hacc'.at fun o e => hk1 _ o hDw e) hin hP ?_ hys fun b o hb e => hk1 b o hb (hk b o hb e)
      exact Paired.mono' (fun a b => Gm _ _ a b fun b o _ _ h3 e => hk1 b o h3 e) hF
  exact codeAny_compStart_list (loop _ rfl) (W.self 0 _ _ _ hst₁ (loop _ rfl))
end

section
variable {prog : Program} {w : World} {A : Around} {E : Value → Shared → Prop} {env : Env} {s : Shared}
theorem listcomp {elt iter target : Expr} {ifs : List Expr} {scope : Scope} {cl : List (Str × Addr)} {pos : Pos} {Q : Value → Shared → Prop} (G : Shared → Heap → Value → Option Value → Prop)
    (hclos : closureFor scope env = pure cl) (hcell : ∀ y ∈ scope.names, y.2 ≠ .cell) (hkind : scope.kind = .function)
    (hnames : ∀ y ∈ scope.names, y.2 = .local → scope.names.lookup y.1 = some .local)
    (h : wpAny (model prog w) A (eval iter env) (fun xv s₁ => wpAny (model prog w) A (pyIter xv) (fun it s₂ => ∃ I fp wr n P St, it = .ref I ∧ Walks prog w A I fp wr n P St ∧ n ≤ sizeLine ∧ St 0 s₂.heap ∧ (∀ b ∈ fp, b < s₂.heap.objs.size) ∧
      (∀ h h' v y, (∀ b o, b ≠ s₂.heap.objs.size → b ≠ s₂.heap.objs.size + 1 → b ∉ wr → h.get? b = some o → h'.get? b = some o) → G s₂ h v y → G s₂ h' v y) ∧
      (∀ i v s (Q : Unit → Shared → Prop) (E : Value → Shared → Prop), P i v → St (i + 1) s.heap → Q () s → wpAny (model prog w) A (letOwnedTupleGo target (.ref I) v) Q E s) ∧
      (∀ i v s₃ m₃, i < n → P i v → s₃.heap.Ns (s₂.heap.objs.size + 1) m₃ → s₂.heap.objs.size + 2 ≤ s₃.heap.objs.size → (∀ b o, b ∉ wr → s₂.heap.get? b = some o → s₃.heap.get? b = some o) →
        (∃ h tk, s₃ = { s₂ with heap := h, toks := tk }) → CTurn prog w A target elt ifs (compEnvC scope cl (s₂.heap.objs.size + 1) env) v (G s₂) s₃) ∧
      (∀ D h' tk ys (vs : List Value) (os : List (Option Value)), D = s₂.heap.objs.size → s₂.heap.get? D = none → h'.PlainList D ys → vs.length = n → (∀ j v, vs[j]? = some v → P j v) → Paired (G s₂ h') vs os → ys.toList = os.filterMap id →
        (∀ b o, b ∉ wr → s₂.heap.get? b = some o → h'.get? b = some o) → Q (.ref D) { s₂ with heap := h', toks := tk })) E s₁) E s)
    (hs : ∀ x, foldedSetIterable iter env x = pure x := by intro _; rfl) :
    wpAny (model prog w) A (eval (.ListComp elt [⟨target, iter, ifs, 0⟩] scope pos) env) Q E s := by
  rw [eval_ListComp]
  refine wpAny_comprehension_free (use := none) rfl hs hclos hkind hnames (wpAny_mono h (fun xv s₁ h₁ => wpAny_mono h₁ (fun it s₂ h₂ => ?_) fun _ _ e => e) fun _ _ e => e)
  obtain ⟨I, fp, wr, n, P, St, rfl, W, hsz, hst, hfp, Gm, hgo, turn, hQ⟩ := h₂
  refine comp_block (RR := fun acc C => compPost (model prog w) A E none Q acc C) W hsz (G s₂) Gm hgo hcell hkind hst hfp turn ?_
  intro h' tk m' ys vs os hD hn hl hlen hP hF hys hk
  refine ⟨m', hn, fun h'' hs'' => hQ _ h'' tk ys vs os rfl hD (hl.extBut hs''.extBut (Nat.ne_of_lt (Nat.lt_succ_self _))) hlen hP (Paired.mono' (fun a b => Gm _ _ a b fun b o _ h2 _ e => hs''.extBut b o h2 e) hF) hys fun b o hb e => hs''.extBut b o (Nat.ne_of_lt (Nat.lt_succ_of_lt (Heap.lt_size e))) (hk b o hb e)⟩
end
end Mine

/-! part B5 -/
namespace Mine

section
variable {prog : Program} {w : World} {A : Around} {s : Shared} {env : Env}

theorem for_walk {target : Expr} {body : List Stmt} {I : Addr} {fp wr : List Addr} {n : Nat} {P : Nat → Value → Prop} {St : Nat → Heap → Prop} {R : Result → Shared → Prop}
    (W : Walks prog w A I fp wr n P St) (Inv : Nat → Shared → Prop)
    (hgo : ∀ i v s (Q : Unit → Shared → Prop) (E : Value → Shared → Prop), P i v → St (i + 1) s.heap → Q () s → wpAny (model prog w) A (letOwnedTupleGo target (.ref I) v) Q E s)
    (hst : St 0 s.heap) (h0 : Inv 0 s)
    (hnx : ∀ i s h' tk, Inv i s → St i s.heap → (∀ b o, b ∉ wr → s.heap.get? b = some o → h'.get? b = some o) → Inv i { s with heap := h', toks := tk })
    (turn : ∀ i v s, i < n → P i v → Inv i s → St (i + 1) s.heap → wpAny (model prog w) A (assign target env v) (fun _ s₂ => wpAny (model prog w) A (execs body env) (fun f s₃ => match f with
        | .next => Inv (i + 1) s₃ ∧ St (i + 1) s₃.heap
        | .ret v => R (.ok (.ret v)) s₃
        | _ => False) (fun _ _ => False) s₂) (fun _ _ => False) s)
    (done : ∀ s, Inv n s → R (.ok .next) s) :
    codeAny (model prog w) A (.forLoop target (.ref I) body [] env) R s := by
  refine codeAny_forLoop_any (fun k s' => ∃ i, i ≤ n ∧ k = n + 1 - i ∧ Inv i s' ∧ St i s'.heap) ?_ (n + 1) ⟨0, Nat.zero_le _, rfl, h0, hst⟩
  rintro k s' ⟨i, hi, rfl, hI, hS⟩
  by_cases hlt : i < n
  · refine W.item i _ _ _ hlt hS fun v h₁ tk₁ hP hS₁ hk₁ => ?_
    refine hgo i v _ _ _ hP hS₁ (wpAny_no ?_)
    refine wpAny_mono (turn i v { s' with heap := h₁, toks := tk₁ } hlt hP (hnx i s' h₁ tk₁ hI hS hk₁) hS₁) (fun _ s₂ h₂ => wpAny_no ?_) fun _ _ x => x
    refine wpAny_mono h₂ (fun f s₃ h₃ => ?_) fun _ _ x => x
    cases f with
    | next => exact ⟨n + 1 - (i + 1), by omega, i + 1, hlt, rfl, h₃.1, h₃.2⟩
    | cont => exact h₃.elim
    | brk => exact h₃.elim
    | ret v => exact h₃
  · have hin : i = n := by omega
    subst hin
    refine W.done _ _ _ hS fun h₁ tk₁ hk₁ => ?_
    exact wpAny_execs_nil (done _ (hnx i s' h₁ tk₁ hI hS hk₁))

theorem go_name {x : Str} {p : Pos} {I : Addr} {v : Value} {Q : Unit → Shared → Prop} {E : Value → Shared → Prop} (h : Q () s) : wpAny (model prog w) A (letOwnedTupleGo (.Name x p) (.ref I) v) Q E s := wpAny_pure h

/-- range(e): the object and its iterator -/
theorem range_it {m cm : Str → Option Value} {e : Expr} {rp rpos : Pos} {K : Value → Shared → Prop} {E : Value → Shared → Prop} (V : Vw w env m cm s.heap)
    (hx : env.kindOf "range" = some .globalImplicit) (hg : env.globals = mainGlobals) (hb : env.builtins = builtinsNs) (hk : env.scope.kind = .function)
    (h : wpAny (model prog w) A (eval e env) (fun nv s₁ => ∃ (N : Nat) (tN : Tok), nv = .int N tN ∧ N < 2 ^ 62 ∧
      ∀ I s₂, Keeps s₁ s₂ → IsRangeIter s₂.heap I (0 + ((0 : Nat) : Int) * 1) ((N : Int) - ((0 : Nat) : Int)) 1 → s₁.heap.objs.size ≤ I → I < s₂.heap.objs.size → s₁.heap.get? I = none → K (.ref I) s₂) E s)
    (he : starEach [e] env = [(false, eval e env)] := by rfl) :
    wpAny (model prog w) A (eval (.Call (.Name "range" rp) [e] [] rpos) env) (fun xv s₁ => wpAny (model prog w) A (pyIter xv) K E s₁) E s := by
  refine wpAny_Call_NameR (ev_bltn V (n_range _) b_range ?_ (by decide) hx hg hb hk (by decide))
  refine PyProof.Rows.callWith_type1 (wpAny_items_cons (wpAny_mono h (fun nv s₁ h₁ => wpAny_items_nil ?_) fun _ _ e => e) he) he rfl
  obtain ⟨N, tN, rfl, hhi, hK⟩ := h₁
  refine call_range_1 ?_
  refine wpAny_pyIter_range (IsRange.new ..) (small_one (by decide) (by decide) (by omega) (by omega)) ?_
  have hsz : Builtin.Range.rangeSize 0 N 1 = (N : Int) := by rw [rangeSize_one]; split <;> omega
  refine hK _ _ ⟨_, _, rfl, fun _ _ e => Heap.get?_push_of_some _ (Heap.get?_push_of_some _ e)⟩ ?_ ?_ ?_ ?_
  · have e1 : (0 + ((0 : Nat) : Int) * 1) = 0 := by simp
    have e2 : ((N : Int) - ((0 : Nat) : Int)) = Builtin.Range.rangeSize 0 N 1 := by rw [hsz]; simp
    rw [e1, e2]
    exact Heap.get?_push_size _ rfl
  · simp [Heap.size_push]
  · simp [Heap.size_push]
  · cases q : s₁.heap.get? _ with
    | none => rfl
    | some o => have := Heap.lt_size q; simp [Heap.size_push] at this; exact absurd this (Nat.not_lt.mpr (Nat.le_succ _))

theorem ev_len {m cm : Str → Option Value} {e : Expr} {rp rpos : Pos} {Q : Value → Shared → Prop} {E : Value → Shared → Prop} (V : Vw w env m cm s.heap)
    (hx : env.kindOf "len" = some .globalImplicit) (hg : env.globals = mainGlobals) (hb : env.builtins = builtinsNs) (hk : env.scope.kind = .function)
    (h : wpAny (model prog w) A (eval e env) (fun v s₁ => ∃ a items, v = .ref a ∧ s₁.heap.IsList a items ∧ items.size < 2 ^ 62 ∧ ∀ t k, Q (.int items.size t) { s₁ with toks := k }) E s)
    (he : starEach [e] env = [(false, eval e env)] := by rfl) :
    wpAny (model prog w) A (eval (.Call (.Name "len" rp) [e] [] rpos) env) Q E s := by
  refine wpAny_Call_NameR (ev_bltn V (n_len _) b_len ?_ (by decide) hx hg hb hk (by decide))
  refine PyProof.Rows.callWith_builtin1 (wpAny_items_cons (wpAny_mono h (fun nv s₁ h₁ => wpAny_items_nil ?_) fun _ _ e => e) he) he rfl
  obtain ⟨a, items, rfl, hl, hsz, hq⟩ := h₁
  exact PyProof.Rows.len_list hl (by omega) (hq _ _)

/-- a def is called: its frame, with cells -/
theorem call1 {R : Result → Shared → Prop} {name qual : Str} {params : Arguments} {body : List Stmt} {scope : Scope} {dV kV doc pm cdv ct oc : Value} {an od : Option Addr} {osl : Array (Option Value)} {f : Addr} {vals : List Value} {binds : List (Str × Value)}
    (B : Bs w s.heap) (ho : (KF w.params).lookup f = some ⟨oc, od, .func (fnOf name qual params body scope dV kV doc pm an cdv ct), osl⟩) (hcd : codeIn (KF w.params) cdv qual = true) (hroom : A.depth < recursionLimit)
    (hbind : bindArgs (fnOf name qual params body scope dV kV doc pm an cdv ct) ⟨vals, []⟩ = pure binds)
    (hkind : (binds.all fun y => scope.names.lookup y.1 == some .local || scope.names.lookup y.1 == some .cell) = true)
    (h : ∀ L s₁, L = s.heap.objs.size → InCallC s L (bindL (envOfC qual scope L f cdv).kindOf binds fun _ => none) (cellsFrom (L + 1) scope.names []) (bindC (envOfC qual scope L f cdv).kindOf binds fun _ => none) s₁ →
      wpAny (model prog w) (A.deeper (envOfC qual scope L f cdv)) (execs body (envOfC qual scope L f cdv))
        (fun fl s' => R (.ok (.ret (match fl with | .ret v => v | _ => .none))) s') (fun _ _ => False) s₁)
    (hco : scope.isCoroutine = false) (hgen : scope.isGenerator = false) (hk : scope.kind = .function) : codeAny (model prog w) A (.call (.ref f) ⟨vals, []⟩) R s := by
  refine codeAny_call_cells (fd := fnOf name qual params body scope dV kV doc pm an cdv ct) (body := body) (binds := binds) hroom (B.kx _ _ ho) rfl B.nl (codeRec_of B.kx hcd) rfl hbind rfl (kindsX hkind _) (fun s₁ x => ?_) hco hgen hk
  exact wpAny_no (h _ s₁ rfl x)

theorem ev_fn {m cm : Str → Option Value} {g : Str} {f : Addr} {oc : Value} {od : Option Addr} {fd : FuncData} {osl : Array (Option Value)} {e : Expr} {rest : List Expr} {rp rpos : Pos} {Q : Value → Shared → Prop} {E : Value → Shared → Prop} (V : Vw w env m cm s.heap)
    (hn : nsIn (KF w.params) mainGlobals g = some (some (.ref f))) (ho : (KF w.params).lookup f = some ⟨oc, od, .func fd, osl⟩)
    (hx : env.kindOf g = some .globalImplicit) (hg : env.globals = mainGlobals) (hk : env.scope.kind = .function)
    (h : wpAny (model prog w) A (spliced (backTo rpos (starEach (e :: rest) env))) (fun vs s₁ => Keeps s s₁ ∧ wpAny (model prog w) A (call (.ref f) vs) Q E s₁) E s)
    (he : starEach (e :: rest) env = (false, eval e env) :: starEach rest env := by rfl) (hd : (g == ("__debug__" : Str)) = false := by decide) :
    wpAny (model prog w) A (eval (.Call (.Name g rp) (e :: rest) [] rpos) env) Q E s := by
  refine wpAny_Call_NameR (ev_glob V hn ?_ hx hg hk hd)
  exact callWith_def (o := ⟨oc, od, .func fd, osl⟩) (fd := fd) rfl (wpAny_mono h (fun vs s₁ h₁ => ⟨Keeps.get h₁.1 _ _ (V.bs.kx _ _ ho), h₁.2⟩) fun _ _ x => x) he
end
end Mine

/-! part B6 -/
namespace Mine

theorem ints_filter (p : Nat → Bool) : ∀ (off : Nat) (vs : List Value) (os : List (Option Value)), (∀ (j : Nat) (v : Value), vs[j]? = some v → ∃ t, v = Value.int ((off + j : Nat) : Int) t) →
    Paired (fun (v : Value) (y : Option Value) => ∃ (i : Nat) (t : Tok), v = .int (i : Int) t ∧ y = if p i then some v else none) vs os →
    IntsAre (os.filterMap id) (((List.range' off vs.length).filter p).map fun i => ((i : Nat) : Int))
  | _, _, _, _, .nil => by simpa using IntsAre.nil
  | off, v :: vs, y :: os, hv, .cons h t => by
    obtain ⟨i, tk, rfl, rfl⟩ := h
    obtain ⟨t', e⟩ := hv 0 _ rfl
    have hi : i = off := by have := (Value.int.inj e).1; omega
    subst hi
    have ih := ints_filter p (i + 1) vs os (fun j u hj => by
      obtain ⟨t2, e2⟩ := hv (j + 1) u (by simpa using hj)
      exact ⟨t2, by rw [e2]; congr 1; omega⟩) t
    rw [List.length_cons, List.range'_succ, List.filter_cons]
    cases hp : p i with
    | true =>
      simp only [if_true, List.map_cons]
      show IntsAre (Value.int (i : Int) tk :: os.filterMap id) _
      exact .cons _ _ ih
    | false =>
      simp only [Bool.false_eq_true, if_false]
      exact ih

theorem vw_comp {w : World} {env : Env} {m cm m₃ : Str → Option Value} {h h' : Heap} {scope : Scope} {cl : List (Str × Addr)} {C : Addr} (V : Vw w env m cm h) (hcl : ∀ n c, cl.lookup n = some c → env.cells.lookup n = some c)
    (k : ∀ b o, h.get? b = some o → h'.get? b = some o) (hn : h'.Ns C m₃) : Vw w (compEnvC scope cl C env) m₃ cm h' :=
  ⟨hn, fun n c e => (V.cell n c (hcl n c e)).keeps k, V.bs.keeps k⟩

section
variable {prog : Program} {w : World} {A : Around} {s : Shared} {env : Env} {m cm : Str → Option Value}

/-- [x for x in range(e) if test] -/
theorem comp_rng {x : Str} {p1 p2 p3 p4 pos : Pos} {e test : Expr} {N : Nat} {scope : Scope} {cl : List (Str × Addr)} {Q : Value → Shared → Prop} {E : Value → Shared → Prop} (p : Nat → Bool) (hh : A.handled = none)
    (V : Vw w env m cm s.heap) (hN : N ≤ 1000)
    (hx : env.kindOf "range" = some .globalImplicit) (hg : env.globals = mainGlobals) (hb : env.builtins = builtinsNs) (hk : env.scope.kind = .function)
    (hclos : closureFor scope env = pure cl) (hcl : ∀ n c, cl.lookup n = some c → env.cells.lookup n = some c)
    (hcell : ∀ y ∈ scope.names, y.2 ≠ .cell) (hkind : scope.kind = .function)
    (hnames : ∀ y ∈ scope.names, y.2 = .local → scope.names.lookup y.1 = some .local) (hlx : scope.names.lookup x = some .local)
    (he : ∀ (Q : Value → Shared → Prop) E, (∀ t s₁, Keeps s s₁ → Q (.int N t) s₁) → wpAny (model prog w) A (eval e env) Q E s)
    (htest : ∀ (i : Nat) (t : Tok) (C : Addr) (s₃ : Shared) (m₃ : Str → Option Value), i < N → Vw w (compEnvC scope cl C env) m₃ cm s₃.heap → m₃ x = some (.int (i : Int) t) → Keeps s s₃ →
      ∀ (Q : Bool → Shared → Prop), (∀ s₄, Keeps s₃ s₄ → Q (p i) s₄) → wpAny (model prog w) A (isTrue test (compEnvC scope cl C env) (eval test (compEnvC scope cl C env))) Q (fun _ _ => False) s₃)
    (hQ : ∀ D s' ys, Keeps s s' → s'.heap.PlainList D ys → IntsAre ys.toList (((List.range N).filter p).map fun i => ((i : Nat) : Int)) → s.heap.get? D = none → Q (.ref D) s')
    (hst : starEach [e] env = [(false, eval e env)] := by rfl) (hd : (x == ("__debug__" : Str)) = false := by decide) :
    wpAny (model prog w) A (eval (.ListComp (.Name x p1) [⟨.Name x p2, .Call (.Name "range" p3) [e] [] p4, [test], 0⟩] scope pos) env) Q E s := by
  refine listcomp (fun _ _ v y => ∃ (i : Nat) (t : Tok), v = .int (i : Int) t ∧ y = if p i then some v else none) hclos hcell hkind hnames ?_
  refine range_it V hx hg hb hk (he _ _ fun t s₁ k₁ => ⟨N, t, rfl, by omega, fun I s₂ k₂ hI hI1 hI2 hI3 => ?_⟩) hst
  have k₀ : Keeps s s₂ := Keeps.trans k₁ k₂
  have oldI : ∀ b o, s.heap.get? b = some o → b ∉ [I] := fun b o e q => by
    have := List.mem_singleton.mp q; subst this
    have := Keeps.get k₁ _ _ e; rw [hI3] at this; cases this
  refine ⟨I, [I], [I], N, _, _, rfl, Walks.range hh I 0 1 N, by rw [sizeLine_eq]; omega, hI, ?_, ?_, ?_, ?_, ?_⟩
  · intro b hb; rw [List.mem_singleton.mp hb]; exact hI2
  · intro _ _ _ _ _ g; exact g
  · intro i v s Q E _ _ h; exact go_name h
  · rintro i v s₃ m₃ hi ⟨t, rfl⟩ hn hsz hk₃ ⟨h₃, tk₃, rfl⟩
    have ei : (0 + (i : Int) * 1) = ((i : Nat) : Int) := by omega
    rw [ei]
    have k₃ : Keeps s { s₂ with heap := h₃, toks := tk₃ } := by
      obtain ⟨h2, tk2, rfl, e2⟩ := k₀
      exact ⟨h₃, tk₃, rfl, fun b o q => hk₃ b o (oldI b o q) (e2 b o q)⟩
    unfold CTurn
    refine wpAny_assign_Name (wpAny_storeName_local (lookup_relabel_local hlx) hn (fun h₄ hn₄ hs₄ => ?_) (by simp [compEnvC, relabel, hkind]))
    refine ⟨⟨_, hn₄⟩, ⟨h₄, _, rfl, fun b o hb q => hs₄.extBut b o hb q⟩, wpAny_tests_one ?_⟩
    have oldC : ∀ b o, s.heap.get? b = some o → b ≠ s₂.heap.objs.size + 1 := fun b o q => by
      have := Heap.lt_size (Keeps.get k₀ _ _ q)
      exact Nat.ne_of_lt (Nat.lt_succ_of_lt this)
    have k₄ : Keeps s { s₂ with heap := h₄, toks := tk₃ + 1 } := by
      obtain ⟨h3, tk3, e3, e4⟩ := k₃
      obtain ⟨h2, tk2, e2, _⟩ := k₀
      refine ⟨h₄, _, by rw [e2], fun b o q => hs₄.extBut b o (oldC b o q) ?_⟩
      have := e4 b o q
      have e5 : h3 = h₃ := (congrArg Shared.heap e3).symm
      rw [e5] at this; exact this
    refine htest i t _ _ _ hi (vw_comp V hcl (Keeps.get k₄) hn₄) (by simp) k₄ _ fun s₅ k₅ => ⟨k₅, ?_⟩
    cases hp : p i with
    | true =>
      simp only [if_true]
      have V₅ := vw_comp (scope := scope) V hcl (fun b o q => Keeps.get k₅ _ _ (Keeps.get k₄ b o q)) (hn₄.keeps (Keeps.get k₅))
      exact ev_local V₅ (v := .int (i : Int) t) (by simp) ⟨keeps_refl _, i, t, rfl, by rw [hp]; rfl⟩ (lookup_relabel_local hlx) hkind hd
    | false =>
      simp only [Bool.false_eq_true, if_false]
      exact ⟨i, t, rfl, by rw [hp]; rfl⟩
  · intro D h' tk ys vs os hD hfr hl hlen hP hF hys hk'
    refine hQ D _ ys ?_ hl ?_ ?_
    · obtain ⟨h2, tk2, rfl, e2⟩ := k₀
      exact ⟨h', tk, rfl, fun b o q => hk' b o (oldI b o q) (e2 b o q)⟩
    · rw [hys, List.range_eq_range', ← hlen]
      exact ints_filter p 0 vs os (fun j v hj => by obtain ⟨t, e⟩ := hP j v hj; exact ⟨t, by rw [e]; congr 1; omega⟩) hF
    · cases q : s.heap.get? D with
      | none => rfl
      | some o => rw [Keeps.get k₀ _ _ q] at hfr; cases hfr
end
end Mine

/-! part B7 -/
namespace Mine

section
variable {prog : Program} {w : World} {A : Around} {s : Shared} {env : Env} {m cm : Str → Option Value}

/-- a comprehension over a list that stands -/
theorem comp_list0 {target elt iter : Expr} {ifs : List Expr} {pos : Pos} {a : Addr} {items : Array Value} {scope : Scope} {cl : List (Str × Addr)} {Q : Value → Shared → Prop} {E : Value → Shared → Prop}
    (G : Heap → Value → Option Value → Prop) (hh : A.handled = none) (hl : s.heap.IsList a items) (hsz : items.size ≤ 100000)
    (hclos : closureFor scope env = pure cl)
    (hcell : ∀ y ∈ scope.names, y.2 ≠ .cell) (hkind : scope.kind = .function)
    (hnames : ∀ y ∈ scope.names, y.2 = .local → scope.names.lookup y.1 = some .local)
    (hiter : ∀ (Q : Value → Shared → Prop) E, Q (.ref a) s → wpAny (model prog w) A (eval iter env) Q E s)
    (Gm : ∀ h h' v y, (∀ b o, b ≠ s.heap.objs.size → b ≠ s.heap.objs.size + 1 → b ≠ s.heap.objs.size + 2 → h.get? b = some o → h'.get? b = some o) → G h v y → G h' v y)
    (hgo : ∀ i l v s I (Q : Unit → Shared → Prop) (E : Value → Shared → Prop), v ∈ items.toList → s.heap.IsListIter I l i → Q () s → wpAny (model prog w) A (letOwnedTupleGo target (.ref I) v) Q E s)
    (turn : ∀ v s₃ m₃, v ∈ items.toList → s₃.heap.Ns (s.heap.objs.size + 2) m₃ → s.heap.objs.size + 3 ≤ s₃.heap.objs.size → Keeps s s₃ → CTurn prog w A target elt ifs (compEnvC scope cl (s.heap.objs.size + 2) env) v G s₃)
    (hQ : ∀ D s' ys (os : List (Option Value)), D = s.heap.objs.size + 1 → Keeps s s' → s'.heap.PlainList D ys → Paired (G s'.heap) items.toList os → ys.toList = os.filterMap id → s.heap.get? D = none → Q (.ref D) s')
    (hs : ∀ x, foldedSetIterable iter env x = pure x := by intro _; rfl) :
    wpAny (model prog w) A (eval (.ListComp elt [⟨target, iter, ifs, 0⟩] scope pos) env) Q E s := by
  refine listcomp (fun _ => G) hclos hcell hkind hnames ?_ hs
  refine hiter _ _ (wpAny_pyIter_list hl ?_)
  obtain ⟨ol, hol, hol'⟩ := id hl
  have hax : a < s.heap.objs.size := Heap.lt_size hol
  have hne : a ≠ s.heap.objs.size := Nat.ne_of_lt hax
  have hs2 : (s.heap.push { cls := .type "list_iterator", data := .fields #[.ref a, .int 0 0] }).objs.size = s.heap.objs.size + 1 := by rw [Heap.size_push]
  have oldI : ∀ b o, s.heap.get? b = some o → b ∉ [s.heap.objs.size] := fun b o e q => by
    have := List.mem_singleton.mp q; subst this; exact Nat.lt_irrefl _ (Heap.lt_size e)
  refine ⟨s.heap.objs.size, [s.heap.objs.size, a], [s.heap.objs.size], items.size, _, _, rfl, Walks.list hh _ a hne items, by rw [sizeLine_eq]; omega, ⟨⟨_, Heap.get?_push_size _ rfl, rfl, rfl⟩, hl.push _⟩, ?_, ?_, ?_, ?_, ?_⟩
  · intro b hb
    show b < (s.heap.push _).objs.size
    rw [hs2]
    rcases List.mem_cons.mp hb with e | hb
    · rw [e]; exact Nat.lt_succ_self _
    · rw [List.mem_singleton.mp hb]; exact Nat.lt_succ_of_lt hax
  · intro h h' v y k g
    refine Gm h h' v y (fun b o h1 h2 h3 e => k b o ?_ ?_ ?_ e) g
    · show b ≠ (s.heap.push _).objs.size; rw [hs2]; exact h2
    · show b ≠ (s.heap.push _).objs.size + 1; rw [hs2]; exact h3
    · intro q; exact h1 (List.mem_singleton.mp q)
  · intro i v s' Q E hP st hq
    exact hgo (i + 1) a v s' _ Q E (by
      have := Array.mem_of_getElem? hP
      exact Array.mem_toList_iff.mpr this) st.1 hq
  · rintro i v s₃ m₃ hi hP hn hsz3 hk₃ ⟨h₃, tk₃, rfl⟩
    show CTurn prog w A target elt ifs (compEnvC scope cl ((s.heap.push _).objs.size + 1) env) v G _
    have hn' : h₃.Ns ((s.heap.push { cls := .type "list_iterator", data := .fields #[.ref a, .int 0 0] }).objs.size + 1) m₃ := hn
    have hsz3' : (s.heap.push { cls := .type "list_iterator", data := .fields #[.ref a, .int 0 0] }).objs.size + 2 ≤ h₃.objs.size := hsz3
    rw [hs2] at hn' hsz3' ⊢
    refine turn v _ m₃ (Array.mem_toList_iff.mpr (Array.mem_of_getElem? hP)) hn' hsz3' ⟨h₃, tk₃, rfl, fun b o q => hk₃ b o (oldI b o q) (Heap.get?_push_of_some _ q)⟩
  · intro D h' tk ys vs os hD hfr hl' hlen hP hF hys hk'
    have hv : vs = items.toList := by
      apply List.ext_getElem?
      intro j
      by_cases hj : j < vs.length
      · have e1 := hP j vs[j] (List.getElem?_eq_getElem hj)
        rw [List.getElem?_eq_getElem hj, Array.getElem?_toList]; exact e1.symm
      · rw [List.getElem?_eq_none (by omega), List.getElem?_eq_none (by rw [Array.length_toList]; omega)]
    subst hv
    have hD' : D = s.heap.objs.size + 1 := hD.trans hs2
    refine hQ D _ ys os hD' ⟨h', tk, rfl, fun b o q => hk' b o (oldI b o q) (Heap.get?_push_of_some _ q)⟩ hl' hF hys ?_
    cases q : s.heap.get? D with
    | none => rfl
    | some o => exact absurd (Heap.lt_size q) (by rw [hD']; exact Nat.not_lt.mpr (Nat.le_succ _))

/-- the same, bound to one name -/
theorem comp_list {x : Str} {p2 : Pos} {elt iter : Expr} {ifs : List Expr} {pos : Pos} {a : Addr} {items : Array Value} {scope : Scope} {cl : List (Str × Addr)} {Q : Value → Shared → Prop} {E : Value → Shared → Prop}
    (G : Heap → Value → Option Value → Prop) (hh : A.handled = none) (V : Vw w env m cm s.heap) (hl : s.heap.IsList a items) (hsz : items.size ≤ 100000)
    (hclos : closureFor scope env = pure cl) (hcl : ∀ n c, cl.lookup n = some c → env.cells.lookup n = some c)
    (hcell : ∀ y ∈ scope.names, y.2 ≠ .cell) (hkind : scope.kind = .function)
    (hnames : ∀ y ∈ scope.names, y.2 = .local → scope.names.lookup y.1 = some .local) (hlx : scope.names.lookup x = some .local)
    (hiter : ∀ (Q : Value → Shared → Prop) E, Q (.ref a) s → wpAny (model prog w) A (eval iter env) Q E s)
    (Gm : ∀ h h' v y, (∀ b o, b ≠ s.heap.objs.size → b ≠ s.heap.objs.size + 1 → b ≠ s.heap.objs.size + 2 → h.get? b = some o → h'.get? b = some o) → G h v y → G h' v y)
    (turn : ∀ v s₃ m₃ C, C = s.heap.objs.size + 2 → v ∈ items.toList → Vw w (compEnvC scope cl C env) m₃ cm s₃.heap → m₃ x = some v → s.heap.objs.size + 3 ≤ s₃.heap.objs.size → Keeps s s₃ →
      wpAny (model prog w) A (forIn ifs true fun c r => if r = true then do let ok ← isTrue c (compEnvC scope cl C env) (eval c (compEnvC scope cl C env)); pure (ForInStep.yield ok) else pure (ForInStep.yield r)) (fun ok s₄ => Keeps s₃ s₄ ∧
        if ok = true then wpAny (model prog w) A (eval elt (compEnvC scope cl C env)) (fun y s₅ => Keeps s₄ s₅ ∧ G s₅.heap v (some y)) (fun _ _ => False) s₄ else G s₄.heap v none) (fun _ _ => False) s₃)
    (hQ : ∀ D s' ys (os : List (Option Value)), D = s.heap.objs.size + 1 → Keeps s s' → s'.heap.PlainList D ys → Paired (G s'.heap) items.toList os → ys.toList = os.filterMap id → s.heap.get? D = none → Q (.ref D) s')
    (hs : ∀ x, foldedSetIterable iter env x = pure x := by intro _; rfl) :
    wpAny (model prog w) A (eval (.ListComp elt [⟨.Name x p2, iter, ifs, 0⟩] scope pos) env) Q E s := by
  refine comp_list0 G hh hl hsz hclos hcell hkind hnames hiter Gm (fun _ _ _ _ _ _ _ _ _ h => go_name h) ?_ hQ hs
  intro v s₃ m₃ hv hn hsz3 k₃
  unfold CTurn
  refine wpAny_assign_Name (wpAny_storeName_local (lookup_relabel_local hlx) hn (fun h₄ hn₄ hs₄ => ?_) (by simp [compEnvC, relabel, hkind]))
  have oldC : ∀ b o, s.heap.get? b = some o → b ≠ s.heap.objs.size + 2 := fun b o q => Nat.ne_of_lt (Nat.lt_succ_of_lt (Nat.lt_succ_of_lt (Heap.lt_size q)))
  have k₄ : Keeps s { s₃ with heap := h₄, toks := s₃.toks + 1 } := by
    obtain ⟨h3, tk3, rfl, e3⟩ := k₃
    exact ⟨h₄, _, rfl, fun b o q => hs₄.extBut b o (oldC b o q) (e3 b o q)⟩
  have hsz4 : s.heap.objs.size + 3 ≤ h₄.objs.size := by
    obtain ⟨oC, _, _, hoC, _⟩ := hn₄
    exact Heap.lt_size hoC
  exact ⟨⟨_, hn₄⟩, ⟨h₄, _, rfl, fun b o hb q => hs₄.extBut b o hb q⟩, turn v _ _ _ rfl hv (vw_comp V hcl (Keeps.get k₄) hn₄) (by simp) hsz4 k₄⟩
end

def PairAt (h : Heap) (v : Value) (rc : Nat × Nat) : Prop := ∃ T t u, v = .ref T ∧ h.IsTuple T #[.int (rc.1 : Int) t, .int (rc.2 : Int) u]
def IsSq (h : Heap) (a : Addr) (sq : List (Nat × Nat)) : Prop := ∃ items, h.IsList a items ∧ Paired (PairAt h) items.toList sq
theorem IsSq.keeps {h h' : Heap} {a : Addr} {sq : List (Nat × Nat)} (x : IsSq h a sq) (k : ∀ b o, h.get? b = some o → h'.get? b = some o) : IsSq h' a sq :=
  let ⟨items, hl, hp⟩ := x; ⟨items, hl.at fun o e => k _ o e, Paired.mono' (fun _ _ ⟨T, t, u, e, hT⟩ => ⟨T, t, u, e, hT.at fun o e => k _ o e⟩) hp⟩

theorem paired_mem {α β : Type} {F : α → β → Prop} : ∀ {l₁ : List α} {l₂ : List β} {a : α}, Paired F l₁ l₂ → a ∈ l₁ → ∃ b, b ∈ l₂ ∧ F a b
  | _, _, _, .cons h t, hm => by
    rcases List.mem_cons.mp hm with rfl | hm
    · exact ⟨_, .head _, h⟩
    · obtain ⟨b, hb, hf⟩ := paired_mem t hm
      exact ⟨b, .tail _ hb, hf⟩

theorem ints_pairs {h : Heap} (p : Nat → Bool) : ∀ {vs : List Value} {sq : List (Nat × Nat)} {os : List (Option Value)}, Paired (PairAt h) vs sq →
    Paired (fun (v : Value) (y : Option Value) => ∃ (rc : Nat × Nat) (u : Tok), PairAt h v rc ∧ y = if p rc.1 then some (.int (rc.2 : Int) u) else none) vs os →
    IntsAre (os.filterMap id) ((sq.filterMap fun rc => if p rc.1 then some rc.2 else none).map fun i => ((i : Nat) : Int))
  | _, _, _, .nil, .nil => .nil
  | _, rc :: sq, _, .cons hv t, .cons hy t' => by
    obtain ⟨rc', u, hv', rfl⟩ := hy
    have e : rc' = rc := by
      obtain ⟨T, t1, u1, rfl, ⟨o, ho, _, n, hd⟩⟩ := hv
      obtain ⟨T', t2, u2, e, ⟨o', ho', _, n', hd'⟩⟩ := hv'
      cases e
      rw [ho] at ho'; cases ho'
      rw [hd] at hd'
      injection hd' with e1
      injection e1 with e2
      injection e2 with e3 e4
      injection e4 with e5
      injection e3 with e6
      injection e5 with e7
      obtain ⟨a, b⟩ := rc
      obtain ⟨a', b'⟩ := rc'
      simp only at e6 e7
      have e6' : a = a' := by omega
      have e7' : b = b' := by omega
      rw [e6', e7']
    subst e
    have ih := ints_pairs p t t'
    cases hp : p rc'.1 with
    | true =>
      have e1 : ((rc' :: sq).filterMap fun rc => if p rc.1 then some rc.2 else none) = rc'.2 :: (sq.filterMap fun rc => if p rc.1 then some rc.2 else none) := by simp [hp]
      rw [e1, List.map_cons]
      simp only [if_true]
      exact .cons _ _ ih
    | false =>
      have e1 : ((rc' :: sq).filterMap fun rc => if p rc.1 then some rc.2 else none) = (sq.filterMap fun rc => if p rc.1 then some rc.2 else none) := by simp [hp]
      rw [e1]
      simp only [Bool.false_eq_true, if_false]
      exact ih

section
variable {prog : Program} {w : World} {A : Around} {s : Shared} {env : Env} {m cm : Str → Option Value}
/-- [y for x, y in squares if test(x)] -/
theorem comp_pairs {x y : Str} {px py pt pe pos : Pos} {kt : Nat} {iter test : Expr} {a : Addr} {sq : List (Nat × Nat)} {scope : Scope} {cl : List (Str × Addr)} {Q : Value → Shared → Prop} {E : Value → Shared → Prop}
    (p : Nat → Bool) (hh : A.handled = none) (V : Vw w env m cm s.heap) (hl : IsSq s.heap a sq) (hsz : sq.length ≤ 100000) (hxy : x ≠ y)
    (hclos : closureFor scope env = pure cl) (hcl : ∀ n c, cl.lookup n = some c → env.cells.lookup n = some c)
    (hcell : ∀ y ∈ scope.names, y.2 ≠ .cell) (hkind : scope.kind = .function)
    (hnames : ∀ y ∈ scope.names, y.2 = .local → scope.names.lookup y.1 = some .local) (hlx : scope.names.lookup x = some .local) (hly : scope.names.lookup y = some .local)
    (hiter : ∀ (Q : Value → Shared → Prop) E, Q (.ref a) s → wpAny (model prog w) A (eval iter env) Q E s)
    (htest : ∀ (r : Nat) (t : Tok) (C : Addr) (s₃ : Shared) (m₃ : Str → Option Value), Vw w (compEnvC scope cl C env) m₃ cm s₃.heap → m₃ x = some (.int (r : Int) t) → Keeps s s₃ →
      ∀ (Q : Bool → Shared → Prop), (∀ s₄, Keeps s₃ s₄ → Q (p r) s₄) → wpAny (model prog w) A (isTrue test (compEnvC scope cl C env) (eval test (compEnvC scope cl C env))) Q (fun _ _ => False) s₃)
    (hQ : ∀ D s' ys, Keeps s s' → s'.heap.PlainList D ys → IntsAre ys.toList ((sq.filterMap fun rc => if p rc.1 then some rc.2 else none).map fun i => ((i : Nat) : Int)) → s.heap.get? D = none → Q (.ref D) s')
    (hd : (y == ("__debug__" : Str)) = false := by decide) (hs : ∀ x, foldedSetIterable iter env x = pure x := by intro _; rfl) :
    wpAny (model prog w) A (eval (.ListComp (.Name y pe) [⟨.Tuple [.Name x px, .Name y py] kt pt, iter, [test], 0⟩] scope pos) env) Q E s := by
  obtain ⟨items, hL, hP⟩ := hl
  have hlen : items.size = sq.length := by have := hP.length; simpa using this
  refine comp_list0 (fun _ v yv => ∃ (rc : Nat × Nat) (u : Tok), PairAt s.heap v rc ∧ yv = if p rc.1 then some (.int (rc.2 : Int) u) else none) hh hL (by omega) hclos hcell hkind hnames hiter (fun _ _ _ _ _ g => g) ?_ ?_ ?_ hs
  · intro i l v s' I Q E hv hit hq
    obtain ⟨rc, _, T, t, u, rfl, _⟩ := paired_mem hP hv
    exact wpAny_letOwnedTupleGo_listiter hit hq
  · intro v s₃ m₃ hv hn hsz3 k₃
    obtain ⟨rc, _, hrc⟩ := paired_mem hP hv
    obtain ⟨T, t, u, rfl, hT⟩ := id hrc
    unfold CTurn
    refine wpAny_assign_Tuple hh (hT.at fun o e => Keeps.get k₃ _ o e) rfl rfl fun h₄ he₄ => ?_
    have keep4 : ∀ b o, s₃.heap.get? b = some o → h₄.get? b = some o := fun b o e => he₄ b o (Nat.ne_of_lt (Heap.lt_size e)) e
    show wpAny _ A (assignInOrder [assign (.Name x px) _, assign (.Name y py) _] [.int (rc.1 : Int) t, .int (rc.2 : Int) u]) _ _ _
    refine assignInOrder_cons (wpAny_assign_Name (wpAny_storeName_local (lookup_relabel_local hlx) (hn.keeps keep4) (fun h₅ hn₅ hs₅ => ?_) (by simp [compEnvC, relabel, hkind])))
    refine assignInOrder_cons (wpAny_assign_Name (wpAny_storeName_local (lookup_relabel_local hly) hn₅ (fun h₆ hn₆ hs₆ => assignInOrder_nil ?_) (by simp [compEnvC, relabel, hkind])))
    have oldC : ∀ b o, s.heap.get? b = some o → b ≠ s.heap.objs.size + 2 := fun b o q => Nat.ne_of_lt (Nat.lt_succ_of_lt (Nat.lt_succ_of_lt (Heap.lt_size q)))
    refine ⟨⟨_, hn₆⟩, ⟨h₆, _, rfl, fun b o hb q => hs₆.extBut b o hb (hs₅.extBut b o hb (keep4 b o q))⟩, wpAny_tests_one ?_⟩
    have k₆ : Keeps s { s₃ with heap := h₆, toks := s₃.toks + 1 + 1 } := by
      obtain ⟨h3, tk3, rfl, e3⟩ := k₃
      exact ⟨h₆, _, rfl, fun b o q => hs₆.extBut b o (oldC b o q) (hs₅.extBut b o (oldC b o q) (keep4 b o (e3 b o q)))⟩
    refine htest rc.1 t _ _ _ (vw_comp V hcl (Keeps.get k₆) hn₆) (by simp [hxy]) k₆ _ fun s₇ k₇ => ⟨k₇, ?_⟩
    cases hp : p rc.1 with
    | true =>
      simp only [if_true]
      have V₇ := vw_comp (scope := scope) V hcl (fun b o q => Keeps.get k₇ _ _ (Keeps.get k₆ b o q)) (hn₆.keeps (Keeps.get k₇))
      exact ev_local V₇ (v := .int (rc.2 : Int) u) (by simp) ⟨keeps_refl _, rc, u, hrc, by rw [hp]; rfl⟩ (lookup_relabel_local hly) hkind hd
    | false =>
      simp only [Bool.false_eq_true, if_false]
      exact ⟨rc, 0, hrc, by rw [hp]; rfl⟩
  · intro D s' ys os hD k hl' hF hys hfr
    exact hQ D s' ys k hl' (by rw [hys]; exact ints_pairs p hP hF) hfr
end
end Mine

/-! part B8 -/
namespace Mine
section
variable {prog : Program} {w : World} {A : Around} {E : Value → Shared → Prop} {s : Shared} {l : Addr} {items : Array Value} {ns : List Int} {Q : Value → Shared → Prop}
theorem max_ints (hh : A.handled = none) (hl : s.heap.IsList l items) (hi : IntsAre items.toList ns) (hne : 0 < ns.length)
    (h : ∀ M t s', Keeps s s' → M ∈ ns → (∀ a ∈ ns, a ≤ M) → Q (.int M t) s') : wpAny (model prog w) A (call (.builtin "max") [.ref l]) Q E s := by
  have hn : numsOf items.toList = ns := hi.numsOf
  have hall : AllInts items := by simpa using hi.allInts
  have hs : 0 < items.size := by have := hi.length; simp at this; omega
  obtain ⟨xs, rfl⟩ := hall.items
  rw [nums_intItems] at hn
  have hsz : 0 < xs.size := by simpa [intItems] using hs
  refine max_intList hh hl hsz fun v h' tk hv hk => ?_
  obtain ⟨t, rfl⟩ := intItems_at hv
  obtain ⟨h1, h2⟩ := argBest_gt (numAt xs) (xs.size - 1)
  refine h _ t _ ⟨h', tk, rfl, hk⟩ ?_ fun a ha => ?_
  · rw [numAt_eq, ← hn]; exact getD_mem (by rw [List.length_map, Array.length_toList]; omega)
  · rw [← hn] at ha
    obtain ⟨j, hj, rfl⟩ := mem_getD ha
    rw [List.length_map, Array.length_toList] at hj
    rw [← numAt_eq]; exact h2 j (by omega)
theorem min_ints (hh : A.handled = none) (hl : s.heap.IsList l items) (hi : IntsAre items.toList ns) (hne : 0 < ns.length)
    (h : ∀ M t s', Keeps s s' → M ∈ ns → (∀ a ∈ ns, M ≤ a) → Q (.int M t) s') : wpAny (model prog w) A (call (.builtin "min") [.ref l]) Q E s := by
  have hn : numsOf items.toList = ns := hi.numsOf
  have hall : AllInts items := by simpa using hi.allInts
  have hs : 0 < items.size := by have := hi.length; simp at this; omega
  obtain ⟨xs, rfl⟩ := hall.items
  rw [nums_intItems] at hn
  have hsz : 0 < xs.size := by simpa [intItems] using hs
  refine min_intList hh hl hsz fun v h' tk hv hk => ?_
  obtain ⟨t, rfl⟩ := intItems_at hv
  obtain ⟨h1, h2⟩ := argBest_lt (numAt xs) (xs.size - 1)
  refine h _ t _ ⟨h', tk, rfl, hk⟩ ?_ fun a ha => ?_
  · rw [numAt_eq, ← hn]; exact getD_mem (by rw [List.length_map, Array.length_toList]; omega)
  · rw [← hn] at ha
    obtain ⟨j, hj, rfl⟩ := mem_getD ha
    rw [List.length_map, Array.length_toList] at hj
    rw [← numAt_eq]; exact h2 j (by omega)
theorem sum_ints (hh : A.handled = none) (hl : s.heap.IsList l items) (hi : IntsAre items.toList ns)
    (h : ∀ t s', Keeps s s' → Q (.int ns.sum t) s') : wpAny (model prog w) A (call (.builtin "sum") [.ref l]) Q E s := by
  have hn : numsOf items.toList = ns := hi.numsOf
  have hall : AllInts items := by simpa using hi.allInts
  obtain ⟨xs, rfl⟩ := hall.items
  rw [nums_intItems] at hn
  refine sum_intListG hh hl fun h' tk t' hk => ?_
  rw [preSum_eq, List.take_of_length_le (by simp), hn]
  exact h t' _ ⟨h', tk, rfl, hk⟩
/-- «in» a list of ints -/
theorem in_ints {x : Int} {t : Tok} (hl : s.heap.PlainList l items) (hi : IntsAre items.toList ns) (h : Q (.bool (ns.contains x)) s) : wpAny (model prog w) A (compareOp .In (.int x t) (.ref l)) Q E s := by
  obtain ⟨n, hl⟩ := hl
  refine SeqRoads2.in_list (fun y => numOf y == x) (fun y hy => ?_) hl ?_
  · obtain ⟨k, u, rfl⟩ := hi.all y (Array.mem_toList_iff.mpr hy)
    exact MeetsSeq.EqGives.int k x u t
  · have e : items.any (fun y => numOf y == x) = ns.contains x := by
      rw [← hi.nums, ← Array.any_toList]
      induction items.toList with
      | nil => rfl
      | cons a r ih => simp only [List.any_cons, List.map_cons, List.contains_cons, ih]; congr 1; exact Bool.beq_comm
    rw [e]; exact h
theorem notIn_ints {x : Int} {t : Tok} (hl : s.heap.PlainList l items) (hi : IntsAre items.toList ns) (h : Q (.bool (!ns.contains x)) s) : wpAny (model prog w) A (compareOp .NotIn (.int x t) (.ref l)) Q E s := by
  obtain ⟨n, hl⟩ := hl
  refine SeqRoads2.notIn_list (fun y => numOf y == x) (fun y hy => ?_) hl ?_
  · obtain ⟨k, u, rfl⟩ := hi.all y (Array.mem_toList_iff.mpr hy)
    exact MeetsSeq.EqGives.int k x u t
  · have e : items.any (fun y => numOf y == x) = ns.contains x := by
      rw [← hi.nums, ← Array.any_toList]
      induction items.toList with
      | nil => rfl
      | cons a r ih => simp only [List.any_cons, List.map_cons, List.contains_cons, ih]; congr 1; exact Bool.beq_comm
    rw [e]; exact h
theorem ic_but {s₀ : Shared} {L I : Addr} {cs : List (Str × Addr)} {m cm : Str → Option Value} {h' : Heap} {tk : Nat} {o : Obj} (x : InCallC s₀ L m cs cm s) (ho : s.heap.get? I = some o) (hp : Pl o) (h0 : s₀.heap.get? I = none)
    (k : ∀ b o, b ∉ [I] → s.heap.get? b = some o → h'.get? b = some o) : InCallC s₀ L m cs cm { s with heap := h', toks := tk } := by
  obtain ⟨⟨same, ns, keep, fresh⟩, cell, apart, above⟩ := x
  refine ⟨⟨?_, ns.at' fun o' e => k L o' (fun q => ?_) e, fun b o' e => k b o' (fun q => ?_) (keep b o' e), fresh⟩, fun n c hc => ?_, apart, above⟩
  · obtain ⟨h₁, t₁, rfl⟩ := same; exact ⟨h', tk, rfl⟩
  · rw [List.mem_singleton.mp q] at ns
    obtain ⟨oL, es, ep, hL, hd, _⟩ := ns
    rw [ho] at hL; cases hL; exact hp.1 _ _ hd
  · rw [List.mem_singleton.mp q, h0] at e; cases e
  · obtain ⟨oc, hoc, hdc⟩ := cell n c hc
    refine ⟨oc, k c oc (fun q => ?_) hoc, hdc⟩
    rw [List.mem_singleton.mp q, ho] at hoc
    cases hoc; exact hp.2 _ hdc
theorem plain_but {I : Addr} {h h' : Heap} {D : Addr} {xs : Array Value} (x : h.PlainList D xs) (hne : D ≠ I) (k : ∀ b o, b ∉ [I] → h.get? b = some o → h'.get? b = some o) : h'.PlainList D xs :=
  x.at fun o e => k D o (fun q => hne (List.mem_singleton.mp q)) e
theorem pl_rng {x y z : Int} : Pl { cls := .type "range_iterator", dict := none, data := .fields #[rawInt x, rawInt y, rawInt z], slots := #[] } := pl_fields rfl
theorem upd_at {m : Str → Option Value} {x n : Str} {v v' : Value} (h : m x = some v') (hne : x ≠ n := by decide) : upd m n v x = some v' := (if_neg hne).trans h
theorem upd_self {m : Str → Option Value} {n : Str} {v : Value} : upd m n v n = some v := if_pos rfl
theorem hcl_nil {cs : List (Str × Addr)} : ∀ n c, ([] : List (Str × Addr)).lookup n = some c → cs.lookup n = some c := fun _ _ e => by cases e
theorem hcl_cons {cs cl : List (Str × Addr)} {a : Str} {c₀ : Addr} (h : cs.lookup a = some c₀) (r : ∀ n c, cl.lookup n = some c → cs.lookup n = some c) : ∀ n c, ((a, c₀) :: cl).lookup n = some c → cs.lookup n = some c := fun n c e => by
  rw [List.lookup_cons] at e
  cases hb : n == a with
  | true => rw [hb] at e; cases e; rw [eq_of_beq hb]; exact h
  | false => rw [hb] at e; exact r n c e
theorem plainL_of {h : Heap} {a : Addr} {xs : Array Value} (x : h.PlainList a xs) : PlainL h a xs := let ⟨n, e⟩ := x; ⟨_, n, e, rfl, rfl, rfl⟩
end
end Mine

/-! part F1 -/
namespace Mine
def rowsOf (ch : Nat) : List Nat := (List.range 4).filter fun r => ch / 2 ^ r % 2 == 1
def colsOf (sq : List (Nat × Nat)) (ch : Nat) : List Nat := sq.filterMap fun rc => if (!(rowsOf ch).contains rc.1) then some rc.2 else none
def few (sq : List (Nat × Nat)) (ch : Nat) : Nat := (rowsOf ch).length + ((List.range 4).filter fun c => (colsOf sq ch).contains c).length

theorem bit_test : ∀ ch, ch < 16 → ∀ r, r < 4 → ((((ch : Nat) : Int).fdiv (2 ^ ((r : Nat) : Int).toNat)).fmod 2 == 1) = (ch / 2 ^ r % 2 == 1) := by decide
theorem pow4_small : ∀ r, r < 4 → ((2 : Int) ^ ((r : Nat) : Int).toNat).natAbs < 1073741824 := by decide
theorem contains_cast (l : List Nat) (x : Nat) : (l.map fun i => ((i : Nat) : Int)).contains (x : Int) = l.contains x := by
  induction l with
  | nil => rfl
  | cons a r ih =>
    rw [List.map_cons, List.contains_cons, List.contains_cons, ih]
    congr 1
    rw [Bool.eq_iff_iff, beq_iff_eq, beq_iff_eq]
    omega

section
variable {w : World} {A : Around} {s : Shared} {p : Program} {loose : List Str} {mg mb : Str → Option Value}

abbrev fewCells (L : Addr) : List (Str × Addr) := [(Str.ofString "columns", L + 1 + 1 + 1), (Str.ofString "rows", L + 1 + 1), (Str.ofString "choice", L + 1)]
theorem few_spec {aS : Addr} {sq : List (Nat × Nat)} {R : Result → Shared → Prop} (B : Bs w s.heap) (hh : A.handled = none) (hroom : A.depth < recursionLimit) (hS : IsSq s.heap aS sq) (hlen : sq.length ≤ 7)
    (hR : ∀ s' M t, Keeps s s' → M ∈ ((List.range 16).map fun ch => ((few sq ch : Nat) : Int)) → (∀ a ∈ ((List.range 16).map fun ch => ((few sq ch : Nat) : Int)), M ≤ a) → R (.ok (.ret (.int M t))) s') :
    codeAny (model PySem.Challenge.rw_rl0023_01.row.prog w) A (.call (.ref 66) ⟨[.ref aS], []⟩) R s := by
  have X := B.kx
  revert X; k_fill; intro X
  refine' call1 (binds := [(Str.ofString "squares", .ref aS)]) B ?k6 ?k7 hroom ?k9 ?kB ?_ ?c2 ?c3 ?c4; (case k6 => k_is); (case k7 => k_is); (case k9 => exact rfl); (case kB => exact rfl); (case c2 => exact rfl); (case c3 => exact rfl); (case c4 => exact rfl)
  intro L s₁ hL x
  show wpAny _ _ (execs _ (envOfC _ _ _ _ _)) _ _ _
  generalize hA : A.deeper _ = A'
  have hh' : A'.handled = none := by rw [← hA]; exact hh
  obtain ⟨m, cm, x, hm⟩ : ∃ m cm, InCallC s L m (fewCells L) cm s₁ ∧ m (Str.ofString "squares") = some (.ref aS) := ⟨_, _, x, rfl⟩
  -- counts = []
  refine wpAny_execs_cons (wpAny_Assign_Name (wpAny_List (wpAny_items_nil ⟨by decide, ?_⟩)))
  refine st_local (ic_keeps x (keeps_push s₁ _ s₁.toks)) (fun s₂ x₂ tr₂ => ?_)
  show wpAny _ _ _ _ _ _
  generalize hC : s₁.heap.objs.size = aC at *
  have hC0 : s.heap.get? aC = none := by
    cases q : s.heap.get? aC with
    | none => rfl
    | some o => exact absurd (Heap.lt_size (x.toInCall.keep _ _ q)) (by rw [← hC]; exact Nat.lt_irrefl _)
  have pC : s₂.heap.PlainList aC #[] := tr₂.plain (⟨0, by rw [← hC]; exact Heap.get?_push_size _ rfl⟩ : Heap.PlainList _ aC #[]) (by simp)
  -- the loop
  refine wpAny_execs_cons (wpAny_For (range_it (ic_vw x₂ B) rfl rfl rfl rfl (wpAny_Constant_int ⟨16, _, rfl, by decide, fun I s₃ k₃ hI hI1 hI2 hI3 => ?_⟩)))
  have hI0 : s.heap.get? I = none := by
    cases q : s.heap.get? I with
    | none => rfl
    | some o => have := x₂.toInCall.keep _ _ q; rw [show s₂.heap.get? I = none from hI3] at this; cases this
  refine for_walk (Walks.range hh' I 0 1 16) (fun i s' => ∃ m cm, InCallC s L m (fewCells L) cm s' ∧ m (Str.ofString "squares") = some (.ref aS) ∧ m (Str.ofString "counts") = some (.ref aC) ∧ ∃ ys, s'.heap.PlainList aC ys ∧ IntsAre ys.toList ((List.range i).map fun ch => ((few sq ch : Nat) : Int)))
    (fun _ _ _ _ _ _ _ h => go_name h) hI ?_ ?_ ?_ ?_
  · refine ⟨_, _, ic_keeps (ic_keeps x₂ (keeps_tok _ _)) k₃, upd_at hm, upd_self, #[], pC.at fun o e => Keeps.get k₃ _ o e, ?_⟩
    exact .nil
  · rintro i s' h' tk ⟨m, cm, x, h1, h2, ys, hp, hi⟩ st k
    exact ⟨m, cm, ic_but x st pl_rng hI0 k, h1, h2, ys, plain_but hp (list_ne_rng hp.isList st) k, hi⟩
  · rintro i v s₄ hi ⟨t, rfl⟩ ⟨m, cm, x₄, h1, h2, ys, hp, hys⟩ st
    have ei : (0 + (i : Int) * 1) = ((i : Nat) : Int) := by omega
    rw [ei]
    -- choice
    refine wpAny_assign_Name (st_cell (c := L + 1) x₄ rfl (fun s₅ x₅ tr₅ => ?_))
    -- rows
    refine wpAny_execs_cons (wpAny_Assign_Name (comp_rng (N := 4) (cl := [(Str.ofString "choice", L + 1)]) (fun r => i / 2 ^ r % 2 == 1) hh' (ic_vw x₅ B) (by decide) rfl rfl rfl rfl (by with_unfolding_all rfl) ?_ (by decide) rfl (by decide) rfl ?_ ?_ ?_))
    · exact hcl_cons rfl hcl_nil
    · exact fun Q E h => wpAny_Constant_int (h _ _ (keeps_tok _ _))
    · intro r t' C s₆ m₆ hr V hv k Q hq
      refine wpAny_isTrue_Compare1 (wpAny_BinOp (wpAny_BinOp (ev_cell (c := L + 1) V rfl upd_self (wpAny_BinOp (wpAny_Constant_int (ev_local V hv (pow_int (by omega) ?_ (floordiv_int ?_ (wpAny_Constant_int (mod_int' (by decide) (wpAny_Constant_int (eq_int (wpAny_truthy_bool ?_))))) ?_))))))))
      · have : (Builtin.Int.intBits 2 : Int) = 2 := by decide
        rw [this]; omega
      · exact Int.ne_of_gt (Int.pow_pos (by decide))
      · have := hq _ (keeps_tok s₆ (s₆.toks + 1 + 1 + 1 + 1 + 1 + 1))
        rw [bit_test i hi r hr]
        exact this
      · exact Or.inl (PyProof.noPylong_small (pow4_small r hr))
    · intro aR s₆ yr k₆ hR6 hir hR0
      refine st_cell (c := L + 1 + 1) (ic_keeps x₅ k₆) rfl (fun s₇ x₇ tr₇ => ?_)
      show wpAny _ _ _ _ _ _
      have pR : s₇.heap.PlainList aR yr := tr₇.plain hR6 (by simp)
      have hir' : IntsAre yr.toList ((rowsOf i).map fun i => ((i : Nat) : Int)) := hir
      -- columns
      refine wpAny_execs_cons (wpAny_Assign_Name (comp_pairs (a := aS) (sq := sq) (cl := [(Str.ofString "rows", L + 1 + 1)]) (fun r => !(rowsOf i).contains r) hh' (ic_vw x₇ B) (hS.keeps x₇.toInCall.keep) (by omega) (by decide) (by with_unfolding_all rfl) ?_ (by decide) rfl (by decide) rfl rfl ?_ ?_ ?_))
      · exact hcl_cons rfl hcl_nil
      · exact fun Q E h => ev_local (ic_vw x₇ B) h1 h
      · intro r t' C s₈ m₈ V hv k Q hq
        refine wpAny_isTrue_Compare1 (ev_local V hv (ev_cell (c := L + 1 + 1) V rfl upd_self (notIn_ints (pR.at fun o e => Keeps.get k _ o e) hir' (wpAny_truthy_bool ?_))))
        rw [contains_cast]
        exact hq _ (keeps_refl _)
      · intro aK s₈ yk k₈ hK8 hik hK0
        refine st_cell (c := L + 1 + 1 + 1) (ic_keeps x₇ k₈) rfl (fun s₉ x₉ tr₉ => ?_)
        show wpAny _ _ _ _ _ _
        have pK : s₉.heap.PlainList aK yk := tr₉.plain hK8 (by simp)
        have pR9 : s₉.heap.PlainList aR yr := tr₉.plain (pR.at fun o e => Keeps.get k₈ _ o e) (by simp)
        have hik' : IntsAre yk.toList ((colsOf sq i).map fun i => ((i : Nat) : Int)) := hik
        have pC9 : s₉.heap.PlainList aC ys := tr₉.plain ((tr₇.plain ((tr₅.plain hp (by simp)).at fun o e => Keeps.get k₆ _ o e) (by simp)).at fun o e => Keeps.get k₈ _ o e) (by simp)
        have hcC : m (Str.ofString "counts") = some (.ref aC) := h2
        have trT : Tr [aC] s₄.heap s₉.heap := (tr₅.more (by simp)).trans ((Tr.of_keep (Keeps.get k₆)).trans ((tr₇.more (by simp)).trans ((Tr.of_keep (Keeps.get k₈)).trans (tr₉.more (by simp)))))
        -- counts.append(..)
        refine wpAny_execs_cons (wpAny_Expr (wpAny_Call_append (by with_unfolding_all rfl) (by with_unfolding_all rfl) (by decide) (by with_unfolding_all rfl) (ev_local (ic_vw x₉ B) hcC ⟨aC, ys, rfl, plainL_of pC9, ?_⟩)))
        refine wpAny_BinOp (ev_len (ic_vw x₉ B) rfl rfl rfl rfl (ev_cell (c := L + 1 + 1) (ic_vw x₉ B) rfl ?_ ⟨aR, yr, rfl, pR9.isList, ?_, fun t' k' => ?_⟩))
        · exact upd_at upd_self
        · have e1 := hir'.length
          have e2 : (rowsOf i).length ≤ 4 := Nat.le_trans (List.length_filter_le _ _) (by simp)
          rw [List.length_map, Array.length_toList] at e1; omega
        have V10 := ic_vw (ic_keeps x₉ (keeps_tok s₉ k')) B
        refine ev_len V10 rfl rfl rfl rfl (comp_rng (N := 4) (cl := [(Str.ofString "columns", L + 1 + 1 + 1)]) (fun c => (colsOf sq i).contains c) hh' V10 (by decide) rfl rfl rfl rfl (by with_unfolding_all rfl) ?_ (by decide) rfl (by decide) rfl ?_ ?_ ?_)
        · exact hcl_cons rfl hcl_nil
        · exact fun Q E h => wpAny_Constant_int (h _ _ (keeps_tok _ _))
        · intro c t' C s' m' hc V hv k Q hq
          refine wpAny_isTrue_Compare1 (ev_local V hv (ev_cell (c := L + 1 + 1 + 1) V rfl upd_self (in_ints (pK.at fun o e => Keeps.get k _ o e) hik' (wpAny_truthy_bool ?_))))
          rw [contains_cast]
          exact hq _ (keeps_refl _)
        · intro aN s' yn k₁₀ hN' hin hN0
          have e1 := hir'.length
          have e3 := hin.length
          have e2 : (rowsOf i).length ≤ 4 := Nat.le_trans (List.length_filter_le _ _) (by simp)
          have e4 : ((List.range 4).filter fun c => (colsOf sq i).contains c).length ≤ 4 := Nat.le_trans (List.length_filter_le _ _) (by simp)
          rw [List.length_map, Array.length_toList] at e1 e3
          refine ⟨aN, yn, rfl, hN'.isList, by omega, fun t'' k'' => ?_⟩
          refine add_int ?_
          have pC' : s'.heap.PlainList aC ys := pC9.at fun o e => Keeps.get k₁₀ _ o e
          have e5 := hys.length
          rw [List.length_map, Array.length_toList, List.length_range] at e5
          refine wpAny_list_append_plain (hsz := by rw [sizeLine_eq]; omega) pC' fun h'' hl'' hs'' => wpAny_execs_nil ⟨⟨m, _, ic_at (ic_keeps (ic_keeps x₉ (keeps_tok s₉ k')) k₁₀) pC'.isList hC0 hs'', h1, h2, _, hl'', ?_⟩, ?_⟩
          · rw [Array.toList_push, List.range_succ, List.map_append]
            refine IntsAre.append hys ?_
            rw [e1, e3]
            exact .cons _ _ .nil
          · have hne : I ≠ aC := Ne.symm (list_ne_rng hp.isList st)
            exact hs''.extBut I _ hne (Keeps.get k₁₀ _ _ (trT I _ st pl_rng (by simpa using hne)))
  · rintro s₄ ⟨m, cm, x₄, h1, h2, ys, hp, hys⟩
    show wpAny _ _ _ _ _ _
    refine wpAny_execs_cons (wpAny_Return_some (wpAny_Call_NameR (ev_bltn (ic_vw x₄ B) (n_min _) b_min ?_)))
    refine PyProof.Rows.callWith_builtin1 (wpAny_items_cons (ev_local (ic_vw x₄ B) h2 (wpAny_items_nil (min_ints hh' hp.isList hys (by simp) fun M t s' k hM hmin => ?_))))
    obtain ⟨h', tk, e, kk⟩ := (ic_keeps x₄ k).done
    exact hR s' M t ⟨h', tk, e, kk⟩ hM hmin
end
end Mine

/-! part M1 -/
namespace Mine

/-- the codes of the sixteen figures -/
def Hex (c : Nat) : Prop := c ∈ [48, 49, 50, 51, 52, 53, 54, 55, 56, 57, 65, 66, 67, 68, 69, 70]
def farP (pg : List (Nat × Nat)) (i k : Nat) : Bool := match pg[i]?, pg[k]? with
  | some a, some b => a.1 != b.1 && a.2 != b.2
  | _, _ => false
def farL (f : Nat → Nat → Bool) (k : Nat) : List Nat := (List.range k).filter fun i => f i k
def okB (f : Nat → Nat → Bool) (k : Nat) (p : List Nat) : Bool := (p.filter fun i => !(farL f k).contains i).length == 0
def stepP (f : Nat → Nat → Bool) (pk : List (List Nat)) (k : Nat) : List (List Nat) := pk ++ (pk.filter (okB f k)).map fun p => p ++ [k]
def picksP (f : Nat → Nat → Bool) (n : Nat) : List (List Nat) := (List.range n).foldl (stepP f) [[]]

/-- what is wanted of the distance -/
def LevOk (w : World) : Prop := ∀ (A : Around) (s : Shared) (c1 c2 d1 d2 : Nat) (t u v : Tok) (R : Result → Shared → Prop), Bs w s.heap → A.handled = none → A.depth + 10 < recursionLimit → Hex c1 → Hex c2 → Hex d1 → Hex d2 →
  (∀ s' k t', Keeps s s' → ((k == 4) = (c1 != d1 && c2 != d2)) → R (.ok (.ret (.int k t'))) s') →
  codeAny (model PySem.Challenge.rw_rl0023_01.row.prog w) A (.call (.ref 56) ⟨[.str ⟨#[61, c1, c2]⟩ t, .str ⟨#[61, d1, d2]⟩ u, .int 4 v], []⟩) R s

def PageAt (v : Value) (c : Nat × Nat) : Prop := ∃ t, v = .str ⟨#[61, c.1, c.2]⟩ t
def PickAt (h : Heap) (v : Value) (p : List Nat) : Prop := ∃ T xs, v = .ref T ∧ h.PlainList T xs ∧ IntsAre xs.toList (p.map fun i => ((i : Nat) : Int))
def IsPk (h : Heap) (a : Addr) (pk : List (List Nat)) : Prop := ∃ items, h.PlainList a items ∧ Paired (PickAt h) items.toList pk
theorem PickAt.keeps {h h' : Heap} {v : Value} {p : List Nat} (x : PickAt h v p) (k : ∀ b o, h.get? b = some o → h'.get? b = some o) : PickAt h' v p :=
  let ⟨T, xs, e, hl, hi⟩ := x; ⟨T, xs, e, hl.at fun o e => k _ o e, hi⟩
theorem IsPk.keeps {h h' : Heap} {a : Addr} {pk : List (List Nat)} (x : IsPk h a pk) (k : ∀ b o, h.get? b = some o → h'.get? b = some o) : IsPk h' a pk :=
  let ⟨items, hl, hp⟩ := x; ⟨items, hl.at fun o e => k _ o e, Paired.mono' (fun _ _ q => q.keeps k) hp⟩
theorem IsPk.tr {h h' : Heap} {a : Addr} {pk : List (List Nat)} (x : IsPk h a pk) (t : Tr [] h h') : IsPk h' a pk :=
  let ⟨items, hl, hp⟩ := x; ⟨items, t.plain hl (by simp), Paired.mono' (fun _ _ ⟨T, xs, e, hT, hi⟩ => ⟨T, xs, e, t.plain hT (by simp), hi⟩) hp⟩
theorem IsPk.but {h h' : Heap} {a I : Addr} {x y z : Int} {pk : List (List Nat)} (p : IsPk h a pk) (hr : IsRangeIter h I x y z) (k : ∀ b o, b ∉ [I] → h.get? b = some o → h'.get? b = some o) : IsPk h' a pk :=
  let ⟨items, hl, hp⟩ := p; ⟨items, plain_but hl (list_ne_rng hl.isList hr) k, Paired.mono' (fun _ _ ⟨T, xs, e, hT, hi⟩ => ⟨T, xs, e, plain_but hT (list_ne_rng hT.isList hr) k, hi⟩) hp⟩

theorem Paired.append' {α β : Type} {F : α → β → Prop} : ∀ {l₁ : List α} {l₂ : List β} {m₁ : List α} {m₂ : List β}, Paired F l₁ l₂ → Paired F m₁ m₂ → Paired F (l₁ ++ m₁) (l₂ ++ m₂)
  | _, _, _, _, .nil, h => h
  | _, _, _, _, .cons h t, h' => .cons h (Paired.append' t h')
theorem Paired.at' {α β : Type} {F : α → β → Prop} : ∀ {l₁ : List α} {l₂ : List β} {i : Nat} {b : β}, Paired F l₁ l₂ → l₂[i]? = some b → ∃ a, l₁[i]? = some a ∧ F a b
  | _, _, 0, _, .cons h t, e => by simp at e; subst e; exact ⟨_, rfl, h⟩
  | _, _, i + 1, _, .cons h t, e => by
    obtain ⟨a, h1, h2⟩ := Paired.at' t (by simpa using e)
    exact ⟨a, by simpa using h1, h2⟩
  | _, _, i, _, .nil, e => by simp at e

section
variable {prog : Program} {w : World} {A : Around} {E : Value → Shared → Prop} {s : Shared} {l b : Addr} {items : Array Value} {Q : Value → Shared → Prop}
theorem eq_nil (hu : A.units < cLine) (hl : s.heap.IsList l items) (hb : s.heap.IsList b #[]) (h : Q (.bool (items.size == 0)) s) : wpAny (model prog w) A (compareOp .Eq (.ref l) (.ref b)) Q E s := by
  by_cases hs : items.size = 0
  · refine SeqAt.eq_listAt (e := fun _ => true) hl hb (by simpa using hs) hu (fun j h1 h2 => absurd h2 (by simp)) ?_
    rw [hs] at h ⊢; exact h
  · refine SeqAt.eq_list_lengthsAt hl hb (by simpa using hs) hu ?_
    have : (items.size == 0) = false := by simpa using hs
    rw [this] at h; exact h
end

theorem ints_filter_list (q : Nat → Bool) : ∀ {vs : List Value} {p : List Nat} {os : List (Option Value)}, IntsAre vs (p.map fun i => ((i : Nat) : Int)) →
    Paired (fun (v : Value) (y : Option Value) => ∃ (i : Nat) (t : Tok), v = .int (i : Int) t ∧ y = if q i then some v else none) vs os →
    IntsAre (os.filterMap id) ((p.filter q).map fun i => ((i : Nat) : Int))
  | _, [], _, hi, hp => by cases hi; cases hp; exact .nil
  | _, i :: p, _, hi, hp => by
    rw [List.map_cons] at hi
    obtain ⟨t, vs', rfl, hi'⟩ := hi.cons_inv
    cases hp with
    | cons h t' =>
      obtain ⟨j, tk, e, rfl⟩ := h
      have ej : j = i := by have := (Value.int.inj e).1; omega
      subst ej
      have ih := ints_filter_list q hi' t'
      rw [List.filter_cons]
      cases hq : q j with
      | true =>
        simp only [if_true, List.map_cons]
        exact .cons _ _ ih
      | false =>
        simp only [Bool.false_eq_true, if_false]
        exact ih

/-- what one turn over picks leaves -/
def TurnAt (s : Shared) (f : Nat → Nat → Bool) (k : Nat) (h : Heap) (v : Value) (y : Option Value) : Prop :=
  ∃ p, PickAt s.heap v p ∧ if okB f k p = true then ∃ T xs, y = some (.ref T) ∧ s.heap.objs.size + 3 ≤ T ∧ h.PlainList T xs ∧ IntsAre xs.toList ((p ++ [k]).map fun i => ((i : Nat) : Int)) else y = none

theorem ints_inj : ∀ {vs : List Value} {p q : List Nat}, IntsAre vs (p.map fun i => ((i : Nat) : Int)) → IntsAre vs (q.map fun i => ((i : Nat) : Int)) → p = q
  | _, [], [], _, _ => rfl
  | _, [], _ :: _, h, h' => by cases h; cases h'
  | _, _ :: _, [], h, h' => by cases h'; cases h
  | _, a :: p, b :: q, h, h' => by
    rw [List.map_cons] at h h'
    obtain ⟨t, vs', rfl, h2⟩ := h.cons_inv
    obtain ⟨t', vs'', e, h2'⟩ := h'.cons_inv
    injection e with e1 e2
    subst e2
    have := (Value.int.inj e1).1
    have e3 : a = b := by omega
    rw [e3, ints_inj h2 h2']
theorem PickAt.inj {h : Heap} {v : Value} {p q : List Nat} (x : PickAt h v p) (y : PickAt h v q) : p = q := by
  obtain ⟨T, xs, rfl, ⟨n, hl⟩, hi⟩ := x
  obtain ⟨T', xs', e, ⟨n', hl'⟩, hi'⟩ := y
  cases e
  rw [hl] at hl'; cases hl'
  exact ints_inj hi hi'
theorem turns_picks {s : Shared} {f : Nat → Nat → Bool} {k : Nat} {h : Heap} : ∀ {vs : List Value} {pk : List (List Nat)} {os : List (Option Value)}, Paired (PickAt s.heap) vs pk → Paired (TurnAt s f k h) vs os →
    Paired (PickAt h) (os.filterMap id) ((pk.filter (okB f k)).map fun p => p ++ [k])
  | _, _, _, .nil, .nil => .nil
  | _, p :: pk, _, .cons hv t, .cons hy t' => by
    obtain ⟨p', hp', hy⟩ := hy
    have := hv.inj hp'
    subst this
    have ih := turns_picks t t'
    cases hok : okB f k p with
    | true =>
      rw [if_pos hok] at hy
      obtain ⟨T, xs, rfl, _, hl, hi⟩ := hy
      rw [List.filter_cons, if_pos hok, List.map_cons]
      exact .cons ⟨T, xs, rfl, hl, hi⟩ ih
    | false =>
      rw [if_neg (by rw [hok]; decide)] at hy
      subst hy
      rw [List.filter_cons, if_neg (by rw [hok]; decide)]
      exact ih
theorem lens_picks {h : Heap} : ∀ {vs : List Value} {pk : List (List Nat)} {os : List (Option Value)}, Paired (PickAt h) vs pk →
    Paired (fun (v : Value) (y : Option Value) => ∃ p t, PickAt h v p ∧ y = some (.int ((p.length : Nat) : Int) t)) vs os → IntsAre (os.filterMap id) (pk.map fun p => ((p.length : Nat) : Int))
  | _, _, _, .nil, .nil => .nil
  | _, p :: pk, _, .cons hv t, .cons hy t' => by
    obtain ⟨p', tk, hp', rfl⟩ := hy
    have := hv.inj hp'
    subst this
    exact .cons _ _ (lens_picks t t')
theorem picks_succ (f : Nat → Nat → Bool) (n : Nat) : picksP f (n + 1) = stepP f (picksP f n) n := by
  unfold picksP; rw [List.range_succ, List.foldl_append]; rfl
theorem picks_mem (f : Nat → Nat → Bool) (n : Nat) : ∀ p ∈ picksP f n, p.length ≤ n := by
  induction n with
  | zero => intro p hp; cases hp with
    | head => exact Nat.le_refl _
    | tail _ h => cases h
  | succ n ih =>
    intro p hp
    rw [picks_succ] at hp
    rcases List.mem_append.mp hp with h | h
    · exact Nat.le_succ_of_le (ih p h)
    · obtain ⟨q, hq, rfl⟩ := List.mem_map.mp h
      have := ih q (List.mem_filter.mp hq).1
      rw [List.length_append]; simpa using this
theorem picks_len (f : Nat → Nat → Bool) (n : Nat) : (picksP f n).length ≤ 2 ^ n := by
  induction n with
  | zero => exact Nat.le_refl _
  | succ n ih =>
    rw [picks_succ]
    have := List.length_filter_le (okB f n) (picksP f n)
    have e : (stepP f (picksP f n) n).length = (picksP f n).length + ((picksP f n).filter (okB f n)).length := by
      show List.length (_ ++ _) = _
      rw [List.length_append, List.length_map]
    rw [Nat.pow_succ]; omega
end Mine

/-! part B9 -/
namespace Mine
section
variable {prog : Program} {w : World} {A : Around} {E : Value → Shared → Prop} {s s₀ : Shared} {env : Env} {m cm : Str → Option Value}
/-- y = [elt for x in iter if ..], stored into a local before the comprehension's own name goes -/
theorem assign_comp {x y : Str} {py p2 pos spos : Pos} {elt iter : Expr} {ifs : List Expr} {scope : Scope} {cl : List (Str × Addr)} {Q : Flow → Shared → Prop}
    (hh : A.handled = none)
    (hsw : swapsWith (.ListComp elt [⟨.Name x p2, iter, ifs, 0⟩] scope pos) (some (.Name y py)) spos.line env = pure true)
    (hclos : closureFor scope env = pure cl) (hcl : ∀ n c, cl.lookup n = some c → env.cells.lookup n = some c)
    (hcell : ∀ y ∈ scope.names, y.2 ≠ .cell) (hkind : scope.kind = .function)
    (hnames : ∀ y ∈ scope.names, y.2 = .local → scope.names.lookup y.1 = some .local) (hlx : scope.names.lookup x = some .local)
    (hly : env.kindOf y = some .local) (hk : env.scope.kind = .function) (B : Bs w s₀.heap) (_x : InCallC s₀ env.locals m env.cells cm s)
    (h : wpAny (model prog w) A (eval iter env) (fun xv s₁ => ∃ (G : Heap → Value → Option Value → Prop), ∃ a items, xv = .ref a ∧ InCallC s₀ env.locals m env.cells cm s₁ ∧ s₁.heap.IsList a items ∧ items.size ≤ 100000 ∧
      (∀ h h' v y, (∀ b o, s₁.heap.objs.size + 3 ≤ b → h.get? b = some o → h'.get? b = some o) → G h v y → G h' v y) ∧
      (∀ v s₃ m₃ C, C = s₁.heap.objs.size + 2 → v ∈ items.toList → Vw w (compEnvC scope cl C env) m₃ cm s₃.heap → m₃ x = some v → Keeps s₁ s₃ →
        wpAny (model prog w) A (forIn ifs true fun c r => if r = true then do let ok ← isTrue c (compEnvC scope cl C env) (eval c (compEnvC scope cl C env)); pure (ForInStep.yield ok) else pure (ForInStep.yield r)) (fun ok s₄ => Keeps s₃ s₄ ∧
          if ok = true then wpAny (model prog w) A (eval elt (compEnvC scope cl C env)) (fun y s₅ => Keeps s₄ s₅ ∧ G s₅.heap v (some y)) (fun _ _ => False) s₄ else G s₄.heap v none) (fun _ _ => False) s₃) ∧
      (∀ D s' ys (os : List (Option Value)), InCallC s₀ env.locals (upd m y (.ref D)) env.cells cm s' → s'.heap.PlainList D ys → Paired (G s'.heap) items.toList os → ys.toList = os.filterMap id → Q .next s')) E s)
    (hs : ∀ x, foldedSetIterable iter env x = pure x := by intro _; rfl) :
    wpAny (model prog w) A (exec (.Assign [.Name y py] (.ListComp elt [⟨.Name x p2, iter, ifs, 0⟩] scope pos) spos) env) Q E s := by
  rw [exec_Assign_Name_used _ _ _ _ hsw]
  refine wpAny_bind (wpAny_standAt (wpAny_bind ?_))
  show wpAny _ A (do let _ ← comprehension (.ListComp elt [⟨.Name x p2, iter, ifs, 0⟩] scope pos) scope env _ (newList []) false (eval iter env) (some (assign (.Name y py) env))) _ _ s
  refine wpAny_bind (wpAny_mono (wpAny_comprehension_free (use := some (assign (.Name y py) env)) (Q := fun _ s' => Q .next s') rfl hs hclos hkind hnames
    (wpAny_mono h (fun xv s₁ h₁ => ?_) fun _ _ e => e)) (fun _ s' hq => wpAny_pure (wpAny_pure hq)) fun _ _ e => e)
  obtain ⟨G, a, items, rfl, x₁, hl, hsz, Gm, turn, hQ⟩ := h₁
  refine wpAny_pyIter_list hl ?_
  obtain ⟨ol, hol, hol'⟩ := id hl
  have hax : a < s₁.heap.objs.size := Heap.lt_size hol
  have hne : a ≠ s₁.heap.objs.size := Nat.ne_of_lt hax
  have hs2 : (s₁.heap.push { cls := .type "list_iterator", data := .fields #[.ref a, .int 0 0] }).objs.size = s₁.heap.objs.size + 1 := by rw [Heap.size_push]
  have oldI : ∀ b o, s₁.heap.get? b = some o → b ∉ [s₁.heap.objs.size] := fun b o e q => by
    have := List.mem_singleton.mp q; subst this; exact Nat.lt_irrefl _ (Heap.lt_size e)
  have V := ic_vw x₁ B
  have big : ∀ b : Nat, s₁.heap.objs.size + 3 ≤ b → b ≠ (s₁.heap.push { cls := .type "list_iterator", data := .fields #[.ref a, .int 0 0] }).objs.size ∧ b ≠ (s₁.heap.push { cls := .type "list_iterator", data := .fields #[.ref a, .int 0 0] }).objs.size + 1 ∧ b ∉ [s₁.heap.objs.size] := fun b hb => by
    rw [hs2]
    refine ⟨by omega, by omega, fun q => ?_⟩
    have := List.mem_singleton.mp q; omega
  refine comp_block (s₂ := { s₁ with heap := s₁.heap.push { cls := .type "list_iterator", data := .fields #[.ref a, .int 0 0] } }) (RR := fun acc C => compPost (model prog w) A E (some (assign (.Name y py) env)) (fun _ s' => Q .next s') acc C) (Walks.list hh s₁.heap.objs.size a hne items) (by rw [sizeLine_eq]; omega) G ?_ ?_ hcell hkind ⟨⟨_, Heap.get?_push_size _ rfl, rfl, rfl⟩, hl.push _⟩ ?_ ?_ ?_
  · intro h h' v y k g
    exact Gm h h' v y (fun b o hb e => k b o (big b hb).1 (big b hb).2.1 (big b hb).2.2 e) g
  · intro i v s' Q E hP st hq
    exact go_name hq
  · intro b hb
    show b < (s₁.heap.push _).objs.size
    rw [hs2]
    rcases List.mem_cons.mp hb with e | hb
    · rw [e]; exact Nat.lt_succ_self _
    · rw [List.mem_singleton.mp hb]; exact Nat.lt_succ_of_lt hax
  · rintro i v s₃ m₃ hi hP hn hsz3 hk₃ ⟨h₃, tk₃, rfl⟩
    show CTurn prog w A (.Name x p2) elt ifs (compEnvC scope cl ((s₁.heap.push _).objs.size + 1) env) v G _
    have hn' : h₃.Ns ((s₁.heap.push { cls := .type "list_iterator", data := .fields #[.ref a, .int 0 0] }).objs.size + 1) m₃ := hn
    rw [hs2] at hn' ⊢
    have k₃ : Keeps s₁ { s₁ with heap := h₃, toks := tk₃ } := ⟨h₃, tk₃, rfl, fun b o q => hk₃ b o (oldI b o q) (Heap.get?_push_of_some _ q)⟩
    unfold CTurn
    refine wpAny_assign_Name (wpAny_storeName_local (lookup_relabel_local hlx) hn' (fun h₄ hn₄ hs₄ => ?_) (by simp [compEnvC, relabel, hkind]))
    have oldC : ∀ b o, s₁.heap.get? b = some o → b ≠ s₁.heap.objs.size + 2 := fun b o q => Nat.ne_of_lt (Nat.lt_succ_of_lt (Nat.lt_succ_of_lt (Heap.lt_size q)))
    have k₄ : Keeps s₁ { s₁ with heap := h₄, toks := tk₃ + 1 } := ⟨h₄, _, rfl, fun b o q => hs₄.extBut b o (oldC b o q) (Keeps.get k₃ b o q)⟩
    exact ⟨⟨_, hn₄⟩, ⟨h₄, _, rfl, fun b o hb q => hs₄.extBut b o hb q⟩, turn v _ _ _ rfl (Array.mem_toList_iff.mpr (Array.mem_of_getElem? hP)) (vw_comp V hcl (Keeps.get k₄) hn₄) (by simp) k₄⟩
  · intro h' tk m' ys vs os hfr hnC hlD hlen hP hF hys hk'
    have hv : vs = items.toList := by
      apply List.ext_getElem?
      intro j
      by_cases hj : j < vs.length
      · have e1 := hP j vs[j] (List.getElem?_eq_getElem hj)
        rw [List.getElem?_eq_getElem hj, Array.getElem?_toList]; exact e1.symm
      · rw [List.getElem?_eq_none (by omega), List.getElem?_eq_none (by rw [Array.length_toList]; omega)]
    subst hv
    have keep1 : ∀ b o, s₁.heap.get? b = some o → h'.get? b = some o := fun b o q => hk' b o (oldI b o q) (Heap.get?_push_of_some _ q)
    have x' : InCallC s₀ env.locals m env.cells cm { s₁ with heap := h', toks := tk } := ic_keeps x₁ ⟨h', tk, rfl, keep1⟩
    show wpAny _ A (assign (.Name y py) env _) _ _ _
    have hLC : env.locals ≠ s₁.heap.objs.size + 2 := Nat.ne_of_lt (Nat.lt_succ_of_lt (Nat.lt_succ_of_lt x₁.toInCall.ns.lt))
    have hLlt : env.locals < s₁.heap.objs.size := x₁.toInCall.ns.lt
    have hnC' : h'.Ns (s₁.heap.objs.size + 2) m' := by have := hnC; rw [show ({ s₁ with heap := s₁.heap.push { cls := .type "list_iterator", data := .fields #[.ref a, .int 0 0] } } : Shared).heap.objs.size = s₁.heap.objs.size + 1 from hs2] at this; exact this
    refine wpAny_assign_Name (wpAny_storeName_local hly x'.toInCall.ns (fun h₂ hn₂ hs₂ => ⟨m', ?_, fun h₃ hs₃ => ?_⟩) (by rw [hk]; rfl))
    · show h₂.Ns ((s₁.heap.push { cls := .type "list_iterator", data := .fields #[.ref a, .int 0 0] }).objs.size + 1) m'
      rw [hs2]
      exact hnC'.sameBut hs₂ (Ne.symm hLC)
    · have hs₃' : Heap.SameBut (s₁.heap.objs.size + 2) h₂ h₃ := by
        have := hs₃; rw [show ({ s₁ with heap := s₁.heap.push { cls := .type "list_iterator", data := .fields #[.ref a, .int 0 0] } } : Shared).heap.objs.size = s₁.heap.objs.size + 1 from hs2] at this; exact this
      have hD' : h'.PlainList (s₁.heap.objs.size + 1) ys := by have := hlD; rw [show ({ s₁ with heap := s₁.heap.push { cls := .type "list_iterator", data := .fields #[.ref a, .int 0 0] } } : Shared).heap.objs.size = s₁.heap.objs.size + 1 from hs2] at this; exact this
      have off : ∀ b, b ≠ env.locals → b ≠ s₁.heap.objs.size + 2 → ∀ o, h'.get? b = some o → h₃.get? b = some o := fun b h1 h2 o e => hs₃'.extBut b o h2 (hs₂.extBut b o h1 e)
      refine hQ (s₁.heap.objs.size + 1) _ ys os ⟨⟨?_, ?_, ?_, x₁.toInCall.fresh⟩, fun n c hc => ?_, x₁.apart, x₁.above⟩ (hD'.at fun o e => off _ (Nat.ne_of_gt (Nat.lt_succ_of_lt hLlt)) (Nat.ne_of_lt (Nat.lt_succ_self _)) o e) (Paired.mono' (fun v y => Gm _ _ v y fun b o hb e => off b (Nat.ne_of_gt (Nat.lt_of_lt_of_le hLlt (Nat.le_trans (Nat.le_add_right _ 3) hb))) (Nat.ne_of_gt hb) o e) hF) hys
      · obtain ⟨h0, t0, e0⟩ := x₁.toInCall.same
        exact ⟨h₃, _, by rw [e0]⟩
      · have := hn₂.sameBut hs₃' hLC
        rw [show ({ s₁ with heap := s₁.heap.push { cls := .type "list_iterator", data := .fields #[.ref a, .int 0 0] } } : Shared).heap.objs.size = s₁.heap.objs.size + 1 from hs2] at this
        exact this
      · intro b o e
        have e1 := x₁.toInCall.keep b o e
        exact off b (Nat.ne_of_lt (Nat.lt_of_lt_of_le (Heap.lt_size e) x₁.toInCall.fresh)) (Nat.ne_of_lt (Nat.lt_succ_of_lt (Nat.lt_succ_of_lt (Heap.lt_size e1)))) o (keep1 b o e1)
      · obtain ⟨oc, hoc, hdc⟩ := x₁.cell n c hc
        exact ⟨oc, off c (Nat.ne_of_gt (x₁.above n c (mem_of_lookup hc))) (Nat.ne_of_lt (Nat.lt_succ_of_lt (Nat.lt_succ_of_lt (Heap.lt_size hoc)))) oc (keep1 c oc hoc), hdc⟩
end
end Mine

/-! part M2 -/
namespace Mine
theorem ints_mem : ∀ {vs : List Value} {p : List Nat} {v : Value}, IntsAre vs (p.map fun i => ((i : Nat) : Int)) → v ∈ vs → ∃ (j : Nat) (t : Tok), v = .int (j : Int) t
  | _, [], _, h, hm => by cases h; cases hm
  | _, a :: p, v, h, hm => by
    rw [List.map_cons] at h
    obtain ⟨t, vs', rfl, h2⟩ := h.cons_inv
    rcases List.mem_cons.mp hm with rfl | hm
    · exact ⟨a, t, rfl⟩
    · exact ints_mem h2 hm
theorem picks_pos (f : Nat → Nat → Bool) (n : Nat) : 0 < (picksP f n).length := by
  induction n with
  | zero => exact Nat.lt_succ_self 0
  | succ n ih =>
    rw [picks_succ]
    show 0 < List.length (_ ++ _)
    rw [List.length_append]; omega
section
variable {w : World} {A : Around} {s : Shared}
abbrev mostCells (L : Addr) : List (Str × Addr) := [(Str.ofString "far", L + 1 + 1 + 1), (Str.ofString "k", L + 1 + 1), (Str.ofString "pages", L + 1)]
theorem most_spec (hlev : LevOk w) {aP : Addr} {its : Array Value} {pg : List (Nat × Nat)} {R : Result → Shared → Prop} (B : Bs w s.heap) (hh : A.handled = none) (hroom : A.depth + 20 < recursionLimit) (hunits : A.units + 20 < cLine)
    (hP : s.heap.IsList aP its) (hpg : Paired PageAt its.toList pg) (hhex : ∀ c ∈ pg, Hex c.1 ∧ Hex c.2) (hlen : pg.length ≤ 7)
    (hR : ∀ s' M t, Keeps s s' → M ∈ ((picksP (farP pg) pg.length).map fun p => ((p.length : Nat) : Int)) → (∀ a ∈ ((picksP (farP pg) pg.length).map fun p => ((p.length : Nat) : Int)), a ≤ M) → R (.ok (.ret (.int M t))) s') :
    codeAny (model PySem.Challenge.rw_rl0023_01.row.prog w) A (.call (.ref 61) ⟨[.ref aP], []⟩) R s := by
  have X := B.kx
  revert X; k_fill; intro X
  refine' call1 (binds := [(Str.ofString "pages", .ref aP)]) B ?k6 ?k7 (by omega) ?k9 ?kB ?_ ?c2 ?c3 ?c4; (case k6 => k_is); (case k7 => k_is); (case k9 => exact rfl); (case kB => exact rfl); (case c2 => exact rfl); (case c3 => exact rfl); (case c4 => exact rfl)
  intro L s₁ hL x
  show wpAny _ _ (execs _ (envOfC _ _ _ _ _)) _ _ _
  generalize hA : A.deeper _ = A'
  have hh' : A'.handled = none := by rw [← hA]; exact hh
  have hr' : A'.depth + 15 < recursionLimit := by rw [← hA]; show A.depth + 1 + 15 < _; omega
  have hu' : A'.units < cLine := by rw [← hA]; show A.units + 3 < _; omega
  have hsz : its.size = pg.length := by have := hpg.length; simpa using this
  obtain ⟨m, cm, x, hm⟩ : ∃ m cm, InCallC s L m (mostCells L) cm s₁ ∧ cm (Str.ofString "pages") = some (.ref aP) := ⟨_, _, x, rfl⟩
  -- picks = [[]]
  refine wpAny_execs_cons (wpAny_Assign_Name (wpAny_List (wpAny_items_cons (wpAny_List (wpAny_items_nil ⟨by decide, wpAny_items_nil ⟨by rw [sizeLine_eq]; exact Nat.le_of_ble_eq_true rfl, ?_⟩⟩)))))
  refine st_local (ic_keeps (ic_keeps x (keeps_push s₁ _ s₁.toks)) (keeps_push _ _ _)) (fun s₂ x₂ tr₂ => ?_)
  show wpAny _ _ _ _ _ _
  generalize hK : (s₁.heap.push _).objs.size = aK at *
  have pK : IsPk s₂.heap aK (picksP (farP pg) 0) := by
    refine ⟨#[.ref s₁.heap.objs.size], tr₂.plain ⟨0, by rw [← hK]; exact Heap.get?_push_size _ rfl⟩ (by simp), .cons ⟨_, #[], rfl, tr₂.plain ⟨0, Heap.get?_push_of_some _ (Heap.get?_push_size _ rfl)⟩ (by simp), .nil⟩ .nil⟩
  -- the loop
  refine wpAny_execs_cons (wpAny_For (range_it (ic_vw x₂ B) rfl rfl rfl rfl (ev_len (ic_vw x₂ B) rfl rfl rfl rfl (ev_cell (c := L + 1) (ic_vw x₂ B) rfl hm ⟨aP, its, rfl, hP.at fun o e => x₂.toInCall.keep _ o e, by omega, fun t k => ⟨its.size, _, rfl, by omega, fun I s₃ k₃ hI hI1 hI2 hI3 => ?_⟩⟩))))
  have hI0 : s.heap.get? I = none := by
    cases q : s.heap.get? I with
    | none => rfl
    | some o => have := x₂.toInCall.keep _ _ q; rw [show s₂.heap.get? I = none from hI3] at this; cases this
  refine for_walk (Walks.range hh' I 0 1 its.size) (fun i s' => ∃ m cm a, InCallC s L m (mostCells L) cm s' ∧ cm (Str.ofString "pages") = some (.ref aP) ∧ m (Str.ofString "picks") = some (.ref a) ∧ IsPk s'.heap a (picksP (farP pg) i))
    (fun _ _ _ _ _ _ _ h => go_name h) hI ?_ ?_ ?_ ?_
  · exact ⟨_, _, aK, ic_keeps (ic_keeps x₂ (keeps_tok _ _)) k₃, hm, upd_self, pK.keeps (Keeps.get k₃)⟩
  · rintro i s' h' tk ⟨m, cm, a, x, h1, h2, hp⟩ st k
    exact ⟨m, cm, a, ic_but x st pl_rng hI0 k, h1, h2, hp.but st k⟩
  · rintro i v s₄ hi ⟨t, rfl⟩ ⟨m, cm, aQ, x₄, h1, h2, hp⟩ st
    have ei : (0 + (i : Int) * 1) = ((i : Nat) : Int) := by omega
    rw [ei]
    -- k
    refine wpAny_assign_Name (st_cell (c := L + 1 + 1) x₄ rfl (fun s₅ x₅ tr₅ => ?_))
    have h1' : upd cm (Str.ofString "k") (.int (i : Int) t) (Str.ofString "pages") = some (.ref aP) := upd_at h1
    -- far
    refine wpAny_execs_cons (wpAny_Assign_Name (comp_rng (N := i) (cl := [(Str.ofString "pages", L + 1), (Str.ofString "k", L + 1 + 1)]) (fun j => farP pg j i) hh' (ic_vw x₅ B) (by omega) rfl rfl rfl rfl (by with_unfolding_all rfl) ?_ (by decide) rfl (by decide) rfl ?_ ?_ ?_))
    · exact hcl_cons rfl (hcl_cons rfl hcl_nil)
    · exact fun Q E h => ev_cell (c := L + 1 + 1) (ic_vw x₅ B) rfl upd_self (h _ _ (keeps_refl _))
    · intro j t' C s₆ m₆ hj V hv k₆ Q hq
      have hj' : j < pg.length := by omega
      have hi' : i < pg.length := by omega
      obtain ⟨vj, hvj, tj, rfl⟩ := Paired.at' hpg (List.getElem?_eq_getElem hj')
      obtain ⟨vi, hvi, ti, rfl⟩ := Paired.at' hpg (List.getElem?_eq_getElem hi')
      have hP6 : s₆.heap.IsList aP its := hP.at fun o e => Keeps.get k₆ _ o (x₅.toInCall.keep _ o e)
      have hf : farP pg j i = (pg[j].1 != pg[i].1 && pg[j].2 != pg[i].2) := by
        unfold farP; rw [List.getElem?_eq_getElem hj', List.getElem?_eq_getElem hi']
      refine wpAny_isTrue_Compare1 (ev_fn V (g_lev _) (by k_is) rfl rfl rfl (wpAny_items_cons (Subscript_ (ev_cell (c := L + 1) V rfl h1' (ev_local V hv (item_list hP6 (by omega) (by omega) (by rw [← Array.getElem?_toList]; exact hvj) ?_))))))
      refine wpAny_items_cons (Subscript_ (ev_cell (c := L + 1) V rfl h1' (ev_cell (c := L + 1 + 1) V rfl upd_self (item_list hP6 (by omega) (by omega) (by rw [← Array.getElem?_toList]; exact hvi) ?_))))
      refine wpAny_items_cons (wpAny_Constant_int (wpAny_items_nil ⟨keeps_tok _ _, wpAny_call (hlev A' _ _ _ _ _ _ _ _ _ V.bs hh' (by omega) (hhex _ (List.getElem_mem hj')).1 (hhex _ (List.getElem_mem hj')).2 (hhex _ (List.getElem_mem hi')).1 (hhex _ (List.getElem_mem hi')).2 fun s' kk t'' ks hk4 => ?_)⟩))
      refine wpAny_Constant_int (eq_int (wpAny_truthy_bool ?_))
      have q := hq _ (Keeps.trans (Keeps.trans (keeps_tok s₆ _) ks) (keeps_tok s' (s'.toks + 1)))
      rw [hf, ← hk4] at q
      exact q
    · intro aF s₆ yf k₆ hF6 hif hF0
      refine st_cell (c := L + 1 + 1 + 1) (ic_keeps x₅ k₆) rfl (fun s₇ x₇ tr₇ => ?_)
      show wpAny _ _ _ _ _ _
      have pF : s₇.heap.PlainList aF yf := tr₇.plain hF6 (by simp)
      have hif' : IntsAre yf.toList ((farL (farP pg) i).map fun i => ((i : Nat) : Int)) := hif
      have hp7 : IsPk s₇.heap aQ (picksP (farP pg) i) := ((hp.tr tr₅).keeps (Keeps.get k₆)).tr tr₇
      have trT : Tr [] s₄.heap s₇.heap := tr₅.trans ((Tr.of_keep (Keeps.get k₆)).trans tr₇)
      obtain ⟨items, hQl, hQp⟩ := id hp7
      have hpl := picks_len (farP pg) i
      have hp2 : 2 ^ i ≤ 128 := by
        have : i ≤ 7 := by omega
        exact Nat.pow_le_pow_right (n := 2) (by decide) this
      have hsQ : items.size ≤ 128 := by have := hQp.length; rw [Array.length_toList] at this; omega
      have hcF : ∀ m' : Str → Option Value, upd m' (Str.ofString "far") (.ref aF) (Str.ofString "far") = some (.ref aF) := fun _ => upd_self
      have hcK : upd (upd cm (Str.ofString "k") (.int (i : Int) t)) (Str.ofString "far") (.ref aF) (Str.ofString "k") = some (.int (i : Int) t) := upd_at upd_self
      refine wpAny_execs_cons (wpAny_Assign_Name (wpAny_BinOp (ev_local (ic_vw x₇ B) h2 (comp_list (x := Str.ofString "pick") (a := aQ) (items := items) (cl := [(Str.ofString "k", L + 1 + 1), (Str.ofString "far", L + 1 + 1 + 1)]) (TurnAt s₇ (farP pg) i) hh' (ic_vw x₇ B) hQl.isList (by omega) (by with_unfolding_all rfl) ?_ (by decide) rfl (by decide) rfl ?_ ?_ ?_ ?_))))
      · exact hcl_cons rfl (hcl_cons rfl hcl_nil)
      · exact fun Q E h => ev_local (ic_vw x₇ B) h2 h
      · rintro h h' v y k ⟨p, hpa, hy⟩
        refine ⟨p, hpa, ?_⟩
        cases hok : okB (farP pg) i p with
        | true =>
          rw [if_pos hok] at hy
          rw [if_pos rfl]
          obtain ⟨T, xs, e, hT, hl, hi⟩ := hy
          exact ⟨T, xs, e, hT, hl.at fun o e => k T o (Nat.ne_of_gt (by omega)) (Nat.ne_of_gt (by omega)) (Nat.ne_of_gt (by omega)) e, hi⟩
        | false =>
          rw [if_neg (by rw [hok]; decide)] at hy
          rw [if_neg (by decide)]
          exact hy
      · intro v s₈ m₈ C hC hv V hmv hsz8 k₈
        obtain ⟨p, hpk, hPk⟩ := paired_mem hQp hv
        obtain ⟨T, xs, rfl, hT, hxs⟩ := id hPk
        have hT8 : s₈.heap.PlainList T xs := hT.at fun o e => Keeps.get k₈ _ o e
        have pF8 : s₈.heap.PlainList aF yf := pF.at fun o e => Keeps.get k₈ _ o e
        have hpl2 := picks_mem (farP pg) i p hpk
        have hsT : xs.size ≤ 7 := by
          have := hxs.length
          rw [Array.length_toList, List.length_map] at this; omega
        refine wpAny_tests_one (wpAny_isTrue_Compare1 (comp_list (x := Str.ofString "i") (a := T) (items := xs) (cl := [(Str.ofString "far", L + 1 + 1 + 1)]) (fun _ v y => ∃ (j : Nat) (t : Tok), v = .int (j : Int) t ∧ y = if (!(farL (farP pg) i).contains j) then some v else none) hh' V hT8.isList (by omega) (by with_unfolding_all rfl) ?_ (by decide) rfl (by decide) rfl ?_ (fun _ _ _ _ _ g => g) ?_ ?_))
        · exact hcl_cons rfl hcl_nil
        · exact fun Q E h => ev_local V hmv h
        · intro v s₉ m₉ C' _ hv V9 hmv9 _ k₉
          obtain ⟨j, tj, rfl⟩ := ints_mem hxs hv
          refine wpAny_tests_one (wpAny_isTrue_Compare1 (ev_local V9 hmv9 (ev_cell (c := L + 1 + 1 + 1) V9 rfl (hcF _) (notIn_ints (pF8.at fun o e => Keeps.get k₉ _ o e) hif' (wpAny_truthy_bool ⟨keeps_refl _, ?_⟩)))))
          rw [contains_cast]
          cases hc : (!(farL (farP pg) i).contains j) with
          | true =>
            rw [if_pos rfl]
            exact ev_local V9 hmv9 ⟨keeps_refl _, j, tj, rfl, by rw [hc]; rfl⟩
          | false =>
            rw [if_neg (by decide)]
            exact ⟨j, tj, rfl, by rw [hc]; rfl⟩
        · intro D s₉ ysD osD hD kD hlD hFD hysD _
          have hiD : IntsAre ysD.toList ((p.filter fun j => !(farL (farP pg) i).contains j).map fun i => ((i : Nat) : Int)) := by rw [hysD]; exact ints_filter_list _ hxs hFD
          have hsD : (ysD.size == 0) = okB (farP pg) i p := by
            have := hiD.length
            rw [Array.length_toList, List.length_map] at this
            unfold okB; rw [this]
          refine wpAny_List (wpAny_items_nil ⟨by decide, ?_⟩)
          refine eq_nil hu' (hlD.isList.push _) ⟨_, Heap.get?_push_size _ rfl, rfl, 0, rfl⟩ (wpAny_truthy_bool ⟨Keeps.trans kD (keeps_push s₉ _ s₉.toks), ?_⟩)
          rw [hsD]
          have kE : Keeps s₈ { s₉ with heap := s₉.heap.push { cls := .type "list", data := .seq ([] : List Value).toArray } } := Keeps.trans kD (keeps_push s₉ _ s₉.toks)
          have V10 := V.keeps (Keeps.get kE)
          cases hok : okB (farP pg) i p with
          | true =>
            rw [if_pos rfl]
            refine wpAny_BinOp (ev_local V10 hmv (wpAny_List (wpAny_items_cons (ev_cell (c := L + 1 + 1) V10 rfl hcK (wpAny_items_nil ⟨by rw [sizeLine_eq]; exact Nat.le_of_ble_eq_true rfl, ?_⟩)))))
            obtain ⟨nT, hTe⟩ := hT8
            have hT10 := Keeps.get kE _ _ hTe
            have hsC : s₇.heap.objs.size + 3 ≤ (s₉.heap.push { cls := .type "list", data := .seq ([] : List Value).toArray }).objs.size := by
              obtain ⟨oC, _, _, hoC, _⟩ := V10.ns
              have q : C < _ := Heap.lt_size hoC
              rw [hC] at q
              exact q
            refine P.add_list (n := nT) (n2 := 0) (items2 := #[.int (i : Int) t]) (Heap.get?_push_of_some _ hT10) (Heap.get?_push_size _ rfl) ⟨?_, p, hPk, ?_⟩ (by rw [sizeLine_eq]; show xs.size + 1 ≤ _; omega)
            · exact Keeps.trans (keeps_push _ _ _) (keeps_push _ _ _)
            · rw [if_pos hok]
              refine ⟨_, xs ++ #[.int (i : Int) t], rfl, ?_, ⟨0, Heap.get?_push_size _ rfl⟩, ?_⟩
              · rw [Heap.size_push]; exact Nat.le_succ_of_le hsC
              · rw [Array.toList_append, List.map_append]
                exact IntsAre.append hxs (.cons _ _ .nil)
          | false =>
            rw [if_neg (by decide)]
            exact ⟨p, hPk, by rw [if_neg (by rw [hok]; decide)]⟩
      · intro D s₈ ys os hD k₈ hlD hF hys hfr
        obtain ⟨nQ, hQe⟩ := hQl
        obtain ⟨nD, hDe⟩ := hlD
        have hsY : ys.size ≤ 128 := by
          have e1 := hF.length
          have e2 : (os.filterMap id).length ≤ os.length := List.length_filterMap_le _ _
          rw [← hys, Array.length_toList] at e2
          rw [Array.length_toList] at e1; omega
        refine P.add_list (n := nQ) (n2 := nD) (Keeps.get k₈ _ _ hQe) hDe ?_ (by rw [sizeLine_eq]; omega)
        refine st_local (ic_keeps (ic_keeps x₇ k₈) (keeps_push s₈ _ s₈.toks)) (fun s₉ x₉ tr₉ => ?_)
        refine wpAny_execs_nil ⟨⟨_, _, s₈.heap.objs.size, x₉, ?_, upd_self, ?_⟩, ?_⟩
        · exact upd_at (upd_at h1)
        · rw [picks_succ]
          refine ⟨items ++ ys, tr₉.plain ⟨0, Heap.get?_push_size _ rfl⟩ (by simp), ?_⟩
          rw [Array.toList_append]
          have kP : ∀ b o, s₈.heap.get? b = some o → (s₈.heap.push { cls := .type "list", data := .seq (items ++ ys) }).get? b = some o := fun b o e => Heap.get?_push_of_some _ e
          have trp : ∀ {v p}, PickAt (s₈.heap.push { cls := .type "list", data := .seq (items ++ ys) }) v p → PickAt s₉.heap v p := fun ⟨T, xs, e, hT, hi⟩ => ⟨T, xs, e, tr₉.plain hT (by simp), hi⟩
          refine Paired.append' (Paired.mono' (fun _ _ q => trp ((q.keeps (Keeps.get k₈)).keeps kP)) hQp) ?_
          rw [hys]
          exact Paired.mono' (fun _ _ q => trp (q.keeps kP)) (turns_picks hQp hF)
        · exact tr₉ I _ (Heap.get?_push_of_some _ (Keeps.get k₈ _ _ (trT I _ st pl_rng (by simp)))) pl_rng (by simp)
  · rintro s₄ ⟨m, cm, a, x₄, h1, h2, hp⟩
    show wpAny _ _ _ _ _ _
    obtain ⟨items, hQl, hQp⟩ := id hp
    have hpl := picks_len (farP pg) its.size
    have hp2 : 2 ^ its.size ≤ 128 := by
      have : its.size ≤ 7 := by omega
      exact Nat.pow_le_pow_right (n := 2) (by decide) this
    have hsQ : items.size ≤ 128 := by have := hQp.length; rw [Array.length_toList] at this; omega
    refine wpAny_execs_cons (wpAny_Return_some (wpAny_Call_NameR (ev_bltn (ic_vw x₄ B) (n_max _) b_max ?_)))
    refine PyProof.Rows.callWith_builtin1 (wpAny_items_cons (comp_list (x := Str.ofString "pick") (a := a) (items := items) (cl := []) (fun _ v y => ∃ p t, PickAt s₄.heap v p ∧ y = some (.int ((p.length : Nat) : Int) t)) hh' (ic_vw x₄ B) hQl.isList (by omega) (by with_unfolding_all rfl) hcl_nil (by decide) rfl (by decide) rfl (fun Q E h => ev_local (ic_vw x₄ B) h2 h) (fun _ _ _ _ _ g => g) ?_ ?_))
    · intro v s₅ m₅ C _ hv V hmv _ k₅
      obtain ⟨p, hpk, hPk⟩ := paired_mem hQp hv
      obtain ⟨T, xs, rfl, hT, hxs⟩ := id hPk
      have hpl2 := picks_mem (farP pg) its.size p hpk
      have hsT : xs.size = p.length := by
        have := hxs.length
        rw [Array.length_toList, List.length_map] at this; exact this
      refine wpAny_tests_nil ⟨keeps_refl _, ?_⟩
      rw [if_pos rfl]
      refine ev_len V rfl rfl rfl rfl (ev_local V hmv ⟨T, xs, rfl, (hT.at fun o e => Keeps.get k₅ _ o e).isList, by omega, fun t' k' => ⟨keeps_tok _ _, p, t', hPk, by rw [hsT]⟩⟩)
    · intro D s₅ ys os hD k₅ hlD hF hys _
      have hi : IntsAre ys.toList ((picksP (farP pg) its.size).map fun p => ((p.length : Nat) : Int)) := by rw [hys]; exact lens_picks hQp hF
      rw [hsz] at hi
      have hne : 0 < ((picksP (farP pg) pg.length).map fun p => ((p.length : Nat) : Int)).length := by
        rw [List.length_map]; exact picks_pos _ _
      refine wpAny_items_nil (max_ints hh' hlD.isList hi hne fun M t s' k hM hmax => ?_)
      obtain ⟨h', tk, e, kk⟩ := (ic_keeps (ic_keeps x₄ k₅) k).done
      exact hR s' M t ⟨h', tk, e, kk⟩ hM hmax
end
end Mine

/-! part L2 -/
namespace Mine

theorem s3_0 (a b c : Nat) : Txt.slice ⟨#[a, b, c]⟩ (some 0) none = ⟨#[a, b, c]⟩ := by with_unfolding_all rfl
theorem s3_1 (a b c : Nat) : Txt.slice ⟨#[a, b, c]⟩ (some 1) none = ⟨#[b, c]⟩ := by with_unfolding_all rfl
theorem s3_2 (a b c : Nat) : Txt.slice ⟨#[a, b, c]⟩ (some 2) none = ⟨#[c]⟩ := by with_unfolding_all rfl
theorem sn_2 (b c : Nat) : Txt.slice ⟨#[b, c]⟩ none none = ⟨#[b, c]⟩ := by with_unfolding_all rfl
theorem sn_1 (b : Nat) : Txt.slice ⟨#[b]⟩ none none = ⟨#[b]⟩ := by with_unfolding_all rfl
theorem sm_2 (b c : Nat) : Txt.slice ⟨#[b, c]⟩ none (some (-1)) = ⟨#[b]⟩ := by with_unfolding_all rfl
theorem sn_2' (b c : Nat) : Txt.slice ⟨#[b, c]⟩ none (if (0 : Int) = 0 then none else some 0) = ⟨#[b, c]⟩ := by rw [if_pos rfl]; exact sn_2 b c
theorem sn_1' (b : Nat) : Txt.slice ⟨#[b]⟩ none (if (0 : Int) = 0 then none else some 0) = ⟨#[b]⟩ := by rw [if_pos rfl]; exact sn_1 b
theorem sm_2' (b c : Nat) : Txt.slice ⟨#[b, c]⟩ none (if (-1 : Int) = 0 then none else some (-1)) = ⟨#[b]⟩ := by rw [if_neg (by decide)]; exact sm_2 b c
theorem i3_0 (a b c : Nat) : Txt.item ⟨#[a, b, c]⟩ 0 = ⟨#[a]⟩ := rfl
theorem i3_1 (a b c : Nat) : Txt.item ⟨#[a, b, c]⟩ 1 = ⟨#[b]⟩ := rfl
theorem i3_2 (a b c : Nat) : Txt.item ⟨#[a, b, c]⟩ 2 = ⟨#[c]⟩ := rfl
theorem i2_m1 (b c : Nat) : Txt.item ⟨#[b, c]⟩ (-1) = ⟨#[c]⟩ := rfl
theorem i2_m2 (b c : Nat) : Txt.item ⟨#[b, c]⟩ (-2) = ⟨#[b]⟩ := rfl
theorem i1_m1 (c : Nat) : Txt.item ⟨#[c]⟩ (-1) = ⟨#[c]⟩ := rfl
theorem beq1 (a b : Nat) : ((⟨#[a]⟩ : Str) == ⟨#[b]⟩) = decide (a = b) := by rw [Bool.eq_iff_iff]; simp
theorem beq3 (a b c d : Nat) : ((⟨#[61, a, c]⟩ : Str) == ⟨#[61, b, d]⟩) = (decide (a = b) && decide (c = d)) := by rw [Bool.eq_iff_iff]; simp

section
variable {prog : Program} {w : World} {A : Around} {E : Value → Shared → Prop} {s : Shared} {env : Env}
theorem ev_slice {value : Expr} {lower upper : Option Expr} {p pos : Pos} {Q : Value → Shared → Prop}
    (h : wpAny (model prog w) A (eval value env) (fun o s₁ => wpAny (model prog w) A (evalPart lower env) (fun vl s₂ => wpAny (model prog w) A (evalPart upper env) (fun vu s₃ =>
      ∃ x t l u y, o = .str x t ∧ vl = partValue l ∧ vu = partValue u ∧ Txt.slice x (l.map (·.1)) (u.map (·.1)) = y ∧ x.length ≤ 1000 ∧ ∀ t' s', Keeps s₃ s' → Q (.str y t') s') E s₂) E s₁) E s)
    (ht : ∀ o r, letTemporaryGo value o r = pure () := by intro _ _; rfl) :
    wpAny (model prog w) A (eval (.Subscript value (.Slice lower upper none p) pos) env) Q E s := by
  refine wpAny_Subscript_str_slice (wpAny_mono h (fun o s₁ h₁ => wpAny_mono h₁ (fun vl s₂ h₂ => wpAny_mono h₂ (fun vu s₃ h₃ => ?_) fun _ _ e => e) fun _ _ e => e) fun _ _ e => e) ht
  obtain ⟨x, t, l, u, y, rfl, rfl, rfl, hy, hx, hQ⟩ := h₃
  refine ⟨x, t, l, u, rfl, rfl, rfl, ?_⟩
  subst hy
  exact post_val_or_str ⟨Nat.le_trans (Txt.slice_le x _ _) (by rw [sizeLine_eq]; omega), fun t' k => hQ t' _ (keeps_push s₃ _ k)⟩

theorem ev_chr {value slice : Expr} {x y : Str} {t : Tok} {i : Int} {u : Tok} {Q : Value → Shared → Prop} (hr : fitsSsize i = true) (h1 : -(x.length : Int) ≤ i) (h2 : i < x.length) (e : Txt.item x i = y)
    (h : Q (.str y s.toks) { s with toks := s.toks + 1 })
    (hs : subscripted slice false (.str x t) (.int i u) = operate [.str x t, .int i u] (getItem (.str x t) (.int i u)) := by with_unfolding_all rfl)
    (ht : ∀ r, letTemporaryGo value (.str x t) r = pure () := by intro _; with_unfolding_all rfl) :
    wpAny (model prog w) A (subscriptTail value slice (.str x t) (.int i u)) Q E s := by
  subst e; exact item_str hr h1 h2 (fun _ => h) hs ht

theorem while_step {test : Expr} {body : List Stmt} {R : Result → Shared → Prop}
    (h : wpAny (model prog w) A (isTrue test env (eval test env)) (fun b s₂ => if b = true then wpAny (model prog w) A (execs body env) (fun f s₃ => match f with
        | .next => codeAny (model prog w) A (.whileLoop test body [] env) R s₃
        | _ => False) (fun _ _ => False) s₂ else R (.ok .next) s₂) (fun _ _ => False) s) :
    codeAny (model prog w) A (.whileLoop test body [] env) R s := by
  refine codeAny_of_tree ?_
  show wpAny _ A ((whileTurn test body [] env).onRaise (fun x => do noteFrame x env; theTreesLotGoes x)) _ _ s
  refine wpAny_noted (wpAny_no ?_)
  simp only [whileTurn]
  refine wpAny_bind (wpAny_mono h (fun b s₂ h₂ => ?_) fun _ _ x => x)
  cases b with
  | false =>
    simp only [Bool.false_eq_true, if_false] at h₂ ⊢
    exact wpAny_bind (wpAny_execs_nil (wpAny_pure h₂))
  | true =>
    simp only [if_true] at h₂ ⊢
    refine wpAny_bind (wpAny_mono h₂ (fun f s₃ h₃ => ?_) fun _ _ x => x)
    cases f with
    | next => exact wpAny_pure ⟨rfl, h₃⟩
    | cont => exact h₃.elim
    | brk => exact h₃.elim
    | ret v => exact h₃.elim

theorem execs_app (a b : List Stmt) : execs (a ++ b) env = (execs a env >>= fun f => match f with | .next => execs b env | f => pure f) := by
  induction a with
  | nil => rw [List.nil_append, execs_nil, pure_bind]
  | cons st r ih =>
    rw [List.cons_append, execs_cons, execs_cons, bind_assoc]
    congr 1
    funext f
    cases f with
    | next => exact ih
    | cont => exact (pure_bind _ _).symm
    | brk => exact (pure_bind _ _).symm
    | ret v => exact (pure_bind _ _).symm
theorem execs_split (n : Nat) {body : List Stmt} {Q : Flow → Shared → Prop}
    (h : wpAny (model prog w) A (execs (body.take n) env) (fun f s' => match f with | .next => wpAny (model prog w) A (execs (body.drop n) env) Q E s' | f => Q f s') E s) : wpAny (model prog w) A (execs body env) Q E s := by
  rw [← List.take_append_drop n body, execs_app]
  refine wpAny_bind (wpAny_mono h (fun f s' h' => ?_) fun _ _ x => x)
  cases f with
  | next => exact h'
  | cont => exact wpAny_pure h'
  | brk => exact wpAny_pure h'
  | ret v => exact wpAny_pure h'

theorem ev_min2 {m cm : Str → Option Value} {e1 e2 : Expr} {rp rpos : Pos} {Q : Value → Shared → Prop} (hh : A.handled = none) (V : Vw w env m cm s.heap)
    (hx : env.kindOf "min" = some .globalImplicit) (hg : env.globals = mainGlobals) (hb : env.builtins = builtinsNs) (hk : env.scope.kind = .function)
    (h : wpAny (model prog w) A (eval e1 env) (fun v1 s₁ => wpAny (model prog w) A (eval e2 env) (fun v2 s₂ => ∃ a b t u, v1 = .int a t ∧ v2 = .int b u ∧ ∀ t' s', Keeps s₂ s' → Q (.int (min a b) t') s') E s₁) E s)
    (he : starEach [e1, e2] env = (false, eval e1 env) :: starEach [e2] env := by rfl) (he2 : starEach [e2] env = (false, eval e2 env) :: starEach [] env := by rfl) :
    wpAny (model prog w) A (eval (.Call (.Name "min" rp) [e1, e2] [] rpos) env) Q E s := by
  refine wpAny_Call_NameR (ev_bltn V (n_min _) b_min ?_ (by decide) hx hg hb hk (by decide))
  refine PyProof.Rows.callWith_builtin1 (wpAny_items_cons (wpAny_mono h (fun v1 s₁ h₁ => wpAny_items_cons (wpAny_mono h₁ (fun v2 s₂ h₂ => wpAny_items_nil ?_) fun _ _ e => e) he2) fun _ _ e => e) he) he (by rw [he2]; rfl)
  obtain ⟨a, b, t, u, rfl, rfl, hq⟩ := h₂
  refine min_two_ints hh fun h' tk hk => ?_
  by_cases c : b < a
  · rw [if_pos c]
    have := hq u _ ⟨h', tk, rfl, hk⟩
    rw [show min a b = b by omega] at this; exact this
  · rw [if_neg c]
    have := hq t _ ⟨h', tk, rfl, hk⟩
    rw [show min a b = a by omega] at this; exact this
end

/-- the plain reckoning of the loops -/
def sub (c d : Nat) : Int := if c = d then 0 else 2
def inS (xs : List Nat) (bc : Nat) (st : Int × Int × Int × List Int) (j : Nat) : Int × Int × Int × List Int :=
  let r := min (min st.2.1 (st.2.2.2.getD j 0) + 2) (st.1 + sub bc (xs.getD j 0))
  (st.2.2.2.getD j 0, r, (if r < st.2.2.1 then r else st.2.2.1), st.2.2.2.set j r)
def inF (xs : List Nat) (bc : Nat) (i : Nat) (row : List Int) (j : Nat) : Int × Int × Int × List Int := (List.range j).foldl (inS xs bc) ((i : Int) * 2, (i : Int) * 2, 9223372036854775807, row)
def outS (xs ys : List Nat) (st : Int × List Int) (i : Nat) : Int × List Int := ((inF xs (ys.getD i 0) i st.2 xs.length).2.1, (inF xs (ys.getD i 0) i st.2 xs.length).2.2.2)
def row0 (n : Nat) : List Int := (List.range n).map fun j => 2 + ((j : Nat) : Int) * 2
def outF (xs ys : List Nat) (i : Nat) : Int × List Int := (List.range i).foldl (outS xs ys) (0, row0 xs.length)
theorem inF_succ (xs : List Nat) (bc i : Nat) (row : List Int) (j : Nat) : inF xs bc i row (j + 1) = inS xs bc (inF xs bc i row j) j := by
  unfold inF; rw [List.range_succ, List.foldl_append]; rfl
theorem outF_succ (xs ys : List Nat) (i : Nat) : outF xs ys (i + 1) = outS xs ys (outF xs ys i) i := by
  unfold outF; rw [List.range_succ, List.foldl_append]; rfl
theorem inF_len (xs : List Nat) (bc i : Nat) (row : List Int) (j : Nat) : (inF xs bc i row j).2.2.2.length = row.length := by
  induction j with
  | zero => rfl
  | succ j ih => rw [inF_succ]; show (List.set _ _ _).length = _; rw [List.length_set, ih]
theorem outF_len (xs ys : List Nat) (i : Nat) : (outF xs ys i).2.length = xs.length := by
  induction i with
  | zero => simp [outF, row0]
  | succ i ih => rw [outF_succ]; show (inF _ _ _ _ _).2.2.2.length = _; rw [inF_len, ih]
theorem item_at (xs : List Nat) (j : Nat) (h : j < xs.length) : Txt.item ⟨xs.toArray⟩ (j : Int) = ⟨#[xs.getD j 0]⟩ := by
  have h1 : ¬ ((j : Int) < 0) := by omega
  have h2 : ((⟨xs.toArray⟩ : Str).length : Int) = xs.length := by simp [Str.length]
  have e : Txt.charAt ⟨xs.toArray⟩ (j : Int) = some (xs.getD j 0) := by
    unfold Txt.charAt seqIndex?
    simp only [if_neg h1]
    rw [if_pos (by simp [Str.length]; exact h)]
    simp [List.getD_eq_getElem?_getD, List.getElem?_eq_getElem h]
  unfold Txt.item
  rw [e]; rfl
end Mine

/-! part L2b -/
namespace Mine
section
variable {prog : Program} {w : World} {A : Around} {E : Value → Shared → Prop} {s : Shared} {env : Env} {m cm : Str → Option Value}
theorem truthy_txt {x : Str} {t : Tok} {Q : Bool → Shared → Prop} (hx : x.length ≤ 1000) (h : ∀ s', Keeps s s' → Q (x.length != 0) s') : wpAny (model prog w) A (truthy (.str x t)) Q E s := by
  refine P.truthy_str (by omega) ?_
  have := h _ (keeps_tok s (s.toks + 1 + 1))
  have e : ((x.length : Int) != 0) = (x.length != 0) := by
    rw [Bool.eq_iff_iff, bne_iff_ne, bne_iff_ne]; omega
  rw [e]; exact this
/-- while a[pre:] and b[pre:] and (a[pre] == b[pre]) -/
theorem pre_test {p1 p2 p3 p4 p5 p6 p7 p8 q1 q2 q3 q4 q5 q6 q7 pos : Pos} {whole : Sem Value} {Q : Bool → Shared → Prop} {X Y X' Y' : Str} {cx cy : Nat} {k : Int} {ta tb tp : Tok} (V : Vw w env m cm s.heap)
    (ha : m (Str.ofString "a") = some (.str X ta)) (hb : m (Str.ofString "b") = some (.str Y tb)) (hp : m (Str.ofString "pre") = some (.int k tp))
    (hX : Txt.slice X (some k) none = X') (hY : Txt.slice Y (some k) none = Y') (hX' : (X'.length != 0) = true) (hY' : (Y'.length != 0) = true) (lx : X.length ≤ 1000) (ly : Y.length ≤ 1000) (lx' : X'.length ≤ 1000) (ly' : Y'.length ≤ 1000)
    (hfit : fitsSsize k = true) (k0 : 0 ≤ k) (kx : k < X.length) (ky : k < Y.length) (ix : Txt.item X k = ⟨#[cx]⟩) (iy : Txt.item Y k = ⟨#[cy]⟩)
    (hla : env.kindOf (Str.ofString "a") = some .local) (hlb : env.kindOf (Str.ofString "b") = some .local) (hlp : env.kindOf (Str.ofString "pre") = some .local) (hk : env.scope.kind = .function)
    (h : ∀ s', Keeps s s' → Q (decide (cx = cy)) s') :
    wpAny (model prog w) A (isTrue (.BoolOp .And [.Subscript (.Name "a" p1) (.Slice (some (.Name "pre" p2)) none none p3) p4, .Subscript (.Name "b" p5) (.Slice (some (.Name "pre" p6)) none none p7) p8,
      .Compare (.Subscript (.Name "a" q1) (.Name "pre" q2) q3) [.Eq] [.Subscript (.Name "b" q4) (.Name "pre" q5) q6] q7] pos) env whole) Q E s := by
  refine wpAny_isTrue_BoolOp (wpAny_allTrue_And_cons (wpAny_isTrue_value (ev_slice (ev_local V ha (show wpAny _ _ (eval _ _) _ _ _ from ev_local V hp (wpAny_pure ⟨X, ta, some (k, tp), none, X', rfl, rfl, rfl, hX, lx, fun t' s' k₁ => truthy_txt lx' fun s₂ k₂ => ?_⟩) hlp hk) hla hk))))
  rw [if_pos hX']
  have V2 := V.keeps (Keeps.get (Keeps.trans k₁ k₂))
  refine wpAny_allTrue_And_cons (wpAny_isTrue_value (ev_slice (ev_local V2 hb (show wpAny _ _ (eval _ _) _ _ _ from ev_local V2 hp (wpAny_pure ⟨Y, tb, some (k, tp), none, Y', rfl, rfl, rfl, hY, ly, fun t' s' k₃ => truthy_txt ly' fun s₄ k₄ => ?_⟩) hlp hk) hlb hk)))
  rw [if_pos hY']
  have V4 := V2.keeps (Keeps.get (Keeps.trans k₃ k₄))
  refine wpAny_allTrue_And_cons (wpAny_isTrue_Compare1 (Subscript_ (ev_local V4 ha (ev_local V4 hp (ev_chr hfit (by omega) kx ix (Subscript_ (ev_local V4 hb (ev_local V4 hp (ev_chr hfit (by omega) ky iy (PyProof.Rows.eq_str (wpAny_truthy_bool ?_))) hlp hk) hlb hk))) hlp hk) hla hk)))
  rw [beq1]
  have q := h _ (Keeps.trans (Keeps.trans (Keeps.trans k₁ k₂) (Keeps.trans k₃ k₄)) (keeps_tok s₄ (s₄.toks + 1 + 1)))
  by_cases e : cx = cy
  · rw [if_pos (by simpa using e)]
    refine wpAny_allTrue_And_nil ?_
    rw [decide_eq_true e] at q; exact q
  · rw [if_neg (by simpa using e)]
    rw [decide_eq_false e] at q; exact q
/-- the value of «post or None» -/
theorem post_part {q1 q2 q3 : Pos} {kk : Nat} {Q : Value → Shared → Prop} {k : Int} {tp : Tok} (V : Vw w env m cm s.heap) (hp : m (Str.ofString "post") = some (.int k tp)) (hlp : env.kindOf (Str.ofString "post") = some .local) (hk : env.scope.kind = .function)
    (h : Q (partValue (if k = 0 then none else some (k, tp))) s) : wpAny (model prog w) A (evalPart (some (.BoolOp .Or [.Name "post" q1, .Constant .none kk q2] q3)) env) Q E s := by
  show wpAny _ _ (eval _ _) _ _ _
  refine wpAny_Or2 (ev_local V hp (PyProof.Rows.truthy_int ?_) hlp hk)
  by_cases e : k = 0
  · subst e
    rw [if_neg (by decide)]
    exact wpAny_Constant_none h
  · rw [if_pos (by simpa using e)]
    rw [if_neg e] at h; exact h
/-- x[:post or None] -/
theorem ev_post {n : Str} {p1 p2 p3 q1 q2 q3 : Pos} {kk : Nat} {Q : Value → Shared → Prop} {X X' : Str} {k : Int} {ta tp : Tok} (V : Vw w env m cm s.heap)
    (ha : m n = some (.str X ta)) (hp : m (Str.ofString "post") = some (.int k tp)) (hX : Txt.slice X none (if k = 0 then none else some k) = X') (lx : X.length ≤ 1000)
    (hla : env.kindOf n = some .local) (hlp : env.kindOf (Str.ofString "post") = some .local) (hk : env.scope.kind = .function) (hdn : (n == ("__debug__" : Str)) = false)
    (h : ∀ t' s', Keeps s s' → Q (.str X' t') s') :
    wpAny (model prog w) A (eval (.Subscript (.Name n p1) (.Slice none (some (.BoolOp .Or [.Name "post" q1, .Constant .none kk q2] q3)) none p2) p3) env) Q E s := by
  refine ev_slice (ev_local V ha (wpAny_pure (post_part V hp hlp hk ⟨X, ta, none, if k = 0 then none else some (k, tp), X', rfl, rfl, rfl, ?_, lx, h⟩)) hla hk hdn)
  rw [← hX]
  by_cases e : k = 0
  · rw [if_pos e, if_pos e]; rfl
  · rw [if_neg e, if_neg e]; rfl
theorem ev_slen {e : Expr} {rp rpos : Pos} {Q : Value → Shared → Prop} (V : Vw w env m cm s.heap)
    (hx : env.kindOf "len" = some .globalImplicit) (hg : env.globals = mainGlobals) (hb : env.builtins = builtinsNs) (hk : env.scope.kind = .function)
    (h : wpAny (model prog w) A (eval e env) (fun v s₁ => ∃ x t, v = .str x t ∧ x.length ≤ 1000 ∧ ∀ t' k, Q (.int x.length t') { s₁ with toks := k }) E s)
    (he : starEach [e] env = [(false, eval e env)] := by rfl) :
    wpAny (model prog w) A (eval (.Call (.Name "len" rp) [e] [] rpos) env) Q E s := by
  refine wpAny_Call_NameR (ev_bltn V (n_len _) b_len ?_ (by decide) hx hg hb hk (by decide))
  refine PyProof.Rows.callWith_builtin1 (wpAny_items_cons (wpAny_mono h (fun nv s₁ h₁ => wpAny_items_nil ?_) fun _ _ e => e) he) he rfl
  obtain ⟨x, t, rfl, hsz, hq⟩ := h₁
  exact P.len_str (by omega) (hq _ _)
/-- x[pre:] -/
theorem ev_pre {n : Str} {p1 p2 p3 q1 : Pos} {Q : Value → Shared → Prop} {X X' : Str} {k : Int} {ta tp : Tok} (V : Vw w env m cm s.heap)
    (ha : m n = some (.str X ta)) (hp : m (Str.ofString "pre") = some (.int k tp)) (hX : Txt.slice X (some k) none = X') (lx : X.length ≤ 1000)
    (hla : env.kindOf n = some .local) (hlp : env.kindOf (Str.ofString "pre") = some .local) (hk : env.scope.kind = .function) (hdn : (n == ("__debug__" : Str)) = false)
    (h : ∀ t' s', Keeps s s' → Q (.str X' t') s') :
    wpAny (model prog w) A (eval (.Subscript (.Name n p1) (.Slice (some (.Name "pre" q1)) none none p2) p3) env) Q E s :=
  ev_slice (ev_local V ha (show wpAny _ _ (eval _ _) _ _ _ from ev_local V hp (wpAny_pure ⟨X, ta, some (k, tp), none, X', rfl, rfl, rfl, hX, lx, h⟩) hlp hk) hla hk hdn)
/-- while a[:post or None] and b[:post or None] and (a[post - 1] == b[post - 1]) -/
theorem post_test {p1 p2 p3 p4 p5 p6 p7 p8 p9 q1 q2 q3 q4 q5 q6 q7 q8 q9 r1 r2 r3 r4 r5 pos : Pos} {kk kk' k1 k2 : Nat} {whole : Sem Value} {Q : Bool → Shared → Prop} {X Y X' Y' : Str} {cx cy : Nat} {k : Int} {ta tb tp : Tok} (V : Vw w env m cm s.heap)
    (ha : m (Str.ofString "a") = some (.str X ta)) (hb : m (Str.ofString "b") = some (.str Y tb)) (hp : m (Str.ofString "post") = some (.int k tp))
    (hX : Txt.slice X none (if k = 0 then none else some k) = X') (hY : Txt.slice Y none (if k = 0 then none else some k) = Y') (hX' : (X'.length != 0) = true) (hY' : (Y'.length != 0) = true) (lx : X.length ≤ 1000) (ly : Y.length ≤ 1000) (lx' : X'.length ≤ 1000) (ly' : Y'.length ≤ 1000)
    (hfit : fitsSsize (k - 1) = true) (kx : -(X.length : Int) ≤ k - 1) (ky : -(Y.length : Int) ≤ k - 1) (kx2 : k - 1 < X.length) (ky2 : k - 1 < Y.length) (ix : Txt.item X (k - 1) = ⟨#[cx]⟩) (iy : Txt.item Y (k - 1) = ⟨#[cy]⟩)
    (hla : env.kindOf (Str.ofString "a") = some .local) (hlb : env.kindOf (Str.ofString "b") = some .local) (hlp : env.kindOf (Str.ofString "post") = some .local) (hk : env.scope.kind = .function)
    (h : ∀ s', Keeps s s' → Q (decide (cx = cy)) s') :
    wpAny (model prog w) A (isTrue (.BoolOp .And [.Subscript (.Name "a" p1) (.Slice none (some (.BoolOp .Or [.Name "post" p2, .Constant .none kk p3] p4)) none p5) p6,
      .Subscript (.Name "b" p7) (.Slice none (some (.BoolOp .Or [.Name "post" p8, .Constant .none kk' p9] q1)) none q2) q3,
      .Compare (.Subscript (.Name "a" q4) (.BinOp (.Name "post" q5) .Sub (.Constant (.int 1) k1 q6) q7) q8) [.Eq] [.Subscript (.Name "b" q9) (.BinOp (.Name "post" r1) .Sub (.Constant (.int 1) k2 r2) r3) r4] r5] pos) env whole) Q E s := by
  refine wpAny_isTrue_BoolOp (wpAny_allTrue_And_cons (wpAny_isTrue_value (ev_post V ha hp hX lx hla hlp hk (by decide) fun t' s' k₁ => truthy_txt lx' fun s₂ k₂ => ?_)))
  rw [if_pos hX']
  have V2 := V.keeps (Keeps.get (Keeps.trans k₁ k₂))
  refine wpAny_allTrue_And_cons (wpAny_isTrue_value (ev_post V2 hb hp hY ly hlb hlp hk (by decide) fun t' s' k₃ => truthy_txt ly' fun s₄ k₄ => ?_))
  rw [if_pos hY']
  have V4 := V2.keeps (Keeps.get (Keeps.trans k₃ k₄))
  refine wpAny_allTrue_And_cons (wpAny_isTrue_Compare1 (Subscript_ (ev_local V4 ha (wpAny_BinOp (ev_local V4 hp (wpAny_Constant_int (PyProof.Rows.sub_int (ev_chr hfit kx kx2 ix (Subscript_ (ev_local V4 hb (wpAny_BinOp (ev_local V4 hp (wpAny_Constant_int (PyProof.Rows.sub_int (ev_chr hfit ky ky2 iy (PyProof.Rows.eq_str (wpAny_truthy_bool ?_))))) hlp hk)) hlb hk))))) hlp hk)) hla hk)))
  rw [beq1]
  have q := h _ (Keeps.trans (Keeps.trans (Keeps.trans k₁ k₂) (Keeps.trans k₃ k₄)) (keeps_tok s₄ (s₄.toks + 1 + 1 + 1 + 1 + 1 + 1)))
  by_cases e : cx = cy
  · rw [if_pos (by simpa using e)]
    refine wpAny_allTrue_And_nil ?_
    rw [decide_eq_true e] at q; exact q
  · rw [if_neg (by simpa using e)]
    rw [decide_eq_false e] at q; exact q
theorem pre3_0 {p1 p2 p3 p4 p5 p6 p7 p8 q1 q2 q3 q4 q5 q6 q7 pos : Pos} {whole : Sem Value} {Q : Bool → Shared → Prop} {a1 b1 c1 a2 b2 c2 : Nat} {ta tb tp : Tok} (V : Vw w env m cm s.heap)
    (ha : m (Str.ofString "a") = some (.str ⟨#[a1, b1, c1]⟩ ta)) (hb : m (Str.ofString "b") = some (.str ⟨#[a2, b2, c2]⟩ tb)) (hp : m (Str.ofString "pre") = some (.int 0 tp))
    (hla : env.kindOf (Str.ofString "a") = some .local) (hlb : env.kindOf (Str.ofString "b") = some .local) (hlp : env.kindOf (Str.ofString "pre") = some .local) (hk : env.scope.kind = .function)
    (h : ∀ s', Keeps s s' → Q (decide (a1 = a2)) s') :
    wpAny (model prog w) A (isTrue (.BoolOp .And [.Subscript (.Name "a" p1) (.Slice (some (.Name "pre" p2)) none none p3) p4, .Subscript (.Name "b" p5) (.Slice (some (.Name "pre" p6)) none none p7) p8,
      .Compare (.Subscript (.Name "a" q1) (.Name "pre" q2) q3) [.Eq] [.Subscript (.Name "b" q4) (.Name "pre" q5) q6] q7] pos) env whole) Q E s :=
  pre_test V ha hb hp (s3_0 _ _ _) (s3_0 _ _ _) rfl rfl (Nat.le_of_ble_eq_true rfl) (Nat.le_of_ble_eq_true rfl) (Nat.le_of_ble_eq_true rfl) (Nat.le_of_ble_eq_true rfl) (by decide) (by decide) (show (0 : Int) < 3 by decide) (show (0 : Int) < 3 by decide) (i3_0 _ _ _) (i3_0 _ _ _) hla hlb hlp hk h
theorem pre3_1 {p1 p2 p3 p4 p5 p6 p7 p8 q1 q2 q3 q4 q5 q6 q7 pos : Pos} {whole : Sem Value} {Q : Bool → Shared → Prop} {a1 b1 c1 a2 b2 c2 : Nat} {ta tb tp : Tok} (V : Vw w env m cm s.heap)
    (ha : m (Str.ofString "a") = some (.str ⟨#[a1, b1, c1]⟩ ta)) (hb : m (Str.ofString "b") = some (.str ⟨#[a2, b2, c2]⟩ tb)) (hp : m (Str.ofString "pre") = some (.int 1 tp))
    (hla : env.kindOf (Str.ofString "a") = some .local) (hlb : env.kindOf (Str.ofString "b") = some .local) (hlp : env.kindOf (Str.ofString "pre") = some .local) (hk : env.scope.kind = .function)
    (h : ∀ s', Keeps s s' → Q (decide (b1 = b2)) s') :
    wpAny (model prog w) A (isTrue (.BoolOp .And [.Subscript (.Name "a" p1) (.Slice (some (.Name "pre" p2)) none none p3) p4, .Subscript (.Name "b" p5) (.Slice (some (.Name "pre" p6)) none none p7) p8,
      .Compare (.Subscript (.Name "a" q1) (.Name "pre" q2) q3) [.Eq] [.Subscript (.Name "b" q4) (.Name "pre" q5) q6] q7] pos) env whole) Q E s :=
  pre_test V ha hb hp (s3_1 _ _ _) (s3_1 _ _ _) rfl rfl (Nat.le_of_ble_eq_true rfl) (Nat.le_of_ble_eq_true rfl) (Nat.le_of_ble_eq_true rfl) (Nat.le_of_ble_eq_true rfl) (by decide) (by decide) (show (1 : Int) < 3 by decide) (show (1 : Int) < 3 by decide) (i3_1 _ _ _) (i3_1 _ _ _) hla hlb hlp hk h
theorem pre3_2 {p1 p2 p3 p4 p5 p6 p7 p8 q1 q2 q3 q4 q5 q6 q7 pos : Pos} {whole : Sem Value} {Q : Bool → Shared → Prop} {a1 b1 c1 a2 b2 c2 : Nat} {ta tb tp : Tok} (V : Vw w env m cm s.heap)
    (ha : m (Str.ofString "a") = some (.str ⟨#[a1, b1, c1]⟩ ta)) (hb : m (Str.ofString "b") = some (.str ⟨#[a2, b2, c2]⟩ tb)) (hp : m (Str.ofString "pre") = some (.int 2 tp))
    (hla : env.kindOf (Str.ofString "a") = some .local) (hlb : env.kindOf (Str.ofString "b") = some .local) (hlp : env.kindOf (Str.ofString "pre") = some .local) (hk : env.scope.kind = .function)
    (h : ∀ s', Keeps s s' → Q (decide (c1 = c2)) s') :
    wpAny (model prog w) A (isTrue (.BoolOp .And [.Subscript (.Name "a" p1) (.Slice (some (.Name "pre" p2)) none none p3) p4, .Subscript (.Name "b" p5) (.Slice (some (.Name "pre" p6)) none none p7) p8,
      .Compare (.Subscript (.Name "a" q1) (.Name "pre" q2) q3) [.Eq] [.Subscript (.Name "b" q4) (.Name "pre" q5) q6] q7] pos) env whole) Q E s :=
  pre_test V ha hb hp (s3_2 _ _ _) (s3_2 _ _ _) rfl rfl (Nat.le_of_ble_eq_true rfl) (Nat.le_of_ble_eq_true rfl) (Nat.le_of_ble_eq_true rfl) (Nat.le_of_ble_eq_true rfl) (by decide) (by decide) (show (2 : Int) < 3 by decide) (show (2 : Int) < 3 by decide) (i3_2 _ _ _) (i3_2 _ _ _) hla hlb hlp hk h
theorem post2_0 {p1 p2 p3 p4 p5 p6 p7 p8 p9 q1 q2 q3 q4 q5 q6 q7 q8 q9 r1 r2 r3 r4 r5 pos : Pos} {kk kk' k1 k2 : Nat} {whole : Sem Value} {Q : Bool → Shared → Prop} {b1 c1 b2 c2 : Nat} {ta tb tp : Tok} (V : Vw w env m cm s.heap)
    (ha : m (Str.ofString "a") = some (.str ⟨#[b1, c1]⟩ ta)) (hb : m (Str.ofString "b") = some (.str ⟨#[b2, c2]⟩ tb)) (hp : m (Str.ofString "post") = some (.int 0 tp))
    (hla : env.kindOf (Str.ofString "a") = some .local) (hlb : env.kindOf (Str.ofString "b") = some .local) (hlp : env.kindOf (Str.ofString "post") = some .local) (hk : env.scope.kind = .function)
    (h : ∀ s', Keeps s s' → Q (decide (c1 = c2)) s') :
    wpAny (model prog w) A (isTrue (.BoolOp .And [.Subscript (.Name "a" p1) (.Slice none (some (.BoolOp .Or [.Name "post" p2, .Constant .none kk p3] p4)) none p5) p6,
      .Subscript (.Name "b" p7) (.Slice none (some (.BoolOp .Or [.Name "post" p8, .Constant .none kk' p9] q1)) none q2) q3,
      .Compare (.Subscript (.Name "a" q4) (.BinOp (.Name "post" q5) .Sub (.Constant (.int 1) k1 q6) q7) q8) [.Eq] [.Subscript (.Name "b" q9) (.BinOp (.Name "post" r1) .Sub (.Constant (.int 1) k2 r2) r3) r4] r5] pos) env whole) Q E s :=
  post_test V ha hb hp (sn_2' _ _) (sn_2' _ _) rfl rfl (Nat.le_of_ble_eq_true rfl) (Nat.le_of_ble_eq_true rfl) (Nat.le_of_ble_eq_true rfl) (Nat.le_of_ble_eq_true rfl) (by decide) (show -(2 : Int) ≤ 0 - 1 by decide) (show -(2 : Int) ≤ 0 - 1 by decide) (show (0 : Int) - 1 < 2 by decide) (show (0 : Int) - 1 < 2 by decide) (i2_m1 _ _) (i2_m1 _ _) hla hlb hlp hk h
theorem post2_1 {p1 p2 p3 p4 p5 p6 p7 p8 p9 q1 q2 q3 q4 q5 q6 q7 q8 q9 r1 r2 r3 r4 r5 pos : Pos} {kk kk' k1 k2 : Nat} {whole : Sem Value} {Q : Bool → Shared → Prop} {b1 c1 b2 c2 : Nat} {ta tb tp : Tok} (V : Vw w env m cm s.heap)
    (ha : m (Str.ofString "a") = some (.str ⟨#[b1, c1]⟩ ta)) (hb : m (Str.ofString "b") = some (.str ⟨#[b2, c2]⟩ tb)) (hp : m (Str.ofString "post") = some (.int (-1) tp))
    (hla : env.kindOf (Str.ofString "a") = some .local) (hlb : env.kindOf (Str.ofString "b") = some .local) (hlp : env.kindOf (Str.ofString "post") = some .local) (hk : env.scope.kind = .function)
    (h : ∀ s', Keeps s s' → Q (decide (b1 = b2)) s') :
    wpAny (model prog w) A (isTrue (.BoolOp .And [.Subscript (.Name "a" p1) (.Slice none (some (.BoolOp .Or [.Name "post" p2, .Constant .none kk p3] p4)) none p5) p6,
      .Subscript (.Name "b" p7) (.Slice none (some (.BoolOp .Or [.Name "post" p8, .Constant .none kk' p9] q1)) none q2) q3,
      .Compare (.Subscript (.Name "a" q4) (.BinOp (.Name "post" q5) .Sub (.Constant (.int 1) k1 q6) q7) q8) [.Eq] [.Subscript (.Name "b" q9) (.BinOp (.Name "post" r1) .Sub (.Constant (.int 1) k2 r2) r3) r4] r5] pos) env whole) Q E s :=
  post_test V ha hb hp (sm_2' _ _) (sm_2' _ _) rfl rfl (Nat.le_of_ble_eq_true rfl) (Nat.le_of_ble_eq_true rfl) (Nat.le_of_ble_eq_true rfl) (Nat.le_of_ble_eq_true rfl) (by decide) (show -(2 : Int) ≤ (-1) - 1 by decide) (show -(2 : Int) ≤ (-1) - 1 by decide) (show ((-1) : Int) - 1 < 2 by decide) (show ((-1) : Int) - 1 < 2 by decide) (i2_m2 _ _) (i2_m2 _ _) hla hlb hlp hk h
theorem post1_0 {p1 p2 p3 p4 p5 p6 p7 p8 p9 q1 q2 q3 q4 q5 q6 q7 q8 q9 r1 r2 r3 r4 r5 pos : Pos} {kk kk' k1 k2 : Nat} {whole : Sem Value} {Q : Bool → Shared → Prop} {b1 b2 : Nat} {ta tb tp : Tok} (V : Vw w env m cm s.heap)
    (ha : m (Str.ofString "a") = some (.str ⟨#[b1]⟩ ta)) (hb : m (Str.ofString "b") = some (.str ⟨#[b2]⟩ tb)) (hp : m (Str.ofString "post") = some (.int 0 tp))
    (hla : env.kindOf (Str.ofString "a") = some .local) (hlb : env.kindOf (Str.ofString "b") = some .local) (hlp : env.kindOf (Str.ofString "post") = some .local) (hk : env.scope.kind = .function)
    (h : ∀ s', Keeps s s' → Q (decide (b1 = b2)) s') :
    wpAny (model prog w) A (isTrue (.BoolOp .And [.Subscript (.Name "a" p1) (.Slice none (some (.BoolOp .Or [.Name "post" p2, .Constant .none kk p3] p4)) none p5) p6,
      .Subscript (.Name "b" p7) (.Slice none (some (.BoolOp .Or [.Name "post" p8, .Constant .none kk' p9] q1)) none q2) q3,
      .Compare (.Subscript (.Name "a" q4) (.BinOp (.Name "post" q5) .Sub (.Constant (.int 1) k1 q6) q7) q8) [.Eq] [.Subscript (.Name "b" q9) (.BinOp (.Name "post" r1) .Sub (.Constant (.int 1) k2 r2) r3) r4] r5] pos) env whole) Q E s :=
  post_test V ha hb hp (sn_1' _) (sn_1' _) rfl rfl (Nat.le_of_ble_eq_true rfl) (Nat.le_of_ble_eq_true rfl) (Nat.le_of_ble_eq_true rfl) (Nat.le_of_ble_eq_true rfl) (by decide) (show -(1 : Int) ≤ 0 - 1 by decide) (show -(1 : Int) ≤ 0 - 1 by decide) (show (0 : Int) - 1 < 1 by decide) (show (0 : Int) - 1 < 1 by decide) (i1_m1 _) (i1_m1 _) hla hlb hlp hk h
end
theorem ints_by' (f : Nat → Int) : ∀ (off : Nat) (vs : List Value), (∀ (j : Nat) (v : Value), vs[j]? = some v → ∃ t, v = Value.int (f (off + j)) t) → IntsAre vs ((List.range' off vs.length).map f)
  | _, [], _ => .nil
  | off, v :: vs, h => by
    obtain ⟨t, rfl⟩ := h 0 v rfl
    rw [List.length_cons, List.range'_succ, List.map_cons]
    refine .cons _ t (ints_by' f (off + 1) vs fun j u hj => ?_)
    obtain ⟨t2, e⟩ := h (j + 1) u (by simpa using hj)
    exact ⟨t2, by rw [e]; congr 2; omega⟩
theorem row_small : ∀ n, 1 ≤ n → n ≤ 2 → Builtin.Range.small 2 (2 * (((n : Nat) : Int) + 1)) 2 = true ∧ Builtin.Range.rangeSize 2 (2 * (((n : Nat) : Int) + 1)) 2 = ((n : Nat) : Int) := by
  intro n h1 h2
  have : n = 1 ∨ n = 2 := by omega
  rcases this with rfl | rfl <;> exact ⟨by decide, by decide⟩
section
variable {prog : Program} {w : World} {A : Around} {E : Value → Shared → Prop} {s : Shared} {env : Env} {m cm : Str → Option Value}
/-- list(range(2, 2 * (len(a) + 1), 2)) -/
theorem ev_row {p1 p2 p3 p4 p5 p6 p7 p8 p9 q1 q2 q3 q4 : Pos} {kk : Nat} {X : Str} {ta : Tok} {Q : Value → Shared → Prop} (hh : A.handled = none) (V : Vw w env m cm s.heap)
    (hlist : env.kindOf "list" = some .globalImplicit) (hrange : env.kindOf "range" = some .globalImplicit) (hlen : env.kindOf "len" = some .globalImplicit) (hmove : env.kindOf "_MOVE_COST" = some .globalImplicit) (hla : env.kindOf (Str.ofString "a") = some .local)
    (hg : env.globals = mainGlobals) (hb : env.builtins = builtinsNs) (hk : env.scope.kind = .function) (ha : m (Str.ofString "a") = some (.str X ta)) (h1 : 1 ≤ X.length) (h2 : X.length ≤ 2)
    (h : ∀ a acc s', Keeps s s' → s'.heap.IsList a acc → IntsAre acc.toList (row0 X.length) → s.heap.get? a = none → Q (.ref a) s') :
    wpAny (model prog w) A (eval (.Call (.Name "list" p1) [.Call (.Name "range" p2) [.Name "_MOVE_COST" p3, .BinOp (.Name "_MOVE_COST" p6) .Mult (.BinOp (.Call (.Name "len" p7) [.Name "a" p8] [] p9) .Add (.Constant (.int 1) kk q1) q2) p4, .Name "_MOVE_COST" p5] [] q3] [] q4) env) Q E s := by
  have hrow := row_small X.length h1 h2
  refine wpAny_Call_NameR (ev_bltn V (n_list _) b_list ?_ (by decide) hlist hg hb hk (by decide))
  refine PyProof.Rows.callWith_type1 (wpAny_items_cons (wpAny_Call_NameR (ev_bltn V (n_range _) b_range ?_ (by decide) hrange hg hb hk (by decide))))
  refine PyProof.Rows.callWith_type1 (wpAny_items_cons (ev_glob V (g_move _) (wpAny_items_cons (wpAny_BinOp (ev_glob V (g_move _) (wpAny_BinOp ?_) hmove hg hk))) hmove hg hk))
  refine ev_slen V hlen hg hb hk (ev_local V ha ⟨_, _, rfl, by omega, fun t7 j7 => wpAny_Constant_int (PyProof.Rows.add_int (PyProof.Rows.mul_int ?_))⟩ hla hk)
  have V2 : Vw w env m cm ({ s with toks := j7 + 1 + 1 + 1 } : Shared).heap := V
  refine wpAny_items_cons (ev_glob V2 (g_move _) (wpAny_items_nil (call_range_3 (by decide) (wpAny_items_nil ?_))) hmove hg hk)
  refine call_list_range hh (n := X.length) (Heap.get?_push_size _ rfl) hrow.1 hrow.2 (by omega) fun h' tk acc c' hk' hl hacc => ?_
  refine h _ acc _ ⟨h', tk, rfl, fun b o e => hk' b o (Heap.get?_push_of_some _ e)⟩ ⟨_, hl, rfl, c', rfl⟩ ?_ ?_
  · have := ints_by' (fun j => 2 + ((j : Nat) : Int) * 2) 0 acc.toList fun j v hj => by
      obtain ⟨t8, e⟩ := hacc.2 j v (by simpa using hj)
      exact ⟨t8, by rw [e]; congr 2; omega⟩
    rw [Array.length_toList, hacc.1, ← List.range_eq_range'] at this
    exact this
  · rw [Heap.size_push]
    cases q : s.heap.get? (s.heap.objs.size + 1) with
    | none => rfl
    | some o => exact absurd (Heap.lt_size q) (Nat.not_lt.mpr (Nat.le_succ _))
end
end Mine

/-! part P1 -/
set_option linter.unusedSimpArgs false
namespace Mine
theorem one_ok {x y : Nat} (h : x ≠ y) : (∀ i, i < [x].length → (inF [x] ([y].getD i 0) i (outF [x] [y] i).2 [x].length).2.2.1 ≤ 4) ∧ (outF [x] [y] [x].length).1 = 2 := by
  have e : sub y x = 2 := if_neg (Ne.symm h)
  refine ⟨fun i hi => ?_, ?_⟩
  · have : i = 0 := by simp at hi; exact hi
    subst this
    simp [inF, outF, inS, outS, row0, List.range_succ, e]; decide
  · simp [inF, outF, inS, outS, row0, List.range_succ, e]; decide
theorem two_ok {x1 x2 y1 y2 : Nat} (h1 : x1 ≠ y1) (h2 : x2 ≠ y2) : (∀ i, i < [x1, x2].length → (inF [x1, x2] ([y1, y2].getD i 0) i (outF [x1, x2] [y1, y2] i).2 [x1, x2].length).2.2.1 ≤ 4) ∧ (outF [x1, x2] [y1, y2] [x1, x2].length).1 = 4 := by
  have e11 : sub y1 x1 = 2 := if_neg (Ne.symm h1)
  have e22 : sub y2 x2 = 2 := if_neg (Ne.symm h2)
  have c12 : sub y1 x2 = 0 ∨ sub y1 x2 = 2 := by unfold sub; by_cases q : y1 = x2 <;> simp [q]
  have c21 : sub y2 x1 = 0 ∨ sub y2 x1 = 2 := by unfold sub; by_cases q : y2 = x1 <;> simp [q]
  refine ⟨fun i hi => ?_, ?_⟩
  · have : i = 0 ∨ i = 1 := by simp at hi; omega
    rcases this with rfl | rfl <;> rcases c12 with e12 | e12 <;> rcases c21 with e21 | e21 <;> (simp [inF, outF, inS, outS, row0, List.range_succ, e11, e12, e21, e22]; decide)
  · rcases c12 with e12 | e12 <;> rcases c21 with e21 | e21 <;> (simp [inF, outF, inS, outS, row0, List.range_succ, e11, e12, e21, e22]; decide)
end Mine

/-! part L3 -/
namespace Mine
theorem lower_inj : ∀ c ∈ [48, 49, 50, 51, 52, 53, 54, 55, 56, 57, 65, 66, 67, 68, 69, 70], ∀ d ∈ [48, 49, 50, 51, 52, 53, 54, 55, 56, 57, 65, 66, 67, 68, 69, 70], (Txt.lower ⟨#[c]⟩ == Txt.lower ⟨#[d]⟩) = decide (c = d) := by decide +kernel
theorem ints_get {vs : List Value} {ns : List Int} (h : IntsAre vs ns) {j : Nat} (hj : j < ns.length) : ∃ t, vs[j]? = some (.int (ns.getD j 0) t) := by
  obtain ⟨t, e⟩ := h.get j ns[j] (List.getElem?_eq_getElem hj)
  exact ⟨t, by rw [e, List.getD_eq_getElem?_getD, List.getElem?_eq_getElem hj]; rfl⟩
theorem ints_set : ∀ {vs : List Value} {ns : List Int} (j : Nat) (r : Int) (t : Tok), IntsAre vs ns → IntsAre (vs.set j (.int r t)) (ns.set j r)
  | _, _, _, _, _, .nil => .nil
  | _, _, 0, r, t, .cons _ _ h => .cons r t h
  | _, _, j + 1, r, t, .cons n u h => .cons n u (ints_set j r t h)
section
variable {w : World} {A : Around} {s : Shared}
theorem subst_ok {c d : Nat} {t u : Tok} {Q : Value → Shared → Prop} {E : Value → Shared → Prop} (B : Bs w s.heap) (hroom : A.depth < recursionLimit) (hc : Hex c) (hd : Hex d)
    (h : ∀ t' s', Keeps s s' → Q (.int (sub c d) t') s') :
    wpAny (model PySem.Challenge.rw_rl0023_01.row.prog w) A (call (.ref 49) [.str ⟨#[c]⟩ t, .str ⟨#[d]⟩ u]) Q E s := by
  obtain ⟨p, l, mg, mb, T⟩ := B.tr
  refine wpAny_call (subst_spec B.kx T hroom rfl rfl (fun hne e => ?_) fun h' tk tk' k => ?_)
  · have := lower_inj c hc d hd
    rw [e] at this
    simp at this
    exact hne (by rw [this])
  · have := h tk' _ ⟨h', tk, rfl, k⟩
    unfold sub at this
    by_cases e : c = d
    · subst e; rw [if_pos rfl] at this ⊢; exact this
    · rw [if_neg e] at this
      rw [if_neg (fun q => e (by simpa using q))]
      exact this

theorem lev_ok (w : World) : LevOk w := by
  intro A s c1 c2 d1 d2 t u v R B hh hroom hc1 hc2 hd1 hd2 hR
  have X := B.kx
  revert X; k_fill; intro X
  refine' call1 (binds := [(Str.ofString "a", .str ⟨#[61, c1, c2]⟩ t), (Str.ofString "b", .str ⟨#[61, d1, d2]⟩ u), (Str.ofString "max_cost", .int 4 v)]) B ?k6 ?k7 (by omega) ?k9 ?kB ?_ ?c2 ?c3 ?c4; (case k6 => k_is); (case k7 => k_is); (case k9 => exact rfl); (case kB => exact rfl); (case c2 => exact rfl); (case c3 => exact rfl); (case c4 => exact rfl)
  intro L s₁ hL x
  show wpAny _ _ (execs _ (envOfC _ _ _ _ _)) _ _ _
  generalize hA : A.deeper _ = A'
  have hh' : A'.handled = none := by rw [← hA]; exact hh
  have hr' : A'.depth < recursionLimit := by rw [← hA]; show A.depth + 1 < _; omega
  obtain ⟨m, cm, x, ha, hb, hmc⟩ : ∃ m cm, InCallC s L m [] cm s₁ ∧ m (Str.ofString "a") = some (.str ⟨#[61, c1, c2]⟩ t) ∧ m (Str.ofString "b") = some (.str ⟨#[61, d1, d2]⟩ u) ∧ m (Str.ofString "max_cost") = some (.int 4 v) := ⟨_, _, x, rfl, rfl, rfl⟩
  clear hA
  refine execs_split 9 ?_
  generalize ht : List.drop 9 _ = tail
  generalize hE : envOfC _ _ _ _ _ = env
  have T : ∀ (xs ys : List Nat) (ta tb : Tok) (s₂ : Shared) (m₂ : Str → Option Value), xs.length = ys.length → 1 ≤ xs.length → xs.length ≤ 2 → (∀ c ∈ xs, Hex c) → (∀ c ∈ ys, Hex c) →
      (∀ i, i < xs.length → (inF xs (ys.getD i 0) i (outF xs ys i).2 xs.length).2.2.1 ≤ 4) → (((outF xs ys xs.length).1 == 4) = (c1 != d1 && c2 != d2)) →
      InCallC s L m₂ [] cm s₂ → m₂ (Str.ofString "a") = some (.str ⟨xs.toArray⟩ ta) → m₂ (Str.ofString "b") = some (.str ⟨ys.toArray⟩ tb) → m₂ (Str.ofString "max_cost") = some (.int 4 v) →
      wpAny (model PySem.Challenge.rw_rl0023_01.row.prog w) A' (execs tail env) (fun fl s' => R (.ok (.ret (match fl with | .ret v => v | _ => .none))) s') (fun _ _ => False) s₂ := by
    intro xs ys ta tb s₂ m₂ hxy h1 h2 hx hy hmn hend x₂ ha hb hmc
    subst hE
    rw [← ht]
    show wpAny _ _ (execs (_ :: _) _) _ _ _
    have hlx : (⟨xs.toArray⟩ : Str).length = xs.length := by simp [Str.length]
    have hly : (⟨ys.toArray⟩ : Str).length = ys.length := by simp [Str.length]
    have ne0 : ∀ n : Nat, 1 ≤ n → (!(n != 0)) = false := fun n hn => by simp; omega
    -- if not a or not b
    refine wpAny_execs_cons (wpAny_If (wpAny_isTrue_BoolOp (wpAny_allTrue_Or_cons (wpAny_isTrue_Not (wpAny_isTrue_value (ev_local (ic_vw x₂ B) ha (truthy_txt (by omega) fun s₃ k₃ => ?_)))))))
    have x₃ := ic_keeps x₂ k₃
    rw [ne0 _ (by omega), if_neg Bool.false_ne_true]
    refine wpAny_allTrue_Or_cons (wpAny_isTrue_Not (wpAny_isTrue_value (ev_local (ic_vw x₃ B) hb (truthy_txt (by omega) fun s₄ k₄ => ?_))))
    have x₄ := ic_keeps x₃ k₄
    rw [ne0 _ (by omega), if_neg Bool.false_ne_true]
    refine wpAny_allTrue_Or_nil ?_
    rw [if_neg Bool.false_ne_true]
    refine wpAny_execs_nil ?_
    show wpAny _ _ _ _ _ _
    -- if len(a) > 40 or len(b) > 40
    refine wpAny_execs_cons (wpAny_If (wpAny_isTrue_BoolOp (wpAny_allTrue_Or_cons (wpAny_isTrue_Compare1 (ev_slen (ic_vw x₄ B) rfl rfl rfl rfl (ev_local (ic_vw x₄ B) ha ⟨_, _, rfl, by omega, fun t1 j1 => ev_glob (ic_vw (ic_keeps x₄ (keeps_tok s₄ j1)) B) (g_max _) (PyProof.Rows.gt_int (wpAny_truthy_bool ?_))⟩))))))
    rw [decide_eq_false (by omega), if_neg Bool.false_ne_true]
    have x₅ := ic_keeps x₄ (keeps_tok s₄ j1)
    refine wpAny_allTrue_Or_cons (wpAny_isTrue_Compare1 (ev_slen (ic_vw x₅ B) rfl rfl rfl rfl (ev_local (ic_vw x₅ B) hb ⟨_, _, rfl, by omega, fun t2 j2 => ev_glob (ic_vw (ic_keeps x₅ (keeps_tok _ j2)) B) (g_max _) (PyProof.Rows.gt_int (wpAny_truthy_bool ?_))⟩)))
    rw [decide_eq_false (by omega), if_neg Bool.false_ne_true]
    have x₆ := ic_keeps x₅ (keeps_tok _ j2)
    refine wpAny_allTrue_Or_nil ?_
    rw [if_neg Bool.false_ne_true]
    refine wpAny_execs_nil ?_
    show wpAny _ _ _ _ _ _
    -- if len(b) < len(a)
    refine wpAny_execs_cons (wpAny_If (wpAny_isTrue_Compare1 (ev_slen (ic_vw x₆ B) rfl rfl rfl rfl (ev_local (ic_vw x₆ B) hb ⟨_, _, rfl, by omega, fun t3 j3 => ?_⟩))))
    have x₇ := ic_keeps x₆ (keeps_tok _ j3)
    refine ev_slen (ic_vw x₇ B) rfl rfl rfl rfl (ev_local (ic_vw x₇ B) ha ⟨_, _, rfl, by omega, fun t4 j4 => PyProof.Rows.lt_int (wpAny_truthy_bool ?_)⟩)
    rw [decide_eq_false (by omega), if_neg Bool.false_ne_true]
    have x₈ := ic_keeps x₇ (keeps_tok _ j4)
    refine wpAny_execs_nil ?_
    show wpAny _ _ _ _ _ _
    -- if (len(b) - len(a)) * 2 > max_cost
    refine wpAny_execs_cons (wpAny_If (wpAny_isTrue_Compare1 (wpAny_BinOp (wpAny_BinOp (ev_slen (ic_vw x₈ B) rfl rfl rfl rfl (ev_local (ic_vw x₈ B) hb ⟨_, _, rfl, by omega, fun t5 j5 => ?_⟩))))))
    have x₉ := ic_keeps x₈ (keeps_tok _ j5)
    refine ev_slen (ic_vw x₉ B) rfl rfl rfl rfl (ev_local (ic_vw x₉ B) ha ⟨_, _, rfl, by omega, fun t6 j6 => ?_⟩)
    have x₁₀ := ic_keeps x₉ (keeps_tok _ j6)
    have e0 : (((⟨ys.toArray⟩ : Str).length : Int) - ((⟨xs.toArray⟩ : Str).length : Int)) = 0 := by omega
    refine PyProof.Rows.sub_int ?_
    rw [e0]
    have x₁₁ := ic_keeps x₁₀ (keeps_tok _ (j6 + 1))
    refine ev_glob (ic_vw x₁₁ B) (g_move _) (PyProof.Rows.mul_int ?_)
    have x₁₂ := ic_keeps x₁₁ (keeps_tok _ (j6 + 1 + 1))
    refine ev_local (ic_vw x₁₂ B) hmc (PyProof.Rows.gt_int (wpAny_truthy_bool ?_))
    rw [if_neg (by decide)]
    refine wpAny_execs_nil ?_
    show wpAny _ _ _ _ _ _
    -- row = list(range(2, 2 * (len(a) + 1), 2))
    refine wpAny_execs_cons (wpAny_Assign_Name (ev_row hh' (ic_vw x₁₂ B) rfl rfl rfl rfl rfl rfl rfl rfl ha (by omega) (by omega) fun aR acc s₁₃ k₁₃ pR13 iR haR => st_local (ic_keeps x₁₂ k₁₃) (fun s₁₅ x₁₅ tr₁₅ => ?_)))
    show wpAny _ _ _ _ _ _
    rw [hlx] at iR
    have haR0 : s.heap.get? aR = none := by
      cases q : s.heap.get? aR with
      | none => rfl
      | some o => have := x₁₂.toInCall.keep _ _ q; rw [haR] at this; cases this
    have pR : s₁₅.heap.IsList aR acc := tr₁₅.isList pR13 (by simp)
    -- result = 0
    refine wpAny_execs_cons (wpAny_Assign_Name (wpAny_Constant_int (st_local (ic_keeps x₁₅ (keeps_tok s₁₅ (s₁₅.toks + 1))) (fun s₁₆ x₁₆ tr₁₆ => ?_))))
    show wpAny _ _ _ _ _ _
    -- the loop
    refine wpAny_execs_cons (wpAny_For (range_it (ic_vw x₁₆ B) rfl rfl rfl rfl (ev_slen (ic_vw x₁₆ B) rfl rfl rfl rfl (ev_local (ic_vw x₁₆ B) (upd_at (upd_at hb)) ⟨_, _, rfl, by omega, fun t9 j9 => ⟨_, _, rfl, by omega, fun I s₁₇ k₁₇ hI hI1 hI2 hI3 => ?_⟩⟩))))
    rw [hly, ← hxy] at hI
    have hI0 : s.heap.get? I = none := by
      cases q : s.heap.get? I with
      | none => rfl
      | some o => have := x₁₆.toInCall.keep _ _ q; rw [show s₁₆.heap.get? I = none from hI3] at this; cases this
    refine for_walk (Walks.range hh' I 0 1 xs.length) (fun i s' => ∃ m', InCallC s L m' [] cm s' ∧ m' (Str.ofString "a") = some (.str ⟨xs.toArray⟩ ta) ∧ m' (Str.ofString "b") = some (.str ⟨ys.toArray⟩ tb) ∧ m' (Str.ofString "max_cost") = some (.int 4 v) ∧ m' (Str.ofString "row") = some (.ref aR) ∧
        (∃ t, m' (Str.ofString "result") = some (.int (outF xs ys i).1 t)) ∧ ∃ rs, s'.heap.IsList aR rs ∧ IntsAre rs.toList (outF xs ys i).2)
      (fun _ _ _ _ _ _ _ h => go_name h) hI ?_ ?_ ?_ ?_
    · exact ⟨_, ic_keeps (ic_keeps x₁₆ (keeps_tok _ _)) k₁₇, upd_at (upd_at ha), upd_at (upd_at hb), upd_at (upd_at hmc), upd_at upd_self, ⟨_, upd_self⟩, acc, (tr₁₆.isList pR (by simp)).at fun o e => Keeps.get k₁₇ _ o e, iR⟩
    · rintro i s' h' tk ⟨m', x, h1, h2, h3, h4, h5, rs, hp, hi⟩ st k
      exact ⟨m', ic_but x st pl_rng hI0 k, h1, h2, h3, h4, h5, rs, hp.at fun o e => k aR o (by simpa using list_ne_rng hp st) e, hi⟩
    · rintro i vv s₁₈ hi ⟨ti, rfl⟩ ⟨m', x₁₈, ha, hb, hmc, hrw, ⟨tr0, hres⟩, rs, hp, hrs⟩ st
      have ei : (0 + (i : Int) * 1) = ((i : Nat) : Int) := by omega
      rw [ei]
      have hiy : i < ys.length := by omega
      -- bindex
      refine wpAny_assign_Name (st_local x₁₈ (fun s₁₉ x₁₉ tr₁₉ => ?_))
      -- bchar = b[bindex]
      refine wpAny_execs_cons (wpAny_Assign_Name (Subscript_ (ev_local (ic_vw x₁₉ B) (upd_at hb) (ev_local (ic_vw x₁₉ B) upd_self ?_))))
      refine ev_chr (fitsSsize_of (N := 100) (by omega) (by omega) (by decide)) (by omega) (by omega) (item_at ys i hiy) (st_local (ic_keeps x₁₉ (keeps_tok s₁₉ (s₁₉.toks + 1))) (fun s₂₀ x₂₀ tr₂₀ => ?_))
      show wpAny _ _ _ _ _ _
      -- distance = result = bindex * 2
      refine wpAny_execs_cons (wpAny_Assign_two (wpAny_BinOp (ev_local (ic_vw x₂₀ B) (upd_at upd_self) (ev_glob (ic_vw x₂₀ B) (g_move _) (PyProof.Rows.mul_int ?_)))))
      refine wpAny_assign_Name (st_local (ic_keeps x₂₀ (keeps_tok s₂₀ (s₂₀.toks + 1))) (fun s₂₁ x₂₁ tr₂₁ => wpAny_assign_Name (st_local x₂₁ (fun s₂₂ x₂₂ tr₂₂ => ?_))))
      show wpAny _ _ _ _ _ _
      -- minimum
      refine wpAny_execs_cons (wpAny_Assign_Name (wpAny_Constant_int (st_local (ic_keeps x₂₂ (keeps_tok s₂₂ (s₂₂.toks + 1))) (fun s₂₃ x₂₃ tr₂₃ => ?_))))
      show wpAny _ _ _ _ _ _
      have trA : Tr [aR] s₁₈.heap s₂₃.heap := (tr₁₉.more (by simp)).trans ((Tr.more tr₂₀ (by simp)).trans ((Tr.more tr₂₁ (by simp)).trans ((tr₂₂.more (by simp)).trans (Tr.more tr₂₃ (by simp)))))
      have hp23 : s₂₃.heap.IsList aR rs := tr₂₃.isList (tr₂₂.isList (tr₂₁.isList (tr₂₀.isList (tr₁₉.isList hp (by simp)) (by simp)) (by simp)) (by simp)) (by simp)
      have hxI : ∀ c ∈ ys, Hex c := hy
      have hbc : Hex (ys.getD i 0) := by rw [List.getD_eq_getElem?_getD, List.getElem?_eq_getElem hiy]; exact hy _ (List.getElem_mem hiy)
      have stI : IsRangeIter s₂₃.heap I (0 + ((i + 1 : Nat) : Int) * 1) ((xs.length : Int) - ((i + 1 : Nat) : Int)) 1 := trA I _ st pl_rng (by simpa using Ne.symm (list_ne_rng hp st))
      refine wpAny_execs_cons (wpAny_For (range_it (ic_vw x₂₃ B) rfl rfl rfl rfl (ev_slen (ic_vw x₂₃ B) rfl rfl rfl rfl (ev_local (ic_vw x₂₃ B) (upd_at (upd_at (upd_at (upd_at (upd_at ha))))) ⟨_, _, rfl, by omega, fun t10 j10 => ⟨_, _, rfl, by omega, fun I2 s₂₄ k₂₄ hJ hJ1 hJ2 hJ3 => ?_⟩⟩))))
      rw [hlx] at hJ
      have hJ0 : s.heap.get? I2 = none := by
        cases q : s.heap.get? I2 with
        | none => rfl
        | some o => have := x₂₃.toInCall.keep _ _ q; rw [show s₂₃.heap.get? I2 = none from hJ3] at this; cases this
      have hII : I ≠ I2 := fun q => by
        have := stI; rw [q] at this
        have e := (show s₂₃.heap.get? I2 = none from hJ3).symm.trans this; cases e
      refine for_walk (Walks.range hh' I2 0 1 xs.length) (fun j s' => ∃ m'', InCallC s L m'' [] cm s' ∧ m'' (Str.ofString "a") = some (.str ⟨xs.toArray⟩ ta) ∧ m'' (Str.ofString "b") = some (.str ⟨ys.toArray⟩ tb) ∧ m'' (Str.ofString "max_cost") = some (.int 4 v) ∧ m'' (Str.ofString "row") = some (.ref aR) ∧
          (∃ t, m'' (Str.ofString "bchar") = some (.str ⟨#[ys.getD i 0]⟩ t)) ∧ (∃ t, m'' (Str.ofString "distance") = some (.int (inF xs (ys.getD i 0) i (outF xs ys i).2 j).1 t)) ∧ (∃ t, m'' (Str.ofString "result") = some (.int (inF xs (ys.getD i 0) i (outF xs ys i).2 j).2.1 t)) ∧
          (∃ t, m'' (Str.ofString "minimum") = some (.int (inF xs (ys.getD i 0) i (outF xs ys i).2 j).2.2.1 t)) ∧ (∃ rs, s'.heap.IsList aR rs ∧ IntsAre rs.toList (inF xs (ys.getD i 0) i (outF xs ys i).2 j).2.2.2) ∧
          IsRangeIter s'.heap I (0 + ((i + 1 : Nat) : Int) * 1) ((xs.length : Int) - ((i + 1 : Nat) : Int)) 1)
        (fun _ _ _ _ _ _ _ h => go_name h) hJ ?_ ?_ ?_ ?_
      · exact ⟨_, ic_keeps (ic_keeps x₂₃ (keeps_tok _ _)) k₂₄, upd_at (upd_at (upd_at (upd_at (upd_at ha)))), upd_at (upd_at (upd_at (upd_at (upd_at hb)))), upd_at (upd_at (upd_at (upd_at (upd_at hmc)))), upd_at (upd_at (upd_at (upd_at (upd_at hrw)))), ⟨_, upd_at (upd_at (upd_at upd_self))⟩, ⟨_, upd_at (upd_at upd_self)⟩, ⟨_, upd_at upd_self⟩, ⟨_, upd_self⟩, ⟨rs, hp23.at fun o e => Keeps.get k₂₄ _ o e, hrs⟩, Keeps.get k₂₄ _ _ stI⟩
      · rintro j s' h' tk ⟨m'', x, h1, h2, h3, h4, h5, h6, h7, h8, ⟨rs, hp, hi⟩, h9⟩ st k
        exact ⟨m'', ic_but x st pl_rng hJ0 k, h1, h2, h3, h4, h5, h6, h7, h8, ⟨rs, hp.at fun o e => k aR o (by simpa using list_ne_rng hp st) e, hi⟩, k I _ (by simpa using hII) h9⟩
      · rintro j vj s₂₅ hj ⟨tj, rfl⟩ ⟨m'', x₂₅, ha, hb, hmc, hrw, ⟨tbc, hbch⟩, ⟨td, hdist⟩, ⟨tr, hres⟩, ⟨tm, hmin⟩, ⟨rs, hp, hrs⟩, stI⟩ stJ
        have ej : (0 + (j : Int) * 1) = ((j : Nat) : Int) := by omega
        rw [ej]
        have eF := inF_succ xs (ys.getD i 0) i (outF xs ys i).2 j
        have hFl := inF_len xs (ys.getD i 0) i (outF xs ys i).2 j
        rw [outF_len] at hFl
        have hxc : Hex (xs.getD j 0) := by rw [List.getD_eq_getElem?_getD, List.getElem?_eq_getElem hj]; exact hx _ (List.getElem_mem hj)
        generalize inF xs (ys.getD i 0) i (outF xs ys i).2 j = F at *
        -- index
        refine wpAny_assign_Name (st_local x₂₅ (fun s₂₆ x₂₆ tr₂₆ => ?_))
        -- substitute
        refine wpAny_execs_cons (wpAny_Assign_Name (wpAny_BinOp (ev_local (ic_vw x₂₆ B) (upd_at hdist) ?_)))
        refine ev_fn (ic_vw x₂₆ B) (g_subst _) (by k_is) rfl rfl rfl (wpAny_items_cons (ev_local (ic_vw x₂₆ B) (upd_at hbch) (wpAny_items_cons (Subscript_ (ev_local (ic_vw x₂₆ B) (upd_at ha) (ev_local (ic_vw x₂₆ B) upd_self ?_))))))
        refine ev_chr (fitsSsize_of (N := 100) (by omega) (by omega) (by decide)) (by omega) (by omega) (item_at xs j hj) (wpAny_items_nil ⟨keeps_tok _ _, ?_⟩)
        refine subst_ok (B.keeps x₂₆.toInCall.keep) hr' hbc hxc fun t11 s₂₇ k₂₇ => PyProof.Rows.add_int ?_
        have x₂₇ := ic_keeps (ic_keeps x₂₆ (keeps_tok s₂₆ (s₂₆.toks + 1))) k₂₇
        refine st_local (ic_keeps x₂₇ (keeps_tok s₂₇ (s₂₇.toks + 1))) (fun s₂₈ x₂₈ tr₂₈ => ?_)
        show wpAny _ _ _ _ _ _
        have hp28 : s₂₈.heap.IsList aR rs := tr₂₈.isList ((tr₂₆.isList hp (by simp)).at fun o e => Keeps.get k₂₇ _ o e) (by simp)
        -- distance = row[index]
        obtain ⟨trj, hrj⟩ := ints_get hrs (j := j) (by omega)
        refine wpAny_execs_cons (wpAny_Assign_Name (Subscript_ (ev_local (ic_vw x₂₈ B) (upd_at (upd_at hrw)) (ev_local (ic_vw x₂₈ B) (upd_at upd_self) (item_list hp28 (by omega) (by omega) (by rw [← Array.getElem?_toList]; exact hrj) (st_local x₂₈ (fun s₂₉ x₂₉ tr₂₉ => ?_)))))))
        show wpAny _ _ _ _ _ _
        -- insert_delete = min(result, distance) + 2
        refine wpAny_execs_cons (wpAny_Assign_Name (wpAny_BinOp (ev_min2 hh' (ic_vw x₂₉ B) rfl rfl rfl rfl (ev_local (ic_vw x₂₉ B) (upd_at (upd_at (upd_at hres))) (ev_local (ic_vw x₂₉ B) upd_self ⟨_, _, _, _, rfl, rfl, fun t12 s₃₀ k₃₀ => ?_⟩)))))
        have x₃₀ := ic_keeps x₂₉ k₃₀
        refine ev_glob (ic_vw x₃₀ B) (g_move _) (PyProof.Rows.add_int (st_local (ic_keeps x₃₀ (keeps_tok s₃₀ (s₃₀.toks + 1))) (fun s₃₁ x₃₁ tr₃₁ => ?_)))
        show wpAny _ _ _ _ _ _
        -- result = min(insert_delete, substitute)
        refine wpAny_execs_cons (wpAny_Assign_Name (ev_min2 hh' (ic_vw x₃₁ B) rfl rfl rfl rfl (ev_local (ic_vw x₃₁ B) upd_self (ev_local (ic_vw x₃₁ B) (upd_at (upd_at upd_self)) ⟨_, _, _, _, rfl, rfl, fun t13 s₃₂ k₃₂ => st_local (ic_keeps x₃₁ k₃₂) (fun s₃₃ x₃₃ tr₃₃ => ?_)⟩))))
        show wpAny _ _ _ _ _ _
        have hp33 : s₃₃.heap.IsList aR rs := tr₃₃.isList ((tr₃₁.isList ((tr₂₉.isList hp28 (by simp)).at fun o e => Keeps.get k₃₀ _ o e) (by simp)).at fun o e => Keeps.get k₃₂ _ o e) (by simp)
        -- row[index] = result
        have hlr : rs.size = xs.length := by have := hrs.length; rw [Array.length_toList] at this; omega
        refine wpAny_execs_cons (wpAny_Assign_Subscript (ev_local (ic_vw x₃₃ B) upd_self (ev_local (ic_vw x₃₃ B) (upd_at (upd_at (upd_at (upd_at (upd_at hrw))))) (ev_local (ic_vw x₃₃ B) (upd_at (upd_at (upd_at (upd_at upd_self)))) (wpAny_setItem_list hp33 (by omega) (by omega) (by omega) fun h34 hl34 hs34 => ?_)))))
        show wpAny _ _ _ _ _ _
        have x₃₄ := ic_at (k := s₃₃.toks) x₃₃ hp33 haR0 hs34
        have trB : Tr [aR] s₂₅.heap h34 := (tr₂₆.more (by simp)).trans ((Tr.of_keep (Keeps.get k₂₇)).trans ((Tr.more tr₂₈ (by simp)).trans ((tr₂₉.more (by simp)).trans ((Tr.of_keep (Keeps.get k₃₀)).trans ((Tr.more tr₃₁ (by simp)).trans ((Tr.of_keep (Keeps.get k₃₂)).trans ((tr₃₃.more (by simp)).trans (Tr.of_at (by simp) hs34))))))))
        have hnI : I ∉ [aR] := by simpa using Ne.symm (list_ne_rng hp stI)
        have hnJ : I2 ∉ [aR] := by simpa using Ne.symm (list_ne_rng hp stJ)
        have hI34 := trB I _ stI pl_rng hnI
        have hJ34 := trB I2 _ stJ pl_rng hnJ
        have hi34 : IntsAre (rs.setIfInBounds ((j : Nat) : Int).toNat (.int (min (min F.2.1 (F.2.2.2.getD j 0) + 2) (F.1 + sub (ys.getD i 0) (xs.getD j 0))) t13)).toList (inF xs (ys.getD i 0) i (outF xs ys i).2 (j + 1)).2.2.2 := by
          rw [Array.toList_setIfInBounds, eF]
          exact ints_set j _ t13 hrs
        -- if result < minimum
        refine wpAny_execs_cons (wpAny_If (wpAny_isTrue_Compare1 (ev_local (ic_vw x₃₄ B) upd_self (ev_local (ic_vw x₃₄ B) (upd_at (upd_at (upd_at (upd_at (upd_at hmin))))) (PyProof.Rows.lt_int (wpAny_truthy_bool ?_))))))
        by_cases hlt : min (min F.2.1 (F.2.2.2.getD j 0) + 2) (F.1 + sub (ys.getD i 0) (xs.getD j 0)) < F.2.2.1
        · rw [if_pos (decide_eq_true hlt)]
          refine wpAny_execs_cons (wpAny_Assign_Name (ev_local (ic_vw x₃₄ B) upd_self (st_local x₃₄ (fun s₃₅ x₃₅ tr₃₅ => wpAny_execs_nil (wpAny_execs_nil ⟨?_, tr₃₅ I2 _ hJ34 pl_rng (by simp)⟩)))))
          have em : (inS xs (ys.getD i 0) F j).2.2.1 = min (min F.2.1 (F.2.2.2.getD j 0) + 2) (F.1 + sub (ys.getD i 0) (xs.getD j 0)) := if_pos hlt
          rw [eF] at hi34 ⊢
          exact ⟨_, x₃₅, upd_at (upd_at (upd_at (upd_at (upd_at (upd_at ha))))), upd_at (upd_at (upd_at (upd_at (upd_at (upd_at hb))))), upd_at (upd_at (upd_at (upd_at (upd_at (upd_at hmc))))), upd_at (upd_at (upd_at (upd_at (upd_at (upd_at hrw))))), ⟨_, upd_at (upd_at (upd_at (upd_at (upd_at (upd_at hbch)))))⟩,
            ⟨_, upd_at (upd_at (upd_at upd_self))⟩, ⟨_, upd_at upd_self⟩, ⟨_, by rw [em]; exact upd_self⟩, ⟨_, tr₃₅.isList hl34 (by simp), hi34⟩, tr₃₅ I _ hI34 pl_rng (by simp)⟩
        · rw [if_neg (by simpa using hlt)]
          refine wpAny_execs_nil (wpAny_execs_nil ⟨?_, hJ34⟩)
          have em : (inS xs (ys.getD i 0) F j).2.2.1 = F.2.2.1 := if_neg hlt
          rw [eF] at hi34 ⊢
          exact ⟨_, x₃₄, upd_at (upd_at (upd_at (upd_at (upd_at ha)))), upd_at (upd_at (upd_at (upd_at (upd_at hb)))), upd_at (upd_at (upd_at (upd_at (upd_at hmc)))), upd_at (upd_at (upd_at (upd_at (upd_at hrw)))), ⟨_, upd_at (upd_at (upd_at (upd_at (upd_at hbch))))⟩,
            ⟨_, upd_at (upd_at upd_self)⟩, ⟨_, upd_self⟩, ⟨_, by rw [em]; exact upd_at (upd_at (upd_at (upd_at (upd_at hmin))))⟩, ⟨_, hl34, hi34⟩, hI34⟩
      · rintro s₂₅ ⟨m'', x₂₅, ha, hb, hmc, hrw, _, _, ⟨tr, hres⟩, ⟨tm, hmin⟩, ⟨rs, hp, hrs⟩, stI⟩
        show wpAny _ _ _ _ _ _
        refine wpAny_execs_cons (wpAny_If (wpAny_isTrue_Compare1 (ev_local (ic_vw x₂₅ B) hmin (ev_local (ic_vw x₂₅ B) hmc (PyProof.Rows.gt_int (wpAny_truthy_bool ?_))))))
        rw [decide_eq_false (by have := hmn i hi; omega), if_neg Bool.false_ne_true]
        refine wpAny_execs_nil (wpAny_execs_nil ⟨⟨m'', x₂₅, ha, hb, hmc, hrw, ⟨tr, ?_⟩, rs, hp, ?_⟩, stI⟩)
        · rw [outF_succ]; exact hres
        · rw [outF_succ]; exact hrs
    · rintro s₁₈ ⟨m', x₁₈, ha, hb, hmc, hrw, ⟨tr0, hres⟩, rs, hp, hrs⟩
      show wpAny _ _ _ _ _ _
      refine wpAny_execs_cons (wpAny_Return_some (ev_local (ic_vw x₁₈ B) hres ?_))
      obtain ⟨h', tk, e, kk⟩ := x₁₈.done
      exact hR s₁₈ _ _ ⟨h', tk, e, kk⟩ hend
  subst hE
  show wpAny _ _ (execs (_ :: _) _) _ _ _
  -- if a == b: return 0
  refine wpAny_execs_cons (wpAny_If (wpAny_isTrue_Compare1 (ev_local (ic_vw x B) ha (ev_local (ic_vw x B) hb (PyProof.Rows.eq_str (wpAny_truthy_bool ?_))))))
  rw [beq3]
  by_cases e12 : (decide (c1 = d1) && decide (c2 = d2)) = true
  · rw [if_pos e12]
    refine wpAny_execs_cons (wpAny_Return_some (wpAny_Constant_int ?_))
    obtain ⟨h', tk, e, kk⟩ := (ic_keeps x (keeps_tok s₁ (s₁.toks + 1))).done
    refine hR _ 0 _ ⟨h', tk, e, kk⟩ ?_
    have e1 : c1 = d1 := by simp at e12; exact e12.1
    simp [e1]
  rw [if_neg e12]
  refine wpAny_execs_nil ?_
  show wpAny _ _ _ _ _ _
  -- pre = 0
  refine wpAny_execs_cons (wpAny_Assign_Name (wpAny_Constant_int (st_local (ic_keeps x (keeps_tok s₁ (s₁.toks + 1))) (fun s₂ x₂ tr₂ => ?_))))
  show wpAny _ _ _ _ _ _
  refine wpAny_execs_cons (wpAny_While (while_step (pre3_0 (ic_vw x₂ B) (upd_at ha) (upd_at hb) upd_self rfl rfl rfl rfl fun s₃ k₃ => ?_)))
  rw [if_pos (by decide)]
  have x₃ := ic_keeps x₂ k₃
  refine wpAny_execs_cons (wpAny_AugAssign_Name (wpAny_loadName_local rfl rfl x₃.toInCall.ns upd_self (wpAny_Constant_int (PyProof.Rows.iadd_int (st_local (ic_keeps x₃ (keeps_tok s₃ (s₃.toks + 1 + 1))) (fun s₄ x₄ tr₄ => wpAny_execs_nil ?_))))))
  refine while_step (pre3_1 (ic_vw x₄ B) (upd_at (upd_at ha)) (upd_at (upd_at hb)) upd_self rfl rfl rfl rfl fun s₅ k₅ => ?_)
  have x₅ := ic_keeps x₄ k₅
  by_cases e1 : c1 = d1
  · rw [if_pos (decide_eq_true e1)]
    have e2 : c2 ≠ d2 := fun q => e12 (by simp [e1, q])
    refine wpAny_execs_cons (wpAny_AugAssign_Name (wpAny_loadName_local rfl rfl x₅.toInCall.ns upd_self (wpAny_Constant_int (PyProof.Rows.iadd_int (st_local (ic_keeps x₅ (keeps_tok s₅ (s₅.toks + 1 + 1))) (fun s₆ x₆ tr₆ => wpAny_execs_nil ?_))))))
    refine while_step (pre3_2 (ic_vw x₆ B) (upd_at (upd_at (upd_at ha))) (upd_at (upd_at (upd_at hb))) upd_self rfl rfl rfl rfl fun s₇ k₇ => ?_)
    have x₇ := ic_keeps x₆ k₇
    rw [if_neg (by simpa using e2)]
    show wpAny _ _ _ _ _ _
    -- a = a[2:], b = b[2:]
    refine wpAny_execs_cons (wpAny_Assign_Name (ev_pre (ic_vw x₇ B) (upd_at (upd_at (upd_at ha))) upd_self (s3_2 _ _ _) (Nat.le_of_ble_eq_true rfl) rfl rfl rfl (by decide) fun t1 s₈ k₈ => st_local (ic_keeps x₇ k₈) (fun s₉ x₉ _ => ?_)))
    show wpAny _ _ _ _ _ _
    refine wpAny_execs_cons (wpAny_Assign_Name (ev_pre (ic_vw x₉ B) (upd_at (upd_at (upd_at (upd_at hb)))) (upd_at upd_self) (s3_2 _ _ _) (Nat.le_of_ble_eq_true rfl) rfl rfl rfl (by decide) fun t2 s₁₀ k₁₀ => st_local (ic_keeps x₉ k₁₀) (fun s₁₁ x₁₁ _ => ?_)))
    show wpAny _ _ _ _ _ _
    -- post = 0
    refine wpAny_execs_cons (wpAny_Assign_Name (wpAny_Constant_int (st_local (ic_keeps x₁₁ (keeps_tok s₁₁ (s₁₁.toks + 1))) (fun s₁₂ x₁₂ _ => ?_))))
    show wpAny _ _ _ _ _ _
    refine wpAny_execs_cons (wpAny_While (while_step (post1_0 (ic_vw x₁₂ B) (upd_at (upd_at upd_self)) (upd_at upd_self) upd_self rfl rfl rfl rfl fun s₁₃ k₁₃ => ?_)))
    rw [if_neg (by simpa using e2)]
    have x₁₃ := ic_keeps x₁₂ k₁₃
    show wpAny _ _ _ _ _ _
    refine wpAny_execs_cons (wpAny_Assign_Name (ev_post (k := 0) (ic_vw x₁₃ B) (upd_at (upd_at upd_self)) upd_self (sn_1' _) (Nat.le_of_ble_eq_true rfl) rfl rfl rfl (by decide) fun t3 s₁₄ k₁₄ => st_local (ic_keeps x₁₃ k₁₄) (fun s₁₅ x₁₅ _ => ?_)))
    show wpAny _ _ _ _ _ _
    refine wpAny_execs_cons (wpAny_Assign_Name (ev_post (k := 0) (ic_vw x₁₅ B) (upd_at (upd_at upd_self)) (upd_at upd_self) (sn_1' _) (Nat.le_of_ble_eq_true rfl) rfl rfl rfl (by decide) fun t4 s₁₆ k₁₆ => st_local (ic_keeps x₁₅ k₁₆) (fun s₁₇ x₁₇ _ => wpAny_execs_nil ?_)))
    refine T [c2] [d2] _ _ s₁₇ _ rfl (Nat.le_refl 1) (Nat.le_of_ble_eq_true rfl) (by simpa using hc2) (by simpa using hd2) (one_ok e2).1 ?_ x₁₇ (upd_at upd_self) upd_self ?_
    · rw [(one_ok e2).2]; simp [e1]
    · exact upd_at (upd_at (upd_at (upd_at (upd_at (upd_at (upd_at (upd_at hmc)))))))
  · rw [if_neg (by simpa using e1)]
    show wpAny _ _ _ _ _ _
    -- a = a[1:], b = b[1:]
    refine wpAny_execs_cons (wpAny_Assign_Name (ev_pre (ic_vw x₅ B) (upd_at (upd_at ha)) upd_self (s3_1 _ _ _) (Nat.le_of_ble_eq_true rfl) rfl rfl rfl (by decide) fun t1 s₈ k₈ => st_local (ic_keeps x₅ k₈) (fun s₉ x₉ _ => ?_)))
    show wpAny _ _ _ _ _ _
    refine wpAny_execs_cons (wpAny_Assign_Name (ev_pre (ic_vw x₉ B) (upd_at (upd_at (upd_at hb))) (upd_at upd_self) (s3_1 _ _ _) (Nat.le_of_ble_eq_true rfl) rfl rfl rfl (by decide) fun t2 s₁₀ k₁₀ => st_local (ic_keeps x₉ k₁₀) (fun s₁₁ x₁₁ _ => ?_)))
    show wpAny _ _ _ _ _ _
    -- post = 0
    refine wpAny_execs_cons (wpAny_Assign_Name (wpAny_Constant_int (st_local (ic_keeps x₁₁ (keeps_tok s₁₁ (s₁₁.toks + 1))) (fun s₁₂ x₁₂ _ => ?_))))
    show wpAny _ _ _ _ _ _
    refine wpAny_execs_cons (wpAny_While (while_step (post2_0 (ic_vw x₁₂ B) (upd_at (upd_at upd_self)) (upd_at upd_self) upd_self rfl rfl rfl rfl fun s₁₃ k₁₃ => ?_)))
    have x₁₃ := ic_keeps x₁₂ k₁₃
    by_cases e2 : c2 = d2
    · rw [if_pos (decide_eq_true e2)]
      refine wpAny_execs_cons (wpAny_AugAssign_Name (wpAny_loadName_local rfl rfl x₁₃.toInCall.ns upd_self (wpAny_Constant_int (PyProof.Rows.isub_int (st_local (ic_keeps x₁₃ (keeps_tok s₁₃ (s₁₃.toks + 1 + 1))) (fun s₁₄ x₁₄ _ => wpAny_execs_nil ?_))))))
      refine while_step (post2_1 (ic_vw x₁₄ B) (upd_at (upd_at (upd_at upd_self))) (upd_at (upd_at upd_self)) upd_self rfl rfl rfl rfl fun s₁₅ k₁₅ => ?_)
      have x₁₅ := ic_keeps x₁₄ k₁₅
      rw [if_neg (by simpa using e1)]
      show wpAny _ _ _ _ _ _
      refine wpAny_execs_cons (wpAny_Assign_Name (ev_post (k := -1) (ic_vw x₁₅ B) (upd_at (upd_at (upd_at upd_self))) upd_self (sm_2' _ _) (Nat.le_of_ble_eq_true rfl) rfl rfl rfl (by decide) fun t3 s₁₆ k₁₆ => st_local (ic_keeps x₁₅ k₁₆) (fun s₁₇ x₁₇ _ => ?_)))
      show wpAny _ _ _ _ _ _
      refine wpAny_execs_cons (wpAny_Assign_Name (ev_post (k := -1) (ic_vw x₁₇ B) (upd_at (upd_at (upd_at upd_self))) (upd_at upd_self) (sm_2' _ _) (Nat.le_of_ble_eq_true rfl) rfl rfl rfl (by decide) fun t4 s₁₈ k₁₈ => st_local (ic_keeps x₁₇ k₁₈) (fun s₁₉ x₁₉ _ => wpAny_execs_nil ?_)))
      refine T [c1] [d1] _ _ s₁₉ _ rfl (Nat.le_refl 1) (Nat.le_of_ble_eq_true rfl) (by simpa using hc1) (by simpa using hd1) (one_ok e1).1 ?_ x₁₉ (upd_at upd_self) upd_self ?_
      · rw [(one_ok e1).2]; simp [e2]
      · exact upd_at (upd_at (upd_at (upd_at (upd_at (upd_at (upd_at (upd_at hmc)))))))
    · rw [if_neg (by simpa using e2)]
      show wpAny _ _ _ _ _ _
      refine wpAny_execs_cons (wpAny_Assign_Name (ev_post (k := 0) (ic_vw x₁₃ B) (upd_at (upd_at upd_self)) upd_self (sn_2' _ _) (Nat.le_of_ble_eq_true rfl) rfl rfl rfl (by decide) fun t3 s₁₆ k₁₆ => st_local (ic_keeps x₁₃ k₁₆) (fun s₁₇ x₁₇ _ => ?_)))
      show wpAny _ _ _ _ _ _
      refine wpAny_execs_cons (wpAny_Assign_Name (ev_post (k := 0) (ic_vw x₁₇ B) (upd_at (upd_at upd_self)) (upd_at upd_self) (sn_2' _ _) (Nat.le_of_ble_eq_true rfl) rfl rfl rfl (by decide) fun t4 s₁₈ k₁₈ => st_local (ic_keeps x₁₇ k₁₈) (fun s₁₉ x₁₉ _ => wpAny_execs_nil ?_)))
      refine T [c1, c2] [d1, d2] _ _ s₁₉ _ rfl (Nat.le_of_ble_eq_true rfl) (Nat.le_refl 2) ?_ ?_ (two_ok e1 e2).1 ?_ x₁₉ (upd_at upd_self) upd_self ?_
      · intro c hc; simp at hc; rcases hc with rfl | rfl
        · exact hc1
        · exact hc2
      · intro c hc; simp at hc; rcases hc with rfl | rfl
        · exact hd1
        · exact hd2
      · rw [(two_ok e1 e2).2]; simp [e1, e2]
      · exact upd_at (upd_at (upd_at (upd_at (upd_at (upd_at (upd_at hmc))))))
end
end Mine

/-! part Q1 -/
namespace Mine
noncomputable def mapItems (P : Params) : Array Value := match (KF P).lookup 17 with | some ⟨_, _, .seq xs _, _⟩ => xs | _ => #[]
def chkAt (v : Option Value) (k : Nat) : Bool := match v with | some (.str x _) => x.cps.toList == [61, hx (k / 16), hx (k % 16)] | _ => false
theorem map_look (P : Params) : (KF P).lookup 17 = some ⟨.type "list", none, .seq (mapItems P) 256, #[]⟩ := by kernel_rfl
theorem map_ok (P : Params) : ((List.range 256).all fun k => chkAt (mapItems P)[k]? k) = true := by kernel_rfl
theorem map_at (P : Params) {k : Nat} (hk : k < 256) : ∃ t, (mapItems P)[k]? = some (.str ⟨#[61, hx (k / 16), hx (k % 16)]⟩ t) := by
  have := List.all_eq_true.mp (map_ok P) k (List.mem_range.mpr hk)
  unfold chkAt at this
  split at this
  · rename_i x t e
    refine ⟨t, ?_⟩
    rw [e]
    have e2 := eq_of_beq this
    have e3 : x = ⟨#[61, hx (k / 16), hx (k % 16)]⟩ := by
      obtain ⟨⟨l⟩⟩ := x
      exact congrArg (fun l => (⟨⟨l⟩⟩ : Str)) e2
    rw [e3]
  · cases this
theorem hx_hex : ∀ k, k < 16 → hx k ∈ [48, 49, 50, 51, 52, 53, 54, 55, 56, 57, 65, 66, 67, 68, 69, 70] := by decide
theorem hx_item : ∀ k, k < 16 → Txt.item (Str.ofString "0123456789ABCDEF") ((k : Nat) : Int) = ⟨#[hx k]⟩ := by decide +kernel
theorem hx_inj : ∀ a, a < 16 → ∀ b, b < 16 → (hx a = hx b ↔ a = b) := by decide
section
variable {w : World} {A : Around} {s : Shared}
theorem quote_ok {n : Nat} {t : Tok} {Q : Value → Shared → Prop} {E : Value → Shared → Prop} (B : Bs w s.heap) (hroom : A.depth < recursionLimit) (hn : n < 256)
    (h : ∀ t' s', Keeps s s' → Q (.str ⟨#[61, hx (n / 16), hx (n % 16)]⟩ t') s') :
    wpAny (model PySem.Challenge.rw_rl0023_01.row.prog w) A (call (.ref 37) [.str ⟨#[n]⟩ t]) Q E s := by
  have X := B.kx
  revert X; k_fill; intro X
  refine wpAny_call ?_
  refine' call1 (binds := [(Str.ofString "c", .str ⟨#[n]⟩ t)]) B ?k6 ?k7 hroom ?k9 ?kB ?_ ?c2 ?c3 ?c4; (case k6 => k_is); (case k7 => k_is); (case k9 => exact rfl); (case kB => exact rfl); (case c2 => exact rfl); (case c3 => exact rfl); (case c4 => exact rfl)
  intro L s₁ hL x
  show wpAny _ _ (execs _ (envOfC _ _ _ _ _)) _ _ _
  obtain ⟨m, cm, x, hm⟩ : ∃ m cm, InCallC s L m [] cm s₁ ∧ m (Str.ofString "c") = some (.str ⟨#[n]⟩ t) := ⟨_, _, x, rfl⟩
  have hl : s₁.heap.IsList 17 (mapItems w.params) := ⟨_, x.toInCall.keep _ _ (B.kx _ _ (map_look _)), rfl, 256, rfl⟩
  obtain ⟨tk, he⟩ := map_at w.params hn
  refine wpAny_execs_cons (wpAny_Return_some (Subscript_ (ev_glob (ic_vw x B) (g_map _) (wpAny_Call_NameR (ev_bltn (ic_vw x B) (n_ord _) b_ord ?_)))))
  refine PyProof.Rows.callWith_builtin1 (wpAny_items_cons (ev_local (ic_vw x B) hm (wpAny_items_nil (P.ord_of_char ?_))))
  refine item_list hl (by omega) (by omega) (by simpa using he) ?_
  obtain ⟨h', tk', e, kk⟩ := (ic_keeps x (keeps_tok s₁ (s₁.toks + 1))).done
  exact h tk _ ⟨h', tk', e, kk⟩
end
end Mine

/-! part Z1 -/
namespace Mine
/-- two squares that do not stand in each other's way -/
def Far (a b : Nat × Nat) : Prop := a.1 ≠ b.1 ∧ a.2 ≠ b.2
def csz (p q : Nat → Bool) : Nat := (List.range 4).countP p + (List.range 4).countP q
def Cov (p q : Nat → Bool) (sq : List (Nat × Nat)) : Prop := ∀ e ∈ sq, p e.1 = true ∨ q e.2 = true
def Inr (sq : List (Nat × Nat)) : Prop := ∀ e ∈ sq, e.1 < 4 ∧ e.2 < 4

theorem countP_lat (p q : Nat → Bool) (l : List Nat) : l.countP (fun x => p x && q x) + l.countP (fun x => p x || q x) = l.countP p + l.countP q := by
  induction l with
  | nil => rfl
  | cons a l ih =>
    simp only [List.countP_cons]
    cases p a <;> cases q a <;> simp <;> omega
theorem four (p : Nat → Bool) : (List.range 4).countP p = (p 0).toNat + (p 1).toNat + (p 2).toNat + (p 3).toNat := by
  have : List.range 4 = [0, 1, 2, 3] := rfl
  rw [this]
  simp only [List.countP_cons, List.countP_nil]
  cases p 0 <;> cases p 1 <;> cases p 2 <;> cases p 3 <;> rfl
theorem countP_add (p : Nat → Bool) (r : Nat) : (List.range 4).countP (fun x => p x || x == r) ≤ (List.range 4).countP p + 1 := by
  rw [four, four]
  by_cases h : r < 4
  · have : r = 0 ∨ r = 1 ∨ r = 2 ∨ r = 3 := by omega
    rcases this with rfl | rfl | rfl | rfl <;> (cases p 0 <;> cases p 1 <;> cases p 2 <;> cases p 3 <;> decide)
  · have h0 : (0 == r) = false := by simp; omega
    have h1 : (1 == r) = false := by simp; omega
    have h2 : (2 == r) = false := by simp; omega
    have h3 : (3 == r) = false := by simp; omega
    simp only [h0, h1, h2, h3, Bool.or_false]; omega
theorem countP_del (p : Nat → Bool) (r : Nat) (hr : r < 4) (h : p r = true) : (List.range 4).countP (fun x => p x && x != r) + 1 = (List.range 4).countP p := by
  rw [four, four]
  have : r = 0 ∨ r = 1 ∨ r = 2 ∨ r = 3 := by omega
  rcases this with rfl | rfl | rfl | rfl <;> (revert h; cases p 0 <;> cases p 1 <;> cases p 2 <;> cases p 3 <;> decide)

theorem weak : ∀ (T : List (Nat × Nat)) (p q : Nat → Bool), Inr T → T.Pairwise Far → Cov p q T → T.length ≤ csz p q
  | [], _, _, _, _, _ => Nat.zero_le _
  | e :: T, p, q, hi, hT, hc => by
    have hT' := List.pairwise_cons.mp hT
    have hi' : Inr T := fun x hx => hi x (.tail _ hx)
    have he := hi e (.head _)
    rcases hc e (.head _) with h | h
    · have := weak T (fun x => p x && x != e.1) q hi' hT'.2 (fun x hx => by
        rcases hc x (.tail _ hx) with g | g
        · left; simp only [g, Bool.true_and, bne_iff_ne]; exact (hT'.1 x hx).1.symm
        · right; exact g)
      have d := countP_del p e.1 he.1 h
      unfold csz at this ⊢
      rw [List.length_cons]; omega
    · have := weak T p (fun x => q x && x != e.2) hi' hT'.2 (fun x hx => by
        rcases hc x (.tail _ hx) with g | g
        · left; exact g
        · right; simp only [g, Bool.true_and, bne_iff_ne]; exact (hT'.1 x hx).2.symm)
      have d := countP_del q e.2 he.2 h
      unfold csz at this ⊢
      rw [List.length_cons]; omega
theorem cov_all : ∀ (sq : List (Nat × Nat)), ∃ p q, Cov p q sq ∧ csz p q ≤ sq.length
  | [] => ⟨fun _ => false, fun _ => false, fun e he => (by cases he), by decide⟩
  | e :: sq => by
    obtain ⟨p, q, hc, hs⟩ := cov_all sq
    refine ⟨fun x => p x || x == e.1, q, fun x hx => ?_, ?_⟩
    · rcases List.mem_cons.mp hx with rfl | hx
      · left; simp
      · rcases hc x hx with g | g
        · left; simp [g]
        · right; exact g
    · have := countP_add p e.1
      unfold csz at hs ⊢
      rw [List.length_cons]; omega
theorem not_pair : ∀ (sq : List (Nat × Nat)), ¬ sq.Pairwise Far → ∃ l₁ e l₂ f l₃, sq = l₁ ++ e :: (l₂ ++ f :: l₃) ∧ ¬ Far e f
  | [], h => absurd List.Pairwise.nil h
  | a :: t, h => by
    by_cases ht : t.Pairwise Far
    · have : ¬ ∀ b ∈ t, Far a b := fun g => h (List.pairwise_cons.mpr ⟨g, ht⟩)
      obtain ⟨b, hb⟩ := Classical.not_forall.mp this
      obtain ⟨hm, hn⟩ := Classical.not_imp.mp hb
      obtain ⟨l₂, l₃, rfl⟩ := List.append_of_mem hm
      exact ⟨[], a, l₂, b, l₃, rfl, hn⟩
    · obtain ⟨l₁, e, l₂, f, l₃, rfl, hn⟩ := not_pair t ht
      exact ⟨a :: l₁, e, l₂, f, l₃, rfl, hn⟩

theorem csz_rows (pe qe pf qf : Nat → Bool) (x : Nat) : csz (fun r => pe r && pf r) (fun c => qe c || qf c) + csz (fun r => (pe r || pf r) || r == x) (fun c => qe c && qf c) ≤ csz pe qe + csz pf qf + 1 := by
  have h1 := countP_lat pe pf (List.range 4)
  have h2 := countP_lat qe qf (List.range 4)
  have h3 := countP_add (fun r => pe r || pf r) x
  unfold csz; omega
theorem csz_cols (pe qe pf qf : Nat → Bool) (x : Nat) : csz (fun r => pe r || pf r) (fun c => qe c && qf c) + csz (fun r => pe r && pf r) (fun c => (qe c || qf c) || c == x) ≤ csz pe qe + csz pf qf + 1 := by
  have h1 := countP_lat pe pf (List.range 4)
  have h2 := countP_lat qe qf (List.range 4)
  have h3 := countP_add (fun r => qe r || qf r) x
  unfold csz; omega

theorem konig : ∀ (n : Nat) (sq : List (Nat × Nat)), sq.length ≤ n → ∃ T : List (Nat × Nat), T.Sublist sq ∧ T.Pairwise Far ∧ ∃ p q, Cov p q sq ∧ csz p q ≤ T.length
  | 0, sq, hn => by
    have : sq = [] := List.length_eq_zero_iff.mp (by omega)
    subst this
    exact ⟨[], .slnil, .nil, fun _ => false, fun _ => false, fun e he => (by cases he), by decide⟩
  | n + 1, sq, hn => by
    by_cases hp : sq.Pairwise Far
    · obtain ⟨p, q, hc, hs⟩ := cov_all sq
      exact ⟨sq, List.Sublist.refl _, hp, p, q, hc, hs⟩
    obtain ⟨l₁, e, l₂, f, l₃, rfl, hef⟩ := not_pair sq hp
    have se : (l₁ ++ (l₂ ++ f :: l₃)).Sublist (l₁ ++ e :: (l₂ ++ f :: l₃)) := List.Sublist.append (List.Sublist.refl _) (List.sublist_cons_self _ _)
    have sf : (l₁ ++ e :: (l₂ ++ l₃)).Sublist (l₁ ++ e :: (l₂ ++ f :: l₃)) := List.Sublist.append (List.Sublist.refl _) (List.Sublist.cons_cons _ (List.Sublist.append (List.Sublist.refl _) (List.sublist_cons_self _ _)))
    simp only [List.length_append, List.length_cons] at hn
    obtain ⟨Te, hTe, hTe', pe, qe, hCe, hse⟩ := konig n (l₁ ++ (l₂ ++ f :: l₃)) (by simp only [List.length_append, List.length_cons]; omega)
    obtain ⟨Tf, hTf, hTf', pf, qf, hCf, hsf⟩ := konig n (l₁ ++ e :: (l₂ ++ l₃)) (by simp only [List.length_append, List.length_cons]; omega)
    have mem : ∀ x ∈ l₁ ++ e :: (l₂ ++ f :: l₃), (x = e) ∨ x ∈ l₁ ++ (l₂ ++ f :: l₃) := fun x hx => by
      simp only [List.mem_append, List.mem_cons] at hx ⊢
      rcases hx with h | h | h | h | h <;> simp [h]
    have memf : ∀ x ∈ l₁ ++ e :: (l₂ ++ f :: l₃), (x = f) ∨ x ∈ l₁ ++ e :: (l₂ ++ l₃) := fun x hx => by
      simp only [List.mem_append, List.mem_cons] at hx ⊢
      rcases hx with h | h | h | h | h <;> simp [h]
    have me : e ∈ l₁ ++ e :: (l₂ ++ l₃) := by simp
    have mf : f ∈ l₁ ++ (l₂ ++ f :: l₃) := by simp
    by_cases ce : pe e.1 = true ∨ qe e.2 = true
    · exact ⟨Te, hTe.trans se, hTe', pe, qe, fun x hx => (mem x hx).elim (fun q => q ▸ ce) (hCe x), hse⟩
    by_cases cf : pf f.1 = true ∨ qf f.2 = true
    · exact ⟨Tf, hTf.trans sf, hTf', pf, qf, fun x hx => (memf x hx).elim (fun q => q ▸ cf) (hCf x), hsf⟩
    have ce1 : pe e.1 = false := by cases h : pe e.1 with | false => rfl | true => exact absurd (.inl h) ce
    have ce2 : qe e.2 = false := by cases h : qe e.2 with | false => rfl | true => exact absurd (.inr h) ce
    have cf1 : pf f.1 = false := by cases h : pf f.1 with | false => rfl | true => exact absurd (.inl h) cf
    have cf2 : qf f.2 = false := by cases h : qf f.2 with | false => rfl | true => exact absurd (.inr h) cf
    have fin : ∀ p1 q1 p2 q2, Cov p1 q1 (l₁ ++ e :: (l₂ ++ f :: l₃)) → Cov p2 q2 (l₁ ++ e :: (l₂ ++ f :: l₃)) → csz p1 q1 + csz p2 q2 ≤ csz pe qe + csz pf qf + 1 →
        ∃ T : List (Nat × Nat), T.Sublist (l₁ ++ e :: (l₂ ++ f :: l₃)) ∧ T.Pairwise Far ∧ ∃ p q, Cov p q (l₁ ++ e :: (l₂ ++ f :: l₃)) ∧ csz p q ≤ T.length := by
      intro p1 q1 p2 q2 h1 h2 hs
      by_cases g1 : csz p1 q1 ≤ Te.length
      · exact ⟨Te, hTe.trans se, hTe', p1, q1, h1, g1⟩
      by_cases g2 : csz p2 q2 ≤ Tf.length
      · exact ⟨Tf, hTf.trans sf, hTf', p2, q2, h2, g2⟩
      by_cases g3 : csz p1 q1 ≤ Tf.length
      · exact ⟨Tf, hTf.trans sf, hTf', p1, q1, h1, g3⟩
      exact ⟨Te, hTe.trans se, hTe', p2, q2, h2, by omega⟩
    have both : ∀ x ∈ l₁ ++ e :: (l₂ ++ f :: l₃), x = e ∨ x = f ∨ (pe x.1 = true ∨ qe x.2 = true) ∧ (pf x.1 = true ∨ qf x.2 = true) := fun x hx => by
      rcases mem x hx with h | h
      · exact .inl h
      · rcases memf x hx with g | g
        · exact .inr (.inl g)
        · exact .inr (.inr ⟨hCe x h, hCf x g⟩)
    have he := hCf e me
    have hf := hCe f mf
    by_cases h1 : e.1 = f.1
    · have he2 : qf e.2 = true := by rcases he with h | h; (rw [h1, cf1] at h; cases h); exact h
      have hf2 : qe f.2 = true := by rcases hf with h | h; (rw [← h1, ce1] at h; cases h); exact h
      refine fin _ _ _ _ (fun x hx => ?_) (fun x hx => ?_) (csz_rows pe qe pf qf e.1)
      · rcases both x hx with rfl | rfl | ⟨g1, g2⟩
        · right; simp [he2]
        · right; simp [hf2]
        · rcases g1 with g1 | g1 <;> rcases g2 with g2 | g2 <;> simp [g1, g2]
      · rcases both x hx with rfl | rfl | ⟨g1, g2⟩
        · left; simp
        · left; simp [h1]
        · rcases g1 with g1 | g1 <;> rcases g2 with g2 | g2 <;> simp [g1, g2]
    · have h2 : e.2 = f.2 := Classical.byContradiction fun g => hef ⟨h1, g⟩
      have he2 : pf e.1 = true := by rcases he with h | h; exact h; (rw [h2, cf2] at h; cases h)
      have hf2 : pe f.1 = true := by rcases hf with h | h; exact h; (rw [← h2, ce2] at h; cases h)
      refine fin _ _ _ _ (fun x hx => ?_) (fun x hx => ?_) (csz_cols pe qe pf qf e.2)
      · rcases both x hx with rfl | rfl | ⟨g1, g2⟩
        · left; simp [he2]
        · left; simp [hf2]
        · rcases g1 with g1 | g1 <;> rcases g2 with g2 | g2 <;> simp [g1, g2]
      · rcases both x hx with rfl | rfl | ⟨g1, g2⟩
        · right; simp
        · right; simp [h2]
        · rcases g1 with g1 | g1 <;> rcases g2 with g2 | g2 <;> simp [g1, g2]

theorem rows_enc (p : Nat → Bool) : ∃ ch, ch < 16 ∧ rowsOf ch = (List.range 4).filter p := by
  have : List.range 4 = [0, 1, 2, 3] := rfl
  rw [this]
  refine ⟨(p 0).toNat + 2 * (p 1).toNat + 4 * (p 2).toNat + 8 * (p 3).toNat, ?_, ?_⟩
  · have := Bool.toNat_le (p 0); have := Bool.toNat_le (p 1); have := Bool.toNat_le (p 2); have := Bool.toNat_le (p 3); omega
  · simp only [List.filter_cons, List.filter_nil]
    cases p 0 <;> cases p 1 <;> cases p 2 <;> cases p 3 <;> decide
theorem few_up {sq : List (Nat × Nat)} {p q : Nat → Bool} (hi : Inr sq) (hc : Cov p q sq) : ∃ ch, ch < 16 ∧ few sq ch ≤ csz p q := by
  obtain ⟨ch, hch, hr⟩ := rows_enc p
  refine ⟨ch, hch, ?_⟩
  unfold few csz
  have h1 : (rowsOf ch).length = (List.range 4).countP p := by rw [hr, List.countP_eq_length_filter]
  have h2 : ((List.range 4).filter fun c => (colsOf sq ch).contains c).length ≤ (List.range 4).countP q := by
    rw [← List.countP_eq_length_filter]
    refine List.countP_mono_left fun c _ hcc => ?_
    have hm : c ∈ colsOf sq ch := by simpa using hcc
    obtain ⟨e, he, hs⟩ := List.mem_filterMap.mp hm
    by_cases g : (!(rowsOf ch).contains e.1) = true
    · rw [if_pos g] at hs
      cases hs
      rcases hc e he with h | h
      · exfalso
        have : e.1 ∈ rowsOf ch := by rw [hr]; exact List.mem_filter.mpr ⟨List.mem_range.mpr (hi e he).1, h⟩
        simp [this] at g
      · exact h
    · rw [if_neg g] at hs; cases hs
  omega
theorem few_cov {sq : List (Nat × Nat)} (hi : Inr sq) (ch : Nat) : ∃ p q, Cov p q sq ∧ csz p q = few sq ch := by
  refine ⟨fun r => ch / 2 ^ r % 2 == 1, fun c => (colsOf sq ch).contains c, fun e he => ?_, ?_⟩
  · cases h : (ch / 2 ^ e.1 % 2 == 1) with
    | true => left; exact h
    | false =>
      right
      have : e.2 ∈ colsOf sq ch := by
        refine List.mem_filterMap.mpr ⟨e, he, ?_⟩
        rw [if_pos]
        have : e.1 ∉ rowsOf ch := fun g => by have := (List.mem_filter.mp g).2; rw [h] at this; cases this
        simp [this]
      simpa using this
  · unfold csz few rowsOf
    rw [List.countP_eq_length_filter, List.countP_eq_length_filter]

theorem ok_all {f : Nat → Nat → Bool} {k : Nat} {p : List Nat} : okB f k p = true ↔ ∀ i ∈ p, i < k ∧ f i k = true := by
  unfold okB farL
  rw [beq_iff_eq, List.length_eq_zero_iff, List.filter_eq_nil_iff]
  constructor
  · intro h i hi
    have := h i hi
    simpa using this
  · intro h i hi
    have := h i hi
    simp [this]
theorem picks_sound (f : Nat → Nat → Bool) : ∀ (n : Nat), ∀ p ∈ picksP f n, (∀ i ∈ p, i < n) ∧ p.Pairwise (fun i j => f i j = true)
  | 0, p, hp => by
    have : p = [] := by simpa [picksP] using hp
    subst this
    exact ⟨fun i hi => (by cases hi), .nil⟩
  | n + 1, p, hp => by
    rw [picks_succ] at hp
    rcases List.mem_append.mp hp with h | h
    · have ih := picks_sound f n p h
      exact ⟨fun i hi => Nat.lt_succ_of_lt (ih.1 i hi), ih.2⟩
    · obtain ⟨q, hq, rfl⟩ := List.mem_map.mp h
      obtain ⟨hq1, hq2⟩ := List.mem_filter.mp hq
      have ih := picks_sound f n q hq1
      have ok := ok_all.mp hq2
      refine ⟨fun i hi => ?_, List.pairwise_append.mpr ⟨ih.2, List.pairwise_singleton _ _, fun a ha b hb => ?_⟩⟩
      · rcases List.mem_append.mp hi with h | h
        · exact Nat.lt_succ_of_lt (ih.1 i h)
        · rw [List.mem_singleton.mp h]; exact Nat.lt_succ_self _
      · rw [List.mem_singleton.mp hb]; exact (ok a ha).2
theorem sub_one {α : Type} {a : α} {T : List α} (h : T.Sublist [a]) : T = [] ∨ T = [a] := by
  cases h with
  | cons _ h => left; exact List.sublist_nil.mp h
  | cons_cons _ h => right; rw [List.sublist_nil.mp h]
/-- the relation of the pages is that of the squares -/
def Same (f : Nat → Nat → Bool) (sq : List (Nat × Nat)) : Prop := ∀ i k, (hi : i < sq.length) → (hk : k < sq.length) → (f i k = true ↔ Far sq[i] sq[k])
theorem picks_full {f : Nat → Nat → Bool} {sq : List (Nat × Nat)} (hf : Same f sq) : ∀ (n : Nat) (hn : n ≤ sq.length) (T : List (Nat × Nat)), T.Sublist (sq.take n) → T.Pairwise Far →
    ∃ p ∈ picksP f n, (∀ i ∈ p, i < n) ∧ p.map (fun i => sq.getD i (0, 0)) = T
  | 0, _, T, hT, _ => by
    have : T = [] := by simpa using hT
    subst this
    exact ⟨[], by simp [picksP], fun i hi => (by cases hi), rfl⟩
  | n + 1, hn, T, hT, hp => by
    have hlt : n < sq.length := hn
    rw [List.take_succ_eq_append_getElem hlt] at hT
    obtain ⟨T₁, T₂, rfl, h1, h2⟩ := List.sublist_append_iff.mp hT
    obtain ⟨hp1, hp2, hp3⟩ := List.pairwise_append.mp hp
    obtain ⟨p, hpk, hpl, hpm⟩ := picks_full hf n (Nat.le_of_lt hlt) T₁ h1 hp1
    rcases sub_one h2 with rfl | rfl
    · refine ⟨p, ?_, fun i hi => Nat.lt_succ_of_lt (hpl i hi), by rw [List.append_nil]; exact hpm⟩
      rw [picks_succ]; exact List.mem_append.mpr (.inl hpk)
    · refine ⟨p ++ [n], ?_, fun i hi => ?_, ?_⟩
      · rw [picks_succ]
        refine List.mem_append.mpr (.inr (List.mem_map.mpr ⟨p, List.mem_filter.mpr ⟨hpk, ok_all.mpr fun i hi => ⟨hpl i hi, ?_⟩⟩, rfl⟩))
        have hi' : i < sq.length := Nat.lt_trans (hpl i hi) hlt
        refine (hf i n hi' hlt).mpr (hp3 _ ?_ _ (.head _))
        rw [← hpm]
        refine List.mem_map.mpr ⟨i, hi, ?_⟩
        rw [List.getD_eq_getElem?_getD, List.getElem?_eq_getElem hi']; rfl
      · rcases List.mem_append.mp hi with h | h
        · exact Nat.lt_succ_of_lt (hpl i h)
        · rw [List.mem_singleton.mp h]; exact Nat.lt_succ_self _
      · rw [List.map_append, hpm, List.map_singleton, List.getD_eq_getElem?_getD, List.getElem?_eq_getElem hlt]; rfl

/-- the plain law -/
theorem most_is_few {f : Nat → Nat → Bool} {sq : List (Nat × Nat)} {n : Nat} (hn : n = sq.length) (hi : Inr sq) (hf : Same f sq) {M N : Int}
    (hM : M ∈ ((picksP f n).map fun p => ((p.length : Nat) : Int))) (hM' : ∀ a ∈ ((picksP f n).map fun p => ((p.length : Nat) : Int)), a ≤ M)
    (hN : N ∈ ((List.range 16).map fun ch => ((few sq ch : Nat) : Int))) (hN' : ∀ a ∈ ((List.range 16).map fun ch => ((few sq ch : Nat) : Int)), N ≤ a) : M = N := by
  subst hn
  refine Int.le_antisymm ?_ ?_
  · obtain ⟨p, hp, rfl⟩ := List.mem_map.mp hM
    obtain ⟨ch, hch, rfl⟩ := List.mem_map.mp hN
    obtain ⟨P, q, hc, hs⟩ := few_cov hi ch
    obtain ⟨h1, h2⟩ := picks_sound f _ p hp
    have hat : ∀ i ∈ p, ∃ h : i < sq.length, sq.getD i (0, 0) = sq[i] := fun i hi => ⟨h1 i hi, by rw [List.getD_eq_getElem?_getD, List.getElem?_eq_getElem (h1 i hi)]; rfl⟩
    have hmem : ∀ e ∈ p.map (fun i => sq.getD i (0, 0)), e ∈ sq := fun e he => by
      obtain ⟨i, hi, rfl⟩ := List.mem_map.mp he
      obtain ⟨h, e⟩ := hat i hi
      rw [e]; exact List.getElem_mem h
    have := weak (p.map fun i => sq.getD i (0, 0)) P q (fun e he => hi e (hmem e he)) (by
      rw [List.pairwise_map]
      refine List.Pairwise.imp_of_mem (fun {a b} ha hb hab => ?_) h2
      obtain ⟨g1, e1⟩ := hat a ha
      obtain ⟨g2, e2⟩ := hat b hb
      rw [e1, e2]
      exact (hf a b g1 g2).mp hab) (fun e he => hc e (hmem e he))
    rw [hs, List.length_map] at this
    exact Int.ofNat_le.mpr this
  · obtain ⟨T, hT, hp, p, q, hc, hs⟩ := konig sq.length sq (Nat.le_refl _)
    obtain ⟨pk, hpk, _, hm⟩ := picks_full hf sq.length (Nat.le_refl _) T (by rw [List.take_length]; exact hT) hp
    obtain ⟨ch, hch, hle⟩ := few_up hi hc
    have a1 := hM' _ (List.mem_map.mpr ⟨pk, hpk, rfl⟩)
    have a2 := hN' _ (List.mem_map.mpr ⟨ch, List.mem_range.mpr hch, rfl⟩)
    have e : pk.length = T.length := by rw [← hm, List.length_map]
    omega

def sqOf (x : Int) : Nat × Nat := ((x.fmod 4).toNat, ((x.fdiv 4).fmod 4).toNat)
def fstOf (S : Int) (r : Nat) : Nat := ((5 * (r : Int) + S).fmod 16).toNat
def sndOf (S : Int) (c : Nat) : Nat := ((5 * (c : Int) + S.fdiv 16).fmod 16).toNat
def pgOf (S : Int) (rc : Nat × Nat) : Nat × Nat := (hx (fstOf S rc.1), hx (sndOf S rc.2))
theorem fmod_nat (a : Int) (b : Int) (hb : 0 < b) : a.fmod b = ((a.fmod b).toNat : Int) := by
  have := Int.fmod_nonneg_of_pos a hb
  omega
theorem fmod_lt (a : Int) (n : Nat) (hb : 0 < n) : (a.fmod (n : Int)).toNat < n := by
  have h1 := Int.fmod_nonneg_of_pos a (b := (n : Int)) (by omega)
  have h2 := Int.fmod_lt_of_pos a (b := (n : Int)) (by omega)
  omega
theorem turn_inj (S : Int) {r q : Nat} (hr : r < 4) (hq : q < 4) : ((5 * (r : Int) + S).fmod 16).toNat = ((5 * (q : Int) + S).fmod 16).toNat ↔ r = q := by
  constructor
  · intro h
    rw [Int.fmod_eq_emod_of_nonneg _ (by decide), Int.fmod_eq_emod_of_nonneg _ (by decide)] at h
    omega
  · intro h; rw [h]
theorem fst_lt (S : Int) (r : Nat) : fstOf S r < 16 := fmod_lt _ 16 (by decide)
theorem snd_lt (S : Int) (c : Nat) : sndOf S c < 16 := fmod_lt _ 16 (by decide)
theorem sq_inr (xs : List Int) : Inr (xs.map sqOf) := fun e he => by
  obtain ⟨x, _, rfl⟩ := List.mem_map.mp he
  exact ⟨fmod_lt _ 4 (by decide), fmod_lt _ 4 (by decide)⟩
theorem pg_hex (S : Int) (sq : List (Nat × Nat)) : ∀ c ∈ sq.map (pgOf S), Hex c.1 ∧ Hex c.2 := fun c hc => by
  obtain ⟨e, _, rfl⟩ := List.mem_map.mp hc
  exact ⟨hx_hex _ (fst_lt S e.1), hx_hex _ (snd_lt S e.2)⟩
theorem same_pg (S : Int) {sq : List (Nat × Nat)} (hi : Inr sq) : Same (farP (sq.map (pgOf S))) sq := fun i k h1 h2 => by
  have a1 := hi _ (List.getElem_mem h1)
  have a2 := hi _ (List.getElem_mem h2)
  unfold farP
  rw [List.getElem?_map, List.getElem?_map, List.getElem?_eq_getElem h1, List.getElem?_eq_getElem h2]
  show ((hx (fstOf S sq[i].1) != hx (fstOf S sq[k].1)) && (hx (sndOf S sq[i].2) != hx (sndOf S sq[k].2))) = true ↔ _
  rw [Bool.and_eq_true, bne_iff_ne, bne_iff_ne, Ne, Ne, hx_inj _ (fst_lt S _) _ (fst_lt S _), hx_inj _ (snd_lt S _) _ (snd_lt S _)]
  have e1 := turn_inj S a1.1 a2.1
  have e2 := turn_inj (S.fdiv 16) a1.2 a2.2
  unfold Far fstOf sndOf
  rw [e1, e2]
theorem oct_of {a b : Nat} (ha : a < 16) (hb : b < 16) : (16 * (a : Int) + (b : Int)).toNat = 16 * a + b ∧ 16 * a + b < 256 ∧ (16 * a + b) / 16 = a ∧ (16 * a + b) % 16 = b := by
  refine ⟨?_, ?_, ?_, ?_⟩ <;> omega
end Mine

/-! part W1 -/
namespace Mine
theorem ic_of_fr {s₁ : Shared} {L : Addr} {h₁ : Heap} {m : Str → Option Value} {k : Nat} (F : Fr s₁.heap L h₁ m) : InCallC s₁ L m [] (fun _ => none) { s₁ with heap := h₁, toks := k } :=
  ⟨⟨⟨h₁, k, rfl⟩, F.ns, F.keep, F.above⟩, fun _ _ e => (by cases e), List.Pairwise.nil, fun _ _ e => (by cases e)⟩
theorem law_start {M : Model} {A : Around} {t : Sem Flow} {Q' : Flow → Shared → Prop} {E' : Value → Shared → Prop} {s₁ : Shared} {L : Addr} {h₁ : Heap} {m : Str → Option Value} {k : Nat} (F : Fr s₁.heap L h₁ m)
    (hwalk : ∀ s, InCallC s₁ L m [] (fun _ => none) s → wpAny M A t (fun fl s' => fl = .ret (.bool true) ∧ ∃ m', InCallC s₁ L m' [] (fun _ => none) s') (fun _ _ => False) s)
    (hfin : ∀ h' tk m', Fr s₁.heap L h' m' → Q' (.ret (.bool true)) { s₁ with heap := h', toks := tk }) : wpAny M A t Q' E' { s₁ with heap := h₁, toks := k } :=
  wpAny_mono (hwalk _ (ic_of_fr F)) (fun fl s' h => by
    obtain ⟨rfl, m', x⟩ := h
    obtain ⟨h', tk, rfl⟩ := x.toInCall.same
    exact hfin h' tk m' ⟨x.toInCall.ns, x.toInCall.keep, x.toInCall.fresh⟩) fun _ _ x => x.elim
def SqAt (N : Nat) (h : Heap) (v : Value) (y : Option Value) : Prop := ∃ x t T u u', v = .int x t ∧ y = some (.ref T) ∧ N ≤ T ∧ h.IsTuple T #[.int (((sqOf x).1 : Nat) : Int) u, .int (((sqOf x).2 : Nat) : Int) u']
theorem sqat_of {N : Nat} {h : Heap} {x : Int} {t u u' : Tok} {T : Addr} (hN : N ≤ T) (hT : h.IsTuple T #[.int (x.fmod 4) u, .int ((x.fdiv 4).fmod 4) u']) : SqAt N h (.int x t) (some (.ref T)) := by
  refine ⟨x, t, T, u, u', rfl, rfl, hN, ?_⟩
  unfold sqOf
  rw [← fmod_nat x 4 (by decide), ← fmod_nat (x.fdiv 4) 4 (by decide)]
  exact hT
theorem sqs_of {N : Nat} {h : Heap} : ∀ {vs : List Value} {ns : List Int} {os : List (Option Value)}, IntsAre vs ns → Paired (SqAt N h) vs os → Paired (PairAt h) (os.filterMap id) (ns.map sqOf)
  | _, [], _, hi, hp => by cases hi; cases hp; exact .nil
  | _, n :: ns, _, hi, hp => by
    obtain ⟨t, vs', rfl, hi'⟩ := hi.cons_inv
    cases hp with
    | cons h t' =>
      obtain ⟨x, t2, T, u, u', e, rfl, _, hT⟩ := h
      have ex : x = n := (Value.int.inj e).1.symm
      subst ex
      exact .cons ⟨T, u, u', rfl, hT⟩ (sqs_of hi' t')
theorem take4 (vs : List Value) : slicePick vs.toArray none (some 4) none = (vs.take 4).toArray := slicePick_upto' vs.toArray 4
theorem push2_at (h : Heap) (a b : Obj) (hf : b.isFreed = false) : ((h.push a).push b).get? (h.objs.size + 1) = some b := by
  have := Heap.get?_push_size (h.push a) hf
  rwa [Heap.size_push] at this
theorem tuple_ne_iter {h : Heap} {a c l : Addr} {i : Nat} {items : Array Value} (x : h.IsTuple a items) (y : h.IsListIter c l i) : a ≠ c := fun q => by
  subst q
  obtain ⟨o, ho, hc, n, hd⟩ := x
  obtain ⟨o', ho', hc', hd'⟩ := y
  rw [ho] at ho'; cases ho'; rw [hd] at hd'; cases hd'
theorem ic_but' {s₀ s : Shared} {L I l : Addr} {i : Nat} {cs : List (Str × Addr)} {m cm : Str → Option Value} {h' : Heap} {tk : Nat} (x : InCallC s₀ L m cs cm s) (hit : s.heap.IsListIter I l i) (h0 : s₀.heap.get? I = none)
    (k : ∀ b o, b ∉ [I] → s.heap.get? b = some o → h'.get? b = some o) : InCallC s₀ L m cs cm { s with heap := h', toks := tk } := by
  obtain ⟨o, ho, _, hd⟩ := hit
  exact ic_but x ho (pl_fields hd) h0 k
theorem tuple_ne_list {h : Heap} {a c : Addr} {xs ys : Array Value} (x : h.IsTuple a xs) (y : h.IsList c ys) : a ≠ c := fun q => by
  subst q
  obtain ⟨o, ho, hc, n, hd⟩ := x
  obtain ⟨o', ho', hc', n', hd'⟩ := y
  rw [ho] at ho'; cases ho'; rw [hc] at hc'; exact absurd hc' (by decide)
theorem ic_pack {s₀ s : Shared} {env : Env} {m cm : Str → Option Value} {P : (Str → Option Value) → Prop} (x : InCallC s₀ env.locals m env.cells cm s) (h : P m) : ∃ m', InCallC s₀ env.locals m' env.cells cm s ∧ P m' := ⟨m, x, h⟩
theorem fits_small {a : Nat} (h : a < 16) : fitsSsize (a : Int) = true := by
  revert a; decide
theorem with_vw {M : Model} {A : Around} {w : World} {s₀ s : Shared} {env : Env} {m cm : Str → Option Value} {e : Expr} {Q : Value → Shared → Prop} {E : Value → Shared → Prop}
    (x : InCallC s₀ env.locals m env.cells cm s) (B : Bs w s₀.heap) (h : Vw w env m cm s.heap → wpAny M A (eval e env) Q E s) : wpAny M A (eval e env) Q E s := h (ic_vw x B)
end Mine

/-! part W2 -/
namespace Mine
theorem tt : PySem.Challenge.rw_rl0023_01.Holds := by
  w_on
  o_law
  refine holds_open (q := viewT) (loose := loose0) (Xt := XtF) (XP := XL viewT lv0) (Yf := Hook.obs HK) (Ya := Hook.val HK) (YP := Hook.says HK) (N := 200000) left (Hook.of HK) (Hook.keeps HK) (fun s e => xl_of s (Bool.and_eq_true_iff.mp e).1) XL.keeps (by rfl) (by rfl) (by rfl) (fun s e => recFacts_of (Bool.and_eq_true_iff.mp e).2) (by rfl) (by first | assumption | decide +kernel) (by decide +kernel) ⟨rfl, rfl, rfl, rfl, rfl, by decide +kernel⟩ ?hw ?hc
  case hw => w_witness2
  rename_i said
  clear said
  k_go0
  with_reducible rename Fr _ _ _ _ => F
  with_reducible rename Frag.In _ _ => KX
  revert KX
  k_fill
  intro KX
  with_reducible rename Top _ _ _ _ _ _ => T
  with_reducible rename Heap.IsList _ _ _ => hL
  with_reducible rename IntsAre _ _ => hI
  have B := Bs.mk KX ⟨_, _, _, _, topRead_of T⟩
  rename (¬ _ < _) => hlen
  rename World => w
  rename Shared => s1
  refine law_start F ?walk ?fin
  case fin =>
    intro h' tk m' F'
    dsimp only
    clear F
    wrow_close
  case walk =>
  intro s₂ x₂
  clear F
  dsimp only
  generalize hA : callerA.deeper _ = A'
  have hh' : A'.handled = none := by rw [← hA]; rfl
  have hdp : A'.depth = 302 := by rw [← hA]; rfl
  have hun : A'.units = 7 := by rw [← hA]; rfl
  clear hA
  have hlen' := hI.length
  -- drawn = script[:4]
  refine wpAny_execs_cons (wpAny_Assign_Name (wpAny_Subscript_list_slice (ev_local (ic_vw x₂ B) rfl (wpAny_pure (show wpAny _ _ (eval _ _) _ _ _ from wpAny_Constant_int ⟨_, _, none, some 4, rfl, hL.at fun o e => x₂.toInCall.keep _ o e, ?_, .none, .int _ _, ?_⟩)))))
  · rw [sizeLine_eq, List.size_toArray]; omega
  refine st_local (ic_keeps (ic_keeps (ic_keeps x₂ (keeps_tok s₂ (s₂.toks + 1))) (keeps_push _ _ (s₂.toks + 1))) (keeps_push _ _ (s₂.toks + 1))) (fun s₃ x₃ tr₃ => ?_)
  show wpAny _ _ _ _ _ _
  rename List Int => ns
  rename List Value => vs0
  have pD : s₃.heap.PlainList (s₂.heap.objs.size + 1) (vs0.take 4).toArray := by
    rw [← take4]; exact tr₃.plain ⟨0, push2_at _ _ _ rfl⟩ (by simp)
  have iD : IntsAre (vs0.take 4) (ns.take 4) := hI.take 4
  -- turn = sum(drawn)
  refine wpAny_execs_cons (wpAny_Assign_Name (wpAny_Call_NameR (ev_bltn (ic_vw x₃ B) (n_sum _) b_sum ?_)))
  refine PyProof.Rows.callWith_builtin1 (wpAny_items_cons (ev_local (ic_vw x₃ B) upd_self (wpAny_items_nil (sum_ints hh' pD.isList iD fun tS s₄ k₄ => st_local (ic_keeps x₃ k₄) (fun s₅ x₅ tr₅ => ?_)))))
  show wpAny _ _ _ _ _ _
  have pD5 := tr₅.plain (pD.at fun o e => Keeps.get k₄ _ o e) (by simp)
  -- squares
  refine wpAny_execs_cons (assign_comp (cl := []) hh' (by with_unfolding_all rfl) (by with_unfolding_all rfl) hcl_nil (by decide) rfl (by decide) rfl rfl rfl B x₅ ?_)
  refine wpAny_BinOp (ev_local (ic_vw x₅ B) (upd_at upd_self) (wpAny_List (wpAny_items_cons (wpAny_Constant_int (wpAny_items_cons (wpAny_Constant_int (wpAny_items_cons (wpAny_Constant_int (wpAny_items_nil ⟨by rw [sizeLine_eq]; exact Nat.le_of_ble_eq_true rfl, ?_⟩)))))))))
  obtain ⟨nD, hDe⟩ := pD5
  refine P.add_list (n := nD) (n2 := 0) (items2 := #[.int 1 s₅.toks, .int 6 (s₅.toks + 1), .int 4 (s₅.toks + 1 + 1)]) (Heap.get?_push_of_some _ hDe) (Heap.get?_push_size _ rfl) ?_ (by rw [sizeLine_eq, List.size_toArray, List.length_take]; show _ + 3 ≤ _; omega)
  have x₆ := ic_keeps (ic_keeps x₅ (keeps_push s₅ { cls := .type "list", data := .seq [Value.int 1 s₅.toks, .int 6 (s₅.toks + 1), .int 4 (s₅.toks + 1 + 1)].toArray } (s₅.toks + 1 + 1 + 1))) (keeps_push _ { cls := .type "list", data := .seq ((vs0.take 4).toArray ++ #[Value.int 1 s₅.toks, .int 6 (s₅.toks + 1), .int 4 (s₅.toks + 1 + 1)]) } (s₅.toks + 1 + 1 + 1))
  have iX : IntsAre ((vs0.take 4).toArray ++ #[Value.int 1 s₅.toks, .int 6 (s₅.toks + 1), .int 4 (s₅.toks + 1 + 1)]).toList (ns.take 4 ++ [1, 6, 4]) := by
    rw [Array.toList_append]
    exact IntsAre.append iD (.cons _ _ (.cons _ _ (.cons _ _ .nil)))
  refine ⟨SqAt (s₅.heap.objs.size + 5), _, _, rfl, x₆, ⟨_, Heap.get?_push_size _ rfl, rfl, 0, rfl⟩, ?_, ?_, ?_, ?_⟩
  · rw [Array.size_append, List.size_toArray, List.length_take]; show _ + 3 ≤ _; omega
  · rintro h h' v y k ⟨x, t, T, u, u', e1, e2, hT, hl⟩
    exact ⟨x, t, T, u, u', e1, e2, hT, hl.at fun o e => k T o (by show ((s₅.heap.push _).push _).objs.size + 3 ≤ T; rw [Heap.size_push, Heap.size_push]; exact hT) e⟩
  · intro v s₇ m₇ C hC hv V hmv k₇
    obtain ⟨x, t, rfl⟩ := iX.all v hv
    refine wpAny_tests_nil ⟨keeps_refl _, ?_⟩
    rw [if_pos rfl]
    refine wpAny_Tuple (wpAny_items_cons (wpAny_BinOp (ev_local V hmv (wpAny_Constant_int (PyProof.Rows.mod_int' (by decide) ?_)))))
    refine wpAny_items_cons (wpAny_BinOp (wpAny_BinOp (ev_local V hmv (wpAny_Constant_int (PyProof.Rows.floordiv_int (by decide) (wpAny_Constant_int (PyProof.Rows.mod_int' (by decide) (wpAny_items_nil ⟨by rw [sizeLine_eq]; exact Nat.le_of_ble_eq_true rfl, keeps_push s₇ _ _, ?_⟩))) (Or.inl (PyProof.noPylong_small (by decide))))))))
    refine sqat_of ?_ ⟨_, Heap.get?_push_size _ rfl, rfl, 0, rfl⟩
    have q : C < s₇.heap.objs.size := V.ns.lt
    have hC' : C = ((s₅.heap.push { cls := .type "list", data := .seq [Value.int 1 s₅.toks, .int 6 (s₅.toks + 1), .int 4 (s₅.toks + 1 + 1)].toArray }).push { cls := .type "list", data := .seq ((vs0.take 4).toArray ++ #[Value.int 1 s₅.toks, .int 6 (s₅.toks + 1), .int 4 (s₅.toks + 1 + 1)]) }).objs.size + 2 := hC
    rw [Heap.size_push, Heap.size_push] at hC'
    rw [hC'] at q
    exact q
  · intro aQ s₇ ys os x₇ hQl hF hys
    show wpAny _ _ _ _ _ _
    have hSq : Paired (PairAt s₇.heap) ys.toList ((ns.take 4 ++ [1, 6, 4]).map sqOf) := by rw [hys]; exact sqs_of iX hF
    generalize hsq : (ns.take 4 ++ [1, 6, 4]).map sqOf = sq at hSq
    have hsl : sq.length ≤ 7 := by rw [← hsq, List.length_map, List.length_append, List.length_take]; show _ + 3 ≤ 7; omega
    -- pages = []
    refine wpAny_execs_cons (wpAny_Assign_Name (wpAny_List (wpAny_items_nil ⟨by decide, ?_⟩)))
    refine st_local (ic_keeps x₇ (keeps_push s₇ _ s₇.toks)) (fun s₈ x₈ tr₈ => ?_)
    show wpAny _ _ _ _ _ _
    generalize hSS : (List.take 4 ns).sum = S at *
    generalize hG : s₇.heap.objs.size = aG at *
    have hG0 : s1.heap.get? aG = none := by
      cases q : s1.heap.get? aG with
      | none => rfl
      | some o => exact absurd (Heap.lt_size (x₇.toInCall.keep _ _ q)) (by rw [← hG]; exact Nat.lt_irrefl _)
    have pG : s₈.heap.PlainList aG #[] := tr₈.plain ⟨0, by rw [← hG]; exact Heap.get?_push_size _ rfl⟩ (by simp)
    have hQl8 : s₈.heap.IsList aQ ys := (tr₈.plain (hQl.at fun o e => Heap.get?_push_of_some _ e) (by simp)).isList
    have hQG : aQ ≠ aG := by
      obtain ⟨n, e⟩ := hQl
      have := Heap.lt_size e
      rw [hG] at this
      exact Nat.ne_of_lt this
    have hS8 : Paired (PairAt s₈.heap) ys.toList sq := Paired.mono' (fun _ _ ⟨T, t, u, e, hT⟩ => ⟨T, t, u, e, tr₈.isTuple (hT.at fun o e => Heap.get?_push_of_some _ e) (by simp)⟩) hSq
    have hyl : ys.size = sq.length := by have := hS8.length; simpa using this
    have hin : Inr sq := by rw [← hsq]; exact sq_inr _
    have hTG : ∀ T xs, s₈.heap.IsTuple T xs → T ∉ [aG, s₈.heap.objs.size] := fun T xs x q => by
      rcases List.mem_cons.mp q with e | q
      · exact tuple_ne_list x pG.isList e
      · obtain ⟨o, ho, _⟩ := x
        exact Nat.lt_irrefl _ ((List.mem_singleton.mp q) ▸ Heap.lt_size ho)
    have hQI : aQ ≠ s₈.heap.objs.size := by
      obtain ⟨o, ho, _⟩ := id hQl8
      exact Nat.ne_of_lt (Heap.lt_size ho)
    have hGI : aG ≠ s₈.heap.objs.size := by
      obtain ⟨n, ho⟩ := id pG
      exact Nat.ne_of_lt (Heap.lt_size ho)
    have hI0 : s1.heap.get? s₈.heap.objs.size = none := by
      cases q : s1.heap.get? s₈.heap.objs.size with
      | none => rfl
      | some o => exact absurd (Heap.lt_size (x₈.toInCall.keep _ _ q)) (Nat.lt_irrefl _)
    -- the loop
    refine wpAny_execs_cons (wpAny_For (ev_local (ic_vw x₈ B) (upd_at upd_self) (wpAny_pyIter_list hQl8 ?_)))
    generalize hI : s₈.heap.objs.size = aI at *
    have x₉ := ic_keeps x₈ (keeps_push s₈ { cls := .type "list_iterator", data := .fields #[.ref aQ, .int 0 0] } s₈.toks)
    refine for_walk (Walks.list hh' aI aQ hQI ys) (fun i s' => ∃ m, InCallC s1 s1.heap.objs.size m [] (fun _ => none) s' ∧ m (Str.ofString "squares") = some (.ref aQ) ∧ m (Str.ofString "pages") = some (.ref aG) ∧ m (Str.ofString "turn") = some (.int S tS) ∧
        Tr [aG, aI] s₈.heap s'.heap ∧ ∃ its, s'.heap.PlainList aG its ∧ Paired PageAt its.toList ((sq.take i).map (pgOf S))) ?_ ⟨⟨_, hI ▸ Heap.get?_push_size _ rfl, rfl, rfl⟩, hQl8.push _⟩ ?_ ?_ ?_ ?_
    · intro i v s Q E hP st hq
      obtain ⟨rc, _, T, t, u, rfl, _⟩ := paired_mem hS8 (Array.mem_toList_iff.mpr (Array.mem_of_getElem? hP))
      exact wpAny_letOwnedTupleGo_listiter st.1 hq
    · exact ⟨_, x₉, upd_at upd_self, upd_self, upd_at (upd_at upd_self), Tr.of_keep fun b o e => Heap.get?_push_of_some _ e, #[], pG.at fun o e => Heap.get?_push_of_some _ e, .nil⟩
    · rintro i s' h' tk ⟨m, x, h1, h2, h3, tr, its, hp, hg⟩ st k
      exact ⟨m, ic_but' x st.1 hI0 k, h1, h2, h3, tr.trans fun b o e _ d => k b o (fun q => d (List.mem_cons_of_mem _ q)) e, its, plain_but hp hGI k, hg⟩
    · rintro i v s₁₀ hi hP ⟨m, x₁₀, h1, h2, h3, tr₁₀, its, hp, hg⟩ st
      have hi' : i < sq.length := by omega
      have hP' : ys.toList[i]? = some v := by rw [Array.getElem?_toList]; exact hP
      obtain ⟨v', hv', T, t, u, rfl, hT8⟩ := Paired.at' hS8 (List.getElem?_eq_getElem hi')
      have ev : v = .ref T := Option.some.inj (hP'.symm.trans hv')
      subst ev
      have hT := tr₁₀.isTuple hT8 (hTG T _ hT8)
      have hr := hin _ (List.getElem_mem hi')
      have htk : sq.take (i + 1) = sq.take i ++ [sq[i]] := List.take_succ_eq_append_getElem hi'
      generalize hrc : sq[i] = rc at *
      refine wpAny_assign_Tuple hh' hT rfl rfl fun h₄ he₄ => ?_
      have k₁₀ : Keeps s₁₀ { s₁₀ with heap := h₄ } := ⟨h₄, s₁₀.toks, rfl, fun b o e => he₄ b o (Nat.ne_of_lt (Heap.lt_size e)) e⟩
      have x₁₁ := ic_keeps x₁₀ k₁₀
      show wpAny _ _ (assignInOrder [assign (.Name "row" _) _, assign (.Name "column" _) _] [.int (rc.1 : Int) t, .int (rc.2 : Int) u]) _ _ _
      refine assignInOrder_cons (wpAny_assign_Name (st_local x₁₁ (fun s₁₂ x₁₂ tr₁₂ => ?_)))
      refine assignInOrder_cons (wpAny_assign_Name (st_local x₁₂ (fun s₁₃ x₁₃ tr₁₃ => assignInOrder_nil ?_)))
      show wpAny _ _ _ _ _ _
      have tA : Tr [] s₁₀.heap s₁₃.heap := (Tr.of_keep (Keeps.get k₁₀)).trans (tr₁₂.trans tr₁₃)
      obtain ⟨m₁₃, x₁₃, q1, q2, q3, q4, q5⟩ := ic_pack (P := fun m' => m' (Str.ofString "row") = some (.int (rc.1 : Int) t) ∧ m' (Str.ofString "column") = some (.int (rc.2 : Int) u) ∧
        m' (Str.ofString "squares") = some (.ref aQ) ∧ m' (Str.ofString "pages") = some (.ref aG) ∧ m' (Str.ofString "turn") = some (.int S tS)) x₁₃ ⟨upd_at upd_self, upd_self, upd_at (upd_at h1), upd_at (upd_at h2), upd_at (upd_at h3)⟩
      have V₁₃ := ic_vw x₁₃ B
      -- first
      refine wpAny_execs_cons (wpAny_Assign_Name (wpAny_BinOp (wpAny_BinOp (wpAny_BinOp (wpAny_Constant_int (ev_local V₁₃ q1 ?_))))))
      refine PyProof.Rows.mul_int (hm := PySem.IntMulOk.of_left (by decide)) (ev_local V₁₃ q5 (PyProof.Rows.add_int (wpAny_Constant_int (PyProof.Rows.mod_int' (by decide) ?_))))
      rw [fmod_nat _ 16 (by decide)]
      refine st_local (ic_keeps x₁₃ (keeps_tok _ _)) (fun s₁₄ x₁₄ tr₁₄ => ?_)
      show wpAny _ _ _ _ _ _
      have V₁₄ := ic_vw x₁₄ B
      -- second
      refine wpAny_execs_cons (wpAny_Assign_Name (wpAny_BinOp (wpAny_BinOp (wpAny_BinOp (wpAny_Constant_int (ev_local V₁₄ (upd_at q2) ?_))))))
      refine PyProof.Rows.mul_int (hm := PySem.IntMulOk.of_left (by decide)) (wpAny_BinOp (ev_local V₁₄ (upd_at q5) (wpAny_Constant_int (PyProof.Rows.floordiv_int (by decide) ?_ (Or.inl (PyProof.noPylong_small (by decide)))))))
      refine PyProof.Rows.add_int (wpAny_Constant_int (PyProof.Rows.mod_int' (by decide) ?_))
      rw [fmod_nat _ 16 (by decide)]
      refine st_local (ic_keeps x₁₄ (keeps_tok _ _)) (fun s₁₅ x₁₅ tr₁₅ => ?_)
      show wpAny _ _ _ _ _ _
      have la : fstOf S rc.1 < 16 := fst_lt _ _
      have lb : sndOf S rc.2 < 16 := snd_lt _ _
      have ep : pgOf S rc = (hx (fstOf S rc.1), hx (sndOf S rc.2)) := rfl
      obtain ⟨m₁₅, x₁₅, u1, u2, q2, q3, q4, q5, q6⟩ := ic_pack (P := fun m' => ∃ u1 u2, m' (Str.ofString "first") = some (.int (fstOf S rc.1 : Nat) u1) ∧ m' (Str.ofString "second") = some (.int (sndOf S rc.2 : Nat) u2) ∧
        m' (Str.ofString "squares") = some (.ref aQ) ∧ m' (Str.ofString "pages") = some (.ref aG) ∧ m' (Str.ofString "turn") = some (.int S tS)) x₁₅ ⟨_, _, upd_at upd_self, upd_self, upd_at (upd_at q3), upd_at (upd_at q4), upd_at (upd_at q5)⟩
      generalize fstOf S rc.1 = a at *
      generalize sndOf S rc.2 = b at *
      have tB : Tr [] s₁₀.heap s₁₅.heap := tA.trans (tr₁₄.trans tr₁₅)
      obtain ⟨o1, o2, o3, o4⟩ := oct_of la lb
      have V₁₅ := ic_vw x₁₅ B
      -- the page
      refine wpAny_execs_cons (wpAny_Assign_Name (ev_fn V₁₅ (g_quote _) (by k_is) rfl rfl rfl (wpAny_items_cons (wpAny_Call_NameR (ev_bltn V₁₅ (n_chr _) b_chr ?_)))))
      refine PyProof.Rows.callWith_builtin1 (wpAny_items_cons (wpAny_BinOp (wpAny_BinOp (wpAny_Constant_int (ev_local V₁₅ q2 ?_)))))
      refine PyProof.Rows.mul_int (hm := PySem.IntMulOk.of_left (by decide)) (ev_local V₁₅ q3 (PyProof.Rows.add_int (wpAny_items_nil (PyProof.Rows.chr_of_range (by omega) (by omega) ?_))))
      refine wpAny_items_nil ⟨keeps_tok _ _, ?_⟩
      rw [o1]
      refine quote_ok (B.keeps x₁₅.toInCall.keep) (by rw [hdp]; decide) o2 fun t1 s₁₆ k₁₆ => ?_
      rw [o3, o4]
      have x₁₆ := ic_keeps (ic_keeps x₁₅ (keeps_tok _ _)) k₁₆
      refine st_local x₁₆ (fun s₁₇ x₁₇ tr₁₇ => ?_)
      show wpAny _ _ _ _ _ _
      obtain ⟨m₁₇, x₁₇, p1, p2, p3, p4, p5, p6⟩ := ic_pack (P := fun m' => m' (Str.ofString "page") = some (.str ⟨#[61, hx a, hx b]⟩ t1) ∧ m' (Str.ofString "first") = some (.int (a : Nat) u1) ∧ m' (Str.ofString "second") = some (.int (b : Nat) u2) ∧
        m' (Str.ofString "squares") = some (.ref aQ) ∧ m' (Str.ofString "pages") = some (.ref aG) ∧ m' (Str.ofString "turn") = some (.int S tS)) x₁₇ ⟨upd_self, upd_at q2, upd_at q3, upd_at q4, upd_at q5, upd_at q6⟩
      have V₁₇ := ic_vw x₁₇ B
      have tC : Tr [] s₁₀.heap s₁₇.heap := tB.trans ((Tr.of_keep (Keeps.get k₁₆)).trans tr₁₇)
      -- the check
      refine wpAny_execs_cons (wpAny_If (wpAny_isTrue_Compare1 (ev_local V₁₇ p1 (wpAny_BinOp (wpAny_BinOp (wpAny_Constant_str (Subscript_ (wpAny_Constant_str (ev_local V₁₇ p2 ?_)))))))))
      have la' : ((a : Nat) : Int) < 16 := by omega
      have lb' : ((b : Nat) : Int) < 16 := by omega
      refine ev_chr (fits_small la) (by omega) la' (hx_item a la) (PyProof.Rows.add_str (fun t2 tk2 => Subscript_ (wpAny_Constant_str (ev_local V₁₇ p3 ?_))) (by rw [sizeLine_eq]; exact Nat.le_of_ble_eq_true rfl))
      refine ev_chr (fits_small lb) (by omega) lb' (hx_item b lb) (PyProof.Rows.add_str (fun t3 tk3 => PyProof.Rows.ne_str (wpAny_truthy_bool ?_)) (by rw [sizeLine_eq]; exact Nat.le_of_ble_eq_true rfl))
      have hne : ((⟨#[61, hx a, hx b]⟩ : Str) != (Str.ofString "=" ++ (⟨#[hx a]⟩ : Str) ++ (⟨#[hx b]⟩ : Str))) = false := by
        have e : (Str.ofString "=" ++ (⟨#[hx a]⟩ : Str) ++ (⟨#[hx b]⟩ : Str)) = ⟨#[61, hx a, hx b]⟩ := by with_unfolding_all rfl
        rw [e]; simp
      rw [hne, if_neg (by decide)]
      refine wpAny_execs_nil ?_
      show wpAny _ _ _ _ _ _
      -- append
      have pC : s₁₇.heap.PlainList aG its := tC.plain hp (by simp)
      refine wpAny_execs_cons (wpAny_Expr (wpAny_Call_append (by with_unfolding_all rfl) (by with_unfolding_all rfl) (by decide) (by with_unfolding_all rfl) (ev_local V₁₇ p5 ⟨aG, its, rfl, plainL_of pC, ?_⟩)))
      refine ev_local V₁₇ p1 ?_
      have hgl : its.size ≤ 100 := by
        have := hg.length
        rw [List.length_map, List.length_take, Array.length_toList] at this; omega
      refine wpAny_list_append_plain (hsz := by rw [sizeLine_eq]; omega) pC fun h'' hl'' hs'' => wpAny_execs_nil ?_
      have tD : Tr [aG] s₁₀.heap h'' := (tC.more (by simp)).trans (Tr.of_at (List.mem_singleton_self _) hs'')
      refine ⟨⟨_, ic_at x₁₇ pC.isList hG0 hs'', p4, p5, p6, tr₁₀.trans (tD.more (by simp)), _, hl'', ?_⟩, ?_, ?_⟩
      · rw [Array.toList_push, htk, List.map_append]
        exact Paired.append' hg (.cons ⟨t1, by rw [ep]⟩ .nil)
      · obtain ⟨oI, hoI, hcI, hdI⟩ := st.1
        exact ⟨oI, tD _ _ hoI (pl_fields hdI) (by simpa using Ne.symm hGI), hcI, hdI⟩
      · exact tD.isList st.2 (by simpa using hQG)
    · rintro s₁₀ ⟨m, x₁₀, h1, h2, h3, tr₁₀, its, hp, hg⟩
      show wpAny _ _ _ _ _ _
      -- the end
      have hyl' : sq.take ys.size = sq := by rw [hyl, List.take_length]
      rw [hyl'] at hg
      have hpl : (sq.map (pgOf S)).length = sq.length := List.length_map ..
      refine wpAny_execs_cons (wpAny_Return_some (wpAny_Compare1 (with_vw x₁₀ B fun V₁₀ => ?_)))
      refine (ev_fn V₁₀ (g_most _) (by k_is) rfl rfl rfl (wpAny_items_cons (ev_local V₁₀ h2 (wpAny_items_nil ⟨keeps_refl _, wpAny_call ?_⟩))))
      refine most_spec (lev_ok w) V₁₀.bs hh' (by rw [hdp]; decide) (by rw [hun]; decide) hp.isList hg (pg_hex S sq) (by omega) fun s₁₁ M tM k₁₁ hM hM' => ?_
      have V₁₁ := V₁₀.keeps (Keeps.get k₁₁)
      show wpAny _ _ (eval _ _) _ _ _
      refine ev_fn V₁₁ (g_few _) (by k_is) rfl rfl rfl (wpAny_items_cons (ev_local V₁₁ h1 (wpAny_items_nil ⟨keeps_refl _, wpAny_call ?_⟩)))
      have hSq11 : IsSq s₁₁.heap aQ sq := IsSq.keeps ⟨ys, tr₁₀.isList hQl8 (by simpa using ⟨hQG, hQI⟩), Paired.mono' (fun _ _ ⟨T, t, u, e, hT⟩ => ⟨T, t, u, e, tr₁₀.isTuple hT (hTG T _ hT)⟩) hS8⟩ (Keeps.get k₁₁)
      refine few_spec V₁₁.bs hh' (by rw [hdp]; decide) hSq11 hsl fun s₁₂ N tN k₁₂ hN hN' => PyProof.Rows.eq_int ?_
      have e : M = N := most_is_few hpl hin (same_pg S hin) hM hM' hN hN'
      subst e
      exact ⟨by simp, m, ic_keeps (ic_keeps x₁₀ k₁₁) k₁₂⟩
end Mine

theorem PySem.Challenge.cw_rl0023_01_holds : PySem.Challenge.rw_rl0023_01.Holds := by
  exact Mine.tt
