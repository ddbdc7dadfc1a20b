/- Walks of the two tables of pairs that HTML's texts and addresses are escaped by: which keys they have. No conditions. -/
import Derived.Test.YtfnhikhgkkopfaaGreatDoorQuiet
namespace Go.Proofs.YtfnhikhgkkopfaaGreatDoor.W
open Go.RowKit Go.PlainAid
set_option linter.unusedVariables false

theorem wpList_built {P : Program} {w : World} {ops : Array Oper} {rest : List Oper} {o : Oper} {a : Act} {Q : Exit → Act → World → Prop} (hgd : o.guard = none) (t : TypeId) (n : Nat) (parts : Array (Nat × Operand)) (ho : o.op = .buildSlice t n parts) (v : Value) (w' : World)
    (hr : (Instr.buildSlice t n (parts.map fun (i, x) => (i, a.eval x))).run P w = .ok v w') (h : wpList P ops Q rest (a.put o.dst v) w') : wpList P ops Q (o :: rest) a w :=
  wpList_plain hgd fun _ hK => by
    unfold Oper.wp execOp
    simp only [ho, Sem.run_bind, hr, Result.andThen_ok, Sem.run_pure]
    exact hK _ _ h
def keyH : Nat → ByteArray
  | 0 => ⟨#[34]⟩
  | 1 => ⟨#[38]⟩
  | 2 => ⟨#[60]⟩
  | _ => ⟨#[62]⟩
theorem htmlEscaper_c (w : World) :
    Calls Tryz.prog 75 #[] w fun e w1 => e = .returned (.slice (some ⟨w.heap.size, 0, none⟩) 8 8) ∧ Keys w1 w.heap.size 4 keyH ∧ Below w.heap.size w w1 ∧ w.heap.size < w1.heap.size := by
  go_enter Tryz.func75, Tryz.ntmps75
  go_wp2
  go_ret
  refine ⟨rfl, ⟨_, _, heap_alloc_new _ _, fun m hm => ?_⟩, (Below.refl _ _).alloc (Nat.le_refl _) _, by simp⟩
  match m, hm with
  | 0, _ => rfl
  | 1, _ => rfl
  | 2, _ => rfl
  | 3, _ => rfl
def linkCells : Array Value := #[.string ⟨#[34]⟩, .string ⟨#[37, 50, 50]⟩, .string ⟨#[38]⟩, .string ⟨#[38, 97, 109, 112, 59]⟩, .string ⟨#[60]⟩, .string ⟨#[37, 51, 67]⟩, .string ⟨#[62]⟩, .string ⟨#[37, 51, 69]⟩, .string ⟨#[92]⟩, .string ⟨#[37, 53, 67]⟩, .string ⟨#[32]⟩, .string ⟨#[37, 50, 48]⟩,
  .string ⟨#[96]⟩, .string ⟨#[37, 54, 48]⟩, .string ⟨#[91]⟩, .string ⟨#[37, 53, 66]⟩, .string ⟨#[93]⟩, .string ⟨#[37, 53, 68]⟩, .string ⟨#[94]⟩, .string ⟨#[37, 53, 69]⟩, .string ⟨#[123]⟩, .string ⟨#[37, 55, 66]⟩, .string ⟨#[125]⟩, .string ⟨#[37, 55, 68]⟩,
  .string ⟨#[0]⟩, .string ⟨#[37, 48, 48]⟩, .string ⟨#[1]⟩, .string ⟨#[37, 48, 49]⟩, .string ⟨#[2]⟩, .string ⟨#[37, 48, 50]⟩, .string ⟨#[3]⟩, .string ⟨#[37, 48, 51]⟩, .string ⟨#[4]⟩, .string ⟨#[37, 48, 52]⟩, .string ⟨#[5]⟩, .string ⟨#[37, 48, 53]⟩,
  .string ⟨#[6]⟩, .string ⟨#[37, 48, 54]⟩, .string ⟨#[7]⟩, .string ⟨#[37, 48, 55]⟩, .string ⟨#[8]⟩, .string ⟨#[37, 48, 56]⟩, .string ⟨#[11]⟩, .string ⟨#[37, 48, 66]⟩, .string ⟨#[12]⟩, .string ⟨#[37, 48, 67]⟩, .string ⟨#[14]⟩, .string ⟨#[37, 48, 69]⟩,
  .string ⟨#[15]⟩, .string ⟨#[37, 48, 70]⟩, .string ⟨#[16]⟩, .string ⟨#[37, 49, 48]⟩, .string ⟨#[17]⟩, .string ⟨#[37, 49, 49]⟩, .string ⟨#[18]⟩, .string ⟨#[37, 49, 50]⟩, .string ⟨#[19]⟩, .string ⟨#[37, 49, 51]⟩, .string ⟨#[20]⟩, .string ⟨#[37, 49, 52]⟩,
  .string ⟨#[21]⟩, .string ⟨#[37, 49, 53]⟩, .string ⟨#[22]⟩, .string ⟨#[37, 49, 54]⟩, .string ⟨#[23]⟩, .string ⟨#[37, 49, 55]⟩, .string ⟨#[24]⟩, .string ⟨#[37, 49, 56]⟩, .string ⟨#[25]⟩, .string ⟨#[37, 49, 57]⟩, .string ⟨#[26]⟩, .string ⟨#[37, 49, 65]⟩,
  .string ⟨#[27]⟩, .string ⟨#[37, 49, 66]⟩, .string ⟨#[28]⟩, .string ⟨#[37, 49, 67]⟩, .string ⟨#[29]⟩, .string ⟨#[37, 49, 68]⟩, .string ⟨#[30]⟩, .string ⟨#[37, 49, 69]⟩, .string ⟨#[31]⟩, .string ⟨#[37, 49, 70]⟩, .string ⟨#[127]⟩, .string ⟨#[37, 55, 70]⟩,
  .string ⟨#[128]⟩, .string ⟨#[37, 56, 48]⟩, .string ⟨#[129]⟩, .string ⟨#[37, 56, 49]⟩, .string ⟨#[130]⟩, .string ⟨#[37, 56, 50]⟩, .string ⟨#[131]⟩, .string ⟨#[37, 56, 51]⟩, .string ⟨#[132]⟩, .string ⟨#[37, 56, 52]⟩, .string ⟨#[133]⟩, .string ⟨#[37, 56, 53]⟩,
  .string ⟨#[134]⟩, .string ⟨#[37, 56, 54]⟩, .string ⟨#[135]⟩, .string ⟨#[37, 56, 55]⟩, .string ⟨#[136]⟩, .string ⟨#[37, 56, 56]⟩, .string ⟨#[137]⟩, .string ⟨#[37, 56, 57]⟩, .string ⟨#[138]⟩, .string ⟨#[37, 56, 65]⟩, .string ⟨#[139]⟩, .string ⟨#[37, 56, 66]⟩,
  .string ⟨#[140]⟩, .string ⟨#[37, 56, 67]⟩, .string ⟨#[141]⟩, .string ⟨#[37, 56, 68]⟩, .string ⟨#[142]⟩, .string ⟨#[37, 56, 69]⟩, .string ⟨#[143]⟩, .string ⟨#[37, 56, 70]⟩, .string ⟨#[144]⟩, .string ⟨#[37, 57, 48]⟩, .string ⟨#[145]⟩, .string ⟨#[37, 57, 49]⟩,
  .string ⟨#[146]⟩, .string ⟨#[37, 57, 50]⟩, .string ⟨#[147]⟩, .string ⟨#[37, 57, 51]⟩, .string ⟨#[148]⟩, .string ⟨#[37, 57, 52]⟩, .string ⟨#[149]⟩, .string ⟨#[37, 57, 53]⟩, .string ⟨#[150]⟩, .string ⟨#[37, 57, 54]⟩, .string ⟨#[151]⟩, .string ⟨#[37, 57, 55]⟩,
  .string ⟨#[152]⟩, .string ⟨#[37, 57, 56]⟩, .string ⟨#[153]⟩, .string ⟨#[37, 57, 57]⟩, .string ⟨#[154]⟩, .string ⟨#[37, 57, 65]⟩, .string ⟨#[155]⟩, .string ⟨#[37, 57, 66]⟩, .string ⟨#[156]⟩, .string ⟨#[37, 57, 67]⟩, .string ⟨#[157]⟩, .string ⟨#[37, 57, 68]⟩,
  .string ⟨#[158]⟩, .string ⟨#[37, 57, 69]⟩, .string ⟨#[159]⟩, .string ⟨#[37, 57, 70]⟩, .string ⟨#[160]⟩, .string ⟨#[37, 65, 48]⟩, .string ⟨#[161]⟩, .string ⟨#[37, 65, 49]⟩, .string ⟨#[162]⟩, .string ⟨#[37, 65, 50]⟩, .string ⟨#[163]⟩, .string ⟨#[37, 65, 51]⟩,
  .string ⟨#[164]⟩, .string ⟨#[37, 65, 52]⟩, .string ⟨#[165]⟩, .string ⟨#[37, 65, 53]⟩, .string ⟨#[166]⟩, .string ⟨#[37, 65, 54]⟩, .string ⟨#[167]⟩, .string ⟨#[37, 65, 55]⟩, .string ⟨#[168]⟩, .string ⟨#[37, 65, 56]⟩, .string ⟨#[169]⟩, .string ⟨#[37, 65, 57]⟩,
  .string ⟨#[170]⟩, .string ⟨#[37, 65, 65]⟩, .string ⟨#[171]⟩, .string ⟨#[37, 65, 66]⟩, .string ⟨#[172]⟩, .string ⟨#[37, 65, 67]⟩, .string ⟨#[173]⟩, .string ⟨#[37, 65, 68]⟩, .string ⟨#[174]⟩, .string ⟨#[37, 65, 69]⟩, .string ⟨#[175]⟩, .string ⟨#[37, 65, 70]⟩,
  .string ⟨#[176]⟩, .string ⟨#[37, 66, 48]⟩, .string ⟨#[177]⟩, .string ⟨#[37, 66, 49]⟩, .string ⟨#[178]⟩, .string ⟨#[37, 66, 50]⟩, .string ⟨#[179]⟩, .string ⟨#[37, 66, 51]⟩, .string ⟨#[180]⟩, .string ⟨#[37, 66, 52]⟩, .string ⟨#[181]⟩, .string ⟨#[37, 66, 53]⟩,
  .string ⟨#[182]⟩, .string ⟨#[37, 66, 54]⟩, .string ⟨#[183]⟩, .string ⟨#[37, 66, 55]⟩, .string ⟨#[184]⟩, .string ⟨#[37, 66, 56]⟩, .string ⟨#[185]⟩, .string ⟨#[37, 66, 57]⟩, .string ⟨#[186]⟩, .string ⟨#[37, 66, 65]⟩, .string ⟨#[187]⟩, .string ⟨#[37, 66, 66]⟩,
  .string ⟨#[188]⟩, .string ⟨#[37, 66, 67]⟩, .string ⟨#[189]⟩, .string ⟨#[37, 66, 68]⟩, .string ⟨#[190]⟩, .string ⟨#[37, 66, 69]⟩, .string ⟨#[191]⟩, .string ⟨#[37, 66, 70]⟩, .string ⟨#[192]⟩, .string ⟨#[37, 67, 48]⟩, .string ⟨#[193]⟩, .string ⟨#[37, 67, 49]⟩,
  .string ⟨#[194]⟩, .string ⟨#[37, 67, 50]⟩, .string ⟨#[195]⟩, .string ⟨#[37, 67, 51]⟩, .string ⟨#[196]⟩, .string ⟨#[37, 67, 52]⟩, .string ⟨#[197]⟩, .string ⟨#[37, 67, 53]⟩, .string ⟨#[198]⟩, .string ⟨#[37, 67, 54]⟩, .string ⟨#[199]⟩, .string ⟨#[37, 67, 55]⟩,
  .string ⟨#[200]⟩, .string ⟨#[37, 67, 56]⟩, .string ⟨#[201]⟩, .string ⟨#[37, 67, 57]⟩, .string ⟨#[202]⟩, .string ⟨#[37, 67, 65]⟩, .string ⟨#[203]⟩, .string ⟨#[37, 67, 66]⟩, .string ⟨#[204]⟩, .string ⟨#[37, 67, 67]⟩, .string ⟨#[205]⟩, .string ⟨#[37, 67, 68]⟩,
  .string ⟨#[206]⟩, .string ⟨#[37, 67, 69]⟩, .string ⟨#[207]⟩, .string ⟨#[37, 67, 70]⟩, .string ⟨#[208]⟩, .string ⟨#[37, 68, 48]⟩, .string ⟨#[209]⟩, .string ⟨#[37, 68, 49]⟩, .string ⟨#[210]⟩, .string ⟨#[37, 68, 50]⟩, .string ⟨#[211]⟩, .string ⟨#[37, 68, 51]⟩,
  .string ⟨#[212]⟩, .string ⟨#[37, 68, 52]⟩, .string ⟨#[213]⟩, .string ⟨#[37, 68, 53]⟩, .string ⟨#[214]⟩, .string ⟨#[37, 68, 54]⟩, .string ⟨#[215]⟩, .string ⟨#[37, 68, 55]⟩, .string ⟨#[216]⟩, .string ⟨#[37, 68, 56]⟩, .string ⟨#[217]⟩, .string ⟨#[37, 68, 57]⟩,
  .string ⟨#[218]⟩, .string ⟨#[37, 68, 65]⟩, .string ⟨#[219]⟩, .string ⟨#[37, 68, 66]⟩, .string ⟨#[220]⟩, .string ⟨#[37, 68, 67]⟩, .string ⟨#[221]⟩, .string ⟨#[37, 68, 68]⟩, .string ⟨#[222]⟩, .string ⟨#[37, 68, 69]⟩, .string ⟨#[223]⟩, .string ⟨#[37, 68, 70]⟩,
  .string ⟨#[224]⟩, .string ⟨#[37, 69, 48]⟩, .string ⟨#[225]⟩, .string ⟨#[37, 69, 49]⟩, .string ⟨#[226]⟩, .string ⟨#[37, 69, 50]⟩, .string ⟨#[227]⟩, .string ⟨#[37, 69, 51]⟩, .string ⟨#[228]⟩, .string ⟨#[37, 69, 52]⟩, .string ⟨#[229]⟩, .string ⟨#[37, 69, 53]⟩,
  .string ⟨#[230]⟩, .string ⟨#[37, 69, 54]⟩, .string ⟨#[231]⟩, .string ⟨#[37, 69, 55]⟩, .string ⟨#[232]⟩, .string ⟨#[37, 69, 56]⟩, .string ⟨#[233]⟩, .string ⟨#[37, 69, 57]⟩, .string ⟨#[234]⟩, .string ⟨#[37, 69, 65]⟩, .string ⟨#[235]⟩, .string ⟨#[37, 69, 66]⟩,
  .string ⟨#[236]⟩, .string ⟨#[37, 69, 67]⟩, .string ⟨#[237]⟩, .string ⟨#[37, 69, 68]⟩, .string ⟨#[238]⟩, .string ⟨#[37, 69, 69]⟩, .string ⟨#[239]⟩, .string ⟨#[37, 69, 70]⟩, .string ⟨#[240]⟩, .string ⟨#[37, 70, 48]⟩, .string ⟨#[241]⟩, .string ⟨#[37, 70, 49]⟩,
  .string ⟨#[242]⟩, .string ⟨#[37, 70, 50]⟩, .string ⟨#[243]⟩, .string ⟨#[37, 70, 51]⟩, .string ⟨#[244]⟩, .string ⟨#[37, 70, 52]⟩, .string ⟨#[245]⟩, .string ⟨#[37, 70, 53]⟩, .string ⟨#[246]⟩, .string ⟨#[37, 70, 54]⟩, .string ⟨#[247]⟩, .string ⟨#[37, 70, 55]⟩,
  .string ⟨#[248]⟩, .string ⟨#[37, 70, 56]⟩, .string ⟨#[249]⟩, .string ⟨#[37, 70, 57]⟩, .string ⟨#[250]⟩, .string ⟨#[37, 70, 65]⟩, .string ⟨#[251]⟩, .string ⟨#[37, 70, 66]⟩, .string ⟨#[252]⟩, .string ⟨#[37, 70, 67]⟩, .string ⟨#[253]⟩, .string ⟨#[37, 70, 68]⟩,
  .string ⟨#[254]⟩, .string ⟨#[37, 70, 69]⟩, .string ⟨#[255]⟩, .string ⟨#[37, 70, 70]⟩]
def linkKeys : List Nat := [34, 38, 60, 62, 92, 32, 96, 91, 93, 94, 123, 125, 0, 1, 2, 3, 4, 5, 6, 7, 8, 11, 12, 14, 15, 16, 17, 18, 19, 20, 21, 22, 23, 24, 25, 26, 27, 28, 29, 30, 31, 127, 128, 129, 130, 131, 132, 133, 134, 135, 136, 137, 138, 139, 140, 141, 142, 143, 144, 145, 146, 147, 148, 149, 150, 151, 152, 153, 154, 155, 156, 157, 158, 159, 160, 161, 162, 163, 164, 165, 166, 167, 168, 169, 170, 171, 172, 173, 174, 175, 176, 177, 178, 179, 180, 181, 182, 183, 184, 185, 186, 187, 188, 189, 190, 191, 192, 193, 194, 195, 196, 197, 198, 199, 200, 201, 202, 203, 204, 205, 206, 207, 208, 209, 210, 211, 212, 213, 214, 215, 216, 217, 218, 219, 220, 221, 222, 223, 224, 225, 226, 227, 228, 229, 230, 231, 232, 233, 234, 235, 236, 237, 238, 239, 240, 241, 242, 243, 244, 245, 246, 247, 248, 249, 250, 251, 252, 253, 254, 255]
def keyL (m : Nat) : ByteArray := ⟨#[UInt8.ofNat (linkKeys.getD m 0)]⟩
def isKey (o : Option Value) (x : ByteArray) : Bool := match o with | some (.string y) => decide (y = x) | _ => false
theorem isKey_eq {o : Option Value} {x : ByteArray} (h : isKey o x = true) : o = some (.string x) := by
  unfold isKey at h
  split at h
  · rw [of_decide_eq_true h]
  · cases h
theorem linkCells_key (m : Nat) (hm : m < 170) : linkCells[2 * m]? = some (.string (keyL m)) := by
  have h : (List.range 170).all (fun m => isKey linkCells[2 * m]? (keyL m)) = true := by decide +kernel
  exact isKey_eq (List.all_eq_true.1 h m (List.mem_range.2 hm))
set_option maxHeartbeats 1000000 in
set_option maxRecDepth 100000 in
theorem htmlLinkEscaper_c (w : World) :
    Calls Tryz.prog 95 #[] w fun e w1 => e = .returned (.slice (some ⟨w.heap.size, 0, none⟩) 340 340) ∧ Keys w1 w.heap.size 170 keyL ∧ Below w.heap.size w w1 ∧ w.heap.size < w1.heap.size := by
  obtain ⟨W, hW⟩ : ∃ W, Hid (w.alloc (.cells linkCells 9) = W) := ⟨_, rfl⟩
  go_enter Tryz.func95, Tryz.ntmps95
  go_wp2_with (refine wpList_built rfl _ _ _ rfl (.slice (some ⟨w.heap.size, 0, none⟩) 340 340) W (by rw [← hW.out]; kernel_rfl) ?_)
  go_ret
  rw [← hW.out]
  exact ⟨rfl, ⟨_, _, heap_alloc_new _ _, linkCells_key⟩, (Below.refl _ _).alloc (Nat.le_refl _) _, by simp⟩
end Go.Proofs.YtfnhikhgkkopfaaGreatDoor.W
