/- (*bufio.Scanner).Scan, walked. -/
import Derived.Test.YtgbbogocfmepiaaDoorScB
import Derived.Test.YtgbbogocfmepiaaDoorFrame
namespace Go.Proofs.YtgbbogocfmepiaaDoor
open Go.RowKit
theorem lit334 (T : Nat → Value) : (List.range 334).map T = [T 0, T 1, T 2, T 3, T 4, T 5, T 6, T 7, T 8, T 9, T 10, T 11, T 12, T 13, T 14, T 15, T 16, T 17, T 18, T 19, T 20, T 21, T 22, T 23, T 24, T 25, T 26, T 27, T 28, T 29, T 30, T 31, T 32, T 33, T 34, T 35, T 36, T 37, T 38, T 39, T 40, T 41, T 42, T 43, T 44, T 45, T 46, T 47, T 48, T 49, T 50, T 51, T 52, T 53, T 54, T 55, T 56, T 57, T 58, T 59, T 60, T 61, T 62, T 63, T 64, T 65, T 66, T 67, T 68, T 69, T 70, T 71, T 72, T 73, T 74, T 75, T 76, T 77, T 78, T 79, T 80, T 81, T 82, T 83, T 84, T 85, T 86, T 87, T 88, T 89, T 90, T 91, T 92, T 93, T 94, T 95, T 96, T 97, T 98, T 99, T 100, T 101, T 102, T 103, T 104, T 105, T 106, T 107, T 108, T 109, T 110, T 111, T 112, T 113, T 114, T 115, T 116, T 117, T 118, T 119, T 120, T 121, T 122, T 123, T 124, T 125, T 126, T 127, T 128, T 129, T 130, T 131, T 132, T 133, T 134, T 135, T 136, T 137, T 138, T 139, T 140, T 141, T 142, T 143, T 144, T 145, T 146, T 147, T 148, T 149, T 150, T 151, T 152, T 153, T 154, T 155, T 156, T 157, T 158, T 159, T 160, T 161, T 162, T 163, T 164, T 165, T 166, T 167, T 168, T 169, T 170, T 171, T 172, T 173, T 174, T 175, T 176, T 177, T 178, T 179, T 180, T 181, T 182, T 183, T 184, T 185, T 186, T 187, T 188, T 189, T 190, T 191, T 192, T 193, T 194, T 195, T 196, T 197, T 198, T 199, T 200, T 201, T 202, T 203, T 204, T 205, T 206, T 207, T 208, T 209, T 210, T 211, T 212, T 213, T 214, T 215, T 216, T 217, T 218, T 219, T 220, T 221, T 222, T 223, T 224, T 225, T 226, T 227, T 228, T 229, T 230, T 231, T 232, T 233, T 234, T 235, T 236, T 237, T 238, T 239, T 240, T 241, T 242, T 243, T 244, T 245, T 246, T 247, T 248, T 249, T 250, T 251, T 252, T 253, T 254, T 255, T 256, T 257, T 258, T 259, T 260, T 261, T 262, T 263, T 264, T 265, T 266, T 267, T 268, T 269, T 270, T 271, T 272, T 273, T 274, T 275, T 276, T 277, T 278, T 279, T 280, T 281, T 282, T 283, T 284, T 285, T 286, T 287, T 288, T 289, T 290, T 291, T 292, T 293, T 294, T 295, T 296, T 297, T 298, T 299, T 300, T 301, T 302, T 303, T 304, T 305, T 306, T 307, T 308, T 309, T 310, T 311, T 312, T 313, T 314, T 315, T 316, T 317, T 318, T 319, T 320, T 321, T 322, T 323, T 324, T 325, T 326, T 327, T 328, T 329, T 330, T 331, T 332, T 333] := by kernel_rfl
theorem frScan {a : Act} {p0 : Value} (hs : a.tmps.size = 334) (hd : a.defers = []) (h0 : a.tmps[0]? = some p0) : ∃ T : Nat → Value, a = ⟨#[p0, T 1, T 2, T 3, T 4, T 5, T 6, T 7, T 8, T 9, T 10, T 11, T 12, T 13, T 14, T 15, T 16, T 17, T 18, T 19, T 20, T 21, T 22, T 23, T 24, T 25, T 26, T 27, T 28, T 29, T 30, T 31, T 32, T 33, T 34, T 35, T 36, T 37, T 38, T 39, T 40, T 41, T 42, T 43, T 44, T 45, T 46, T 47, T 48, T 49, T 50, T 51, T 52, T 53, T 54, T 55, T 56, T 57, T 58, T 59, T 60, T 61, T 62, T 63, T 64, T 65, T 66, T 67, T 68, T 69, T 70, T 71, T 72, T 73, T 74, T 75, T 76, T 77, T 78, T 79, T 80, T 81, T 82, T 83, T 84, T 85, T 86, T 87, T 88, T 89, T 90, T 91, T 92, T 93, T 94, T 95, T 96, T 97, T 98, T 99, T 100, T 101, T 102, T 103, T 104, T 105, T 106, T 107, T 108, T 109, T 110, T 111, T 112, T 113, T 114, T 115, T 116, T 117, T 118, T 119, T 120, T 121, T 122, T 123, T 124, T 125, T 126, T 127, T 128, T 129, T 130, T 131, T 132, T 133, T 134, T 135, T 136, T 137, T 138, T 139, T 140, T 141, T 142, T 143, T 144, T 145, T 146, T 147, T 148, T 149, T 150, T 151, T 152, T 153, T 154, T 155, T 156, T 157, T 158, T 159, T 160, T 161, T 162, T 163, T 164, T 165, T 166, T 167, T 168, T 169, T 170, T 171, T 172, T 173, T 174, T 175, T 176, T 177, T 178, T 179, T 180, T 181, T 182, T 183, T 184, T 185, T 186, T 187, T 188, T 189, T 190, T 191, T 192, T 193, T 194, T 195, T 196, T 197, T 198, T 199, T 200, T 201, T 202, T 203, T 204, T 205, T 206, T 207, T 208, T 209, T 210, T 211, T 212, T 213, T 214, T 215, T 216, T 217, T 218, T 219, T 220, T 221, T 222, T 223, T 224, T 225, T 226, T 227, T 228, T 229, T 230, T 231, T 232, T 233, T 234, T 235, T 236, T 237, T 238, T 239, T 240, T 241, T 242, T 243, T 244, T 245, T 246, T 247, T 248, T 249, T 250, T 251, T 252, T 253, T 254, T 255, T 256, T 257, T 258, T 259, T 260, T 261, T 262, T 263, T 264, T 265, T 266, T 267, T 268, T 269, T 270, T 271, T 272, T 273, T 274, T 275, T 276, T 277, T 278, T 279, T 280, T 281, T 282, T 283, T 284, T 285, T 286, T 287, T 288, T 289, T 290, T 291, T 292, T 293, T 294, T 295, T 296, T 297, T 298, T 299, T 300, T 301, T 302, T 303, T 304, T 305, T 306, T 307, T 308, T 309, T 310, T 311, T 312, T 313, T 314, T 315, T 316, T 317, T 318, T 319, T 320, T 321, T 322, T 323, T 324, T 325, T 326, T 327, T 328, T 329, T 330, T 331, T 332, T 333], []⟩ := by
  obtain ⟨T, h, hT⟩ := frame_lit a hs hd
  have e0 : T 0 = p0 := hT 0 p0 h0
  refine ⟨T, ?_⟩
  rw [h, lit334, e0]
theorem frScan33 {a : Act} {p0 p33 : Value} (hs : a.tmps.size = 334) (hd : a.defers = []) (h0 : a.tmps[0]? = some p0) (h33 : a.tmps[33]? = some p33) : ∃ T : Nat → Value, a = ⟨#[p0, T 1, T 2, T 3, T 4, T 5, T 6, T 7, T 8, T 9, T 10, T 11, T 12, T 13, T 14, T 15, T 16, T 17, T 18, T 19, T 20, T 21, T 22, T 23, T 24, T 25, T 26, T 27, T 28, T 29, T 30, T 31, T 32, p33, T 34, T 35, T 36, T 37, T 38, T 39, T 40, T 41, T 42, T 43, T 44, T 45, T 46, T 47, T 48, T 49, T 50, T 51, T 52, T 53, T 54, T 55, T 56, T 57, T 58, T 59, T 60, T 61, T 62, T 63, T 64, T 65, T 66, T 67, T 68, T 69, T 70, T 71, T 72, T 73, T 74, T 75, T 76, T 77, T 78, T 79, T 80, T 81, T 82, T 83, T 84, T 85, T 86, T 87, T 88, T 89, T 90, T 91, T 92, T 93, T 94, T 95, T 96, T 97, T 98, T 99, T 100, T 101, T 102, T 103, T 104, T 105, T 106, T 107, T 108, T 109, T 110, T 111, T 112, T 113, T 114, T 115, T 116, T 117, T 118, T 119, T 120, T 121, T 122, T 123, T 124, T 125, T 126, T 127, T 128, T 129, T 130, T 131, T 132, T 133, T 134, T 135, T 136, T 137, T 138, T 139, T 140, T 141, T 142, T 143, T 144, T 145, T 146, T 147, T 148, T 149, T 150, T 151, T 152, T 153, T 154, T 155, T 156, T 157, T 158, T 159, T 160, T 161, T 162, T 163, T 164, T 165, T 166, T 167, T 168, T 169, T 170, T 171, T 172, T 173, T 174, T 175, T 176, T 177, T 178, T 179, T 180, T 181, T 182, T 183, T 184, T 185, T 186, T 187, T 188, T 189, T 190, T 191, T 192, T 193, T 194, T 195, T 196, T 197, T 198, T 199, T 200, T 201, T 202, T 203, T 204, T 205, T 206, T 207, T 208, T 209, T 210, T 211, T 212, T 213, T 214, T 215, T 216, T 217, T 218, T 219, T 220, T 221, T 222, T 223, T 224, T 225, T 226, T 227, T 228, T 229, T 230, T 231, T 232, T 233, T 234, T 235, T 236, T 237, T 238, T 239, T 240, T 241, T 242, T 243, T 244, T 245, T 246, T 247, T 248, T 249, T 250, T 251, T 252, T 253, T 254, T 255, T 256, T 257, T 258, T 259, T 260, T 261, T 262, T 263, T 264, T 265, T 266, T 267, T 268, T 269, T 270, T 271, T 272, T 273, T 274, T 275, T 276, T 277, T 278, T 279, T 280, T 281, T 282, T 283, T 284, T 285, T 286, T 287, T 288, T 289, T 290, T 291, T 292, T 293, T 294, T 295, T 296, T 297, T 298, T 299, T 300, T 301, T 302, T 303, T 304, T 305, T 306, T 307, T 308, T 309, T 310, T 311, T 312, T 313, T 314, T 315, T 316, T 317, T 318, T 319, T 320, T 321, T 322, T 323, T 324, T 325, T 326, T 327, T 328, T 329, T 330, T 331, T 332, T 333], []⟩ := by
  obtain ⟨T, h, hT⟩ := frame_lit a hs hd
  have e0 : T 0 = p0 := hT 0 p0 h0
  have e33 : T 33 = p33 := hT 33 p33 h33
  refine ⟨T, ?_⟩
  rw [h, lit334, e0, e33]
theorem frScan8 {a : Act} {p0 p8 : Value} (hs : a.tmps.size = 334) (hd : a.defers = []) (h0 : a.tmps[0]? = some p0) (h8 : a.tmps[8]? = some p8) : ∃ T : Nat → Value, a = ⟨#[p0, T 1, T 2, T 3, T 4, T 5, T 6, T 7, p8, T 9, T 10, T 11, T 12, T 13, T 14, T 15, T 16, T 17, T 18, T 19, T 20, T 21, T 22, T 23, T 24, T 25, T 26, T 27, T 28, T 29, T 30, T 31, T 32, T 33, T 34, T 35, T 36, T 37, T 38, T 39, T 40, T 41, T 42, T 43, T 44, T 45, T 46, T 47, T 48, T 49, T 50, T 51, T 52, T 53, T 54, T 55, T 56, T 57, T 58, T 59, T 60, T 61, T 62, T 63, T 64, T 65, T 66, T 67, T 68, T 69, T 70, T 71, T 72, T 73, T 74, T 75, T 76, T 77, T 78, T 79, T 80, T 81, T 82, T 83, T 84, T 85, T 86, T 87, T 88, T 89, T 90, T 91, T 92, T 93, T 94, T 95, T 96, T 97, T 98, T 99, T 100, T 101, T 102, T 103, T 104, T 105, T 106, T 107, T 108, T 109, T 110, T 111, T 112, T 113, T 114, T 115, T 116, T 117, T 118, T 119, T 120, T 121, T 122, T 123, T 124, T 125, T 126, T 127, T 128, T 129, T 130, T 131, T 132, T 133, T 134, T 135, T 136, T 137, T 138, T 139, T 140, T 141, T 142, T 143, T 144, T 145, T 146, T 147, T 148, T 149, T 150, T 151, T 152, T 153, T 154, T 155, T 156, T 157, T 158, T 159, T 160, T 161, T 162, T 163, T 164, T 165, T 166, T 167, T 168, T 169, T 170, T 171, T 172, T 173, T 174, T 175, T 176, T 177, T 178, T 179, T 180, T 181, T 182, T 183, T 184, T 185, T 186, T 187, T 188, T 189, T 190, T 191, T 192, T 193, T 194, T 195, T 196, T 197, T 198, T 199, T 200, T 201, T 202, T 203, T 204, T 205, T 206, T 207, T 208, T 209, T 210, T 211, T 212, T 213, T 214, T 215, T 216, T 217, T 218, T 219, T 220, T 221, T 222, T 223, T 224, T 225, T 226, T 227, T 228, T 229, T 230, T 231, T 232, T 233, T 234, T 235, T 236, T 237, T 238, T 239, T 240, T 241, T 242, T 243, T 244, T 245, T 246, T 247, T 248, T 249, T 250, T 251, T 252, T 253, T 254, T 255, T 256, T 257, T 258, T 259, T 260, T 261, T 262, T 263, T 264, T 265, T 266, T 267, T 268, T 269, T 270, T 271, T 272, T 273, T 274, T 275, T 276, T 277, T 278, T 279, T 280, T 281, T 282, T 283, T 284, T 285, T 286, T 287, T 288, T 289, T 290, T 291, T 292, T 293, T 294, T 295, T 296, T 297, T 298, T 299, T 300, T 301, T 302, T 303, T 304, T 305, T 306, T 307, T 308, T 309, T 310, T 311, T 312, T 313, T 314, T 315, T 316, T 317, T 318, T 319, T 320, T 321, T 322, T 323, T 324, T 325, T 326, T 327, T 328, T 329, T 330, T 331, T 332, T 333], []⟩ := by
  obtain ⟨T, h, hT⟩ := frame_lit a hs hd
  have e0 : T 0 = p0 := hT 0 p0 h0
  have e8 : T 8 = p8 := hT 8 p8 h8
  refine ⟨T, ?_⟩
  rw [h, lit334, e0, e8]
set_option maxRecDepth 100000 in
set_option maxHeartbeats 8000000 in
theorem scScan {S : Err → Addr} {B base : Nat} {w : World} {L : SLoc} {k most lim : Nat} {st : SS} (E : Env S B w) (T : TabsB B w) (hB : B ≤ base) (h : Sc S w base L k most lim st) (hk : k < 4) (hnl : st.err ≠ some .long) (hbn : st.err ≠ none → st.buf ≠ []) :
    Calls Tryd.prog 35 #[.pointer (some ⟨L.b, 0, none⟩)] w (Ret (ScanPost S base L k most lim st w)) := by
  have HE := Lib.hid E
  have HT := Lib.hid T
  have HB := Lib.hid hB
  have HM : Hid (∀ (st1 : SS) (wx : World), ScWent S base L k most lim w st wx st1 → ∀ j, ScM L st.bufv j → B ≤ j) := fun st1 wx _ j hj => by
    have := h.blo; have := h.slo
    rcases hj with hj | hj | hj
    · omega
    · have := (h.buf.block hj).2.2.1; omega
    · omega
  have h0 : ScIn S base L k most lim w st (w.setCell ⟨L.b, 9, none⟩ (.bool true)) { st with called := true } := ⟨(ScWent.refl h).cell 9 _ h.setCalled rfl rfl, ⟨rfl, fun _ => rfl, Nat.le_refl _⟩, hnl, hbn⟩
  have H0 := Lib.hid h0
  obtain ⟨c0, c1, c2, c3, c4, c5, c6, c7, c8, c9, c10, hf⟩ := h.cells
  clear E T hB h hnl hbn h0
  have kn := fun (wx : World) (ax : Option Addr) (n c : Nat) => run_neq_slice_nil_any (P := Tryd.prog) wx 29 5 ax n c 0 0 Tryd.underlying29
  go_enter Tryd.func35, Tryd.ntmps35
  go_wp2_with fail
  clear c0 c1 c2 c3 c4 c5 c6 c7 c8 c9 c10 hf
  refine wp_loop_ghost_k (fun gk a' wx => (∃ st1, ScIn S base L k most lim w st wx st1 ∧ fuelS st1 ≤ gk) ∧ ∃ T : Nat → Value, a' = ⟨#[.pointer (some ⟨L.b, 0, none⟩), T 1, T 2, T 3, T 4, T 5, T 6, T 7, T 8, T 9, T 10, T 11, T 12, T 13, T 14, T 15, T 16, T 17, T 18, T 19, T 20, T 21, T 22, T 23, T 24, T 25, T 26, T 27, T 28, T 29, T 30, T 31, T 32, T 33, T 34, T 35, T 36, T 37, T 38, T 39, T 40, T 41, T 42, T 43, T 44, T 45, T 46, T 47, T 48, T 49, T 50, T 51, T 52, T 53, T 54, T 55, T 56, T 57, T 58, T 59, T 60, T 61, T 62, T 63, T 64, T 65, T 66, T 67, T 68, T 69, T 70, T 71, T 72, T 73, T 74, T 75, T 76, T 77, T 78, T 79, T 80, T 81, T 82, T 83, T 84, T 85, T 86, T 87, T 88, T 89, T 90, T 91, T 92, T 93, T 94, T 95, T 96, T 97, T 98, T 99, T 100, T 101, T 102, T 103, T 104, T 105, T 106, T 107, T 108, T 109, T 110, T 111, T 112, T 113, T 114, T 115, T 116, T 117, T 118, T 119, T 120, T 121, T 122, T 123, T 124, T 125, T 126, T 127, T 128, T 129, T 130, T 131, T 132, T 133, T 134, T 135, T 136, T 137, T 138, T 139, T 140, T 141, T 142, T 143, T 144, T 145, T 146, T 147, T 148, T 149, T 150, T 151, T 152, T 153, T 154, T 155, T 156, T 157, T 158, T 159, T 160, T 161, T 162, T 163, T 164, T 165, T 166, T 167, T 168, T 169, T 170, T 171, T 172, T 173, T 174, T 175, T 176, T 177, T 178, T 179, T 180, T 181, T 182, T 183, T 184, T 185, T 186, T 187, T 188, T 189, T 190, T 191, T 192, T 193, T 194, T 195, T 196, T 197, T 198, T 199, T 200, T 201, T 202, T 203, T 204, T 205, T 206, T 207, T 208, T 209, T 210, T 211, T 212, T 213, T 214, T 215, T 216, T 217, T 218, T 219, T 220, T 221, T 222, T 223, T 224, T 225, T 226, T 227, T 228, T 229, T 230, T 231, T 232, T 233, T 234, T 235, T 236, T 237, T 238, T 239, T 240, T 241, T 242, T 243, T 244, T 245, T 246, T 247, T 248, T 249, T 250, T 251, T 252, T 253, T 254, T 255, T 256, T 257, T 258, T 259, T 260, T 261, T 262, T 263, T 264, T 265, T 266, T 267, T 268, T 269, T 270, T 271, T 272, T 273, T 274, T 275, T 276, T 277, T 278, T 279, T 280, T 281, T 282, T 283, T 284, T 285, T 286, T 287, T 288, T 289, T 290, T 291, T 292, T 293, T 294, T 295, T 296, T 297, T 298, T 299, T 300, T 301, T 302, T 303, T 304, T 305, T 306, T 307, T 308, T 309, T 310, T 311, T 312, T 313, T 314, T 315, T 316, T 317, T 318, T 319, T 320, T 321, T 322, T 323, T 324, T 325, T 326, T 327, T 328, T 329, T 330, T 331, T 332, T 333], []⟩) (fuelS st) ?_ ?_
  · exact ⟨⟨_, H0.out, Nat.le_refl _⟩, frScan rfl rfl rfl⟩
  · rintro gk _ wr ⟨⟨st1, hin, hgk⟩, T, rfl⟩
    intro J K hJ hK
    clear H0
    have HIN := Lib.hid hin
    have HGK := Lib.hid hgk
    have herr : st1.err = none ∨ ∃ et ev, eV S st1.err = .iface et ev := by
      cases st1.err with
      | none => exact .inl rfl
      | some x => cases x <;> exact .inr ⟨_, _, rfl⟩
    have hse := hin.went.sc.se
    have hen := hin.went.sc.en
    have hlim := hin.went.sc.lim
    have hcl := hin.went.sc.cle
    clear hgk
    apply wp_block
    refine wp_seq_k (fun K4 hK4 => ?_)
    have HK4 := Lib.hid hK4
    clear hK4
    refine wp_cut (fun a' wx => CutS S base L k most lim w st st1 wx ∧ ∃ T : Nat → Value, a' = ⟨#[.pointer (some ⟨L.b, 0, none⟩), T 1, T 2, T 3, T 4, T 5, T 6, T 7, T 8, T 9, T 10, T 11, T 12, T 13, T 14, T 15, T 16, T 17, T 18, T 19, T 20, T 21, T 22, T 23, T 24, T 25, T 26, T 27, T 28, T 29, T 30, T 31, T 32, T 33, T 34, T 35, T 36, T 37, T 38, T 39, T 40, T 41, T 42, T 43, T 44, T 45, T 46, T 47, T 48, T 49, T 50, T 51, T 52, T 53, T 54, T 55, T 56, T 57, T 58, T 59, T 60, T 61, T 62, T 63, T 64, T 65, T 66, T 67, T 68, T 69, T 70, T 71, T 72, T 73, T 74, T 75, T 76, T 77, T 78, T 79, T 80, T 81, T 82, T 83, T 84, T 85, T 86, T 87, T 88, T 89, T 90, T 91, T 92, T 93, T 94, T 95, T 96, T 97, T 98, T 99, T 100, T 101, T 102, T 103, T 104, T 105, T 106, T 107, T 108, T 109, T 110, T 111, T 112, T 113, T 114, T 115, T 116, T 117, T 118, T 119, T 120, T 121, T 122, T 123, T 124, T 125, T 126, T 127, T 128, T 129, T 130, T 131, T 132, T 133, T 134, T 135, T 136, T 137, T 138, T 139, T 140, T 141, T 142, T 143, T 144, T 145, T 146, T 147, T 148, T 149, T 150, T 151, T 152, T 153, T 154, T 155, T 156, T 157, T 158, T 159, T 160, T 161, T 162, T 163, T 164, T 165, T 166, T 167, T 168, T 169, T 170, T 171, T 172, T 173, T 174, T 175, T 176, T 177, T 178, T 179, T 180, T 181, T 182, T 183, T 184, T 185, T 186, T 187, T 188, T 189, T 190, T 191, T 192, T 193, T 194, T 195, T 196, T 197, T 198, T 199, T 200, T 201, T 202, T 203, T 204, T 205, T 206, T 207, T 208, T 209, T 210, T 211, T 212, T 213, T 214, T 215, T 216, T 217, T 218, T 219, T 220, T 221, T 222, T 223, T 224, T 225, T 226, T 227, T 228, T 229, T 230, T 231, T 232, T 233, T 234, T 235, T 236, T 237, T 238, T 239, T 240, T 241, T 242, T 243, T 244, T 245, T 246, T 247, T 248, T 249, T 250, T 251, T 252, T 253, T 254, T 255, T 256, T 257, T 258, T 259, T 260, T 261, T 262, T 263, T 264, T 265, T 266, T 267, T 268, T 269, T 270, T 271, T 272, T 273, T 274, T 275, T 276, T 277, T 278, T 279, T 280, T 281, T 282, T 283, T 284, T 285, T 286, T 287, T 288, T 289, T 290, T 291, T 292, T 293, T 294, T 295, T 296, T 297, T 298, T 299, T 300, T 301, T 302, T 303, T 304, T 305, T 306, T 307, T 308, T 309, T 310, T 311, T 312, T 313, T 314, T 315, T 316, T 317, T 318, T 319, T 320, T 321, T 322, T 323, T 324, T 325, T 326, T 327, T 328, T 329, T 330, T 331, T 332, T 333], []⟩) ?rest ?first
    case first =>
      intro J1 K1 hJ1 hK1
      refine wp_seq_k (fun K7 hK7 => ?_)
      have HK7 := Lib.hid hK7
      clear hK7
      refine wp_cut (fun a' wx => ∃ b : Bool, (TestS st1 b ∧ wx = wr.drew) ∧ ∃ T : Nat → Value, a' = ⟨#[.pointer (some ⟨L.b, 0, none⟩), T 1, T 2, T 3, T 4, T 5, T 6, T 7, T 8, T 9, T 10, T 11, T 12, T 13, T 14, T 15, T 16, T 17, T 18, T 19, T 20, T 21, T 22, T 23, T 24, T 25, T 26, T 27, T 28, T 29, T 30, T 31, T 32, .bool b, T 34, T 35, T 36, T 37, T 38, T 39, T 40, T 41, T 42, T 43, T 44, T 45, T 46, T 47, T 48, T 49, T 50, T 51, T 52, T 53, T 54, T 55, T 56, T 57, T 58, T 59, T 60, T 61, T 62, T 63, T 64, T 65, T 66, T 67, T 68, T 69, T 70, T 71, T 72, T 73, T 74, T 75, T 76, T 77, T 78, T 79, T 80, T 81, T 82, T 83, T 84, T 85, T 86, T 87, T 88, T 89, T 90, T 91, T 92, T 93, T 94, T 95, T 96, T 97, T 98, T 99, T 100, T 101, T 102, T 103, T 104, T 105, T 106, T 107, T 108, T 109, T 110, T 111, T 112, T 113, T 114, T 115, T 116, T 117, T 118, T 119, T 120, T 121, T 122, T 123, T 124, T 125, T 126, T 127, T 128, T 129, T 130, T 131, T 132, T 133, T 134, T 135, T 136, T 137, T 138, T 139, T 140, T 141, T 142, T 143, T 144, T 145, T 146, T 147, T 148, T 149, T 150, T 151, T 152, T 153, T 154, T 155, T 156, T 157, T 158, T 159, T 160, T 161, T 162, T 163, T 164, T 165, T 166, T 167, T 168, T 169, T 170, T 171, T 172, T 173, T 174, T 175, T 176, T 177, T 178, T 179, T 180, T 181, T 182, T 183, T 184, T 185, T 186, T 187, T 188, T 189, T 190, T 191, T 192, T 193, T 194, T 195, T 196, T 197, T 198, T 199, T 200, T 201, T 202, T 203, T 204, T 205, T 206, T 207, T 208, T 209, T 210, T 211, T 212, T 213, T 214, T 215, T 216, T 217, T 218, T 219, T 220, T 221, T 222, T 223, T 224, T 225, T 226, T 227, T 228, T 229, T 230, T 231, T 232, T 233, T 234, T 235, T 236, T 237, T 238, T 239, T 240, T 241, T 242, T 243, T 244, T 245, T 246, T 247, T 248, T 249, T 250, T 251, T 252, T 253, T 254, T 255, T 256, T 257, T 258, T 259, T 260, T 261, T 262, T 263, T 264, T 265, T 266, T 267, T 268, T 269, T 270, T 271, T 272, T 273, T 274, T 275, T 276, T 277, T 278, T 279, T 280, T 281, T 282, T 283, T 284, T 285, T 286, T 287, T 288, T 289, T 290, T 291, T 292, T 293, T 294, T 295, T 296, T 297, T 298, T 299, T 300, T 301, T 302, T 303, T 304, T 305, T 306, T 307, T 308, T 309, T 310, T 311, T 312, T 313, T 314, T 315, T 316, T 317, T 318, T 319, T 320, T 321, T 322, T 323, T 324, T 325, T 326, T 327, T 328, T 329, T 330, T 331, T 332, T 333], []⟩) ?rest2 ?first2
      case first2 =>
        intro J2 K2 hJ2 hK2
        by_cases hlt : st1.st < st1.en
        · obtain ⟨c0, c1, c2, c3, c4, c5, c6, c7, c8, c9, c10, hf⟩ := hin.went.sc.cells
          have q1 : decide ((st1.st : Int) < (st1.en : Int)) = true := decide_eq_true (by omega)
          have HLT := Lib.hid hlt
          clear hin herr c0 c1 c2 c3 c4 c8 c9 c10
          refine wp_region_lx {} (by kernel_rfl) (by kernel_rfl) ⟨fun _ _ _ h => h.2, fun _ _ h => h⟩ ?_
          (repeat' (first | (refine wpLx_calm rfl rfl rfl (fun K hK => ?_); go_step <;> (refine hK _ ?_; clear hK K)) | (refine wpLx_skip2 rfl rfl rfl ?_; go_simp) | (refine wpLx_calm2 rfl rfl rfl rfl rfl (fun K hK => ?_); go_step <;> (refine hK _ ?_; clear hK K))))
          all_goals refine wpLx_nil ?_
          go_wp2_with fail
          refine Met.intro ?_
          go_step
          exact ⟨true, ⟨⟨fun _ => .inl HLT.out, fun h => (by cases h)⟩, rfl⟩, frScan33 rfl rfl rfl rfl⟩
        · have hse2 : st1.st = st1.en := by omega
          have q1 : decide ((st1.st : Int) < (st1.en : Int)) = false := decide_eq_false (by omega)
          rcases herr with he | ⟨et, ev, he⟩
          · have hsub : TestS st1 false := ⟨fun h => (by cases h), fun _ => ⟨hse2, he⟩⟩
            have HS := Lib.hid hsub
            obtain ⟨c0, c1, c2, c3, c4, c5, c6, c7, c8, c9, c10, hf⟩ := hin.went.sc.cells
            rw [he] at c7
            have c7 : wr.cell? ⟨L.b, 7, none⟩ = some .nilIface := c7
            clear hin hse2 he hsub c0 c1 c2 c3 c4 c8 c9 c10
            refine wp_region_lx {} (by kernel_rfl) (by kernel_rfl) ⟨fun _ _ _ h => h.2, fun _ _ h => h⟩ ?_
            (repeat' (first | (refine wpLx_calm rfl rfl rfl (fun K hK => ?_); go_step <;> (refine hK _ ?_; clear hK K)) | (refine wpLx_skip2 rfl rfl rfl ?_; go_simp) | (refine wpLx_calm2 rfl rfl rfl rfl rfl (fun K hK => ?_); go_step <;> (refine hK _ ?_; clear hK K))))
            all_goals refine wpLx_nil ?_
            go_wp2_with fail
            refine Met.intro ?_
            go_step
            exact ⟨_, ⟨HS.out, rfl⟩, frScan33 rfl rfl rfl rfl⟩
          · have hen1 : st1.err ≠ none := fun hh => by rw [hh] at he; cases he
            have hsub : TestS st1 true := ⟨fun h => .inr hen1, fun h => (by cases h)⟩
            have HS := Lib.hid hsub
            obtain ⟨c0, c1, c2, c3, c4, c5, c6, c7, c8, c9, c10, hf⟩ := hin.went.sc.cells
            rw [he] at c7
            clear hin hse2 he hsub hen1 c0 c1 c2 c3 c4 c8 c9 c10
            refine wp_region_lx {} (by kernel_rfl) (by kernel_rfl) ⟨fun _ _ _ h => h.2, fun _ _ h => h⟩ ?_
            (repeat' (first | (refine wpLx_calm rfl rfl rfl (fun K hK => ?_); go_step <;> (refine hK _ ?_; clear hK K)) | (refine wpLx_skip2 rfl rfl rfl ?_; go_simp) | (refine wpLx_calm2 rfl rfl rfl rfl rfl (fun K hK => ?_); go_step <;> (refine hK _ ?_; clear hK K))))
            all_goals refine wpLx_nil ?_
            go_wp2_with fail
            refine Met.intro ?_
            go_step
            exact ⟨_, ⟨HS.out, rfl⟩, frScan33 rfl rfl rfl rfl⟩
      case rest2 =>
        rintro _ _ ⟨b, ⟨⟨hb1, hb2⟩, rfl⟩, T2, rfl⟩
        refine HK7.out _ _ ?_
        clear HK7
        cases b with
        | false =>
          obtain ⟨hse2, hff⟩ := hb2 rfl
          have HSE := Lib.hid (And.intro hse2 hff)
          clear hin hb1 hb2 hse2 hff herr
          go_wp2_with fail
          refine Met.intro ?_
          go_step
          exact ⟨scan_skip HIN.out.drew HSE.out.1 HSE.out.2, frScan rfl rfl rfl⟩
        | true =>
          have hor := hb1 rfl
          have hbne0 : st1.buf ≠ [] := fun hh => by
            rcases hor with h1 | h1
            · rw [hh] at hen; simp at hen; omega
            · exact hin.bn h1 hh
          have hbl := bufS_length hen
          have hspl0 : ∀ fin, decide (st1.err ≠ none) = fin → bufS st1 ≠ [] ∨ fin = true := fun fin hf => by
            rcases hor with h1 | h1
            · exact .inl (fun hh => by have := congrArg List.length hh; rw [hbl, List.length_nil] at this; omega)
            · exact .inr (by rw [← hf]; exact decide_eq_true h1)
          obtain ⟨bb, hbv, hbb, _, _, hby⟩ := hin.went.sc.sub hbne0
          obtain ⟨c0, c1, c2, c3, c4, c5, c6, c7, c8, c9, c10, hf⟩ := (hin.went.new (w2 := wr.drew) (Upd.refl _ _).drew).sc.cells
          rw [hbv] at c4
          rw [splF_eq] at c1
          clear hor hb1 hb2
          rcases herr with he | ⟨et, ev, hev⟩
          · have hev : eV S st1.err = .nilIface := by rw [he]; rfl
            have hfin : decide (st1.err ≠ none) = false := decide_eq_false (fun h => h he)
            have hspl := hspl0 false hfin
            have herr := he
            clear he hspl0
            have HEV : Hid (eV S st1.err = .nilIface) := Lib.hid hev
            have HFI : Hid (ErrIs st1 false) := Lib.hid hfin
            rw [hev] at c7
            have KS : ∀ wx, New wr wx → ∀ ao, ao = (if st1.buf.length = st1.st then some (⟨bb, 0, none⟩ : Addr) else some ⟨bb, st1.st, none⟩) → Calls Tryd.prog (splId k) #[.slice ao (st1.en - st1.st) (st1.buf.length - st1.st), .bool false] wx (Ret (SplitPost wx (spl k (bufS st1) false))) := by
              intro wx hx ao hao
              rw [← hbl]
              have hT := (HT.out.upd HIN.out.went.upd (HM.out _ _ HIN.out.went)).tabs.new hx
              by_cases hcs : st1.buf.length = st1.st
              · rw [if_pos hcs] at hao
                rw [hao]
                exact splC hT hk ((hby 0 _ (.inl ⟨hcs, rfl, by omega⟩)).new hx) _ hspl
              · rw [if_neg hcs] at hao
                rw [hao]
                exact splC hT hk ((hby _ _ (.inr ⟨hcs, rfl, rfl⟩)).new hx) _ hspl
            have hadv := spl_le k (bufS st1) false hspl
            rw [hbl] at hadv
            obtain ⟨X, hX⟩ : ∃ X, spl k (bufS st1) false = X := ⟨_, rfl⟩
            rw [hX] at KS hadv
            have HX := Lib.hid hX
            have HKS := Lib.hid KS
            obtain ⟨X1, X2⟩ := X
            have hadv : X1 ≤ st1.en - st1.st := hadv
            have HSPL : Hid (SplOk st1 false) := Lib.hid hspl
            clear KS hX hin hfin hev hby hbl hspl hbb hbne0 herr c0 c2 c3 c8 c9 c10
            go_wp2_with fail
            refine wp_region_lx {} (by kernel_rfl) (by kernel_rfl) ⟨fun _ _ _ h => h.2, fun _ _ h => h⟩ ?_
            (repeat' (first | (refine wpLx_calm rfl rfl rfl (fun K hK => ?_); go_step <;> (refine hK _ ?_; clear hK K)) | (refine wpLx_skip2 rfl rfl rfl ?_; go_simp) | (refine wpLx_calm2 rfl rfl rfl rfl rfl (fun K hK => ?_); go_step <;> (refine hK _ ?_; clear hK K))))
            obtain ⟨ao, hao⟩ : ∃ ao : Option Addr, (if st1.buf.length = st1.st then some (⟨bb, 0, none⟩ : Addr) else some ⟨bb, st1.st, none⟩) = ao := ⟨_, rfl⟩
            rw [hao]
            refine wpLx_eff rfl rfl rfl (fun K hK => ?_)
            refine wp_call (HKS.out _ ((Upd.refl _ _).drew.drew) ao hao.symm) ?_ ?_
            · have hk4 : k = 0 ∨ k = 1 ∨ k = 2 ∨ k = 3 := by omega
              rcases hk4 with h | h | h | h <;> (subst h; show _ = _; kernel_rfl)
            rintro v w1 ⟨hu1, tv, rfl, htv⟩
            have hn1 : New wr w1 := ((Upd.refl (fun _ => False) wr).drew.drew).andNew hu1
            have HG1 := Lib.hid (HIN.out.went.new hn1)
            have KA := Lib.hid (scAdvance (HIN.out.went.new hn1).sc X1 hadv)
            clear hu1 hn1 hao
            refine hK _ _ ?_
            clear hK K
            (repeat' (first | (refine wpLx_calm rfl rfl rfl (fun K hK => ?_); go_step <;> (refine hK _ ?_; clear hK K)) | (refine wpLx_skip2 rfl rfl rfl ?_; go_simp) | (refine wpLx_calm2 rfl rfl rfl rfl rfl (fun K hK => ?_); go_step <;> (refine hK _ ?_; clear hK K))))
            all_goals refine wpLx_nil ?_
            clear c1 c4 c5 c6 c7 hf
            cases X2 with
            | none =>
              obtain rfl : tv = .slice none 0 0 := htv
              go_wp2_with (go_at_call 59; refine callRet KA.out ?_; rintro v w2 ⟨rfl, hg2, hu2⟩; have HG2 := Lib.hid (HG1.out.trans hg2); obtain ⟨d0, d1, d2, d3, d4, d5, d6, d7, d8, d9, d10, df⟩ := hg2.sc.cells; clear hg2 hu2 d0 d1 d2 d4 d5 d6 d7 d8 d9 d10)
              refine Met.intro ?_
              go_step
              exact ⟨scan_none HIN.out HFI.out HSPL.out HX.out (HG2.out.cell 3 (.slice none 0 0) (HG2.out.sc.setTok _ ⟨_, _, _, rfl⟩) rfl rfl), frScan rfl rfl rfl⟩
            | some t =>
              have hxp : 0 < X1 := (scan_some HSPL.out HX.out).2
              obtain ⟨tb, tof, tc, rfl, htb⟩ := htv
              have HTB := Lib.hid htb
              obtain ⟨tl, htl⟩ : ∃ tl, t.length = tl := ⟨_, rfl⟩
              have HTL := Lib.hid htl
              rw [htl]
              clear htb htl
              go_wp2_with (go_at_call 59; refine callRet KA.out ?_; rintro v w2 ⟨rfl, hg2, hu2⟩; have HG2 := Lib.hid (HG1.out.trans hg2); obtain ⟨d0, d1, d2, d3, d4, d5, d6, d7, d8, d9, d10, df⟩ := hg2.sc.cells; have HU2 := Lib.hid hu2; have e7 : w2.cell? ⟨L.b, 7, none⟩ = some .nilIface := (by rw [← HEV.out]; exact d7); clear hg2 hu2 d0 d1 d2 d4 d5 d6 d7 d9 d10)
              go_ret
              have h3 := HG2.out.cell 3 (.slice (some ⟨tb, tof, none⟩) tl tc) (HG2.out.sc.setTok _ ⟨_, _, _, rfl⟩) rfl rfl
              have h4 := h3.cell 8 (.int .i64 0) (h3.sc.setEmp 0) rfl rfl
              exact scan_token HIN.out h4 (scan_some HSPL.out HX.out).1 (by rw [show decide (st1.err ≠ none) = _ from HFI.out]; exact HX.out) rfl rfl rfl rfl rfl ⟨tb, tof, tc, by rw [HTL.out], HTB.out.went HG1.out.sc ((HU2.out.setCell (fun _ => rfl) _).setCell (fun _ => rfl) _)⟩

          · have hfin : decide (st1.err ≠ none) = true := decide_eq_true (fun hh => by rw [hh] at hev; cases hev)
            have hspl := hspl0 true hfin
            have herr := hfin
            clear hspl0
            have HEV : Hid (eV S st1.err = .iface et ev) := Lib.hid hev
            have HFI : Hid (ErrIs st1 true) := Lib.hid hfin
            rw [hev] at c7
            have KS : ∀ wx, New wr wx → ∀ ao, ao = (if st1.buf.length = st1.st then some (⟨bb, 0, none⟩ : Addr) else some ⟨bb, st1.st, none⟩) → Calls Tryd.prog (splId k) #[.slice ao (st1.en - st1.st) (st1.buf.length - st1.st), .bool true] wx (Ret (SplitPost wx (spl k (bufS st1) true))) := by
              intro wx hx ao hao
              rw [← hbl]
              have hT := (HT.out.upd HIN.out.went.upd (HM.out _ _ HIN.out.went)).tabs.new hx
              by_cases hcs : st1.buf.length = st1.st
              · rw [if_pos hcs] at hao
                rw [hao]
                exact splC hT hk ((hby 0 _ (.inl ⟨hcs, rfl, by omega⟩)).new hx) _ hspl
              · rw [if_neg hcs] at hao
                rw [hao]
                exact splC hT hk ((hby _ _ (.inr ⟨hcs, rfl, rfl⟩)).new hx) _ hspl
            have hadv := spl_le k (bufS st1) true hspl
            rw [hbl] at hadv
            obtain ⟨X, hX⟩ : ∃ X, spl k (bufS st1) true = X := ⟨_, rfl⟩
            rw [hX] at KS hadv
            have HX := Lib.hid hX
            have HKS := Lib.hid KS
            obtain ⟨X1, X2⟩ := X
            have hadv : X1 ≤ st1.en - st1.st := hadv
            have HSPL : Hid (SplOk st1 true) := Lib.hid hspl
            clear KS hX hin hfin hev hby hbl hspl hbb hbne0 herr c0 c2 c3 c8 c9 c10
            go_wp2_with fail
            refine wp_region_lx {} (by kernel_rfl) (by kernel_rfl) ⟨fun _ _ _ h => h.2, fun _ _ h => h⟩ ?_
            (repeat' (first | (refine wpLx_calm rfl rfl rfl (fun K hK => ?_); go_step <;> (refine hK _ ?_; clear hK K)) | (refine wpLx_skip2 rfl rfl rfl ?_; go_simp) | (refine wpLx_calm2 rfl rfl rfl rfl rfl (fun K hK => ?_); go_step <;> (refine hK _ ?_; clear hK K))))
            obtain ⟨ao, hao⟩ : ∃ ao : Option Addr, (if st1.buf.length = st1.st then some (⟨bb, 0, none⟩ : Addr) else some ⟨bb, st1.st, none⟩) = ao := ⟨_, rfl⟩
            rw [hao]
            refine wpLx_eff rfl rfl rfl (fun K hK => ?_)
            refine wp_call (HKS.out _ ((Upd.refl _ _).drew.drew) ao hao.symm) ?_ ?_
            · have hk4 : k = 0 ∨ k = 1 ∨ k = 2 ∨ k = 3 := by omega
              rcases hk4 with h | h | h | h <;> (subst h; show _ = _; kernel_rfl)
            rintro v w1 ⟨hu1, tv, rfl, htv⟩
            have hn1 : New wr w1 := ((Upd.refl (fun _ => False) wr).drew.drew).andNew hu1
            have HG1 := Lib.hid (HIN.out.went.new hn1)
            have KA := Lib.hid (scAdvance (HIN.out.went.new hn1).sc X1 hadv)
            clear hu1 hn1 hao
            refine hK _ _ ?_
            clear hK K
            (repeat' (first | (refine wpLx_calm rfl rfl rfl (fun K hK => ?_); go_step <;> (refine hK _ ?_; clear hK K)) | (refine wpLx_skip2 rfl rfl rfl ?_; go_simp) | (refine wpLx_calm2 rfl rfl rfl rfl rfl (fun K hK => ?_); go_step <;> (refine hK _ ?_; clear hK K))))
            all_goals refine wpLx_nil ?_
            clear c1 c4 c5 c6 c7 hf
            cases X2 with
            | none =>
              obtain rfl : tv = .slice none 0 0 := htv
              go_wp2_with (go_at_call 59; refine callRet KA.out ?_; rintro v w2 ⟨rfl, hg2, hu2⟩; have HG2 := Lib.hid (HG1.out.trans hg2); obtain ⟨d0, d1, d2, d3, d4, d5, d6, d7, d8, d9, d10, df⟩ := hg2.sc.cells; clear hg2 hu2 d0 d1 d2 d4 d5 d6 d7 d8 d9 d10)
              refine Met.intro ?_
              go_step
              exact ⟨scan_none HIN.out HFI.out HSPL.out HX.out (HG2.out.cell 3 (.slice none 0 0) (HG2.out.sc.setTok _ ⟨_, _, _, rfl⟩) rfl rfl), frScan rfl rfl rfl⟩
            | some t =>
              have hxp : 0 < X1 := (scan_some HSPL.out HX.out).2
              obtain ⟨tb, tof, tc, rfl, htb⟩ := htv
              have HTB := Lib.hid htb
              obtain ⟨tl, htl⟩ : ∃ tl, t.length = tl := ⟨_, rfl⟩
              have HTL := Lib.hid htl
              rw [htl]
              clear htb htl
              go_wp2_with (go_at_call 59; refine callRet KA.out ?_; rintro v w2 ⟨rfl, hg2, hu2⟩; have HG2 := Lib.hid (HG1.out.trans hg2); obtain ⟨d0, d1, d2, d3, d4, d5, d6, d7, d8, d9, d10, df⟩ := hg2.sc.cells; have HU2 := Lib.hid hu2; have e7 : w2.cell? ⟨L.b, 7, none⟩ = some (.iface et ev) := (by rw [← HEV.out]; exact d7); clear hg2 hu2 d0 d1 d2 d4 d5 d6 d7 d9 d10)
              go_ret
              have h3 := HG2.out.cell 3 (.slice (some ⟨tb, tof, none⟩) tl tc) (HG2.out.sc.setTok _ ⟨_, _, _, rfl⟩) rfl rfl
              have h4 := h3.cell 8 (.int .i64 0) (h3.sc.setEmp 0) rfl rfl
              exact scan_token HIN.out h4 (scan_some HSPL.out HX.out).1 (by rw [show decide (st1.err ≠ none) = _ from HFI.out]; exact HX.out) rfl rfl rfl rfl rfl ⟨tb, tof, tc, by rw [HTL.out], HTB.out.went HG1.out.sc ((HU2.out.setCell (fun _ => rfl) _).setCell (fun _ => rfl) _)⟩

    case rest =>
      rintro _ wc ⟨hcut, T1, rfl⟩
      obtain ⟨st2, hg2, he2, hend, hmore⟩ := hcut
      refine HK4.out _ _ ?_
      clear HK4
      refine wp_seq_k (fun K5 hK5 => ?_)
      have HK5 := Lib.hid hK5
      clear hK5
      rcases herr with he | ⟨et, ev, he⟩
      · obtain ⟨hin2, hps2, hpos2⟩ := hmore he
        have HIN2 := Lib.hid hin2
        have HPS2 := Lib.hid hps2
        have HPOS2 := Lib.hid hpos2
        have HE2 : Hid (st2.err = none) := Lib.hid (he2.trans he)
        have HE1 : Hid (st1.err = none) := Lib.hid he
        obtain ⟨c0, c1, c2, c3, c4, c5, c6, c7, c8, c9, c10, hf⟩ := hg2.sc.cells
        rw [he2, he] at c7
        change wc.cell? ⟨L.b, 7, none⟩ = some .nilIface at c7
        have hse2 := hin2.went.sc.se
        have hen2 := hin2.went.sc.en
        have hcl2 := hin2.went.sc.cle
        clear hin2 hps2 hpos2 hmore hend hg2 he2 he c0 c1 c2 c3 c8 c9 c10
        go_wp2_with fail
        refine HK5.out _ _ ?_
        clear HK5
        refine wp_seq_k (fun K6 hK6 => ?_)
        have HK6 := Lib.hid hK6
        clear hK6
        refine wp_cut (fun a' wx => (∃ st3, ScIn S base L k most lim w st wx st3 ∧ st3.ps = st2.ps ∧ st3.err = st2.err ∧ bufS st3 = bufS st2 ∧ (st3.en = st3.buf.length → st3.st = 0)) ∧ ∃ T : Nat → Value, a' = ⟨#[.pointer (some ⟨L.b, 0, none⟩), T 1, T 2, T 3, T 4, T 5, T 6, T 7, T 8, T 9, T 10, T 11, T 12, T 13, T 14, T 15, T 16, T 17, T 18, T 19, T 20, T 21, T 22, T 23, T 24, T 25, T 26, T 27, T 28, T 29, T 30, T 31, T 32, T 33, T 34, T 35, T 36, T 37, T 38, T 39, T 40, T 41, T 42, T 43, T 44, T 45, T 46, T 47, T 48, T 49, T 50, T 51, T 52, T 53, T 54, T 55, T 56, T 57, T 58, T 59, T 60, T 61, T 62, T 63, T 64, T 65, T 66, T 67, T 68, T 69, T 70, T 71, T 72, T 73, T 74, T 75, T 76, T 77, T 78, T 79, T 80, T 81, T 82, T 83, T 84, T 85, T 86, T 87, T 88, T 89, T 90, T 91, T 92, T 93, T 94, T 95, T 96, T 97, T 98, T 99, T 100, T 101, T 102, T 103, T 104, T 105, T 106, T 107, T 108, T 109, T 110, T 111, T 112, T 113, T 114, T 115, T 116, T 117, T 118, T 119, T 120, T 121, T 122, T 123, T 124, T 125, T 126, T 127, T 128, T 129, T 130, T 131, T 132, T 133, T 134, T 135, T 136, T 137, T 138, T 139, T 140, T 141, T 142, T 143, T 144, T 145, T 146, T 147, T 148, T 149, T 150, T 151, T 152, T 153, T 154, T 155, T 156, T 157, T 158, T 159, T 160, T 161, T 162, T 163, T 164, T 165, T 166, T 167, T 168, T 169, T 170, T 171, T 172, T 173, T 174, T 175, T 176, T 177, T 178, T 179, T 180, T 181, T 182, T 183, T 184, T 185, T 186, T 187, T 188, T 189, T 190, T 191, T 192, T 193, T 194, T 195, T 196, T 197, T 198, T 199, T 200, T 201, T 202, T 203, T 204, T 205, T 206, T 207, T 208, T 209, T 210, T 211, T 212, T 213, T 214, T 215, T 216, T 217, T 218, T 219, T 220, T 221, T 222, T 223, T 224, T 225, T 226, T 227, T 228, T 229, T 230, T 231, T 232, T 233, T 234, T 235, T 236, T 237, T 238, T 239, T 240, T 241, T 242, T 243, T 244, T 245, T 246, T 247, T 248, T 249, T 250, T 251, T 252, T 253, T 254, T 255, T 256, T 257, T 258, T 259, T 260, T 261, T 262, T 263, T 264, T 265, T 266, T 267, T 268, T 269, T 270, T 271, T 272, T 273, T 274, T 275, T 276, T 277, T 278, T 279, T 280, T 281, T 282, T 283, T 284, T 285, T 286, T 287, T 288, T 289, T 290, T 291, T 292, T 293, T 294, T 295, T 296, T 297, T 298, T 299, T 300, T 301, T 302, T 303, T 304, T 305, T 306, T 307, T 308, T 309, T 310, T 311, T 312, T 313, T 314, T 315, T 316, T 317, T 318, T 319, T 320, T 321, T 322, T 323, T 324, T 325, T 326, T 327, T 328, T 329, T 330, T 331, T 332, T 333], []⟩) ?rest3 ?first3
        case first3 =>
          intro J3 K3 hJ3 hK3
          by_cases h0 : st2.st ≤ 0
          · have HFIN := Lib.hid (fun (wx : World) (hx : New wc wx) => (show ∃ st3, ScIn S base L k most lim w st wx st3 ∧ st3.ps = st2.ps ∧ st3.err = st2.err ∧ bufS st3 = bufS st2 ∧ (st3.en = st3.buf.length → st3.st = 0) from ⟨st2, ⟨HIN2.out.went.new hx, HIN2.out.same, HIN2.out.nl, HIN2.out.bn⟩, rfl, rfl, rfl, fun _ => by omega⟩))
            have hn0 : ¬ 0 < st2.st := by omega
            clear c4 c6 c7
            go_wp2_with fail
            refine wp_region_lx {} (by kernel_rfl) (by kernel_rfl) ⟨fun _ _ _ h => h.2, fun _ _ h => h⟩ ?_
            (repeat' (first | (refine wpLx_calm rfl rfl rfl (fun K hK => ?_); go_step <;> (refine hK _ ?_; clear hK K)) | (refine wpLx_skip2 rfl rfl rfl ?_; go_simp) | (refine wpLx_calm2 rfl rfl rfl rfl rfl (fun K hK => ?_); go_step <;> (refine hK _ ?_; clear hK K)) | (refine wpLx_skip rfl ?_; go_simp)))
            all_goals refine wpLx_nil ?_
            go_wp2_with fail
            refine Met.intro ?_
            go_step
            exact ⟨HFIN.out _ (Upd.refl _ _).drew, frScan rfl rfl rfl⟩
          · have hpos : 0 < st2.st := by omega
            have hbne : st2.buf ≠ [] := fun hh => by rw [hh] at hen2; simp at hen2; omega
            obtain ⟨bb, hbv, hbb, hb1, hb2, hby⟩ := HIN2.out.went.sc.sub hbne
            have hbne' : bb ≠ L.b := fun e => by have h1 := HIN2.out.went.sc.hb; rw [← e, hbb] at h1; simp at h1
            rw [hbv] at c4
            by_cases hsl : st2.en = st2.buf.length ∨ st2.buf.length / 2 < st2.st
            · have hA : ∃ o c', (if st2.buf.length = st2.st then some (⟨bb, 0, none⟩ : Addr) else some ⟨bb, st2.st, none⟩) = some ⟨bb, o, none⟩ ∧ ∀ wx, New wc wx → BytesA wx (some ⟨bb, o, none⟩) c' (bufS st2) := by
                by_cases hcs : st2.buf.length = st2.st
                · rw [if_pos hcs]; exact ⟨0, _, rfl, fun wx hx => (hby 0 _ (.inl ⟨hcs, rfl, rfl⟩)).new hx⟩
                · rw [if_neg hcs]; exact ⟨_, _, rfl, fun wx hx => (hby _ _ (.inr ⟨hcs, rfl, rfl⟩)).new hx⟩
              obtain ⟨o, cx, hao, hB⟩ := hA
              have HB9 := Lib.hid hB
              have HBB := Lib.hid hbb
              have HBV := Lib.hid hbv
              have HBL : Hid ((bufS st2).length = st2.en - st2.st) := Lib.hid (bufS_length hen2)
              have HAO := Lib.hid hao
              have HCL : Hid (bb ≠ L.b) := Lib.hid hbne'
              have HSL := Lib.hid hsl
              clear hB hbb hbv hao hby hb1 hb2 hbne' c7
              have hwalk : st2.en = st2.buf.length ∨ (st2.en ≠ st2.buf.length ∧ st2.buf.length / 2 < st2.st) := by
                rcases hsl with h | h
                · exact .inl h
                · by_cases hh : st2.en = st2.buf.length
                  · exact .inl hh
                  · exact .inr ⟨hh, h⟩
              clear hsl
              rcases hwalk with hw1 | ⟨hw1, hw2⟩
              · have q1 : ((st2.en : Int) == (st2.buf.length : Int)) = true := by rw [hw1]; exact beq_self_eq_true _
                have HW1 := Lib.hid hw1
                clear hw1
                go_wp2_with fail
                refine wp_region_lx {} (by kernel_rfl) (by kernel_rfl) ⟨fun _ _ _ h => h.2, fun _ _ h => h⟩ ?_
                (repeat' (first | (refine wpLx_calm rfl rfl rfl (fun K hK => ?_); go_step <;> (refine hK _ ?_; clear hK K)) | (refine wpLx_skip2 rfl rfl rfl ?_; go_simp) | (refine wpLx_calm2 rfl rfl rfl rfl rfl (fun K hK => ?_); go_step <;> (refine hK _ ?_; clear hK K)) | (refine wpLx_skip rfl ?_; go_simp)))
                all_goals refine wpLx_nil ?_
                go_wp2_with fail
                refine wp_region_lx {} (by kernel_rfl) (by kernel_rfl) ⟨fun _ _ _ h => h.2, fun _ _ h => h⟩ ?_
                (repeat' (first | (refine wpLx_calm rfl rfl rfl (fun K hK => ?_); go_step <;> (refine hK _ ?_; clear hK K)) | (refine wpLx_skip2 rfl rfl rfl ?_; go_simp) | (refine wpLx_calm2 rfl rfl rfl rfl rfl (fun K hK => ?_); go_step <;> (refine hK _ ?_; clear hK K))))
                rw [HAO.out]
                refine wpLx_eff rfl rfl rfl (fun K hK => ?_)
                refine wp_copy eB (.tmp 157) (.tmp 170) 29 rfl bb 0 st2.buf.length st2.buf.length rfl (st2.buf.map bv).toArray 5 HBB.out (some ⟨bb, o, none⟩) (st2.en - st2.st) (st2.buf.length - st2.st) rfl (fun hh => by cases hh) ((bufS st2).map bv) (by rw [List.length_map, HBL.out]; omega) (fun p hp => by cases hp; exact (HB9.out _ ((Upd.refl _ _).drew.drew)).news) (by rw [List.length_map, HBL.out]; simp only [List.size_toArray, List.length_map]; omega) (oneCell_bytes _) ?_
                intro w1 hw1 hu1 hz1
                have hbx := hu1.heap HIN2.out.went.sc.hb (fun hh => HCL.out hh.symm)
                have d5 : w1.cell? ⟨L.b, 5, none⟩ = some (.int .i64 (st2.st : Int)) := by rw [World.cell_of_heap hbx]; rfl
                have d6 : w1.cell? ⟨L.b, 6, none⟩ = some (.int .i64 (st2.en : Int)) := by rw [World.cell_of_heap hbx]; rfl
                have df : ∀ i, w1.frozen? ⟨L.b, i, none⟩ = false := fun i => World.frozen_of_heap hbx i
                have HFIN : Hid (∀ w3, w3 = ((w1.drew).setCell ⟨L.b, 6, none⟩ (.int .i64 ((st2.en : Int) - (st2.st : Int)))).setCell ⟨L.b, 5, none⟩ (.int .i64 0) → ∃ st3, ScIn S base L k most lim w st w3 st3 ∧ st3.ps = st2.ps ∧ st3.err = st2.err ∧ bufS st3 = bufS st2 ∧ (st3.en = st3.buf.length → st3.st = 0)) := by
                  intro w3 hw3
                  obtain ⟨st3, r1, r2, r3, r4, r5⟩ := HIN2.out.drew.drew.slid (w3 := w3) HBV.out hu1.drew hw1 (by rw [hw3, show ((st2.en - st2.st : Nat) : Int) = (st2.en : Int) - (st2.st : Int) by omega]; rfl)
                  exact ⟨st3, r1, r2, r3, r4, fun _ => r5⟩
                clear hw1 hu1 hz1 hbx c4 c5 c6 hf
                refine hK _ _ ?_
                clear hK K
                (repeat' (first | (refine wpLx_calm rfl rfl rfl (fun K hK => ?_); go_step <;> (refine hK _ ?_; clear hK K)) | (refine wpLx_skip2 rfl rfl rfl ?_; go_simp) | (refine wpLx_calm2 rfl rfl rfl rfl rfl (fun K hK => ?_); go_step <;> (refine hK _ ?_; clear hK K))))
                all_goals refine wpLx_nil ?_
                go_wp2_with fail
                refine wp_region_lx {} (by kernel_rfl) (by kernel_rfl) ⟨fun _ _ _ h => h.2, fun _ _ h => h⟩ ?_
                (repeat' (first | (refine wpLx_calm rfl rfl rfl (fun K hK => ?_); go_step <;> (refine hK _ ?_; clear hK K)) | (refine wpLx_skip2 rfl rfl rfl ?_; go_simp) | (refine wpLx_calm2 rfl rfl rfl rfl rfl (fun K hK => ?_); go_step <;> (refine hK _ ?_; clear hK K))))
                refine wpLx_eff rfl rfl rfl (fun K hK => ?_)
                go_step
                refine hK _ _ ?_
                clear hK K
                refine wpLx_nil ?_
                go_wp2_with fail
                refine Met.intro ?_
                go_step
                exact ⟨HFIN.out _ rfl, frScan rfl rfl rfl⟩
              · have q1 : ((st2.en : Int) == (st2.buf.length : Int)) = false := by rw [beq_eq_false_iff_ne]; omega
                have q2 : decide (Int.tdiv (st2.buf.length : Int) 2 < (st2.st : Int)) = true := decide_eq_true (by rw [Int.tdiv_eq_ediv_of_nonneg (by omega)]; omega)
                have hcs : ¬ st2.buf.length = st2.st := by omega
                obtain rfl : o = st2.st := by have h9 := HAO.out; rw [if_neg hcs] at h9; simpa using h9.symm
                go_wp2_with fail
                refine wp_region_lx {} (by kernel_rfl) (by kernel_rfl) ⟨fun _ _ _ h => h.2, fun _ _ h => h⟩ ?_
                (repeat' (first | (refine wpLx_calm rfl rfl rfl (fun K hK => ?_); go_step <;> (refine hK _ ?_; clear hK K)) | (refine wpLx_skip2 rfl rfl rfl ?_; go_simp) | (refine wpLx_calm2 rfl rfl rfl rfl rfl (fun K hK => ?_); go_step <;> (refine hK _ ?_; clear hK K)) | (refine wpLx_skip rfl ?_; go_simp)))
                all_goals refine wpLx_nil ?_
                go_wp2_with fail
                refine wp_region_lx {} (by kernel_rfl) (by kernel_rfl) ⟨fun _ _ _ h => h.2, fun _ _ h => h⟩ ?_
                (repeat' (first | (refine wpLx_calm rfl rfl rfl (fun K hK => ?_); go_step <;> (refine hK _ ?_; clear hK K)) | (refine wpLx_skip2 rfl rfl rfl ?_; go_simp) | (refine wpLx_calm2 rfl rfl rfl rfl rfl (fun K hK => ?_); go_step <;> (refine hK _ ?_; clear hK K))))
                refine wpLx_eff rfl rfl rfl (fun K hK => ?_)
                refine wp_copy eB (.tmp 157) (.tmp 170) 29 rfl bb 0 st2.buf.length st2.buf.length rfl (st2.buf.map bv).toArray 5 HBB.out (some ⟨bb, st2.st, none⟩) (st2.en - st2.st) (st2.buf.length - st2.st) rfl (fun hh => by cases hh) ((bufS st2).map bv) (by rw [List.length_map, HBL.out]; omega) (fun p hp => by cases hp; exact (HB9.out _ ((Upd.refl _ _).drew.drew)).news) (by rw [List.length_map, HBL.out]; simp only [List.size_toArray, List.length_map]; omega) (oneCell_bytes _) ?_
                intro w1 hw1 hu1 hz1
                have hbx := hu1.heap HIN2.out.went.sc.hb (fun hh => HCL.out hh.symm)
                have d5 : w1.cell? ⟨L.b, 5, none⟩ = some (.int .i64 (st2.st : Int)) := by rw [World.cell_of_heap hbx]; rfl
                have d6 : w1.cell? ⟨L.b, 6, none⟩ = some (.int .i64 (st2.en : Int)) := by rw [World.cell_of_heap hbx]; rfl
                have df : ∀ i, w1.frozen? ⟨L.b, i, none⟩ = false := fun i => World.frozen_of_heap hbx i
                have HFIN : Hid (∀ w3, w3 = ((w1.drew).setCell ⟨L.b, 6, none⟩ (.int .i64 ((st2.en : Int) - (st2.st : Int)))).setCell ⟨L.b, 5, none⟩ (.int .i64 0) → ∃ st3, ScIn S base L k most lim w st w3 st3 ∧ st3.ps = st2.ps ∧ st3.err = st2.err ∧ bufS st3 = bufS st2 ∧ (st3.en = st3.buf.length → st3.st = 0)) := by
                  intro w3 hw3
                  obtain ⟨st3, r1, r2, r3, r4, r5⟩ := HIN2.out.drew.drew.slid (w3 := w3) HBV.out hu1.drew hw1 (by rw [hw3, show ((st2.en - st2.st : Nat) : Int) = (st2.en : Int) - (st2.st : Int) by omega]; rfl)
                  exact ⟨st3, r1, r2, r3, r4, fun _ => r5⟩
                clear hw1 hu1 hz1 hbx c4 c5 c6 hf
                refine hK _ _ ?_
                clear hK K
                (repeat' (first | (refine wpLx_calm rfl rfl rfl (fun K hK => ?_); go_step <;> (refine hK _ ?_; clear hK K)) | (refine wpLx_skip2 rfl rfl rfl ?_; go_simp) | (refine wpLx_calm2 rfl rfl rfl rfl rfl (fun K hK => ?_); go_step <;> (refine hK _ ?_; clear hK K))))
                all_goals refine wpLx_nil ?_
                go_wp2_with fail
                refine wp_region_lx {} (by kernel_rfl) (by kernel_rfl) ⟨fun _ _ _ h => h.2, fun _ _ h => h⟩ ?_
                (repeat' (first | (refine wpLx_calm rfl rfl rfl (fun K hK => ?_); go_step <;> (refine hK _ ?_; clear hK K)) | (refine wpLx_skip2 rfl rfl rfl ?_; go_simp) | (refine wpLx_calm2 rfl rfl rfl rfl rfl (fun K hK => ?_); go_step <;> (refine hK _ ?_; clear hK K))))
                refine wpLx_eff rfl rfl rfl (fun K hK => ?_)
                go_step
                refine hK _ _ ?_
                clear hK K
                refine wpLx_nil ?_
                go_wp2_with fail
                refine Met.intro ?_
                go_step
                exact ⟨HFIN.out _ rfl, frScan rfl rfl rfl⟩
            · have hn1 : ¬ st2.en = st2.buf.length := fun h => hsl (.inl h)
              have hn2 : ¬ st2.buf.length / 2 < st2.st := fun h => hsl (.inr h)
              have HFIN := Lib.hid (fun (wx : World) (hx : New wc wx) => (show ∃ st3, ScIn S base L k most lim w st wx st3 ∧ st3.ps = st2.ps ∧ st3.err = st2.err ∧ bufS st3 = bufS st2 ∧ (st3.en = st3.buf.length → st3.st = 0) from ⟨st2, ⟨HIN2.out.went.new hx, HIN2.out.same, HIN2.out.nl, HIN2.out.bn⟩, rfl, rfl, rfl, fun h => absurd h hn1⟩))
              clear hsl hbb hbv hby hb1 hb2 hbne' c7
              have q1 : ((st2.en : Int) == (st2.buf.length : Int)) = false := by rw [beq_eq_false_iff_ne]; omega
              have q2 : decide (Int.tdiv (st2.buf.length : Int) 2 < (st2.st : Int)) = false := decide_eq_false (by rw [Int.tdiv_eq_ediv_of_nonneg (by omega)]; omega)
              go_wp2_with fail
              refine wp_region_lx {} (by kernel_rfl) (by kernel_rfl) ⟨fun _ _ _ h => h.2, fun _ _ h => h⟩ ?_
              (repeat' (first | (refine wpLx_calm rfl rfl rfl (fun K hK => ?_); go_step <;> (refine hK _ ?_; clear hK K)) | (refine wpLx_skip2 rfl rfl rfl ?_; go_simp) | (refine wpLx_calm2 rfl rfl rfl rfl rfl (fun K hK => ?_); go_step <;> (refine hK _ ?_; clear hK K)) | (refine wpLx_skip rfl ?_; go_simp)))
              all_goals refine wpLx_nil ?_
              go_wp2_with fail
              refine Met.intro ?_
              go_step
              exact ⟨HFIN.out _ (Upd.refl _ _).drew, frScan rfl rfl rfl⟩
        case rest3 =>
          rintro _ wd ⟨⟨st3, hin3, hps3, he3, hbs3, hfull3⟩, T3, rfl⟩
          refine HK6.out _ _ ?_
          clear HK6 c4 c5 c6 c7 hf
          refine wp_seq_k (fun K8 hK8 => ?_)
          have HK8 := Lib.hid hK8
          clear hK8
          have HIN3 := Lib.hid hin3
          have HPS3 := Lib.hid hps3
          have HE3 : Hid (st3.err = none) := Lib.hid (he3.trans HE2.out)
          have hse3 := hin3.went.sc.se
          have hen3 := hin3.went.sc.en
          have hcl3 := hin3.went.sc.cle
          refine wp_cut (fun a' wx => (∃ st4, ScIn S base L k most lim w st wx st4 ∧ st4.ps = st2.ps ∧ st4.err = none ∧ st4.en < st4.buf.length) ∧ ∃ T : Nat → Value, a' = ⟨#[.pointer (some ⟨L.b, 0, none⟩), T 1, T 2, T 3, T 4, T 5, T 6, T 7, T 8, T 9, T 10, T 11, T 12, T 13, T 14, T 15, T 16, T 17, T 18, T 19, T 20, T 21, T 22, T 23, T 24, T 25, T 26, T 27, T 28, T 29, T 30, T 31, T 32, T 33, T 34, T 35, T 36, T 37, T 38, T 39, T 40, T 41, T 42, T 43, T 44, T 45, T 46, T 47, T 48, T 49, T 50, T 51, T 52, T 53, T 54, T 55, T 56, T 57, T 58, T 59, T 60, T 61, T 62, T 63, T 64, T 65, T 66, T 67, T 68, T 69, T 70, T 71, T 72, T 73, T 74, T 75, T 76, T 77, T 78, T 79, T 80, T 81, T 82, T 83, T 84, T 85, T 86, T 87, T 88, T 89, T 90, T 91, T 92, T 93, T 94, T 95, T 96, T 97, T 98, T 99, T 100, T 101, T 102, T 103, T 104, T 105, T 106, T 107, T 108, T 109, T 110, T 111, T 112, T 113, T 114, T 115, T 116, T 117, T 118, T 119, T 120, T 121, T 122, T 123, T 124, T 125, T 126, T 127, T 128, T 129, T 130, T 131, T 132, T 133, T 134, T 135, T 136, T 137, T 138, T 139, T 140, T 141, T 142, T 143, T 144, T 145, T 146, T 147, T 148, T 149, T 150, T 151, T 152, T 153, T 154, T 155, T 156, T 157, T 158, T 159, T 160, T 161, T 162, T 163, T 164, T 165, T 166, T 167, T 168, T 169, T 170, T 171, T 172, T 173, T 174, T 175, T 176, T 177, T 178, T 179, T 180, T 181, T 182, T 183, T 184, T 185, T 186, T 187, T 188, T 189, T 190, T 191, T 192, T 193, T 194, T 195, T 196, T 197, T 198, T 199, T 200, T 201, T 202, T 203, T 204, T 205, T 206, T 207, T 208, T 209, T 210, T 211, T 212, T 213, T 214, T 215, T 216, T 217, T 218, T 219, T 220, T 221, T 222, T 223, T 224, T 225, T 226, T 227, T 228, T 229, T 230, T 231, T 232, T 233, T 234, T 235, T 236, T 237, T 238, T 239, T 240, T 241, T 242, T 243, T 244, T 245, T 246, T 247, T 248, T 249, T 250, T 251, T 252, T 253, T 254, T 255, T 256, T 257, T 258, T 259, T 260, T 261, T 262, T 263, T 264, T 265, T 266, T 267, T 268, T 269, T 270, T 271, T 272, T 273, T 274, T 275, T 276, T 277, T 278, T 279, T 280, T 281, T 282, T 283, T 284, T 285, T 286, T 287, T 288, T 289, T 290, T 291, T 292, T 293, T 294, T 295, T 296, T 297, T 298, T 299, T 300, T 301, T 302, T 303, T 304, T 305, T 306, T 307, T 308, T 309, T 310, T 311, T 312, T 313, T 314, T 315, T 316, T 317, T 318, T 319, T 320, T 321, T 322, T 323, T 324, T 325, T 326, T 327, T 328, T 329, T 330, T 331, T 332, T 333], []⟩) ?rest4 ?first4
          case first4 =>
            intro J4 K4 hJ4 hK4
            obtain ⟨ba, hbv, hbn, hbsp, hby⟩ := hin3.went.sc.bufAny
            obtain ⟨c0, c1, c2, c3, c4, c5, c6, c7, c8, c9, c10, hf⟩ := hin3.went.sc.cells
            rw [hbv] at c4
            clear c0 c1 c3 c8 c9 c10
            by_cases hfull : st3.en = st3.buf.length
            · have h0 := hfull3 hfull
              rw [h0] at c5
              rw [hfull] at c6
              have q1 : ((st3.buf.length : Int) == (st3.buf.length : Int)) = true := beq_self_eq_true _
              by_cases hbig : most ≤ st3.buf.length
              · have q2 : decide ((most : Int) ≤ (st3.buf.length : Int)) = true := decide_eq_true (by omega)
                have HPOS3 : Hid (k = 3 → pos 10 (bufS st3) = none) := Lib.hid (by rw [hbs3]; exact HPOS2.out)
                have gl := ((HE.out.upd hin3.went.upd (HM.out _ _ hin3.went)).g .long (by decide)).2
                simp only [Err.g, eV] at gl
                have HFF := Lib.hid (And.intro h0 hfull)
                have HBIG := Lib.hid hbig
                clear hin3 hps3 he3 hbs3 hfull3 hbv hbn hbsp hby c7 h0 hfull hse3
                go_wp2_with fail
                refine wp_region_lx {} (by kernel_rfl) (by kernel_rfl) ⟨fun _ _ _ h => h.2, fun _ _ h => h⟩ ?_
                (repeat' (first | (refine wpLx_calm rfl rfl rfl (fun K hK => ?_); go_step <;> (refine hK _ ?_; clear hK K)) | (refine wpLx_skip2 rfl rfl rfl ?_; go_simp) | (refine wpLx_calm2 rfl rfl rfl rfl rfl (fun K hK => ?_); go_step <;> (refine hK _ ?_; clear hK K)) | (refine wpLx_skip rfl ?_; go_simp)))
                all_goals refine wpLx_nil ?_
                go_wp2_with fail
                refine wp_region_lx {} (by kernel_rfl) (by kernel_rfl) ⟨fun _ _ _ h => h.2, fun _ _ h => h⟩ ?_
                (repeat' (first | (refine wpLx_calm rfl rfl rfl (fun K hK => ?_); go_step <;> (refine hK _ ?_; clear hK K)) | (refine wpLx_skip2 rfl rfl rfl ?_; go_simp) | (refine wpLx_calm2 rfl rfl rfl rfl rfl (fun K hK => ?_); go_step <;> (refine hK _ ?_; clear hK K)) | (refine wpLx_skip rfl ?_; go_simp)))
                all_goals refine wpLx_nil ?_
                go_wp2_with (go_at_call 58; refine callRet (scSetErr (HIN3.out.went.new (w2 := wd.drew.drew) (Upd.refl _ _).drew.drew).sc HE3.out .long (.inr rfl)) ?_; rintro v w2 ⟨rfl, hg9⟩; have HG9 := Lib.hid hg9; clear hg9)
                go_ret
                exact scan_long HIN3.out HFF.out.1 HFF.out.2 HBIG.out HPOS3.out ((HIN3.out.went.new (w2 := wd.drew.drew) (Upd.refl _ _).drew.drew).trans HG9.out) rfl
              · have hmost := hin3.went.sc.most
                have hml : most = lim := by have := hin3.went.sc.cap; omega
                have hlim3 := hin3.went.sc.lim
                obtain ⟨nn, hnn⟩ : ∃ nn, nn = min (if st3.buf.length = 0 then 4096 else st3.buf.length * 2) most := ⟨_, rfl⟩
                have hn1 : st3.buf.length < nn := by rw [hnn]; split <;> omega
                have hn2 : nn ≤ most := by omega
                have hncap : nn = lim ∨ (nn < most ∧ most = lim) := by omega
                have hn3 : nn ≤ 65536 := by omega
                have hlb : L.b < wd.heap.size := (Array.getElem?_eq_some_iff.1 hin3.went.sc.hb).1
                have HBS : Hid ((bufS st3).length = st3.buf.length) := Lib.hid (by rw [bufS_length hen3, h0, hfull]; rfl)
                have HFIN : Hid (∀ w4, Upd (fun _ => False) wd w4 → w4.heap[wd.heap.size]? = some (.cells (splice (madeCells #[.int .u8 0] nn).toList 0 ((bufS st3).map bv)).toArray 5 (0, 0)) → ∀ wx, wx = ((w4.setCell ⟨L.b, 4, none⟩ (.slice (some ⟨wd.heap.size, 0, none⟩) nn nn)).setCell ⟨L.b, 6, none⟩ (.int .i64 (st3.buf.length : Int))).setCell ⟨L.b, 5, none⟩ (.int .i64 0) → ∃ st4, ScIn S base L k most lim w st wx st4 ∧ st4.ps = st2.ps ∧ st4.err = none ∧ st4.en < st4.buf.length) := by
                  intro w4 hu4 hb4 wx hwx
                  obtain ⟨st4, r1, r2, r3, r4, r5⟩ := HIN3.out.grown (w5 := wx) h0 hfull hn1 hncap HE3.out hu4 (by rw [Nat.mul_one]; exact hb4) (by rw [hwx, h0, hfull]; rfl)
                  exact ⟨st4, r1, r2.trans HPS3.out, r3, r5⟩
                have hsz : (madeCells #[.int .u8 0] nn).size = nn := by
                  rw [← Array.length_toList, toList_madeCells_one]; simp
                have HSZ := Lib.hid hsz
                have q2 : decide ((most : Int) ≤ (st3.buf.length : Int)) = false := decide_eq_false (by omega)
                have q3 : decide (4611686018427387903 < (st3.buf.length : Int)) = false := decide_eq_false (by omega)
                have HBY := Lib.hid hby
                have HFF := Lib.hid (And.intro h0 hfull)
                clear hin3 hps3 he3 hbs3 hfull3 hbv hsz hby c7 h0 hfull hse3 hncap hml
                by_cases hz : st3.buf.length = 0
                · have hmin : min (4096 : Int) (most : Int) = (nn : Int) := by rw [hnn, if_pos hz]; omega
                  rw [hz] at c4 c6
                  have q4 : decide ((most : Int) ≤ 0) = false := decide_eq_false (by omega)
                  have hm1 : ¬ most = 0 := by omega
                  have HZ := Lib.hid hz
                  clear hz hnn
                  cases ba with
                  | none =>
                    clear hbn hbsp
                    go_wp2_with fail
                    refine wp_region_lx {} (by kernel_rfl) (by kernel_rfl) ⟨fun _ _ _ h => h.2, fun _ _ h => h⟩ ?_
                    (repeat' (first | (refine wpLx_calm rfl rfl rfl (fun K hK => ?_); go_step <;> (refine hK _ ?_; clear hK K)) | (refine wpLx_skip2 rfl rfl rfl ?_; go_simp) | (refine wpLx_calm2 rfl rfl rfl rfl rfl (fun K hK => ?_); go_step <;> (refine hK _ ?_; clear hK K)) | (refine wpLx_skip rfl ?_; go_simp)))
                    all_goals refine wpLx_nil ?_
                    go_wp2_with fail
                    refine wp_region_lx {} (by kernel_rfl) (by kernel_rfl) ⟨fun _ _ _ h => h.2, fun _ _ h => h⟩ ?_
                    (repeat' (first | (refine wpLx_calm rfl rfl rfl (fun K hK => ?_); go_step <;> (refine hK _ ?_; clear hK K)) | (refine wpLx_skip2 rfl rfl rfl ?_; go_simp) | (refine wpLx_calm2 rfl rfl rfl rfl rfl (fun K hK => ?_); go_step <;> (refine hK _ ?_; clear hK K)) | (refine wpLx_skip rfl ?_; go_simp)))
                    all_goals refine wpLx_nil ?_
                    go_wp2_with (at_make; refine wpList_plain rfl (fun K hK => ?_); refine wp_make eB (.tmp 231) (.tmp 231) rfl .i64 .i64 nn nn rfl rfl (Nat.le_refl _) (by omega) (by unfold maxLen; omega) ?_; refine hK _ _ ?_; clear hK K)
                    refine wp_region_lx {} (by kernel_rfl) (by kernel_rfl) ⟨fun _ _ _ h => h.2, fun _ _ h => h⟩ ?_
                    (repeat' (first | (refine wpLx_calm rfl rfl rfl (fun K hK => ?_); go_step <;> (refine hK _ ?_; clear hK K)) | (refine wpLx_skip2 rfl rfl rfl ?_; go_simp) | (refine wpLx_calm2 rfl rfl rfl rfl rfl (fun K hK => ?_); go_step <;> (refine hK _ ?_; clear hK K))))
                    refine wpLx_eff rfl rfl rfl (fun K hK => ?_)
                    refine wp_copy eB (.tmp 233) (.tmp 246) 29 rfl wd.heap.size 0 nn nn rfl (madeCells #[.int .u8 0] nn) 5 (heap_alloc_new wd _) none 0 0 rfl (fun hh => ⟨rfl, rfl⟩) ((bufS st3).map bv) (by rw [List.length_map, HBS.out, HZ.out]; omega) (fun p hp => by cases hp) (by rw [List.length_map, HBS.out, HSZ.out, HZ.out]; omega) (oneCell_bytes _) ?_
                    intro w1 hw1 hu1 hz1
                    have hu0 : Upd (fun _ => False) wd w1 := (((Upd.refl (fun _ => False) wd).alloc _).drew.drew.drew).trans hu1 (fun j hj hlt => by have hj : j = wd.heap.size := hj; omega)
                    have hbx := hu0.heap HIN3.out.went.sc.hb (fun hh => hh)
                    have d5 : w1.cell? ⟨L.b, 5, none⟩ = some (.int .i64 (st3.st : Int)) := by rw [World.cell_of_heap hbx]; rfl
                    have d6 : w1.cell? ⟨L.b, 6, none⟩ = some (.int .i64 (st3.en : Int)) := by rw [World.cell_of_heap hbx]; rfl
                    have d4 : w1.cell? ⟨L.b, 4, none⟩ = some st3.bufv := by rw [World.cell_of_heap hbx]; rfl
                    have df : ∀ i, w1.frozen? ⟨L.b, i, none⟩ = false := fun i => World.frozen_of_heap hbx i
                    rw [HFF.out.1] at d5
                    rw [HFF.out.2, HZ.out] at d6
                    have HF := Lib.hid (HFIN.out w1.drew hu0.drew hw1)
                    rw [HZ.out] at HF
                    clear hw1 hu1 hz1 hu0 hbx c2 c4 c5 c6 hf
                    refine hK _ _ ?_
                    clear hK K
                    (repeat' (first | (refine wpLx_calm rfl rfl rfl (fun K hK => ?_); go_step <;> (refine hK _ ?_; clear hK K)) | (refine wpLx_skip2 rfl rfl rfl ?_; go_simp) | (refine wpLx_calm2 rfl rfl rfl rfl rfl (fun K hK => ?_); go_step <;> (refine hK _ ?_; clear hK K))))
                    all_goals refine wpLx_nil ?_
                    go_wp2_with fail
                    refine wp_region_lx {} (by kernel_rfl) (by kernel_rfl) ⟨fun _ _ _ h => h.2, fun _ _ h => h⟩ ?_
                    (repeat' (first | (refine wpLx_calm rfl rfl rfl (fun K hK => ?_); go_step <;> (refine hK _ ?_; clear hK K)) | (refine wpLx_skip2 rfl rfl rfl ?_; go_simp) | (refine wpLx_calm2 rfl rfl rfl rfl rfl (fun K hK => ?_); go_step <;> (refine hK _ ?_; clear hK K))))
                    refine wpLx_eff rfl rfl rfl (fun K hK => ?_)
                    go_step
                    refine hK _ _ ?_
                    clear hK K
                    refine wpLx_nil ?_
                    go_wp2_with fail
                    refine Met.intro ?_
                    go_step
                    exact ⟨HF.out _ rfl, frScan rfl rfl rfl⟩
                  | some p =>
                    obtain ⟨bb, rfl⟩ := hbsp p rfl
                    clear hbn hbsp
                    go_wp2_with fail
                    refine wp_region_lx {} (by kernel_rfl) (by kernel_rfl) ⟨fun _ _ _ h => h.2, fun _ _ h => h⟩ ?_
                    (repeat' (first | (refine wpLx_calm rfl rfl rfl (fun K hK => ?_); go_step <;> (refine hK _ ?_; clear hK K)) | (refine wpLx_skip2 rfl rfl rfl ?_; go_simp) | (refine wpLx_calm2 rfl rfl rfl rfl rfl (fun K hK => ?_); go_step <;> (refine hK _ ?_; clear hK K)) | (refine wpLx_skip rfl ?_; go_simp)))
                    all_goals refine wpLx_nil ?_
                    go_wp2_with fail
                    refine wp_region_lx {} (by kernel_rfl) (by kernel_rfl) ⟨fun _ _ _ h => h.2, fun _ _ h => h⟩ ?_
                    (repeat' (first | (refine wpLx_calm rfl rfl rfl (fun K hK => ?_); go_step <;> (refine hK _ ?_; clear hK K)) | (refine wpLx_skip2 rfl rfl rfl ?_; go_simp) | (refine wpLx_calm2 rfl rfl rfl rfl rfl (fun K hK => ?_); go_step <;> (refine hK _ ?_; clear hK K)) | (refine wpLx_skip rfl ?_; go_simp)))
                    all_goals refine wpLx_nil ?_
                    go_wp2_with (at_make; refine wpList_plain rfl (fun K hK => ?_); refine wp_make eB (.tmp 231) (.tmp 231) rfl .i64 .i64 nn nn rfl rfl (Nat.le_refl _) (by omega) (by unfold maxLen; omega) ?_; refine hK _ _ ?_; clear hK K)
                    refine wp_region_lx {} (by kernel_rfl) (by kernel_rfl) ⟨fun _ _ _ h => h.2, fun _ _ h => h⟩ ?_
                    (repeat' (first | (refine wpLx_calm rfl rfl rfl (fun K hK => ?_); go_step <;> (refine hK _ ?_; clear hK K)) | (refine wpLx_skip2 rfl rfl rfl ?_; go_simp) | (refine wpLx_calm2 rfl rfl rfl rfl rfl (fun K hK => ?_); go_step <;> (refine hK _ ?_; clear hK K))))
                    refine wpLx_eff rfl rfl rfl (fun K hK => ?_)
                    refine wp_copy eB (.tmp 233) (.tmp 246) 29 rfl wd.heap.size 0 nn nn rfl (madeCells #[.int .u8 0] nn) 5 (heap_alloc_new wd _) (some ⟨bb, 0, none⟩) 0 0 rfl (fun hh => by cases hh) ((bufS st3).map bv) (by rw [List.length_map, HBS.out, HZ.out]; omega) (fun p hp => by intro j u hu; rw [List.eq_nil_of_length_eq_zero (HBS.out.trans HZ.out)] at hu; simp at hu) (by rw [List.length_map, HBS.out, HSZ.out, HZ.out]; omega) (oneCell_bytes _) ?_
                    intro w1 hw1 hu1 hz1
                    have hu0 : Upd (fun _ => False) wd w1 := (((Upd.refl (fun _ => False) wd).alloc _).drew.drew.drew).trans hu1 (fun j hj hlt => by have hj : j = wd.heap.size := hj; omega)
                    have hbx := hu0.heap HIN3.out.went.sc.hb (fun hh => hh)
                    have d5 : w1.cell? ⟨L.b, 5, none⟩ = some (.int .i64 (st3.st : Int)) := by rw [World.cell_of_heap hbx]; rfl
                    have d6 : w1.cell? ⟨L.b, 6, none⟩ = some (.int .i64 (st3.en : Int)) := by rw [World.cell_of_heap hbx]; rfl
                    have d4 : w1.cell? ⟨L.b, 4, none⟩ = some st3.bufv := by rw [World.cell_of_heap hbx]; rfl
                    have df : ∀ i, w1.frozen? ⟨L.b, i, none⟩ = false := fun i => World.frozen_of_heap hbx i
                    rw [HFF.out.1] at d5
                    rw [HFF.out.2, HZ.out] at d6
                    have HF := Lib.hid (HFIN.out w1.drew hu0.drew hw1)
                    rw [HZ.out] at HF
                    clear hw1 hu1 hz1 hu0 hbx c2 c4 c5 c6 hf
                    refine hK _ _ ?_
                    clear hK K
                    (repeat' (first | (refine wpLx_calm rfl rfl rfl (fun K hK => ?_); go_step <;> (refine hK _ ?_; clear hK K)) | (refine wpLx_skip2 rfl rfl rfl ?_; go_simp) | (refine wpLx_calm2 rfl rfl rfl rfl rfl (fun K hK => ?_); go_step <;> (refine hK _ ?_; clear hK K))))
                    all_goals refine wpLx_nil ?_
                    go_wp2_with fail
                    refine wp_region_lx {} (by kernel_rfl) (by kernel_rfl) ⟨fun _ _ _ h => h.2, fun _ _ h => h⟩ ?_
                    (repeat' (first | (refine wpLx_calm rfl rfl rfl (fun K hK => ?_); go_step <;> (refine hK _ ?_; clear hK K)) | (refine wpLx_skip2 rfl rfl rfl ?_; go_simp) | (refine wpLx_calm2 rfl rfl rfl rfl rfl (fun K hK => ?_); go_step <;> (refine hK _ ?_; clear hK K))))
                    refine wpLx_eff rfl rfl rfl (fun K hK => ?_)
                    go_step
                    refine hK _ _ ?_
                    clear hK K
                    refine wpLx_nil ?_
                    go_wp2_with fail
                    refine Met.intro ?_
                    go_step
                    exact ⟨HF.out _ rfl, frScan rfl rfl rfl⟩
                · have hmin : min ((st3.buf.length : Int) * 2) (most : Int) = (nn : Int) := by rw [hnn, if_neg hz]; omega
                  obtain ⟨bb, rfl⟩ : ∃ bb, ba = some ⟨bb, 0, none⟩ := by
                    cases ba with
                    | none => exact absurd (hbn rfl) hz
                    | some p => obtain ⟨bb, hp⟩ := hbsp p rfl; exact ⟨bb, by rw [hp]⟩
                  clear hnn hbn hbsp
                  go_wp2_with fail
                  refine wp_region_lx {} (by kernel_rfl) (by kernel_rfl) ⟨fun _ _ _ h => h.2, fun _ _ h => h⟩ ?_
                  (repeat' (first | (refine wpLx_calm rfl rfl rfl (fun K hK => ?_); go_step <;> (refine hK _ ?_; clear hK K)) | (refine wpLx_skip2 rfl rfl rfl ?_; go_simp) | (refine wpLx_calm2 rfl rfl rfl rfl rfl (fun K hK => ?_); go_step <;> (refine hK _ ?_; clear hK K)) | (refine wpLx_skip rfl ?_; go_simp)))
                  all_goals refine wpLx_nil ?_
                  go_wp2_with fail
                  refine wp_region_lx {} (by kernel_rfl) (by kernel_rfl) ⟨fun _ _ _ h => h.2, fun _ _ h => h⟩ ?_
                  (repeat' (first | (refine wpLx_calm rfl rfl rfl (fun K hK => ?_); go_step <;> (refine hK _ ?_; clear hK K)) | (refine wpLx_skip2 rfl rfl rfl ?_; go_simp) | (refine wpLx_calm2 rfl rfl rfl rfl rfl (fun K hK => ?_); go_step <;> (refine hK _ ?_; clear hK K)) | (refine wpLx_skip rfl ?_; go_simp)))
                  all_goals refine wpLx_nil ?_
                  go_wp2_with (at_make; refine wpList_plain rfl (fun K hK => ?_); refine wp_make eB (.tmp 231) (.tmp 231) rfl .i64 .i64 nn nn rfl rfl (Nat.le_refl _) (by omega) (by unfold maxLen; omega) ?_; refine hK _ _ ?_; clear hK K)
                  refine wp_region_lx {} (by kernel_rfl) (by kernel_rfl) ⟨fun _ _ _ h => h.2, fun _ _ h => h⟩ ?_
                  (repeat' (first | (refine wpLx_calm rfl rfl rfl (fun K hK => ?_); go_step <;> (refine hK _ ?_; clear hK K)) | (refine wpLx_skip2 rfl rfl rfl ?_; go_simp) | (refine wpLx_calm2 rfl rfl rfl rfl rfl (fun K hK => ?_); go_step <;> (refine hK _ ?_; clear hK K))))
                  refine wpLx_eff rfl rfl rfl (fun K hK => ?_)
                  refine wp_copy eB (.tmp 233) (.tmp 246) 29 rfl wd.heap.size 0 nn nn rfl (madeCells #[.int .u8 0] nn) 5 (heap_alloc_new wd _) (some ⟨bb, 0, none⟩) st3.buf.length st3.buf.length rfl (fun hh => by cases hh) ((bufS st3).map bv) (by rw [List.length_map, HBS.out]; omega) (fun p hp => by cases hp; rw [show bufS st3 = st3.buf by unfold bufS; rw [HFF.out.1, HFF.out.2, List.take_length]; rfl]; exact (HBY.out.new (((Upd.refl _ _).alloc _).drew.drew.drew)).news) (by rw [List.length_map, HBS.out, HSZ.out]; omega) (oneCell_bytes _) ?_
                  intro w1 hw1 hu1 hz1
                  have hu0 : Upd (fun _ => False) wd w1 := (((Upd.refl (fun _ => False) wd).alloc _).drew.drew.drew).trans hu1 (fun j hj hlt => by have hj : j = wd.heap.size := hj; omega)
                  have hbx := hu0.heap HIN3.out.went.sc.hb (fun hh => hh)
                  have d5 : w1.cell? ⟨L.b, 5, none⟩ = some (.int .i64 (st3.st : Int)) := by rw [World.cell_of_heap hbx]; rfl
                  have d6 : w1.cell? ⟨L.b, 6, none⟩ = some (.int .i64 (st3.en : Int)) := by rw [World.cell_of_heap hbx]; rfl
                  have d4 : w1.cell? ⟨L.b, 4, none⟩ = some st3.bufv := by rw [World.cell_of_heap hbx]; rfl
                  have df : ∀ i, w1.frozen? ⟨L.b, i, none⟩ = false := fun i => World.frozen_of_heap hbx i
                  rw [HFF.out.1] at d5
                  rw [HFF.out.2] at d6
                  have HF := Lib.hid (HFIN.out w1.drew hu0.drew hw1)
                  clear hw1 hu1 hz1 hu0 hbx c2 c4 c5 c6 hf
                  refine hK _ _ ?_
                  clear hK K
                  (repeat' (first | (refine wpLx_calm rfl rfl rfl (fun K hK => ?_); go_step <;> (refine hK _ ?_; clear hK K)) | (refine wpLx_skip2 rfl rfl rfl ?_; go_simp) | (refine wpLx_calm2 rfl rfl rfl rfl rfl (fun K hK => ?_); go_step <;> (refine hK _ ?_; clear hK K))))
                  all_goals refine wpLx_nil ?_
                  go_wp2_with fail
                  refine wp_region_lx {} (by kernel_rfl) (by kernel_rfl) ⟨fun _ _ _ h => h.2, fun _ _ h => h⟩ ?_
                  (repeat' (first | (refine wpLx_calm rfl rfl rfl (fun K hK => ?_); go_step <;> (refine hK _ ?_; clear hK K)) | (refine wpLx_skip2 rfl rfl rfl ?_; go_simp) | (refine wpLx_calm2 rfl rfl rfl rfl rfl (fun K hK => ?_); go_step <;> (refine hK _ ?_; clear hK K))))
                  refine wpLx_eff rfl rfl rfl (fun K hK => ?_)
                  go_step
                  refine hK _ _ ?_
                  clear hK K
                  refine wpLx_nil ?_
                  go_wp2_with fail
                  refine Met.intro ?_
                  go_step
                  exact ⟨HF.out _ rfl, frScan rfl rfl rfl⟩
            · have hlt : st3.en < st3.buf.length := by omega
              have HFIN := Lib.hid (fun (wx : World) (hx : New wd wx) => (show ∃ st4, ScIn S base L k most lim w st wx st4 ∧ st4.ps = st2.ps ∧ st4.err = none ∧ st4.en < st4.buf.length from ⟨st3, ⟨HIN3.out.went.new hx, HIN3.out.same, HIN3.out.nl, HIN3.out.bn⟩, hps3, HE3.out, hlt⟩))
              have q1 : ((st3.en : Int) == (st3.buf.length : Int)) = false := by rw [beq_eq_false_iff_ne]; omega
              clear hin3 hps3 he3 hbs3 hfull3 hbv hbn hbsp hby c7
              go_wp2_with fail
              refine wp_region_lx {} (by kernel_rfl) (by kernel_rfl) ⟨fun _ _ _ h => h.2, fun _ _ h => h⟩ ?_
              (repeat' (first | (refine wpLx_calm rfl rfl rfl (fun K hK => ?_); go_step <;> (refine hK _ ?_; clear hK K)) | (refine wpLx_skip2 rfl rfl rfl ?_; go_simp) | (refine wpLx_calm2 rfl rfl rfl rfl rfl (fun K hK => ?_); go_step <;> (refine hK _ ?_; clear hK K)) | (refine wpLx_skip rfl ?_; go_simp)))
              all_goals refine wpLx_nil ?_
              go_wp2_with fail
              refine Met.intro ?_
              go_step
              exact ⟨HFIN.out _ (Upd.refl _ _).drew, frScan rfl rfl rfl⟩
          case rest4 =>
            rintro _ we ⟨⟨st4, hin4, hps4, he4, hlt4⟩, T4, rfl⟩
            refine HK8.out _ _ ?_
            clear HK8
            have HIN4 := Lib.hid hin4
            have HPS4 : Hid (st4.ps = st1.ps) := Lib.hid (hps4.trans HPS2.out)
            have HE4 := Lib.hid he4
            clear hin4 hps4 he4 hin3 hps3 he3 hbs3 hfull3
            go_wp2_with fail
            refine wp_loop_ghost_k (fun n a' wx => ∃ (c : Nat) (st5 : SS), (ScIn S base L k most lim w st wx st5 ∧ st5.err = none ∧ st5.en < st5.buf.length ∧ st1.ps = List.replicate c [] ++ st5.ps ∧ c + n = 101) ∧ ∃ T : Nat → Value, a' = ⟨#[.pointer (some ⟨L.b, 0, none⟩), T 1, T 2, T 3, T 4, T 5, T 6, T 7, .int .i64 (c : Int), T 9, T 10, T 11, T 12, T 13, T 14, T 15, T 16, T 17, T 18, T 19, T 20, T 21, T 22, T 23, T 24, T 25, T 26, T 27, T 28, T 29, T 30, T 31, T 32, T 33, T 34, T 35, T 36, T 37, T 38, T 39, T 40, T 41, T 42, T 43, T 44, T 45, T 46, T 47, T 48, T 49, T 50, T 51, T 52, T 53, T 54, T 55, T 56, T 57, T 58, T 59, T 60, T 61, T 62, T 63, T 64, T 65, T 66, T 67, T 68, T 69, T 70, T 71, T 72, T 73, T 74, T 75, T 76, T 77, T 78, T 79, T 80, T 81, T 82, T 83, T 84, T 85, T 86, T 87, T 88, T 89, T 90, T 91, T 92, T 93, T 94, T 95, T 96, T 97, T 98, T 99, T 100, T 101, T 102, T 103, T 104, T 105, T 106, T 107, T 108, T 109, T 110, T 111, T 112, T 113, T 114, T 115, T 116, T 117, T 118, T 119, T 120, T 121, T 122, T 123, T 124, T 125, T 126, T 127, T 128, T 129, T 130, T 131, T 132, T 133, T 134, T 135, T 136, T 137, T 138, T 139, T 140, T 141, T 142, T 143, T 144, T 145, T 146, T 147, T 148, T 149, T 150, T 151, T 152, T 153, T 154, T 155, T 156, T 157, T 158, T 159, T 160, T 161, T 162, T 163, T 164, T 165, T 166, T 167, T 168, T 169, T 170, T 171, T 172, T 173, T 174, T 175, T 176, T 177, T 178, T 179, T 180, T 181, T 182, T 183, T 184, T 185, T 186, T 187, T 188, T 189, T 190, T 191, T 192, T 193, T 194, T 195, T 196, T 197, T 198, T 199, T 200, T 201, T 202, T 203, T 204, T 205, T 206, T 207, T 208, T 209, T 210, T 211, T 212, T 213, T 214, T 215, T 216, T 217, T 218, T 219, T 220, T 221, T 222, T 223, T 224, T 225, T 226, T 227, T 228, T 229, T 230, T 231, T 232, T 233, T 234, T 235, T 236, T 237, T 238, T 239, T 240, T 241, T 242, T 243, T 244, T 245, T 246, T 247, T 248, T 249, T 250, T 251, T 252, T 253, T 254, T 255, T 256, T 257, T 258, T 259, T 260, T 261, T 262, T 263, T 264, T 265, T 266, T 267, T 268, T 269, T 270, T 271, T 272, T 273, T 274, T 275, T 276, T 277, T 278, T 279, T 280, T 281, T 282, T 283, T 284, T 285, T 286, T 287, T 288, T 289, T 290, T 291, T 292, T 293, T 294, T 295, T 296, T 297, T 298, T 299, T 300, T 301, T 302, T 303, T 304, T 305, T 306, T 307, T 308, T 309, T 310, T 311, T 312, T 313, T 314, T 315, T 316, T 317, T 318, T 319, T 320, T 321, T 322, T 323, T 324, T 325, T 326, T 327, T 328, T 329, T 330, T 331, T 332, T 333], []⟩) 101 ?_ ?_
            · exact ⟨0, st4, ⟨HIN4.out, HE4.out, hlt4, by rw [HPS4.out]; rfl, rfl⟩, frScan8 rfl rfl rfl rfl⟩
            · rintro n _ wl ⟨c, st5, ⟨hin5, he5, hlt5, hps5, hcn⟩, T5, rfl⟩
              intro J6 K6 hJ6 hK6
              have hc50 : c ≤ 50 := by
                have e := HIN.out.went.sc.empties
                rw [hps5, nones_rep] at e
                omega
              have hbne : st5.buf ≠ [] := fun hh => by rw [hh] at hlt5; simp at hlt5
              obtain ⟨bb, hbv, hbb, hb1, hb2, hby⟩ := hin5.went.sc.sub hbne
              obtain ⟨c0, c1, c2, c3, c4, c5, c6, c7, c8, c9, c10, hf⟩ := hin5.went.sc.cells
              rw [hbv] at c4
              have hcl5 := hin5.went.sc.cle
              have hne : ¬ st5.buf.length = st5.en := by omega
              have hbL : bb ≠ L.b := fun e => by have h1 := hin5.went.sc.hb; rw [← e, hbb] at h1; simp at h1
              have HIN5 := Lib.hid hin5
              have HPS5 := Lib.hid hps5
              have HE5 := Lib.hid he5
              have HBNE := Lib.hid hbne
              have HBV := Lib.hid hbv
              have HBB := Lib.hid hbb
              have HB2 := Lib.hid hb2
              have HBL := Lib.hid hbL
              have hf1 : fuelS st1 = st5.ps.flatten.length + 1 := by unfold fuelS; rw [hps5, HE1.out, if_pos rfl]; simp
              have HF1 := Lib.hid hf1
              clear hin5 hps5 he5 hbne hbv hbb hb1 hb2 hby hbL hf1 c1 c2 c3 c5 c7 c9 c10
              cases hps : st5.ps with
              | nil =>
                have hsrc : Src wl.drew L.sl L.mid L.s [] st5.f := by have := HIN5.out.drew.went.sc.src; rw [hps] at this; exact this
                have hE5 := ((HE.out.upd HIN5.out.went.upd (HM.out _ _ HIN5.out.went)).new (w' := wl.drew) (Upd.refl _ _).drew)
                have KR := Lib.hid (srcRead_nil (f := st5.f) hE5 hsrc (.slice (some ⟨bb, st5.en, none⟩) (st5.buf.length - st5.en) (st5.buf.length - st5.en)))
                have HPN := Lib.hid hps
                clear hsrc hE5 hps
                go_wp2_with fail
                refine wp_region_lx {} (by kernel_rfl) (by kernel_rfl) ⟨fun _ _ _ h => h.2, fun _ _ h => h⟩ ?_
                (repeat' (first | (refine wpLx_calm rfl rfl rfl (fun K hK => ?_); go_step <;> (refine hK _ ?_; clear hK K)) | (refine wpLx_skip2 rfl rfl rfl ?_; go_simp) | (refine wpLx_calm2 rfl rfl rfl rfl rfl (fun K hK => ?_); go_step <;> (refine hK _ ?_; clear hK K))))
                refine wpLx_eff rfl rfl rfl (fun K hK => ?_)
                refine wp_call KR.out (by kernel_rfl) ?_
                rintro v w1 ⟨hw1, rfl⟩
                obtain ⟨et, ev, hev⟩ : ∃ et ev, eV S (some (endErr st5.f)) = .iface et ev := by cases st5.f <;> exact ⟨_, _, rfl⟩
                have hg6 := (HIN5.out.drew.went.new hw1)
                obtain ⟨d0, d1, d2, d3, d4, d5, d6, d7, d8, d9, d10, df⟩ := hg6.sc.cells
                rw [HBV.out] at d4
                have hen5 : st5.en = st5.en := rfl
                have hg7 : ScWent S base L k most lim w st (w1.drew.setCell ⟨L.b, 6, none⟩ (.int .i64 (st5.en : Int))) st5 := (hg6.new (Upd.refl _ _).drew).cell 6 _ ((hg6.sc.new (Upd.refl _ _).drew).setEn st5.en hg6.sc.se hg6.sc.en) rfl rfl
                have hin7 : ScIn S base L k most lim w st (w1.drew.setCell ⟨L.b, 6, none⟩ (.int .i64 (st5.en : Int))) st5 := ⟨hg7, HIN5.out.same, HIN5.out.nl, HIN5.out.bn⟩
                have KE := scSetErr hg7.sc HE5.out (endErr st5.f) (.inl ⟨rfl, HPN.out⟩)
                rw [hev] at KE ⊢
                have HKE := Lib.hid KE
                have H7 := Lib.hid hin7
                have HEV := Lib.hid hev
                have q1 : decide ((st5.buf.length : Int) - (st5.en : Int) < 0) = false := decide_eq_false (by omega)
                clear hg6 hg7 hin7 KE hw1 hev d0 d1 d2 d3 d5 d7 d8 d9 d10 c0 c4 c6 c8 hf
                refine hK _ _ ?_
                clear hK K
                (repeat' (first | (refine wpLx_calm rfl rfl rfl (fun K hK => ?_); go_step <;> (refine hK _ ?_; clear hK K)) | (refine wpLx_skip2 rfl rfl rfl ?_; go_simp) | (refine wpLx_calm2 rfl rfl rfl rfl rfl (fun K hK => ?_); go_step <;> (refine hK _ ?_; clear hK K))))
                all_goals refine wpLx_nil ?_
                go_wp2_with fail
                refine wp_region_lx {} (by kernel_rfl) (by kernel_rfl) ⟨fun _ _ _ h => h.2, fun _ _ h => h⟩ ?_
                (repeat' (first | (refine wpLx_calm rfl rfl rfl (fun K hK => ?_); go_step <;> (refine hK _ ?_; clear hK K)) | (refine wpLx_skip2 rfl rfl rfl ?_; go_simp) | (refine wpLx_calm2 rfl rfl rfl rfl rfl (fun K hK => ?_); go_step <;> (refine hK _ ?_; clear hK K)) | (refine wpLx_skip rfl ?_; go_simp)))
                all_goals refine wpLx_nil ?_
                go_wp2_with (go_at_call 58; refine callRet HKE.out ?_; rintro v w2 ⟨rfl, hg9⟩; have HG9 := Lib.hid hg9; clear hg9)
                refine Handed.intro 0 ?_ ?_
                · have h1 := HGK.out
                  rw [HF1.out] at h1
                  omega
                · go_step
                  refine ⟨⟨_, H7.out.ended HBNE.out (Upd.refl _ _) HG9.out, ?_⟩, frScan rfl rfl rfl⟩
                  unfold fuelS
                  show st5.ps.flatten.length + _ ≤ 0
                  rw [HPN.out]
                  simp
              | cons p0 rest =>
                obtain ⟨m, hm⟩ : ∃ m, m = min p0.length (st5.buf.length - st5.en) := ⟨_, rfl⟩
                have hm1 : m ≤ p0.length := by omega
                have hm2 : st5.en + m ≤ st5.buf.length := by omega
                have hsrc : Src wl.drew L.sl L.mid L.s (p0 :: rest) st5.f := by have := HIN5.out.drew.went.sc.src; rw [hps] at this; exact this
                have KR := Lib.hid (srcRead_cons hsrc bb st5.en (st5.buf.length - st5.en) (st5.buf.length - st5.en) (st5.buf.map bv).toArray HBB.out HB2.out (by simp only [List.size_toArray, List.length_map]; omega) (Nat.le_refl _) (by omega))
                have HPN := Lib.hid hps
                have HM2 := Lib.hid hm
                clear hsrc hps hm
                go_wp2_with fail
                refine wp_region_lx {} (by kernel_rfl) (by kernel_rfl) ⟨fun _ _ _ h => h.2, fun _ _ h => h⟩ ?_
                (repeat' (first | (refine wpLx_calm rfl rfl rfl (fun K hK => ?_); go_step <;> (refine hK _ ?_; clear hK K)) | (refine wpLx_skip2 rfl rfl rfl ?_; go_simp) | (refine wpLx_calm2 rfl rfl rfl rfl rfl (fun K hK => ?_); go_step <;> (refine hK _ ?_; clear hK K))))
                refine wpLx_eff rfl rfl rfl (fun K hK => ?_)
                refine wp_call KR.out (by kernel_rfl) ?_
                rw [← HM2.out]
                intro v w1 hrp
                have hv : v = .tuple #[.int .i64 ((m : Nat) : Int), .nilIface] := hrp.1
                have hrp2 : ReadPost wl.drew L.sl L.mid L.s p0 rest st5.f bb st5.en m (st5.buf.map bv).toArray v w1.drew := ⟨hrp.1, hrp.2.1, hrp.2.2.1.new (Upd.refl _ _).drew, hrp.2.2.2.1.drew, hrp.2.2.2.2⟩
                have hbx := hrp.2.2.2.1.heap HIN5.out.drew.went.sc.hb (fun hh => by
                  rcases hh with hh | hh
                  · exact HBL.out hh.symm
                  · exact HIN5.out.went.sc.blo.2 hh)
                have d6 : w1.cell? ⟨L.b, 6, none⟩ = some (.int .i64 (st5.en : Int)) := by rw [World.cell_of_heap hbx]; rfl
                have d4 : w1.cell? ⟨L.b, 4, none⟩ = some (.slice (some ⟨bb, 0, none⟩) st5.buf.length st5.buf.length) := by rw [World.cell_of_heap hbx, ← HBV.out]; rfl
                have d8 : w1.cell? ⟨L.b, 8, none⟩ = some (.int .i64 st5.emp) := by rw [World.cell_of_heap hbx]; rfl
                have df : ∀ i, w1.frozen? ⟨L.b, i, none⟩ = false := fun i => World.frozen_of_heap hbx i
                have HRD : Hid (∀ w2, w2 = w1.drew.setCell ⟨L.b, 6, none⟩ (.int .i64 ((st5.en : Int) + (m : Int))) → ∃ st6, ScIn S base L k most lim w st w2 st6 ∧ st6.ps = srcLeft m (p0 :: rest) ∧ st6.err = none ∧ st6.buf.length = st5.buf.length ∧ st6.en = st5.en + m) := by
                  intro w2 hw2
                  obtain ⟨st6, r1, r2, r3, r4, r5, _⟩ := HIN5.out.drew.read (w2 := w2) HPN.out hm1 hm2 HE5.out HBV.out hrp2 (by rw [hw2, Int.natCast_add])
                  exact ⟨st6, r1, r2, r3, r4, r5⟩
                have q0 : decide ((m : Int) < 0) = false := decide_eq_false (by omega)
                have q1 : decide ((st5.buf.length : Int) - (st5.en : Int) < (m : Int)) = false := decide_eq_false (by omega)
                have q2 : decide ((100 : Int) < (c : Int) + 1) = false := decide_eq_false (by omega)
                rw [hv]
                clear hrp hrp2 hv hbx c0 c4 c6 c8 hf
                refine hK _ _ ?_
                clear hK K
                (repeat' (first | (refine wpLx_calm rfl rfl rfl (fun K hK => ?_); go_step <;> (refine hK _ ?_; clear hK K)) | (refine wpLx_skip2 rfl rfl rfl ?_; go_simp) | (refine wpLx_calm2 rfl rfl rfl rfl rfl (fun K hK => ?_); go_step <;> (refine hK _ ?_; clear hK K))))
                all_goals refine wpLx_nil ?_
                go_wp2_with fail
                refine wp_region_lx {} (by kernel_rfl) (by kernel_rfl) ⟨fun _ _ _ h => h.2, fun _ _ h => h⟩ ?_
                (repeat' (first | (refine wpLx_calm rfl rfl rfl (fun K hK => ?_); go_step <;> (refine hK _ ?_; clear hK K)) | (refine wpLx_skip2 rfl rfl rfl ?_; go_simp) | (refine wpLx_calm2 rfl rfl rfl rfl rfl (fun K hK => ?_); go_step <;> (refine hK _ ?_; clear hK K)) | (refine wpLx_skip rfl ?_; go_simp)))
                all_goals refine wpLx_nil ?_
                by_cases hp0 : 0 < m
                · go_wp2_with fail
                  obtain ⟨st6, r1, r2, r3, r4, r5⟩ := HRD.out _ rfl
                  have r6 := r1.went.cell 8 (.int .i64 0) (r1.went.sc.setEmp 0) rfl rfl
                  have hfl : (p0 :: rest).flatten.length = m + (srcLeft m (p0 :: rest)).flatten.length := by
                    have := congrArg List.length (srcLeft_flatten m p0 rest hm1)
                    rw [List.length_append, List.length_take] at this
                    omega
                  have hfu : fuelS { st6 with emp := 0 } = (srcLeft m (p0 :: rest)).flatten.length + 1 := by unfold fuelS; rw [show ({ st6 with emp := 0 } : SS).ps = st6.ps from rfl, r2, show ({ st6 with emp := 0 } : SS).err = st6.err from rfl, r3, if_pos rfl]
                  refine Handed.intro (fuelS { st6 with emp := 0 }) ?_ ?_
                  · have h1 := HGK.out
                    rw [HF1.out, HPN.out] at h1
                    omega
                  · go_step
                    exact ⟨⟨_, r1.of r6 rfl rfl (fun h => h), Nat.le_refl _⟩, frScan rfl rfl rfl⟩
                · have HM0 : Hid (m = 0) := Lib.hid (by omega)
                  go_wp2_with fail
                  obtain ⟨st6, r1, r2, r3, r4, r5⟩ := HRD.out _ rfl
                  have hp : p0 = [] := List.eq_nil_of_length_eq_zero (by have := HM2.out; omega)
                  refine Handed.intro (n - 1) (by omega) ?_
                  go_step
                  refine ⟨c + 1, st6, ⟨r1, r3, by rw [r4, r5]; omega, ?_, by omega⟩, frScan8 rfl rfl rfl rfl⟩
                  rw [HPS5.out, HPN.out, r2, hp, HM0.out, List.replicate_succ', List.append_assoc]
                  rfl
      · have hen1 : st1.err ≠ none := fun hh => by rw [hh] at he; cases he
        have HEND : Hid (∀ w9, w9 = (wc.setCell ⟨L.b, 5, none⟩ (.int .i64 0)).setCell ⟨L.b, 6, none⟩ (.int .i64 0) → ScanPost S base L k most lim st w (.bool false) w9) := by
          intro w9 hw9
          have h3 := hg2.cell 5 (.int .i64 ((0 : Nat) : Int)) (hg2.sc.setSt 0 (Nat.zero_le _)) rfl rfl
          have h4 := h3.cell 6 (.int .i64 ((0 : Nat) : Int)) (h3.sc.setEn 0 (Nat.le_refl 0) (Nat.zero_le _)) rfl rfl
          rw [hw9]
          exact scan_end HIN.out h4 hen1 (hend hen1) he2
        obtain ⟨c0, c1, c2, c3, c4, c5, c6, c7, c8, c9, c10, hf⟩ := hg2.sc.cells
        rw [he2, he] at c7
        clear hg2 he2 hend hmore he hen1 c0 c1 c2 c3 c4 c8 c9 c10
        go_wp2_with fail
        go_ret
        exact HEND.out _ rfl
end Go.Proofs.YtgbbogocfmepiaaDoor
