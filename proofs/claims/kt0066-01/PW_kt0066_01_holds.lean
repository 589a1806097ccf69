import PyProof.Rows.All
import Wide.All
import OpenK.AllK
import Wide.FinOn
import PySem.Sre
import Lean
import PySem.Challenge.RW_kt0066_01
set_option compiler.extract_closed false
section
open PySem PySem.W PySem.W.X PyProof.Rows
set_option Elab.async false
set_option maxRecDepth 100000
set_option maxHeartbeats 8000000
namespace Mine
section
local macro_rules | `(tactic| o_head $_) => `(tactic| skip)
theorem fragK (h : PySem.Challenge.rw_kt0066_01.row.Holds) : PySem.Challenge.rw_kt0066_01.row.Holds := by
  k_head
  exact h
end
end Mine
end
section
open PySem PySem.W PySem.W.X PyProof.Rows
set_option Elab.async false
set_option maxRecDepth 100000
set_option maxHeartbeats 8000000
namespace Mine
abbrev pP : Program := PySem.Challenge.rw_kt0066_01.row.prog
def pCut (k : Nat) : Program := { pP with main := { pP.main with body := pP.main.body.take k } }
def rowA : OpenRow := { PySem.Challenge.rw_kt0066_01.row with name := "zz", prog := pCut 20 }
def rowB : OpenRow := { PySem.Challenge.rw_kt0066_01.row with name := "zz", prog := pCut 21 }
def rowE : OpenRow := { PySem.Challenge.rw_kt0066_01.row with name := "zz" }
section
local macro_rules | `(tactic| o_head $_) => `(tactic| skip)
theorem fragA (h : rowA.Holds) : rowA.Holds := by
  x_head
  exact h
theorem fragB (h : rowB.Holds) : rowB.Holds := by
  x_head
  exact h
theorem fragE (h : rowE.Holds) : rowE.Holds := by
  x_head
  exact h
end
end Mine
end
section
open PySem PySem.W PyProof.Rows PySem.Calls
set_option Elab.async false
set_option maxRecDepth 100000
set_option maxHeartbeats 0
namespace Mine
noncomputable abbrev TT := PySem.W.Fast.tw14364793385576792824
noncomputable abbrev IE := PySem.W.Fast.tw10274390034422433532
noncomputable abbrev GO := PySem.W.Fast.tw15667345088766844465
noncomputable abbrev SR := PySem.W.Fast.tw14374325043358763698
noncomputable abbrev ST := PySem.W.Fast.tw10110043849684766642
noncomputable abbrev TR := PySem.W.Fast.tw14082659384304107361
noncomputable abbrev EX := PySem.W.Fast.tw12563942051412417395
noncomputable abbrev BS := PySem.W.Fast.tw1066825118222455980
noncomputable abbrev DN := PySem.W.Fast.tw11892475500146522536
noncomputable def bM : List Stmt := behindTheImports pP
noncomputable def eM : Env := { scope := pP.main.scope, locals := mainNs, globals := mainNs, cells := [], code := .ref 36, frame := some 37 }
noncomputable abbrev cM : Code := .body bM eM
noncomputable abbrev p0 : Pos := ⟨0, 0, 0, 0⟩
noncomputable abbrev p1 : Pos := ⟨77, 0, 246, 17⟩
noncomputable abbrev p2 : Pos := ⟨247, 0, 451, 17⟩
noncomputable abbrev p3 : Pos := ⟨811, 0, 825, 96⟩
noncomputable abbrev BM : List Frame := [topFrame p0]
noncomputable abbrev anM : Option Value := some (.ref 6)
noncomputable abbrev blockT : Thread := ⟨(BS bM eM).wrap (fun _ => doneF .next) deadEnd id id, cM, p0, BM⟩
noncomputable abbrev piecesT (l : List Stmt) (q : Pos) : Thread := ⟨(EX l eM).wrap doneF deadEnd id id, cM, q, BM⟩
noncomputable def sO (w : World) : Option Shared := (IE TT (opening pP) w 100000 (start (opening pP)).1 (start (opening pP)).2).bind (fenceModules? pP)
noncomputable def runA (w : World) : Option (Shared × (Shared × Thread) × (Flow × Shared × Code × Pos) × (Flow × Shared × Code × Pos)) :=
  (sO w).bind fun s0 => (GO TT pP w 34 anM 12 s0 (topStub pP)).bind fun x => (SR TT pP w 34 anM 1 1 x.1 blockT).bind fun y =>
    (SR TT pP w 34 anM 1 2563 y.2.1 (piecesT (bM.take 18) p0)).map fun z => (s0, x, y, z)
noncomputable def fill (g : Nat → Obj) : Nat → Nat → List (Nat × Obj) → List Obj
  | 0, _, _ => []
  | n + 1, i, [] => g i :: fill g n (i + 1) []
  | n + 1, i, (a, o) :: r => match Nat.beq a i with
    | true => o :: fill g n (i + 1) r
    | false => g i :: fill g n (i + 1) ((a, o) :: r)
noncomputable def alt : List Obj → List Obj
  | [] => []
  | [a] => [a]
  | a :: _ :: r => a :: alt r
/-- the tree of a list of objects -/
noncomputable def mkL : Nat → List Obj → BT
  | 0, _ => .nil
  | _ + 1, [] => .nil
  | k + 1, o :: r => .node o (mkL k (alt r)) (mkL k (alt r.tail))
noncomputable def gA (w : World) (i : Nat) : Obj := match runA w with
  | some r => r.2.2.2.2.1.heap.objs.getD i default
  | none => default
noncomputable def tA (w : World) : SharedT := ⟨mkL 11 (fill (gA w) 381 0 (fragA.heap_1 w.params)), 381, {}, #[], {}, 794, (match sO w with | some s => s.os | none => default)⟩
noncomputable def runB (w : World) : Option (Flow × SharedT × Code × Pos) := ST TT pP w 34 anM 1 1578 (tA w) (piecesT ((bM.drop 18).take 1) p1)
noncomputable def gB (w : World) (i : Nat) : Obj := match runB w with
  | some r => (r.2.1.tree.get i).getD default
  | none => default
noncomputable def tB (w : World) : SharedT := ⟨mkL 11 (fill (gB w) 628 0 (fragB.heap_1 w.params)), 628, {}, #[], {}, 1081, (tA w).os⟩
noncomputable def runC (w : World) : Option (Flow × SharedT × Code × Pos) := ST TT pP w 34 anM 1 1114 (tB w) (piecesT (bM.drop 19) p2)
noncomputable def gC (w : World) (i : Nat) : Obj := match runC w with
  | some r => (r.2.1.tree.get i).getD default
  | none => default
noncomputable def tC (w : World) : SharedT := ⟨mkL 11 (fill (gC w) 821 0 (fragE.heap_1 w.params)), 821, {}, #[], {}, 1357, (tB w).os⟩
noncomputable def runD (w : World) : Option Shared := TR TT pP w 34 anM 2 (tC w).abs ⟨doneF .next, cM, p3, BM⟩
noncomputable abbrev keepM : List Nat := [0, 1, 2, 4, 5, 6, 7, 9, 10, 13, 14, 15, 16, 17, 18, 19, 20, 22, 23, 24, 25, 26, 27, 29, 32, 33, 34, 35, 36, 37, 38, 39]
noncomputable def viewP : Program := { pP with main := { pP.main with body := keepM.filterMap fun i => pP.main.body[i]? } }
noncomputable abbrev looseP : List Str := [Str.ofString "_twin_re_1", Str.ofString "_twin_re_2", Str.ofString "_initial_missing", Str.ofString "reduce", Str.ofString "UnsupportedOperation", Str.ofString "IOBase", Str.ofString "BufferedIOBase", Str.ofString "TextIOBase", Str.ofString "BytesIO", Str.ofString "StringIO", Str.ofString "shlex", Str.ofString "split"]
noncomputable def asK : List Addr := [2, 3, 38, 40, 41, 43, 44, 48, 49, 53, 54, 55, 57, 58, 60, 61, 62, 64, 65, 67, 68, 69, 70, 71, 73, 74, 76, 77, 78, 80, 81, 83, 84, 85, 87, 88, 90, 91, 92, 99, 100, 101, 102, 112, 114, 115, 117, 118, 119, 120, 121, 122, 123, 124, 127, 134, 135, 136, 139, 146, 147, 148, 151, 158, 159, 161, 162, 164, 165, 166, 168, 169, 171, 172, 173, 175, 176, 178, 179, 180, 182, 183, 185, 186, 187, 188, 190, 191, 193, 194, 195, 197, 198, 200, 201, 202, 204, 205, 207, 208, 209, 211, 212, 214, 215, 216, 218, 219, 221, 222, 223, 225, 226, 228, 229, 230, 232, 233, 235, 236, 237, 239, 240, 242, 243, 244, 246, 247, 249, 250, 251, 253, 254, 256, 257, 258, 260, 261, 263, 264, 265, 267, 268, 270, 271, 272, 274, 275, 277, 278, 279, 280, 282, 283, 285, 286, 287, 288, 290, 291, 293, 294, 295, 296, 298, 299, 301, 302, 303, 304, 306, 307, 309, 310, 311, 313, 314, 316, 317, 318, 320, 321, 323, 324, 325, 326, 328, 329, 331, 332, 333, 334, 336, 337, 339, 340, 341, 343, 344, 346, 347, 348, 350, 351, 353, 354, 355, 357, 358, 360, 361, 362, 364, 365, 367, 368, 369, 371, 372, 374, 375, 376, 377, 378, 381, 388, 389, 391, 392, 394, 395, 396, 398, 399, 401, 402, 403, 405, 406, 408, 409, 410, 412, 413, 415, 416, 417, 419, 420, 422, 423, 424, 426, 427, 429, 430, 431, 432, 434, 435, 437, 438, 439, 440, 442, 443, 445, 446, 447, 448, 450, 451, 453, 454, 455, 456, 458, 459, 461, 462, 463, 464, 466, 467, 469, 470, 471, 473, 474, 476, 477, 478, 480, 481, 483, 484, 485, 487, 488, 490, 491, 492, 494, 495, 497, 498, 499, 501, 502, 504, 505, 506, 508, 509, 511, 512, 513, 515, 516, 518, 519, 520, 522, 523, 525, 526, 527, 529, 530, 532, 533, 534, 536, 537, 539, 540, 541, 543, 544, 546, 547, 548, 549, 551, 552, 554, 555, 556, 557, 559, 560, 562, 563, 564, 565, 567, 568, 570, 571, 572, 573, 575, 576, 578, 579, 580, 581, 583, 584, 586, 587, 588, 590, 591, 593, 594, 595, 597, 598, 600, 601, 602, 604, 605, 607, 608, 609, 611, 612, 614, 615, 616, 618, 619, 621, 622, 623, 624, 625, 628, 630, 631, 633, 634, 635, 637, 638, 640, 641, 642, 644, 645, 647, 648, 649, 651, 652, 654, 655, 656, 658, 659, 661, 662, 663, 665, 666, 668, 669, 677, 678, 680, 681, 683, 684, 685, 687, 688, 690, 691, 692, 693, 695, 696, 698, 699, 700, 701, 703, 704, 706, 707, 708, 710, 711, 713, 714, 715, 717, 718, 720, 721, 722, 724, 725, 727, 728, 729, 731, 732, 734, 735, 736, 737, 739, 740, 742, 743, 744, 746, 747, 749, 750, 751, 753, 754, 756, 757, 758, 759, 760, 761, 762, 765, 766, 768, 769, 771, 772, 773, 775, 776, 778, 779, 780, 782, 783, 785, 786, 787, 789, 790, 792, 793, 794, 796, 797, 799, 800, 801, 804, 805, 806, 809, 810, 811, 814, 815, 816, 819, 820]
end Mine
end
section
open PySem PySem.W PyProof.Rows PySem.Calls
set_option Elab.async false
set_option maxRecDepth 100000
set_option maxHeartbeats 0
namespace Mine
theorem chkA (w : World) : (runA w).map (fun r => (r.1.heap.objs.size, r.1.heap.nsMap mainGlobals "__annotations__", r.1.heap.isNs mainGlobals && r.1.gens.size == 0, r.2.1.2, r.2.2.1.1, r.2.2.1.2.2, r.2.2.2)) =
    some (34, anM, true, ⟨DN TT cM, cM, p0, BM⟩, .next, (cM, p0), (.next, (tA w).abs, cM, p1)) := by
  kernel_rfl
end Mine
end
section
open PySem PySem.W PyProof.Rows PySem.Calls
set_option Elab.async false
set_option maxRecDepth 100000
set_option maxHeartbeats 0
namespace Mine
theorem chkB (w : World) : ST TT pP w 34 anM 1 1578 (tA w) (piecesT ((bM.drop 18).take 1) p1) = some (.next, tB w, cM, p2) := by
  kernel_rfl
end Mine
end
section
open PySem PySem.W PyProof.Rows PySem.Calls
set_option Elab.async false
set_option maxRecDepth 100000
set_option maxHeartbeats 0
namespace Mine
theorem chkC (w : World) : ST TT pP w 34 anM 1 1114 (tB w) (piecesT (bM.drop 19) p2) = some (.next, tC w, cM, p3) := by
  kernel_rfl
end Mine
end
section
open PySem PySem.W PyProof.Rows PySem.Calls
set_option Elab.async false
set_option maxRecDepth 100000
set_option maxHeartbeats 0
namespace Mine
noncomputable abbrev OSN := @PySem.W.Fast.tw4187177175401517315
noncomputable abbrev tabsM : List Addr := [795, 63, 817]
abbrev rowM := PySem.Challenge.rw_kt0066_01.row
noncomputable abbrev XtM : Shared → Bool := fun s => xlAt viewP [] s && recOk (RowW.records rowM.toRowW) s
noncomputable abbrev obsM (s : Shared) : List (Option Obj) × List (Option Obj) := (asK.map s.heap.get?, tabsM.map s.heap.get?)
noncomputable abbrev valM (w : World) : List (Option Obj) × List (Option Obj) := ((fragK.heap_1 w.params).map fun p => some p.2, tabsM.map fun _ => some (tabObj #[]))
theorem chkD (w : World) : ((sO w).bind fun s0 => (runD w).map fun r => (
    (staticsOk (importedModules pP.main.body) s0.heap r.heap && namesBound pP r.heap && gensDone r && laidKept s0.heap r.heap),
    OSN viewP looseP (importedModules pP.main.body) XtM true r, obsM r)) = some (true, openGood viewP looseP, valM w) := by
  kernel_rfl
end Mine
end
section
open PySem PySem.W PyProof.Rows PySem.Calls
set_option Elab.async false
set_option maxRecDepth 100000
set_option maxHeartbeats 8000000
namespace Mine
theorem eTT : treeTable = TT := PySem.W.Fast.te14364793385576792824
theorem eIE : @importEnds = @IE := PySem.W.Fast.te10274390034422433532
theorem eGO : @topGo = @GO := PySem.W.Fast.te15667345088766844465
theorem eSR : @segRun = @SR := PySem.W.Fast.te14374325043358763698
theorem eST : @segRunT = @ST := PySem.W.Fast.te10110043849684766642
theorem eTR : @topRun = @TR := PySem.W.Fast.te14082659384304107361
theorem eEX : @execs = @EX := PySem.W.Fast.te12563942051412417395
theorem eBS : @blockStart = @BS := PySem.W.Fast.te1066825118222455980
theorem eDN : @denote = @DN := PySem.W.Fast.te11892475500146522536
theorem eOS : @openSeen = @OSN := PySem.W.Fast.te4187177175401517315
theorem sO_is (w : World) : fencedOpening treeTable pP w 100000 = sO w := by
  unfold fencedOpening sO
  rw [eIE, eTT]
theorem pieces_is (l : List Stmt) (q : Pos) : piecesOf l eM cM q BM = piecesT l q := by
  show (⟨(execs l eM).wrap doneF deadEnd id id, cM, q, BM⟩ : Thread) = _
  rw [eEX]
theorem block_is : blockOf bM eM cM p0 BM = blockT := by
  show (⟨(blockStart bM eM).wrap (fun _ => doneF .next) deadEnd id id, cM, p0, BM⟩ : Thread) = _
  rw [eBS]
theorem segA {w : World} {s s' : Shared} {n : Nat} {t : Thread} {c : Code} {q : Pos} (h : SR TT pP w 34 anM 1 n s t = some (.next, s', c, q)) : segRun treeTable pP w 34 anM 1 n s t = some (.next, s', c, q) := by
  rw [eSR, eTT]; exact h
theorem segB {w : World} {s s' : SharedT} {n : Nat} {t : Thread} {c : Code} {q : Pos} (h : ST TT pP w 34 anM 1 n s t = some (.next, s', c, q)) : segRun treeTable pP w 34 anM 1 n s.abs t = some (.next, s'.abs, c, q) := by
  refine segRun_of ?_
  rw [eST, eTT]; exact h
theorem bM_split : bM = bM.take 18 ++ ((bM.drop 18).take 1 ++ (bM.drop 19 ++ [])) := by
  rw [List.append_nil, show bM.drop 19 = (bM.drop 18).drop 1 by rw [List.drop_drop], List.take_append_drop, List.take_append_drop]
theorem goal_absH {G : Prop} (h : ∀ P : Prop, (G → P) → P) : G := h G id
theorem isA {w : World} {s0 : Shared} (h0 : sO w = some s0) : ∃ x1 y1, s0.heap.objs.size = 34 ∧ s0.heap.nsMap mainGlobals "__annotations__" = anM ∧ (s0.heap.isNs mainGlobals && s0.gens.size == 0) = true ∧
    GO TT pP w 34 anM 12 s0 (topStub pP) = some (x1, ⟨DN TT cM, cM, p0, BM⟩) ∧ SR TT pP w 34 anM 1 1 x1 blockT = some (.next, y1, cM, p0) ∧ SR TT pP w 34 anM 1 2563 y1 (piecesT (bM.take 18) p0) = some (.next, (tA w).abs, cM, p1) := by
  refine goal_absH fun GP hGP => ?_
  obtain ⟨r, hr, e⟩ := Option.map_eq_some_iff.mp (chkA w)
  unfold runA at hr
  rw [h0, Option.bind_some] at hr
  obtain ⟨⟨x1, x2⟩, hx, hr⟩ := Option.bind_eq_some_iff.mp hr
  obtain ⟨⟨y1, y2, y3, y4⟩, hy, hr⟩ := Option.bind_eq_some_iff.mp hr
  obtain ⟨⟨z1, z2, z3, z4⟩, hz, rfl⟩ := Option.map_eq_some_iff.mp hr
  dsimp only at e hx hy hz
  obtain ⟨e1, e2, e3, e4, e5, e6, e7⟩ : _ ∧ _ ∧ _ ∧ _ ∧ _ ∧ _ ∧ _ := by simpa only [Prod.mk.injEq] using e
  obtain ⟨e61, e62⟩ := e6
  obtain ⟨e71, e72, e73, e74⟩ := e7
  subst e4 e5 e61 e62 e71 e72 e73 e74
  exact hGP ⟨x1, y2, e1, e2, e3, hx, hy, hz⟩
theorem isB (w : World) : ST TT pP w 34 anM 1 1578 (tA w) (piecesT ((bM.drop 18).take 1) p1) = some (.next, tB w, cM, p2) := by
  exact chkB w
theorem isB2 (w : World) : segRun treeTable pP w 34 anM 1 1578 (tA w).abs (piecesT ((bM.drop 18).take 1) p1) = some (.next, (tB w).abs, cM, p2) := segB (isB w)
theorem isC (w : World) : ST TT pP w 34 anM 1 1114 (tB w) (piecesT (bM.drop 19) p2) = some (.next, tC w, cM, p3) := by
  exact chkC w
theorem isC2 (w : World) : segRun treeTable pP w 34 anM 1 1114 (tB w).abs (piecesT (bM.drop 19) p2) = some (.next, (tC w).abs, cM, p3) := segB (isC w)
theorem isD {w : World} {s3 : Shared} (hD : runD w = some s3) : topRun treeTable pP w 34 anM 2 (tC w).abs ⟨doneF .next, cM, p3, BM⟩ = some s3 := by
  unfold runD at hD
  rw [eTR, eTT]; exact hD
theorem run_up {w : World} {n N : Nat} {s r : Shared} {t : Thread} (h : n ≤ N) (k : topRun treeTable pP w 34 anM n s t = some r) : topRun treeTable pP w 34 anM N s t = some r := by
  obtain ⟨d, rfl⟩ := Nat.le.dest h
  exact topRun_mono d n s t r k
theorem runM {w : World} {s0 s3 : Shared} (h0 : sO w = some s0) (hD : runD w = some s3) :
    s0.heap.objs.size = 34 ∧ s0.heap.nsMap mainGlobals "__annotations__" = anM ∧ (s0.heap.isNs mainGlobals && s0.gens.size == 0) = true ∧ topRun treeTable pP w 34 anM 100000 s0 (topStub pP) = some s3 := by
  obtain ⟨x1, y1, e1, e2, e3, hx, hy, hz⟩ := isA h0
  refine ⟨e1, e2, e3, ?_⟩
  have hx' : topGo treeTable pP w 34 anM 12 s0 (topStub pP) = some (x1, ⟨denote treeTable cM, cM, p0, BM⟩) := by
    rw [eGO, eTT, eDN]; exact hx
  have hy' := segA hy
  have hz' := segA hz
  rw [← block_is] at hy'
  rw [← pieces_is] at hz'
  have hB := isB2 w
  rw [← pieces_is] at hB
  have hC := isC2 w
  rw [← pieces_is] at hC
  have k := piece_app hz' (piece_app hB (piece_app hC (piece_nil (isD hD))))
  rw [← bM_split] at k
  have k2 := go_top hx' (piece_block hy' k)
  exact run_up (Nat.le_of_ble_eq_true rfl) k2
theorem leftM : LeftO rowM.prog viewP looseP XtM obsM valM 100000 := fun w => by
  obtain ⟨s0, h0, hr⟩ := Option.bind_eq_some_iff.mp (chkD w)
  obtain ⟨s3, h3, e⟩ := Option.map_eq_some_iff.mp hr
  obtain ⟨e1, e2, e3, k⟩ := runM h0 h3
  obtain ⟨l1, l2⟩ := Prod.mk.inj e
  have t : topFrom treeTable pP w 100000 s0 = some s3 := by
    unfold topFrom
    rw [e3, e1, e2, k]
    show (match staticsOk (importedModules pP.main.body) s0.heap s3.heap && namesBound pP s3.heap && gensDone s3 && laidKept s0.heap s3.heap with | true => _ | false => _) = _
    rw [l1]
  unfold openEnds
  rw [sO_is, h0]
  show (topFrom treeTable pP w 100000 s0).map _ = _
  rw [t, eOS]
  exact congrArg some l2
end Mine
end
section
open PySem PySem.W PyProof.Rows PySem.Calls
set_option Elab.async false
set_option maxRecDepth 100000
set_option maxHeartbeats 0
namespace Mine
theorem wellM : PySem.Challenge.rw_kt0066_01.wellSaid = true := by
  unfold OpenLaw.wellSaid OpenRow.wellSaid OpenRow.partSaid looksOpen
  repeat' (with_reducible refine look_both ?_ ?_)
  · rw [PySem.W.Fast.te11788848310118352699]; kernel_rfl
  · rw [PySem.W.Fast.te12862048085361865435, PySem.W.Fast.te9807087744658564304]; kernel_rfl
  · rw [PySem.W.Fast.te8377067652309620493]; kernel_rfl
  · rw [PySem.W.Fast.te14412699480532031325, PySem.W.Fast.sDec_eq, PySem.W.Fast.te3471404346716756564, PySem.W.Fast.te18344453789297297638, PySem.W.R.allR_eq]; kernel_rfl
  · rw [PySem.W.Fast.te13343964577679436407, PySem.W.R.filterR_eq, PySem.W.Fast.te17691160309236699985, PySem.W.Fast.sDec_eq, PySem.W.Fast.te3471404346716756564, PySem.W.Fast.te5923862056798008813, PySem.W.R.allR_eq, PySem.W.Fast.te8326940854005059898]; kernel_rfl
  · rw [PySem.W.Fast.te17868728402115742887, PySem.W.Fast.te17119622794617984870]; kernel_rfl
  · kernel_rfl
  · kernel_rfl
  · rw [PySem.W.Fast.te9706382859710513879, PySem.W.R.allR_eq]; kernel_rfl
  · rw [PySem.W.Fast.te2357444279172408678, PySem.W.S.strDecS_eq, PySem.W.Fast.te18344453789297297638, PySem.W.Fast.sDec_eq, PySem.W.Fast.te3471404346716756564, PySem.W.R.allR_eq]; kernel_rfl
  · rw [PySem.W.Fast.sDec_eq, PySem.W.R.mapR_eq]; kernel_rfl
  · rw [PySem.W.Fast.te18344453789297297638, PySem.W.Fast.sDec_eq, PySem.W.Fast.te3471404346716756564, PySem.W.Fast.named_eq, PySem.W.Fast.te4857012375875476094, PySem.W.R.allR_eq]; kernel_rfl
  · rw [PySem.W.Fast.te13582783067957832011]; kernel_rfl
  · rw [PySem.W.Fast.te5318747976498570220]; kernel_rfl
  · rw [PySem.W.Fast.te5318747976498570220]; kernel_rfl
  · rw [PySem.W.Fast.te5318747976498570220, PySem.W.R.allR_eq]; kernel_rfl
  · rw [PySem.W.Fast.te4274047373036748609, PySem.W.R.anyR_eq, PySem.W.Fast.te4579403493507170074, PySem.W.R.allR_eq]; kernel_rfl
  · rw [PySem.W.R.allR_eq]; kernel_rfl
  · kernel_rfl
  · rw [PySem.W.Fast.te18344453789297297638, PySem.W.Fast.sDec_eq, PySem.W.Fast.te3471404346716756564]; kernel_rfl
  · rw [PySem.W.Fast.te12749700546528644094, PySem.W.Fast.sDec_eq, PySem.W.Fast.te3471404346716756564]; kernel_rfl
  · kernel_rfl
  · rw [PySem.W.Fast.te10501279942588096481, PySem.W.R.allR_eq]; kernel_rfl
  · rw [PySem.W.Fast.te8179353310426384613]; kernel_rfl
  · kernel_rfl
  · kernel_rfl
  · rw [PySem.W.Fast.te9572597257264208301, PySem.W.Fast.te797321630700447069, PySem.W.Fast.te8326940854005059898]; kernel_rfl
  · rw [PySem.W.Fast.te9558739934217749035]; kernel_rfl
  · rw [PySem.W.Fast.te16286561074155671207]; kernel_rfl
  · rw [PySem.W.Fast.sDec_eq, PySem.W.R.allR_eq]; kernel_rfl
  · rw [PySem.W.Fast.te6984425678791042302, PySem.W.Fast.sDec_eq, PySem.W.Fast.named_eq, PySem.W.Fast.te797321630700447069, PySem.W.R.allR_eq]; kernel_rfl
  · rw [PySem.W.Fast.te6984425678791042302, PySem.W.Fast.te12879404354523853263, PySem.W.Fast.te17095254045102204799, PySem.W.R.allR_eq]; kernel_rfl
  · rw [PySem.W.Fast.sDec_eq, PySem.W.Fast.te482687673346738481, PySem.W.Fast.te6984425678791042302, PySem.W.Fast.te12879404354523853263, PySem.W.Fast.te17095254045102204799, PySem.W.R.allR_eq]; kernel_rfl
  · rw [PySem.W.Fast.te9572597257264208301, PySem.W.Fast.sDec_eq, PySem.W.Fast.te3471404346716756564, PySem.W.Fast.te17119622794617984870]; kernel_rfl
  · rw [PySem.W.Fast.te10792542408131684335, PySem.W.Fast.sDec_eq, PySem.W.Fast.te3471404346716756564]; kernel_rfl
  · rw [PySem.W.Fast.te10792542408131684335, PySem.W.Fast.sDec_eq, PySem.W.Fast.te7723801398212525404]; kernel_rfl
  · rw [PySem.W.Fast.named_eq, PySem.W.Fast.te10792542408131684335, PySem.W.R.allR_eq]; kernel_rfl
  · rw [PySem.W.Fast.te10792542408131684335, PySem.W.Fast.sDec_eq, PySem.W.Fast.te3471404346716756564, PySem.W.Fast.te17119622794617984870]; kernel_rfl
  · rw [PySem.W.Fast.sDec_eq, PySem.W.Fast.te17119622794617984870]; kernel_rfl
end Mine
end
section
open PySem PySem.W PyProof.Rows PySem.Calls
set_option Elab.async false
set_option maxRecDepth 100000
set_option maxHeartbeats 8000000
namespace Mine
noncomputable def saysM (w : World) (h : Heap) : Prop := InK fragK.heap_1 w h ∧ (∀ P ∈ tabsM, h.get? P = some (tabObj #[]))
theorem asK_is : ∀ P, asK = (fragK.heap_1 P).map (·.1) := fun _ => by kernel_rfl
theorem saysM_of (w : World) (s : Shared) (x : obsM s = valM w) : saysM w s.heap := by
  obtain ⟨x1, x2⟩ := Prod.mk.inj x
  exact ⟨InK.of asK_is w s x1, List.map_inj_left.mp x2⟩
theorem saysM_keeps (w : World) (h h' : Heap) (x : saysM w h) (k : ∀ b o, h.get? b = some o → h'.get? b = some o) : saysM w h' :=
  ⟨InK.keeps w h h' x.1 k, fun P hP => k _ _ (x.2 P hP)⟩
theorem okM : (chainsOk viewP && opensWell rowM.prog && (frees rowM.toRowW && rowM.within.isEmpty)) = true := by kernel_rfl
theorem witM : rowM.toRowW.promised := by w_witness2
end Mine
end
section
open PySem PySem.W PyProof.Rows
set_option Elab.async false
set_option maxRecDepth 100000
set_option maxHeartbeats 8000000
namespace Mine
section
variable {α : Type} {q a b c d : α} {l : List α}
theorem mem1 (h : q ∈ a :: l) : q = a ∨ q ∈ l := List.mem_cons.mp h
theorem mem2 (h : q ∈ a :: b :: l) : q = a ∨ q = b ∨ q ∈ l := (mem1 h).imp_right mem1
theorem mem3 (h : q ∈ a :: b :: c :: l) : q = a ∨ q = b ∨ q = c ∨ q ∈ l := (mem1 h).imp_right mem2
theorem mem4 (h : q ∈ a :: b :: c :: d :: l) : q = a ∨ q = b ∨ q = c ∨ q = d ∨ q ∈ l := (mem1 h).imp_right mem3
end
noncomputable abbrev ent (P : Params) (n : Str) (t : Tok) (v : Value) : DictEntry := ⟨PyData.keyHash P n, .str n t, v⟩

abbrev S (x : String) : Str := PySem.Str.ofString x
abbrev wordS : Str := S "abcdfeghijklmnopqrstuvwxyzABCDEFGHIJKLMNOPQRSTUVWXYZ0123456789_" ++ S "ßàáâãäåæçèéêëìíîïðñòóôõöøùúûüýþÿÀÁÂÃÄÅÆÇÈÉÊËÌÍÎÏÐÑÒÓÔÕÖØÙÚÛÜÝÞ"
noncomputable abbrev lexD (P : Params) (k t : Nat → Tok) (x pb fs : Addr) (st tok : Value) (ln : Int) (tl : Tok) : List DictEntry :=
  [ent P (S "instream") (k 0) (.ref x), ent P (S "infile") (k 1) .none, ent P (S "posix") (k 2) (.bool true), ent P (S "eof") (k 3) .none, ent P (S "commenters") (k 4) (.str (S "") (t 4)),
   ent P (S "wordchars") (k 5) (.str wordS (t 5)), ent P (S "whitespace") (k 6) (.str (S " \t\r\n") (t 6)), ent P (S "whitespace_split") (k 7) (.bool true), ent P (S "quotes") (k 8) (.str (S "'\"") (t 8)),
   ent P (S "escape") (k 9) (.str (S "\\") (t 9)), ent P (S "escapedquotes") (k 10) (.str (S "\"") (t 10)), ent P (S "state") (k 11) st, ent P (S "pushback") (k 12) (.ref pb), ent P (S "lineno") (k 13) (.int ln tl),
   ent P (S "debug") (k 14) (.int 0 (t 14)), ent P (S "token") (k 15) tok, ent P (S "filestack") (k 16) (.ref fs), ent P (S "source") (k 17) .none, ent P (S "_punctuation_chars") (k 18) (.str (S "") (t 18))]
noncomputable abbrev ioD (P : Params) (q u : Nat → Tok) (buf : Str) (pos : Int) (tp : Tok) : List DictEntry :=
  [ent P (S "_StringIO__newline") (q 0) (.str (S "\n") (u 0)), ent P (S "_StringIO__buf") (q 1) (.str buf (u 1)), ent P (S "_StringIO__pos") (q 2) (.int pos tp)]
noncomputable abbrev inst (C d : Addr) : Obj := ⟨.ref C, some d, .plain, #[]⟩
section
variable {M : Model} {A : Around} {E : Value → Shared → Prop} {s : Shared} {env : Env} {l : List Stmt} {st : Stmt}
/-- what comes behind a block, by a name: the steps within the block then do not carry it -/
theorem q_abs {Q : Flow → Shared → Prop} (h : ∀ Q' : Flow → Shared → Prop, Q' = Q → wpAny M A (execs (st :: l) env) Q' E s) : wpAny M A (execs (st :: l) env) Q E s := h Q rfl
theorem q_chk {Q Q' : Flow → Shared → Prop} (_ : Q = Q') (h : wpAny M A (execs (st :: l) env) Q E s) : wpAny M A (execs (st :: l) env) Q E s := h
theorem q_out {Q Q' : Flow → Shared → Prop} {f : Flow} (e : Q' = Q) (h : Q f s) : Q' f s := by rw [e]; exact h
end
theorem all_cons {α : Type _} {P : α → Prop} {a : α} {l : List α} (h1 : P a) (h2 : ∀ q, q ∈ l → P q) : ∀ q, q ∈ a :: l → P q := List.forall_mem_cons.mpr ⟨h1, h2⟩
theorem goal_abs {G : Prop} (h : ∀ P : Prop, (G → P) → P) : G := h G id
theorem tn_sub (a b : Nat) : ((a : Int) - (b : Int)).toNat = a - b := Int.toNat_sub a b
theorem tn_nat (a : Nat) : (a : Int).toNat = a := Int.toNat_natCast a
theorem tn_0 (a : Nat) : (0 + (a : Int)).toNat = a := by rw [Int.zero_add]; exact Int.toNat_natCast a
theorem four_n : ∀ n : Nat, n < 5 → 1 ≤ n → n = 1 ∨ n = 2 ∨ n = 3 ∨ n = 4 := by decide
end Mine
end
section
local macro_rules | `(tactic| k_room) => `(tactic| first | ((try simp only [PyProof.Rows.depth_under_make, PySem.W.depth_under_kw, PySem.W.depth_in1, PyProof.Rows.depth_deeper, PyProof.Rows.depth_caller]); first | decide | ((try dsimp only [PySem.W.ktrTop]); lia)) | ktr_room)
local macro_rules | `(tactic| k_units) => `(tactic| first | (have hcL9 := PyProof.Rows.cLine_is; (try simp only [PyProof.Rows.units_in1, PyProof.Rows.units_deeper, PySem.Around.mark_units, PyProof.Rows.units_caller]); (try dsimp only [PySem.W.ktrTop]); lia) | ktr_units)
local macro_rules | `(tactic| k_all) => `(tactic| assumption)
local macro_rules | `(tactic| k_ne) => `(tactic| (refine PySem.W.neN ?_; (try dsimp only); lia))
section
open PySem PySem.W PyProof.Rows
set_option Elab.async false
set_option maxRecDepth 100000
set_option maxHeartbeats 8000000
namespace Mine

theorem slice_one (buf : Str) (pos : Int) (h0 : 0 ≤ pos) (h : pos < buf.length) : Txt.slice buf (some pos) (some (pos + 1)) = ⟨#[buf.cps.getD pos.toNat 0]⟩ := by
  obtain ⟨n, rfl⟩ := Int.eq_ofNat_of_zero_le h0
  have hn : n < buf.length := by omega
  have e := StrLaws.sliceText_nat buf (a := n) (b := n + 1) (by omega) (by omega)
  have e2 : Txt.slice buf (some (n : Int)) (some ((n : Int) + 1)) = StrLaws.sliceText buf (some (n : Int)) (some ((n + 1 : Nat) : Int)) := rfl
  rw [e2, e]
  have hl : n < buf.cps.toList.length := by simpa [PySem.Str.length] using hn
  have : (buf.cps.toList.drop n).take (n + 1 - n) = [buf.cps.getD n 0] := by
    rw [Nat.add_sub_cancel_left, List.drop_eq_getElem_cons hl]
    simp [Array.getD, show n < buf.cps.size from by simpa using hl]
  rw [this]
  rfl
theorem slice_back (c : Nat) : Txt.slice ((⟨#[c]⟩ : Str) ++ PySem.Str.ofString " ") none (some (-1)) = ⟨#[c]⟩ := by
  have e : (⟨#[c]⟩ : Str) ++ PySem.Str.ofString " " = ⟨#[c, 32]⟩ := by
    rw [show PySem.Str.ofString " " = ⟨#[32]⟩ from by decide +kernel]; rfl
  rw [e]
  unfold Txt.slice
  rw [show Builtin.Str.strSliceIndices none (some (-1)) 1 (PySem.Str.length ⟨#[c, 32]⟩) = [0] from (by show Builtin.Str.strSliceIndices none (some (-1)) 1 2 = [0]; decide +kernel)]
  rfl
theorem read_some : ∀ {w : World} {dp un : Nat} {gd : Option (List Code)} {cn : Str} {cs : Scope} {a : Addr} {ccd : Value} {cl : List (Str × Addr)} {outer : List Env} {A₀ : Around} {base h₀ : Heap} {L : Addr} {m : Str → Option Value} {s : Shared} {Q E : Value → Shared → Prop} {p : Program} {loose : List Str} {mean : ExcName → Option Value} {mg mb : Str → Option Value}
   (_B : Below A₀ base outer h₀) (_F : Fr h₀ L s.heap m) (_X : (fragK.heap_1 w.params).In h₀) (_T : Top p loose mean mg mb h₀) (_hk : cs.kind = .function)
   {x dx : Addr} {rest : List (Addr × Obj)} {buf : Str} {pos : Int} {q u : Nat → Tok} {t3 tk : Tok} {ch : Str}
   (_N : News h₀ L s.heap ((dx, dictOf (ioD w.params q u buf pos t3) 3) :: (x, inst 625 dx) :: rest))
   (_hxd : x ≠ dx) (_hr : ∀ p ∈ rest, p.1 ≠ dx)
   (_hpos : 0 ≤ pos) (_hlt : pos < buf.length) (_hbl : buf.length < 1000) (_hch : (⟨#[buf.cps.getD pos.toNat 0]⟩ : Str) = ch)
   (_hd : dp + 3 < recursionLimit) (_hu : un + 24 < cLine)
   (_ret : ∀ (t t' : Tok) (h' : Heap) (tk' : Nat), Fr h₀ L h' m → News h₀ L h' ((dx, dictOf (ioD w.params q u buf (pos + 1) t') 3) :: (x, inst 625 dx) :: rest) →
      Q (.str ch t) { s with heap := h', toks := tk' }),
   wpAny (model PySem.Challenge.rw_kt0066_01.row.prog w) (ktrTop dp un gd cn cs L a ccd cl outer) (call (.ref 571) [.ref x, .int 1 tk]) Q E s := by
  k_fill
  intro w dp un gd cn cs a ccd cl outer A₀ base h₀ L m s Q E p loose mean mg mb B F X T hk x dx rest buf pos q u t3 tk ch N hxd hr hpos hlt hbl hch hd hu ret
  refine wpAny_call ?_
  (refine' code_def ?k1 ?k2 ?k3 ?k4 ?k5 ?kA ?kF ?kK ?k6 ?k7 ?k8 ?k9 ?kB ?_ ?c2 ?c3 ?c4 ?c5; (case kA => exact rfl); (case kF => exact rfl); (case kK => assumption); (case k1 => k_asm); (case k2 => k_asm); (case k3 => k_asm); (case k4 => k_asm); (case k5 => k_asm); (case k6 => k_is); (case k7 => k_is); (case k8 => ktr_room); (case k9 => first | exact BindsTo.of_eq rfl | exact binds_K (by k_in) rfl (by k_is) rfl rfl rfl); (case c5 => decide); (case kB => exact locs rfl); (case c2 => exact rfl); (case c3 => exact rfl); (case c4 => exact rfl); k_whole; intro g' L' h' FG' F' N' B' X' T'; (try dsimp only); (try k_lift B'); (try k_fold))
  k_steps
  all_goals (
    first
    | (rw [slice_one buf pos hpos hlt, slice_back, hch]; exact ret _ _ _ _ (by k_asm) (by k_asm))
    | (simp only [decide_eq_true_eq, decide_eq_false_iff_not, Bool.not_eq_true, Int.not_lt, Int.not_le] at *
       have e : pos + 1 = (buf.length : Int) := by omega
       have s1 := slice_one buf pos hpos hlt
       rw [e] at s1 ret
       rw [s1, slice_back, hch]
       exact ret _ _ _ _ (by k_asm) (by k_asm)))
theorem read_none : ∀ {w : World} {dp un : Nat} {gd : Option (List Code)} {cn : Str} {cs : Scope} {a : Addr} {ccd : Value} {cl : List (Str × Addr)} {outer : List Env} {A₀ : Around} {base h₀ : Heap} {L : Addr} {m : Str → Option Value} {s : Shared} {Q E : Value → Shared → Prop} {p : Program} {loose : List Str} {mean : ExcName → Option Value} {mg mb : Str → Option Value}
   (_B : Below A₀ base outer h₀) (_F : Fr h₀ L s.heap m) (_X : (fragK.heap_1 w.params).In h₀) (_T : Top p loose mean mg mb h₀) (_hk : cs.kind = .function)
   {x dx : Addr} {rest : List (Addr × Obj)} {buf : Str} {pos : Int} {q u : Nat → Tok} {t3 tk : Tok}
   (_N : News h₀ L s.heap ((dx, dictOf (ioD w.params q u buf pos t3) 3) :: (x, inst 625 dx) :: rest))
   (_hxd : x ≠ dx) (_hr : ∀ p ∈ rest, p.1 ≠ dx)
   (_hpos : pos = buf.length) (_hbl : buf.length < 1000)
   (_hd : dp + 3 < recursionLimit) (_hu : un + 24 < cLine)
   (_ret : ∀ (t : Tok) (h' : Heap) (tk' : Nat), Fr h₀ L h' m → News h₀ L h' ((dx, dictOf (ioD w.params q u buf pos t3) 3) :: (x, inst 625 dx) :: rest) →
      Q (.str (PySem.Str.ofString "") t) { s with heap := h', toks := tk' }),
   wpAny (model PySem.Challenge.rw_kt0066_01.row.prog w) (ktrTop dp un gd cn cs L a ccd cl outer) (call (.ref 571) [.ref x, .int 1 tk]) Q E s := by
  k_fill
  intro w dp un gd cn cs a ccd cl outer A₀ base h₀ L m s Q E p loose mean mg mb B F X T hk x dx rest buf pos q u t3 tk N hxd hr hpos hbl hd hu ret
  refine wpAny_call ?_
  (refine' code_def ?k1 ?k2 ?k3 ?k4 ?k5 ?kA ?kF ?kK ?k6 ?k7 ?k8 ?k9 ?kB ?_ ?c2 ?c3 ?c4 ?c5; (case kA => exact rfl); (case kF => exact rfl); (case kK => assumption); (case k1 => k_asm); (case k2 => k_asm); (case k3 => k_asm); (case k4 => k_asm); (case k5 => k_asm); (case k6 => k_is); (case k7 => k_is); (case k8 => ktr_room); (case k9 => first | exact BindsTo.of_eq rfl | exact binds_K (by k_in) rfl (by k_is) rfl rfl rfl); (case c5 => decide); (case kB => exact locs rfl); (case c2 => exact rfl); (case c3 => exact rfl); (case c4 => exact rfl); k_whole; intro g' L' h' FG' F' N' B' X' T'; (try dsimp only); (try k_lift B'); (try k_fold))
  k_steps
  all_goals (
    exact ret _ _ _ (by k_asm) (by k_asm))
end Mine
end
section
open PySem PySem.W PyProof.Rows
set_option Elab.async false
set_option maxRecDepth 100000
set_option maxHeartbeats 8000000
namespace Mine

abbrev dotsS (n : Nat) : Str := ⟨(List.replicate n 46).toArray⟩
noncomputable abbrev mRT (nc : Option Value) (esc : Str) (te : Tok) (qd : Bool) (l : Addr) : Str → Option Value := fun y => if y = S "nextchar" then nc else if y = S "escapedstate" then some (.str esc te) else if y = S "quoted" then some (.bool qd) else if y = S "self" then some (.ref l) else none
structure LxC where
  P : Params
  g : Heap
  L : Addr
  l : Addr
  dl : Addr
  x : Addr
  dx : Addr
  pb : Addr
  fs : Addr
  rest : List (Addr × Obj)
  k : Nat → Tok
  t : Nat → Tok
  q : Nat → Tok
  u : Nat → Tok
  buf : Str
  s₀ : Shared
noncomputable abbrev LxC.led (c : LxC) (st : Value) (tok : Str) (pos : Nat) (tt tp tl : Tok) (ln : Int) : List (Addr × Obj) :=
  (c.dx, dictOf (ioD c.P c.q c.u c.buf (pos : Int) tp) 3) :: (c.x, inst 625 c.dx) :: (c.dl, dictOf (lexD c.P c.k c.t c.x c.pb c.fs st (.str tok tt) ln tl) 19) :: (c.l, inst 760 c.dl) :: c.rest
inductive RtI (c : LxC) (st tok esc : Str) (qd : Bool) (pos : Nat) : Shared → Prop
  | mk (nc : Option Value) (te ts tt tp tl : Tok) (ln : Int) (h : Heap) (tk : Nat) (F : Fr c.g c.L h (mRT nc esc te qd c.l)) (N : News c.g c.L h (c.led (.str st ts) tok pos tt tp tl ln)) : RtI c st tok esc qd pos { c.s₀ with heap := h, toks := tk }
inductive Scan : Nat → Nat → List Nat → Option Nat → List Nat → Prop
  | ws32 {cs r rest} : Scan 0 0 cs r rest → Scan 0 0 (32 :: cs) r rest
  | ws13 {cs r rest} : Scan 0 0 cs r rest → Scan 0 0 (13 :: cs) r rest
  | ws10 {cs r rest} : Scan 0 0 cs r rest → Scan 0 0 (10 :: cs) r rest
  | fin : Scan 0 0 [] none []
  | dot {cs r rest} : Scan 1 1 cs r rest → Scan 0 0 (46 :: cs) r rest
  | quo {cs r rest} : Scan 2 0 cs r rest → Scan 0 0 (39 :: cs) r rest
  | bsl {cs r rest} : Scan 3 0 cs r rest → Scan 0 0 (92 :: cs) r rest
  | adot {n cs r rest} : Scan 1 (n + 1) cs r rest → Scan 1 n (46 :: cs) r rest
  | acr {n cs} : 0 < n → Scan 1 n (13 :: cs) (some n) cs
  | qdot {n cs r rest} : Scan 2 (n + 1) cs r rest → Scan 2 n (46 :: cs) r rest
  | qq {n cs r rest} : Scan 1 n cs r rest → Scan 2 n (39 :: cs) r rest
  | edot {n cs r rest} : Scan 1 (n + 1) cs r rest → Scan 3 n (46 :: cs) r rest
def stS : Nat → Str
  | 0 => S " "
  | 1 => S "a"
  | 2 => S "'"
  | _ => S "\\"
noncomputable def chAt (c : LxC) (pos : Nat) (ch : Nat) : Prop := pos < c.buf.length ∧ c.buf.cps.getD pos 0 = ch
theorem chAt_of {c : LxC} {pos ch : Nat} {cs : List Nat} (h : c.buf.cps.toList.drop pos = ch :: cs) : chAt c pos ch ∧ c.buf.cps.toList.drop (pos + 1) = cs := by
  have hl : pos < c.buf.cps.toList.length := by
    by_cases q : pos < c.buf.cps.toList.length
    · exact q
    · rw [List.drop_eq_nil_of_le (by lia)] at h; cases h
  rw [List.drop_eq_getElem_cons hl] at h
  have h1 := (List.cons.inj h).1
  refine ⟨⟨by simpa [PySem.Str.length] using hl, ?_⟩, (List.cons.inj h).2⟩
  have hz : pos < c.buf.cps.size := by simpa using hl
  simp only [Array.getD, hz, dite_true]
  simpa using h1
theorem dots_len (n : Nat) : (dotsS n).length = n := by simp [PySem.Str.length]
theorem dots_one : S "." = dotsS 1 := by decide +kernel
theorem dots_succ (n : Nat) : dotsS n ++ S "." = dotsS (n + 1) := by
  rw [dots_one]
  show (⟨_ ++ _⟩ : Str) = _
  congr 1
  simp [Array.replicate_succ]
noncomputable abbrev Turn (prog : Program) (w : World) (A : Around) (E : Value → Shared → Prop) (env : Env) (body : List Stmt) (c : LxC) (st tok esc : Str) (qd : Bool) (ch : Nat) (st' tok' esc' : Str) (qd' : Bool) : Prop :=
  ∀ (pos : Nat) s, chAt c pos ch → RtI c st tok esc qd pos s → ∀ R : Flow → Shared → Prop, (∀ s', RtI c st' tok' esc' qd' (pos + 1) s' → R .next s' ∧ R .cont s') → wpAny (model prog w) A (execs body env) R E s
/-- behind the reading of a sign: it stands in nextchar -/
inductive RtJ (c : LxC) (st tok esc : Str) (qd : Bool) (pos : Nat) (x : Str) : Shared → Prop
  | mk (t te ts tt tp tl : Tok) (ln : Int) (h : Heap) (tk : Nat) (F : Fr c.g c.L h (mRT (some (.str x t)) esc te qd c.l)) (N : News c.g c.L h (c.led (.str st ts) tok (pos + 1) tt tp tl ln)) : RtJ c st tok esc qd pos x { c.s₀ with heap := h, toks := tk }
noncomputable abbrev Pre (prog : Program) (w : World) (A : Around) (E : Value → Shared → Prop) (env : Env) (body body' : List Stmt) (c : LxC) : Prop :=
  ∀ (st tok esc : Str) (qd : Bool) (pos : Nat) (x : Str) s, pos < c.buf.length → (⟨#[c.buf.cps.getD pos 0]⟩ : Str) = x → (x == S "\n") = false → RtI c st tok esc qd pos s →
    ∀ R : Flow → Shared → Prop, (∀ s', RtJ c st tok esc qd pos x s' → wpAny (model prog w) A (execs body' env) R E s') → wpAny (model prog w) A (execs body env) R E s
noncomputable abbrev TurnJ (prog : Program) (w : World) (A : Around) (E : Value → Shared → Prop) (env : Env) (body' : List Stmt) (c : LxC) (st tok esc : Str) (qd : Bool) (x : Str) (st' tok' esc' : Str) (qd' : Bool) : Prop :=
  ∀ (pos : Nat) s, RtJ c st tok esc qd pos x s → ∀ R : Flow → Shared → Prop, (∀ s', RtI c st' tok' esc' qd' (pos + 1) s' → R .next s' ∧ R .cont s') → wpAny (model prog w) A (execs body' env) R E s
theorem turn_of {prog : Program} {w : World} {A : Around} {E : Value → Shared → Prop} {env : Env} {body body' : List Stmt} {c : LxC} {st tok esc : Str} {qd : Bool} {x : Str} {st' tok' esc' : Str} {qd' : Bool} {ch : Nat} (hpre : Pre prog w A E env body body' c)
    (hx : (⟨#[ch]⟩ : Str) = x) (hn : (x == S "\n") = false) (t : TurnJ prog w A E env body' c st tok esc qd x st' tok' esc' qd') : Turn prog w A E env body c st tok esc qd ch st' tok' esc' qd' :=
  fun pos s hc hI R hR => hpre _ _ _ _ pos x s hc.1 (by rw [hc.2]; exact hx) hn hI R fun s' hJ => t pos s' hJ R hR
theorem rt_main {prog : Program} {w : World} {A : Around} {E : Value → Shared → Prop} {env : Env} {test : PySem.Expr} {body body' orelse : List Stmt} {Q : Flow → Shared → Prop} {c : LxC} (hE : PassesOwn (model prog w) A env E) (hT : ∀ (R : Bool → Shared → Prop) s, R true s → wpAny (model prog w) A (isTrue test env (eval test env)) R E s) (hbl : c.buf.length < 500)
   (hpre : Pre prog w A E env body body' c)
   (t32 : ∀ esc, TurnJ prog w A E env body' c (S " ") (S "") esc false (S " ") (S " ") (S "") esc false)
   (t13 : ∀ esc, TurnJ prog w A E env body' c (S " ") (S "") esc false (S "\r") (S " ") (S "") esc false)
   (t10 : ∀ esc, Turn prog w A E env body c (S " ") (S "") esc false 10 (S " ") (S "") esc false)
   (tdot : ∀ esc, TurnJ prog w A E env body' c (S " ") (S "") esc false (S ".") (S "a") (S ".") esc false)
   (tquo : ∀ esc, TurnJ prog w A E env body' c (S " ") (S "") esc false (S "'") (S "'") (S "") esc false)
   (tbsl : ∀ esc, TurnJ prog w A E env body' c (S " ") (S "") esc false (S "\\") (S "\\") (S "") (S "a") false)
   (tadot : ∀ esc tok qd, tok.length < 500 → TurnJ prog w A E env body' c (S "a") tok esc qd (S ".") (S "a") (tok ++ S ".") esc qd)
   (tqdot : ∀ esc tok qd, tok.length < 500 → TurnJ prog w A E env body' c (S "'") tok esc qd (S ".") (S "'") (tok ++ S ".") esc true)
   (tqq : ∀ esc tok qd, TurnJ prog w A E env body' c (S "'") tok esc qd (S "'") (S "a") tok esc true)
   (tedot : ∀ tok qd, tok.length < 500 → TurnJ prog w A E env body' c (S "\\") tok (S "a") qd (S ".") (S "a") (tok ++ S ".") (S "a") qd) :
   ∀ {st n : Nat} {cs : List Nat} {r : Option Nat} {rest : List Nat}, Scan st n cs r rest → ∀ (esc : Str) (qd : Bool) (pos : Nat) (s : Shared), (st = 0 → qd = false) → (st = 3 → esc = S "a") → n ≤ pos → c.buf.cps.toList.drop pos = cs → RtI c (stS st) (dotsS n) esc qd pos s →
     (∀ esc (pos : Nat) s, r = none → rest = [] → c.buf.cps.toList.drop pos = [] → pos ≤ c.buf.length → RtI c (S " ") (S "") esc false pos s → wpAny (model prog w) A (execs body env) (WhlPost prog w A E env test body orelse Q 0) E s) →
     (∀ esc m qd (pos : Nat) s, r = some m → 0 < m → m < 500 → chAt c pos 13 → c.buf.cps.toList.drop (pos + 1) = rest → RtJ c (S "a") (dotsS m) esc qd pos (S "\r") s → wpAny (model prog w) A (execs body' env) (WhlPost prog w A E env test body orelse Q 0) E s) →
     pos ≤ c.buf.length → WhlRest prog w A E env test body orelse Q 0 s := by
  have s32 : (⟨#[32]⟩ : Str) = S " " := by decide +kernel
  have s13 : (⟨#[13]⟩ : Str) = S "\r" := by decide +kernel
  have s46 : (⟨#[46]⟩ : Str) = S "." := by decide +kernel
  have s39 : (⟨#[39]⟩ : Str) = S "'" := by decide +kernel
  have s92 : (⟨#[92]⟩ : Str) = S "\\" := by decide +kernel
  have d32 : (S " " == S "\n") = false := by decide +kernel
  have d13 : (S "\r" == S "\n") = false := by decide +kernel
  have d46 : (S "." == S "\n") = false := by decide +kernel
  have d39 : (S "'" == S "\n") = false := by decide +kernel
  have d92 : (S "\\" == S "\n") = false := by decide +kernel
  have go : ∀ (st' : Nat) (tok' esc' : Str) (qd' : Bool) (pos : Nat) (s : Shared) (st tok esc : Str) (qd : Bool) (ch : Nat), chAt c pos ch → RtI c st tok esc qd pos s →
      Turn prog w A E env body c st tok esc qd ch (stS st') tok' esc' qd' → (∀ s', RtI c (stS st') tok' esc' qd' (pos + 1) s' → WhlRest prog w A E env test body orelse Q 0 s') → WhlRest prog w A E env test body orelse Q 0 s := by
    intro st' tok' esc' qd' pos s st tok esc qd ch hc hI t k
    refine whl_turn (k := 0) hE (hT _ _ ?_)
    exact WhlIf.yes rfl (t pos s hc hI _ fun s' h' => ⟨k s' h', k s' h'⟩)
  intro st n cs r rest hs
  induction hs with
  | @ws32 cs r rest _ ih =>
    intro esc qd pos s h0 h3 hn hd hI e0 e1 hp
    obtain ⟨hc, hd'⟩ := chAt_of hd
    obtain rfl := h0 rfl
    exact go 0 _ _ _ pos s _ _ _ _ _ hc hI (turn_of hpre s32 d32 (t32 esc)) fun s' h' => ih _ _ _ _ (fun _ => rfl) (fun e => nomatch e) (Nat.zero_le _) hd' h' e0 e1 hc.1
  | @ws13 cs r rest _ ih =>
    intro esc qd pos s h0 h3 hn hd hI e0 e1 hp
    obtain ⟨hc, hd'⟩ := chAt_of hd
    obtain rfl := h0 rfl
    exact go 0 _ _ _ pos s _ _ _ _ _ hc hI (turn_of hpre s13 d13 (t13 esc)) fun s' h' => ih _ _ _ _ (fun _ => rfl) (fun e => nomatch e) (Nat.zero_le _) hd' h' e0 e1 hc.1
  | @ws10 cs r rest _ ih =>
    intro esc qd pos s h0 h3 hn hd hI e0 e1 hp
    obtain ⟨hc, hd'⟩ := chAt_of hd
    obtain rfl := h0 rfl
    exact go 0 _ _ _ pos s _ _ _ _ _ hc hI (t10 esc) fun s' h' => ih _ _ _ _ (fun _ => rfl) (fun e => nomatch e) (Nat.zero_le _) hd' h' e0 e1 hc.1
  | fin =>
    intro esc qd pos s h0 h3 hn hd hI e0 e1 hp
    obtain rfl := h0 rfl
    refine whl_turn (k := 0) hE (hT _ _ (WhlIf.yes rfl (e0 esc pos s rfl rfl hd hp hI)))
  | @dot cs r rest _ ih =>
    intro esc qd pos s h0 h3 hn hd hI e0 e1 hp
    obtain ⟨hc, hd'⟩ := chAt_of hd
    obtain rfl := h0 rfl
    exact go 1 _ _ _ pos s _ _ _ _ _ hc hI (turn_of hpre s46 d46 (tdot esc)) fun s' h' => ih _ _ _ _ (fun e => nomatch e) (fun e => nomatch e) (by lia) hd' h' e0 e1 hc.1
  | @quo cs r rest _ ih =>
    intro esc qd pos s h0 h3 hn hd hI e0 e1 hp
    obtain ⟨hc, hd'⟩ := chAt_of hd
    obtain rfl := h0 rfl
    exact go 2 _ _ _ pos s _ _ _ _ _ hc hI (turn_of hpre s39 d39 (tquo esc)) fun s' h' => ih _ _ _ _ (fun e => nomatch e) (fun e => nomatch e) (Nat.zero_le _) hd' h' e0 e1 hc.1
  | @bsl cs r rest _ ih =>
    intro esc qd pos s h0 h3 hn hd hI e0 e1 hp
    obtain ⟨hc, hd'⟩ := chAt_of hd
    obtain rfl := h0 rfl
    exact go 3 _ _ _ pos s _ _ _ _ _ hc hI (turn_of hpre s92 d92 (tbsl esc)) fun s' h' => ih _ _ _ _ (fun e => nomatch e) (fun _ => rfl) (Nat.zero_le _) hd' h' e0 e1 hc.1
  | @adot n cs r rest _ ih =>
    intro esc qd pos s h0 h3 hn hd hI e0 e1 hp
    obtain ⟨hc, hd'⟩ := chAt_of hd
    have hl := hc.1
    exact go 1 _ _ _ pos s _ _ _ _ _ hc hI (turn_of hpre s46 d46 (tadot esc (dotsS n) qd (by rw [dots_len]; lia))) fun s' h' => ih _ _ _ _ (fun e => nomatch e) (fun e => nomatch e) (by lia) hd' (by rw [dots_succ] at h'; exact h') e0 e1 hc.1
  | @acr n cs h =>
    intro esc qd pos s h0 h3 hn hd hI e0 e1 hp
    obtain ⟨hc, hd'⟩ := chAt_of hd
    have hl := hc.1
    exact whl_turn (k := 0) hE (hT _ _ (WhlIf.yes rfl (hpre _ _ _ _ pos (S "\r") s hc.1 (by rw [hc.2]; exact s13) d13 hI _ fun s' hJ => e1 esc n qd pos s' rfl h (by lia) hc hd' hJ)))
  | @qdot n cs r rest _ ih =>
    intro esc qd pos s h0 h3 hn hd hI e0 e1 hp
    obtain ⟨hc, hd'⟩ := chAt_of hd
    have hl := hc.1
    exact go 2 _ _ _ pos s _ _ _ _ _ hc hI (turn_of hpre s46 d46 (tqdot esc (dotsS n) qd (by rw [dots_len]; lia))) fun s' h' => ih _ _ _ _ (fun e => nomatch e) (fun e => nomatch e) (by lia) hd' (by rw [dots_succ] at h'; exact h') e0 e1 hc.1
  | @qq n cs r rest _ ih =>
    intro esc qd pos s h0 h3 hn hd hI e0 e1 hp
    obtain ⟨hc, hd'⟩ := chAt_of hd
    exact go 1 _ _ _ pos s _ _ _ _ _ hc hI (turn_of hpre s39 d39 (tqq esc (dotsS n) qd)) fun s' h' => ih _ _ _ _ (fun e => nomatch e) (fun e => nomatch e) (by lia) hd' h' e0 e1 hc.1
  | @edot n cs r rest _ ih =>
    intro esc qd pos s h0 h3 hn hd hI e0 e1 hp
    obtain ⟨hc, hd'⟩ := chAt_of hd
    have hl := hc.1
    obtain rfl := h3 rfl
    exact go 1 _ _ _ pos s _ _ _ _ _ hc hI (turn_of hpre s46 d46 (tedot (dotsS n) qd (by rw [dots_len]; lia))) fun s' h' => ih _ _ _ _ (fun e => nomatch e) (fun e => nomatch e) (by lia) hd' (by rw [dots_succ] at h'; exact h') e0 e1 hc.1
end Mine
end
section
open PySem PySem.W PyProof.Rows
set_option Elab.async false
set_option maxRecDepth 100000
set_option maxHeartbeats 8000000
namespace Mine

theorem news_drop {h₀ h : Heap} {L : Addr} {p : Addr × Obj} {l : List (Addr × Obj)} (N : News h₀ L h (p :: l)) : News h₀ L h l := fun q hq => N q (.tail _ hq)
noncomputable def WStop (P : Prop) : Prop := P
theorem WStop.out {P : Prop} (h : WStop P) : P := h
theorem fr_cast {g h : Heap} {L : Addr} {m m' : Str → Option Value} (F : Fr g L h m) (e : ∀ y, m y = m' y) : Fr g L h m' := (funext e : m = m') ▸ F

theorem in_dec {prog : Program} {w : World} {A : Around} {E : Value → Shared → Prop} {s : Shared} {Q : Value → Shared → Prop} {x y : Str} {u t : Tok} {b : Bool} (e : (!(Builtin.Str.occurrences x y 0 x.length 1).isEmpty) = b) (h : Q (.bool b) s) : wpAny (model prog w) A (compareOp .In (.str y u) (.str x t)) Q E s := in_str (by rw [e]; exact h)

theorem notIn_dec {prog : Program} {w : World} {A : Around} {E : Value → Shared → Prop} {s : Shared} {Q : Value → Shared → Prop} {x y : Str} {u t : Tok} {b : Bool} (e : (Builtin.Str.occurrences x y 0 x.length 1).isEmpty = b) (h : Q (.bool b) s) : wpAny (model prog w) A (compareOp .NotIn (.str y u) (.str x t)) Q E s := notIn_str (by rw [Bool.not_not, e]; exact h)
theorem sz_ok {x c : Str} (h : x.length < 500) (hc : c.length = 1) : x.length + c.length ≤ sizeLine := by rw [sizeLine_eq]; omega
theorem tr_pos {prog : Program} {w : World} {A : Around} {E : Value → Shared → Prop} {s : Shared} {x : Str} {t : Tok} {Q : Bool → Shared → Prop} (h0 : 0 < x.length) (hs : x.length < 500) (h : Q true { s with toks := s.toks + 1 + 1 }) : wpAny (model prog w) A (truthy (.str x t)) Q E s :=
  SBL.truthy (by omega) (by rw [show ((x.length : Int) != 0) = true from by simp only [bne_iff_ne]; omega]; exact h)
theorem eq_nil {prog : Program} {w : World} {A : Around} {E : Value → Shared → Prop} {s : Shared} {Q : Value → Shared → Prop} {x : Str} {u t : Tok} (h0 : 0 < x.length) (h : Q (.bool false) s) : wpAny (model prog w) A (compareOp .Eq (.str x t) (.str (S "") u)) Q E s := eq_str (by
  rw [show (x == S "") = false from ?_]
  · exact h
  · refine beq_eq_false_iff_ne.mpr fun e => ?_
    rw [e, show (S "").length = 0 from by decide +kernel] at h0
    exact absurd h0 (Nat.lt_irrefl 0))
local macro_rules | `(tactic| walk_at "compareOp Eq str str") => `(tactic| (with_reducible refine eq_nil (by assumption) ?_))
theorem eq_ne {prog : Program} {w : World} {A : Around} {E : Value → Shared → Prop} {s : Shared} {Q : Value → Shared → Prop} {x y : Str} {u t : Tok} (e : (x == y) = false) (h : Q (.bool false) s) : wpAny (model prog w) A (compareOp .Eq (.str x t) (.str y u)) Q E s := eq_str (by rw [e]; exact h)
local macro_rules | `(tactic| walk_at "compareOp Eq str str") => `(tactic| (with_reducible refine eq_ne (by assumption) ?_))

local macro_rules | `(tactic| walk_at "last exec While") => `(tactic| (refine WStop.out ?_))

local macro_rules | `(tactic| k_ne) => `(tactic| first | assumption | exact Ne.symm (by assumption))
theorem read_token_spec : ∀ {w : World} {dp un : Nat} {gd : Option (List Code)} {cn : Str} {cs : Scope} {a : Addr} {ccd : Value} {cl : List (Str × Addr)} {outer : List Env} {A₀ : Around} {base h₀ : Heap} {L : Addr} {m : Str → Option Value} {s : Shared} {Q E : Value → Shared → Prop} {p : Program} {loose : List Str} {mean : ExcName → Option Value} {mg mb : Str → Option Value}
   (_B : Below A₀ base outer h₀) (_F : Fr h₀ L s.heap m) (_X : (fragK.heap_1 w.params).In h₀) (_T : Top p loose mean mg mb h₀) (_hk : cs.kind = .function)
   {c : LxC} {pos : Nat} {ts tt tp tl : Tok} {ln : Int} {chs rest' : List Nat} {r : Option Nat}
   (_hP : c.P = w.params)
   (_N : News h₀ L s.heap (c.led (.str (S " ") ts) (S "") pos tt tp tl ln))
   (_sc : Scan 0 0 chs r rest') (_hd : c.buf.cps.toList.drop pos = chs) (_hp : pos ≤ c.buf.length) (_hbl : c.buf.length < 500)
   (_n1 : c.x ≠ c.dx) (_n2 : c.dl ≠ c.dx) (_n3 : c.l ≠ c.dx) (_n4 : c.x ≠ c.dl) (_n5 : c.l ≠ c.dl) (_r1 : ∀ p ∈ c.rest, p.1 ≠ c.dx) (_r2 : ∀ p ∈ c.rest, p.1 ≠ c.dl)
   (_hd : dp + 8 < recursionLimit) (_hu : un + 64 < cLine)
   (_ret1 : ∀ mm, r = some mm → ∀ (pos' : Nat) (t0 ts tt tp tl : Tok) (ln : Int) (h' : Heap) (tk' : Nat), c.buf.cps.toList.drop pos' = rest' → pos' ≤ c.buf.length → Fr h₀ L h' m → News h₀ L h' (c.led (.str (S " ") ts) (S "") pos' tt tp tl ln) → Q (.str (dotsS mm) t0) { s with heap := h', toks := tk' })
   (_ret0 : r = none → ∀ (pos' : Nat) (tt tp tl : Tok) (ln : Int) (h' : Heap) (tk' : Nat), pos' ≤ c.buf.length → Fr h₀ L h' m → News h₀ L h' (c.led .none (S "") pos' tt tp tl ln) → Q .none { s with heap := h', toks := tk' }),
   wpAny (model PySem.Challenge.rw_kt0066_01.row.prog w) (ktrTop dp un gd cn cs L a ccd cl outer) (call (.ref 728) [.ref c.l]) Q E s := by
  k_fill
  intro w dp un gd cn cs a ccd cl outer A₀ base h₀ L m s Q E p loose mean mg mb B F X T hk c pos ts tt tp tl ln chs rest' r hP N sc hdr hp hbl n1 n2 n3 n4 n5 r1 r2 hd hu ret1 ret0
  obtain ⟨P₀, g₀, L₀, l, dl, x, dx, pb, fs, rest, k, t, q, u, buf, s₀⟩ := c
  dsimp only at hP N hdr hp hbl n1 n2 n3 n4 n5 r1 r2 ret1 ret0 ⊢
  subst hP
  replace n1 := neN n1
  replace n2 : @Ne Nat dl dx := n2
  replace n3 : @Ne Nat l dx := n3
  replace n4 : @Ne Nat x dl := n4
  replace n5 : @Ne Nat l dl := n5
  replace n1 : @Ne Nat x dx := n1
  refine wpAny_call ?_
  (refine' code_def ?k1 ?k2 ?k3 ?k4 ?k5 ?kA ?kF ?kK ?k6 ?k7 ?k8 ?k9 ?kB ?_ ?c2 ?c3 ?c4 ?c5; (case kA => exact rfl); (case kF => exact rfl); (case kK => assumption); (case k1 => k_asm); (case k2 => k_asm); (case k3 => k_asm); (case k4 => k_asm); (case k5 => k_asm); (case k6 => k_is); (case k7 => k_is); (case k8 => ktr_room); (case k9 => first | exact BindsTo.of_eq rfl | exact binds_K (by k_in) rfl (by k_is) rfl rfl rfl); (case c5 => decide); (case kB => exact locs rfl); (case c2 => exact rfl); (case c3 => exact rfl); (case c4 => exact rfl); k_whole; intro g' L' h' FG' F' N' B' X' T'; (try dsimp only); (try k_lift B'); (try k_fold))
  repeat' (first | (k_unfold; (try dsimp only)) | (k_end; kc_close) | (with_reducible ((with_reducible show wpAny _ _ (call (Value.ref _) _) _ _ _); (k_here; first | k_dflt ((fail_if_success (fail_if_success (refine' read_some ?_ ?_ ?_ ?_ ?_ ?_ ?_ ?_ ?_ ?_ ?_ ?_ ?_ ?_ ?_))); refine read_some (by k_asm) (by k_asm) (by k_asm) (by k_asm) (by first | exact rfl | assumption) (by k_asm) (by k_ne) (by k_all) (by ((try dsimp only); lia)) (by first | assumption | ((try dsimp only); lia)) (by ((try dsimp only); lia)) (by assumption) (by ktr_room) (by ktr_units) ?_; k_whole; intro _ _ _ _ _ _; (try dsimp only); (try k_sweep)) | k_dflt ((fail_if_success (fail_if_success (refine' read_none ?_ ?_ ?_ ?_ ?_ ?_ ?_ ?_ ?_ ?_ ?_ ?_ ?_))); refine read_none (by k_asm) (by k_asm) (by k_asm) (by k_asm) (by first | exact rfl | assumption) (by k_asm) (by k_ne) (by k_all) (by ((try dsimp only); lia)) (by ((try dsimp only); lia)) (by ktr_room) (by ktr_units) ?_; k_whole; intro _ _ _ _ _; (try dsimp only); (try k_sweep))))) | (with_reducible ((with_reducible show PySem.wpAny _ _ (PySem.truthy (PySem.Value.str _ _)) _ _ _); refine tr_pos (by assumption) (by assumption) ?_)) | (with_reducible ((with_reducible show wpAny _ _ (inplaceOp Operator.Add (Value.str _ _) (Value.str _ _)) _ _ _); ((fail_if_success (fail_if_success (refine' iadd_str (hsz := ?_) ?_))); refine iadd_str (hsz := (by exact sz_ok (by assumption) (by decide +kernel))) ?_; intro _ _))) | (with_reducible ((with_reducible show wpAny _ _ (compareOp CmpOp.NotIn (Value.str _ _) (Value.str _ _)) _ _ _); (first | refine notIn_dec (b := true) (by decide +kernel) ?_ | refine notIn_dec (b := false) (by decide +kernel) ?_))) | (with_reducible ((with_reducible show wpAny _ _ (compareOp CmpOp.In (Value.str _ _) (Value.str _ _)) _ _ _); (first | refine in_dec (b := true) (by decide +kernel) ?_ | refine in_dec (b := false) (by decide +kernel) ?_))) | walk1 | (dsimp only; first | (with_reducible ((with_reducible show wpAny _ _ (call (Value.ref _) _) _ _ _); (k_here; first | k_dflt ((fail_if_success (fail_if_success (refine' read_some ?_ ?_ ?_ ?_ ?_ ?_ ?_ ?_ ?_ ?_ ?_ ?_ ?_ ?_ ?_))); refine read_some (by k_asm) (by k_asm) (by k_asm) (by k_asm) (by first | exact rfl | assumption) (by k_asm) (by k_ne) (by k_all) (by ((try dsimp only); lia)) (by first | assumption | ((try dsimp only); lia)) (by ((try dsimp only); lia)) (by assumption) (by ktr_room) (by ktr_units) ?_; k_whole; intro _ _ _ _ _ _; (try dsimp only); (try k_sweep)) | k_dflt ((fail_if_success (fail_if_success (refine' read_none ?_ ?_ ?_ ?_ ?_ ?_ ?_ ?_ ?_ ?_ ?_ ?_ ?_))); refine read_none (by k_asm) (by k_asm) (by k_asm) (by k_asm) (by first | exact rfl | assumption) (by k_asm) (by k_ne) (by k_all) (by ((try dsimp only); lia)) (by ((try dsimp only); lia)) (by ktr_room) (by ktr_units) ?_; k_whole; intro _ _ _ _ _; (try dsimp only); (try k_sweep))))) | (with_reducible ((with_reducible show PySem.wpAny _ _ (PySem.truthy (PySem.Value.str _ _)) _ _ _); refine tr_pos (by assumption) (by assumption) ?_)) | (with_reducible ((with_reducible show wpAny _ _ (inplaceOp Operator.Add (Value.str _ _) (Value.str _ _)) _ _ _); ((fail_if_success (fail_if_success (refine' iadd_str (hsz := ?_) ?_))); refine iadd_str (hsz := (by exact sz_ok (by assumption) (by decide +kernel))) ?_; intro _ _))) | (with_reducible ((with_reducible show wpAny _ _ (compareOp CmpOp.NotIn (Value.str _ _) (Value.str _ _)) _ _ _); (first | refine notIn_dec (b := true) (by decide +kernel) ?_ | refine notIn_dec (b := false) (by decide +kernel) ?_))) | (with_reducible ((with_reducible show wpAny _ _ (compareOp CmpOp.In (Value.str _ _) (Value.str _ _)) _ _ _); (first | refine in_dec (b := true) (by decide +kernel) ?_ | refine in_dec (b := false) (by decide +kernel) ?_))) | walk1) | (leave1; (try dsimp only)))

  unfold WStop
  refine whl_start 0 ?_
  refine' rt_main (c := ⟨w.params, g', L', l, dl, x, dx, pb, fs, rest, k, t, q, u, buf, s⟩) ?hE ?hT hbl ?hpre ?t32 ?t13 ?t10 ?tdot ?tquo ?tbsl ?tadot ?tqdot ?tqq ?tedot sc (S " ") false pos _ (fun _ => rfl) (fun e => nomatch e) (Nat.zero_le _) hdr (RtI.mk none _ _ _ _ _ _ _ _ (fr_cast (by k_asm) (fun y => by
        show (if y = S "escapedstate" then _ else if y = S "quoted" then _ else List.lookup y [(S "self", Value.ref l)]) = _
        by_cases h1 : y = S "nextchar"
        · subst h1; rfl
        · by_cases h2 : y = S "escapedstate"
          · subst h2; rfl
          · by_cases h3 : y = S "quoted"
            · subst h3; rfl
            · by_cases h4 : y = S "self"
              · subst h4; rfl
              · simp only [if_neg h1, if_neg h2, if_neg h3, if_neg h4, List.lookup, beq_eq_false_iff_ne.mpr h4])) (by k_asm)) ?e0 ?e1 hp
  case hE => first | passes_own | with_unfolding_all passes_own
  case hT => (intro R s hR; k_steps; all_goals exact hR)
  case hpre =>
    intro st tok esc qd pos cx s hp1 hx hne hI R hR
    cases hI with
    | mk nc te ts tt tp tl ln h tk F N =>
    dsimp only [LxC.led] at F N hp1 hx ⊢
    have hpl : ((pos : Int)) < buf.length := by exact_mod_cast hp1
    have hch : (⟨#[buf.cps.getD (pos : Int).toNat 0]⟩ : Str) = cx := by
      rw [Int.toNat_natCast]; exact hx
    repeat ((fail_if_success (with_reducible show wpAny _ _ (execs (Stmt.If (Expr.Compare (Expr.Attribute _ _ _) [CmpOp.Eq] _ _) _ _ _ :: _) _) _ _ _)); first | ((with_reducible refine q_out (by assumption) ?_); (try dsimp only)) | ((fail_if_success (with_reducible refine q_chk (by assumption) ?_)); (with_reducible refine q_abs ?_); intro _ _) | (k_unfold; (try dsimp only)) | (k_end; wrow_close) | (with_reducible ((with_reducible show wpAny _ _ (call (Value.ref _) _) _ _ _); (k_here; first | k_dflt ((fail_if_success (fail_if_success (refine' read_some ?_ ?_ ?_ ?_ ?_ ?_ ?_ ?_ ?_ ?_ ?_ ?_ ?_ ?_ ?_))); refine read_some (by k_asm) (by k_asm) (by k_asm) (by k_asm) (by first | exact rfl | assumption) (by k_asm) (by k_ne) (by k_all) (by ((try dsimp only); lia)) (by first | assumption | ((try dsimp only); lia)) (by ((try dsimp only); lia)) (by assumption) (by ktr_room) (by ktr_units) ?_; k_whole; intro _ _ _ _ _ _; (try dsimp only); (try k_sweep)) | k_dflt ((fail_if_success (fail_if_success (refine' read_none ?_ ?_ ?_ ?_ ?_ ?_ ?_ ?_ ?_ ?_ ?_ ?_ ?_))); refine read_none (by k_asm) (by k_asm) (by k_asm) (by k_asm) (by first | exact rfl | assumption) (by k_asm) (by k_ne) (by k_all) (by ((try dsimp only); lia)) (by ((try dsimp only); lia)) (by ktr_room) (by ktr_units) ?_; k_whole; intro _ _ _ _ _; (try dsimp only); (try k_sweep))))) | (with_reducible ((with_reducible show PySem.wpAny _ _ (PySem.truthy (PySem.Value.str _ _)) _ _ _); refine tr_pos (by assumption) (by assumption) ?_)) | (with_reducible ((with_reducible show wpAny _ _ (inplaceOp Operator.Add (Value.str _ _) (Value.str _ _)) _ _ _); ((fail_if_success (fail_if_success (refine' iadd_str (hsz := ?_) ?_))); refine iadd_str (hsz := (by exact sz_ok (by assumption) (by decide +kernel))) ?_; intro _ _))) | (with_reducible ((with_reducible show wpAny _ _ (compareOp CmpOp.NotIn (Value.str _ _) (Value.str _ _)) _ _ _); (first | refine notIn_dec (b := true) (by decide +kernel) ?_ | refine notIn_dec (b := false) (by decide +kernel) ?_))) | (with_reducible ((with_reducible show wpAny _ _ (compareOp CmpOp.In (Value.str _ _) (Value.str _ _)) _ _ _); (first | refine in_dec (b := true) (by decide +kernel) ?_ | refine in_dec (b := false) (by decide +kernel) ?_))) | walk1)
    (refine' wpAny_mono (hR _ (RtJ.mk _ _ _ _ _ _ _ _ _ (fr_cast ?rf ?re) ?rn)) (fun f s' hf => ?fq) (fun _ _ e => e))
    case fq => cases f <;> (repeat (first | exact hf | (with_reducible refine q_out (by assumption) ?_) | refine wpAny_execs_nil ?_ | dsimp only))
    case rn => first | k_asm | (refine' news_drop ?rx; (case rx => k_asm)) | (refine' news_drop (news_drop ?rx); (case rx => k_asm))
    case rf => k_asm
    case re => exact (fun y => by
        by_cases h1 : y = S "nextchar"
        · subst h1; rfl
        · by_cases h2 : y = S "escapedstate"
          · subst h2; rfl
          · by_cases h3 : y = S "quoted"
            · subst h3; rfl
            · by_cases h4 : y = S "self"
              · subst h4; rfl
              · simp only [if_neg h1, if_neg h2, if_neg h3, if_neg h4])
  case t32 =>
    intro esc pos s hJ R hR
    cases hJ with
    | mk tn te ts tt tp tl ln h tk F N =>
    dsimp only [LxC.led] at F N ⊢
    repeat' (first | ((with_reducible refine q_out (by assumption) ?_); (try dsimp only)) | ((fail_if_success (with_reducible refine q_chk (by assumption) ?_)); (with_reducible refine q_abs ?_); intro _ _) | (k_unfold; (try dsimp only)) | (k_end; wrow_close) | (with_reducible ((with_reducible show wpAny _ _ (call (Value.ref _) _) _ _ _); (k_here; first | k_dflt ((fail_if_success (fail_if_success (refine' read_some ?_ ?_ ?_ ?_ ?_ ?_ ?_ ?_ ?_ ?_ ?_ ?_ ?_ ?_ ?_))); refine read_some (by k_asm) (by k_asm) (by k_asm) (by k_asm) (by first | exact rfl | assumption) (by k_asm) (by k_ne) (by k_all) (by ((try dsimp only); lia)) (by first | assumption | ((try dsimp only); lia)) (by ((try dsimp only); lia)) (by assumption) (by ktr_room) (by ktr_units) ?_; k_whole; intro _ _ _ _ _ _; (try dsimp only); (try k_sweep)) | k_dflt ((fail_if_success (fail_if_success (refine' read_none ?_ ?_ ?_ ?_ ?_ ?_ ?_ ?_ ?_ ?_ ?_ ?_ ?_))); refine read_none (by k_asm) (by k_asm) (by k_asm) (by k_asm) (by first | exact rfl | assumption) (by k_asm) (by k_ne) (by k_all) (by ((try dsimp only); lia)) (by ((try dsimp only); lia)) (by ktr_room) (by ktr_units) ?_; k_whole; intro _ _ _ _ _; (try dsimp only); (try k_sweep))))) | (with_reducible ((with_reducible show PySem.wpAny _ _ (PySem.truthy (PySem.Value.str _ _)) _ _ _); refine tr_pos (by assumption) (by assumption) ?_)) | (with_reducible ((with_reducible show wpAny _ _ (inplaceOp Operator.Add (Value.str _ _) (Value.str _ _)) _ _ _); ((fail_if_success (fail_if_success (refine' iadd_str (hsz := ?_) ?_))); refine iadd_str (hsz := (by exact sz_ok (by assumption) (by decide +kernel))) ?_; intro _ _))) | (with_reducible ((with_reducible show wpAny _ _ (compareOp CmpOp.NotIn (Value.str _ _) (Value.str _ _)) _ _ _); (first | refine notIn_dec (b := true) (by decide +kernel) ?_ | refine notIn_dec (b := false) (by decide +kernel) ?_))) | (with_reducible ((with_reducible show wpAny _ _ (compareOp CmpOp.In (Value.str _ _) (Value.str _ _)) _ _ _); (first | refine in_dec (b := true) (by decide +kernel) ?_ | refine in_dec (b := false) (by decide +kernel) ?_))) | walk1)
    all_goals first
      | (refine' And.left (hR _ ?_); refine' RtI.mk _ _ _ _ _ _ _ _ _ (fr_cast ?rf ?re) ?rn; (case rn => first | k_asm | (refine' news_drop ?rx; (case rx => k_asm)) | (refine' news_drop (news_drop ?rx); (case rx => k_asm))); (case rf => k_asm); (case re => exact (fun y => by
        by_cases h1 : y = S "nextchar"
        · subst h1; rfl
        · by_cases h2 : y = S "escapedstate"
          · subst h2; rfl
          · by_cases h3 : y = S "quoted"
            · subst h3; rfl
            · by_cases h4 : y = S "self"
              · subst h4; rfl
              · simp only [if_neg h1, if_neg h2, if_neg h3, if_neg h4])))
      | (refine' And.right (hR _ ?_); refine' RtI.mk _ _ _ _ _ _ _ _ _ (fr_cast ?rf ?re) ?rn; (case rn => first | k_asm | (refine' news_drop ?rx; (case rx => k_asm)) | (refine' news_drop (news_drop ?rx); (case rx => k_asm))); (case rf => k_asm); (case re => exact (fun y => by
        by_cases h1 : y = S "nextchar"
        · subst h1; rfl
        · by_cases h2 : y = S "escapedstate"
          · subst h2; rfl
          · by_cases h3 : y = S "quoted"
            · subst h3; rfl
            · by_cases h4 : y = S "self"
              · subst h4; rfl
              · simp only [if_neg h1, if_neg h2, if_neg h3, if_neg h4])))
  case t13 =>
    intro esc pos s hJ R hR
    cases hJ with
    | mk tn te ts tt tp tl ln h tk F N =>
    dsimp only [LxC.led] at F N ⊢
    repeat' (first | ((with_reducible refine q_out (by assumption) ?_); (try dsimp only)) | ((fail_if_success (with_reducible refine q_chk (by assumption) ?_)); (with_reducible refine q_abs ?_); intro _ _) | (k_unfold; (try dsimp only)) | (k_end; wrow_close) | (with_reducible ((with_reducible show wpAny _ _ (call (Value.ref _) _) _ _ _); (k_here; first | k_dflt ((fail_if_success (fail_if_success (refine' read_some ?_ ?_ ?_ ?_ ?_ ?_ ?_ ?_ ?_ ?_ ?_ ?_ ?_ ?_ ?_))); refine read_some (by k_asm) (by k_asm) (by k_asm) (by k_asm) (by first | exact rfl | assumption) (by k_asm) (by k_ne) (by k_all) (by ((try dsimp only); lia)) (by first | assumption | ((try dsimp only); lia)) (by ((try dsimp only); lia)) (by assumption) (by ktr_room) (by ktr_units) ?_; k_whole; intro _ _ _ _ _ _; (try dsimp only); (try k_sweep)) | k_dflt ((fail_if_success (fail_if_success (refine' read_none ?_ ?_ ?_ ?_ ?_ ?_ ?_ ?_ ?_ ?_ ?_ ?_ ?_))); refine read_none (by k_asm) (by k_asm) (by k_asm) (by k_asm) (by first | exact rfl | assumption) (by k_asm) (by k_ne) (by k_all) (by ((try dsimp only); lia)) (by ((try dsimp only); lia)) (by ktr_room) (by ktr_units) ?_; k_whole; intro _ _ _ _ _; (try dsimp only); (try k_sweep))))) | (with_reducible ((with_reducible show PySem.wpAny _ _ (PySem.truthy (PySem.Value.str _ _)) _ _ _); refine tr_pos (by assumption) (by assumption) ?_)) | (with_reducible ((with_reducible show wpAny _ _ (inplaceOp Operator.Add (Value.str _ _) (Value.str _ _)) _ _ _); ((fail_if_success (fail_if_success (refine' iadd_str (hsz := ?_) ?_))); refine iadd_str (hsz := (by exact sz_ok (by assumption) (by decide +kernel))) ?_; intro _ _))) | (with_reducible ((with_reducible show wpAny _ _ (compareOp CmpOp.NotIn (Value.str _ _) (Value.str _ _)) _ _ _); (first | refine notIn_dec (b := true) (by decide +kernel) ?_ | refine notIn_dec (b := false) (by decide +kernel) ?_))) | (with_reducible ((with_reducible show wpAny _ _ (compareOp CmpOp.In (Value.str _ _) (Value.str _ _)) _ _ _); (first | refine in_dec (b := true) (by decide +kernel) ?_ | refine in_dec (b := false) (by decide +kernel) ?_))) | walk1)
    all_goals first
      | (refine' And.left (hR _ ?_); refine' RtI.mk _ _ _ _ _ _ _ _ _ (fr_cast ?rf ?re) ?rn; (case rn => first | k_asm | (refine' news_drop ?rx; (case rx => k_asm)) | (refine' news_drop (news_drop ?rx); (case rx => k_asm))); (case rf => k_asm); (case re => exact (fun y => by
        by_cases h1 : y = S "nextchar"
        · subst h1; rfl
        · by_cases h2 : y = S "escapedstate"
          · subst h2; rfl
          · by_cases h3 : y = S "quoted"
            · subst h3; rfl
            · by_cases h4 : y = S "self"
              · subst h4; rfl
              · simp only [if_neg h1, if_neg h2, if_neg h3, if_neg h4])))
      | (refine' And.right (hR _ ?_); refine' RtI.mk _ _ _ _ _ _ _ _ _ (fr_cast ?rf ?re) ?rn; (case rn => first | k_asm | (refine' news_drop ?rx; (case rx => k_asm)) | (refine' news_drop (news_drop ?rx); (case rx => k_asm))); (case rf => k_asm); (case re => exact (fun y => by
        by_cases h1 : y = S "nextchar"
        · subst h1; rfl
        · by_cases h2 : y = S "escapedstate"
          · subst h2; rfl
          · by_cases h3 : y = S "quoted"
            · subst h3; rfl
            · by_cases h4 : y = S "self"
              · subst h4; rfl
              · simp only [if_neg h1, if_neg h2, if_neg h3, if_neg h4])))
  case t10 =>
    intro esc pos s hc hI R hR
    obtain ⟨hc1, hc2⟩ := hc
    cases hI with
    | mk nc te ts tt tp tl ln h tk F N =>
    dsimp only [LxC.led] at F N hc1 hc2 ⊢
    have hpl : ((pos : Int)) < buf.length := by exact_mod_cast hc1
    have hch : (⟨#[buf.cps.getD (pos : Int).toNat 0]⟩ : Str) = S "\n" := by
      rw [Int.toNat_natCast, hc2]; decide +kernel
    repeat' (first | ((with_reducible refine q_out (by assumption) ?_); (try dsimp only)) | ((fail_if_success (with_reducible refine q_chk (by assumption) ?_)); (with_reducible refine q_abs ?_); intro _ _) | (k_unfold; (try dsimp only)) | (k_end; wrow_close) | (with_reducible ((with_reducible show wpAny _ _ (call (Value.ref _) _) _ _ _); (k_here; first | k_dflt ((fail_if_success (fail_if_success (refine' read_some ?_ ?_ ?_ ?_ ?_ ?_ ?_ ?_ ?_ ?_ ?_ ?_ ?_ ?_ ?_))); refine read_some (by k_asm) (by k_asm) (by k_asm) (by k_asm) (by first | exact rfl | assumption) (by k_asm) (by k_ne) (by k_all) (by ((try dsimp only); lia)) (by first | assumption | ((try dsimp only); lia)) (by ((try dsimp only); lia)) (by assumption) (by ktr_room) (by ktr_units) ?_; k_whole; intro _ _ _ _ _ _; (try dsimp only); (try k_sweep)) | k_dflt ((fail_if_success (fail_if_success (refine' read_none ?_ ?_ ?_ ?_ ?_ ?_ ?_ ?_ ?_ ?_ ?_ ?_ ?_))); refine read_none (by k_asm) (by k_asm) (by k_asm) (by k_asm) (by first | exact rfl | assumption) (by k_asm) (by k_ne) (by k_all) (by ((try dsimp only); lia)) (by ((try dsimp only); lia)) (by ktr_room) (by ktr_units) ?_; k_whole; intro _ _ _ _ _; (try dsimp only); (try k_sweep))))) | (with_reducible ((with_reducible show PySem.wpAny _ _ (PySem.truthy (PySem.Value.str _ _)) _ _ _); refine tr_pos (by assumption) (by assumption) ?_)) | (with_reducible ((with_reducible show wpAny _ _ (inplaceOp Operator.Add (Value.str _ _) (Value.str _ _)) _ _ _); ((fail_if_success (fail_if_success (refine' iadd_str (hsz := ?_) ?_))); refine iadd_str (hsz := (by exact sz_ok (by assumption) (by decide +kernel))) ?_; intro _ _))) | (with_reducible ((with_reducible show wpAny _ _ (compareOp CmpOp.NotIn (Value.str _ _) (Value.str _ _)) _ _ _); (first | refine notIn_dec (b := true) (by decide +kernel) ?_ | refine notIn_dec (b := false) (by decide +kernel) ?_))) | (with_reducible ((with_reducible show wpAny _ _ (compareOp CmpOp.In (Value.str _ _) (Value.str _ _)) _ _ _); (first | refine in_dec (b := true) (by decide +kernel) ?_ | refine in_dec (b := false) (by decide +kernel) ?_))) | walk1)
    all_goals first
      | (refine' And.left (hR _ ?_); refine' RtI.mk _ _ _ _ _ _ _ _ _ (fr_cast ?rf ?re) ?rn; (case rn => first | k_asm | (refine' news_drop ?rx; (case rx => k_asm)) | (refine' news_drop (news_drop ?rx); (case rx => k_asm))); (case rf => k_asm); (case re => exact (fun y => by
        by_cases h1 : y = S "nextchar"
        · subst h1; rfl
        · by_cases h2 : y = S "escapedstate"
          · subst h2; rfl
          · by_cases h3 : y = S "quoted"
            · subst h3; rfl
            · by_cases h4 : y = S "self"
              · subst h4; rfl
              · simp only [if_neg h1, if_neg h2, if_neg h3, if_neg h4])))
      | (refine' And.right (hR _ ?_); refine' RtI.mk _ _ _ _ _ _ _ _ _ (fr_cast ?rf ?re) ?rn; (case rn => first | k_asm | (refine' news_drop ?rx; (case rx => k_asm)) | (refine' news_drop (news_drop ?rx); (case rx => k_asm))); (case rf => k_asm); (case re => exact (fun y => by
        by_cases h1 : y = S "nextchar"
        · subst h1; rfl
        · by_cases h2 : y = S "escapedstate"
          · subst h2; rfl
          · by_cases h3 : y = S "quoted"
            · subst h3; rfl
            · by_cases h4 : y = S "self"
              · subst h4; rfl
              · simp only [if_neg h1, if_neg h2, if_neg h3, if_neg h4])))
  case tdot =>
    intro esc pos s hJ R hR
    cases hJ with
    | mk tn te ts tt tp tl ln h tk F N =>
    dsimp only [LxC.led] at F N ⊢
    repeat' (first | ((with_reducible refine q_out (by assumption) ?_); (try dsimp only)) | ((fail_if_success (with_reducible refine q_chk (by assumption) ?_)); (with_reducible refine q_abs ?_); intro _ _) | (k_unfold; (try dsimp only)) | (k_end; wrow_close) | (with_reducible ((with_reducible show wpAny _ _ (call (Value.ref _) _) _ _ _); (k_here; first | k_dflt ((fail_if_success (fail_if_success (refine' read_some ?_ ?_ ?_ ?_ ?_ ?_ ?_ ?_ ?_ ?_ ?_ ?_ ?_ ?_ ?_))); refine read_some (by k_asm) (by k_asm) (by k_asm) (by k_asm) (by first | exact rfl | assumption) (by k_asm) (by k_ne) (by k_all) (by ((try dsimp only); lia)) (by first | assumption | ((try dsimp only); lia)) (by ((try dsimp only); lia)) (by assumption) (by ktr_room) (by ktr_units) ?_; k_whole; intro _ _ _ _ _ _; (try dsimp only); (try k_sweep)) | k_dflt ((fail_if_success (fail_if_success (refine' read_none ?_ ?_ ?_ ?_ ?_ ?_ ?_ ?_ ?_ ?_ ?_ ?_ ?_))); refine read_none (by k_asm) (by k_asm) (by k_asm) (by k_asm) (by first | exact rfl | assumption) (by k_asm) (by k_ne) (by k_all) (by ((try dsimp only); lia)) (by ((try dsimp only); lia)) (by ktr_room) (by ktr_units) ?_; k_whole; intro _ _ _ _ _; (try dsimp only); (try k_sweep))))) | (with_reducible ((with_reducible show PySem.wpAny _ _ (PySem.truthy (PySem.Value.str _ _)) _ _ _); refine tr_pos (by assumption) (by assumption) ?_)) | (with_reducible ((with_reducible show wpAny _ _ (inplaceOp Operator.Add (Value.str _ _) (Value.str _ _)) _ _ _); ((fail_if_success (fail_if_success (refine' iadd_str (hsz := ?_) ?_))); refine iadd_str (hsz := (by exact sz_ok (by assumption) (by decide +kernel))) ?_; intro _ _))) | (with_reducible ((with_reducible show wpAny _ _ (compareOp CmpOp.NotIn (Value.str _ _) (Value.str _ _)) _ _ _); (first | refine notIn_dec (b := true) (by decide +kernel) ?_ | refine notIn_dec (b := false) (by decide +kernel) ?_))) | (with_reducible ((with_reducible show wpAny _ _ (compareOp CmpOp.In (Value.str _ _) (Value.str _ _)) _ _ _); (first | refine in_dec (b := true) (by decide +kernel) ?_ | refine in_dec (b := false) (by decide +kernel) ?_))) | walk1)
    all_goals first
      | (refine' And.left (hR _ ?_); refine' RtI.mk _ _ _ _ _ _ _ _ _ (fr_cast ?rf ?re) ?rn; (case rn => first | k_asm | (refine' news_drop ?rx; (case rx => k_asm)) | (refine' news_drop (news_drop ?rx); (case rx => k_asm))); (case rf => k_asm); (case re => exact (fun y => by
        by_cases h1 : y = S "nextchar"
        · subst h1; rfl
        · by_cases h2 : y = S "escapedstate"
          · subst h2; rfl
          · by_cases h3 : y = S "quoted"
            · subst h3; rfl
            · by_cases h4 : y = S "self"
              · subst h4; rfl
              · simp only [if_neg h1, if_neg h2, if_neg h3, if_neg h4])))
      | (refine' And.right (hR _ ?_); refine' RtI.mk _ _ _ _ _ _ _ _ _ (fr_cast ?rf ?re) ?rn; (case rn => first | k_asm | (refine' news_drop ?rx; (case rx => k_asm)) | (refine' news_drop (news_drop ?rx); (case rx => k_asm))); (case rf => k_asm); (case re => exact (fun y => by
        by_cases h1 : y = S "nextchar"
        · subst h1; rfl
        · by_cases h2 : y = S "escapedstate"
          · subst h2; rfl
          · by_cases h3 : y = S "quoted"
            · subst h3; rfl
            · by_cases h4 : y = S "self"
              · subst h4; rfl
              · simp only [if_neg h1, if_neg h2, if_neg h3, if_neg h4])))
  case tquo =>
    intro esc pos s hJ R hR
    cases hJ with
    | mk tn te ts tt tp tl ln h tk F N =>
    dsimp only [LxC.led] at F N ⊢
    repeat' (first | ((with_reducible refine q_out (by assumption) ?_); (try dsimp only)) | ((fail_if_success (with_reducible refine q_chk (by assumption) ?_)); (with_reducible refine q_abs ?_); intro _ _) | (k_unfold; (try dsimp only)) | (k_end; wrow_close) | (with_reducible ((with_reducible show wpAny _ _ (call (Value.ref _) _) _ _ _); (k_here; first | k_dflt ((fail_if_success (fail_if_success (refine' read_some ?_ ?_ ?_ ?_ ?_ ?_ ?_ ?_ ?_ ?_ ?_ ?_ ?_ ?_ ?_))); refine read_some (by k_asm) (by k_asm) (by k_asm) (by k_asm) (by first | exact rfl | assumption) (by k_asm) (by k_ne) (by k_all) (by ((try dsimp only); lia)) (by first | assumption | ((try dsimp only); lia)) (by ((try dsimp only); lia)) (by assumption) (by ktr_room) (by ktr_units) ?_; k_whole; intro _ _ _ _ _ _; (try dsimp only); (try k_sweep)) | k_dflt ((fail_if_success (fail_if_success (refine' read_none ?_ ?_ ?_ ?_ ?_ ?_ ?_ ?_ ?_ ?_ ?_ ?_ ?_))); refine read_none (by k_asm) (by k_asm) (by k_asm) (by k_asm) (by first | exact rfl | assumption) (by k_asm) (by k_ne) (by k_all) (by ((try dsimp only); lia)) (by ((try dsimp only); lia)) (by ktr_room) (by ktr_units) ?_; k_whole; intro _ _ _ _ _; (try dsimp only); (try k_sweep))))) | (with_reducible ((with_reducible show PySem.wpAny _ _ (PySem.truthy (PySem.Value.str _ _)) _ _ _); refine tr_pos (by assumption) (by assumption) ?_)) | (with_reducible ((with_reducible show wpAny _ _ (inplaceOp Operator.Add (Value.str _ _) (Value.str _ _)) _ _ _); ((fail_if_success (fail_if_success (refine' iadd_str (hsz := ?_) ?_))); refine iadd_str (hsz := (by exact sz_ok (by assumption) (by decide +kernel))) ?_; intro _ _))) | (with_reducible ((with_reducible show wpAny _ _ (compareOp CmpOp.NotIn (Value.str _ _) (Value.str _ _)) _ _ _); (first | refine notIn_dec (b := true) (by decide +kernel) ?_ | refine notIn_dec (b := false) (by decide +kernel) ?_))) | (with_reducible ((with_reducible show wpAny _ _ (compareOp CmpOp.In (Value.str _ _) (Value.str _ _)) _ _ _); (first | refine in_dec (b := true) (by decide +kernel) ?_ | refine in_dec (b := false) (by decide +kernel) ?_))) | walk1)
    all_goals first
      | (refine' And.left (hR _ ?_); refine' RtI.mk _ _ _ _ _ _ _ _ _ (fr_cast ?rf ?re) ?rn; (case rn => first | k_asm | (refine' news_drop ?rx; (case rx => k_asm)) | (refine' news_drop (news_drop ?rx); (case rx => k_asm))); (case rf => k_asm); (case re => exact (fun y => by
        by_cases h1 : y = S "nextchar"
        · subst h1; rfl
        · by_cases h2 : y = S "escapedstate"
          · subst h2; rfl
          · by_cases h3 : y = S "quoted"
            · subst h3; rfl
            · by_cases h4 : y = S "self"
              · subst h4; rfl
              · simp only [if_neg h1, if_neg h2, if_neg h3, if_neg h4])))
      | (refine' And.right (hR _ ?_); refine' RtI.mk _ _ _ _ _ _ _ _ _ (fr_cast ?rf ?re) ?rn; (case rn => first | k_asm | (refine' news_drop ?rx; (case rx => k_asm)) | (refine' news_drop (news_drop ?rx); (case rx => k_asm))); (case rf => k_asm); (case re => exact (fun y => by
        by_cases h1 : y = S "nextchar"
        · subst h1; rfl
        · by_cases h2 : y = S "escapedstate"
          · subst h2; rfl
          · by_cases h3 : y = S "quoted"
            · subst h3; rfl
            · by_cases h4 : y = S "self"
              · subst h4; rfl
              · simp only [if_neg h1, if_neg h2, if_neg h3, if_neg h4])))
  case tbsl =>
    intro esc pos s hJ R hR
    cases hJ with
    | mk tn te ts tt tp tl ln h tk F N =>
    dsimp only [LxC.led] at F N ⊢
    repeat' (first | ((with_reducible refine q_out (by assumption) ?_); (try dsimp only)) | ((fail_if_success (with_reducible refine q_chk (by assumption) ?_)); (with_reducible refine q_abs ?_); intro _ _) | (k_unfold; (try dsimp only)) | (k_end; wrow_close) | (with_reducible ((with_reducible show wpAny _ _ (call (Value.ref _) _) _ _ _); (k_here; first | k_dflt ((fail_if_success (fail_if_success (refine' read_some ?_ ?_ ?_ ?_ ?_ ?_ ?_ ?_ ?_ ?_ ?_ ?_ ?_ ?_ ?_))); refine read_some (by k_asm) (by k_asm) (by k_asm) (by k_asm) (by first | exact rfl | assumption) (by k_asm) (by k_ne) (by k_all) (by ((try dsimp only); lia)) (by first | assumption | ((try dsimp only); lia)) (by ((try dsimp only); lia)) (by assumption) (by ktr_room) (by ktr_units) ?_; k_whole; intro _ _ _ _ _ _; (try dsimp only); (try k_sweep)) | k_dflt ((fail_if_success (fail_if_success (refine' read_none ?_ ?_ ?_ ?_ ?_ ?_ ?_ ?_ ?_ ?_ ?_ ?_ ?_))); refine read_none (by k_asm) (by k_asm) (by k_asm) (by k_asm) (by first | exact rfl | assumption) (by k_asm) (by k_ne) (by k_all) (by ((try dsimp only); lia)) (by ((try dsimp only); lia)) (by ktr_room) (by ktr_units) ?_; k_whole; intro _ _ _ _ _; (try dsimp only); (try k_sweep))))) | (with_reducible ((with_reducible show PySem.wpAny _ _ (PySem.truthy (PySem.Value.str _ _)) _ _ _); refine tr_pos (by assumption) (by assumption) ?_)) | (with_reducible ((with_reducible show wpAny _ _ (inplaceOp Operator.Add (Value.str _ _) (Value.str _ _)) _ _ _); ((fail_if_success (fail_if_success (refine' iadd_str (hsz := ?_) ?_))); refine iadd_str (hsz := (by exact sz_ok (by assumption) (by decide +kernel))) ?_; intro _ _))) | (with_reducible ((with_reducible show wpAny _ _ (compareOp CmpOp.NotIn (Value.str _ _) (Value.str _ _)) _ _ _); (first | refine notIn_dec (b := true) (by decide +kernel) ?_ | refine notIn_dec (b := false) (by decide +kernel) ?_))) | (with_reducible ((with_reducible show wpAny _ _ (compareOp CmpOp.In (Value.str _ _) (Value.str _ _)) _ _ _); (first | refine in_dec (b := true) (by decide +kernel) ?_ | refine in_dec (b := false) (by decide +kernel) ?_))) | walk1)
    all_goals first
      | (refine' And.left (hR _ ?_); refine' RtI.mk _ _ _ _ _ _ _ _ _ (fr_cast ?rf ?re) ?rn; (case rn => first | k_asm | (refine' news_drop ?rx; (case rx => k_asm)) | (refine' news_drop (news_drop ?rx); (case rx => k_asm))); (case rf => k_asm); (case re => exact (fun y => by
        by_cases h1 : y = S "nextchar"
        · subst h1; rfl
        · by_cases h2 : y = S "escapedstate"
          · subst h2; rfl
          · by_cases h3 : y = S "quoted"
            · subst h3; rfl
            · by_cases h4 : y = S "self"
              · subst h4; rfl
              · simp only [if_neg h1, if_neg h2, if_neg h3, if_neg h4])))
      | (refine' And.right (hR _ ?_); refine' RtI.mk _ _ _ _ _ _ _ _ _ (fr_cast ?rf ?re) ?rn; (case rn => first | k_asm | (refine' news_drop ?rx; (case rx => k_asm)) | (refine' news_drop (news_drop ?rx); (case rx => k_asm))); (case rf => k_asm); (case re => exact (fun y => by
        by_cases h1 : y = S "nextchar"
        · subst h1; rfl
        · by_cases h2 : y = S "escapedstate"
          · subst h2; rfl
          · by_cases h3 : y = S "quoted"
            · subst h3; rfl
            · by_cases h4 : y = S "self"
              · subst h4; rfl
              · simp only [if_neg h1, if_neg h2, if_neg h3, if_neg h4])))
  case tadot =>
    intro esc tok qd hlen pos s hJ R hR
    cases hJ with
    | mk tn te ts tt tp tl ln h tk F N =>
    dsimp only [LxC.led] at F N ⊢
    repeat' (first | ((with_reducible refine q_out (by assumption) ?_); (try dsimp only)) | ((fail_if_success (with_reducible refine q_chk (by assumption) ?_)); (with_reducible refine q_abs ?_); intro _ _) | (k_unfold; (try dsimp only)) | (k_end; wrow_close) | (with_reducible ((with_reducible show wpAny _ _ (call (Value.ref _) _) _ _ _); (k_here; first | k_dflt ((fail_if_success (fail_if_success (refine' read_some ?_ ?_ ?_ ?_ ?_ ?_ ?_ ?_ ?_ ?_ ?_ ?_ ?_ ?_ ?_))); refine read_some (by k_asm) (by k_asm) (by k_asm) (by k_asm) (by first | exact rfl | assumption) (by k_asm) (by k_ne) (by k_all) (by ((try dsimp only); lia)) (by first | assumption | ((try dsimp only); lia)) (by ((try dsimp only); lia)) (by assumption) (by ktr_room) (by ktr_units) ?_; k_whole; intro _ _ _ _ _ _; (try dsimp only); (try k_sweep)) | k_dflt ((fail_if_success (fail_if_success (refine' read_none ?_ ?_ ?_ ?_ ?_ ?_ ?_ ?_ ?_ ?_ ?_ ?_ ?_))); refine read_none (by k_asm) (by k_asm) (by k_asm) (by k_asm) (by first | exact rfl | assumption) (by k_asm) (by k_ne) (by k_all) (by ((try dsimp only); lia)) (by ((try dsimp only); lia)) (by ktr_room) (by ktr_units) ?_; k_whole; intro _ _ _ _ _; (try dsimp only); (try k_sweep))))) | (with_reducible ((with_reducible show PySem.wpAny _ _ (PySem.truthy (PySem.Value.str _ _)) _ _ _); refine tr_pos (by assumption) (by assumption) ?_)) | (with_reducible ((with_reducible show wpAny _ _ (inplaceOp Operator.Add (Value.str _ _) (Value.str _ _)) _ _ _); ((fail_if_success (fail_if_success (refine' iadd_str (hsz := ?_) ?_))); refine iadd_str (hsz := (by exact sz_ok (by assumption) (by decide +kernel))) ?_; intro _ _))) | (with_reducible ((with_reducible show wpAny _ _ (compareOp CmpOp.NotIn (Value.str _ _) (Value.str _ _)) _ _ _); (first | refine notIn_dec (b := true) (by decide +kernel) ?_ | refine notIn_dec (b := false) (by decide +kernel) ?_))) | (with_reducible ((with_reducible show wpAny _ _ (compareOp CmpOp.In (Value.str _ _) (Value.str _ _)) _ _ _); (first | refine in_dec (b := true) (by decide +kernel) ?_ | refine in_dec (b := false) (by decide +kernel) ?_))) | walk1)
    all_goals first
      | (refine' And.left (hR _ ?_); refine' RtI.mk _ _ _ _ _ _ _ _ _ (fr_cast ?rf ?re) ?rn; (case rn => first | k_asm | (refine' news_drop ?rx; (case rx => k_asm)) | (refine' news_drop (news_drop ?rx); (case rx => k_asm))); (case rf => k_asm); (case re => exact (fun y => by
        by_cases h1 : y = S "nextchar"
        · subst h1; rfl
        · by_cases h2 : y = S "escapedstate"
          · subst h2; rfl
          · by_cases h3 : y = S "quoted"
            · subst h3; rfl
            · by_cases h4 : y = S "self"
              · subst h4; rfl
              · simp only [if_neg h1, if_neg h2, if_neg h3, if_neg h4])))
      | (refine' And.right (hR _ ?_); refine' RtI.mk _ _ _ _ _ _ _ _ _ (fr_cast ?rf ?re) ?rn; (case rn => first | k_asm | (refine' news_drop ?rx; (case rx => k_asm)) | (refine' news_drop (news_drop ?rx); (case rx => k_asm))); (case rf => k_asm); (case re => exact (fun y => by
        by_cases h1 : y = S "nextchar"
        · subst h1; rfl
        · by_cases h2 : y = S "escapedstate"
          · subst h2; rfl
          · by_cases h3 : y = S "quoted"
            · subst h3; rfl
            · by_cases h4 : y = S "self"
              · subst h4; rfl
              · simp only [if_neg h1, if_neg h2, if_neg h3, if_neg h4])))
  case tqdot =>
    intro esc tok qd hlen pos s hJ R hR
    cases hJ with
    | mk tn te ts tt tp tl ln h tk F N =>
    dsimp only [LxC.led] at F N ⊢
    repeat' (first | ((with_reducible refine q_out (by assumption) ?_); (try dsimp only)) | ((fail_if_success (with_reducible refine q_chk (by assumption) ?_)); (with_reducible refine q_abs ?_); intro _ _) | (k_unfold; (try dsimp only)) | (k_end; wrow_close) | (with_reducible ((with_reducible show wpAny _ _ (call (Value.ref _) _) _ _ _); (k_here; first | k_dflt ((fail_if_success (fail_if_success (refine' read_some ?_ ?_ ?_ ?_ ?_ ?_ ?_ ?_ ?_ ?_ ?_ ?_ ?_ ?_ ?_))); refine read_some (by k_asm) (by k_asm) (by k_asm) (by k_asm) (by first | exact rfl | assumption) (by k_asm) (by k_ne) (by k_all) (by ((try dsimp only); lia)) (by first | assumption | ((try dsimp only); lia)) (by ((try dsimp only); lia)) (by assumption) (by ktr_room) (by ktr_units) ?_; k_whole; intro _ _ _ _ _ _; (try dsimp only); (try k_sweep)) | k_dflt ((fail_if_success (fail_if_success (refine' read_none ?_ ?_ ?_ ?_ ?_ ?_ ?_ ?_ ?_ ?_ ?_ ?_ ?_))); refine read_none (by k_asm) (by k_asm) (by k_asm) (by k_asm) (by first | exact rfl | assumption) (by k_asm) (by k_ne) (by k_all) (by ((try dsimp only); lia)) (by ((try dsimp only); lia)) (by ktr_room) (by ktr_units) ?_; k_whole; intro _ _ _ _ _; (try dsimp only); (try k_sweep))))) | (with_reducible ((with_reducible show PySem.wpAny _ _ (PySem.truthy (PySem.Value.str _ _)) _ _ _); refine tr_pos (by assumption) (by assumption) ?_)) | (with_reducible ((with_reducible show wpAny _ _ (inplaceOp Operator.Add (Value.str _ _) (Value.str _ _)) _ _ _); ((fail_if_success (fail_if_success (refine' iadd_str (hsz := ?_) ?_))); refine iadd_str (hsz := (by exact sz_ok (by assumption) (by decide +kernel))) ?_; intro _ _))) | (with_reducible ((with_reducible show wpAny _ _ (compareOp CmpOp.NotIn (Value.str _ _) (Value.str _ _)) _ _ _); (first | refine notIn_dec (b := true) (by decide +kernel) ?_ | refine notIn_dec (b := false) (by decide +kernel) ?_))) | (with_reducible ((with_reducible show wpAny _ _ (compareOp CmpOp.In (Value.str _ _) (Value.str _ _)) _ _ _); (first | refine in_dec (b := true) (by decide +kernel) ?_ | refine in_dec (b := false) (by decide +kernel) ?_))) | walk1)
    all_goals first
      | (refine' And.left (hR _ ?_); refine' RtI.mk _ _ _ _ _ _ _ _ _ (fr_cast ?rf ?re) ?rn; (case rn => first | k_asm | (refine' news_drop ?rx; (case rx => k_asm)) | (refine' news_drop (news_drop ?rx); (case rx => k_asm))); (case rf => k_asm); (case re => exact (fun y => by
        by_cases h1 : y = S "nextchar"
        · subst h1; rfl
        · by_cases h2 : y = S "escapedstate"
          · subst h2; rfl
          · by_cases h3 : y = S "quoted"
            · subst h3; rfl
            · by_cases h4 : y = S "self"
              · subst h4; rfl
              · simp only [if_neg h1, if_neg h2, if_neg h3, if_neg h4])))
      | (refine' And.right (hR _ ?_); refine' RtI.mk _ _ _ _ _ _ _ _ _ (fr_cast ?rf ?re) ?rn; (case rn => first | k_asm | (refine' news_drop ?rx; (case rx => k_asm)) | (refine' news_drop (news_drop ?rx); (case rx => k_asm))); (case rf => k_asm); (case re => exact (fun y => by
        by_cases h1 : y = S "nextchar"
        · subst h1; rfl
        · by_cases h2 : y = S "escapedstate"
          · subst h2; rfl
          · by_cases h3 : y = S "quoted"
            · subst h3; rfl
            · by_cases h4 : y = S "self"
              · subst h4; rfl
              · simp only [if_neg h1, if_neg h2, if_neg h3, if_neg h4])))
  case tqq =>
    intro esc tok qd pos s hJ R hR
    cases hJ with
    | mk tn te ts tt tp tl ln h tk F N =>
    dsimp only [LxC.led] at F N ⊢
    repeat' (first | ((with_reducible refine q_out (by assumption) ?_); (try dsimp only)) | ((fail_if_success (with_reducible refine q_chk (by assumption) ?_)); (with_reducible refine q_abs ?_); intro _ _) | (k_unfold; (try dsimp only)) | (k_end; wrow_close) | (with_reducible ((with_reducible show wpAny _ _ (call (Value.ref _) _) _ _ _); (k_here; first | k_dflt ((fail_if_success (fail_if_success (refine' read_some ?_ ?_ ?_ ?_ ?_ ?_ ?_ ?_ ?_ ?_ ?_ ?_ ?_ ?_ ?_))); refine read_some (by k_asm) (by k_asm) (by k_asm) (by k_asm) (by first | exact rfl | assumption) (by k_asm) (by k_ne) (by k_all) (by ((try dsimp only); lia)) (by first | assumption | ((try dsimp only); lia)) (by ((try dsimp only); lia)) (by assumption) (by ktr_room) (by ktr_units) ?_; k_whole; intro _ _ _ _ _ _; (try dsimp only); (try k_sweep)) | k_dflt ((fail_if_success (fail_if_success (refine' read_none ?_ ?_ ?_ ?_ ?_ ?_ ?_ ?_ ?_ ?_ ?_ ?_ ?_))); refine read_none (by k_asm) (by k_asm) (by k_asm) (by k_asm) (by first | exact rfl | assumption) (by k_asm) (by k_ne) (by k_all) (by ((try dsimp only); lia)) (by ((try dsimp only); lia)) (by ktr_room) (by ktr_units) ?_; k_whole; intro _ _ _ _ _; (try dsimp only); (try k_sweep))))) | (with_reducible ((with_reducible show PySem.wpAny _ _ (PySem.truthy (PySem.Value.str _ _)) _ _ _); refine tr_pos (by assumption) (by assumption) ?_)) | (with_reducible ((with_reducible show wpAny _ _ (inplaceOp Operator.Add (Value.str _ _) (Value.str _ _)) _ _ _); ((fail_if_success (fail_if_success (refine' iadd_str (hsz := ?_) ?_))); refine iadd_str (hsz := (by exact sz_ok (by assumption) (by decide +kernel))) ?_; intro _ _))) | (with_reducible ((with_reducible show wpAny _ _ (compareOp CmpOp.NotIn (Value.str _ _) (Value.str _ _)) _ _ _); (first | refine notIn_dec (b := true) (by decide +kernel) ?_ | refine notIn_dec (b := false) (by decide +kernel) ?_))) | (with_reducible ((with_reducible show wpAny _ _ (compareOp CmpOp.In (Value.str _ _) (Value.str _ _)) _ _ _); (first | refine in_dec (b := true) (by decide +kernel) ?_ | refine in_dec (b := false) (by decide +kernel) ?_))) | walk1)
    all_goals first
      | (refine' And.left (hR _ ?_); refine' RtI.mk _ _ _ _ _ _ _ _ _ (fr_cast ?rf ?re) ?rn; (case rn => first | k_asm | (refine' news_drop ?rx; (case rx => k_asm)) | (refine' news_drop (news_drop ?rx); (case rx => k_asm))); (case rf => k_asm); (case re => exact (fun y => by
        by_cases h1 : y = S "nextchar"
        · subst h1; rfl
        · by_cases h2 : y = S "escapedstate"
          · subst h2; rfl
          · by_cases h3 : y = S "quoted"
            · subst h3; rfl
            · by_cases h4 : y = S "self"
              · subst h4; rfl
              · simp only [if_neg h1, if_neg h2, if_neg h3, if_neg h4])))
      | (refine' And.right (hR _ ?_); refine' RtI.mk _ _ _ _ _ _ _ _ _ (fr_cast ?rf ?re) ?rn; (case rn => first | k_asm | (refine' news_drop ?rx; (case rx => k_asm)) | (refine' news_drop (news_drop ?rx); (case rx => k_asm))); (case rf => k_asm); (case re => exact (fun y => by
        by_cases h1 : y = S "nextchar"
        · subst h1; rfl
        · by_cases h2 : y = S "escapedstate"
          · subst h2; rfl
          · by_cases h3 : y = S "quoted"
            · subst h3; rfl
            · by_cases h4 : y = S "self"
              · subst h4; rfl
              · simp only [if_neg h1, if_neg h2, if_neg h3, if_neg h4])))
  case tedot =>
    intro tok qd hlen pos s hJ R hR
    cases hJ with
    | mk tn te ts tt tp tl ln h tk F N =>
    dsimp only [LxC.led] at F N ⊢
    repeat' (first | ((with_reducible refine q_out (by assumption) ?_); (try dsimp only)) | ((fail_if_success (with_reducible refine q_chk (by assumption) ?_)); (with_reducible refine q_abs ?_); intro _ _) | (k_unfold; (try dsimp only)) | (k_end; wrow_close) | (with_reducible ((with_reducible show wpAny _ _ (call (Value.ref _) _) _ _ _); (k_here; first | k_dflt ((fail_if_success (fail_if_success (refine' read_some ?_ ?_ ?_ ?_ ?_ ?_ ?_ ?_ ?_ ?_ ?_ ?_ ?_ ?_ ?_))); refine read_some (by k_asm) (by k_asm) (by k_asm) (by k_asm) (by first | exact rfl | assumption) (by k_asm) (by k_ne) (by k_all) (by ((try dsimp only); lia)) (by first | assumption | ((try dsimp only); lia)) (by ((try dsimp only); lia)) (by assumption) (by ktr_room) (by ktr_units) ?_; k_whole; intro _ _ _ _ _ _; (try dsimp only); (try k_sweep)) | k_dflt ((fail_if_success (fail_if_success (refine' read_none ?_ ?_ ?_ ?_ ?_ ?_ ?_ ?_ ?_ ?_ ?_ ?_ ?_))); refine read_none (by k_asm) (by k_asm) (by k_asm) (by k_asm) (by first | exact rfl | assumption) (by k_asm) (by k_ne) (by k_all) (by ((try dsimp only); lia)) (by ((try dsimp only); lia)) (by ktr_room) (by ktr_units) ?_; k_whole; intro _ _ _ _ _; (try dsimp only); (try k_sweep))))) | (with_reducible ((with_reducible show PySem.wpAny _ _ (PySem.truthy (PySem.Value.str _ _)) _ _ _); refine tr_pos (by assumption) (by assumption) ?_)) | (with_reducible ((with_reducible show wpAny _ _ (inplaceOp Operator.Add (Value.str _ _) (Value.str _ _)) _ _ _); ((fail_if_success (fail_if_success (refine' iadd_str (hsz := ?_) ?_))); refine iadd_str (hsz := (by exact sz_ok (by assumption) (by decide +kernel))) ?_; intro _ _))) | (with_reducible ((with_reducible show wpAny _ _ (compareOp CmpOp.NotIn (Value.str _ _) (Value.str _ _)) _ _ _); (first | refine notIn_dec (b := true) (by decide +kernel) ?_ | refine notIn_dec (b := false) (by decide +kernel) ?_))) | (with_reducible ((with_reducible show wpAny _ _ (compareOp CmpOp.In (Value.str _ _) (Value.str _ _)) _ _ _); (first | refine in_dec (b := true) (by decide +kernel) ?_ | refine in_dec (b := false) (by decide +kernel) ?_))) | walk1)
    all_goals first
      | (refine' And.left (hR _ ?_); refine' RtI.mk _ _ _ _ _ _ _ _ _ (fr_cast ?rf ?re) ?rn; (case rn => first | k_asm | (refine' news_drop ?rx; (case rx => k_asm)) | (refine' news_drop (news_drop ?rx); (case rx => k_asm))); (case rf => k_asm); (case re => exact (fun y => by
        by_cases h1 : y = S "nextchar"
        · subst h1; rfl
        · by_cases h2 : y = S "escapedstate"
          · subst h2; rfl
          · by_cases h3 : y = S "quoted"
            · subst h3; rfl
            · by_cases h4 : y = S "self"
              · subst h4; rfl
              · simp only [if_neg h1, if_neg h2, if_neg h3, if_neg h4])))
      | (refine' And.right (hR _ ?_); refine' RtI.mk _ _ _ _ _ _ _ _ _ (fr_cast ?rf ?re) ?rn; (case rn => first | k_asm | (refine' news_drop ?rx; (case rx => k_asm)) | (refine' news_drop (news_drop ?rx); (case rx => k_asm))); (case rf => k_asm); (case re => exact (fun y => by
        by_cases h1 : y = S "nextchar"
        · subst h1; rfl
        · by_cases h2 : y = S "escapedstate"
          · subst h2; rfl
          · by_cases h3 : y = S "quoted"
            · subst h3; rfl
            · by_cases h4 : y = S "self"
              · subst h4; rfl
              · simp only [if_neg h1, if_neg h2, if_neg h3, if_neg h4])))
  case e0 =>
    intro esc pos s hr hrest hdrop hple hI
    cases hI with
    | mk nc te ts tt tp tl ln h tk F N =>
    dsimp only [LxC.led] at F N hdrop hple ⊢
    have hpe : (pos : Int) = buf.length := by
      have h1 : buf.cps.toList.length ≤ pos := List.drop_eq_nil_iff.mp hdrop
      have h2 : buf.cps.toList.length = buf.length := by simp [PySem.Str.length]
      have h3 : pos ≤ buf.length := hple
      omega
    repeat' (first | ((with_reducible refine q_out (by assumption) ?_); (try dsimp only)) | ((fail_if_success (with_reducible refine q_chk (by assumption) ?_)); (with_reducible refine q_abs ?_); intro _ _) | (k_unfold; (try dsimp only)) | (k_end; wrow_close) | (with_reducible ((with_reducible show wpAny _ _ (call (Value.ref _) _) _ _ _); (k_here; first | k_dflt ((fail_if_success (fail_if_success (refine' read_some ?_ ?_ ?_ ?_ ?_ ?_ ?_ ?_ ?_ ?_ ?_ ?_ ?_ ?_ ?_))); refine read_some (by k_asm) (by k_asm) (by k_asm) (by k_asm) (by first | exact rfl | assumption) (by k_asm) (by k_ne) (by k_all) (by ((try dsimp only); lia)) (by first | assumption | ((try dsimp only); lia)) (by ((try dsimp only); lia)) (by assumption) (by ktr_room) (by ktr_units) ?_; k_whole; intro _ _ _ _ _ _; (try dsimp only); (try k_sweep)) | k_dflt ((fail_if_success (fail_if_success (refine' read_none ?_ ?_ ?_ ?_ ?_ ?_ ?_ ?_ ?_ ?_ ?_ ?_ ?_))); refine read_none (by k_asm) (by k_asm) (by k_asm) (by k_asm) (by first | exact rfl | assumption) (by k_asm) (by k_ne) (by k_all) (by ((try dsimp only); lia)) (by ((try dsimp only); lia)) (by ktr_room) (by ktr_units) ?_; k_whole; intro _ _ _ _ _; (try dsimp only); (try k_sweep))))) | (with_reducible ((with_reducible show PySem.wpAny _ _ (PySem.truthy (PySem.Value.str _ _)) _ _ _); refine tr_pos (by assumption) (by assumption) ?_)) | (with_reducible ((with_reducible show wpAny _ _ (inplaceOp Operator.Add (Value.str _ _) (Value.str _ _)) _ _ _); ((fail_if_success (fail_if_success (refine' iadd_str (hsz := ?_) ?_))); refine iadd_str (hsz := (by exact sz_ok (by assumption) (by decide +kernel))) ?_; intro _ _))) | (with_reducible ((with_reducible show wpAny _ _ (compareOp CmpOp.NotIn (Value.str _ _) (Value.str _ _)) _ _ _); (first | refine notIn_dec (b := true) (by decide +kernel) ?_ | refine notIn_dec (b := false) (by decide +kernel) ?_))) | (with_reducible ((with_reducible show wpAny _ _ (compareOp CmpOp.In (Value.str _ _) (Value.str _ _)) _ _ _); (first | refine in_dec (b := true) (by decide +kernel) ?_ | refine in_dec (b := false) (by decide +kernel) ?_))) | walk1)
    all_goals (refine' ret0 hr _ _ _ _ _ _ _ hple ?rf ?rn; (case rn => first | k_asm | (refine' news_drop ?rx; (case rx => k_asm)) | (refine' news_drop (news_drop ?rx); (case rx => k_asm))); (case rf => k_asm))
  case e1 =>
    intro esc mm qd pos s hr hm hm5 hc hdrop hJ
    obtain ⟨hc1, hc2⟩ := hc
    cases hJ with
    | mk tn te ts tt tp tl ln h tk F N =>
    dsimp only [LxC.led] at F N hc1 ⊢
    have hml : 0 < (dotsS mm).length := by rw [dots_len]; exact hm
    have hml2 : (dotsS mm).length < 500 := by rw [dots_len]; exact hm5
    repeat' (first | ((with_reducible refine q_out (by assumption) ?_); (try dsimp only)) | ((fail_if_success (with_reducible refine q_chk (by assumption) ?_)); (with_reducible refine q_abs ?_); intro _ _) | (k_unfold; (try dsimp only)) | (k_end; wrow_close) | (with_reducible ((with_reducible show wpAny _ _ (call (Value.ref _) _) _ _ _); (k_here; first | k_dflt ((fail_if_success (fail_if_success (refine' read_some ?_ ?_ ?_ ?_ ?_ ?_ ?_ ?_ ?_ ?_ ?_ ?_ ?_ ?_ ?_))); refine read_some (by k_asm) (by k_asm) (by k_asm) (by k_asm) (by first | exact rfl | assumption) (by k_asm) (by k_ne) (by k_all) (by ((try dsimp only); lia)) (by first | assumption | ((try dsimp only); lia)) (by ((try dsimp only); lia)) (by assumption) (by ktr_room) (by ktr_units) ?_; k_whole; intro _ _ _ _ _ _; (try dsimp only); (try k_sweep)) | k_dflt ((fail_if_success (fail_if_success (refine' read_none ?_ ?_ ?_ ?_ ?_ ?_ ?_ ?_ ?_ ?_ ?_ ?_ ?_))); refine read_none (by k_asm) (by k_asm) (by k_asm) (by k_asm) (by first | exact rfl | assumption) (by k_asm) (by k_ne) (by k_all) (by ((try dsimp only); lia)) (by ((try dsimp only); lia)) (by ktr_room) (by ktr_units) ?_; k_whole; intro _ _ _ _ _; (try dsimp only); (try k_sweep))))) | (with_reducible ((with_reducible show PySem.wpAny _ _ (PySem.truthy (PySem.Value.str _ _)) _ _ _); refine tr_pos (by assumption) (by assumption) ?_)) | (with_reducible ((with_reducible show wpAny _ _ (inplaceOp Operator.Add (Value.str _ _) (Value.str _ _)) _ _ _); ((fail_if_success (fail_if_success (refine' iadd_str (hsz := ?_) ?_))); refine iadd_str (hsz := (by exact sz_ok (by assumption) (by decide +kernel))) ?_; intro _ _))) | (with_reducible ((with_reducible show wpAny _ _ (compareOp CmpOp.NotIn (Value.str _ _) (Value.str _ _)) _ _ _); (first | refine notIn_dec (b := true) (by decide +kernel) ?_ | refine notIn_dec (b := false) (by decide +kernel) ?_))) | (with_reducible ((with_reducible show wpAny _ _ (compareOp CmpOp.In (Value.str _ _) (Value.str _ _)) _ _ _); (first | refine in_dec (b := true) (by decide +kernel) ?_ | refine in_dec (b := false) (by decide +kernel) ?_))) | walk1)
    all_goals (refine' ret1 mm hr (pos + 1) _ _ _ _ _ _ _ _ hdrop hc1 ?rf ?rn; (case rn => first | k_asm | (refine' news_drop ?rx; (case rx => k_asm)) | (refine' news_drop (news_drop ?rx); (case rx => k_asm))); (case rf => k_asm))
end Mine
end
section
open PySem PySem.W PySem.W.X PyProof.Rows
set_option Elab.async false
set_option maxRecDepth 100000
set_option maxHeartbeats 8000000
namespace Mine
noncomputable abbrev dqObj : Obj := { cls := .type "collections.deque", data := .fields { toList := [.none, .int 0 0] } }
theorem noBool_dq : typeLookup (.type "collections.deque") "__bool__" = pure none := by rw [typeLookup_type, builtinLookup_eq_fast]; kernel_rfl
theorem slot_dq_len : Slot "collections.deque" "__len__" "collections.deque.__len__" :=
  .of (owner := "collections.deque") (n := "__len__") (by rw [typeLookup_type, builtinLookup_eq_fast]; kernel_rfl) (by decide +kernel) (by decide +kernel) (by decide +kernel)
    (by first | exact .inl (by decide +kernel) | exact .inr (by decide +kernel)) (by rw [isSubtype_type]; kernel_rfl)
section
open PySem.Calls
theorem entry_dq_len : entryFor table "collections.deque.__len__" = some Builtin.«collections.deque.__len__» := entryFor_of_tree (by kernel_rfl)
theorem args_dq_len (a : Value) : argsOk "collections.deque.__len__" ⟨[a], []⟩ := by unfold argsOk; kernel_rfl
end
section
variable {prog : Program} {w : World} {A : Around} {E : Value → Shared → Prop} {s : Shared}
theorem typeIs_dq {a : Addr} (ho : s.heap.get? a = some dqObj) : s.TypeIs (.ref a) "collections.deque" := ⟨_, ho, rfl⟩
theorem truthy_dq {a : Addr} {Q : Bool → Shared → Prop} (ho : s.heap.get? a = some dqObj) (h : Q false { s with toks := s.toks + 1 + 1 }) : wpAny (model prog w) A (truthy (.ref a)) Q E s := by
  have hT := typeIs_dq ho
  have body : wpAny (model prog w) (A.under (.builtin "len" ⟨[.ref a], []⟩)) (Builtin.«len» ⟨[.ref a], []⟩) (fun fin s' => ∃ r, fin = .done (.ret r) ∧ (r = .int 0 (s.toks + 1) ∧ Q false s')) E s := by
    unfold Builtin.«len»
    refine wpAny_bind (m := oneArg "len" _) (wpAny_pure ?_)
    refine wpAny_bind (m := callSpecial? (.ref a) (PySem.Str.ofString "__len__")) (wpAny_callSpecial?_slot (name := PySem.Str.ofString "__len__") hT slot_dq_len
      (wpAny_call_entry slot_dq_len hT entry_dq_len ?_ (args_dq_len _)))
    · show wpAny _ _ (do retInt (← (do return (← fieldsOf (.ref a)).size - 2))) _ _ s
      unfold fieldsOf
      refine wpAny_bind (wpAny_bind (wpAny_bind (wpAny_load ho ?_)))
      refine wpAny_pure (wpAny_pure (wpAny_bind (wpAny_mkInt (wpAny_pure ⟨_, rfl, ?_⟩))))
      refine wpAny_bind (wpAny_holding (wpAny_pure ?_))
      refine wpAny_bind (wpAny_letGo ?_)
      show wpAny _ _ (if ((0 : Nat) : Int) < 0 then _ else _) _ _ _
      rw [if_neg (by omega)]
      show wpAny _ _ (if ((0 : Nat) : Int) ≥ 2 ^ 63 then _ else _) _ _ _
      rw [if_neg (by omega)]
      exact wpAny_bind (wpAny_mkInt (wpAny_pure ⟨_, rfl, rfl, h⟩))
  have key : wpAny (model prog w) A (runValue (.builtin "len" ⟨[.ref a], []⟩)) (fun r s' => r = .int 0 (s.toks + 1) ∧ Q false s') E s := by
    refine wpAny_runValue (codeAny_builtin entry_len ?_)
    exact wpAny_mono body (fun fin s' h' => by obtain ⟨r, rfl, hq⟩ := h'; exact hq) fun _ _ e => e
  unfold truthy
  first
    | refine wpAny_bind (wpAny_callSpecial?_none (name := PySem.Str.ofString "__bool__") hT noBool_dq ?_)
    | refine wpAny_bind (wpAny_pure (wpAny_bind (wpAny_callSpecial?_none (name := PySem.Str.ofString "__bool__") hT noBool_dq ?_)))
  first
    | refine wpAny_bind (wpAny_specialOf (name := PySem.Str.ofString "__len__") hT slot_dq_len.lookup ?_)
    | refine wpAny_bind (wpAny_pure (wpAny_bind (wpAny_specialOf (name := PySem.Str.ofString "__len__") hT slot_dq_len.lookup ?_)))
  first
    | exact wpAny_bind (wpAny_mono key (fun r s' h' => by obtain ⟨rfl, hq⟩ := h'; exact wpAny_pure hq) fun _ _ e => e)
    | exact wpAny_bind (wpAny_pure (wpAny_bind (wpAny_mono key (fun r s' h' => by obtain ⟨rfl, hq⟩ := h'; exact wpAny_pure hq) fun _ _ e => e)))
end
end Mine
end
section
open PySem PySem.W PyProof.Rows
set_option Elab.async false
set_option maxRecDepth 100000
set_option maxHeartbeats 8000000
namespace Mine

theorem truthy_dqN {prog : Program} {w : World} {A : Around} {E : Value → Shared → Prop} {s : Shared} {h₀ : Heap} {L a : Addr} {news : List (Addr × Obj)} {Q : Bool → Shared → Prop} (N : News h₀ L s.heap news) (hm : (a, dqObj) ∈ news) (h : Q false { s with toks := s.toks + 1 + 1 }) : wpAny (model prog w) A (truthy (.ref a)) Q E s := truthy_dq (N _ hm).1 h
theorem get_token_spec : ∀ {w : World} {dp un : Nat} {gd : Option (List Code)} {cn : Str} {cs : Scope} {a : Addr} {ccd : Value} {cl : List (Str × Addr)} {outer : List Env} {A₀ : Around} {base h₀ : Heap} {L : Addr} {m : Str → Option Value} {s : Shared} {Q E : Value → Shared → Prop} {p : Program} {loose : List Str} {mean : ExcName → Option Value} {mg mb : Str → Option Value}
   (_B : Below A₀ base outer h₀) (_F : Fr h₀ L s.heap m) (_X : (fragK.heap_1 w.params).In h₀) (_T : Top p loose mean mg mb h₀) (_hk : cs.kind = .function)
   {c : LxC} {rest0 : List (Addr × Obj)} {pos : Nat} {ts tt tp tl : Tok} {ln : Int} {chs rest' : List Nat} {r : Option Nat}
   (_hP : c.P = w.params) (_hR : c.rest = (c.pb, dqObj) :: (c.fs, dqObj) :: rest0)
   (_N : News h₀ L s.heap (c.led (.str (S " ") ts) (S "") pos tt tp tl ln))
   (_sc : Scan 0 0 chs r rest') (_hd : c.buf.cps.toList.drop pos = chs) (_hp : pos ≤ c.buf.length) (_hbl : c.buf.length < 500)
   (_n1 : c.x ≠ c.dx) (_n2 : c.dl ≠ c.dx) (_n3 : c.l ≠ c.dx) (_n4 : c.x ≠ c.dl) (_n5 : c.l ≠ c.dl) (_r1 : ∀ p ∈ c.rest, p.1 ≠ c.dx) (_r2 : ∀ p ∈ c.rest, p.1 ≠ c.dl)
   (_hd : dp + 9 < recursionLimit) (_hu : un + 72 < cLine)
   (_ret1 : ∀ mm, r = some mm → ∀ (pos' : Nat) (t0 ts tt tp tl : Tok) (ln : Int) (h' : Heap) (tk' : Nat), c.buf.cps.toList.drop pos' = rest' → pos' ≤ c.buf.length → Fr h₀ L h' m → News h₀ L h' (c.led (.str (S " ") ts) (S "") pos' tt tp tl ln) → Q (.str (dotsS mm) t0) { s with heap := h', toks := tk' })
   (_ret0 : r = none → ∀ (pos' : Nat) (tt tp tl : Tok) (ln : Int) (h' : Heap) (tk' : Nat), pos' ≤ c.buf.length → Fr h₀ L h' m → News h₀ L h' (c.led .none (S "") pos' tt tp tl ln) → Q .none { s with heap := h', toks := tk' }),
   wpAny (model PySem.Challenge.rw_kt0066_01.row.prog w) (ktrTop dp un gd cn cs L a ccd cl outer) (call (.ref 721) [.ref c.l]) Q E s := by
  k_fill
  intro w dp un gd cn cs a ccd cl outer A₀ base h₀ L m s Q E p loose mean mg mb B F X T hk c rest0 pos ts tt tp tl ln chs rest' r hP hR N sc hdr hp hbl n1 n2 n3 n4 n5 r1 r2 hd hu ret1 ret0
  obtain ⟨P₀, g₀, L₀, l, dl, x, dx, pb, fs, rest, k, t, q, u, buf, s₀⟩ := c
  dsimp only at hP hR N hdr hp hbl n1 n2 n3 n4 n5 r1 r2 ret1 ret0 ⊢
  subst hP hR
  dsimp only [LxC.led] at N ret1 ret0
  refine wpAny_call ?_
  (refine' code_def ?k1 ?k2 ?k3 ?k4 ?k5 ?kA ?kF ?kK ?k6 ?k7 ?k8 ?k9 ?kB ?_ ?c2 ?c3 ?c4 ?c5; (case kA => exact rfl); (case kF => exact rfl); (case kK => assumption); (case k1 => k_asm); (case k2 => k_asm); (case k3 => k_asm); (case k4 => k_asm); (case k5 => k_asm); (case k6 => k_is); (case k7 => k_is); (case k8 => ktr_room); (case k9 => first | exact BindsTo.of_eq rfl | exact binds_K (by k_in) rfl (by k_is) rfl rfl rfl); (case c5 => decide); (case kB => exact locs rfl); (case c2 => exact rfl); (case c3 => exact rfl); (case c4 => exact rfl); k_whole; intro g' L' h' FG' F' N' B' X' T'; (try dsimp only); (try k_lift B'); (try k_fold))
  repeat' (first | (k_unfold; (try dsimp only)) | (k_end; kc_close) | (k_here; (with_reducible show wpAny _ _ (call (Value.ref 721) _) _ _ _); refine WStop.out ?_) | (k_here; (with_reducible show wpAny _ _ (call (Value.ref 728) _) _ _ _); refine WStop.out ?_) | ((with_reducible show wpAny _ _ (truthy (Value.ref _)) _ _ _); (k_here; k_dflt (refine truthy_dqN (by k_asm) (by k_mem) ?_; k_whole))) | walk1)
  unfold WStop
  k_dflt (refine' read_token_spec (c := ⟨w.params, g₀, L₀, l, dl, x, dx, pb, fs, (pb, dqObj) :: (fs, dqObj) :: rest0, k, t, q, u, buf, s₀⟩) ?jB ?jF ?jX ?jT ?jK rfl ?jN sc hdr hp hbl n1 n2 n3 n4 n5 r1 r2 ?jd ?ju ?ja ?jb; (case jN => k_asm); (case jB => k_asm); (case jF => k_asm); (case jX => k_asm); (case jT => k_asm); (case jK => first | exact rfl | assumption); (case jd => ktr_room); (case ju => ktr_units))
  case ja =>
    intro mm hr pos' t0 ts tt tp tl ln h9 tk9 hd9 hp9 F9 N9
    dsimp only [LxC.led] at N9 ⊢
    repeat' (first | (k_unfold; (try dsimp only)) | (k_end; kc_close) | (k_here; (with_reducible show wpAny _ _ (call (Value.ref 721) _) _ _ _); refine WStop.out ?_) | (k_here; (with_reducible show wpAny _ _ (call (Value.ref 728) _) _ _ _); refine WStop.out ?_) | ((with_reducible show wpAny _ _ (truthy (Value.ref _)) _ _ _); (k_here; k_dflt (refine truthy_dqN (by k_asm) (by k_mem) ?_; k_whole))) | walk1)
    all_goals (refine' ret1 mm hr pos' _ _ _ _ _ _ _ _ hd9 hp9 ?rf ?rn; (case rn => k_asm); (case rf => k_asm))
  case jb =>
    intro hr pos' tt tp tl ln h9 tk9 hp9 F9 N9
    dsimp only [LxC.led] at N9 ⊢
    repeat' (first | (k_unfold; (try dsimp only)) | (k_end; kc_close) | (k_here; (with_reducible show wpAny _ _ (call (Value.ref 721) _) _ _ _); refine WStop.out ?_) | (k_here; (with_reducible show wpAny _ _ (call (Value.ref 728) _) _ _ _); refine WStop.out ?_) | ((with_reducible show wpAny _ _ (truthy (Value.ref _)) _ _ _); (k_here; k_dflt (refine truthy_dqN (by k_asm) (by k_mem) ?_; k_whole))) | walk1)
    all_goals (refine' ret0 hr pos' _ _ _ _ _ _ hp9 ?rf ?rn; (case rn => k_asm); (case rf => k_asm))
end Mine
end
section
open PySem PySem.W PyProof.Rows
set_option Elab.async false
set_option maxRecDepth 100000
set_option maxHeartbeats 8000000
namespace Mine

theorem owit_stopS {M : Model} {A A₀ : Around} {E : Value → Shared → Prop} {s : Shared} {Q : Option Value → Shared → Prop} {base g G : Heap} {outer : List Env} {cn : Str} {cs : Scope} {L a : Addr} {ccd : Value} {cl : List (Str × Addr)} {e t : Addr} {m : Str → Option Value} {vs : List Value} {news : List (Addr × Obj)} {X : String}
    (R : RaisedS base G (envX cn cs L a ccd cl :: outer) e (.type X) t vs news s.heap) (F : Fr g L G m) (K : Below A₀ base outer g) (hsm : G.UpToSlots s.heap) (hsub : isSubtype (.type X) (.type "StopIteration") = pure true)
    (k : ∀ g', KtsTurn (outer.filterMap (·.frame)) g g' → Fr g' L s.heap m → Below A₀ base outer g' → News g' L s.heap news → Q none s) : OwitStop M A Q E (.ref e) s := by
  obtain ⟨⟨B, hB, hBG, hl, hfl, hnew⟩, htup⟩ := R
  have hL : B.get? L = none := by
    obtain ⟨_, ⟨L', _, hf, hn', _⟩, _⟩ := hfl.2.2.1
    obtain rfl : L = L' := Option.some.inj hf
    exact hn'
  obtain ⟨ob, hob, hobc⟩ := hfl.there
  have hT : s.TypeIs (.ref e) X := (show ∃ o, s.heap.get? e = some o ∧ o.cls = .type X from ⟨ob, hob, hobc⟩)
  obtain ⟨g₅, T₅, F₅, K₅⟩ := kts_ground (name := cn) (scope := cs) (a := a) (cd := ccd) K F hBG hfl.1 hsm
  unfold OwitStop
  refine wpAny_isInstance hT hsub ?_
  show (if true = true then Q none s else E (.ref e) s)
  rw [if_pos rfl]
  exact k g₅ T₅ F₅ K₅ fun q hq => ⟨hfl.1 _ _ (hl q hq).1, (fun z => by have := (hl q hq).1; rw [z, hL] at this; cases this), T₅.none_ _ (kts_none F.keep (hl q hq).2.1)⟩

theorem next_spec : ∀ {w : World} {dp un : Nat} {gd : Option (List Code)} {cn : Str} {cs : Scope} {a : Addr} {ccd : Value} {cl : List (Str × Addr)} {outer : List Env} {A₀ : Around} {base h₀ : Heap} {L : Addr} {m : Str → Option Value} {s : Shared} {Q : Option Value → Shared → Prop} {E : Value → Shared → Prop} {p : Program} {loose : List Str} {mean : ExcName → Option Value} {mg mb : Str → Option Value}
   (_B : Below A₀ base outer h₀) (_F : Fr h₀ L s.heap m) (_X : (fragK.heap_1 w.params).In h₀) (_T : Top p loose mean mg mb h₀) (_hk : cs.kind = .function)
   {c : LxC} {rest0 : List (Addr × Obj)} {pos : Nat} {ts tt tp tl : Tok} {ln : Int} {chs rest' : List Nat} {r : Option Nat}
   (_hP : c.P = w.params) (_hR : c.rest = (c.pb, dqObj) :: (c.fs, dqObj) :: rest0)
   (_N : News h₀ L s.heap (c.led (.str (S " ") ts) (S "") pos tt tp tl ln))
   (_sc : Scan 0 0 chs r rest') (_hd : c.buf.cps.toList.drop pos = chs) (_hp : pos ≤ c.buf.length) (_hbl : c.buf.length < 500)
   (_n1 : c.x ≠ c.dx) (_n2 : c.dl ≠ c.dx) (_n3 : c.l ≠ c.dx) (_n4 : c.x ≠ c.dl) (_n5 : c.l ≠ c.dl) (_r1 : ∀ p ∈ c.rest, p.1 ≠ c.dx) (_r2 : ∀ p ∈ c.rest, p.1 ≠ c.dl)
   (_D : KtsDicts (outer.filterMap (·.frame)) h₀)
   (_hd : dp + 10 < recursionLimit) (_hu : un + 80 < cLine)
   (_ret1 : ∀ mm, r = some mm → ∀ (pos' : Nat) (t0 ts tt tp tl : Tok) (ln : Int) (h' : Heap) (tk' : Nat), c.buf.cps.toList.drop pos' = rest' → pos' ≤ c.buf.length → Fr h₀ L h' m → News h₀ L h' (c.led (.str (S " ") ts) (S "") pos' tt tp tl ln) → Q (some (.str (dotsS mm) t0)) { s with heap := h', toks := tk' })
   (_ret0 : r = none → ∀ (g' : Heap) (pos' : Nat) (tt tp tl : Tok) (ln : Int) (h' : Heap) (tk' : Nat), pos' ≤ c.buf.length → KtsTurn (outer.filterMap (·.frame)) h₀ g' → Below A₀ base outer g' → Fr g' L h' m → News g' L h' (c.led .none (S "") pos' tt tp tl ln) → Q none { s with heap := h', toks := tk' }),
   wpAny (model PySem.Challenge.rw_kt0066_01.row.prog w) (ktrTop dp un gd cn cs L a ccd cl outer) (pyNext (.ref c.l)) Q E s := by
  k_fill
  intro w dp un gd cn cs a ccd cl outer A₀ base h₀ L m s Q E p loose mean mg mb B F X T hk c rest0 pos ts tt tp tl ln chs rest' r hP hR N sc hdr hp hbl n1 n2 n3 n4 n5 r1 r2 D hd hu ret1 ret0
  obtain ⟨P₀, g₀, L₀, l, dl, x, dx, pb, fs, rest, k, t, q, u, buf, s₀⟩ := c
  dsimp only at hP hR N hdr hp hbl n1 n2 n3 n4 n5 r1 r2 ret1 ret0 ⊢
  subst hP hR
  dsimp only [LxC.led] at N ret1 ret0
  k_dflt (refine' owit_next (C := 760) (od := some (dictOf (lexD w.params k t x pb fs (.str (S " ") ts) (.str (S "") tt) ln tl) 19)) ?jF ?jX ?jI ?js ?jf ?_; (case jF => k_asm); (case jX => k_asm); (case jI => k_inst); (case js => k_is); (case jf => k_is))
  refine wpAny_call ?_
  (refine' code_def ?k1 ?k2 ?k3 ?k4 ?k5 ?kA ?kF ?kK ?k6 ?k7 ?k8 ?k9 ?kB ?_ ?c2 ?c3 ?c4 ?c5; (case kA => exact rfl); (case kF => exact rfl); (case kK => assumption); (case k1 => k_asm); (case k2 => k_asm); (case k3 => k_asm); (case k4 => k_asm); (case k5 => k_asm); (case k6 => k_is); (case k7 => k_is); (case k8 => ktr_room); (case k9 => first | exact BindsTo.of_eq rfl | exact binds_K (by k_in) rfl (by k_is) rfl rfl rfl); (case c5 => decide); (case kB => exact locs rfl); (case c2 => exact rfl); (case c3 => exact rfl); (case c4 => exact rfl); k_whole; intro g' L' h' FG' F' N' B' X' T'; (try dsimp only); (try k_lift B'); (try k_fold))
  repeat' (first | (k_unfold; (try dsimp only)) | (k_end; kc_close) | (k_here; (with_reducible show wpAny _ _ (call (Value.ref 721) _) _ _ _); refine WStop.out ?_) | walk1 | (dsimp only; first | (k_here; (with_reducible show wpAny _ _ (call (Value.ref 721) _) _ _ _); refine WStop.out ?_) | walk1) | (leave1; (try dsimp only)))
  unfold WStop
  k_dflt (refine' get_token_spec (c := ⟨w.params, g₀, L₀, l, dl, x, dx, pb, fs, (pb, dqObj) :: (fs, dqObj) :: rest0, k, t, q, u, buf, s₀⟩) ?jB ?jF ?jX ?jT ?jK rfl rfl ?jN sc hdr hp hbl n1 n2 n3 n4 n5 r1 r2 ?jd ?ju ?ja ?jb; (case jN => k_asm); (case jB => k_asm); (case jF => k_asm); (case jX => k_asm); (case jT => k_asm); (case jK => first | exact rfl | assumption); (case jd => ktr_room); (case ju => ktr_units))
  case ja =>
    intro mm hr pos' t0 ts tt tp tl ln h9 tk9 hd9 hp9 F9 N9
    dsimp only [LxC.led] at N9 ⊢
    repeat' (first | (k_unfold; (try dsimp only)) | (k_end; kc_close) | (k_here; (with_reducible show wpAny _ _ (call (Value.ref 721) _) _ _ _); refine WStop.out ?_) | walk1 | (dsimp only; first | (k_here; (with_reducible show wpAny _ _ (call (Value.ref 721) _) _ _ _); refine WStop.out ?_) | walk1) | (leave1; (try dsimp only)))
    all_goals (refine' ret1 mm hr pos' _ _ _ _ _ _ _ _ hd9 hp9 ?rf ?rn; (case rn => k_asm); (case rf => k_asm))
  case jb =>
    intro hr pos' tt tp tl ln h9 tk9 hp9 F9 N9
    dsimp only [LxC.led] at N9 ⊢
    repeat' (first | (k_unfold; (try dsimp only)) | (k_end; kc_close) | (k_here; (with_reducible show wpAny _ _ (call (Value.ref 721) _) _ _ _); refine WStop.out ?_) | walk1 | (dsimp only; first | (k_here; (with_reducible show wpAny _ _ (call (Value.ref 721) _) _ _ _); refine WStop.out ?_) | walk1) | (leave1; (try dsimp only)))
    (rename RaisedS _ _ _ _ _ _ _ _ _ => rkX)
    refine' owit_stopS rkX FG' B ?jU ?js ?_
    (case jU => assumption)
    (case js => first | rfl | kernel_rfl | decide)
    intro g8 T8 F8 K8 N8
    exact ret0 hr g8 pos' _ _ _ _ _ _ hp9 T8 K8 F8 N8
end Mine
end
section
open PySem PySem.W PyProof.Rows
set_option Elab.async false
set_option maxRecDepth 100000
set_option maxHeartbeats 8000000
namespace Mine

inductive Toks : List Nat → List Nat → Prop
  | nil {cs} : Scan 0 0 cs none [] → Toks cs []
  | cons {cs cs' mm ms} : Scan 0 0 cs (some mm) cs' → Toks cs' ms → Toks cs (mm :: ms)
/-- the values are the rows' texts -/
inductive RowsV : List Value → List Nat → Prop
  | nil : RowsV [] []
  | cons {t vs mm ms} : RowsV vs ms → RowsV (.str (dotsS mm) t :: vs) (mm :: ms)
theorem RowsV.append {vs ms vs' ms'} (h : RowsV vs ms) (h' : RowsV vs' ms') : RowsV (vs ++ vs') (ms ++ ms') := by
  induction h with
  | nil => exact h'
  | cons _ ih => exact .cons ih
theorem RowsV.length {vs ms} (h : RowsV vs ms) : vs.length = ms.length := by
  induction h with
  | nil => rfl
  | cons _ ih => simp [ih]
theorem scan_shorter {st n cs r rest} (h : Scan st n cs r rest) : (∀ mm, r = some mm → rest.length < cs.length) := by
  induction h with
  | fin => intro mm e; cases e
  | acr _ => intro mm _; simp
  | _ => rename_i ih; intro mm e; have := ih mm e; simp; lia
theorem toks_len {cs ms} (h : Toks cs ms) : ms.length ≤ cs.length := by
  induction h with
  | nil _ => simp
  | cons h _ ih => have := scan_shorter h _ rfl; simp; lia
theorem extend_loop {w : World} {dp un : Nat} {gd : Option (List Code)} {cn : Str} {cs : Scope} {a : Addr} {ccd : Value} {cl : List (Str × Addr)} {outer : List Env} {A₀ : Around} {base h₀ : Heap} {L : Addr} {m : Str → Option Value} {p : Program} {loose : List Str} {mean : ExcName → Option Value} {mg mb : Str → Option Value}
    {c : LxC} {rest0 : List (Addr × Obj)} {D : Addr} {res : Value} {R : Result → Shared → Prop}
    (B : Below A₀ base outer h₀) (X : (fragK.heap_1 w.params).In h₀) (T : Top p loose mean mg mb h₀) (hk : cs.kind = .function)
    (hP : c.P = w.params) (hR : c.rest = (c.pb, dqObj) :: (c.fs, dqObj) :: rest0) (hbl : c.buf.length < 500)
    (n1 : c.x ≠ c.dx) (n2 : c.dl ≠ c.dx) (n3 : c.l ≠ c.dx) (n4 : c.x ≠ c.dl) (n5 : c.l ≠ c.dl) (r1 : ∀ p ∈ c.rest, p.1 ≠ c.dx) (r2 : ∀ p ∈ c.rest, p.1 ≠ c.dl)
    (nD : c.x ≠ D ∧ c.dx ≠ D ∧ c.l ≠ D ∧ c.dl ≠ D ∧ ∀ p ∈ c.rest, p.1 ≠ D)
    (KD : KtsDicts (outer.filterMap (·.frame)) h₀) (hd : dp + 10 < recursionLimit) (hu : un + 81 < cLine) :
    ∀ {chs ms : List Nat}, Toks chs ms → ∀ {s : Shared} {pos ep : Nat} {items : List Value} {ts tt tp tl : Tok} {ln : Int},
    c.buf.cps.toList.drop pos = chs → pos ≤ c.buf.length → items.length + ms.length ≤ 1000 →
    Fr h₀ L s.heap m → News h₀ L s.heap ((D, listOf items.toArray ep) :: c.led (.str (S " ") ts) (S "") pos tt tp tl ln) →
    (∀ (g' : Heap) (vs : List Value) (ep' pos' : Nat) (tt tp tl : Tok) (ln : Int) (h' : Heap) (tk' : Nat), RowsV vs ms → KtsTurn (outer.filterMap (·.frame)) h₀ g' → Below A₀ base outer g' → Fr g' L h' m →
      News g' L h' ((D, listOf (items ++ vs).toArray ep') :: c.led .none (S "") pos' tt tp tl ln) → R (.ok (.ret res)) { s with heap := h', toks := tk' }) →
    codeAny (model PySem.Challenge.rw_kt0066_01.row.prog w) (ktrTop dp un gd cn cs L a ccd cl outer) (.builtin "list.extend.loop" ⟨[.ref D, .ref c.l, res], []⟩) R s := by
  obtain ⟨x0, x1, x2, x3, x4⟩ := nD
  have off : ∀ st tok pos tt tp tl ln, ∀ p ∈ c.led st tok pos tt tp tl ln, p.1 ≠ D := by
    intro st tok pos tt tp tl ln p hp
    (revert p; refine all_cons (x1) ?_; intro p hp)
    (revert p; refine all_cons (x0) ?_; intro p hp)
    (revert p; refine all_cons (x3) ?_; intro p hp)
    (revert p; refine all_cons (x2) ?_; intro p hp)
    exact x4 p hp
  -- the lexer's ledger, the list put behind
  have swap : ∀ {g h : Heap} {q : Addr × Obj} {st tok pos tt tp tl ln}, News g L h (q :: c.led st tok pos tt tp tl ln) → News g L h ({ c with rest := (c.pb, dqObj) :: (c.fs, dqObj) :: (q :: rest0) }.led st tok pos tt tp tl ln) := by
    intro g h q st tok pos tt tp tl ln N p hp
    refine N p ?_
    dsimp only [LxC.led] at hp ⊢
    rw [hR]
    (repeat (rcases List.mem_cons.mp hp with rfl | hp; (· repeat (first | (with_reducible exact List.mem_cons_self) | (with_reducible exact List.Mem.head _) | apply List.Mem.tail))))
    (repeat (first | exact hp | exact absurd hp List.not_mem_nil | apply List.Mem.tail))
  have back : ∀ {g h : Heap} {q : Addr × Obj} {st tok pos tt tp tl ln}, News g L h ({ c with rest := (c.pb, dqObj) :: (c.fs, dqObj) :: (q :: rest0) }.led st tok pos tt tp tl ln) → News g L h (q :: c.led st tok pos tt tp tl ln) := by
    intro g h q st tok pos tt tp tl ln N p hp
    refine N p ?_
    dsimp only [LxC.led] at hp ⊢
    rw [hR] at hp
    (repeat (rcases List.mem_cons.mp hp with rfl | hp; (· repeat (first | (with_reducible exact List.mem_cons_self) | (with_reducible exact List.Mem.head _) | apply List.Mem.tail))))
    (repeat (first | exact hp | exact absurd hp List.not_mem_nil | apply List.Mem.tail))
  intro chs ms ht
  induction ht with
  | @nil chs h =>
    intro s pos ep items ts tt tp tl ln hdr hp hz F N hret
    refine codeAny_builtin PySem.F.entry_extend_loop ?_
    rw [Around.under_plainId PySem.F.plain_extend_loop _]
    show wpAny _ (ktrTop dp un gd cn cs L a ccd cl outer).in1 (pyNext (.ref c.l) >>= _) _ _ s
    refine wpAny_bind ?_
    refine next_spec (c := { c with rest := (c.pb, dqObj) :: (c.fs, dqObj) :: ((D, listOf items.toArray ep) :: rest0) }) B F X T hk hP rfl (swap N) h hdr hp hbl n1 n2 n3 n4 n5 ?_ ?_ KD hd (by lia) (fun mm e => nomatch e) ?_
    · intro q hq
      rcases mem3 hq with rfl | rfl | rfl | hq
      · exact r1 _ (by rw [hR]; exact .head _)
      · exact r1 _ (by rw [hR]; exact .tail _ (.head _))
      · exact Ne.symm x1
      · exact r1 _ (by rw [hR]; exact .tail _ (.tail _ hq))
    · intro q hq
      rcases mem3 hq with rfl | rfl | rfl | hq
      · exact r2 _ (by rw [hR]; exact .head _)
      · exact r2 _ (by rw [hR]; exact .tail _ (.head _))
      · exact Ne.symm x3
      · exact r2 _ (by rw [hR]; exact .tail _ (.tail _ hq))
    · intro _ g' pos' tt tp tl ln h' tk' hp' KT B' F' N'
      refine wpAny_pure ?_
      exact hret g' [] ep pos' tt tp tl ln h' tk' .nil KT B' F' (by rw [List.append_nil]; exact back N')
  | @cons chs chs' mm ms h _ ih =>
    intro s pos ep items ts tt tp tl ln hdr hp hz F N hret
    refine codeAny_builtin PySem.F.entry_extend_loop ?_
    rw [Around.under_plainId PySem.F.plain_extend_loop _]
    show wpAny _ (ktrTop dp un gd cn cs L a ccd cl outer).in1 (pyNext (.ref c.l) >>= _) _ _ s
    refine wpAny_bind ?_
    refine next_spec (c := { c with rest := (c.pb, dqObj) :: (c.fs, dqObj) :: ((D, listOf items.toArray ep) :: rest0) }) B F X T hk hP rfl (swap N) h hdr hp hbl n1 n2 n3 n4 n5 ?_ ?_ KD hd (by lia) ?_ (fun e => nomatch e)
    · intro q hq
      rcases mem3 hq with rfl | rfl | rfl | hq
      · exact r1 _ (by rw [hR]; exact .head _)
      · exact r1 _ (by rw [hR]; exact .tail _ (.head _))
      · exact Ne.symm x1
      · exact r1 _ (by rw [hR]; exact .tail _ (.tail _ hq))
    · intro q hq
      rcases mem3 hq with rfl | rfl | rfl | hq
      · exact r2 _ (by rw [hR]; exact .head _)
      · exact r2 _ (by rw [hR]; exact .tail _ (.head _))
      · exact Ne.symm x3
      · exact r2 _ (by rw [hR]; exact .tail _ (.tail _ hq))
    · intro mm' em pos' t0 ts tt tp tl ln h' tk' hdr' hp' F' N'
      obtain rfl := Option.some.inj em
      have N2 := back N'
      have hS' := (N2 (D, listOf items.toArray ep) (.head _)).1
      show wpAny _ _ (updateSeq D (·.push (Value.str (dotsS mm) t0)) >>= _) _ _ _
      refine wpAny_bind ?_
      obtain ⟨F3, N3⟩ := news_upd (pre := []) (f := Obj.mapSeq (·.push (Value.str (dotsS mm) t0))) (o' := PySem.W.listOf (items ++ [Value.str (dotsS mm) t0]).toArray (ep + 1)) F' N2 (fun _ h => nomatch h) (off _ _ _ _ _ _ _) (by simp [Obj.mapSeq]) rfl
      refine wpAny_updateSeq hS' rfl (wpAny_pure ⟨plainId_quiet PySem.F.plain_extend_loop _, ?_⟩) (by simp at hz ⊢; rw [sizeLine_eq]; lia) (by simp at hz ⊢; rw [sizeLine_eq]; lia)
      refine ih (items := items ++ [Value.str (dotsS mm) t0]) (s := { s with heap := h'.update D (Obj.mapSeq (·.push (Value.str (dotsS mm) t0))), toks := tk' }) hdr' hp' (by simp at hz ⊢; lia) F3 N3 ?_
      intro g' vs ep' pos'' tt tp tl ln h'' tk'' hv KT B' F'' N''
      refine hret g' (.str (dotsS mm) t0 :: vs) ep' pos'' tt tp tl ln h'' tk'' (.cons hv) KT B' F'' ?_
      rw [List.append_assoc] at N''
      exact N''
end Mine
end
section
open PySem PySem.W PyProof.Rows
set_option Elab.async false
set_option maxRecDepth 100000
set_option maxHeartbeats 8000000
namespace Mine


theorem lex_iter : ∀ {w : World} {dp un : Nat} {gd : Option (List Code)} {cn : Str} {cs : Scope} {a : Addr} {ccd : Value} {cl : List (Str × Addr)} {outer : List Env} {A₀ : Around} {base h₀ : Heap} {L : Addr} {m : Str → Option Value} {s : Shared} {Q E : Value → Shared → Prop} {p : Program} {loose : List Str} {mean : ExcName → Option Value} {mg mb : Str → Option Value}
   (_B : Below A₀ base outer h₀) (_F : Fr h₀ L s.heap m) (_X : (fragK.heap_1 w.params).In h₀) (_T : Top p loose mean mg mb h₀) (_hk : cs.kind = .function)
   {c : LxC} {pos : Nat} {ts tt tp tl : Tok} {ln : Int} {D : Addr} {oD : Obj}
   (_hP : c.P = w.params)
   (_N : News h₀ L s.heap ((D, oD) :: c.led (.str (S " ") ts) (S "") pos tt tp tl ln))
   (_hd : dp + 1 < recursionLimit) (_hu : un + 8 < cLine)
   (_ret : ∀ (h' : Heap) (tk' : Nat), Fr h₀ L h' m → News h₀ L h' ((D, oD) :: c.led (.str (S " ") ts) (S "") pos tt tp tl ln) → Q (.ref c.l) { s with heap := h', toks := tk' }),
   wpAny (model PySem.Challenge.rw_kt0066_01.row.prog w) (ktrTop dp un gd cn cs L a ccd cl outer) (pyIter (.ref c.l)) Q E s := by
  k_fill
  intro w dp un gd cn cs a ccd cl outer A₀ base h₀ L m s Q E p loose mean mg mb B F X T hk c pos ts tt tp tl ln D oD hP N hd hu ret
  obtain ⟨P₀, g₀, L₀, l, dl, x, dx, pb, fs, rest, k, t, q, u, buf, s₀⟩ := c
  dsimp only at hP N ret ⊢
  subst hP
  dsimp only [LxC.led] at N ret
  k_dflt (refine' owit_iter (C := 760) (od := some (dictOf (lexD w.params k t x pb fs (.str (S " ") ts) (.str (S "") tt) ln tl) 19)) ?jF ?jX ?jI ?js ?jf ?_; (case jF => k_asm); (case jX => k_asm); (case jI => k_inst); (case js => k_is); (case jf => k_is))
  refine wpAny_call ?_
  (refine' code_def ?k1 ?k2 ?k3 ?k4 ?k5 ?kA ?kF ?kK ?k6 ?k7 ?k8 ?k9 ?kB ?_ ?c2 ?c3 ?c4 ?c5; (case kA => exact rfl); (case kF => exact rfl); (case kK => assumption); (case k1 => k_asm); (case k2 => k_asm); (case k3 => k_asm); (case k4 => k_asm); (case k5 => k_asm); (case k6 => k_is); (case k7 => k_is); (case k8 => ktr_room); (case k9 => first | exact BindsTo.of_eq rfl | exact binds_K (by k_in) rfl (by k_is) rfl rfl rfl); (case c5 => decide); (case kB => exact locs rfl); (case c2 => exact rfl); (case c3 => exact rfl); (case c4 => exact rfl); k_whole; intro g' L' h' FG' F' N' B' X' T'; (try dsimp only); (try k_lift B'); (try k_fold))
  k_steps
  all_goals (refine' ret _ _ ?rf ?rn; (case rf => k_asm); (case rn => k_asm))
theorem lex_nolen : ∀ {w : World} {h₀ : Heap}, (fragK.heap_1 w.params).In h₀ → findIn (fragK.heap_1 w.params) (.ref 760) "__len__" = some none ∧ findIn (fragK.heap_1 w.params) (.ref 760) "__length_hint__" = some none ∧ PySem.Challenge.rw_kt0066_01.foot = 8 := by
  k_fill
  intro w h₀ X
  refine ⟨?_, ?_, rfl⟩
  · k_is
  · k_is

theorem list_lex {w : World} {dp un : Nat} {gd : Option (List Code)} {cn : Str} {cs : Scope} {a : Addr} {ccd : Value} {cl : List (Str × Addr)} {outer : List Env} {A₀ : Around} {base h₀ : Heap} {L : Addr} {m : Str → Option Value} {s : Shared} {Q E : Value → Shared → Prop} {p : Program} {loose : List Str} {mean : ExcName → Option Value} {mg mb : Str → Option Value}
    {c : LxC} {rest0 : List (Addr × Obj)} {chs ms : List Nat} {ts tt tp tl : Tok} {ln : Int}
    (B : Below A₀ base outer h₀) (F : Fr h₀ L s.heap m) (X : (fragK.heap_1 w.params).In h₀) (T : Top p loose mean mg mb h₀) (hk : cs.kind = .function)
    (hP : c.P = w.params) (hR : c.rest = (c.pb, dqObj) :: (c.fs, dqObj) :: rest0) (hbl : c.buf.length < 500)
    (n1 : c.x ≠ c.dx) (n2 : c.dl ≠ c.dx) (n3 : c.l ≠ c.dx) (n4 : c.x ≠ c.dl) (n5 : c.l ≠ c.dl) (r1 : ∀ p ∈ c.rest, p.1 ≠ c.dx) (r2 : ∀ p ∈ c.rest, p.1 ≠ c.dl)
    (KD : KtsDicts (outer.filterMap (·.frame)) h₀) (hd : dp + 10 < recursionLimit) (hu : un + 90 < cLine)
    (ht : Toks chs ms) (hdr : c.buf.cps.toList = chs) (N : News h₀ L s.heap (c.led (.str (S " ") ts) (S "") 0 tt tp tl ln))
    (ret : ∀ (g' : Heap) (D : Addr) (vs : List Value) (ep' pos' : Nat) (tt tp tl : Tok) (ln : Int) (h' : Heap) (tk' : Nat), RowsV vs ms → (@LT.lt Nat _ c.x D ∧ @LT.lt Nat _ c.dx D ∧ @LT.lt Nat _ c.l D ∧ @LT.lt Nat _ c.dl D ∧ ∀ p ∈ c.rest, @LT.lt Nat _ p.1 D) → KtsTurn (outer.filterMap (·.frame)) h₀ g' → Below A₀ base outer g' → Fr g' L h' m →
      News g' L h' ((D, PySem.W.listOf vs.toArray ep') :: c.led .none (S "") pos' tt tp tl ln) → Q (.ref D) { s with heap := h', toks := tk' }) :
    wpAny (model PySem.Challenge.rw_kt0066_01.row.prog w) (ktrTop dp un gd cn cs L a ccd cl outer) (call (.type "list") [.ref c.l]) Q E s := by
  have hms : ms.length ≤ 500 := by
    have h1 := toks_len ht
    have h2 : chs.length = c.buf.length := by rw [← hdr]; simp [PySem.Str.length]
    lia
  have lt : ∀ q ∈ c.led (.str (S " ") ts) (S "") 0 tt tp tl ln, q.1 < s.heap.objs.size := fun q hq => Heap.lt_size (N q hq).1
  have ne : ∀ q ∈ c.led (.str (S " ") ts) (S "") 0 tt tp tl ln, q.1 ≠ s.heap.objs.size := fun q hq => Nat.ne_of_lt (lt q hq)
  have hl0 : (c.l, inst 760 c.dl) ∈ c.led (.str (S " ") ts) (S "") 0 tt tp tl ln := .tail _ (.tail _ (.tail _ (.head _)))
  have hl1 : (c.dl, dictOf (lexD c.P c.k c.t c.x c.pb c.fs (.str (S " ") ts) (.str (S "") tt) ln tl) 19) ∈ c.led (.str (S " ") ts) (S "") 0 tt tp tl ln := .tail _ (.tail _ (.head _))
  refine callType_codes (Q₁ := fun obj s₁ => obj = .ref s.heap.objs.size ∧ s₁ = { s with heap := s.heap.push { cls := .type "list", data := .seq #[] } }) PySem.F.called_list (PySem.F.typeCall_list_1 _) PySem.F.entry_list_init
    (code_list_new _ ⟨rfl, rfl⟩) fun obj s₁ h₁ => ?_
  obtain ⟨rfl, rfl⟩ := h₁
  have hS : (s.heap.push { cls := .type "list", data := .seq #[] }).get? s.heap.objs.size = some { cls := .type "list", data := .seq #[] } := Heap.get?_push_size _ rfl
  refine ⟨⟨_, hS, rfl⟩, PySem.F.args_list_init_2 _ _, ?_⟩
  have F1 := F.push { cls := .type "list", data := .seq #[] }
  have N1 := N.push F { cls := .type "list", data := .seq #[] }
  show wpAny _ (ktrTop dp un gd cn cs L a ccd cl outer).in1.in1 (do let old ← Builtin.List.listItems (.ref s.heap.objs.size); Builtin.List.listUpdate (.ref s.heap.objs.size) (fun _ => #[]); letGo old.toList.reverse; Builtin.List.listExtendWith (.ref s.heap.objs.size) (.ref c.l) .none) _ _ _
  refine wpAny_bind ?_
  unfold Builtin.List.listItems
  refine wpAny_bind (wpAny_seqItems hS rfl (wpAny_pure ?_))
  show wpAny _ _ (updateSeq s.heap.objs.size (fun _ => #[]) >>= fun _ => letGo (#[] : Array Value).toList.reverse >>= fun _ => Builtin.List.listExtendWith (.ref s.heap.objs.size) (.ref c.l) .none) _ _ _
  refine wpAny_bind (wpAny_updateSeq hS rfl ?_)
  obtain ⟨F2, N2⟩ := news_upd (pre := []) (f := Obj.mapSeq (fun _ => (#[] : Array Value))) (o' := PySem.W.listOf #[] 0) F1 N1 (fun _ h => nomatch h) ne rfl rfl
  refine wpAny_bind (wpAny_letGo ?_)
  unfold Builtin.List.listExtendWith
  have I2 := InstAt.of_news N2 (.tail _ hl0) (.tail _ hl1)
  refine wpAny_bind (I2.type.here ?_)
  have h1 : Builtin.List.listSameRef (.ref s.heap.objs.size) (.ref c.l) = false := by
    have := ne _ hl0
    simp [Builtin.List.listSameRef, Ne.symm this]
  have h2 : (Value.ref 760 == Value.type "list") = false := by decide
  have h3 : (Value.ref 760 == Value.type "tuple") = false := by decide
  simp only [h1, h2, h3, Bool.or_false, Bool.false_eq_true, if_false]
  refine wpAny_bind (lex_iter (dp := dp) (un := un + 1 + 1) B F2 X T hk hP N2 (by lia) (by lia) fun h3 tk3 F3 N3 => ?_)
  refine wpAny_bind (wpAny_holding ?_)
  unfold Builtin.List.listLengthHint
  obtain ⟨q1, q2, _⟩ := lex_nolen X
  have I3 := InstAt.of_news N3 (.tail _ hl0) (.tail _ hl1)
  refine wpAny_bind (wpAny_bind (I3.type.here ((looks_findIn (X.keeps F3.keep) q1).here ?_)))
  refine wpAny_bind (wpAny_bind (I3.type.here ((looks_findIn (X.keeps F3.keep) q2).here ?_)))
  refine wpAny_pure ?_
  show wpAny _ _ (rule "list.extend.makes-room" >>= fun _ => Builtin.List.listTouch (.ref s.heap.objs.size) >>= fun _ =>
    again (.builtin "list.extend.loop" ⟨[.ref s.heap.objs.size, .ref c.l, .none], []⟩)) _ _ _
  refine wpAny_bind (wpAny_rule ?_)
  refine wpAny_bind ?_
  show wpAny _ _ (updateSeq s.heap.objs.size (·.push .none) >>= fun _ => updateSeq s.heap.objs.size (·.pop)) _ _ _
  have hS3 := (N3 _ (.head _)).1
  refine wpAny_bind (wpAny_updateSeq hS3 rfl ?_)
  obtain ⟨F4, N4⟩ := news_upd (pre := []) (f := Obj.mapSeq (·.push Value.none)) (o' := PySem.W.listOf #[.none] 1) F3 N3 (fun _ h => nomatch h) ne rfl rfl
  have hS4 := (N4 _ (.head _)).1
  refine wpAny_updateSeq (hz := by seq_fits) hS4 rfl ?_
  obtain ⟨F5, N5⟩ := news_upd (pre := []) (f := Obj.mapSeq (·.pop)) (o' := PySem.W.listOf #[] 2) F4 N4 (fun _ h => nomatch h) ne rfl rfl
  have nD : c.x ≠ s.heap.objs.size ∧ c.dx ≠ s.heap.objs.size ∧ c.l ≠ s.heap.objs.size ∧ c.dl ≠ s.heap.objs.size ∧ ∀ p ∈ c.rest, p.1 ≠ s.heap.objs.size :=
    ⟨ne _ (.tail _ (.head _)), ne _ (.head _), ne _ hl0, ne _ hl1, fun p hp => ne _ (.tail _ (.tail _ (.tail _ (.tail _ hp))))⟩
  refine wpAny_pure ⟨plainId_quiet PySem.F.plain_extend_loop _, ?_⟩
  refine extend_loop (dp := dp) (un := un + 1) B X T hk hP hR hbl n1 n2 n3 n4 n5 r1 r2 nD KD hd (by lia) ht (pos := 0) (items := []) (by rw [List.drop_zero]; exact hdr) (Nat.zero_le _) (by simp; lia) F5 N5 ?_
  intro g' vs ep' pos' tt tp tl ln h' tk' hv KT B' F' N'
  exact ⟨rfl, ret g' _ vs ep' pos' tt tp tl ln h' tk' hv ⟨lt _ (.tail _ (.head _)), lt _ (.head _), lt _ hl0, lt _ hl1, fun p hp => lt _ (.tail _ (.tail _ (.tail _ (.tail _ hp))))⟩ KT B' F' N'⟩
end Mine
end
section
open PySem PySem.W PyProof.Rows PySem.Calls
set_option Elab.async false
set_option maxRecDepth 100000
set_option maxHeartbeats 4000000
namespace Mine
set_option pp.deepTerms false
set_option pp.deepTerms.threshold 6
/-- a class of the program that bears no maker of C's, no slots, one base -/
structure PC (h : Heap) (a : Addr) (mro : List Value) (b : Value) : Prop where
  ex : ∃ oc od cd sl, h.get? a = some ⟨oc, od, .cls cd, sl⟩ ∧ cd.abstract = false ∧ cd.hasDel = false ∧ cd.mro = mro ∧ cd.bases = [b] ∧ cd.slotNames = [] ∧ sl.toList[4]? = some (some .none)
section
variable {M : Model} {h : Heap} {a : Addr} {c : Value} {l mro : List Value} {b : Value}
theorem PC.mroL (P : PC h a mro b) : Looks M h (mroOf (.ref a)) mro := by
  obtain ⟨oc, od, cd, sl, e, -, -, rfl, -⟩ := P
  exact ((Looks.ld (part := none) e).andThen .now).andThen .now
theorem PC.cd (P : PC h a mro b) : ∃ cd : ClassData, Looks M h (classData a) cd ∧ cd.bases = [b] ∧ cd.slotNames = [] := by
  obtain ⟨oc, od, cd, sl, e, -, -, -, h5, h6, -⟩ := P
  exact ⟨cd, (Looks.ld (part := none) e).andThen .now, h5, h6⟩
theorem PC.made (P : PC h a (c :: l) b) : Looks M h (Bind.madeBy (.ref a)) none := by
  have hm := P.mroL (M := M)
  obtain ⟨oc, od, cd, sl, e, -, -, -, -, -, h7⟩ := P
  intro A Q E s k q
  unfold Bind.madeBy
  refine wpAny_bind (hm A _ E s k ?_)
  rw [List.forIn_cons]
  refine wpAny_bind (wpAny_bind (wpAny_bind (wpAny_bind (wpAny_loadPart (k _ _ e) (wpAny_pure ?_)))))
  dsimp only
  rw [← Array.getElem?_toList, h7]
  exact wpAny_pure (wpAny_pure (wpAny_pure q))
theorem PC.names (P : PC h a mro b) : Looks M h (Builtin.Slots.slotNamesOf (.ref a)) [] := by
  obtain ⟨cd, L, -, e⟩ := P.cd (M := M)
  exact L.andThen (by rw [e]; exact .now)
theorem names_obj : Looks M h (Builtin.Slots.slotNamesOf (.type "object")) [] := Looks.of_pure (by kernel_rfl)
theorem PC.adds (P : PC h a mro b) (hb : Looks M h (Builtin.Slots.slotNamesOf b) []) : Looks M h (Builtin.Slots.addsLayout (.ref a)) false := by
  obtain ⟨cd, L, e1, e2⟩ := P.cd (M := M)
  refine L.andThen ?_
  rw [e1, e2]
  intro A Q E s k q
  dsimp only
  refine wpAny_bind ?_
  rw [List.forIn_cons]
  refine wpAny_bind (wpAny_bind (hb A _ E s k (wpAny_pure ?_)))
  dsimp only
  rw [List.forIn_nil]
  exact wpAny_pure (wpAny_pure q)
theorem solid_obj : Looks M h (Builtin.Slots.solid (.type "object")) (.type "object") := Looks.of_pure (by kernel_rfl)
theorem adds_obj : Looks M h (Builtin.Slots.addsLayout (.type "object")) false := Looks.of_pure (by kernel_rfl)
theorem solid_ref {ls : List Addr} (hl : ∀ x ∈ ls, Looks M h (Builtin.Slots.addsLayout (.ref x)) false) (hm : Looks M h (mroOf b) (ls.map Value.ref ++ [.type "object"])) : Looks M h (Builtin.Slots.solid b) (.type "object") := by
  intro A Q E s k q
  unfold Builtin.Slots.solid
  refine wpAny_bind (hm A _ E s k (wpAny_bind ?_))
  clear hm
  induction ls with
  | nil =>
    rw [List.map_nil, List.nil_append, List.forIn_cons]
    refine wpAny_bind (wpAny_bind (adds_obj A _ E s k ?_))
    rw [if_neg (by decide)]
    dsimp only
    split
    · exact wpAny_pure (wpAny_pure (wpAny_pure q))
    · refine wpAny_pure ?_
      dsimp only
      rw [List.forIn_nil]
      exact wpAny_pure (wpAny_pure q)
  | cons x ls ih =>
    rw [List.map_cons, List.cons_append, List.forIn_cons]
    refine wpAny_bind (wpAny_bind (hl x (.head _) A _ E s k ?_))
    rw [if_neg (by decide)]
    exact wpAny_pure (ih fun y hy => hl y (.tail _ hy))
theorem best_one {r : Value} (hb : Looks M h (Builtin.Slots.solid b) r) : Looks M h (Builtin.Slots.bestBase [b]) b := by
  intro A Q E s k q
  unfold Builtin.Slots.bestBase
  dsimp only
  refine wpAny_bind ?_
  rw [List.forIn_cons]
  refine wpAny_bind (wpAny_bind (hb A _ E s k (wpAny_pure ?_)))
  dsimp only
  rw [List.forIn_nil]
  exact wpAny_pure (wpAny_pure q)
theorem made_object : Looks M h (Bind.madeBy (.type "object")) (some "object.__new__") := Looks.of_pure (by kernel_rfl)
theorem static_three {x y z : Addr} (P1 : PC h x [.ref x, .ref y, .ref z, .type "object"] (.ref y)) (P2 : PC h y [.ref y, .ref z, .type "object"] (.ref z)) (P3 : PC h z [.ref z, .type "object"] (.type "object")) :
    Looks M h (Bind.staticBase (.ref x)) (.type "object") := by
  have a3 := P3.adds (M := M) names_obj
  have a2 := P2.adds (M := M) P3.names
  have b1 := best_one (solid_ref (ls := [y, z]) (b := .ref y) (fun u hu => by
    simp only [List.mem_cons, List.not_mem_nil, or_false] at hu
    rcases hu with rfl | rfl
    · exact a2
    · exact a3) P2.mroL)
  have b2 := best_one (solid_ref (ls := [z]) (b := .ref z) (fun u hu => by
    rw [List.mem_singleton.mp hu]
    exact a3) P3.mroL)
  have b3 := best_one (M := M) (h := h) solid_obj
  obtain ⟨c1, L1, e1, -⟩ := P1.cd (M := M)
  obtain ⟨c2, L2, e2, -⟩ := P2.cd (M := M)
  obtain ⟨c3, L3, e3, -⟩ := P3.cd (M := M)
  intro A Q E s k q
  unfold Bind.staticBase
  dsimp only
  refine wpAny_bind (P1.mroL A _ E s k (wpAny_bind ?_))
  rw [List.forIn_cons]
  refine wpAny_bind (wpAny_bind (P1.made A _ E s k ?_))
  dsimp only
  rw [if_neg (by decide)]
  refine wpAny_bind (L1 A _ E s k (wpAny_bind ?_))
  rw [e1]
  refine b1 A _ E s k (wpAny_pure ?_)
  dsimp only
  rw [List.forIn_cons]
  refine wpAny_bind (wpAny_bind (P2.made A _ E s k ?_))
  rw [if_neg (by decide)]
  refine wpAny_bind (L2 A _ E s k (wpAny_bind ?_))
  rw [e2]
  refine b2 A _ E s k (wpAny_pure ?_)
  dsimp only
  rw [List.forIn_cons]
  refine wpAny_bind (wpAny_bind (P3.made A _ E s k ?_))
  rw [if_neg (by decide)]
  refine wpAny_bind (L3 A _ E s k (wpAny_bind ?_))
  rw [e3]
  refine b3 A _ E s k (wpAny_pure ?_)
  dsimp only
  rw [List.forIn_cons]
  refine wpAny_bind (wpAny_bind (made_object A _ E s k ?_))
  rw [if_pos (show (some "object.__new__").isSome = true from rfl)]
  exact wpAny_pure (wpAny_pure (wpAny_pure q))
end
end Mine
end
section
open PySem PySem.W PyProof.Rows PySem.Calls
set_option Elab.async false
set_option maxRecDepth 100000
set_option maxHeartbeats 4000000
namespace Mine
set_option pp.deepTerms false
set_option pp.deepTerms.threshold 6
section
variable {prog : Program} {w : World} {A : Around} {C : Addr} {R : Result → Shared → Prop} {h : Heap} {g : Array GenState} {d : Drawn} {t : Nat} {os : OsState} {mro : List Value} {b : Value}
/-- object.__new__ of a class whose own maker is a function -/
theorem new_obj (P : PC h C mro b) (base : Looks (model prog w) h (Bind.staticBase (.ref C)) (.type "object")) (self : Looks (model prog w) h (isSubtype (.ref C) (.ref C)) true) (top : Looks (model prog w) h (isSubtype (.ref C) (.type "object")) true) (typ : Looks (model prog w) h (isInstance (.ref C) (.type "type")) true)
    (hq : R (.ok (.ret (.ref (h.objs.size + 1)))) ⟨(h.push emptyDict).push (instObj C h.objs.size), g, d, t, os⟩) :
    codeAny (model prog w) A (.call (.builtin "object.__new__") ⟨[.ref C], []⟩) R ⟨h, g, d, t, os⟩ := by
  obtain ⟨oc, od, cd, sl, hC, e1, e2, e4, e5, e6, e7⟩ := P.ex
  have made := made_object (M := model prog w) (h := h)
  have F := PySem.F.objNew
  refine codeAny_call_builtin_code (Code.quiet_builtin _ F.quiet) ?_
  simp only [checkBuiltinCall, F.kind, F.split, F.row]
  have here : Looks (model prog w) h (Bind.madeHere "object.__new__" (.ref C)) () := base.andThen (made.andThen (Looks.of_pure (by simp only [Option.map_some, bne_self_eq_false, Bool.false_eq_true, if_false])))
  have args : Bind.checkArgs "object.__new__" ⟨.hand, "object.__new__", "__new__", .cls, []⟩ ⟨[.ref C], []⟩ = pure () := by kernel_rfl
  rw [args]
  repeat (first | (with_reducible refine KFB.if_not (bne_self_eq_false _) ?_) | lk)
  refine codeAny_builtin F.entry ?_
  unfold Builtin.«object.__new__»
  have fin : ∀ A', wpAny (model prog w) A' (do
      let d ← if typeHasDict (.ref C) then some <$> alloc { cls := .type "dict", data := .dict #[] } else pure none
      ret (← newObj (.ref C) .plain d)) (fun fin s' => match fin with | .done f => R (.ok f) s' | .again c' => c'.quiet = true ∧ codeAny (model prog w) A c' R s') (fun e s' => R (.error e) s') ⟨h, g, d, t, os⟩ := by
    intro A'
    show wpAny _ _ ((alloc emptyDict >>= fun x => pure (some x)) >>= _) _ _ _
    refine wpAny_bind (wpAny_bind (wpAny_alloc (wpAny_pure (wpAny_bind ?_))))
    show wpAny _ _ (newObjAsIs _ _ _) _ _ _
    unfold newObjAsIs classHasDel
    refine wpAny_bind (wpAny_alloc (wpAny_bind (wpAny_bind (wpAny_load (Heap.get?_push_of_some _ (Heap.get?_push_of_some _ hC)) (wpAny_pure ?_)))))
    rw [e2]
    refine wpAny_pure (wpAny_pure ?_)
    show R _ _
    rw [Heap.size_push]
    exact hq
  repeat (first | (with_reducible refine KFB.if_not e1 ?_) | exact fin _ | lk)
end
section
variable {prog : Program} {w : World} {A₀ A : Around} {s : Shared} {base h₀ h2 : Heap} {outer : List Env} {env : Env} {L t2 : Addr} {m : Str → Option Value} {news : List (Addr × Obj)} {R : Result → Shared → Prop} {K : Frag} {p : Program} {loose : List Str} {mean : ExcName → Option Value} {mg mb : Str → Option Value}
/-- a def entered whose arguments' binding makes objects -/
theorem code_star {name qual : Str} {params : Arguments} {body : List Stmt} {scope : Scope} {dV kV doc pm cdv ct oc : Value} {an od : Option Addr} {osl : Array (Option Value)} {f : Addr} {args : Args} {binds : List (Str × Value)}
    (B : Below A₀ base outer h₀) (F : Fr h₀ L h2 m) (X₀ : K.In h₀) (N : News h₀ L h2 news) (T : Top p loose mean mg mb h₀) (hA : A.frames = some (env :: outer)) (hf : env.frame = some L) (hke : env.scope.kind = .function)
    (ho : s.heap.get? f = some ⟨oc, od, .func (fnOf name qual params body scope dV kV doc pm an cdv ct), osl⟩) (hcd : s.heap.CodeRec cdv qual) (hroom : A.depth < recursionLimit)
    (hbind : ∀ A' Q' E', Q' binds { s with heap := h2, toks := t2 } → wpAny (model prog w) A' (bindArgs (fnOf name qual params body scope dV kV doc pm an cdv ct) args) Q' E' s) (hloc : ∀ y ∈ binds, scope.names.lookup y.1 = some .local)
    (h : ∀ g L' h₁, Fr h₀ L g m → Fr g L' h₁ (fun y => binds.reverse.lookup y) → News g L' h₁ news → Below A base (env :: outer) g → K.In g → Top p loose mean mg mb g →
      wpAny (model prog w) (A.deeper (envOf qual scope L' f cdv)) (execs body (envOf qual scope L' f cdv))
        (fun fl s' => LeaveK h₀ L m g R (match fl with | .ret v => v | _ => .none) s')
        (fun e s' => wpAny (model prog w) (A.deeper (envOf qual scope L' f cdv)) (leaving (envOf qual scope L' f cdv) e) (fun _ s'' => R (.error e) s'') (fun e' s'' => R (.error e') s'') s')
        { s with heap := h₁, toks := t2 + binds.length })
    (hco : scope.isCoroutine = false) (hgen : scope.isGenerator = false) (hk : scope.kind = .function)
    (hcell : ∀ x ∈ scope.names, x.2 ≠ .cell) : codeAny (model prog w) A (.call (.ref f) args) R s := by
  obtain ⟨FG, BG, st, lv⟩ := groundX (R := R) (s := { s with heap := h2, toks := t2 }) B F N hA hf hke
  refine codeAny_call_function hroom ho rfl hco hgen rfl hcd (hbind _ _ _ ?_)
  refine wpAny_newFunctionEnv (s := { s with heap := h2, toks := t2 }) hcell hloc (fun h₁ hns hsb => ⟨((T.nolimit).keeps F.keep).fresh _ hsb, codeAny_func ?_⟩) hk
  have hk₁ : ∀ b o, h2.get? b = some o → h₁.get? b = some o := fun b o e => hsb.extBut b o (Nat.ne_of_lt (Heap.lt_size e)) (Heap.get?_push_of_some _ e)
  exact wpAny_mono (h _ h2.objs.size h₁ FG ⟨hns, fun b o e => hk₁ b o (of_hideAll _ e), Nat.le_of_eq (hideAll_size _ _)⟩
    (fun p hp => ⟨hk₁ _ _ (N p hp).1, Nat.ne_of_lt (Heap.lt_size (N p hp).1), hideAll_none _ (List.mem_map_of_mem hp)⟩) BG (X₀.keeps st) (T.keeps st)) (fun fl s' hl => lv _ _ hl) fun _ _ y => y
end
end Mine
end
section
open PySem PySem.W PyProof.Rows PySem.Calls
set_option Elab.async false
set_option maxRecDepth 100000
set_option maxHeartbeats 4000000
namespace Mine
set_option pp.deepTerms false
set_option pp.deepTerms.threshold 6
local macro_rules | `(tactic| walk_at "call builtin:object.__new__") => `(tactic| refine WStop.out ?_)
theorem PC.keeps {h h' : Heap} {a : Addr} {mro : List Value} {b : Value} (P : PC h a mro b) (k : ∀ x o, h.get? x = some o → h'.get? x = some o) : PC h' a mro b := by
  obtain ⟨oc, od, cd, sl, e, r⟩ := P.ex
  exact ⟨oc, od, cd, sl, k _ _ e, r⟩
noncomputable def obOf (P : Params) (a : Addr) : Obj := ((fragK.heap_1 P).lookup a).getD default
noncomputable def cdOf (P : Params) (a : Addr) : ClassData := match (obOf P a).data with
  | .cls cd => cd
  | _ => default
theorem pc_of {w : World} {h : Heap} {a : Addr} {mro : List Value} {b : Value} (X : (fragK.heap_1 w.params).In h) (e : ∀ P, (fragK.heap_1 P).lookup a = some ⟨(obOf P a).cls, (obOf P a).dict, .cls (cdOf P a), (obOf P a).slots⟩)
    (e1 : ∀ P, ((cdOf P a).abstract, (cdOf P a).hasDel, (cdOf P a).mro, (cdOf P a).bases, (cdOf P a).slotNames, (obOf P a).slots.toList[4]?) = (false, false, mro, [b], [], some (some .none))) : PC h a mro b := by
  have q := e1 w.params
  simp only [Prod.mk.injEq] at q
  exact ⟨_, _, _, _, X _ _ (e _), q.1, q.2.1, q.2.2.1, q.2.2.2.1, q.2.2.2.2.1, q.2.2.2.2.2⟩
theorem pc_625 {w : World} {h : Heap} (X : (fragK.heap_1 w.params).In h) : PC h 625 [.ref 625, .ref 148, .ref 121, .type "object"] (.ref 148) := pc_of X (fun P => by kernel_rfl) fun P => by kernel_rfl
theorem pc_148 {w : World} {h : Heap} (X : (fragK.heap_1 w.params).In h) : PC h 148 [.ref 148, .ref 121, .type "object"] (.ref 121) := pc_of X (fun P => by kernel_rfl) fun P => by kernel_rfl
theorem pc_121 {w : World} {h : Heap} (X : (fragK.heap_1 w.params).In h) : PC h 121 [.ref 121, .type "object"] (.type "object") := pc_of X (fun P => by kernel_rfl) fun P => by kernel_rfl
theorem io_fin {P : Params} {h₀ h : Heap} {L x dx : Addr} {news : List (Addr × Obj)} {txt : Str} {k0 k1 k2 u0 u1 tp : Tok}
    (N : News h₀ L h ((x, instObj 625 dx) :: (dx, dictOf [ent P (S "_StringIO__newline") k0 (.str (S "\n") u0), ent P (S "_StringIO__buf") k1 (.str txt u1), ent P (S "_StringIO__pos") k2 (.int 0 tp)] 3) :: news)) :
    ∃ q u : Nat → Tok, News h₀ L h ((dx, dictOf (ioD P q u txt 0 tp) 3) :: (x, inst 625 dx) :: news) :=
  ⟨fun i => match i with | 0 => k0 | 1 => k1 | _ => k2, fun i => match i with | 0 => u0 | _ => u1, fun q hq => N q (by
    (revert q; refine all_cons (.tail _ (.head _)) ?_; intro q hq)
    · (revert q; refine all_cons (.head _) ?_; intro q hq)
      · exact .tail _ (.tail _ hq))⟩
theorem io_new : ∀ {w : World} {dp un : Nat} {gd : Option (List Code)} {cn : Str} {cs : Scope} {a : Addr} {ccd : Value} {cl : List (Str × Addr)} {outer : List Env} {A₀ : Around} {base h₀ : Heap} {L : Addr} {m : Str → Option Value} {s : Shared} {Q E : Value → Shared → Prop} {p : Program} {loose : List Str} {mean : ExcName → Option Value} {mg mb : Str → Option Value}
   (_B : Below A₀ base outer h₀) (_F : Fr h₀ L s.heap m) (_X : (fragK.heap_1 w.params).In h₀) (_T : Top p loose mean mg mb h₀) (_hk : cs.kind = .function)
   {txt : Str} {t : Tok} {news : List (Addr × Obj)} (_N : News h₀ L s.heap news) (_hd : dp + 12 < recursionLimit) (_hu : un + 60 < cLine)
   (_ret : ∀ (x dx : Addr) (q u : Nat → Tok) (tp : Tok) (h' : Heap) (tk' : Nat), Fr h₀ L h' m → News h₀ L h' ((dx, dictOf (ioD w.params q u txt 0 tp) 3) :: (x, inst 625 dx) :: news) → @Ne Nat x dx → (∀ q ∈ news, @Ne Nat q.1 x) → (∀ q ∈ news, @Ne Nat q.1 dx) → Q (.ref x) { s with heap := h', toks := tk' }),
   wpAny (model PySem.Challenge.rw_kt0066_01.row.prog w) (ktrTop dp un gd cn cs L a ccd cl outer) (call (.ref 625) [.str txt t]) Q E s := by
  k_fill
  intro w dp un gd cn cs a ccd cl outer A₀ base h₀ L m s Q E p loose mean mg mb B F X T hk txt t news N hd hu ret
  obtain ⟨hh, g, d, tk, os⟩ := s
  dsimp only at F N ret ⊢
  have XH := X.keeps F.keep
  have P1 := pc_625 XH
  have P2 := pc_148 XH
  have P3 := pc_121 XH
  obtain ⟨oc, od, cd, sl, hC, e1, e2, e4, e5, e6, e7⟩ := P1.ex
  have base1 := static_three (M := model PySem.Challenge.rw_kt0066_01.row.prog w) P1 P2 P3
  have self1 : Looks (model PySem.Challenge.rw_kt0066_01.row.prog w) hh (isSubtype (.ref 625) (.ref 625)) true := looks_subIn XH (by k_is)
  have top1 : Looks (model PySem.Challenge.rw_kt0066_01.row.prog w) hh (isSubtype (.ref 625) (.type "object")) true := looks_subIn XH (by k_is)
  have typ1 : Looks (model PySem.Challenge.rw_kt0066_01.row.prog w) hh (isInstance (.ref 625) (.type "type")) true := looks_instIn XH (by k_is)
  have call1 : Looks (model PySem.Challenge.rw_kt0066_01.row.prog w) hh (specialOf (.ref 625) "__call__") (some (.builtin "type.__call__")) := looks_specialIn XH (by k_is)
  have made1 := P1.made (M := model PySem.Challenge.rw_kt0066_01.row.prog w)
  have mro1 := P1.mroL (M := model PySem.Challenge.rw_kt0066_01.row.prog w)
  refine wpAny_call (codeAny_of_tree ?_)
  show wpAny _ _ (callAny (.ref 625) _) _ _ _
  refine nd_load hC ?_
  show wpAny _ _ (callAny.viaDunder (.ref 625) _) _ _ _
  unfold callAny.viaDunder
  refine wpAny_bind (call1.at ?_)
  dsimp only
  rw [tc_bind]
  refine wpAny_bind (wpAny_pure (wpAny_bind (wpAny_pure ?_)))
  refine wpAny_pure (a := Fin.again (.call (.builtin "type.__call__") ⟨[.ref 625, .str txt t], []⟩)) (And.intro rfl ?_)
  refine codeAny_call_builtin_at (Code.quiet_builtin _ (by decide +kernel)) entry_typeCall (check_slot tc_kind tc_split typ1 (tc_args _ _ _) ?_)
  unfold Builtin.«type.__call__»
  repeat (first | ((with_reducible show wpAny _ _ (call (Value.ref _) _ _) _ _ _); refine WStop.out ?_) | ((with_reducible show wpAny _ _ (getAttr (Value.ref _) _ _) _ _ _); refine WStop.out ?_) | lk)
  unfold WStop
  (refine' cls_sm (mc := .type "type") (K := fragK.heap_1 w.params) (s := ⟨hh, g, d, tk, os⟩) F X ?hm ?hr ?he ?hp ?hv ?_; (case hm => k_is); (case hr => k_is); (case he => k_is); (case hp => k_is); (case hv => rfl))
  dsimp only
  repeat (first | ((with_reducible show wpAny _ _ (call (Value.ref _) _ _) _ _ _); refine WStop.out ?_) | ((with_reducible show wpAny _ _ (getAttr (Value.ref _) _ _) _ _ _); refine WStop.out ?_) | lk)
  unfold WStop
  have F1 : Fr h₀ L ((hh.push (seqObj "tuple" #[.str txt t] 0)).push emptyDict) m := (F.push _).push _
  have N1 : News h₀ L ((hh.push (seqObj "tuple" #[.str txt t] 0)).push emptyDict) ((hh.objs.size + 1, emptyDict) :: (hh.objs.size, seqObj "tuple" #[.str txt t] 0) :: news) := by
    have n1 := News.push F N (seqObj "tuple" #[.str txt t] 0) rfl
    have n2 := News.push (F.push (seqObj "tuple" #[.str txt t] 0)) n1 emptyDict rfl
    rw [Heap.size_push] at n2
    exact n2
  refine wpAny_call ?_
  (refine' code_star (K := fragK.heap_1 w.params) (s := ⟨hh, g, d, tk + 1, os⟩) (t2 := tk + 1) (binds := [(S "cls", .ref 625), (S "args", .ref hh.objs.size), (S "kwargs", .ref (hh.objs.size + 1))]) B F1 X N1 T ?kA ?kF ?kK (XH _ _ ?k6) (codeRec_of XH ?k7) ?k8 ?k9 ?kB ?_ ?c2 ?c3 ?c4 ?c5; (case kA => exact rfl); (case kF => exact rfl); (case kK => exact hk); (case k6 => k_is); (case k7 => k_is); (case k8 => ktr_room); (case kB => exact locs rfl); (case c2 => exact rfl); (case c3 => exact rfl); (case c4 => exact rfl); (case c5 => decide +kernel))
  case k9 =>
    intro A' Q' E' hq
    show wpAny _ A' (newTuple [Value.str txt t] >>= fun v => (alloc { cls := .type "dict", data := .dict #[] } >>= fun d => pure [(S "cls", Value.ref 625), (S "args", v), (S "kwargs", Value.ref d)])) Q' E' _
    refine wpAny_bind (wpAny_newTuple (wpAny_bind (wpAny_alloc (wpAny_pure ?_))))
    rw [Heap.size_push]
    exact hq
  intro g' L' h' FG F' N' B' X' T'
  (try dsimp only)
  clear N1 F1
  generalize hh.objs.size = z at *
  repeat' (first | (k_unfold; (try dsimp only)) | (k_end; wrow_close) | walk1)
  unfold WStop
  have XG := X'.keeps F'.keep
  have F2 := (F'.push emptyDict).push (instObj 625 h'.objs.size)
  have N2 := News.push (F'.push emptyDict) (News.push F' N' emptyDict rfl) (instObj 625 h'.objs.size) rfl
  rw [Heap.size_push] at N2
  refine wpAny_call (new_obj (pc_625 XG) (static_three (pc_625 XG) (pc_148 XG) (pc_121 XG)) (looks_subIn XG (by k_is)) (looks_subIn XG (by k_is)) (looks_instIn XG (by k_is)) ?_)
  refine leaveK_ F2 N2 fun Fq Nq => ?_
  dsimp only
  generalize hh2 : (h'.push emptyDict).push (instObj 625 h'.objs.size) = h2 at *
  have hlt : ∀ q ∈ news, @LT.lt Nat _ q.1 h'.objs.size := fun q hq => Heap.lt_size (N' q (.tail _ (.tail _ hq))).1
  replace Nq : News h₀ L h2 ((h'.objs.size + 1, instObj 625 h'.objs.size) :: (h'.objs.size, emptyDict) :: news) := fun q hq => Nq q (by
    (revert q; refine all_cons (.head _) ?_; intro q hq)
    (revert q; refine all_cons (.tail _ (.head _)) ?_; intro q hq)
    exact .tail _ (.tail _ (.tail _ (.tail _ hq))))
  clear F2 N2 N' F' hh2 FG B' X' T' XG XH P1 P2 P3 hC e1 e2 e4 e5 e6 e7 base1 self1 top1 typ1 call1 made1 mro1
  generalize h'.objs.size = dx at *
  have X2 := X.keeps Fq.keep
  have t1 : Looks (model PySem.Challenge.rw_kt0066_01.row.prog w) h2 (typeOf (.ref (dx + 1))) (.ref 625) := (Looks.ld (Nq _ (.head _)).1).andThen .now
  have s1 : Looks (model PySem.Challenge.rw_kt0066_01.row.prog w) h2 (isSubtype (.ref 625) (.ref 625)) true := looks_subIn X2 (by k_is)
  have i1 : Looks (model PySem.Challenge.rw_kt0066_01.row.prog w) h2 (typeLookup (.ref 625) "__init__") (some (.ref 395)) := looks_findIn X2 (by k_is)
  have b1 : Looks (model PySem.Challenge.rw_kt0066_01.row.prog w) h2 (bindSpecial (.ref 395) (.ref (dx + 1))) (.ref 395, [.ref (dx + 1)]) := bind_fn X2 _ (by k_is)
  unfold isInstance callSpecial? specialOf
  repeat (first | ((with_reducible show wpAny _ _ (call (Value.ref _) _ _) _ _ _); refine WStop.out ?_) | ((with_reducible show wpAny _ _ (getAttr (Value.ref _) _ _) _ _ _); refine WStop.out ?_) | lk)
  unfold WStop
  generalize hx : dx + 1 = x at *
  refine wpAny_call ?_
  (refine' code_def (binds := [(S "self", .ref x), (S "initial_value", .str txt t), (S "newline", .str (S "\n") 809)]) ?k1 ?k2 ?k3 ?k4 ?k5 ?kA ?kF ?kK ?k6 ?k7 ?k8 ?k9 ?kB ?_ ?c2 ?c3 ?c4 ?c5; (case kA => exact rfl); (case kF => exact rfl); (case kK => assumption); (case k1 => k_asm); (case k2 => k_asm); (case k3 => k_asm); (case k4 => k_asm); (case k5 => k_asm); (case k6 => k_is); (case k7 => k_is); (case k8 => ktr_room); (case k9 => first | exact BindsTo.of_eq rfl | exact binds_K (by k_in) rfl (by k_is) rfl rfl rfl); (case c5 => decide); (case kB => exact locs rfl); (case c2 => exact rfl); (case c3 => exact rfl); (case c4 => exact rfl); k_whole; intro g' L' h' FG' F' N' B' X' T'; (try dsimp only); (try k_lift B'); (try k_fold))
  repeat' (first | (k_unfold; (try dsimp only)) | (k_end; wrow_close) | walk1)
  rename Fr h₀ _ _ _ => FZ
  rename News h₀ _ _ _ => NZ
  refine wpAny_pure (wpAny_pure ?_)
  have hne : @Ne Nat x dx := by omega
  obtain ⟨q, u, NF⟩ := io_fin NZ
  refine ret x dx q u _ _ _ FZ NF hne (fun q hq => ?_) fun q hq => ?_
  · have := hlt q hq; show @Ne Nat q.1 x; omega
  · have := hlt q hq; show @Ne Nat q.1 dx; omega
end Mine
end
section
open PySem PySem.W PySem.W.X PyProof.Rows
set_option Elab.async false
set_option maxRecDepth 100000
set_option maxHeartbeats 8000000
namespace Mine

theorem mem_news {h₀ h h' : Heap} {L : Addr} {m : Str → Option Value} {news mem : List (Addr × Obj)} (F : Fr h₀ L h m) (N : News h₀ L h news) (D : Mem h h' [] mem) :
    Fr h₀ L h' m ∧ News h₀ L h' (mem ++ news) ∧ ∀ p ∈ mem, ∀ q ∈ news, q.1 ≠ p.1 := by
  have k : ∀ b o, h.get? b = some o → h'.get? b = some o := fun b o e => D.keep b o e (by rw [show away [] b = true from rfl, Bool.or_true])
  refine ⟨F.keeps k, fun p hp => ?_, fun p hp q hq e => ?_⟩
  · rcases List.mem_append.mp hp with hp | hp
    · obtain ⟨h1, h2⟩ := D.nw p hp
      refine ⟨h1, fun e => ?_, ?_⟩
      · obtain ⟨oL, _, _, hL, _⟩ := F.ns
        rw [e, hL] at h2; cases h2
      · cases q : h₀.get? p.1 with
        | none => rfl
        | some o => rw [F.keep _ _ q] at h2; cases h2
    · exact ⟨k _ _ (N p hp).1, (N p hp).2⟩
  · have h1 := (N q hq).1
    have h2 := (D.nw p hp).2
    rw [e, h2] at h1; cases h1
noncomputable def DqMade (s : Shared) (v : Value) (s' : Shared) : Prop := ∃ (x : Addr) (h' : Heap), v = .ref x ∧ s' = { s with heap := h' } ∧ Mem s.heap h' [] [(x, dqObj)]
section
theorem dq_fin {s : Shared} {x : Addr} {h' : Heap} (D : Mem s.heap h' [] [(x, dqObj)]) : DqMade s (.ref x) { s with heap := h' } := ⟨x, h', rfl, rfl, D⟩
local macro_rules | `(tactic| x_close) => `(tactic| exact dq_fin (by assumption))
theorem dq_made (w : World) (A : Around) (s : Shared) : wpAny (model PySem.Challenge.rw_kt0066_01.row.prog w) A (call (.type "collections.deque") []) (DqMade s) (fun _ _ => False) s := by
  x_run
end
theorem dq_new {w : World} {A : Around} {s : Shared} {Q E : Value → Shared → Prop} {h₀ : Heap} {L : Addr} {m : Str → Option Value} {news : List (Addr × Obj)} (F : Fr h₀ L s.heap m) (N : News h₀ L s.heap news)
    (ret : ∀ (D : Addr) (h' : Heap), Fr h₀ L h' m → News h₀ L h' ((D, dqObj) :: news) → (∀ q ∈ news, @Ne Nat q.1 D) → Q (.ref D) { s with heap := h' }) :
    wpAny (model PySem.Challenge.rw_kt0066_01.row.prog w) A (call (.type "collections.deque") []) Q E s := by
  refine wpAny_mono (dq_made w A s) (fun v s' h => ?_) fun _ _ e => e.elim
  obtain ⟨x, h', rfl, rfl, D⟩ := h
  obtain ⟨F', N', l⟩ := mem_news F N D
  exact ret x h' F' N' (l _ (.head _))
end Mine
end
section
open PySem PySem.W PySem.W.X PyProof.Rows
set_option Elab.async false
set_option maxRecDepth 100000
set_option maxHeartbeats 8000000
namespace Mine

theorem led_of {g h : Heap} {L : Addr} {P : Params} {k0 k1 k2 k3 k4 k5 k6 k7 k8 k9 k10 k11 k12 k13 k14 k15 k16 k17 k18 t4 t5 t6 t8 t9 t10 t11 t13 t14 t15 t18 tp : Tok} {q u : Nat → Tok} {txt : Str} {l dl x dx pb fs : Addr} {news : List (Addr × Obj)} {s₀ : Shared}
    (N : News g L h ((fs, dqObj) :: (pb, dqObj) :: (dx, dictOf (ioD P q u txt 0 tp) 3) :: (x, inst 625 dx) :: (l, inst 760 dl) :: (dl, dictOf [ent P (S "instream") k0 (.ref x), ent P (S "infile") k1 (.none), ent P (S "posix") k2 (.bool true), ent P (S "eof") k3 (.none), ent P (S "commenters") k4 (.str (S "") t4), ent P (S "wordchars") k5 (.str wordS t5), ent P (S "whitespace") k6 (.str (S " \t\r\n") t6), ent P (S "whitespace_split") k7 (.bool true), ent P (S "quotes") k8 (.str (S "'\"") t8), ent P (S "escape") k9 (.str (S "\\") t9), ent P (S "escapedquotes") k10 (.str (S "\"") t10), ent P (S "state") k11 (.str (S " ") t11), ent P (S "pushback") k12 (.ref pb), ent P (S "lineno") k13 (.int 1 t13), ent P (S "debug") k14 (.int 0 t14), ent P (S "token") k15 (.str (S "") t15), ent P (S "filestack") k16 (.ref fs), ent P (S "source") k17 (.none), ent P (S "_punctuation_chars") k18 (.str (S "") t18)] 19) :: news))
    (h1 : ∀ p ∈ news, @LT.lt Nat _ p.1 dl) (h2 : @LT.lt Nat _ dl l) (h3 : @Ne Nat x dx) (h4 : @Ne Nat l x ∧ @Ne Nat dl x ∧ ∀ p ∈ news, @Ne Nat p.1 x) (h5 : @Ne Nat l dx ∧ @Ne Nat dl dx ∧ ∀ p ∈ news, @Ne Nat p.1 dx)
    (h6 : @Ne Nat dx pb ∧ @Ne Nat x pb ∧ @Ne Nat l pb ∧ @Ne Nat dl pb ∧ ∀ p ∈ news, @Ne Nat p.1 pb) (h7 : @Ne Nat pb fs ∧ @Ne Nat dx fs ∧ @Ne Nat x fs ∧ @Ne Nat l fs ∧ @Ne Nat dl fs ∧ ∀ p ∈ news, @Ne Nat p.1 fs) :
    ∃ c : LxC, c.P = P ∧ c.l = l ∧ c.dl = dl ∧ c.x = x ∧ c.dx = dx ∧ c.pb = pb ∧ c.fs = fs ∧ c.buf = txt ∧ c.rest = (pb, dqObj) :: (fs, dqObj) :: news ∧ (c.x ≠ c.dx ∧ c.dl ≠ c.dx ∧ c.l ≠ c.dx ∧ c.x ≠ c.dl ∧ c.l ≠ c.dl ∧ (∀ p ∈ c.rest, p.1 ≠ c.dx) ∧ (∀ p ∈ c.rest, p.1 ≠ c.dl)) ∧ News g L h (c.led (.str (S " ") t11) (S "") 0 t15 tp t13 1) := by
  refine ⟨⟨P, g, L, l, dl, x, dx, pb, fs, (pb, dqObj) :: (fs, dqObj) :: news, fun i => [k0, k1, k2, k3, k4, k5, k6, k7, k8, k9, k10, k11, k12, k13, k14, k15, k16, k17, k18].getD i 0, fun i => [0, 0, 0, 0, t4, t5, t6, 0, t8, t9, t10, t11, 0, t13, t14, t15, 0, 0, t18].getD i 0, q, u, txt, s₀⟩, rfl, rfl, rfl, rfl, rfl, rfl, rfl, rfl, rfl, ⟨h3, h5.2.1, h5.1, Ne.symm h4.2.1, Nat.ne_of_gt h2, ?_, ?_⟩, ?_⟩
  · intro p hp
    (revert p; refine all_cons (Ne.symm h6.1) ?_; intro p hp)
    (revert p; refine all_cons (Ne.symm h7.2.1) ?_; intro p hp)
    exact h5.2.2 p hp
  · intro p hp
    (revert p; refine all_cons (Ne.symm h6.2.2.2.1) ?_; intro p hp)
    (revert p; refine all_cons (Ne.symm h7.2.2.2.2.1) ?_; intro p hp)
    exact Nat.ne_of_lt (h1 p hp)
  intro p hp
  refine N p ?_
  (revert p; refine all_cons (.tail _ (.tail _ (.head _))) ?_; intro p hp)
  (revert p; refine all_cons (.tail _ (.tail _ (.tail _ (.head _)))) ?_; intro p hp)
  (revert p; refine all_cons (.tail _ (.tail _ (.tail _ (.tail _ (.tail _ (.head _)))))) ?_; intro p hp)
  (revert p; refine all_cons (.tail _ (.tail _ (.tail _ (.tail _ (.head _))))) ?_; intro p hp)
  (revert p; refine all_cons (.tail _ (.head _)) ?_; intro p hp)
  (revert p; refine all_cons (.head _) ?_; intro p hp)
  exact .tail _ (.tail _ (.tail _ (.tail _ (.tail _ (.tail _ hp)))))

theorem un_under (A : Around) (args : Args) : (A.under (.builtin "type.__call__" args)).units = A.units + 1 := rfl
structure BFacts (w : World) (base : Heap) (p : Program) (loose : List Str) (mean : ExcName → Option Value) (mg mb : Str → Option Value) : Prop where
  X : (fragK.heap_1 w.params).In base
  T : Top p loose mean mg mb base

local macro_rules | `(tactic| walk_at "call type:list") => `(tactic| refine WStop.out ?_)
local macro_rules | `(tactic| walk_at "call type:list cons nil") => `(tactic| refine WStop.out ?_)

theorem ne_in {a D : Nat} {o : Obj} {l : List (Addr × Obj)} (h : ∀ q ∈ l, @Ne Nat q.1 D) (m : (a, o) ∈ l) : a ≠ D := h _ m
theorem ne_in' {a D : Nat} {o : Obj} {l : List (Addr × Obj)} (h : ∀ q ∈ l, @Ne Nat q.1 D) (m : (a, o) ∈ l) : D ≠ a := (h _ m).symm
local macro_rules | `(tactic| k_ne) => `(tactic| first | exact ne_in (by assumption) (by k_mem) | exact ne_in' (by assumption) (by k_mem))
theorem split_spec : ∀ {w : World} {un : Nat} {gd : Option (List Code)} {cn : Str} {cs : Scope} {a : Addr} {ccd : Value} {outer : List Env} {A₀ : Around} {base h₀ : Heap} {L : Addr} {m : Str → Option Value} {s : Shared} {Q E : Value → Shared → Prop} {p : Program} {loose : List Str} {mean : ExcName → Option Value} {mg mb : Str → Option Value}
   (_B : Below A₀ base outer h₀) (_F : Fr h₀ L s.heap m) (_X : (fragK.heap_1 w.params).In h₀) (_T : Top p loose mean mg mb h₀) (_hk : cs.kind = .function)
   {txt : Str} {tk : Tok} {ms : List Nat} {news : List (Addr × Obj)} (_N : News h₀ L s.heap news) (_BF : BFacts w base p loose mean mg mb) (_D : KtsDicts (outer.filterMap (·.frame)) h₀)
   (_ht : Toks txt.cps.toList ms) (_hbl : txt.length < 500) (_hu : un + 160 < cLine)
   (_ret : ∀ (g' : Heap) (D : Addr) (vs : List Value) (ep : Nat) (h' : Heap) (tk' : Nat), RowsV vs ms → KtsTurn (outer.filterMap (·.frame)) h₀ g' → Fr g' L h' m → News g' L h' ((D, PySem.W.listOf vs.toArray ep) :: news) → (∀ q ∈ news, @Ne Nat q.1 D) → Below A₀ base outer g' → (fragK.heap_1 w.params).In g' → Top p loose mean mg mb g' → KtsDicts (outer.filterMap (·.frame)) g' → Q (.ref D) { s with heap := h', toks := tk' }),
   wpAny (model PySem.Challenge.rw_kt0066_01.row.prog w) (ktrTop 306 un gd cn cs L a ccd [] outer) (call (.ref 772) [.str txt tk]) Q E s := by
  k_fill
  intro w un gd cn cs a ccd outer A₀ base h₀ L m s Q E p loose mean mg mb B F X T hk txt tk ms news N BF D ht hbl hu ret
  refine wpAny_call ?_
  (refine' code_defS (g₀ := h₀) ?k1 ?k2 ?k3 ?k4 ?k5 ?XB ?TB ?D ?T0 ?kA ?k6 ?k7 ?k8 ?k9 ?kB ?_ ?cK ?c2 ?c3 ?c4 ?c5; (case kA => exact rfl); (case k2 => k_asm); (case k1 => k_asm); (case XB => exact BF.X); (case TB => exact BF.T); (case D => assumption); (case T0 => exact KtsTurn.refl); (case k3 => k_asm); (case k4 => k_asm); (case k5 => k_asm); (case k6 => k_is); (case k7 => k_is); (case k8 => ktr_room); (case k9 => first | exact BindsTo.of_eq rfl | exact binds_K (X.keeps F.keep) rfl (by k_is) rfl rfl rfl); (case kB => exact locs rfl); (case cK => assumption); (case c2 => exact rfl); (case c3 => exact rfl); (case c4 => exact rfl); (case c5 => decide); k_whole; intro g' L' h' FG' F' N' B' X' T' D'; (try dsimp only); (try k_lift B'); (try k_fold))
  repeat' (first | (k_unfold; (try dsimp only)) | (k_end; kc_close) | (k_here; (with_reducible show wpAny _ _ (call (Value.ref 625) _) _ _ _); k_dflt (refine io_new (by k_asm) (by k_asm) (by k_asm) (by k_asm) (by first | exact rfl | assumption) (by k_asm) (by ktr_room) (by (have hcL9 := cLine_is; (simp only [units_in1, units_deeper, Around.mark_units, units_caller, un_under]); (try dsimp only [ktrTop]); omega)) ?_; k_whole); intro xww dxww qww uww tpww hww tkww Fww Nww hneww l1ww l2ww; (try k_sweep)) | ((with_reducible show wpAny _ _ (call (Value.type "collections.deque") _) _ _ _); (k_here; k_dflt (refine dq_new (by k_asm) (by k_asm) ?_; k_whole); intro Dww hww Fww Nww l1ww; (try k_sweep))) | walk1)
  (rename News _ _ _ _ => NN)
  (rename Fr _ _ _ _ => FF)
  unfold WStop
  (repeat (rename (∀ q : Addr × Obj, q ∈ _ :: _ → @Ne Nat q.1 _) => l0; simp only [List.forall_mem_cons] at l0; revert l0)); intros
  obtain ⟨c, e1, e2, e3, e4, e5, e6, e7, e8, e9, ⟨n1, n2, n3, n4, n5, n6, n7⟩, NL⟩ := led_of (s₀ := s) NN (by assumption) (by assumption) (by assumption) (by assumption) (by assumption) (by assumption) (by assumption)
  rw [← e2]
  k_dflt (refine' list_lex (c := c) (h₀ := g') (rest0 := news) (chs := txt.cps.toList) (ms := ms) ?jB FF ?jX ?jT ?jk e1 ?jr ?jb ?j1 ?j2 ?j3 ?j4 ?j5 ?j6 ?j7 ?jK ?jd ?ju ht ?jc NL ?_)
  (case jB => assumption)
  (case jX => assumption)
  (case jT => assumption)
  (case jk => exact rfl)
  (case jr => rw [e6, e7, e9])
  (case jb => rw [e8]; exact hbl)
  (case j1 => exact n1)
  (case j2 => exact n2)
  (case j3 => exact n3)
  (case j4 => exact n4)
  (case j5 => exact n5)
  (case j6 => exact n6)
  (case j7 => exact n7)
  (case jK => assumption)
  (case jd => ktr_room)
  (case ju => ktr_units)
  (case jc => rw [e8])
  intro g9 D9 vs ep9 pos9 tt9 tp9 tl9 ln9 h9 tk9 hv9 lt9 KT9 B9 F9 N9
  have N10 : News g9 L' h9 ((D9, PySem.W.listOf vs.toArray ep9) :: news) := by
    intro p hp
    (revert p; refine all_cons (N9 _ (.head _)) ?_; intro p hp)
    · refine N9 _ (.tail _ (.tail _ (.tail _ (.tail _ (.tail _ ?_)))))
      rw [e9]
      exact .tail _ (.tail _ hp)
  have nD9 : ∀ q ∈ news, @Ne Nat q.1 D9 := fun q hq => Nat.ne_of_lt (lt9.2.2.2.2 q (by rw [e9]; exact .tail _ (.tail _ hq)))
  clear lt9 NL NN
  clear N9
  repeat' (first | (k_unfold; (try dsimp only)) | (k_end; kc_close) | (k_here; (with_reducible show wpAny _ _ (call (Value.ref 625) _) _ _ _); k_dflt (refine io_new (by k_asm) (by k_asm) (by k_asm) (by k_asm) (by first | exact rfl | assumption) (by k_asm) (by ktr_room) (by (have hcL9 := cLine_is; (simp only [units_in1, units_deeper, Around.mark_units, units_caller, un_under]); (try dsimp only [ktrTop]); omega)) ?_; k_whole); intro xww dxww qww uww tpww hww tkww Fww Nww hneww l1ww l2ww; (try k_sweep)) | ((with_reducible show wpAny _ _ (call (Value.type "collections.deque") _) _ _ _); (k_here; k_dflt (refine dq_new (by k_asm) (by k_asm) ?_; k_whole); intro Dww hww Fww Nww l1ww; (try k_sweep))) | walk1)
  all_goals (refine' ret _ D9 vs ep9 _ _ hv9 ?jT ?jF ?jN nD9 ?jB ?jX ?jP ?jK; (case jF => k_asm); (case jT => assumption); (case jN => k_asm); (case jB => assumption); (case jX => assumption); (case jP => assumption); (case jK => assumption))
end Mine
end
section
open PySem
set_option Elab.async false
set_option maxRecDepth 100000
set_option maxHeartbeats 8000000
namespace Mine
open PySem.Sre
inductive Ends (q : Option (Nat × Nat)) : Nat → M → Prop
  | done {n m} : m.outcome = some .matched → q = some (m.start, m.handed) → Ends q n m
  | fail {n m} : m.outcome = some .failed → q = none → Ends q n m
  | step {n m} : m.outcome = none → Ends q n m.step → Ends q (n + 1) m
theorem Ends.mono {q : Option (Nat × Nat)} {n n' : Nat} {m : M} (h : Ends q n m) (l : n ≤ n') : Ends q n' m := by
  induction h generalizing n' with
  | done a b => exact .done a b
  | fail a b => exact .fail a b
  | step a _ ih =>
    obtain ⟨k, rfl⟩ : ∃ k, n' = k + 1 := ⟨n' - 1, by lia⟩
    exact .step a (ih (by lia))
theorem E_step {q : Option (Nat × Nat)} {n : Nat} {m m' : M} (ho : m.outcome = none) (hs : m.step = m') (h : Ends q n m') : Ends q (n + 1) m := .step ho (hs ▸ h)
theorem step_exec {m : M} (ho : m.outcome = none) (ha : m.answer = none) (hp : m.pc < m.code.size) : m.step = m.exec := by
  unfold M.step
  rw [ho, ha]
  simp [hp]
theorem E_lit {q : Option (Nat × Nat)} {n : Nat} {m : M} (ho : m.outcome = none) (ha : m.answer = none) (hp : m.pc < m.code.size) (hw : m.word 0 = 16) (hl : m.pos < m.lim)
    (hc : m.text.getD m.pos 0 = m.code.getD (m.pc + 1) 0) (h : Ends q n { m with seen := m.seen.add 16, pc := m.pc + 2, pos := m.pos + 1 }) : Ends q (n + 1) m := by
  refine E_step ho ?_ h
  rw [step_exec ho ha hp]
  have hw' : m.code.getD m.pc 0 = 16 := hw
  unfold M.exec
  rw [hw]
  show (if m.pos ≥ m.lim then _ else match accepts m.code m.pc (m.text.getD m.pos 0) (m.seen.add 16) with | .error why => _ | .ok (false, seen) => _ | .ok (true, seen) => _) = _
  rw [if_neg (by lia)]
  have e : accepts m.code m.pc (m.text.getD m.pos 0) (m.seen.add 16) = .ok (true, m.seen.add 16) := by
    unfold accepts
    rw [hw', hc]
    show Except.ok (m.code.getD (m.pc + 1) 0 == m.code.getD (m.pc + 1) 0, m.seen.add 16) = _
    rw [beq_self_eq_true]
  rw [e]
  have f : itemWidth m.code m.pc = 2 := by
    unfold itemWidth
    rw [hw']
    rfl
  show { m with seen := m.seen.add 16, pc := m.pc + itemWidth m.code m.pc, pos := m.pos + 1 } = _
  rw [f]
theorem E_litNo {q : Option (Nat × Nat)} {n : Nat} {m : M} (ho : m.outcome = none) (ha : m.answer = none) (hp : m.pc < m.code.size) (hw : m.word 0 = 16)
    (hc : m.lim ≤ m.pos ∨ m.text.getD m.pos 0 ≠ m.code.getD (m.pc + 1) 0) (h : Ends q n { m with seen := m.seen.add 16, answer := some false }) : Ends q (n + 1) m := by
  refine E_step ho ?_ h
  rw [step_exec ho ha hp]
  have hw' : m.code.getD m.pc 0 = 16 := hw
  unfold M.exec
  rw [hw]
  show (if m.pos ≥ m.lim then M.say { m with seen := m.seen.add 16 } false else match accepts m.code m.pc (m.text.getD m.pos 0) (m.seen.add 16) with | .error why => _ | .ok (false, seen) => _ | .ok (true, seen) => _) = _
  by_cases hl : m.pos ≥ m.lim
  · rw [if_pos hl]
    rfl
  rw [if_neg hl]
  have hc' : m.text.getD m.pos 0 ≠ m.code.getD (m.pc + 1) 0 := by
    rcases hc with a | b
    · exact absurd a hl
    · exact b
  have e : accepts m.code m.pc (m.text.getD m.pos 0) (m.seen.add 16) = .ok (false, m.seen.add 16) := by
    unfold accepts
    rw [hw']
    show Except.ok (m.text.getD m.pos 0 == m.code.getD (m.pc + 1) 0, m.seen.add 16) = _
    rw [beq_eq_false_iff_ne.mpr hc']
  rw [e]
  rfl
theorem E_bol {q : Option (Nat × Nat)} {n : Nat} {m : M} {b : Bool} (ho : m.outcome = none) (ha : m.answer = none) (hp : m.pc < m.code.size) (hw : m.word 0 = 6) (hw1 : m.word 1 = 1)
    (hb : (m.pos == 0 || m.text.getD (m.pos - 1) 0 == 10) = b)
    (h : Ends q n (if b then { m with seen := (m.seen.add 6).add 44, pc := m.pc + 2 } else { m with seen := (m.seen.add 6).add 44, answer := some false })) : Ends q (n + 1) m := by
  refine E_step ho ?_ h
  rw [step_exec ho ha hp]
  unfold M.exec
  rw [hw]
  show (match M.isAt { m with seen := m.seen.add 6 } (m.word 1) with | .error why => _ | .ok yes => _) = _
  rw [hw1]
  have e : M.isAt { m with seen := m.seen.add 6 } 1 = .ok b := by
    unfold M.isAt
    show Except.ok (m.pos == 0 || m.text.getD (m.pos - 1) 0 == 10) = _
    rw [hb]
  rw [e]
  have hw1' : M.word { m with seen := m.seen.add 6 } 1 = 1 := hw1
  cases b
  · show M.say { m with seen := (m.seen.add 6).add (43 + M.word { m with seen := m.seen.add 6 } 1) } false = _
    rw [hw1']
    rfl
  · show { m with seen := (m.seen.add 6).add (43 + M.word { m with seen := m.seen.add 6 } 1), pc := m.pc + 2 } = _
    rw [hw1']
    rfl

noncomputable abbrev c1 : Array Nat := #[14, 4, 0, 1, 1, 6, 1, 16, 46, 1]
noncomputable abbrev c2 : Array Nat := #[14, 9, 4, 1, 2, 16, 10, 16, 13, 0, 7, 7, 16, 13, 16, 10, 15, 18, 5, 16, 10, 15, 13, 11, 16, 13, 5, 5, 0, 16, 10, 1, 15, 2, 0, 1]
noncomputable abbrev At (code text : Array Nat) (must first : Bool) (pc0 s : Nat) (sn : Seen) : M :=
  { code, text, lim := text.size, start := s, lastStart := text.size, mustAdvance := must, pc := pc0, pos := s, handed := s, outermost := first, marks := #[],
    frames := [{ wait := .nextStart, pc := pc0, pos := s, outermost := first }], weight := 1, seen := sn }
section re1
variable {text : Array Nat} {must first : Bool} {s : Nat} {sn : Seen} {q : Option (Nat × Nat)} {n : Nat}
noncomputable abbrev dotAt (text : Array Nat) (s : Nat) : Prop := (s == 0 || text.getD (s - 1) 0 == 10) = true ∧ s < text.size ∧ text.getD s 0 = 46
/-- an attempt that fails goes on one place further, or fails for good -/
theorem at_no {code : Array Nat} {pc pc0 : Nat} {sn' : Seen} (hf : M.hasFirstSet { At code text false false pc0 s sn' with frames := [] } = false)
    (h : if s < text.size then Ends q n (At code text false false pc0 (s + 1) sn') else q = none)
    {p : Nat} {o : Bool} {hd : Nat} : Ends q (n + 2) { At code text must first pc0 s sn with pc := pc, pos := p, handed := hd, outermost := o, seen := sn', answer := some false } := by
  by_cases hs : s < text.size
  · rw [if_pos hs] at h
    refine (E_step rfl ?_ h).mono (Nat.le_succ _)
    show (if s < text.size then _ else _) = _
    rw [if_pos hs]
    unfold M.attemptFrom
    have : M.hasFirstSet { At code text false false pc0 s sn' with frames := [] } = false := hf
    show (if !(M.hasFirstSet _) then _ else _) = _
    rw [if_pos (by
      show (!(M.hasFirstSet _)) = true
      unfold M.hasFirstSet at this ⊢
      dsimp only at this ⊢
      rw [this]; rfl)]
    rfl
  · rw [if_neg hs] at h
    refine E_step rfl (m' := { At code text must first pc0 s sn with pc := pc0, pos := s, handed := hd, outermost := first, seen := sn', answer := some false, frames := [], weight := 0 }) ?_ ?_
    · show (if s < text.size then _ else _) = _
      rw [if_neg hs]
      rfl
    · exact E_step rfl rfl (.fail rfl h)
theorem re1_no (hd : ¬ dotAt text s) (h : ∀ sn', if s < text.size then Ends q n (At c1 text false false 5 (s + 1) sn') else q = none) : Ends q (n + 4) (At c1 text must first 5 s sn) := by
  cases hb : (s == 0 || text.getD (s - 1) 0 == 10)
  · refine (E_bol rfl rfl (Nat.le_of_ble_eq_true rfl) rfl rfl hb ?_ : Ends q (n + 3) _).mono (Nat.le_succ _)
    exact at_no (sn := sn) rfl (h _)
  · refine E_bol rfl rfl (Nat.le_of_ble_eq_true rfl) rfl rfl hb ?_
    refine E_litNo (m := { At c1 text must first 5 s sn with seen := (sn.add 6).add 44, pc := 7 }) rfl rfl (Nat.le_of_ble_eq_true rfl) rfl ?_ ?_
    · by_cases hl : text.size ≤ s
      · exact .inl hl
      · exact .inr fun z => hd ⟨hb, by lia, z⟩
    · exact at_no (sn := sn) rfl (h _)
theorem re1_no' (hd : ¬ dotAt text s) : ∃ sn', ∀ q n, (if s < text.size then Ends q n (At c1 text false false 5 (s + 1) sn') else q = none) → Ends q (n + 4) (At c1 text must first 5 s sn) := by
  cases hb : (s == 0 || text.getD (s - 1) 0 == 10)
  · refine ⟨(sn.add 6).add 44, fun q n h => (E_bol rfl rfl (Nat.le_of_ble_eq_true rfl) rfl rfl hb ?_ : Ends q (n + 3) _).mono (Nat.le_succ _)⟩
    exact at_no (sn := sn) rfl h
  · refine ⟨((sn.add 6).add 44).add 16, fun q n h => E_bol rfl rfl (Nat.le_of_ble_eq_true rfl) rfl rfl hb ?_⟩
    refine E_litNo (m := { At c1 text must first 5 s sn with seen := (sn.add 6).add 44, pc := 7 }) rfl rfl (Nat.le_of_ble_eq_true rfl) rfl ?_ ?_
    · by_cases hl : text.size ≤ s
      · exact .inl hl
      · exact .inr fun z => hd ⟨hb, by lia, z⟩
    · exact at_no (sn := sn) rfl h
theorem re1_yes (hd : dotAt text s) (hq : q = some (s, s + 1)) : Ends q (n + 5) (At c1 text must first 5 s sn) := by
  refine E_bol rfl rfl (Nat.le_of_ble_eq_true rfl) rfl rfl hd.1 ?_
  refine E_lit (m := { At c1 text must first 5 s sn with seen := (sn.add 6).add 44, pc := 7 }) rfl rfl (Nat.le_of_ble_eq_true rfl) rfl hd.2.1 hd.2.2 ?_
  refine E_step (m' := { At c1 text must first 5 s sn with seen := ((((sn.add 6).add 44).add 16).add 1), pc := 9, pos := s + 1, handed := s + 1, answer := some true }) rfl ?_ ?_
  · show (if (first && ((false && s + 1 != text.size) || (must && s + 1 == s))) = true then _ else _) = _
    rw [if_neg (by
      have : (s + 1 == s) = false := by simp
      rw [this]; simp)]
    rfl
  · exact E_step rfl rfl (E_step rfl rfl (.done rfl hq))
end re1
section re2
variable {text : Array Nat} {must first : Bool} {s : Nat} {sn : Seen} {q : Option (Nat × Nat)} {n : Nat}
theorem E_branch (h : Ends q n { At c2 text must first 10 s sn with pc := 12, frames := [{ wait := .nextBranch, pc := 11, pos := s, outermost := first }, { wait := .nextStart, pc := 10, pos := s, outermost := first }], weight := 2, seen := sn.add 7 }) : Ends q (n + 1) (At c2 text must first 10 s sn) :=
  E_step rfl rfl h
theorem E_end {p hd : Nat} {sn' : Seen} (hm : must = false) (hq : q = some (s, p)) {k : Nat} :
    Ends q (6 + 1) { At c2 text must first 10 s sn with pc := 35, pos := p, handed := hd, outermost := first, frames := [{ wait := .nextBranch, pc := k, pos := s, outermost := first }, { wait := .nextStart, pc := 10, pos := s, outermost := first }], weight := 2, seen := sn' } := by
  subst hm
  refine E_step (m' := { At c2 text false first 10 s sn with pc := 35, pos := p, handed := p, outermost := first, frames := [{ wait := .nextBranch, pc := k, pos := s, outermost := first }, { wait := .nextStart, pc := 10, pos := s, outermost := first }], weight := 2, seen := sn'.add 1, answer := some true }) rfl ?_ ?_
  · show (if (first && ((false && p != text.size) || (false && p == s))) = true then _ else _) = _
    rw [if_neg (by simp)]
    rfl
  · exact E_step rfl rfl (E_step rfl rfl (E_step rfl rfl (.done rfl hq)))
noncomputable abbrev St (text : Array Nat) (must first : Bool) (s pc pos hd k : Nat) (o : Bool) (fs : List Sre.Frame) (wt : Nat) (ans : Option Bool) (sn : Seen) : M :=
  { code := c2, text, lim := text.size, start := s, lastStart := text.size, mustAdvance := must, pc, pos, handed := hd, outermost := o, marks := #[],
    frames := fs ++ [{ wait := .nextBranch, pc := k, pos := s, outermost := first }, { wait := .nextStart, pc := 10, pos := s, outermost := first }], weight := wt, answer := ans, seen := sn }
theorem re2_crlf (hm : must = false) (h0 : s < text.size) (c0 : text.getD s 0 = 13) (h1 : s + 1 < text.size) (d1 : text.getD (s + 1) 0 = 10) (hq : q = some (s, s + 2)) : Ends q 20 (At c2 text must first 10 s sn) := by
  refine E_branch ?_
  show Ends q _ (St text must first s 12 (s) s 11 first [] 2 (none) _)
  refine E_lit rfl rfl (Nat.le_of_ble_eq_true rfl) rfl h0 c0 ?_
  show Ends q _ (St text must first s 14 (s + 1) s 11 first [] 2 (none) _)
  refine E_lit rfl rfl (Nat.le_of_ble_eq_true rfl) rfl h1 d1 ?_
  show Ends q _ (St text must first s 16 (s + 2) s 11 first [] 2 (none) _)
  refine E_step rfl rfl ?_
  exact (E_end (sn := sn) hm hq).mono (by lia)
theorem re2_lf (hm : must = false) (h0 : s < text.size) (c0 : text.getD s 0 = 10) (hq : q = some (s, s + 1)) : Ends q 20 (At c2 text must first 10 s sn) := by
  refine E_branch ?_
  show Ends q _ (St text must first s 12 (s) s 11 first [] 2 (none) _)
  refine E_litNo rfl rfl (Nat.le_of_ble_eq_true rfl) rfl (.inr (by show text.getD s 0 ≠ 13; rw [c0]; decide)) ?_
  show Ends q _ (St text must first s 12 (s) s 11 first [] 2 (some false) _)
  refine E_step rfl rfl ?_
  show Ends q _ (St text must first s 19 (s) s 18 first [] 2 (none) _)
  refine E_lit rfl rfl (Nat.le_of_ble_eq_true rfl) rfl h0 c0 ?_
  show Ends q _ (St text must first s 21 (s + 1) s 18 first [] 2 (none) _)
  refine E_step rfl rfl ?_
  exact (E_end (sn := sn) hm hq).mono (by lia)
theorem re2_cr (hm : must = false) (h0 : s < text.size) (c0 : text.getD s 0 = 13) (d1 : text.size ≤ s + 1 ∨ text.getD (s + 1) 0 ≠ 10) (hq : q = some (s, s + 1)) : Ends q 30 (At c2 text must first 10 s sn) := by
  refine E_branch ?_
  show Ends q _ (St text must first s 12 (s) s 11 first [] 2 (none) _)
  refine E_lit rfl rfl (Nat.le_of_ble_eq_true rfl) rfl h0 c0 ?_
  show Ends q _ (St text must first s 14 (s + 1) s 11 first [] 2 (none) _)
  refine E_litNo rfl rfl (Nat.le_of_ble_eq_true rfl) rfl d1 ?_
  show Ends q _ (St text must first s 14 (s + 1) s 11 first [] 2 (some false) _)
  refine E_step rfl rfl ?_
  show Ends q _ (St text must first s 19 (s) s 18 first [] 2 (none) _)
  refine E_litNo rfl rfl (Nat.le_of_ble_eq_true rfl) rfl (.inr (by show text.getD s 0 ≠ 10; rw [c0]; decide)) ?_
  show Ends q _ (St text must first s 19 (s) s 18 first [] 2 (some false) _)
  refine E_step rfl rfl ?_
  show Ends q _ (St text must first s 24 (s) s 23 first [] 2 (none) _)
  refine E_lit rfl rfl (Nat.le_of_ble_eq_true rfl) rfl h0 c0 ?_
  show Ends q _ (St text must first s 26 (s + 1) s 23 first [] 2 (none) _)
  refine E_step rfl rfl ?_
  show Ends q _ (St text must first s 29 (s + 1) (s + 1) 23 false [{ wait := .lookNot, pc := 26, pos := s + 1, outermost := first }] 3 none _)
  refine E_litNo rfl rfl (Nat.le_of_ble_eq_true rfl) rfl d1 ?_
  show Ends q _ (St text must first s 29 (s + 1) (s + 1) 23 false [{ wait := .lookNot, pc := 26, pos := s + 1, outermost := first }] 3 (some false) _)
  refine E_step rfl rfl ?_
  show Ends q _ (St text must first s 32 (s + 1) (s + 1) 23 first [] 2 none _)
  refine E_step rfl rfl ?_
  show Ends q _ (St text must first s 35 (s + 1) (s + 1) 23 first [] 2 none _)
  exact (E_end (sn := sn) hm hq).mono (by lia)
end re2
end Mine
end
section
open PySem
set_option Elab.async false
set_option maxRecDepth 100000
set_option maxHeartbeats 8000000
namespace Mine
open PySem.Sre
noncomputable def subDot : Bool → List Nat → List Nat
  | _, [] => []
  | b, c :: r => (if b && c == 46 then [46, 46] else [c]) ++ subDot (c == 10) r
noncomputable def subNl : List Nat → List Nat
  | [] => []
  | 13 :: 10 :: r => 13 :: 10 :: subNl r
  | c :: r => (if c == 13 || c == 10 then [13, 10] else [c]) ++ subNl r
/-- the pieces that the replacing loop hands to join, from the machine that it stands at -/
inductive SubR (code text : Array Nat) (rp : Str) (B : Nat) : Nat → Nat → M → List Str → Prop
  | none {f d m} : Ends none f m → SubR code text rp B f d m (if d < text.size then [⟨text.extract d text.size⟩] else [])
  | some {f f' d m q e ps} : Ends (some (q, e)) f m → f' ≤ B → SubR code text rp B f' e (forSearch code text 0 e text.size (e == q)) ps →
      SubR code text rp B f d m ((if d < q then [⟨text.extract d q⟩] else []) ++ rp :: ps)
noncomputable abbrev flat (ps : List Str) : List Nat := ps.flatMap (·.cps.toList)
section
variable {text : Array Nat} {code : Array Nat} {rp : Str} {B : Nat}
theorem SubR.of_ends {f f' d : Nat} {m m' : M} {ps : List Str} (h : SubR code text rp B f d m ps) (k : ∀ q, Ends q f m → Ends q f' m') : SubR code text rp B f' d m' ps := by
  cases h with
  | none a => exact .none (k _ a)
  | some a b c => exact .some (k _ a) b c
theorem drop_cons {s c : Nat} {r : List Nat} (h : text.toList.drop s = c :: r) : s < text.size ∧ text.getD s 0 = c ∧ text.toList.drop (s + 1) = r := by
  have hl : s < text.toList.length := by
    by_cases q : s < text.toList.length
    · exact q
    · rw [List.drop_eq_nil_of_le (by lia)] at h; cases h
  rw [List.drop_eq_getElem_cons hl] at h
  obtain ⟨h1, h2⟩ := List.cons.inj h
  have hs : s < text.size := by simpa using hl
  refine ⟨hs, ?_, h2⟩
  rw [← h1]
  simp [Array.getD, hs]
theorem drop_nil {s : Nat} (h : text.toList.drop s = []) : text.size ≤ s := by
  have := List.drop_eq_nil_iff.mp h
  simpa using this
theorem flat_app {a b : List Str} : flat (a ++ b) = flat a ++ flat b := List.flatMap_append
theorem flat_cons {a : Str} {b : List Str} : flat (a :: b) = a.cps.toList ++ flat b := List.flatMap_cons
theorem pieces_flat {d q : Nat} (h : q ≤ text.size) : flat (if d < q then [(⟨text.extract d q⟩ : Str)] else []) = (text.toList.drop d).take (q - d) := by
  by_cases k : d < q
  · rw [if_pos k]
    show (text.extract d q).toList ++ [] = _
    rw [List.append_nil, Array.toList_extract]
  · rw [if_neg k]
    have : q - d = 0 := by lia
    rw [this, List.take_zero]
    rfl
/-- a search that starts at the end -/
theorem fs1_end {must : Bool} : Ends none 1 (forSearch c1 text 0 text.size text.size must) := by
  have : forSearch c1 text 0 text.size text.size must = M.say { code := c1, text, lim := text.size, start := text.size, pc := 5, pos := text.size, handed := text.size, marks := #[], mustAdvance := must, seen := ({} : Seen).add 14 } false := by
    show (if (decide (text.size > text.size) || decide (text.size - text.size < 1)) = true then _ else _) = _
    rw [if_pos (by simp)]
    rfl
  rw [this]
  exact E_step rfl rfl (.fail rfl rfl)
theorem fs1_at {must : Bool} {s : Nat} (h : s < text.size) : forSearch c1 text 0 s text.size must = At c1 text must true 5 s (({} : Seen).add 14) := by
  show (if (decide (s > text.size) || decide (text.size - s < 1)) = true then _ else _) = _
  rw [if_neg (by simp; lia)]
  rfl
noncomputable abbrev bol (text : Array Nat) (s : Nat) : Bool := s == 0 || text.getD (s - 1) 0 == 10
theorem re1_main (hrp : rp.cps.toList = [46, 46]) (hB : 10 * text.size + 10 ≤ B) : ∀ (rest : List Nat) (s d : Nat) (must first : Bool) (sn : Seen), text.toList.drop s = rest → s ≤ text.size → d ≤ s →
    ∃ ps, SubR c1 text rp B (10 * rest.length + 10) d (At c1 text must first 5 s sn) ps ∧ flat ps = (text.toList.drop d).take (s - d) ++ subDot (bol text s) rest ∧ ps.length ≤ 2 * rest.length + 1 := by
  intro rest
  induction rest with
  | nil =>
    intro s d must first sn hr hs hd
    have he := drop_nil hr
    have es : s = text.size := by lia
    subst es
    refine ⟨_, .none ((re1_no (n := 0) (q := none) (fun k => absurd k.2.1 (by lia)) (fun sn' => ?_)).mono (by lia)), ?_⟩
    · rw [if_neg (by lia)]
    refine ⟨?_, by split <;> simp⟩
    · rw [pieces_flat (Nat.le_refl _)]
      simp [subDot]
  | cons c r ih =>
    intro s d must first sn hr hs hd
    obtain ⟨hl, hc, hr'⟩ := drop_cons hr
    have ht : (text.toList.drop d).take (s + 1 - d) = (text.toList.drop d).take (s - d) ++ [c] := by
      have e1 : s + 1 - d = (s - d) + 1 := by lia
      have e2 : (text.toList.drop d)[s - d]? = some c := by
        rw [List.getElem?_drop, show d + (s - d) = s by lia]
        have := congrArg (fun l : List Nat => l[0]?) hr
        simpa [List.getElem?_drop] using this
      rw [e1, List.take_add_one, e2]
      rfl
    have hb1 : bol text (s + 1) = (c == 10) := by
      show (s + 1 == 0 || text.getD (s + 1 - 1) 0 == 10) = _
      rw [Nat.add_sub_cancel, hc]
      simp
    by_cases hdot : dotAt text s
    · have hc46 : c = 46 := by rw [← hc]; exact hdot.2.2
      have hb : bol text s = true := hdot.1
      have E : Ends (some (s, s + 1)) (10 * (c :: r).length + 10) (At c1 text must first 5 s sn) := (re1_yes (n := 0) hdot rfl).mono (by simp)
      rcases r with _ | ⟨c', r'⟩
      · have he := drop_nil hr'
        have es : text.size = s + 1 := by lia
        refine ⟨_, .some E (f' := 1) (by lia) (ps := if s + 1 < text.size then [⟨text.extract (s + 1) text.size⟩] else []) ?_, ?_⟩
        · rw [← es]
          exact .none fs1_end
        refine ⟨?_, by split <;> split <;> simp <;> lia⟩
        · rw [flat_app, flat_cons, pieces_flat hs, hb, hc46, if_neg (by lia)]
          simp [subDot, hrp]
      · obtain ⟨hl', _, _⟩ := drop_cons hr'
        obtain ⟨ps, hp, hf, hpl⟩ := ih (s + 1) (s + 1) (s + 1 == s) true (({} : Seen).add 14) hr' hl (Nat.le_refl _)
        have hlen : (c' :: r').length ≤ text.size := by rw [← hr']; simp
        refine ⟨_, .some E (Nat.le_trans (by lia : 10 * (c' :: r').length + 10 ≤ 10 * text.size + 10) hB) (by rw [fs1_at hl']; exact hp), ?_, by split <;> simp at hpl ⊢ <;> lia⟩
        rw [flat_app, pieces_flat hs, flat_cons, hf, hrp, hb1, hb, hc46]
        simp [subDot]
    · have hbc : (bol text s && c == 46) = false := by
        cases h1 : bol text s
        · rfl
        · by_cases h2 : c = 46
          · exact absurd ⟨h1, hl, by rw [hc, h2]⟩ hdot
          · simp [h2]
      obtain ⟨sn', hsn⟩ := re1_no' (first := first) (must := must) (sn := sn) hdot
      obtain ⟨ps, hp, hf, hpl⟩ := ih (s + 1) d false false sn' hr' hl (by lia)
      refine ⟨ps, hp.of_ends fun q hq => (hsn q _ (by rw [if_pos hl]; exact hq)).mono (by simp; lia), ?_, by simp; lia⟩
      rw [hf, ht, hb1, List.append_assoc]
      show _ = _ ++ ((if (bol text s && c == 46) = true then [46, 46] else [c]) ++ subDot (c == 10) r)
      rw [hbc]
      rfl

noncomputable abbrev M2 (text : Array Nat) (must : Bool) (s : Nat) (ls : Nat) : M :=
  { code := c2, text, lim := text.size, start := s, lastStart := ls, pc := 10, pos := s, handed := s, marks := #[], mustAdvance := must, seen := ({} : Seen).add 14 }
theorem inSet2 (c : Nat) (sn : Seen) : ∃ sn', inSet c2 c 36 5 true sn = .ok (c == 13 || c == 10, sn') := by
  by_cases h10 : c = 10
  · subst h10
    exact ⟨_, rfl⟩
  · have e10 : (c == 10) = false := by simpa using h10
    by_cases h13 : c = 13
    · subst h13
      exact ⟨_, rfl⟩
    · have e13 : (c == 13) = false := by simpa using h13
      refine ⟨((sn.add 16).add 16).add 0, ?_⟩
      rw [e10, e13]
      show (if (c == 10) = true then _ else (if (c == 13) = true then _ else _)) = _
      rw [e10, e13]
      rfl
theorem adm2 {must : Bool} {p ls : Nat} : ∀ (rest : List Nat) (s fuel : Nat) (sn : Seen), text.toList.drop s = rest → rest.length < fuel →
    ∃ sn', (((∀ c ∈ rest, (c == 13 || c == 10) = false) ∧ M.admitted (M2 text must p ls) fuel s sn = .ok (none, sn')) ∨
      ∃ a c r, rest = a ++ c :: r ∧ (∀ c ∈ a, (c == 13 || c == 10) = false) ∧ (c == 13 || c == 10) = true ∧ M.admitted (M2 text must p ls) fuel s sn = .ok (some (s + a.length), sn')) := by
  intro rest
  induction rest with
  | nil =>
    intro s fuel sn hr hf
    obtain ⟨fuel, rfl⟩ := Nat.exists_eq_succ_of_ne_zero (Nat.ne_of_gt (Nat.lt_of_le_of_lt (Nat.zero_le _) hf))
    have he := drop_nil hr
    refine ⟨sn, .inl ⟨(by intro _ h; cases h), ?_⟩⟩
    show (if s ≥ text.size then _ else _) = _
    rw [if_pos he]
  | cons c r ih =>
    intro s fuel sn hr hf
    obtain ⟨fuel, rfl⟩ := Nat.exists_eq_succ_of_ne_zero (Nat.ne_of_gt (Nat.lt_of_le_of_lt (Nat.zero_le _) hf))
    obtain ⟨hl, hc, hr'⟩ := drop_cons hr
    obtain ⟨sn1, h1⟩ := inSet2 (text.getD s 0) sn
    rw [hc] at h1
    have e : M.admitted (M2 text must p ls) (fuel + 1) s sn = (match inSet c2 (text.getD s 0) 36 5 true sn with | .ok (true, seen) => .ok (some s, seen) | .ok (false, seen) => M.admitted (M2 text must p ls) fuel (s + 1) seen | .error why => .error why) := by
      show (if s ≥ text.size then _ else _) = _
      rw [if_neg (by lia)]
      rfl
    rw [hc, h1] at e
    cases hb : (c == 13 || c == 10)
    · rw [hb] at e
      obtain ⟨sn', h⟩ := ih (s + 1) fuel sn1 hr' (by simpa using hf)
      rcases h with ⟨ha, hm⟩ | ⟨a, c', r', rfl, ha, hc', hm⟩
      · exact ⟨sn', .inl ⟨fun x hx => by
          rcases List.mem_cons.mp hx with rfl | hx
          · exact hb
          · exact ha x hx, e.trans hm⟩⟩
      · refine ⟨sn', .inr ⟨c :: a, c', r', rfl, fun x hx => ?_, hc', ?_⟩⟩
        · rcases List.mem_cons.mp hx with rfl | hx
          · exact hb
          · exact ha x hx
        · rw [e]
          show M.admitted _ _ _ _ = _
          rw [hm, List.length_cons, Nat.add_assoc, Nat.add_comm 1]
    · rw [hb] at e
      exact ⟨sn1, .inr ⟨[], c, r, rfl, fun _ h => (by cases h), hb, e⟩⟩
theorem subNl_plain : ∀ {a b : List Nat}, (∀ c ∈ a, (c == 13 || c == 10) = false) → subNl (a ++ b) = a ++ subNl b
  | [], _, _ => rfl
  | c :: a, b, h => by
    have hc := h c (.head _)
    have e : subNl (c :: (a ++ b)) = (if c == 13 || c == 10 then [13, 10] else [c]) ++ subNl (a ++ b) := by
      have h13 : c ≠ 13 := by intro z; subst z; cases hc
      rw [subNl]
      intro r z
      exact absurd z h13
    show subNl (c :: (a ++ b)) = _
    rw [e, hc, subNl_plain fun x hx => h x (.tail _ hx)]
    rfl
theorem fs2_end {must : Bool} : Ends none 1 (forSearch c2 text 0 text.size text.size must) := by
  have : forSearch c2 text 0 text.size text.size must = M.say (M2 text must text.size 0) false := by
    show (if (decide (text.size > text.size) || decide (text.size - text.size < 1)) = true then _ else _) = _
    rw [if_pos (by simp)]
    rfl
  rw [this]
  exact E_step rfl rfl (.fail rfl rfl)
theorem fs2_at {must : Bool} {s : Nat} (h : s < text.size) : forSearch c2 text 0 s text.size must = (match M.admitted (M2 text must s text.size) (text.size + 1 - s) s (({} : Seen).add 14) with
    | .ok (some s', seen) => M.attemptAt { M2 text must s text.size with mustAdvance := false, seen } s' true
    | .ok (none, seen) => M.say { M2 text must s text.size with seen } false
    | .error why => M.stick (M2 text must s text.size) why) := by
  show (if (decide (s > text.size) || decide (text.size - s < 1)) = true then _ else _) = _
  rw [if_neg (by simp; lia)]
  rfl
theorem re2_main (hrp : rp.cps.toList = [13, 10]) (hB : 100 ≤ B) : ∀ (k : Nat) (rest : List Nat) (s : Nat) (must : Bool), rest.length ≤ k → text.toList.drop s = rest → s ≤ text.size →
    ∃ f ps, f ≤ B ∧ SubR c2 text rp B f s (forSearch c2 text 0 s text.size must) ps ∧ flat ps = subNl rest ∧ ps.length ≤ 2 * rest.length + 1 := by
  intro k
  induction k with
  | zero =>
    intro rest s must hk hr hs
    obtain rfl := List.length_eq_zero_iff.mp (Nat.le_zero.mp hk)
    have es : s = text.size := by have := drop_nil hr; lia
    subst es
    refine ⟨1, _, by lia, .none fs2_end, ?_, by split <;> simp⟩
    rw [if_neg (by lia)]
    rfl
  | succ k ih =>
    intro rest s must hk hr hs
    by_cases hl' : text.size ≤ s
    · have es : s = text.size := by lia
      subst es
      have : rest = [] := by rw [← hr]; simp
      subst this
      refine ⟨1, _, by lia, .none fs2_end, ?_, by split <;> simp⟩
      rw [if_neg (by lia)]
      rfl
    have hl : s < text.size := by lia
    have hlen : rest.length = text.size - s := by rw [← hr]; simp
    obtain ⟨sn', h⟩ := adm2 (must := must) (p := s) (ls := text.size) rest s (text.size + 1 - s) (({} : Seen).add 14) hr (by lia)
    rcases h with ⟨ha, hm⟩ | ⟨a, c, r, rfl, ha, hc, hm⟩
    · refine ⟨2, _, by lia, .none ?_, ?_, by split <;> simp⟩
      · rw [fs2_at hl, hm]
        exact E_step rfl rfl (.fail rfl rfl)
      · rw [pieces_flat (Nat.le_refl _), hr, ← hlen, List.take_length]
        have := subNl_plain (b := []) ha
        simpa [subNl] using this.symm
    · have hr2 : text.toList.drop (s + a.length) = c :: r := by
        rw [← List.drop_drop, hr]
        simp
      obtain ⟨hl2, hc2, hr3⟩ := drop_cons hr2
      have hfs : forSearch c2 text 0 s text.size must = At c2 text false true 10 (s + a.length) sn' := by
        rw [fs2_at hl, hm]
        rfl
      have hta : (text.toList.drop s).take (s + a.length - s) = a := by
        rw [hr, Nat.add_sub_cancel_left]
        simp
      have hlen2 : (a ++ c :: r).length = a.length + r.length + 1 := by simp; lia
      rw [hfs]
      have one : ∀ {e : Nat} {r2 : List Nat}, Ends (some (s + a.length, e)) 30 (At c2 text false true 10 (s + a.length) sn') → text.toList.drop e = r2 → e ≤ text.size → r2.length ≤ r.length → 13 :: 10 :: subNl r2 = subNl (c :: r) →
          ∃ f ps, f ≤ B ∧ SubR c2 text rp B f s (At c2 text false true 10 (s + a.length) sn') ps ∧ flat ps = subNl (a ++ c :: r) ∧ ps.length ≤ 2 * (a ++ c :: r).length + 1 := by
        intro e r2 hE he hle hk2 hs2
        obtain ⟨f, ps, hf, hp, hfl, hpl⟩ := ih r2 e (e == s + a.length) (by lia) he hle
        refine ⟨30, _, by lia, .some hE hf hp, ?_, by rw [hlen2]; split <;> simp <;> lia⟩
        rw [flat_app, flat_cons, pieces_flat (Nat.le_of_lt hl2), hta, hrp, hfl, subNl_plain ha, ← hs2]
        rfl
      by_cases h10 : c = 10
      · subst h10
        refine one (e := s + a.length + 1) ((re2_lf rfl hl2 hc2 rfl).mono (by lia)) hr3 hl2 (by lia) ?_
        rw [subNl]
        · rfl
        · intro r z; cases z
      have h13 : c = 13 := by
        simp only [Bool.or_eq_true, beq_iff_eq] at hc
        exact hc.resolve_right h10
      subst h13
      rcases r with _ | ⟨c', r'⟩
      · have := drop_nil hr3
        exact one (e := s + a.length + 1) ((re2_cr rfl hl2 hc2 (.inl this) rfl).mono (by lia)) hr3 hl2 (by lia) rfl
      · obtain ⟨hl4, hc4, hr4⟩ := drop_cons hr3
        by_cases h10' : c' = 10
        · subst h10'
          refine one (e := s + a.length + 2) ((re2_crlf rfl hl2 hc2 hl4 hc4 rfl).mono (by lia)) hr4 hl4 (by simp) ?_
          rfl
        · refine one (e := s + a.length + 1) ((re2_cr rfl hl2 hc2 (.inr (by rw [hc4]; exact h10')) rfl).mono (by lia)) hr3 hl2 (by lia) ?_
          rw [subNl.eq_def (13 :: c' :: r')]
          split
          · rename_i z; cases z
          · rename_i z; cases z; exact absurd rfl h10'
          · rename_i z; cases z; rfl

theorem re1_all (hrp : rp.cps.toList = [46, 46]) (hB : 10 * text.size + 10 ≤ B) :
    ∃ f ps, f ≤ B ∧ SubR c1 text rp B f 0 (forSearch c1 text 0 0 text.size false) ps ∧ flat ps = subDot true text.toList ∧ ps.length ≤ 2 * text.size + 1 := by
  by_cases h : 0 < text.size
  · obtain ⟨ps, hp, hf, hl⟩ := re1_main hrp hB text.toList 0 0 false true (({} : Seen).add 14) rfl (Nat.zero_le _) (Nat.le_refl _)
    refine ⟨_, ps, ?_, by rw [fs1_at h]; exact hp, hf, by simpa using hl⟩
    simpa using hB
  · have e : text.size = 0 := by lia
    have e2 : text = #[] := Array.eq_empty_of_size_eq_zero e
    subst e2
    exact ⟨1, _, by lia, .none fs1_end, rfl, by simp⟩
theorem flat_len (ps : List Str) : (ps.map (·.length)).sum = (flat ps).length := by
  induction ps with
  | nil => rfl
  | cons p ps ih => rw [List.map_cons, List.sum_cons, ih, flat_cons, List.length_append]; rfl
theorem subNl_len : ∀ (k : Nat) (l : List Nat), l.length ≤ k → (subNl l).length ≤ 2 * l.length
  | 0, l, h => by
    obtain rfl := List.length_eq_zero_iff.mp (Nat.le_zero.mp h)
    exact Nat.le_refl _
  | k + 1, l, h => by
    rw [subNl.eq_def]
    split
    · exact Nat.le_refl _
    · rename_i r
      have := subNl_len k r (by simp at h; lia)
      simp; lia
    · rename_i c r _
      have := subNl_len k r (by simp at h; lia)
      simp only [List.length_append, List.length_cons]
      split <;> simp <;> lia
theorem subDot_len : ∀ (b : Bool) (l : List Nat), (subDot b l).length ≤ 2 * l.length
  | _, [] => Nat.le_refl _
  | b, c :: r => by
    have := subDot_len (c == 10) r
    rw [subDot, List.length_append, List.length_cons]
    split <;> simp <;> lia
end
end Mine
end
section
open PySem PySem.W PyProof.Rows
set_option Elab.async false
set_option maxRecDepth 100000
set_option maxHeartbeats 8000000
set_option linter.unusedVariables false
namespace Mine
open PySem.Builtin PySem.Builtin.Re
section
open PySem.Calls
theorem slot_re_sub : Slot "re.Pattern" "sub" "re.Pattern.sub" :=
  .of (owner := "re.Pattern") (n := "sub") (by rw [typeLookup_type, builtinLookup_eq_fast]; kernel_rfl) (by decide +kernel) (by decide +kernel) (by decide +kernel)
    (by first | exact .inl (by decide +kernel) | exact .inr (by decide +kernel)) (by rw [isSubtype_type]; kernel_rfl)
theorem plainAttrs_re : PlainAttrs "re.Pattern" :=
  ⟨⟨"object.__getattribute__", by rw [typeLookup_type, builtinLookup_eq_fast]; kernel_rfl, by decide +kernel⟩, by rw [typeLookup_type, builtinLookup_eq_fast]; kernel_rfl⟩
theorem type_re_sub : typeOf (.builtin "re.Pattern.sub") = pure (.type "method_descriptor") := by show builtinType _ = _; rw [builtinType_eq_fast]; kernel_rfl
theorem entry_re_sub : entryFor table "re.Pattern.sub" = some Builtin.«re.Pattern.sub» := entryFor_of_tree (by kernel_rfl)
theorem entry_re_loop : entryFor table "re.Pattern.sub.loop" = some Builtin.«re.Pattern.sub.loop» := entryFor_of_tree (by kernel_rfl)
theorem plain_re_loop : plainId "re.Pattern.sub.loop" = true := by decide +kernel
theorem args_re_sub (a b c : Value) : argsOk "re.Pattern.sub" ⟨[a, b, c], []⟩ := by unfold argsOk; kernel_rfl
theorem noCall_str : typeLookup (.type "str") "__call__" = pure none := by rw [typeLookup_type, builtinLookup_eq_fast]; kernel_rfl
end
section
variable {M : Model} {A : Around} {E : Value → Shared → Prop} {s : Shared}
theorem wp_forRules {f : Nat → PUnit → Sem (ForInStep PUnit)} (hf : ∀ i {Q : ForInStep PUnit → Shared → Prop}, Q (.yield ⟨⟩) s → wpAny M A (f i ⟨⟩) Q E s) :
    ∀ (l : List Nat) {Q : PUnit → Shared → Prop}, Q ⟨⟩ s → wpAny M A (forIn l ⟨⟩ f) Q E s
  | [], _, h => wpAny_pure h
  | i :: l, _, h => by
    rw [List.forIn_cons]
    exact wpAny_bind (hf i (wp_forRules hf l h))
theorem runFor_ends {q : Option (Nat × Nat)} : ∀ (k f : Nat) (m : Sre.M), Ends q f m → ∃ f', Ends q f' (m.runFor k) ∧ (f' + k ≤ f ∨ (m.runFor k).outcome.isSome = true)
  | 0, f, m, h => ⟨f, h, .inl (Nat.le_refl _)⟩
  | k + 1, f, m, h => by
    cases ho : m.outcome.isSome
    · have e : m.runFor (k + 1) = m.step.runFor k := by
        show (if m.outcome.isSome = true then m else m.step.runFor k) = _
        rw [if_neg (by rw [ho]; exact Bool.false_ne_true)]
      cases h with
      | done a _ => rw [a] at ho; cases ho
      | fail a _ => rw [a] at ho; cases ho
      | step _ h =>
        obtain ⟨f', h1, h2⟩ := runFor_ends k _ _ h
        rw [e]
        exact ⟨f', h1, h2.imp (fun z => by lia) id⟩
    · have e : m.runFor (k + 1) = m := by
        show (if m.outcome.isSome = true then m else m.step.runFor k) = _
        rw [if_pos ho]
      rw [e]
      exact ⟨f, h, .inr ho⟩
theorem ends_out {q : Option (Nat × Nat)} {f : Nat} {m : Sre.M} (h : Ends q f m) (ho : m.outcome.isSome = true) : (m.outcome = some .matched ∧ q = some (m.start, m.handed)) ∨ (m.outcome = some .failed ∧ q = none) := by
  cases h with
  | done a b => exact .inl ⟨a, b⟩
  | fail a b => exact .inr ⟨a, b⟩
  | step a _ => rw [a] at ho; cases ho
theorem wp_reDrive {q : Option (Nat × Nat)} {Q : Sre.M → Shared → Prop} (hQ : ∀ m' : Sre.M, ((m'.outcome = some .matched ∧ q = some (m'.start, m'.handed)) ∨ (m'.outcome = some .failed ∧ q = none)) → Q m' s) :
    ∀ (turns f : Nat) (m : Sre.M), Ends q f m → f < 4 * turns → wpAny M A (reDrive turns m) Q E s
  | 0, f, m, _, h => absurd h (by lia)
  | turns + 1, f, m, h, hf => by
    obtain ⟨f', h1, h2⟩ := runFor_ends 4 f m h
    show wpAny M A (if (m.runFor 4).outcome.isSome = true then pure (m.runFor 4) else rule "sre.turn" >>= fun _ => reDrive turns (m.runFor 4)) Q E s
    cases ho : (m.runFor 4).outcome.isSome
    · rw [if_neg Bool.false_ne_true]
      rw [ho] at h2
      exact wpAny_bind (wpAny_rule (wp_reDrive hQ turns f' _ h1 (by rcases h2 with z | z; lia; cases z)))
    · rw [if_pos rfl]
      exact wpAny_pure (hQ _ (ends_out h1 ho))
theorem wp_reRun {q : Option (Nat × Nat)} {f : Nat} {m : Sre.M} {Q : Option Sre.M → Shared → Prop} (h : Ends q f m) (hf : f < 4 * 2 ^ 64) (h0 : q = none → Q none s) (h1 : ∀ m' : Sre.M, q = some (m'.start, m'.handed) → Q (some m') s) :
    wpAny M A (reRunToEnd m) Q E s := by
  unfold reRunToEnd
  refine wpAny_bind (wp_reDrive (fun m' hm => ?_) _ f m h hf)
  refine wpAny_bind (wp_forRules (fun i Q hq => ?_) _ ?_)
  · by_cases hb : m'.seen.has i = true
    · rw [if_pos hb]
      exact wpAny_bind (wpAny_rule (wpAny_pure hq))
    · rw [if_neg hb]
      exact wpAny_pure hq
  · rcases hm with ⟨a, b⟩ | ⟨a, b⟩
    · rw [a]
      exact wpAny_pure (h1 m' b)
    · rw [a]
      exact wpAny_pure (h0 b)
end
/-- a compiled pattern without groups, with the words of its code -/
noncomputable def PatAt (h : Heap) (P : Addr) (code : Array Nat) : Prop := ∃ (p : Str) (tp : Tok) (fl : Int) (tf : Tok) (C : Addr) (items : Array Value) (n : Nat),
  h.get? P = some ⟨.type "re.Pattern", none, .fields #[.str p tp, .int fl tf, .int 0 0, .none, .none, .ref C, .int 0 0], #[]⟩ ∧ h.get? C = some ⟨.type "tuple", none, .seq items n, #[]⟩ ∧ (items.map reRawOf).map (·.toNat) = code
theorem PatAt.keeps {h h' : Heap} {P : Addr} {code : Array Nat} (x : PatAt h P code) (k : ∀ b o, h.get? b = some o → h'.get? b = some o) : PatAt h' P code := by
  obtain ⟨p, tp, fl, tf, C, items, n, a, b, c⟩ := x
  exact ⟨p, tp, fl, tf, C, items, n, k _ _ a, k _ _ b, c⟩
section
variable {prog : Program} {w : World} {A : Around} {E : Value → Shared → Prop} {s : Shared}
noncomputable abbrev tgt (P : Addr) (tx : Str) (tt : Tok) (code : Array Nat) : ReTarget := { pattern := .ref P, string := .str tx tt, code, text := tx.cps, kind := 0, groups := 0, pos := 0, lim := tx.cps.size }
theorem wp_whole {P : Addr} {code : Array Nat} {tx : Str} {tt : Tok} {Q : ReTarget → Shared → Prop} (hp : PatAt s.heap P code) (h : Q (tgt P tx tt code) s) : wpAny (model prog w) A (reWholeTarget (.ref P) (.str tx tt)) Q E s := by
  obtain ⟨p, tp, fl, tf, C, items, n, ho, hc, he⟩ := hp
  unfold reWholeTarget
  refine wpAny_bind (wpAny_fieldsOf ho rfl ?_)
  refine wpAny_bind (m := reTextOf (.str tx tt)) (wpAny_pure ?_)
  refine wpAny_bind (m := reNoCollectionInside (.str tx tt) 0) (wpAny_pure ?_)
  refine wpAny_bind (m := reRawItems (.ref C)) (wpAny_bind (wpAny_seqItems hc rfl (wpAny_pure (wpAny_pure ?_))))
  rw [← he] at h
  exact h

theorem strsAre_app {a b : List Value} {x y : List Str} (h1 : StrsAre a x) (h2 : StrsAre b y) : StrsAre (a ++ b) (x ++ y) := by
  induction h1 with
  | nil => exact h2
  | cons y t _ ih => exact .cons y t ih
theorem join_flat {x : Str} (hx : x.cps = #[]) (ys : List Str) : Txt.join x ys = ⟨(flat ys).toArray⟩ := by
  have key : ∀ ys : List Str, (Str.join x ys).cps = (flat ys).toArray := by
    intro ys
    induction ys with
    | nil => rfl
    | cons y r ih =>
      cases r with
      | nil => show y.cps = (y.cps.toList ++ []).toArray; simp
      | cons z r =>
        show (y ++ x ++ Str.join x (z :: r)).cps = _
        show y.cps ++ x.cps ++ (Str.join x (z :: r)).cps = _
        rw [ih, hx, flat_cons]
        apply Array.toList_inj.mp
        simp
  unfold Txt.join
  rw [StrLaws.glued_eq_join]
  have := key ys
  cases h : Str.join x ys
  rw [h] at this
  exact congrArg Str.mk this
theorem sub_loop {code : Array Nat} {tx rp : Str} {tt tr : Tok} {P D L : Addr} {B : Nat} {h₀ : Heap} {mm : Str → Option Value} {news : List (Addr × Obj)} {R : Result → Shared → Prop}
    (hP : PatAt h₀ P code) (hB : B < 4 * 2 ^ 64) (hx : tx.length ≤ 1000) (ne : ∀ q ∈ news, q.1 ≠ D) {f d : Nat} {m : Sre.M} {ps : List Str} (hR : SubR code tx.cps rp B f d m ps) :
    ∀ {s : Shared} {start n ep : Nat} {must : Bool} {items : List Value} {qs : List Str}, m = Sre.forSearch code tx.cps 0 start tx.cps.size must → f ≤ B → Fr h₀ L s.heap mm → News h₀ L s.heap ((D, PySem.W.listOf items.toArray ep) :: news) →
      StrsAre items qs → items.length + ps.length ≤ 100000 → ((qs ++ ps).map (·.length)).sum + (qs ++ ps).length ≤ 1048576 →
      (kret : ∀ (t' : Tok) (ep' : Nat) (items' : List Value) (h' : Heap) (tk' : Nat), Fr h₀ L h' mm → News h₀ L h' ((D, PySem.W.listOf items'.toArray ep') :: news) → R (.ok (.ret (.str ⟨(flat (qs ++ ps)).toArray⟩ t'))) { s with heap := h', toks := tk' }) →
      codeAny (model prog w) A (.builtin "re.Pattern.sub.loop" ⟨[.ref P, .str tx tt, .str rp tr, rawInt 0, rawInt 0, rawInt n, rawInt d, rawInt start, .bool must, .ref D, .bool false], []⟩) R s := by
  induction hR with
  | @none f d m hE =>
    intro s start n ep must items qs hm hf F N hq hlen hsum kret
    subst hm
    refine codeAny_builtin entry_re_loop ?_
    rw [Around.under_plainId plain_re_loop _]
    unfold Builtin.«re.Pattern.sub.loop»
    refine wpAny_bind (m := reWholeTarget (.ref P) (.str tx tt)) (wp_whole (hP.keeps F.keep) ?_)
    refine wpAny_bind (m := reLiteralCannotBeTurned (.str rp tr)) (wpAny_pure ?_)
    refine wpAny_bind (m := reRunToEnd _) (wp_reRun hE (by lia) (fun _ => ?_) fun m' e => by cases e)
    have hS := (N _ (.head _)).1
    -- what stands behind the last place is pushed, then all is joined
    have fin : ∀ {s' : Shared} {items' : List Value} {ys : List Str} {ep' : Nat}, s'.gens = s.gens → s'.drawn = s.drawn → s'.os = s.os → Fr h₀ L s'.heap mm → News h₀ L s'.heap ((D, PySem.W.listOf items'.toArray ep') :: news) → StrsAre items' ys →
        ys = qs ++ (if d < tx.cps.size then [⟨tx.cps.extract d tx.cps.size⟩] else []) →
        wpAny (model prog w) A.in1 (do
          let joiner ← reSlice tx.cps 0 0 0
          let text ← if ((← seqItems? (.ref D)).getD #[]).isEmpty then pure joiner else call (.builtin (if 0 == 0 then "str.join" else "bytes.join")) [joiner, .ref D]
          if false then ret (← holding [text] do newTuple [text, ← mkInt n]) else ret text) (fun fin s' => match fin with | Fin.done f => R (.ok f) s' | Fin.again c' => c'.quiet = true ∧ codeAny (model prog w) A c' R s') (fun e s' => R (.error e) s') s' := by
      intro s' items' ys ep' e1 e2 e3 F' N' hi hy
      refine wpAny_bind (wpAny_mkStr ?_ (by simp [Str.length]))
      have hS' := (N' _ (.head _)).1
      refine wpAny_bind (wpAny_seqItems hS' rfl ?_)
      have hc : ∀ {h' : Heap} {tk' : Nat} (t' : Tok), Fr h₀ L h' mm → News h₀ L h' ((D, PySem.W.listOf items'.toArray ep') :: news) → R (.ok (.ret (.str ⟨(flat ys).toArray⟩ t'))) { s with heap := h', toks := tk' } := by
        intro h' tk' t' F N
        rw [hy]
        exact kret t' ep' items' h' tk' F N
      by_cases he : items'.isEmpty = true
      · have e0 : items' = [] := List.isEmpty_iff.mp he
        subst e0
        cases hi
        refine wpAny_bind (wpAny_pure (wpAny_pure ?_))
        obtain ⟨hp', g', d', t', o'⟩ := s'
        cases e1; cases e2; cases e3
        have := hc (h' := hp') (tk' := t' + 1) t' F' N'
        have z : tx.cps.extract 0 0 = (flat ([] : List Str)).toArray := by simp
        show R (.ok (.ret (.str ⟨tx.cps.extract 0 0⟩ t'))) _
        rw [z]
        exact this
      · show wpAny _ _ (if items'.toArray.isEmpty = true then _ else _) _ _ _
        rw [if_neg (by simpa using he)]
        refine wpAny_bind ?_
        refine join_listW (items := items'.toArray) (ys := ys) ⟨_, hS', rfl, _, rfl⟩ (by simpa using hi) (by simp [Str.length]) (by rw [hy]; exact hsum) ?_
        · intro t' k
          refine wpAny_pure ?_
          rw [join_flat (by simp) ys]
          obtain ⟨hp', g', d', t9, o'⟩ := s'
          cases e1; cases e2; cases e3
          exact hc (h' := hp') (tk' := k) t' F' N'
    show wpAny _ _ (if ((d : Int).toNat < tx.cps.size) then _ else _) _ _ _
    show wpAny _ _ (if d < tx.cps.size then _ else _) _ _ _
    have hxs : tx.cps.size ≤ 1000 := hx
    by_cases hd : d < tx.cps.size
    · rw [if_pos hd]
      refine wpAny_bind (wpAny_mkStr ?_ (by show (tx.cps.extract d tx.cps.size).size ≤ _; rw [sizeLine_eq]; simp; lia))
      have hl : items.length ≤ 100000 := by lia
      obtain ⟨F3, N3⟩ := news_upd (pre := []) (f := Obj.mapSeq (·.push (Value.str ⟨tx.cps.extract d tx.cps.size⟩ s.toks))) (o' := PySem.W.listOf (items ++ [Value.str ⟨tx.cps.extract d tx.cps.size⟩ s.toks]).toArray (ep + 1)) F N (fun _ h => nomatch h) ne (by simp [Obj.mapSeq]) rfl
      refine wpAny_bind (wpAny_updateSeq (s := { s with toks := s.toks + 1 }) hS rfl ?_ (by simp; rw [sizeLine_eq]; lia) (by simp; rw [sizeLine_eq]; lia))
      refine fin (items' := items ++ [Value.str ⟨tx.cps.extract d tx.cps.size⟩ s.toks]) (ys := qs ++ [⟨tx.cps.extract d tx.cps.size⟩]) rfl rfl rfl F3 N3 (strsAre_app hq (.cons _ _ .nil)) (by rw [if_pos hd])
    · rw [if_neg hd]
      exact fin rfl rfl rfl F N hq (by rw [if_neg hd, List.append_nil])
  | @some f f' d m q e ps hE hf' _ ih =>
    intro s start n ep must items qs hm hf F N hq hlen hsum kret
    subst hm
    refine codeAny_builtin entry_re_loop ?_
    rw [Around.under_plainId plain_re_loop _]
    unfold Builtin.«re.Pattern.sub.loop»
    refine wpAny_bind (m := reWholeTarget (.ref P) (.str tx tt)) (wp_whole (hP.keeps F.keep) ?_)
    refine wpAny_bind (m := reLiteralCannotBeTurned (.str rp tr)) (wpAny_pure ?_)
    refine wpAny_bind (m := reRunToEnd _) (wp_reRun hE (by lia) (fun z => by cases z) fun m' e => ?_)
    have hS := (N _ (.head _)).1
    have hxs : tx.cps.size ≤ 1000 := hx
    cases e
    -- the replacing text is pushed, then the loop goes on
    have fin : ∀ {s' : Shared} {items' : List Value} {ys : List Str} {ep' : Nat}, s'.gens = s.gens → s'.drawn = s.drawn → s'.os = s.os → Fr h₀ L s'.heap mm → News h₀ L s'.heap ((D, PySem.W.listOf items'.toArray ep') :: news) → StrsAre items' ys → items'.length ≤ items.length + (if d < m'.start then 1 else 0) →
        ys = qs ++ (if d < m'.start then [⟨tx.cps.extract d m'.start⟩] else []) →
        wpAny (model prog w) A.in1 (updateSeq D (·.push (.str rp tr)) >>= fun _ => again (.builtin "re.Pattern.sub.loop" ⟨[.ref P, .str tx tt, .str rp tr, rawInt 0, rawInt 0, rawInt (n + 1), rawInt m'.handed, rawInt m'.handed, .bool (m'.handed == m'.start), .ref D, .bool false], []⟩))
          (fun fin s' => match fin with | Fin.done f => R (.ok f) s' | Fin.again c' => c'.quiet = true ∧ codeAny (model prog w) A c' R s') (fun e s' => R (.error e) s') s' := by
      intro s' items' ys ep' e1 e2 e3 F' N' hi hil hy
      have hS' := (N' _ (.head _)).1
      have hl : items'.length ≤ 100000 := by split at hil <;> simp at hlen <;> lia
      obtain ⟨F3, N3⟩ := news_upd (pre := []) (f := Obj.mapSeq (·.push (Value.str rp tr))) (o' := PySem.W.listOf (items' ++ [Value.str rp tr]).toArray (ep' + 1)) F' N' (fun _ h => nomatch h) ne (by simp [Obj.mapSeq]) rfl
      refine wpAny_bind (wpAny_updateSeq hS' rfl ?_ (by simp; rw [sizeLine_eq]; lia) (by simp; rw [sizeLine_eq]; lia))
      refine wpAny_pure ⟨plainId_quiet plain_re_loop _, ?_⟩
      have hpp : qs ++ ((if d < m'.start then [⟨tx.cps.extract d m'.start⟩] else []) ++ rp :: ps) = (ys ++ [rp]) ++ ps := by rw [hy]; simp
      refine ih (n := n + 1) (items := items' ++ [Value.str rp tr]) (qs := ys ++ [rp]) rfl hf' F3 N3 (strsAre_app hi (.cons _ _ .nil)) ?_ (by rw [← hpp]; exact hsum) ?_
      · split at hil <;> rename_i hc <;> simp [hc] at hlen ⊢ <;> lia
      · intro t' ep'' items'' h' tk' F4 N4
        rw [← hpp]
        have := kret t' ep'' items'' h' tk' F4 N4
        obtain ⟨hp', g', d', t'', o'⟩ := s'
        cases e1; cases e2; cases e3
        exact this
    show wpAny _ _ (if ((d : Int).toNat < m'.start) then _ else _) _ _ _
    show wpAny _ _ (if d < m'.start then _ else _) _ _ _
    by_cases hd : d < m'.start
    · rw [if_pos hd]
      refine wpAny_bind (wpAny_mkStr ?_ (by show (tx.cps.extract d m'.start).size ≤ _; rw [sizeLine_eq]; simp; lia))
      have hl : items.length ≤ 100000 := by lia
      obtain ⟨F3, N3⟩ := news_upd (pre := []) (f := Obj.mapSeq (·.push (Value.str ⟨tx.cps.extract d m'.start⟩ s.toks))) (o' := PySem.W.listOf (items ++ [Value.str ⟨tx.cps.extract d m'.start⟩ s.toks]).toArray (ep + 1)) F N (fun _ h => nomatch h) ne (by simp [Obj.mapSeq]) rfl
      refine wpAny_bind (wpAny_updateSeq (s := { s with toks := s.toks + 1 }) hS rfl ?_ (by simp; rw [sizeLine_eq]; lia) (by simp; rw [sizeLine_eq]; lia))
      exact fin (items' := items ++ [Value.str ⟨tx.cps.extract d m'.start⟩ s.toks]) (ys := qs ++ [⟨tx.cps.extract d m'.start⟩]) rfl rfl rfl F3 N3 (strsAre_app hq (.cons _ _ .nil)) (by rw [if_pos hd]; simp) (by rw [if_pos hd])
    · rw [if_neg hd]
      exact fin rfl rfl rfl F N hq (by lia) (by rw [if_neg hd, List.append_nil])

theorem typeIs_re {P : Addr} {code : Array Nat} (hp : PatAt s.heap P code) : s.TypeIs (.ref P) "re.Pattern" := by
  obtain ⟨p, tp, fl, tf, C, items, n, ho, _⟩ := hp
  exact ⟨_, ho, rfl⟩
theorem re_method {P : Addr} {code : Array Nat} {pl : Sem Bool} {Q : Value × List Value → Shared → Prop} (hp : PatAt s.heap P code) (h : Q (.builtin "re.Pattern.sub", [.ref P]) s) : wpAny (model prog w) A (getMethod (.ref P) "sub" pl) Q E s := by
  refine getMethod_builtin (typeIs_re hp) plainAttrs_re slot_re_sub type_re_sub (fun a e => ?_) h
  cases e
  obtain ⟨p, tp, fl, tf, C, items, n, ho, _⟩ := hp
  exact ⟨_, ho, rfl⟩
theorem re_sub {code : Array Nat} {tx rp : Str} {tt tr : Tok} {P L : Addr} {B f : Nat} {h₀ : Heap} {mm : Str → Option Value} {news : List (Addr × Obj)} {ps : List Str} {Q : Value → Shared → Prop}
    (F : Fr h₀ L s.heap mm) (N : News h₀ L s.heap news) (hP : PatAt h₀ P code) (hrp : rp.cps.contains 92 = false) (hB : B < 4 * 2 ^ 64) (hx : tx.length ≤ 1000) (hf : f ≤ B)
    (hR : SubR code tx.cps rp B f 0 (Sre.forSearch code tx.cps 0 0 tx.cps.size false) ps) (hps : ps.length ≤ 100000) (hsum : (ps.map (·.length)).sum + ps.length ≤ 1048576)
    (kret : ∀ (t' : Tok) (h' : Heap) (tk' : Nat), Fr h₀ L h' mm → News h₀ L h' news → Q (.str ⟨(flat ps).toArray⟩ t') { s with heap := h', toks := tk' }) :
    wpAny (model prog w) A (call (.builtin "re.Pattern.sub") [.ref P, .str rp tr, .str tx tt]) Q E s := by
  have hP' := hP.keeps F.keep
  refine wpAny_call (codeAny_call_builtin slot_re_sub.plain entry_re_sub (slot_re_sub.check _ _ _ _ _ _ _ _ (typeIs_re hP') (args_re_sub _ _ _) ?_))
  show wpAny _ _ (reSubstitute "re.Pattern.sub" "sub" false ⟨[.ref P, .str rp tr, .str tx tt], []⟩) _ _ _
  unfold reSubstitute
  refine wpAny_bind (m := reNamed _ _ _ _ _ _) (wpAny_of_eq (a := [some (.str rp tr), some (.str tx tt), none]) rfl ?_)
  refine wpAny_bind (m := (pure 0 : Sem Int)) (wpAny_pure ?_)
  refine wpAny_bind (m := specialOf (.str rp tr) "__call__") (wpAny_specialOf (typeIs_str _ _ _) noCall_str ?_)
  refine wpAny_bind (m := asStr? (.str rp tr)) (wpAny_pure ?_)
  refine wpAny_bind (wpAny_pure ?_)
  rw [hrp]
  refine wpAny_bind (wpAny_pure ?_)
  refine wpAny_bind (wpAny_holding (wp_whole hP' ?_))
  refine wpAny_bind (wpAny_newList ?_)
  refine wpAny_pure ⟨plainId_quiet plain_re_loop _, ?_⟩
  refine sub_loop (n := 0) (start := 0) (items := []) (qs := []) (ep := 0) hP hB hx ?_ hR rfl hf (F.push _) (N.push F _) .nil (by simpa using hps) (by simpa using hsum) ?_
  · intro q hq
    exact Nat.ne_of_lt (Heap.lt_size (N q hq).1)
  · intro t' ep' items' h' tk' F' N'
    exact kret t' h' tk' F' fun q hq => N' q (.tail _ hq)
end
end Mine
end
section
open PySem PySem.W PyProof.Rows
set_option Elab.async false
set_option maxRecDepth 100000
set_option maxHeartbeats 8000000
namespace Mine

section
theorem pat_ats : ∀ {w : World} {h : Heap} (_X : (fragK.heap_1 w.params).In h), PatAt h 49 c1 ∧ PatAt h 54 c2 ∧ PySem.Challenge.rw_kt0066_01.foot = 8 := by
  k_fill
  intro w h X
  refine ⟨⟨S "(?m)^\\.", 334, 40, 347, 48, #[.int 14 0, .int 4 0, .int 0 0, .int 1 0, .int 1 0, .int 6 0, .int 1 0, .int 16 0, .int 46 0, .int 1 0], 0, X 49 _ ?_, X 48 _ ?_, by decide +kernel⟩, ⟨S "(?:\\r\\n|\\n|\\r(?!\\n))", 350, 32, 389, 53, #[.int 14 0, .int 9 0, .int 4 0, .int 1 0, .int 2 0, .int 16 0, .int 10 0, .int 16 0, .int 13 0, .int 0 0, .int 7 0, .int 7 0, .int 16 0, .int 13 0, .int 16 0, .int 10 0, .int 15 0, .int 18 0, .int 5 0, .int 16 0, .int 10 0, .int 15 0, .int 13 0, .int 11 0, .int 16 0, .int 13 0, .int 5 0, .int 5 0, .int 0 0, .int 16 0, .int 10 0, .int 1 0, .int 15 0, .int 2 0, .int 0 0, .int 1 0], 0, X 54 _ ?_, X 53 _ ?_, by decide +kernel⟩, rfl⟩ <;> k_is
end

local macro_rules | `(tactic| walk_at "call builtin:re.Pattern.sub") => `(tactic| refine WStop.out ?_)

theorem quo_spec : ∀ {w : World} {dp un : Nat} {gd : Option (List Code)} {cn : Str} {cs : Scope} {a : Addr} {ccd : Value} {cl : List (Str × Addr)} {outer : List Env} {A₀ : Around} {base h₀ : Heap} {L : Addr} {m : Str → Option Value} {s : Shared} {Q E : Value → Shared → Prop} {p : Program} {loose : List Str} {mean : ExcName → Option Value} {mg mb : Str → Option Value}
   (_B : Below A₀ base outer h₀) (_F : Fr h₀ L s.heap m) (_X : (fragK.heap_1 w.params).In h₀) (_T : Top p loose mean mg mb h₀) (_hk : cs.kind = .function)
   {txt : Str} {tk : Tok} {news : List (Addr × Obj)} (_N : News h₀ L s.heap news) (_hl : txt.length ≤ 400)
   (_hd : dp + 4 < recursionLimit) (_hu : un + 40 < cLine)
   (_ret : ∀ (tk : Tok) (h' : Heap) (tk' : Nat), Fr h₀ L h' m → News h₀ L h' news → Q (.str ⟨(subDot true (subNl txt.cps.toList)).toArray⟩ tk) { s with heap := h', toks := tk' }),
   wpAny (model PySem.Challenge.rw_kt0066_01.row.prog w) (ktrTop dp un gd cn cs L a ccd cl outer) (call (.ref 61) [.str txt tk]) Q E s := by
  k_fill
  intro w dp un gd cn cs a ccd cl outer A₀ base h₀ L m s Q E p loose mean mg mb B F X T hk txt tk news N hl hd hu ret
  refine wpAny_call ?_
  (refine' code_def ?k1 ?k2 ?k3 ?k4 ?k5 ?kA ?kF ?kK ?k6 ?k7 ?k8 ?k9 ?kB ?_ ?c2 ?c3 ?c4 ?c5; (case kA => exact rfl); (case kF => exact rfl); (case kK => assumption); (case k1 => k_asm); (case k2 => k_asm); (case k3 => k_asm); (case k4 => k_asm); (case k5 => k_asm); (case k6 => k_is); (case k7 => k_is); (case k8 => ktr_room); (case k9 => first | exact BindsTo.of_eq rfl | exact binds_K (by k_in) rfl (by k_is) rfl rfl rfl); (case c5 => decide); (case kB => exact locs rfl); (case c2 => exact rfl); (case c3 => exact rfl); (case c4 => exact rfl); k_whole; intro g' L' h' FG' F' N' B' X' T'; (try dsimp only); (try k_lift B'); (try k_fold))
  repeat' (first | (k_unfold; (try dsimp only)) | (k_end; kc_close) | ((with_reducible show wpAny _ _ (getMethod (Value.ref _) _ _) _ _ _); (k_here; k_dflt ((fail_if_success (fail_if_success (refine' re_method ?_ ?_))); refine re_method (by first | exact (pat_ats (by assumption)).1.keeps (Fr.keep (by assumption)) | exact (pat_ats (by assumption)).2.1.keeps (Fr.keep (by assumption))) ?_; k_whole))) | walk1 | (dsimp only; first | ((with_reducible show wpAny _ _ (getMethod (Value.ref _) _ _) _ _ _); (k_here; k_dflt ((fail_if_success (fail_if_success (refine' re_method ?_ ?_))); refine re_method (by first | exact (pat_ats (by assumption)).1.keeps (Fr.keep (by assumption)) | exact (pat_ats (by assumption)).2.1.keeps (Fr.keep (by assumption))) ?_; k_whole))) | walk1) | (leave1; (try dsimp only)))
  obtain ⟨f, ps, hf, hp, hfl, hpl⟩ := re2_main (text := txt.cps) (rp := S "\r\n") (B := 100) rfl (Nat.le_refl _) _ txt.cps.toList 0 false (Nat.le_refl _) rfl (Nat.zero_le _)
  have hl' : txt.cps.toList.length ≤ 400 := hl
  have l1 := subNl_len _ txt.cps.toList (Nat.le_refl _)
  unfold WStop
  k_dflt (refine' re_sub (code := c2) (f := f) (B := 100) (ps := ps) ?jF ?jN ?jP (by decide +kernel) (by decide) ?jx hf hp (by lia) (by rw [flat_len, hfl]; lia) ?_; (case jF => k_asm); (case jN => k_asm); (case jP => exact (pat_ats (by assumption)).2.1); (case jx => exact Nat.le_trans hl (by decide)); k_whole)
  intro t1 h1 tk1 F1 N1
  rw [hfl]
  repeat' (first | (k_unfold; (try dsimp only)) | (k_end; kc_close) | ((with_reducible show wpAny _ _ (getMethod (Value.ref _) _ _) _ _ _); (k_here; k_dflt ((fail_if_success (fail_if_success (refine' re_method ?_ ?_))); refine re_method (by first | exact (pat_ats (by assumption)).1.keeps (Fr.keep (by assumption)) | exact (pat_ats (by assumption)).2.1.keeps (Fr.keep (by assumption))) ?_; k_whole))) | walk1 | (dsimp only; first | ((with_reducible show wpAny _ _ (getMethod (Value.ref _) _ _) _ _ _); (k_here; k_dflt ((fail_if_success (fail_if_success (refine' re_method ?_ ?_))); refine re_method (by first | exact (pat_ats (by assumption)).1.keeps (Fr.keep (by assumption)) | exact (pat_ats (by assumption)).2.1.keeps (Fr.keep (by assumption))) ?_; k_whole))) | walk1) | (leave1; (try dsimp only)))
  obtain ⟨f', ps', hf', hp', hfl', hpl'⟩ := re1_all (text := (subNl txt.cps.toList).toArray) (rp := S "..") (B := 10000) rfl (by simp; lia)
  have l2 := subDot_len true (subNl txt.cps.toList)
  have l3 : (subNl txt.cps.toList).toArray.size = (subNl txt.cps.toList).length := rfl
  unfold WStop
  k_dflt (refine' re_sub (code := c1) (f := f') (B := 10000) (ps := ps') ?jF ?jN ?jP (by decide +kernel) (by decide) ?jx hf' hp' (by lia) (by rw [flat_len, hfl']; show (subDot true (subNl txt.cps.toList)).length + _ ≤ _; lia) ?_; (case jF => k_asm); (case jN => k_asm); (case jP => exact (pat_ats (by assumption)).1); (case jx => show (subNl txt.cps.toList).toArray.size ≤ _; lia); k_whole)
  intro t2 h2 tk2 F2 N2
  rw [hfl']
  repeat' (first | (k_unfold; (try dsimp only)) | (k_end; kc_close) | ((with_reducible show wpAny _ _ (getMethod (Value.ref _) _ _) _ _ _); (k_here; k_dflt ((fail_if_success (fail_if_success (refine' re_method ?_ ?_))); refine re_method (by first | exact (pat_ats (by assumption)).1.keeps (Fr.keep (by assumption)) | exact (pat_ats (by assumption)).2.1.keeps (Fr.keep (by assumption))) ?_; k_whole))) | walk1 | (dsimp only; first | ((with_reducible show wpAny _ _ (getMethod (Value.ref _) _ _) _ _ _); (k_here; k_dflt ((fail_if_success (fail_if_success (refine' re_method ?_ ?_))); refine re_method (by first | exact (pat_ats (by assumption)).1.keeps (Fr.keep (by assumption)) | exact (pat_ats (by assumption)).2.1.keeps (Fr.keep (by assumption))) ?_; k_whole))) | walk1) | (leave1; (try dsimp only)))
  all_goals (refine' ret _ _ _ ?rf ?rn; (case rn => k_asm); (case rf => k_asm))
end Mine
end
section
open PySem PySem.W PyProof.Rows
set_option Elab.async false
set_option maxRecDepth 100000
set_option maxHeartbeats 8000000
namespace Mine

theorem hid_spec : ∀ {w : World} {dp un : Nat} {gd : Option (List Code)} {cn : Str} {cs : Scope} {a : Addr} {ccd : Value} {cl : List (Str × Addr)} {outer : List Env} {A₀ : Around} {base h₀ : Heap} {L : Addr} {m : Str → Option Value} {s : Shared} {Q E : Value → Shared → Prop} {p : Program} {loose : List Str} {mean : ExcName → Option Value} {mg mb : Str → Option Value}
   (_B : Below A₀ base outer h₀) (_F : Fr h₀ L s.heap m) (_X : (fragK.heap_1 w.params).In h₀) (_T : Top p loose mean mg mb h₀) (_hk : cs.kind = .function)
   {r : Str} {tk : Tok} {i : Int} {ti : Tok} {news : List (Addr × Obj)} (_N : News h₀ L s.heap news) (_hl : r.length ≤ 400)
   (_hd : dp + 4 < recursionLimit) (_hu : un + 40 < cLine)
   (_ret : ∀ (tk : Tok) (h' : Heap) (tk' : Nat), Fr h₀ L h' m → News h₀ L h' news → Q (.str (if i.fmod 3 = 0 then S "'" ++ r ++ S "'" else if i.fmod 3 = 1 then S "\\" ++ r else S " " ++ r) tk) { s with heap := h', toks := tk' }),
   wpAny (model PySem.Challenge.rw_kt0066_01.row.prog w) (ktrTop dp un gd cn cs L a ccd cl outer) (call (.ref 786) [.str r tk, .int i ti]) Q E s := by
  k_fill
  intro w dp un gd cn cs a ccd cl outer A₀ base h₀ L m s Q E p loose mean mg mb B F X T hk r tk i ti news N hl hd hu ret
  refine wpAny_call ?_
  (refine' code_def ?k1 ?k2 ?k3 ?k4 ?k5 ?kA ?kF ?kK ?k6 ?k7 ?k8 ?k9 ?kB ?_ ?c2 ?c3 ?c4 ?c5; (case kA => exact rfl); (case kF => exact rfl); (case kK => assumption); (case k1 => k_asm); (case k2 => k_asm); (case k3 => k_asm); (case k4 => k_asm); (case k5 => k_asm); (case k6 => k_is); (case k7 => k_is); (case k8 => ktr_room); (case k9 => first | exact BindsTo.of_eq rfl | exact binds_K (by k_in) rfl (by k_is) rfl rfl rfl); (case c5 => decide); (case kB => exact locs rfl); (case c2 => exact rfl); (case c3 => exact rfl); (case c4 => exact rfl); k_whole; intro g' L' h' FG' F' N' B' X' T'; (try dsimp only); (try k_lift B'); (try k_fold))
  k_steps
  have hm : i.fmod 3 = 0 ∨ i.fmod 3 = 1 ∨ i.fmod 3 = 2 := by
    have h1 := Int.fmod_nonneg_of_pos i (b := 3) (by decide)
    have h2 := Int.fmod_lt_of_pos i (b := 3) (by decide)
    lia
  rcases hm with e | e | e
  all_goals (rw [e]; simp only [e, reduceIte, Int.reduceEq, Int.one_ne_zero] at ret; k_steps; (refine' ret _ _ _ ?rf ?rn; (case rn => first | k_asm | exact fun q hq => (by assumption : News h₀ L _ (_ :: news)) q (.tail _ hq)); (case rf => k_asm)))
end Mine
end
section
open PySem
set_option Elab.async false
set_option maxRecDepth 100000
namespace Mine
noncomputable def rowL (i : Int) (c k m : Nat) : List Nat :=
  if k ≤ c then List.replicate m 46 else if (i.fdiv 4 + k).fmod 3 = 0 then 39 :: (List.replicate m 46 ++ [39]) else if (i.fdiv 4 + k).fmod 3 = 1 then 92 :: List.replicate m 46 else 32 :: List.replicate m 46
noncomputable def endL (j : Int) : List Nat := if j = 0 then [10] else if j = 1 then [13] else if j = 2 then [13, 10] else [10, 13]
noncomputable def mailL (i : Int) (c : Nat) (ms : List Nat) : Nat → List Nat
  | 0 => []
  | j + 1 => mailL i c ms j ++ (rowL i c (j + 1) (ms.getD j 0) ++ endL ((i + ((j + 1 : Nat) : Int)).fmod 4))
noncomputable def wantL (i : Int) (c : Nat) (ms : List Nat) : Nat → List Nat
  | 0 => []
  | j + 1 => wantL i c ms j ++ ((if j + 1 ≤ c then [46] else []) ++ rowL i c (j + 1) (ms.getD j 0) ++ (if (i + ((j + 1 : Nat) : Int)).fmod 4 < 3 then [13, 10] else [13, 10, 13, 10]))
theorem str_app (a b : Str) : (a ++ b).cps.toList = a.cps.toList ++ b.cps.toList := by
  show (a.cps ++ b.cps).toList = _
  simp
theorem getD_le {ms : List Nat} {b : Nat} (h : ∀ x ∈ ms, x ≤ b) (j : Nat) : ms.getD j 0 ≤ b := by
  rw [List.getD_eq_getElem?_getD]
  by_cases hj : j < ms.length
  · rw [List.getElem?_eq_getElem hj]
    exact h _ (List.getElem_mem hj)
  · rw [List.getElem?_eq_none (by lia)]
    exact Nat.zero_le _
theorem rowL_len (i : Int) (c k m : Nat) : (rowL i c k m).length ≤ m + 2 := by
  unfold rowL
  split
  · simp
  split
  · simp
  split <;> simp
theorem endL_len (j : Int) : (endL j).length ≤ 2 := by
  unfold endL
  split
  · simp
  split
  · simp
  split <;> simp
theorem mailL_len {i : Int} {c : Nat} {ms : List Nat} (h : ∀ x ∈ ms, x ≤ 10) : ∀ j, (mailL i c ms j).length ≤ 14 * j
  | 0 => Nat.le_refl _
  | j + 1 => by
    have h1 := mailL_len (i := i) (c := c) h j
    have h2 := rowL_len i c (j + 1) (ms.getD j 0)
    have h3 := getD_le h j
    have h4 := endL_len ((i + ((j + 1 : Nat) : Int)).fmod 4)
    rw [mailL, List.length_append, List.length_append]
    lia
theorem wantL_len {i : Int} {c : Nat} {ms : List Nat} (h : ∀ x ∈ ms, x ≤ 10) : ∀ j, (wantL i c ms j).length ≤ 17 * j
  | 0 => Nat.le_refl _
  | j + 1 => by
    have h1 := wantL_len (i := i) (c := c) h j
    have h2 := rowL_len i c (j + 1) (ms.getD j 0)
    have h3 := getD_le h j
    rw [wantL, List.length_append, List.length_append, List.length_append]
    split <;> split <;> simp only [List.length_cons, List.length_nil] <;> lia
theorem len_toList (a : Str) : a.length = a.cps.toList.length := rfl
end Mine
end
section
open PySem
set_option Elab.async false
set_option maxRecDepth 100000
set_option linter.unusedVariables false
namespace Mine
theorem subNl_app : ∀ (k : Nat) (a b : List Nat), a.length ≤ k → b.head? ≠ some 10 → subNl (a ++ b) = subNl a ++ subNl b
  | _, [], b, _, _ => rfl
  | 0, c :: a, b, h, _ => by simp at h
  | k + 1, c :: a, b, h, hb => by
    have hk : a.length ≤ k := by simp at h; exact h
    by_cases h13 : c = 13
    · subst h13
      rcases a with _ | ⟨d, a⟩
      · rcases b with _ | ⟨e, b⟩
        · rfl
        · have he : e ≠ 10 := by intro z; subst z; exact hb rfl
          show subNl (13 :: e :: b) = 13 :: 10 :: subNl (e :: b)
          rw [subNl.eq_def (13 :: e :: b)]
          split
          · rename_i z; cases z
          · rename_i z; cases z; exact absurd rfl he
          · rename_i z; cases z; rfl
      · by_cases h10 : d = 10
        · subst h10
          show 13 :: 10 :: subNl (a ++ b) = 13 :: 10 :: subNl a ++ subNl b
          rw [subNl_app k a b (by simp at hk; lia) hb]
          rfl
        · have e1 : ∀ l, subNl (13 :: d :: l) = 13 :: 10 :: subNl (d :: l) := by
            intro l
            rw [subNl.eq_def (13 :: d :: l)]
            split
            · rename_i z; cases z
            · rename_i z; cases z; exact absurd rfl h10
            · rename_i z; cases z; rfl
          show subNl (13 :: d :: (a ++ b)) = _
          rw [e1, e1]
          show 13 :: 10 :: subNl ((d :: a) ++ b) = _
          rw [subNl_app k (d :: a) b hk hb]
          rfl
    · have e1 : ∀ l, subNl (c :: l) = (if c == 13 || c == 10 then [13, 10] else [c]) ++ subNl l := by
        intro l
        rw [subNl]
        intro r z
        exact absurd z h13
      show subNl (c :: (a ++ b)) = _
      rw [e1, e1, subNl_app k a b hk hb, List.append_assoc]
noncomputable def bolAfter : Bool → List Nat → Bool
  | b, [] => b
  | _, c :: r => bolAfter (c == 10) r
theorem subDot_app : ∀ (b : Bool) (a l : List Nat), subDot b (a ++ l) = subDot b a ++ subDot (bolAfter b a) l
  | _, [], _ => rfl
  | b, c :: a, l => by
    show subDot b (c :: (a ++ l)) = _
    rw [subDot, subDot, subDot_app (c == 10) a l, List.append_assoc]
    rfl
theorem bolAfter_app : ∀ (b : Bool) (a l : List Nat), bolAfter b (a ++ l) = bolAfter (bolAfter b a) l
  | _, [], _ => rfl
  | b, c :: a, l => bolAfter_app (c == 10) a l
theorem subDot_plain : ∀ (a : List Nat), (∀ c ∈ a, c ≠ 10) → subDot false a = a
  | [], _ => rfl
  | c :: a, h => by
    have hc : (c == 10) = false := by simpa using h c (.head _)
    rw [subDot, hc, subDot_plain a fun x hx => h x (.tail _ hx)]
    rfl
theorem bol_plain : ∀ (a : List Nat), (∀ c ∈ a, c ≠ 10) → bolAfter false a = false
  | [], _ => rfl
  | c :: a, h => by
    have hc : (c == 10) = false := by simpa using h c (.head _)
    show bolAfter (c == 10) a = false
    rw [hc, bol_plain a fun x hx => h x (.tail _ hx)]

theorem row_shape (i : Int) (c k m : Nat) (hm : 1 ≤ m) : ∃ h t, rowL i c k m = h :: t ∧ (∀ x ∈ h :: t, (x == 13 || x == 10) = false) ∧ ((h == 46) = decide (k ≤ c)) := by
  obtain ⟨n, rfl⟩ : ∃ n, m = n + 1 := ⟨m - 1, by lia⟩
  have hd : ∀ x ∈ List.replicate (n + 1) 46, (x == 13 || x == 10) = false := by
    intro x hx
    obtain rfl := List.eq_of_mem_replicate hx
    rfl
  unfold rowL
  by_cases hk : k ≤ c
  · rw [if_pos hk]
    exact ⟨46, List.replicate n 46, rfl, hd, by simp [hk]⟩
  · rw [if_neg hk]
    split
    · refine ⟨39, _, rfl, fun x hx => ?_, by simp [hk]⟩
      rcases List.mem_cons.mp hx with rfl | hx
      · rfl
      rcases List.mem_append.mp hx with hx | hx
      · exact hd x hx
      · obtain rfl := List.mem_singleton.mp hx
        rfl
    split
    · refine ⟨92, _, rfl, fun x hx => ?_, by simp [hk]⟩
      rcases List.mem_cons.mp hx with rfl | hx
      · rfl
      · exact hd x hx
    · refine ⟨32, _, rfl, fun x hx => ?_, by simp [hk]⟩
      rcases List.mem_cons.mp hx with rfl | hx
      · rfl
      · exact hd x hx
noncomputable abbrev endN (e : Int) : List Nat := if e < 3 then [13, 10] else [13, 10, 13, 10]
theorem subNl_end {e : Int} (h : e = 0 ∨ e = 1 ∨ e = 2 ∨ e = 3) : subNl (endL e) = endN e := by
  rcases h with rfl | rfl | rfl | rfl <;> rfl
theorem fmod4 (a : Int) : a.fmod 4 = 0 ∨ a.fmod 4 = 1 ∨ a.fmod 4 = 2 ∨ a.fmod 4 = 3 := by
  have h1 := Int.fmod_nonneg_of_pos a (b := 4) (by decide)
  have h2 := Int.fmod_lt_of_pos a (b := 4) (by decide)
  lia
theorem dot_end {e : Int} : subDot false (endN e) = endN e ∧ bolAfter false (endN e) = true := by
  unfold endN
  split <;> exact ⟨rfl, rfl⟩
theorem mail_want {i : Int} {c : Nat} {ms : List Nat} (h : ∀ x ∈ ms, 1 ≤ x) : ∀ j, j ≤ ms.length → subDot true (subNl (mailL i c ms j)) = wantL i c ms j ∧ bolAfter true (subNl (mailL i c ms j)) = true
  | 0, _ => ⟨rfl, rfl⟩
  | j + 1, hj => by
    obtain ⟨h1, h2⟩ := mail_want (i := i) (c := c) h j (by lia)
    have hx : 1 ≤ ms.getD j 0 := by
      rw [List.getD_eq_getElem?_getD, List.getElem?_eq_getElem (by lia)]
      exact h _ (List.getElem_mem _)
    obtain ⟨hd, t, e, hp, hdk⟩ := row_shape i c (j + 1) (ms.getD j 0) hx
    have hp10 : ∀ x ∈ hd :: t, x ≠ 10 := by
      intro x hx z
      have := hp x hx
      rw [z] at this
      cases this
    have e1 : subNl (mailL i c ms (j + 1)) = subNl (mailL i c ms j) ++ (hd :: (t ++ endN ((i + ((j + 1 : Nat) : Int)).fmod 4))) := by
      rw [mailL, subNl_app _ _ _ (Nat.le_refl _) ?_]
      · rw [subNl_plain (by rw [e]; exact hp), subNl_end (fmod4 _), e]
        rfl
      · rw [e]
        show some hd ≠ some 10
        intro z
        exact hp10 hd (.head _) (Option.some.inj z)
    have hd10 : (hd == 10) = false := by simpa using hp10 hd (.head _)
    have ht10 : ∀ x ∈ t, x ≠ 10 := fun x hx => hp10 x (.tail _ hx)
    rw [e1, subDot_app, bolAfter_app, h1, h2]
    constructor
    · rw [wantL, e]
      show wantL i c ms j ++ ((if (true && hd == 46) = true then [46, 46] else [hd]) ++ subDot (hd == 10) (t ++ endN _)) = _
      rw [hd10, subDot_app, subDot_plain t ht10, bol_plain t ht10, dot_end.1]
      by_cases hk : j + 1 ≤ c
      · have h46 : hd = 46 := by
          have : (hd == 46) = true := by rw [hdk]; simp [hk]
          simpa using this
        subst h46
        rw [if_pos hk]
        rfl
      · have h46 : (hd == 46) = false := by rw [hdk]; simp [hk]
        rw [if_neg hk, h46]
        simp [endN]
    · show bolAfter (hd == 10) (t ++ endN _) = true
      rw [hd10, bolAfter_app, bol_plain t ht10, dot_end.2]
end Mine
end
section
open PySem
set_option Elab.async false
set_option maxRecDepth 100000
set_option linter.unusedVariables false
namespace Mine
noncomputable abbrev pieceW (i : Int) (c : Nat) (ms : List Nat) (j : Nat) : List Nat := (if j + 1 ≤ c then [46] else []) ++ rowL i c (j + 1) (ms.getD j 0) ++ endN ((i + ((j + 1 : Nat) : Int)).fmod 4)
noncomputable abbrev tokN (c : Nat) (ms : List Nat) (j : Nat) : Nat := if j + 1 ≤ c then ms.getD j 0 + 1 else ms.getD j 0
theorem wantL_flat {i : Int} {c : Nat} {ms : List Nat} : ∀ j, wantL i c ms j = (List.range j).flatMap (pieceW i c ms)
  | 0 => rfl
  | j + 1 => by
    rw [wantL, wantL_flat j, List.range_succ, List.flatMap_append]
    simp [pieceW]
theorem scan_dots {cs : List Nat} : ∀ (k n : Nat), 0 < n + k → Scan 1 n (List.replicate k 46 ++ 13 :: cs) (some (n + k)) cs
  | 0, n, h => .acr (by simpa using h)
  | k + 1, n, h => by
    have := scan_dots (cs := cs) k (n + 1) (by lia)
    rw [show n + (k + 1) = n + 1 + k by lia]
    exact .adot this
theorem scan_quoted {cs : List Nat} : ∀ (k n : Nat), 0 < n + k → Scan 2 n (List.replicate k 46 ++ 39 :: 13 :: cs) (some (n + k)) cs
  | 0, n, h => .qq (.acr (by simpa using h))
  | k + 1, n, h => by
    have := scan_quoted (cs := cs) k (n + 1) (by lia)
    rw [show n + (k + 1) = n + 1 + k by lia]
    exact .qdot this
theorem scan_row {i : Int} {c j m : Nat} {cs : List Nat} (hm : 1 ≤ m) : Scan 0 0 ((if j + 1 ≤ c then [46] else []) ++ rowL i c (j + 1) m ++ 13 :: cs) (some (if j + 1 ≤ c then m + 1 else m)) cs := by
  unfold rowL
  by_cases hk : j + 1 ≤ c
  · rw [if_pos hk, if_pos hk, if_pos hk]
    have := scan_dots (cs := cs) m 1 (by lia)
    rw [Nat.add_comm 1 m] at this
    exact .dot this
  · rw [if_neg hk, if_neg hk, if_neg hk]
    obtain ⟨n, rfl⟩ : ∃ n, m = n + 1 := ⟨m - 1, by lia⟩
    split
    · have := scan_quoted (cs := cs) (n + 1) 0 (by lia)
      rw [Nat.zero_add] at this
      show Scan 0 0 ([] ++ (39 :: (List.replicate (n + 1) 46 ++ [39])) ++ 13 :: cs) _ _
      simp only [List.nil_append, List.cons_append, List.append_assoc]
      exact .quo this
    split
    · have := scan_dots (cs := cs) n 1 (by lia)
      rw [Nat.add_comm 1 n] at this
      exact .bsl (.edot this)
    · have := scan_dots (cs := cs) n 1 (by lia)
      rw [Nat.add_comm 1 n] at this
      exact .ws32 (.dot this)
inductive Ws : List Nat → Prop
  | nil : Ws []
  | cr {l} : Ws l → Ws (13 :: l)
  | lf {l} : Ws l → Ws (10 :: l)
theorem Ws.scan {p : List Nat} (h : Ws p) {cs rest : List Nat} {r : Option Nat} (k : Scan 0 0 cs r rest) : Scan 0 0 (p ++ cs) r rest := by
  induction h with
  | nil => exact k
  | cr _ ih => exact .ws13 ih
  | lf _ ih => exact .ws10 ih
theorem toks_from {i : Int} {c : Nat} {ms : List Nat} : ∀ (n s : Nat) (p : List Nat), Ws p → (∀ j, s ≤ j → j < s + n → 1 ≤ ms.getD j 0) →
    Toks (p ++ (List.range' s n).flatMap (pieceW i c ms)) ((List.range' s n).map (tokN c ms))
  | 0, s, p, hp, _ => .nil (hp.scan .fin)
  | n + 1, s, p, hp, h => by
    have hm := h s (Nat.le_refl _) (by lia)
    have ih : ∀ q, Ws q → _ := fun q hq => toks_from (i := i) (c := c) (ms := ms) n (s + 1) q hq (fun j h1 h2 => h j (by lia) (by lia))
    rw [List.range'_succ, List.flatMap_cons, List.map_cons]
    obtain ⟨q, hq, e⟩ : ∃ q, Ws q ∧ endN ((i + ((s + 1 : Nat) : Int)).fmod 4) = 13 :: q := by
      unfold endN
      split
      · exact ⟨[10], .lf .nil, rfl⟩
      · exact ⟨[10, 13, 10], .lf (.cr (.lf .nil)), rfl⟩
    refine .cons (cs' := q ++ (List.range' (s + 1) n).flatMap (pieceW i c ms)) ?_ (ih q hq)
    have := hp.scan (scan_row (i := i) (c := c) (j := s) (cs := q ++ (List.range' (s + 1) n).flatMap (pieceW i c ms)) hm)
    have e2 : p ++ (pieceW i c ms s ++ (List.range' (s + 1) n).flatMap (pieceW i c ms)) = p ++ ((if s + 1 ≤ c then [46] else []) ++ rowL i c (s + 1) (ms.getD s 0) ++ 13 :: (q ++ (List.range' (s + 1) n).flatMap (pieceW i c ms))) := by
      unfold pieceW
      rw [e]
      simp
    rw [e2]
    exact this
theorem toks_want {i : Int} {c : Nat} {ms : List Nat} (h : ∀ x ∈ ms, 1 ≤ x) : Toks (wantL i c ms ms.length) ((List.range ms.length).map (tokN c ms)) := by
  rw [wantL_flat, List.range_eq_range']
  refine toks_from (p := []) _ _ .nil (fun j _ h2 => ?_)
  rw [List.getD_eq_getElem?_getD, List.getElem?_eq_getElem (by lia)]
  exact h _ (List.getElem_mem _)
end Mine
end
section
open PySem PySem.W PyProof.Rows
set_option Elab.async false
set_option maxRecDepth 100000
set_option maxHeartbeats 8000000
namespace Mine
section
variable {w : World} {A₀ A : Around} {s : Shared} {base h₀ g₀ : Heap} {outer : List Env} {L : Addr} {m : Str → Option Value} {news : List (Addr × Obj)} {K : Frag} {p : Program} {loose : List Str} {mean : ExcName → Option Value} {mg mb : Str → Option Value}
    {R : Result → Shared → Prop} {env : Env}
/-- the ground of a callee, whatever the caller's frame is, and the way back from a turned ground -/
theorem env_ground (B : Below A₀ base outer h₀) (F : Fr h₀ L s.heap m) (N : News h₀ L s.heap news) (XB : K.In base) (TB : Top p loose mean mg mb base) (D : KtsDicts (outer.filterMap (·.frame)) h₀)
    (T0 : KtsTurn (outer.filterMap (·.frame)) g₀ h₀) (hA : A.frames = some (env :: outer)) (hf : env.frame = some L) (hke : env.scope.kind = .function) :
    Fr h₀ L (hideAll s.heap (news.map (·.1))) m ∧ Below A base (env :: outer) (hideAll s.heap (news.map (·.1))) ∧ h₀.StaysIn (hideAll s.heap (news.map (·.1))) ∧ KtsDicts ((env :: outer).filterMap (·.frame)) (hideAll s.heap (news.map (·.1))) ∧
      ∀ v s', LeaveS ((env :: outer).filterMap (·.frame)) A₀ base outer K p loose mean mg mb g₀ h₀ L m (hideAll s.heap (news.map (·.1))) R v s' → R (.ok (.ret v)) s' := by
  obtain ⟨FG, BG, st, lv⟩ := groundX (R := R) B F N hA hf hke
  have hfm : (env :: outer).filterMap (·.frame) = L :: outer.filterMap (·.frame) := by rw [List.filterMap_cons, hf]
  obtain ⟨oL, es, ep, hLg, hLd, hLk, hLf⟩ := FG.ns
  have nL₀ : h₀.get? L = none := kts_self F
  refine ⟨FG, BG, st, fun b hb => ?_, fun v s' hl => ?_⟩
  · rw [hfm] at hb
    rcases List.mem_cons.mp hb with rfl | hb
    · exact ⟨oL, es, ep, hLg, hLd⟩
    · obtain ⟨o, es', n', ho', hd'⟩ := D b hb
      exact ⟨o, es', n', st b o ho', hd'⟩
  · rcases hl with ⟨L', m', news', F', N', k⟩ | ⟨g', L', m', news', T', F', N', k⟩
    · exact lv v s' ⟨L', m', news', F', N', k⟩
    · rw [hfm] at T'
      obtain ⟨sl, hs⟩ := T'.up hLg
      obtain ⟨T₁, S₁⟩ := kts_turn_at (h := s'.heap) (fs := outer.filterMap (·.frame)) (g := h₀)
        (fun b hb => by
          obtain ⟨_, o, ho', _⟩ := B.frames.mem hb
          exact ⟨o, ho'⟩)
        (fun b o e nmem => F'.keep b o (T'.other b o (st b o e) (fun q => by
          rcases List.mem_cons.mp q with z | z
          · rw [z, nL₀] at e
            cases e
          · exact nmem z)))
        (fun b o e hm => by
          obtain ⟨sl', hs'⟩ := T'.up (st b o e)
          exact ⟨sl', F'.keep _ _ hs'⟩)
      have B₃ : Below A₀ base outer (ktsHeap s'.heap (outer.filterMap (·.frame)) h₀) := ⟨B.stack, fun b o e => T₁.other b o (B.stays b o e) (fun hm => by
        rw [(B.frames.mem hm).1] at e
        cases e), B.frames.of_keeps fun b o e _ => by
        obtain ⟨sl', hs'⟩ := T₁.up e
        exact ⟨_, hs', rfl⟩⟩
      refine k _ (T0.trans T₁) ⟨⟨_, es, ep, F'.keep _ _ hs, hLd, hLk, hLf⟩, S₁, by rw [T₁.size]; exact F.above⟩ (fun q hq => ⟨(N' q hq).1, fun z => ?_, ?_⟩) B₃ (XB.keeps B₃.stays) (TB.keeps B₃.stays) (D.turn T₁)
      · have := (N' q hq).2.2
        rw [z, hs] at this
        cases this
      · refine T₁.none_ _ ?_
        cases hq2 : h₀.get? q.1 with
        | none => rfl
        | some o =>
          obtain ⟨sl', hs'⟩ := T'.up (st _ _ hq2)
          have := (N' q hq).2.2
          rw [hs'] at this
          cases this

/-- the entry of a function without cells of its own, from any frame -/
theorem codeE_defS {name qual : Str} {params : Arguments} {body : List Stmt} {scope : Scope} {dV kV doc pm cdv ct oc : Value} {an od : Option Addr} {osl : Array (Option Value)} {f : Addr} {args : Args} {binds : List (Str × Value)} {prog : Program}
    (B : Below A₀ base outer h₀) (F : Fr h₀ L s.heap m) (X₀ : K.In h₀) (N : News h₀ L s.heap news) (T : Top p loose mean mg mb h₀) (XB : K.In base) (TB : Top p loose mean mg mb base) (D : KtsDicts (outer.filterMap (·.frame)) h₀)
    (T0 : KtsTurn (outer.filterMap (·.frame)) g₀ h₀) (hA : A.frames = some (env :: outer)) (hf : env.frame = some L) (hke : env.scope.kind = .function)
    (ho : K.lookup f = some ⟨oc, od, .func (fnOf name qual params body scope dV kV doc pm an cdv ct), osl⟩) (hcd : codeIn K cdv qual = true) (hroom : A.depth < recursionLimit)
    (hbind : BindsTo s (fnOf name qual params body scope dV kV doc pm an cdv ct) args binds) (hloc : ∀ y ∈ binds, scope.names.lookup y.1 = some .local)
    (h : ∀ g L' h₁, Fr h₀ L g m → Fr g L' h₁ (fun y => binds.reverse.lookup y) → News g L' h₁ news → Below A base (env :: outer) g → K.In g → Top p loose mean mg mb g → KtsDicts ((env :: outer).filterMap (·.frame)) g →
      wpAny (model prog w) (A.deeper (envOf qual scope L' f cdv)) (execs body (envOf qual scope L' f cdv))
        (fun fl s' => LeaveS ((env :: outer).filterMap (·.frame)) A₀ base outer K p loose mean mg mb g₀ h₀ L m g R (match fl with | .ret v => v | _ => .none) s')
        (fun e s' => wpAny (model prog w) (A.deeper (envOf qual scope L' f cdv)) (leaving (envOf qual scope L' f cdv) e) (fun _ s'' => R (.error e) s'') (fun e' s'' => R (.error e') s'') s')
        { s with heap := h₁, toks := s.toks + binds.length })
    (hco : scope.isCoroutine = false) (hgen : scope.isGenerator = false) (hk : scope.kind = .function)
    (hcell : ∀ x ∈ scope.names, x.2 ≠ .cell) : codeAny (model prog w) A (.call (.ref f) args) R s := by
  have X := X₀.keeps F.keep
  obtain ⟨FG, BG, st, KD, lv⟩ := env_ground (R := R) (K := K) B F N XB TB D T0 hA hf hke
  refine codeAny_call_def (fd := fnOf name qual params body scope dV kV doc pm an cdv ct) (body := body) (binds := binds) hroom (X _ _ ho) rfl (T.nolimit.keeps F.keep) (codeRec_of X hcd) rfl hbind hcell hloc (fun h₁ hns hk₁ => ?_) hco hgen hk
  exact wpAny_mono (h _ s.heap.objs.size h₁ FG ⟨hns, fun b o e => hk₁ b o (of_hideAll _ e), Nat.le_of_eq (hideAll_size _ _)⟩
    (fun q hq => ⟨hk₁ _ _ (N q hq).1, Nat.ne_of_lt (Heap.lt_size (N q hq).1), hideAll_none _ (List.mem_map_of_mem hq)⟩) BG (X₀.keeps st) (T.keeps st) KD) (fun fl s' hl => lv _ _ hl) fun _ _ y => y
/-- the entry of a lambda, from any frame -/
theorem codeE_lamS {name qual : Str} {params : Arguments} {body : PySem.Expr} {scope : Scope} {cl : List (Str × Addr)} {pm ctv : Value} {c' f : Addr} {args : Args} {binds : List (Str × Value)} {prog : Program}
    (B : Below A₀ base outer h₀) (F : Fr h₀ L s.heap m) (X₀ : K.In h₀) (N : News h₀ L s.heap news) (T : Top p loose mean mg mb h₀) (XB : K.In base) (TB : Top p loose mean mg mb base) (D : KtsDicts (outer.filterMap (·.frame)) h₀)
    (T0 : KtsTurn (outer.filterMap (·.frame)) g₀ h₀) (hA : A.frames = some (env :: outer)) (hf : env.frame = some L) (hke : env.scope.kind = .function)
    (ho : (f, kla_obj name qual params body scope cl pm c' ctv) ∈ news) (hcd : s.heap.CodeRec (.ref c') qual) (hroom : A.depth < recursionLimit)
    (hbind : bindArgs (kla_fn name qual params body scope cl pm (.ref c') ctv) args = pure binds) (hloc : ∀ y ∈ binds, scope.names.lookup y.1 = some .local)
    (h : ∀ g L' h₁, Fr h₀ L g m → Fr g L' h₁ (fun y => binds.reverse.lookup y) → News g L' h₁ news → Below A base (env :: outer) g → K.In g → Top p loose mean mg mb g → KtsDicts ((env :: outer).filterMap (·.frame)) g →
      wpAny (model prog w) (A.deeper (envX qual scope L' f (.ref c') cl)) (eval body (envX qual scope L' f (.ref c') cl))
        (fun v s' => LeaveS ((env :: outer).filterMap (·.frame)) A₀ base outer K p loose mean mg mb g₀ h₀ L m g R v s')
        (fun e s' => wpAny (model prog w) (A.deeper (envX qual scope L' f (.ref c') cl)) (leaving (envX qual scope L' f (.ref c') cl) e) (fun _ s'' => R (.error e) s'') (fun e' s'' => R (.error e') s'') s')
        { s with heap := h₁, toks := s.toks + binds.length })
    (hco : scope.isCoroutine = false) (hgen : scope.isGenerator = false) (hk : scope.kind = .function)
    (hcell : ∀ x ∈ scope.names, x.2 ≠ .cell) : codeAny (model prog w) A (.call (.ref f) args) R s := by
  obtain ⟨FG, BG, st, KD, lv⟩ := env_ground (R := R) (K := K) B F N XB TB D T0 hA hf hke
  refine kla_callFunE hroom (N _ ho).1 rfl hco hgen rfl hcd ?_
  rw [hbind]
  refine wpAny_pure (wpAny_newFunctionEnv hcell hloc (fun h₁ hns hsb => ⟨((T.nolimit).keeps F.keep).fresh _ hsb, ?_⟩) hk)
  show codeAny _ _ (.expr body (envX qual scope s.heap.objs.size f (.ref c') cl)) _ _
  have hk₁ : ∀ b o, s.heap.get? b = some o → h₁.get? b = some o := fun b o e => hsb.extBut b o (Nat.ne_of_lt (Heap.lt_size e)) (Heap.get?_push_of_some _ e)
  exact kla_codeExpr (wpAny_mono (h _ s.heap.objs.size h₁ FG ⟨hns, fun b o e => hk₁ b o (of_hideAll _ e), Nat.le_of_eq (hideAll_size _ _)⟩
    (fun q hq => ⟨hk₁ _ _ (N q hq).1, Nat.ne_of_lt (Heap.lt_size (N q hq).1), hideAll_none _ (List.mem_map_of_mem hq)⟩) BG (X₀.keeps st) (T.keeps st) KD) (fun v s' hl => lv _ _ hl) fun _ _ y => y)

/-- the entry of a function with cells of its own, from any frame -/
theorem codeE_cellsS {name qual : Str} {params : Arguments} {body : List Stmt} {scope : Scope} {dV kV doc pm cdv ct oc : Value} {an od : Option Addr} {osl : Array (Option Value)} {f : Addr} {args : Args} {binds : List (Str × Value)} {prog : Program}
    (B : Below A₀ base outer h₀) (F : Fr h₀ L s.heap m) (X₀ : K.In h₀) (N : News h₀ L s.heap news) (T : Top p loose mean mg mb h₀) (XB : K.In base) (TB : Top p loose mean mg mb base) (D : KtsDicts (outer.filterMap (·.frame)) h₀)
    (T0 : KtsTurn (outer.filterMap (·.frame)) g₀ h₀) (hA : A.frames = some (env :: outer)) (hf : env.frame = some L) (hke : env.scope.kind = .function)
    (ho : K.lookup f = some ⟨oc, od, .func (fnOf name qual params body scope dV kV doc pm an cdv ct), osl⟩) (hcd : codeIn K cdv qual = true) (hroom : A.depth < recursionLimit)
    (hbind : BindsTo s (fnOf name qual params body scope dV kV doc pm an cdv ct) args binds) (hkind : (binds.all fun y => scope.names.lookup y.1 == some .local || scope.names.lookup y.1 == some .cell) = true)
    (hnd : ((cellsFrom 0 scope.names []).map (·.1)).Nodup)
    (h : ∀ g L' h₁ tk cells, Fr h₀ L g m → Fr g L' h₁ (bindL (envOfC qual scope L' f cdv).kindOf binds fun _ => none) → News g L' h₁ (cells ++ news) →
      CellsAre (bindC (envOfC qual scope L' f cdv).kindOf binds fun _ => none) (cellsFrom (L' + 1) scope.names []) cells → Below A base (env :: outer) g → K.In g → Top p loose mean mg mb g → (∀ p ∈ news, p.1 < L') → KtsDicts ((env :: outer).filterMap (·.frame)) g →
      wpAny (model prog w) (A.deeper (envOfC qual scope L' f cdv)) (execs body (envOfC qual scope L' f cdv))
        (fun fl s' => LeaveS ((env :: outer).filterMap (·.frame)) A₀ base outer K p loose mean mg mb g₀ h₀ L m g R (match fl with | .ret v => v | _ => .none) s')
        (fun e s' => wpAny (model prog w) (A.deeper (envOfC qual scope L' f cdv)) (leaving (envOfC qual scope L' f cdv) e) (fun _ s'' => R (.error e) s'') (fun e' s'' => R (.error e') s'') s')
        { s with heap := h₁, toks := tk })
    (hco : scope.isCoroutine = false) (hgen : scope.isGenerator = false) (hk : scope.kind = .function) : codeAny (model prog w) A (.call (.ref f) args) R s := by
  have X := X₀.keeps F.keep
  obtain ⟨FG, BG, st, KD, lv⟩ := env_ground (R := R) (K := K) B F N XB TB D T0 hA hf hke
  refine codeAny_call_function hroom (X _ _ ho) rfl hco hgen rfl (codeRec_of X hcd) (hbind _ _ _ _ ?_)
  refine wpAny_newFunctionEnv_cells hk (kindsX hkind _) fun env' he s' x => ?_
  subst he
  refine ⟨(T.nolimit.keeps F.keep).keeps x.toInCall.keep, codeAny_func ?_⟩
  obtain ⟨h₁, tk, rfl, _⟩ := x.done
  have hk₁ := x.toInCall.keep
  obtain ⟨cells, NC, Y⟩ := Cl.news (h₀ := s.heap) (Nat.le_refl _) fun n c hm => ⟨x.cell n c (lookup_of_mem_nodup (cellsFrom_names scope.names 0 (s.heap.objs.size + 1) [] [] rfl ▸ hnd) hm), x.above n c hm⟩
  refine wpAny_mono (h _ s.heap.objs.size h₁ tk cells FG ⟨x.toInCall.ns, fun b o e => hk₁ b o (of_hideAll _ e), Nat.le_of_eq (hideAll_size _ _)⟩ (fun p hp => ?_) Y BG (X₀.keeps st) (T.keeps st) (fun p hp => Heap.lt_size (N p hp).1) KD) (fun fl s' hl => lv _ _ hl) fun _ _ y => y
  rcases List.mem_append.mp hp with hp | hp
  · refine ⟨(NC p hp).1, (NC p hp).2.1, ?_⟩
    cases q : (hideAll s.heap (news.map (·.1))).get? p.1 with
    | none => rfl
    | some o => have := of_hideAll _ q; rw [(NC p hp).2.2] at this; cases this
  · exact ⟨hk₁ _ _ (N p hp).1, Nat.ne_of_lt (Heap.lt_size (N p hp).1), hideAll_none _ (List.mem_map_of_mem hp)⟩
end
end Mine
end
section
open PySem PySem.W PyProof.Rows
set_option Elab.async false
set_option maxRecDepth 100000
set_option maxHeartbeats 8000000
namespace Mine

theorem range_up {k : Nat} (h : k < 1000) : Builtin.Range.rangeSize 1 (((k + 1 : Nat) : Int)) 1 = (k : Int) ∧ Builtin.Range.small 1 (((k + 1 : Nat) : Int)) 1 = true := by
  constructor
  · unfold Builtin.Range.rangeSize
    rw [if_pos (by decide), Int.ediv_one]
    split <;> lia
  · exact small_one (by decide) (by decide) (by lia) (by lia)
section
variable {prog : Program} {w : World} {A : Around} {E : Value → Shared → Prop} {s : Shared} {env : Env} {h₀ : Heap} {x : Str} {body : List Stmt} {Q : Flow → Shared → Prop}
theorem unr_mono {L I : Addr} {s₁ s₂ : Shared} {it : Obj} {rest rest' : (Str → Option Value) → List (Addr × Obj) → Prop} {f : Flow} (h : ∀ m' n', rest m' n' → rest' m' n') (p : UnrPost h₀ L s₁ I it rest Q f s₂) : UnrPost h₀ L s₁ I it rest' Q f s₂ := by
  cases f with
  | ret v => exact p
  | brk => exact p
  | next => obtain ⟨h', tk, m', news', e, F, N, o, r⟩ := p; exact ⟨h', tk, m', news', e, F, N, o, h _ _ r⟩
  | cont => obtain ⟨h', tk, m', news', e, F, N, o, r⟩ := p; exact ⟨h', tk, m', news', e, F, N, o, h _ _ r⟩
theorem rr_ind {I : Addr} {a : Int} {n : Nat} (M : Nat → (Str → Option Value) → List (Addr × Obj) → Prop)
    (hz : ∀ m news, M n m news → ∀ h tk, Fr h₀ env.locals h m → News h₀ env.locals h news → Q .next { s with heap := h, toks := tk })
    (hs : ∀ i m news, i < n → M i m news → ∀ t h tk, Fr h₀ env.locals h (fun y => if y = x then some (.int (a + (i : Int)) t) else m y) →
      News h₀ env.locals h ((I, itR (a + ((i + 1 : Nat) : Int)) ((n : Int) - ((i + 1 : Nat) : Int))) :: news) →
      wpAny (model prog w) A (execs body env) (UnrPost h₀ env.locals { s with heap := h, toks := tk } I (itR (a + ((i + 1 : Nat) : Int)) ((n : Int) - ((i + 1 : Nat) : Int))) (M (i + 1)) Q) E { s with heap := h, toks := tk }) :
    ∀ k i m news, k + i = n → M i m news → RangeRest prog w A E h₀ env x body Q s I a n k i m news
  | 0, i, m, news, e, h => by
    obtain rfl : i = n := by lia
    exact RangeRest.zero (hz m news h)
  | k + 1, i, m, news, e, h => RangeRest.succ fun t h' tk F N =>
    wpAny_mono (hs i m news (by lia) h t h' tk F N) (fun f s₂ p => unr_mono (fun m' n' hm => rr_ind M hz hs k (i + 1) m' n' (by lia) hm) p) fun _ _ e => e
end
noncomputable abbrev nextL (c : Nat) (ms : List Nat) : List Nat := (List.range ms.length).map (tokN c ms) ++ List.replicate (c - ms.length) 1
theorem rowsV_ones {t : Tok} : ∀ k, RowsV (List.replicate k (.str (S ".") t)) (List.replicate k 1)
  | 0 => .nil
  | k + 1 => .cons (mm := 1) (rowsV_ones k)
noncomputable abbrev mTU (D : Addr) (i : Int) (ti : Tok) (c : Nat) (tc : Tok) (mail : Str) (tm : Tok) (wanted : Str) (tw : Tok) (rv kv : Option Value) : Str → Option Value := fun y =>
  if y = S "k" then kv else if y = S "row" then rv else if y = S "mail" then some (.str mail tm) else if y = S "wanted" then some (.str wanted tw) else if y = S "count" then some (.int c tc) else if y = S "rows" then some (.ref D) else if y = S "figure" then some (.int i ti) else none
theorem mTU_init {D : Addr} {i : Int} {ti tc tm tw : Tok} {c : Nat} : (fun y => if y = S "wanted" then some (.str (S "") tw) else if y = S "mail" then some (.str (S "") tm) else if y = S "count" then some (.int c tc) else List.lookup y [(S "figure", .int i ti), (S "rows", .ref D)]) = mTU D i ti c tc (S "") tm (S "") tw none none := by
  funext y
  by_cases h1 : y = S "k"
  · subst h1; rfl
  by_cases h2 : y = S "row"
  · subst h2; rfl
  by_cases h3 : y = S "mail"
  · subst h3; rfl
  by_cases h4 : y = S "wanted"
  · subst h4; rfl
  by_cases h5 : y = S "count"
  · subst h5; rfl
  by_cases h6 : y = S "rows"
  · subst h6; rfl
  by_cases h7 : y = S "figure"
  · subst h7; rfl
  simp only [if_neg h1, if_neg h2, if_neg h3, if_neg h4, if_neg h5, if_neg h6, if_neg h7]
  rw [List.lookup_cons, show (y == S "figure") = false from by simpa using h7, List.lookup_cons, show (y == S "rows") = false from by simpa using h6]
  rfl
theorem mTU_step {D : Addr} {i : Int} {ti tc tm tw tm' tw' : Tok} {c : Nat} {mail wanted mail' wanted' : Str} {rv kv : Option Value} {rv' kv' : Value} : (fun y => if y = S "wanted" then some (.str wanted' tw') else if y = S "mail" then some (.str mail' tm') else if y = S "row" then some rv' else if y = S "k" then some kv' else mTU D i ti c tc mail tm wanted tw rv kv y) = mTU D i ti c tc mail' tm' wanted' tw' (some rv') (some kv') := by
  funext y
  by_cases h1 : y = S "k"
  · subst h1; rfl
  by_cases h2 : y = S "row"
  · subst h2; rfl
  by_cases h3 : y = S "mail"
  · subst h3; rfl
  by_cases h4 : y = S "wanted"
  · subst h4; rfl
  simp only [if_neg h1, if_neg h2, if_neg h3, if_neg h4]
theorem RowsV.get {vs : List Value} {ms : List Nat} (h : RowsV vs ms) : ∀ k, k < ms.length → ∃ t, vs[k]? = some (.str (dotsS (ms.getD k 0)) t) := by
  induction h with
  | nil => intro k hk; exact absurd hk (Nat.not_lt_zero _)
  | @cons t vs m ms _ ih =>
    intro k hk
    cases k with
    | zero => exact ⟨_, rfl⟩
    | succ k => exact ih k (by simpa using hk)
section
variable {prog : Program} {w : World} {A : Around} {E : Value → Shared → Prop} {s : Shared} {h₀ : Heap} {L D : Addr} {m : Str → Option Value} {news : List (Addr × Obj)} {vs : List Value} {ms : List Nat} {n : Nat} {k : Int} {u : Tok}
theorem row_sub {value slice : PySem.Expr} {Q : Value → Shared → Prop} (N : News h₀ L s.heap news) (hm : (D, PySem.W.listOf vs.toArray n) ∈ news) (hv : RowsV vs ms) (h0 : 0 ≤ k) (h1 : k < ms.length) (hfit : k < 2 ^ 63) {x : Nat} (hx : ms.getD k.toNat 0 = x) (h : ∀ t, Q (.str (dotsS x) t) s)
    (hs : subscripted slice false (.ref D) (.int k u) = operate [.ref D, .int k u] (getItem (.ref D) (.int k u)) := by with_unfolding_all rfl) :
    wpAny (model prog w) A (subscriptTail value slice (.ref D) (.int k u)) Q E s := by
  obtain ⟨t, ht⟩ := hv.get k.toNat (by lia)
  rw [hx] at ht
  have hl : s.heap.IsList D vs.toArray := PySem.IsL.isList (n := n) (N _ hm).1
  exact tail_any hl.typeIs slot_list_getitem.lookup (wpAny_getItem_list hl h0 hfit (by simpa using ht) (h t)) hs
theorem dotsS_len (n : Nat) : (dotsS n).length = n := by simp [Str.length]
theorem len_dots {n : Nat} {t : Tok} {Q : Value → Shared → Prop} (hn : n ≤ 100) (h : Q (.int n (s.toks + 1)) { s with toks := s.toks + 1 + 1 }) : wpAny (model prog w) A (call (.builtin "len") [.str (dotsS n) t]) Q E s :=
  len_str (by rw [dotsS_len]; lia) (by rw [dotsS_len]; exact h)
theorem len_rows {Q : Value → Shared → Prop} (N : News h₀ L s.heap news) (hm : (D, PySem.W.listOf vs.toArray n) ∈ news) (hv : RowsV vs ms) (hl : ms.length ≤ 1000) (h : ∀ t k, Q (.int ms.length t) { s with toks := k }) : wpAny (model prog w) A (call (.builtin "len") [.ref D]) Q E s := by
  have hl' : s.heap.IsList D vs.toArray := PySem.IsL.isList (n := n) (N _ hm).1
  have e : (vs.toArray.size : Int) = ms.length := by rw [List.size_toArray, hv.length]
  refine len_list hl' (by rw [e]; lia) ?_
  rw [e]
  exact h _ _
end
section
variable {prog : Program} {w : World} {A : Around} {E : Value → Shared → Prop} {s : Shared} {h₀ : Heap} {L T : Addr} {news : List (Addr × Obj)} {o : Obj} {n : Nat} {j : Int} {u : Tok}
/-- the end of a row, picked out of the four -/
theorem four_j : ∀ n : Nat, n < 4 → (n : Int) = 0 ∨ (n : Int) = 1 ∨ (n : Int) = 2 ∨ (n : Int) = 3 := by decide
theorem tn_sub1 (c m : Nat) : (((c : Int) + 1) - ((m + 1 : Nat) : Int)).toNat = c - m := (Int.toNat_sub (c + 1) (m + 1)).trans (Nat.add_sub_add_right c 1 m)
theorem pick4 {value slice : PySem.Expr} {Q : Value → Shared → Prop} {t0 t1 t2 t3 : Tok} (N : News h₀ L s.heap news) (hm : (T, o) ∈ news) (hc : o.cls = .type "tuple") (hd : o.data = .seq #[.str (S "\n") t0, .str (S "\r") t1, .str (S "\r\n") t2, .str (S "\n\r") t3] n)
    (h0 : 0 ≤ j) (h1 : j < 4) (h : ∀ E t, E.cps.toList = endL j → E.length ≤ 2 → Q (.str E t) s)
    (hs : ∀ j, subscripted slice false (.ref T) (.int j u) = operate [.ref T, .int j u] (getItem (.ref T) (.int j u)) := by with_unfolding_all (intro _; rfl)) :
    wpAny (model prog w) A (subscriptTail value slice (.ref T) (.int j u)) Q E s := by
  have ht : IsTup s.heap T [Value.str (S "\n") t0, .str (S "\r") t1, .str (S "\r\n") t2, .str (S "\n\r") t3].toArray := ⟨_, (N _ hm).1, hc, n, hd⟩
  obtain ⟨jn, rfl⟩ := Int.eq_ofNat_of_zero_le h0
  have hj : (jn : Int) = 0 ∨ (jn : Int) = 1 ∨ (jn : Int) = 2 ∨ (jn : Int) = 3 := four_j jn (Int.ofNat_lt.mp h1)
  rcases hj with hj | hj | hj | hj <;> rw [hj] at h ⊢
  · exact item_tupleT ht (by decide) (by decide) (j := 0) rfl rfl (h _ _ rfl (by decide)) (hs _)
  · exact item_tupleT ht (by decide) (by decide) (j := 1) rfl rfl (h _ _ rfl (by decide)) (hs _)
  · exact item_tupleT ht (by decide) (by decide) (j := 2) rfl rfl (h _ _ rfl (by decide)) (hs _)
  · exact item_tupleT ht (by decide) (by decide) (j := 3) rfl rfl (h _ _ rfl (by decide)) (hs _)
end
local macro_rules | `(tactic| walk_at "RangeRest") => `(tactic| refine WStop.out ?_)
theorem one_flat (k : Nat) (v : Value) : (List.replicate k [v]).flatten = List.replicate k v := by
  induction k with
  | zero => rfl
  | succ k ih => rw [List.replicate_succ, List.flatten_cons, ih]; rfl

theorem turn_spec : ∀ {w : World} {un : Nat} {gd : Option (List Code)} {cn : Str} {cs : Scope} {a : Addr} {ccd : Value} {cl : List (Str × Addr)} {outer : List Env} {A₀ : Around} {base h₀ : Heap} {L : Addr} {m : Str → Option Value} {s : Shared} {Q E : Value → Shared → Prop} {p : Program} {loose : List Str} {mean : ExcName → Option Value} {mg mb : Str → Option Value}
   (_B : Below A₀ base outer h₀) (_F : Fr h₀ L s.heap m) (_X : (fragK.heap_1 w.params).In h₀) (_T : Top p loose mean mg mb h₀) (_hk : cs.kind = .function)
   {D : Addr} {vs : List Value} {ep : Nat} {i : Int} {ti : Tok} {news : List (Addr × Obj)} (_N : News h₀ L s.heap ((D, PySem.W.listOf vs.toArray ep) :: news))
   {c : Nat} {ms : List Nat} (_hv : RowsV vs (c :: ms)) (_hc : c ≤ 10) (_hm : ∀ x ∈ ms, x ≤ 10) (_hm1 : ∀ x ∈ ms, 1 ≤ x) (_hl : (c :: ms).length ≤ 11)
   (_BF : BFacts w base p loose mean mg mb) (_KD : KtsDicts (outer.filterMap (·.frame)) h₀) (_hu : un + 400 < cLine)
   (_ret : ∀ (g' : Heap) (T' D' : Addr) (vs' : List Value) (h' : Heap) (tk' : Nat), RowsV vs' (nextL c ms) → KtsTurn (outer.filterMap (·.frame)) h₀ g' → Fr g' L h' m → News g' L h' ((T', ({ cls := Value.type "tuple", data := Data.seq #[Value.ref D', Value.bool true] } : Obj)) :: (D', PySem.W.listOf vs'.toArray 0) :: (D, PySem.W.listOf vs.toArray ep) :: news) → (@LT.lt Nat _ D' T' ∧ @LT.lt Nat _ D D' ∧ @LT.lt Nat _ D T' ∧ (∀ q ∈ news, @LT.lt Nat _ q.1 D') ∧ ∀ q ∈ news, @LT.lt Nat _ q.1 T') → Below A₀ base outer g' → (fragK.heap_1 w.params).In g' → Top p loose mean mg mb g' → KtsDicts (outer.filterMap (·.frame)) g' → Q (.ref T') { s with heap := h', toks := tk' }),
   wpAny (model PySem.Challenge.rw_kt0066_01.row.prog w) (ktrTop 305 un gd cn cs L a ccd cl outer) (call (.ref 793) [.ref D, .int i ti]) Q E s := by
  k_fill
  intro w un gd cn cs a ccd cl outer A₀ base h₀ L m s Q E p loose mean mg mb B F X T hk D vs ep i ti news N c ms hv hc hm hm1 hl BF KD hu ret
  have hlen : (c :: ms).length = ms.length + 1 := rfl
  have hvl := hv.length
  have hx0 : (c :: ms).getD (Int.toNat 0) 0 = c := rfl
  refine wpAny_call ?_
  (refine' codeE_defS (g₀ := h₀) ?k1 ?k2 ?k3 ?k4 ?k5 ?XB ?TB ?D ?T0 ?kA ?kf ?kK ?k6 ?k7 ?k8 ?k9 ?kB ?_ ?c2 ?c3 ?c4 ?c5; (case kA => exact rfl); (case kf => exact rfl); (case kK => assumption); (case k2 => k_asm); (case k1 => k_asm); (case XB => exact BF.X); (case TB => exact BF.T); (case D => assumption); (case T0 => exact KtsTurn.refl); (case k3 => k_asm); (case k4 => k_asm); (case k5 => k_asm); (case k6 => k_is); (case k7 => k_is); (case k8 => ktr_room); (case k9 => first | exact BindsTo.of_eq rfl | exact binds_K (X.keeps F.keep) rfl (by k_is) rfl rfl rfl); (case kB => exact locs rfl); (case c2 => exact rfl); (case c3 => exact rfl); (case c4 => exact rfl); (case c5 => decide); k_whole; intro g' L' h' FG' F' N' B' X' T' D'; (try dsimp only); (try k_lift B'); (try k_fold))
  repeat' (first | ((with_reducible refine q_out (by assumption) ?_); (try dsimp only)) | ((fail_if_success (with_reducible refine q_chk (by assumption) ?_)); (with_reducible refine q_abs ?_); intro _ _) | (k_unfold; (try dsimp only)) | (k_end; kc_close) | (k_here; (with_reducible show wpAny _ _ (binaryOp _ (Value.ref _) (Value.ref _)) _ _ _); k_dflt (refine kmk_add_lit (by k_asm) (by k_asm) (by kmk_list) (by kmk_list) (by exact rfl) ?_ (by (rw [sizeLine_eq]; simp; lia))); intro Dww hww Fww Nww l1ww; (try k_lt l1ww); (try k_sweep)) | (k_here; (with_reducible show wpAny _ _ (binaryOp Operator.Mult (Value.ref _) (Value.int _ _)) _ _ _); k_dflt (refine KMa.mul (by k_asm) (by k_asm) (by is_list) (by lia) (by lia) (by (simp only [List.length_cons, List.length_nil]; lia)) (by exact one_flat _ _) ?_; k_whole); intro Dww hww Fww Nww l1ww; (try k_lt l1ww); (try k_sweep)) | (k_here; (first | (with_reducible show wpAny _ _ (call (Value.ref 61) _) _ _ _) | (with_reducible show wpAny _ _ (call (Value.ref 786) _) _ _ _) | (with_reducible show wpAny _ _ (call (Value.ref 772) _) _ _ _)); refine WStop.out ?_) | ((with_reducible show wpAny _ _ (pyIter (Value.ref _)) (fun it s₂ => LoopAtV _ _ _ _ _ _ _ _ _ it s₂) _ _); (rename Fr _ _ _ _ => lFww); (rename News _ _ _ _ => lNww); (with_unfolding_all refine iter_rangeUnr (by rfl) (by assumption) (range_up (by lia)).2 (range_up (by lia)).1 lFww lNww ?_); clear lFww lNww; intro iww l1ww) | (k_here; (with_reducible show wpAny _ _ (subscriptTail _ _ (Value.ref _) (Value.int (Int.fmod _ 4) _)) _ _ _); k_dflt (refine pick4 (by k_asm) (by k_mem) (by exact rfl) (by exact rfl) (by lia) (by lia) ?_; k_whole); intro Eww tEww hEww hElww) | (k_here; (with_reducible show wpAny _ _ (subscriptTail _ _ (Value.ref _) (Value.int _ _)) _ _ _); k_dflt (refine row_sub (by k_asm) (by k_mem) (by assumption) (by lia) (by lia) (by lia) (by first | assumption | exact rfl) ?_; k_whole); intro trww) | ((with_reducible show wpAny _ _ (call (Value.builtin "len") _) _ _ _); (k_here; k_dflt (refine len_rows (by k_asm) (by k_mem) (by assumption) (by lia) ?_; k_whole); intro tlww klww)) | (k_here; (with_reducible show wpAny _ _ (call _ [Value.str (dotsS _) _]) _ _ _); refine len_dots (by lia) ?_) | walk1)
  unfold WStop
  refine rr_ind (fun j mp nw => ∃ (mail wanted : Str) (tm tw tc : Tok) (rv kv : Option Value), mp = mTU D i ti c tc mail tm wanted tw rv kv ∧ nw = (D, PySem.W.listOf vs.toArray ep) :: news ∧ mail.cps.toList = mailL i c ms j ∧ wanted.cps.toList = wantL i c ms j) ?jz ?js _ 0 _ _ (Nat.add_zero _) ?ji
  case ji =>
    exact ⟨S "", S "", _, _, _, none, none, mTU_init, rfl, rfl, rfl⟩
  case js =>
    intro j mp nw hjn hI0
    refine goal_abs fun GP hGP => ?_
    obtain ⟨mail, wanted, tm, tw, tc, rv, kv, rfl, rfl, hm1', hw1⟩ := hI0
    refine hGP ?_
    clear hGP
    intro t h9 tk9 F9 N9
    have ek : (1 : Int) + (j : Int) = ((j + 1 : Nat) : Int) := by lia
    rw [ek] at F9
    have hx : (c :: ms).getD (((j + 1 : Nat) : Int)).toNat 0 = ms.getD j 0 := rfl
    have hx10 : ms.getD j 0 ≤ 10 := getD_le hm j
    obtain ⟨x, hxd⟩ : ∃ x, ms.getD j 0 = x := ⟨_, rfl⟩
    rw [hxd] at hx hx10
    have hdx : (dotsS x).length ≤ 10 := by rw [dotsS_len]; exact hx10
    have hmz : mail.length ≤ 200 := by rw [len_toList, hm1']; have := mailL_len (i := i) (c := c) hm j; lia
    have hwz : wanted.length ≤ 200 := by rw [len_toList, hw1]; have := wantL_len (i := i) (c := c) hm j; lia
    have hf1 := Int.fmod_nonneg_of_pos (i + ((j + 1 : Nat) : Int)) (b := 4) (by decide)
    have hf2 := Int.fmod_lt_of_pos (i + ((j + 1 : Nat) : Int)) (b := 4) (by decide)
    by_cases hk : j + 1 ≤ c
    · repeat' (first | ((with_reducible refine q_out (by assumption) ?_); (try dsimp only)) | ((fail_if_success (with_reducible refine q_chk (by assumption) ?_)); (with_reducible refine q_abs ?_); intro _ _) | (k_unfold; (try dsimp only)) | (k_end; kc_close) | (k_here; (with_reducible show wpAny _ _ (binaryOp _ (Value.ref _) (Value.ref _)) _ _ _); k_dflt (refine kmk_add_lit (by k_asm) (by k_asm) (by kmk_list) (by kmk_list) (by exact rfl) ?_ (by (rw [sizeLine_eq]; simp; lia))); intro Dww hww Fww Nww l1ww; (try k_lt l1ww); (try k_sweep)) | (k_here; (with_reducible show wpAny _ _ (binaryOp Operator.Mult (Value.ref _) (Value.int _ _)) _ _ _); k_dflt (refine KMa.mul (by k_asm) (by k_asm) (by is_list) (by lia) (by lia) (by (simp only [List.length_cons, List.length_nil]; lia)) (by exact one_flat _ _) ?_; k_whole); intro Dww hww Fww Nww l1ww; (try k_lt l1ww); (try k_sweep)) | (k_here; (first | (with_reducible show wpAny _ _ (call (Value.ref 61) _) _ _ _) | (with_reducible show wpAny _ _ (call (Value.ref 786) _) _ _ _) | (with_reducible show wpAny _ _ (call (Value.ref 772) _) _ _ _)); refine WStop.out ?_) | ((with_reducible show wpAny _ _ (pyIter (Value.ref _)) (fun it s₂ => LoopAtV _ _ _ _ _ _ _ _ _ it s₂) _ _); (rename Fr _ _ _ _ => lFww); (rename News _ _ _ _ => lNww); (with_unfolding_all refine iter_rangeUnr (by rfl) (by assumption) (range_up (by lia)).2 (range_up (by lia)).1 lFww lNww ?_); clear lFww lNww; intro iww l1ww) | (k_here; (with_reducible show wpAny _ _ (subscriptTail _ _ (Value.ref _) (Value.int (Int.fmod _ 4) _)) _ _ _); k_dflt (refine pick4 (by k_asm) (by k_mem) (by exact rfl) (by exact rfl) (by lia) (by lia) ?_; k_whole); intro Eww tEww hEww hElww) | (k_here; (with_reducible show wpAny _ _ (subscriptTail _ _ (Value.ref _) (Value.int _ _)) _ _ _); k_dflt (refine row_sub (by k_asm) (by k_mem) (by assumption) (by lia) (by lia) (by lia) (by first | assumption | exact rfl) ?_; k_whole); intro trww) | ((with_reducible show wpAny _ _ (call (Value.builtin "len") _) _ _ _); (k_here; k_dflt (refine len_rows (by k_asm) (by k_mem) (by assumption) (by lia) ?_; k_whole); intro tlww klww)) | (k_here; (with_reducible show wpAny _ _ (call _ [Value.str (dotsS _) _]) _ _ _); refine len_dots (by lia) ?_) | walk1)
      · (rename (((i + ((j + 1 : Nat) : Int)).fmod 4 < 3)) => h3); (rename (_ = endL _) => hE); (rename News _ _ _ _ => NN); (rename Fr _ _ _ _ => FF); (rename (∀ p, p ∈ (D, _) :: news → p.1 < _) => hI)
        refine' UnrEnd.intro FF NN ((D, PySem.W.listOf vs.toArray ep) :: news) ?sub ?off ⟨_, _, _, _, _, _, _, mTU_step, rfl, ?e1, ?e2⟩
        case sub => (intro p hp; (repeat (rcases List.mem_cons.mp hp with rfl | hp; (· repeat (first | (with_reducible exact List.mem_cons_self) | (with_reducible exact List.Mem.head _) | apply List.Mem.tail)))); (repeat (first | exact hp | apply List.Mem.tail)))
        case off => (intro p hp; exact Nat.ne_of_lt (hI p hp))
        case e1 => (simp only [str_app, hm1', mailL, rowL, hxd, if_pos hk, hE]; try rfl)
        case e2 => (simp only [str_app, hw1, wantL, rowL, hxd, if_pos hk, if_pos h3]; rfl)
      · (rename (¬((i + ((j + 1 : Nat) : Int)).fmod 4 < 3)) => h3); (rename (_ = endL _) => hE); (rename News _ _ _ _ => NN); (rename Fr _ _ _ _ => FF); (rename (∀ p, p ∈ (D, _) :: news → p.1 < _) => hI)
        refine' UnrEnd.intro FF NN ((D, PySem.W.listOf vs.toArray ep) :: news) ?sub ?off ⟨_, _, _, _, _, _, _, mTU_step, rfl, ?e1, ?e2⟩
        case sub => (intro p hp; (repeat (rcases List.mem_cons.mp hp with rfl | hp; (· repeat (first | (with_reducible exact List.mem_cons_self) | (with_reducible exact List.Mem.head _) | apply List.Mem.tail)))); (repeat (first | exact hp | apply List.Mem.tail)))
        case off => (intro p hp; exact Nat.ne_of_lt (hI p hp))
        case e1 => (simp only [str_app, hm1', mailL, rowL, hxd, if_pos hk, hE]; try rfl)
        case e2 => (simp only [str_app, hw1, wantL, rowL, hxd, if_pos hk, if_neg h3]; rfl)
    · repeat' (first | ((with_reducible refine q_out (by assumption) ?_); (try dsimp only)) | ((fail_if_success (with_reducible refine q_chk (by assumption) ?_)); (with_reducible refine q_abs ?_); intro _ _) | (k_unfold; (try dsimp only)) | (k_end; kc_close) | (k_here; (with_reducible show wpAny _ _ (binaryOp _ (Value.ref _) (Value.ref _)) _ _ _); k_dflt (refine kmk_add_lit (by k_asm) (by k_asm) (by kmk_list) (by kmk_list) (by exact rfl) ?_ (by (rw [sizeLine_eq]; simp; lia))); intro Dww hww Fww Nww l1ww; (try k_lt l1ww); (try k_sweep)) | (k_here; (with_reducible show wpAny _ _ (binaryOp Operator.Mult (Value.ref _) (Value.int _ _)) _ _ _); k_dflt (refine KMa.mul (by k_asm) (by k_asm) (by is_list) (by lia) (by lia) (by (simp only [List.length_cons, List.length_nil]; lia)) (by exact one_flat _ _) ?_; k_whole); intro Dww hww Fww Nww l1ww; (try k_lt l1ww); (try k_sweep)) | (k_here; (first | (with_reducible show wpAny _ _ (call (Value.ref 61) _) _ _ _) | (with_reducible show wpAny _ _ (call (Value.ref 786) _) _ _ _) | (with_reducible show wpAny _ _ (call (Value.ref 772) _) _ _ _)); refine WStop.out ?_) | ((with_reducible show wpAny _ _ (pyIter (Value.ref _)) (fun it s₂ => LoopAtV _ _ _ _ _ _ _ _ _ it s₂) _ _); (rename Fr _ _ _ _ => lFww); (rename News _ _ _ _ => lNww); (with_unfolding_all refine iter_rangeUnr (by rfl) (by assumption) (range_up (by lia)).2 (range_up (by lia)).1 lFww lNww ?_); clear lFww lNww; intro iww l1ww) | (k_here; (with_reducible show wpAny _ _ (subscriptTail _ _ (Value.ref _) (Value.int (Int.fmod _ 4) _)) _ _ _); k_dflt (refine pick4 (by k_asm) (by k_mem) (by exact rfl) (by exact rfl) (by lia) (by lia) ?_; k_whole); intro Eww tEww hEww hElww) | (k_here; (with_reducible show wpAny _ _ (subscriptTail _ _ (Value.ref _) (Value.int _ _)) _ _ _); k_dflt (refine row_sub (by k_asm) (by k_mem) (by assumption) (by lia) (by lia) (by lia) (by first | assumption | exact rfl) ?_; k_whole); intro trww) | ((with_reducible show wpAny _ _ (call (Value.builtin "len") _) _ _ _); (k_here; k_dflt (refine len_rows (by k_asm) (by k_mem) (by assumption) (by lia) ?_; k_whole); intro tlww klww)) | (k_here; (with_reducible show wpAny _ _ (call _ [Value.str (dotsS _) _]) _ _ _); refine len_dots (by lia) ?_) | walk1)
      unfold WStop
      k_dflt (refine' hid_spec (r := dotsS x) ?jB ?jF ?jX ?jT ?jK ?jN ?jl ?jd ?ju ?_; (case jN => k_asm); (case jF => k_asm); (case jB => assumption); (case jX => assumption); (case jT => assumption); (case jK => first | exact rfl | assumption); (case jl => lia); (case jd => ktr_room); (case ju => ktr_units))
      intro t7 h7 tk7 F7 N7
      obtain ⟨R, hR⟩ : ∃ R : Str, (if (i.fdiv 4 + ((j + 1 : Nat) : Int)).fmod 3 = 0 then S "'" ++ dotsS x ++ S "'" else if (i.fdiv 4 + ((j + 1 : Nat) : Int)).fmod 3 = 1 then S "\\" ++ dotsS x else S " " ++ dotsS x) = R := ⟨_, rfl⟩
      rw [hR]
      have hRL : R.cps.toList = rowL i c (j + 1) x := by
        rw [← hR]
        unfold rowL
        rw [if_neg hk]
        split
        · simp only [str_app]; rfl
        split
        · simp only [str_app]; rfl
        · simp only [str_app]; rfl
      have hRlen : R.length ≤ 12 := by
        rw [len_toList, hRL]
        have := rowL_len i c (j + 1) x
        lia
      clear hR
      repeat' (first | ((with_reducible refine q_out (by assumption) ?_); (try dsimp only)) | ((fail_if_success (with_reducible refine q_chk (by assumption) ?_)); (with_reducible refine q_abs ?_); intro _ _) | (k_unfold; (try dsimp only)) | (k_end; kc_close) | (k_here; (with_reducible show wpAny _ _ (binaryOp _ (Value.ref _) (Value.ref _)) _ _ _); k_dflt (refine kmk_add_lit (by k_asm) (by k_asm) (by kmk_list) (by kmk_list) (by exact rfl) ?_ (by (rw [sizeLine_eq]; simp; lia))); intro Dww hww Fww Nww l1ww; (try k_lt l1ww); (try k_sweep)) | (k_here; (with_reducible show wpAny _ _ (binaryOp Operator.Mult (Value.ref _) (Value.int _ _)) _ _ _); k_dflt (refine KMa.mul (by k_asm) (by k_asm) (by is_list) (by lia) (by lia) (by (simp only [List.length_cons, List.length_nil]; lia)) (by exact one_flat _ _) ?_; k_whole); intro Dww hww Fww Nww l1ww; (try k_lt l1ww); (try k_sweep)) | (k_here; (first | (with_reducible show wpAny _ _ (call (Value.ref 61) _) _ _ _) | (with_reducible show wpAny _ _ (call (Value.ref 786) _) _ _ _) | (with_reducible show wpAny _ _ (call (Value.ref 772) _) _ _ _)); refine WStop.out ?_) | ((with_reducible show wpAny _ _ (pyIter (Value.ref _)) (fun it s₂ => LoopAtV _ _ _ _ _ _ _ _ _ it s₂) _ _); (rename Fr _ _ _ _ => lFww); (rename News _ _ _ _ => lNww); (with_unfolding_all refine iter_rangeUnr (by rfl) (by assumption) (range_up (by lia)).2 (range_up (by lia)).1 lFww lNww ?_); clear lFww lNww; intro iww l1ww) | (k_here; (with_reducible show wpAny _ _ (subscriptTail _ _ (Value.ref _) (Value.int (Int.fmod _ 4) _)) _ _ _); k_dflt (refine pick4 (by k_asm) (by k_mem) (by exact rfl) (by exact rfl) (by lia) (by lia) ?_; k_whole); intro Eww tEww hEww hElww) | (k_here; (with_reducible show wpAny _ _ (subscriptTail _ _ (Value.ref _) (Value.int _ _)) _ _ _); k_dflt (refine row_sub (by k_asm) (by k_mem) (by assumption) (by lia) (by lia) (by lia) (by first | assumption | exact rfl) ?_; k_whole); intro trww) | ((with_reducible show wpAny _ _ (call (Value.builtin "len") _) _ _ _); (k_here; k_dflt (refine len_rows (by k_asm) (by k_mem) (by assumption) (by lia) ?_; k_whole); intro tlww klww)) | (k_here; (with_reducible show wpAny _ _ (call _ [Value.str (dotsS _) _]) _ _ _); refine len_dots (by lia) ?_) | walk1)
      · (rename (((i + ((j + 1 : Nat) : Int)).fmod 4 < 3)) => h3); (rename (_ = endL _) => hE); (rename News _ _ _ _ => NN); (rename Fr _ _ _ _ => FF); (rename (∀ p, p ∈ (D, _) :: news → p.1 < _) => hI)
        refine' UnrEnd.intro FF NN ((D, PySem.W.listOf vs.toArray ep) :: news) ?sub ?off ⟨_, _, _, _, _, _, _, mTU_step, rfl, ?e1, ?e2⟩
        case sub => (intro p hp; (repeat (rcases List.mem_cons.mp hp with rfl | hp; (· repeat (first | (with_reducible exact List.mem_cons_self) | (with_reducible exact List.Mem.head _) | apply List.Mem.tail)))); (repeat (first | exact hp | apply List.Mem.tail)))
        case off => (intro p hp; exact Nat.ne_of_lt (hI p hp))
        case e1 => (simp only [str_app, hm1', mailL, hRL, hxd, hE]; try rfl)
        case e2 => (simp only [str_app, hw1, wantL, hRL, hxd, if_neg hk, if_pos h3]; rfl)
      · (rename (¬((i + ((j + 1 : Nat) : Int)).fmod 4 < 3)) => h3); (rename (_ = endL _) => hE); (rename News _ _ _ _ => NN); (rename Fr _ _ _ _ => FF); (rename (∀ p, p ∈ (D, _) :: news → p.1 < _) => hI)
        refine' UnrEnd.intro FF NN ((D, PySem.W.listOf vs.toArray ep) :: news) ?sub ?off ⟨_, _, _, _, _, _, _, mTU_step, rfl, ?e1, ?e2⟩
        case sub => (intro p hp; (repeat (rcases List.mem_cons.mp hp with rfl | hp; (· repeat (first | (with_reducible exact List.mem_cons_self) | (with_reducible exact List.Mem.head _) | apply List.Mem.tail)))); (repeat (first | exact hp | apply List.Mem.tail)))
        case off => (intro p hp; exact Nat.ne_of_lt (hI p hp))
        case e1 => (simp only [str_app, hm1', mailL, hRL, hxd, hE]; try rfl)
        case e2 => (simp only [str_app, hw1, wantL, hRL, hxd, if_neg hk, if_neg h3]; rfl)
  case jz =>
    intro mp nw hI0
    refine goal_abs fun GP hGP => ?_
    obtain ⟨mail, wanted, tm, tw, tc, rv, kv, rfl, rfl, hm1', hw1⟩ := hI0
    refine hGP ?_
    clear hGP
    intro h9 tk9 F9 N9
    dsimp only
    repeat' (first | ((with_reducible refine q_out (by assumption) ?_); (try dsimp only)) | ((fail_if_success (with_reducible refine q_chk (by assumption) ?_)); (with_reducible refine q_abs ?_); intro _ _) | (k_unfold; (try dsimp only)) | (k_end; kc_close) | (k_here; (with_reducible show wpAny _ _ (binaryOp _ (Value.ref _) (Value.ref _)) _ _ _); k_dflt (refine kmk_add_lit (by k_asm) (by k_asm) (by kmk_list) (by kmk_list) (by exact rfl) ?_ (by (rw [sizeLine_eq]; simp; lia))); intro Dww hww Fww Nww l1ww; (try k_lt l1ww); (try k_sweep)) | (k_here; (with_reducible show wpAny _ _ (binaryOp Operator.Mult (Value.ref _) (Value.int _ _)) _ _ _); k_dflt (refine KMa.mul (by k_asm) (by k_asm) (by is_list) (by lia) (by lia) (by (simp only [List.length_cons, List.length_nil]; lia)) (by exact one_flat _ _) ?_; k_whole); intro Dww hww Fww Nww l1ww; (try k_lt l1ww); (try k_sweep)) | (k_here; (first | (with_reducible show wpAny _ _ (call (Value.ref 61) _) _ _ _) | (with_reducible show wpAny _ _ (call (Value.ref 786) _) _ _ _) | (with_reducible show wpAny _ _ (call (Value.ref 772) _) _ _ _)); refine WStop.out ?_) | ((with_reducible show wpAny _ _ (pyIter (Value.ref _)) (fun it s₂ => LoopAtV _ _ _ _ _ _ _ _ _ it s₂) _ _); (rename Fr _ _ _ _ => lFww); (rename News _ _ _ _ => lNww); (with_unfolding_all refine iter_rangeUnr (by rfl) (by assumption) (range_up (by lia)).2 (range_up (by lia)).1 lFww lNww ?_); clear lFww lNww; intro iww l1ww) | (k_here; (with_reducible show wpAny _ _ (subscriptTail _ _ (Value.ref _) (Value.int (Int.fmod _ 4) _)) _ _ _); k_dflt (refine pick4 (by k_asm) (by k_mem) (by exact rfl) (by exact rfl) (by lia) (by lia) ?_; k_whole); intro Eww tEww hEww hElww) | (k_here; (with_reducible show wpAny _ _ (subscriptTail _ _ (Value.ref _) (Value.int _ _)) _ _ _); k_dflt (refine row_sub (by k_asm) (by k_mem) (by assumption) (by lia) (by lia) (by lia) (by first | assumption | exact rfl) ?_; k_whole); intro trww) | ((with_reducible show wpAny _ _ (call (Value.builtin "len") _) _ _ _); (k_here; k_dflt (refine len_rows (by k_asm) (by k_mem) (by assumption) (by lia) ?_; k_whole); intro tlww klww)) | (k_here; (with_reducible show wpAny _ _ (call _ [Value.str (dotsS _) _]) _ _ _); refine len_dots (by lia) ?_) | walk1)
    unfold WStop
    have hmz : mail.length ≤ 200 := by rw [len_toList, hm1']; have := mailL_len (i := i) (c := c) hm ms.length; lia
    k_dflt (refine' quo_spec (txt := mail) ?jB ?jF ?jX ?jT ?jK ?jN ?jl ?jd ?ju ?_; (case jN => k_asm); (case jF => k_asm); (case jB => assumption); (case jX => assumption); (case jT => assumption); (case jK => first | exact rfl | assumption); (case jl => lia); (case jd => ktr_room); (case ju => ktr_units))
    intro t7 h7 tk7 F7 N7
    have hsent : subDot true (subNl mail.cps.toList) = wanted.cps.toList := by rw [hm1', hw1]; exact (mail_want hm1 ms.length (Nat.le_refl _)).1
    rw [hsent]
    have hwz : wanted.length ≤ 200 := by rw [len_toList, hw1]; have := wantL_len (i := i) (c := c) hm ms.length; lia
    have htoks : Toks wanted.cps.toList ((List.range ms.length).map (tokN c ms)) := by rw [hw1]; exact toks_want hm1
    have hwe : (⟨wanted.cps.toList.toArray⟩ : Str) = wanted := by simp
    rw [hwe]
    repeat' (first | ((with_reducible refine q_out (by assumption) ?_); (try dsimp only)) | ((fail_if_success (with_reducible refine q_chk (by assumption) ?_)); (with_reducible refine q_abs ?_); intro _ _) | (k_unfold; (try dsimp only)) | (k_end; kc_close) | (k_here; (with_reducible show wpAny _ _ (binaryOp _ (Value.ref _) (Value.ref _)) _ _ _); k_dflt (refine kmk_add_lit (by k_asm) (by k_asm) (by kmk_list) (by kmk_list) (by exact rfl) ?_ (by (rw [sizeLine_eq]; simp; lia))); intro Dww hww Fww Nww l1ww; (try k_lt l1ww); (try k_sweep)) | (k_here; (with_reducible show wpAny _ _ (binaryOp Operator.Mult (Value.ref _) (Value.int _ _)) _ _ _); k_dflt (refine KMa.mul (by k_asm) (by k_asm) (by is_list) (by lia) (by lia) (by (simp only [List.length_cons, List.length_nil]; lia)) (by exact one_flat _ _) ?_; k_whole); intro Dww hww Fww Nww l1ww; (try k_lt l1ww); (try k_sweep)) | (k_here; (first | (with_reducible show wpAny _ _ (call (Value.ref 61) _) _ _ _) | (with_reducible show wpAny _ _ (call (Value.ref 786) _) _ _ _) | (with_reducible show wpAny _ _ (call (Value.ref 772) _) _ _ _)); refine WStop.out ?_) | ((with_reducible show wpAny _ _ (pyIter (Value.ref _)) (fun it s₂ => LoopAtV _ _ _ _ _ _ _ _ _ it s₂) _ _); (rename Fr _ _ _ _ => lFww); (rename News _ _ _ _ => lNww); (with_unfolding_all refine iter_rangeUnr (by rfl) (by assumption) (range_up (by lia)).2 (range_up (by lia)).1 lFww lNww ?_); clear lFww lNww; intro iww l1ww) | (k_here; (with_reducible show wpAny _ _ (subscriptTail _ _ (Value.ref _) (Value.int (Int.fmod _ 4) _)) _ _ _); k_dflt (refine pick4 (by k_asm) (by k_mem) (by exact rfl) (by exact rfl) (by lia) (by lia) ?_; k_whole); intro Eww tEww hEww hElww) | (k_here; (with_reducible show wpAny _ _ (subscriptTail _ _ (Value.ref _) (Value.int _ _)) _ _ _); k_dflt (refine row_sub (by k_asm) (by k_mem) (by assumption) (by lia) (by lia) (by lia) (by first | assumption | exact rfl) ?_; k_whole); intro trww) | ((with_reducible show wpAny _ _ (call (Value.builtin "len") _) _ _ _); (k_here; k_dflt (refine len_rows (by k_asm) (by k_mem) (by assumption) (by lia) ?_; k_whole); intro tlww klww)) | (k_here; (with_reducible show wpAny _ _ (call _ [Value.str (dotsS _) _]) _ _ _); refine len_dots (by lia) ?_) | walk1)
    unfold WStop
    k_dflt (refine' split_spec (txt := wanted) ?jB ?jF ?jX ?jT ?jK ?jN ?jBF ?jD htoks ?jl ?ju ?_; (case jN => k_asm); (case jF => k_asm); (case jB => assumption); (case jX => assumption); (case jT => assumption); (case jBF => assumption); (case jD => assumption); (case jK => first | exact rfl | assumption); (case jl => lia); (case ju => ktr_units))
    intro g9 D9 vs9 ep9 h9 tk9 hv9 KT9 F9 N9 nD9 B9 X9 T9 K9
    have hl9 : vs9.length = ms.length := by rw [hv9.length]; simp
    repeat' (first | ((with_reducible refine q_out (by assumption) ?_); (try dsimp only)) | ((fail_if_success (with_reducible refine q_chk (by assumption) ?_)); (with_reducible refine q_abs ?_); intro _ _) | (k_unfold; (try dsimp only)) | (k_end; kc_close) | (k_here; (with_reducible show wpAny _ _ (binaryOp _ (Value.ref _) (Value.ref _)) _ _ _); k_dflt (refine kmk_add_lit (by k_asm) (by k_asm) (by kmk_list) (by kmk_list) (by exact rfl) ?_ (by (rw [sizeLine_eq]; simp; lia))); intro Dww hww Fww Nww l1ww; (try k_lt l1ww); (try k_sweep)) | (k_here; (with_reducible show wpAny _ _ (binaryOp Operator.Mult (Value.ref _) (Value.int _ _)) _ _ _); k_dflt (refine KMa.mul (by k_asm) (by k_asm) (by is_list) (by lia) (by lia) (by (simp only [List.length_cons, List.length_nil]; lia)) (by exact one_flat _ _) ?_; k_whole); intro Dww hww Fww Nww l1ww; (try k_lt l1ww); (try k_sweep)) | (k_here; (first | (with_reducible show wpAny _ _ (call (Value.ref 61) _) _ _ _) | (with_reducible show wpAny _ _ (call (Value.ref 786) _) _ _ _) | (with_reducible show wpAny _ _ (call (Value.ref 772) _) _ _ _)); refine WStop.out ?_) | ((with_reducible show wpAny _ _ (pyIter (Value.ref _)) (fun it s₂ => LoopAtV _ _ _ _ _ _ _ _ _ it s₂) _ _); (rename Fr _ _ _ _ => lFww); (rename News _ _ _ _ => lNww); (with_unfolding_all refine iter_rangeUnr (by rfl) (by assumption) (range_up (by lia)).2 (range_up (by lia)).1 lFww lNww ?_); clear lFww lNww; intro iww l1ww) | (k_here; (with_reducible show wpAny _ _ (subscriptTail _ _ (Value.ref _) (Value.int (Int.fmod _ 4) _)) _ _ _); k_dflt (refine pick4 (by k_asm) (by k_mem) (by exact rfl) (by exact rfl) (by lia) (by lia) ?_; k_whole); intro Eww tEww hEww hElww) | (k_here; (with_reducible show wpAny _ _ (subscriptTail _ _ (Value.ref _) (Value.int _ _)) _ _ _); k_dflt (refine row_sub (by k_asm) (by k_mem) (by assumption) (by lia) (by lia) (by lia) (by first | assumption | exact rfl) ?_; k_whole); intro trww) | ((with_reducible show wpAny _ _ (call (Value.builtin "len") _) _ _ _); (k_here; k_dflt (refine len_rows (by k_asm) (by k_mem) (by assumption) (by lia) ?_; k_whole); intro tlww klww)) | (k_here; (with_reducible show wpAny _ _ (call _ [Value.str (dotsS _) _]) _ _ _); refine len_dots (by lia) ?_) | walk1)
    all_goals (rename News _ _ _ _ => NN)
    have hww : (wanted == wanted) = true := by simp
    have e0 : ((c : Int) + 1 - ((c :: ms).length : Int)).toNat = c - ms.length := tn_sub1 c ms.length
    rw [hww, e0] at NN
    refine' ret _ _ _ (vs9 ++ List.replicate (c - ms.length) (.str (S ".") tk9)) _ _ ?jv ?jt ?jf ?jn ?jl ?jb ?jx ?jp ?jk
    case jn => (intro p hp; (rcases List.mem_cons.mp hp with rfl | hp); exact NN _ (.head _); (rcases List.mem_cons.mp hp with rfl | hp); exact NN _ (.tail _ (.head _)); exact NN _ (.tail _ (.tail _ (.tail _ (.tail _ (.tail _ hp))))))
    case jf => k_asm
    case jt => assumption
    case jv => exact hv9.append (rowsV_ones _)
    case jb => assumption
    case jx => assumption
    case jp => assumption
    case jk => assumption
    case jl => ((rename (_ < _ ∧ _ < _ ∧ _ < _ ∧ _ < _ ∧ AllLt _ news) => f1); (rename (_ < _ ∧ _ < _ ∧ _ < _ ∧ _ < _ ∧ _ < _ ∧ AllLt _ news) => f2); exact ⟨f2.1, f1.2.2.2.1, f2.2.2.2.2.1, ktn_ltOf f1.2.2.2.2, ktn_ltOf f2.2.2.2.2.2⟩)
end Mine
end
section
open PySem PySem.W PyProof.Rows PySem.Calls
set_option Elab.async false
set_option maxRecDepth 100000
set_option maxHeartbeats 8000000
namespace Mine
section
variable {prog : Program} {w : World} {A : Around} {E : Value → Shared → Prop} {s : Shared} {env : Env} {x : Str} {px : Pos} {body : List Stmt} {Q : Flow → Shared → Prop}
noncomputable abbrev Grd := Nat → Heap → (Str → Option Value) → List (Addr × Obj) → Prop
noncomputable def TurnEnd (J : Grd) (i : Nat) (L I : Addr) (it : Obj) (s₁ s₂ : Shared) : Prop :=
  ∃ g h tk m news, s₂ = { s₁ with heap := h, toks := tk } ∧ Fr g L h m ∧ News g L h ((I, it) :: news) ∧ (∀ p ∈ news, p.1 ≠ I) ∧ J i g m news
noncomputable def TurnPost (J : Grd) (i : Nat) (L I : Addr) (it : Obj) (s₁ : Shared) (Q : Flow → Shared → Prop) (f : Flow) (s₂ : Shared) : Prop :=
  match f with
  | .ret v => Q (.ret v) s₂
  | .brk => Q .next s₂
  | _ => TurnEnd J i L I it s₁ s₂
/-- a loop over a range's iterator whose turns may turn the ground -/
theorem for_turn {I : Addr} {a : Int} {n : Nat} {g : Heap} {m : Str → Option Value} {news : List (Addr × Obj)} (J : Grd)
    (hh : A.handled = none) (hx : env.kindOf x = some .local)
    (hp : (env.scope.kind == .class || (env.scope.kind == .module && env.locals != env.globals)) = false)
    (F : Fr g env.locals s.heap m) (N : News g env.locals s.heap ((I, itR a n) :: news)) (hoff : ∀ p ∈ news, p.1 ≠ I) (h0 : J 0 g m news)
    (step : ∀ i g m news t h tk, i < n → J i g m news → (∀ p ∈ news, p.1 ≠ I) → Fr g env.locals h (fun y => if y = x then some (.int (a + (i : Int)) t) else m y) →
      News g env.locals h ((I, itR (a + ((i + 1 : Nat) : Int)) ((n : Int) - ((i + 1 : Nat) : Int))) :: news) →
      wpAny (model prog w) A (execs body env) (TurnPost J (i + 1) env.locals I (itR (a + ((i + 1 : Nat) : Int)) ((n : Int) - ((i + 1 : Nat) : Int))) { s with heap := h, toks := tk } Q) E { s with heap := h, toks := tk })
    (done : ∀ g m news h tk, J n g m news → Fr g env.locals h m → News g env.locals h news → Q .next { s with heap := h, toks := tk })
    (hE : PassesOwn (model prog w) A env E := by passes_own) :
    codeAny (model prog w) A (.forLoop (.Name x px) (.ref I) body [] env) (fun r s' => match r with | .ok f => Q f s' | .error e => cameBackBy (model prog w) A env E e s') s := by
  have W := Walks.range (prog := prog) (w := w) hh I a 1 n
  have ir : ∀ (k : Nat) (h : Heap), h.get? I = some (itR (a + (k : Int)) ((n : Int) - (k : Int))) ↔ IsRangeIter h I (a + (k : Nat) * 1) ((n : Int) - (k : Nat)) 1 := fun k h => by
    rw [Int.mul_one]; exact Iff.rfl
  refine codeAny_forLoop
    (fun k s' => ∃ g h' tk m' news', ∃ i : Nat, s' = { s with heap := h', toks := tk } ∧ Fr g env.locals h' m' ∧ News g env.locals h' ((I, itR (a + (i : Int)) ((n : Int) - (i : Int))) :: news') ∧ (∀ p ∈ news', p.1 ≠ I) ∧ J i g m' news' ∧ i ≤ n ∧ k = n + 1 - i) ?_ (n + 1)
    ⟨g, s.heap, s.toks, m, news, 0, rfl, F, ?_, hoff, h0, Nat.zero_le _, rfl⟩
  case refine_2 =>
    have e1 : a + ((0 : Nat) : Int) = a := by simp
    have e2 : (n : Int) - ((0 : Nat) : Int) = n := by simp
    rw [e1, e2]; exact N
  intro k s' hI0
  refine goal_abs fun GP hGP => ?_
  obtain ⟨g', h', tk, m', news', i, rfl, F', N', hoff', hJ, hi, rfl⟩ := hI0
  refine hGP ?_
  clear hGP
  have nI := N' _ (.head _)
  have st : IsRangeIter h' I (a + (i : Nat) * 1) ((n : Int) - (i : Nat)) 1 := (ir i h').mp nI.1
  have hIg : g'.get? I = none := nI.2.2
  have next : ∀ h₁ : Heap, (∀ b o, b ∉ [I] → h'.get? b = some o → h₁.get? b = some o) → Fr g' env.locals h₁ m' ∧ News g' env.locals h₁ news' := fun h₁ hk₁ =>
    ⟨⟨F'.ns.at' fun o e => hk₁ _ o (fun q => nI.2.1 (List.mem_singleton.mp q).symm) e, fun b o e => hk₁ b o (fun q => by rw [List.mem_singleton.mp q, hIg] at e; cases e) (F'.keep b o e), F'.above⟩,
      fun p hp => ⟨hk₁ _ _ (fun q => hoff' p hp (List.mem_singleton.mp q)) (N' p (.tail _ hp)).1, (N' p (.tail _ hp)).2⟩⟩
  by_cases hlt : i < n
  · refine W.item i _ _ _ hlt st fun v h₁ tk₁ hP hst₁ hk₁ => ?_
    obtain ⟨t, rfl⟩ := hP
    obtain ⟨F₁, N₁⟩ := next h₁ hk₁
    have g1 : h₁.get? I = some (itR (a + ((i + 1 : Nat) : Int)) ((n : Int) - ((i + 1 : Nat) : Int))) := (ir (i + 1) h₁).mpr hst₁
    have N₂ : News g' env.locals h₁ ((I, itR (a + ((i + 1 : Nat) : Int)) ((n : Int) - ((i + 1 : Nat) : Int))) :: news') := fun p hp => by
      rcases List.mem_cons.mp hp with rfl | hp
      · exact ⟨g1, nI.2⟩
      · exact N₁ p hp
    refine wpAny_assign_Name (wpAny_storeName_local hx F₁.ns (fun h₂ hn₂ hs₂ => ?_) hp)
    have F₂ := F₁.set hn₂ hs₂
    rw [Int.mul_one] at F₂
    refine wpAny_passesOwn hE (wpAny_mono (step i g' m' news' t h₂ _ hlt hJ hoff' F₂ (N₂.set hs₂)) (fun f s₃ h₃ => ?_) fun _ _ e => e)
    have fin : TurnEnd J (i + 1) env.locals I (itR (a + ((i + 1 : Nat) : Int)) ((n : Int) - ((i + 1 : Nat) : Int))) { s with heap := h₂, toks := tk₁ + 1 } s₃ →
        ∃ k', k' < n + 1 - i ∧ ∃ g h' tk m' news', ∃ i : Nat, s₃ = { s with heap := h', toks := tk } ∧ Fr g env.locals h' m' ∧ News g env.locals h' ((I, itR (a + (i : Int)) ((n : Int) - (i : Int))) :: news') ∧ (∀ p ∈ news', p.1 ≠ I) ∧ J i g m' news' ∧ i ≤ n ∧ k' = n + 1 - i := by
      rintro ⟨g3, h3, tk3, m3, news3, rfl, F3, N3, o3, J3⟩
      exact ⟨n + 1 - (i + 1), by lia, g3, h3, tk3, m3, news3, i + 1, rfl, F3, N3, o3, J3, hlt, rfl⟩
    cases f with
    | ret v => exact h₃
    | brk => exact h₃
    | cont => exact fin h₃
    | next => exact fin h₃
  · have hin : i = n := by lia
    subst hin
    refine W.done _ _ _ st fun h₁ tk₁ hk₁ => wpAny_execs_nil ?_
    obtain ⟨F₁, N₁⟩ := next h₁ hk₁
    exact done g' m' news' h₁ tk₁ hJ F₁ N₁
end
section
variable {prog : Program} {w : World} {A : Around} {E : Value → Shared → Prop} {s : Shared} {h₀ : Heap} {L : Addr} {m : Str → Option Value} {news : List (Addr × Obj)} {Q : Value → Shared → Prop}
noncomputable abbrev rgO (a b : Int) (t u v : Tok) : Obj := { cls := .type "range", dict := none, data := .fields #[.int a t, .int b u, .int 1 v], slots := #[] }
/-- range(n): the object comes onto the ledger -/
theorem rng_new {n : Int} {t : Tok} (F : Fr h₀ L s.heap m) (N : News h₀ L s.heap news)
    (h : ∀ (R : Addr) (t1 t2 : Tok) (h' : Heap) (tk : Nat), Fr h₀ L h' m → News h₀ L h' ((R, rgO 0 n t1 t t2) :: news) → (∀ p ∈ news, p.1 < R) → Q (.ref R) { s with heap := h', toks := tk }) :
    wpAny (model prog w) A (call (.type "range") [.int n t]) Q E s :=
  call_range_1 (h _ _ _ _ _ (F.push _) (News.push F N _ rfl) fun p hp => Heap.lt_size (N p hp).1)
theorem iter_rng {R : Addr} {n : Nat} {t u v : Tok} (F : Fr h₀ L s.heap m) (N : News h₀ L s.heap news) (hm : (R, rgO 0 n t u v) ∈ news) (hn : n < 1000)
    (h : ∀ (I : Addr) (h' : Heap), Fr h₀ L h' m → News h₀ L h' ((I, itR 0 n) :: news) → (∀ p ∈ news, p.1 < I) → Q (.ref I) { s with heap := h' }) :
    wpAny (model prog w) A (call (.builtin "iter") [.ref R]) Q E s := by
  refine call_function_entry (by decide +kernel) (by decide +kernel) kdk_entry_iter (kdk_args_iter _) ?_
  unfold Builtin.«iter»
  refine wpAny_bind (m := someArgs "iter" 1 2 _) (wpAny_of_eq (a := [Value.ref R]) (by first | rfl | kernel_rfl!) ?_)
  show wpAny _ _ (pyIter (.ref R) >>= _) _ _ _
  have hsz : Builtin.Range.rangeSize 0 (n : Int) 1 = (n : Int) := by
    unfold Builtin.Range.rangeSize
    rw [if_pos (by decide), Int.ediv_one]
    split <;> lia
  refine wpAny_bind (wpAny_pyIter_range (N _ hm).1 (small_one (by decide) (by decide) (by lia) (by lia)) ?_)
  refine wpAny_pure ⟨_, rfl, h _ _ (F.push _) ?_ fun p hp => Heap.lt_size (N p hp).1⟩
  have hp := News.push F N { cls := .type "range_iterator", data := .fields #[rawInt 0, rawInt (Builtin.Range.rangeSize 0 (n : Int) 1), rawInt 1] } rfl
  rw [hsz] at hp ⊢
  exact hp
end
end Mine
end
section
open PySem
set_option Elab.async false
set_option maxRecDepth 100000
namespace Mine
noncomputable def nextR : List Nat → List Nat
  | [] => []
  | c :: ms => nextL c ms
noncomputable def iterR (r : List Nat) : Nat → List Nat
  | 0 => r
  | n + 1 => nextR (iterR r n)
structure Good (r : List Nat) : Prop where
  ne : r ≠ []
  pos : ∀ x ∈ r, 1 ≤ x
  sum : r.sum ≤ 10
theorem le_sum : ∀ {r : List Nat} {x : Nat}, x ∈ r → x ≤ r.sum
  | y :: r, x, h => by
    rw [List.sum_cons]
    rcases List.mem_cons.mp h with rfl | h
    · lia
    · have := le_sum h; lia
theorem len_sum : ∀ {r : List Nat}, (∀ x ∈ r, 1 ≤ x) → r.length ≤ r.sum
  | [], _ => Nat.le_refl _
  | y :: r, h => by
    have h1 := h y (.head _)
    have h2 := len_sum fun x hx => h x (.tail _ hx)
    rw [List.sum_cons, List.length_cons]
    lia
theorem sum_tok {c : Nat} {ms : List Nat} : ∀ n, n ≤ ms.length → ((List.range n).map (tokN c ms)).sum = (ms.take n).sum + min c n
  | 0, _ => by simp
  | n + 1, h => by
    have ih := sum_tok (c := c) (ms := ms) n (by lia)
    rw [List.range_succ, List.map_append, List.sum_append, ih, List.take_succ_eq_append_getElem (by lia), List.sum_append]
    have e : ms.getD n 0 = ms[n] := by rw [List.getD_eq_getElem?_getD, List.getElem?_eq_getElem (by lia)]; rfl
    simp only [List.map_cons, List.map_nil, List.sum_cons, List.sum_nil, tokN, e]
    split <;> lia
theorem good_next {r : List Nat} (h : Good r) : Good (nextR r) := by
  obtain ⟨h1, h2, h3⟩ := h
  cases r with
  | nil => exact absurd rfl h1
  | cons c ms =>
    have hc := h2 c (.head _)
    have hm : ∀ x ∈ ms, 1 ≤ x := fun x hx => h2 x (.tail _ hx)
    rw [List.sum_cons] at h3
    refine ⟨fun e => ?_, fun x hx => ?_, ?_⟩
    · have := congrArg List.length e
      simp only [nextR, nextL, List.length_append, List.length_map, List.length_range, List.length_replicate, List.length_nil] at this
      lia
    · rcases List.mem_append.mp hx with hx | hx
      · obtain ⟨j, hj, rfl⟩ := List.mem_map.mp hx
        have hj := List.mem_range.mp hj
        have : 1 ≤ ms.getD j 0 := by
          rw [List.getD_eq_getElem?_getD, List.getElem?_eq_getElem hj]
          exact hm _ (List.getElem_mem hj)
        unfold tokN
        split <;> lia
      · rw [(List.mem_replicate.mp hx).2]
        exact Nat.le_refl _
    · show (((List.range ms.length).map (tokN c ms)) ++ List.replicate (c - ms.length) 1).sum ≤ 10
      rw [List.sum_append, sum_tok _ (Nat.le_refl _), List.take_length, List.sum_replicate_nat]
      lia
theorem good_iter {r : List Nat} (h : Good r) : ∀ n, Good (iterR r n)
  | 0 => h
  | n + 1 => good_next (good_iter h n)
end Mine
end
section
open PySem PySem.W PyProof.Rows
set_option Elab.async false
set_option maxRecDepth 100000
set_option maxHeartbeats 8000000
namespace Mine
noncomputable abbrev tupO (D : Addr) : Obj := { cls := Value.type "tuple", data := Data.seq #[Value.ref D, Value.bool true] }
/-- a turn's rows and True, as the ledger bears them -/
noncomputable def TurnIn (l : List (Addr × Obj)) (v : Value) (ms : List Nat) : Prop :=
  ∃ (T D : Addr) (rv : List Value) (ep : Nat), v = .ref T ∧ (T, tupO D) ∈ l ∧ (D, PySem.W.listOf rv.toArray ep) ∈ l ∧ RowsV rv ms
inductive ToldV (l : List (Addr × Obj)) : List Value → List (List Nat) → Prop
  | nil : ToldV l [] []
  | cons {v vs ms mss} : TurnIn l v ms → ToldV l vs mss → ToldV l (v :: vs) (ms :: mss)
theorem TurnIn.mono {l l' : List (Addr × Obj)} {v : Value} {ms : List Nat} (h : TurnIn l v ms) (hs : ∀ p ∈ l, p ∈ l') : TurnIn l' v ms := by
  obtain ⟨T, D, rv, ep, e, h1, h2, h3⟩ := h
  exact ⟨T, D, rv, ep, e, hs _ h1, hs _ h2, h3⟩
theorem ToldV.mono {l l' : List (Addr × Obj)} {vs : List Value} {mss : List (List Nat)} (h : ToldV l vs mss) (hs : ∀ p ∈ l, p ∈ l') : ToldV l' vs mss := by
  induction h with
  | nil => exact .nil
  | cons h _ ih => exact .cons (h.mono hs) ih
theorem ToldV.snoc {l : List (Addr × Obj)} {vs : List Value} {mss : List (List Nat)} {v : Value} {ms : List Nat} (h : ToldV l vs mss) (t : TurnIn l v ms) : ToldV l (vs ++ [v]) (mss ++ [ms]) := by
  induction h with
  | nil => exact .cons t .nil
  | cons h _ ih => exact .cons h ih
theorem ToldV.len {l : List (Addr × Obj)} {vs : List Value} {mss : List (List Nat)} (h : ToldV l vs mss) : vs.length = mss.length := by
  induction h with
  | nil => rfl
  | cons _ _ ih => simp [ih]
theorem ToldV.split {l : List (Addr × Obj)} {vs : List Value} {mss : List (List Nat)} {ms : List Nat} (h : ToldV l vs (mss ++ [ms])) : ∃ us v, vs = us ++ [v] ∧ ToldV l us mss ∧ TurnIn l v ms := by
  induction mss generalizing vs with
  | nil =>
    cases h with
    | cons h r => cases r; exact ⟨[], _, rfl, .nil, h⟩
  | cons x mss ih =>
    cases h with
    | cons h r =>
      obtain ⟨us, v, rfl, a, b⟩ := ih r
      exact ⟨_ :: us, v, rfl, .cons h a, b⟩
theorem facts_of {A₀ : Around} {base g : Heap} {outer : List Env} {K : Frag} {p : Program} {loose : List Str} {mean : ExcName → Option Value} {mg mb : Str → Option Value} {fs : List Addr}
    (B : Below A₀ base outer g) (X : K.In g) (T : Top p loose mean mg mb g) (D : KtsDicts fs g) :
    ∃ PF : Heap → Prop, PF g ∧ ∀ g', PF g' ↔ KtsTurn fs g g' ∧ Below A₀ base outer g' ∧ K.In g' ∧ Top p loose mean mg mb g' ∧ KtsDicts fs g' :=
  ⟨fun g' => KtsTurn fs g g' ∧ Below A₀ base outer g' ∧ K.In g' ∧ Top p loose mean mg mb g' ∧ KtsDicts fs g', ⟨KtsTurn.refl, B, X, T, D⟩, fun _ => Iff.rfl⟩
noncomputable abbrev mRD (vf vq vi vit vv : Value) (ev : Option Value) : Str → Option Value := fun y =>
  if y = S "element" then ev else if y = S "value" then some vv else if y = S "it" then some vit else if y = S "function" then some vf else if y = S "sequence" then some vq else if y = S "initial" then some vi else none
theorem mRD_init {vf vq vi vit vv : Value} : ∀ y, (if y = S "value" then some vv else if y = S "it" then some vit else List.lookup y [(S "initial", vi), (S "sequence", vq), (S "function", vf)]) = mRD vf vq vi vit vv none y := by
  intro y
  by_cases h0 : y = S "element"
  · subst h0; rfl
  by_cases h1 : y = S "value"
  · subst h1; rfl
  by_cases h2 : y = S "it"
  · subst h2; rfl
  by_cases h3 : y = S "initial"
  · subst h3; rfl
  by_cases h4 : y = S "sequence"
  · subst h4; rfl
  by_cases h5 : y = S "function"
  · subst h5; rfl
  simp only [mRD, if_neg h0, if_neg h1, if_neg h2, if_neg h3, if_neg h4, if_neg h5, List.lookup, beq_eq_false_iff_ne.mpr h3, beq_eq_false_iff_ne.mpr h4, beq_eq_false_iff_ne.mpr h5]
theorem mRD_step {vf vq vi vit vv vv' e' : Value} {ev : Option Value} : ∀ y, (if y = S "value" then some vv' else if y = S "element" then some e' else mRD vf vq vi vit vv ev y) = mRD vf vq vi vit vv' (some e') y := by
  intro y
  by_cases h0 : y = S "element"
  · subst h0; rfl
  by_cases h1 : y = S "value"
  · subst h1; rfl
  simp only [mRD, if_neg h0, if_neg h1]
section
variable {prog : Program} {w : World} {A : Around} {E : Value → Shared → Prop} {s : Shared} {h₀ : Heap} {L D : Addr} {m : Str → Option Value} {news : List (Addr × Obj)} {us : List Value} {v : Value} {n : Nat} {Q : Value → Shared → Prop}
theorem last_sub {value slice : PySem.Expr} {u : Tok} (N : News h₀ L s.heap news) (hm : (D, PySem.W.listOf (us ++ [v]).toArray n) ∈ news) (hl : us.length < 1000) (h : Q v s)
    (hs : subscripted slice false (.ref D) (.int (-1) u) = operate [.ref D, .int (-1) u] (getItem (.ref D) (.int (-1) u)) := by with_unfolding_all rfl) :
    wpAny (model prog w) A (subscriptTail value slice (.ref D) (.int (-1) u)) Q E s := by
  have hl' : s.heap.IsList D (us ++ [v]).toArray := PySem.IsL.isList (n := n) (N _ hm).1
  refine kde_neg (j := us.length) (v := v) hl' (by decide) (by decide) ?_ ?_ h hs
  · unfold seqIndex?
    simp
    lia
  · simp
theorem pow4_any {t u : Tok} {j : Nat} {Q : Value → Shared → Prop} (hj : j < 14) (h : ∀ q : Int, 0 < q → q < 1073741824 → Q (.int q s.toks) { s with toks := s.toks + 1 }) :
    wpAny (model prog w) A (binaryOp .Pow (.int 4 t) (.int (0 + (j : Int)) u)) Q E s := by
  have e : (0 + (j : Int)).toNat = j := by lia
  refine pow_int_small (by lia) (by lia) (by decide) ?_
  rw [e]
  have h1 : (4 : Nat) ^ j ≤ 4 ^ 13 := Nat.pow_le_pow_right (by decide) (by lia)
  have h2 : (4 : Nat) ^ 13 = 67108864 := by decide
  have h3 : 0 < (4 : Nat) ^ j := Nat.pow_pos (by decide)
  have e2 : (4 : Int) ^ j = ((4 ^ j : Nat) : Int) := by push_cast; rfl
  refine h _ ?_ ?_ <;> (rw [e2]; lia)
theorem fd_any {a q : Int} {t u : Tok} {Q : Value → Shared → Prop} (h0 : 0 < q) (h1 : q < 1073741824) (h : ∀ z : Int, Q (.int z s.toks) { s with toks := s.toks + 1 }) :
    wpAny (model prog w) A (binaryOp .FloorDiv (.int a t) (.int q u)) Q E s :=
  floordiv_int (by lia) (h _) (Or.inl (PyProof.noPylong_small (by lia)))
theorem add_one {TE D1 : Addr} {vs : List Value} {v : Value} {e1 e2 : Nat} (F : Fr h₀ L s.heap m) (N : News h₀ L s.heap news) (h1 : (TE, PySem.W.listOf vs.toArray e1) ∈ news) (h2 : (D1, PySem.W.listOf #[v] e2) ∈ news) (hz : vs.length < 1000)
    (h : ∀ D h', Fr h₀ L h' m → News h₀ L h' ((D, PySem.W.listOf (vs ++ [v]).toArray 0) :: news) → (∀ p ∈ news, p.1 < D) → Q (.ref D) { s with heap := h' }) :
    wpAny (model prog w) A (binaryOp .Add (.ref TE) (.ref D1)) Q E s := by
  have a1 : s.heap.IsList TE vs.toArray := PySem.IsL.isList (n := e1) (N _ h1).1
  have a2 : s.heap.IsList D1 #[v] := PySem.IsL.isList (n := e2) (N _ h2).1
  refine kmk_add_lit F N a1 a2 (zs := vs ++ [v]) (by simp) h ?_
  rw [sizeLine_eq]
  simp
  lia
theorem news_up {g h : Heap} {p : Addr × Obj} {l : List (Addr × Obj)} (N : News g L h l) (hp : p ∈ l) : News g L h (p :: l) := fun q hq => by
  (revert q; refine all_cons (N _ hp) ?_; intro q hq)
  · exact N _ hq
theorem news_sub {g h : Heap} {l l' : List (Addr × Obj)} (N : News g L h l) (hs : ∀ q ∈ l', q ∈ l) : News g L h l' := fun q hq => N q (hs q hq)
end
end Mine
end
section
open PySem PySem.W PyProof.Rows
local macro_rules | `(tactic| walk_at "idle") => `(tactic| skip)
section
open PySem PySem.W PyProof.Rows
set_option Elab.async false
set_option maxRecDepth 100000
set_option maxHeartbeats 8000000
namespace Mine

local macro_rules | `(tactic| walk_at "exec For Name Name cons nil") => `(tactic| refine WStop.out ?_)

theorem pld_news {i td t1 r f c l d : Addr × Obj} {P : Addr} {tb : Array Value} {news : List (Addr × Obj)} {g h : Heap} {L : Addr} (N : News g L h (i :: td :: t1 :: r :: f :: c :: l :: (P, tabObj tb) :: d :: news)) :
    ∃ tb', News g L h (i :: td :: f :: c :: l :: t1 :: d :: (P, tabObj tb') :: news) := ⟨tb, fun q hq => N q (by
  (revert q; (repeat (refine all_cons ?_ ?_; (· repeat (first | (with_reducible exact List.mem_cons_self) | (with_reducible exact List.Mem.head _) | apply List.Mem.tail)))); intro q hq)
  (repeat (first | exact hq | exact absurd hq List.not_mem_nil | apply List.Mem.tail)))⟩
theorem played_spec : ∀ {w : World} {un : Nat} {gd : Option (List Code)} {cn : Str} {cs : Scope} {a : Addr} {ccd : Value} {cl : List (Str × Addr)} {outer : List Env} {A₀ : Around} {base h₀ : Heap} {L : Addr} {m : Str → Option Value} {s : Shared} {Q E : Value → Shared → Prop} {p : Program} {loose : List Str} {mean : ExcName → Option Value} {mg mb : Str → Option Value}
   (_B : Below A₀ base outer h₀) (_F : Fr h₀ L s.heap m) (_X : (fragK.heap_1 w.params).In h₀) (_T : Top p loose mean mg mb h₀) (_hk : cs.kind = .function)
   {D : Addr} {vs : List Value} {ep : Nat} {i : Int} {ti : Tok} {n : Nat} {tn : Tok} {rows : List Nat} {news : List (Addr × Obj)} (_N : News h₀ L s.heap ((nat_lit 795, tabObj #[]) :: (D, PySem.W.listOf vs.toArray ep) :: news)) (_C : CodeHd base (nat_lit 799) (nat_lit 795))
   (_BF : BFacts w base p loose mean mg mb) (_KD : KtsDicts (outer.filterMap (·.frame)) h₀) (_hu : un + 600 < cLine) (_hn : n ≤ 13) (_hD : @Ne Nat D 795) (_hne : ∀ p ∈ news, p.1 ≠ nat_lit 795) (_hv : RowsV vs rows) (_hg : Good rows)
   (_ret : ∀ (g' : Heap) (TD : Addr) (tvs : List Value) (ep' : Nat) (tl : List (Addr × Obj)) (h' : Heap) (tk' : Nat), ToldV tl tvs ((List.range (n + 1)).map (iterR rows)) → KtsTurn (outer.filterMap (·.frame)) h₀ g' → Fr g' L h' m → News g' L h' ((TD, PySem.W.listOf tvs.toArray ep') :: tl) → (∀ q ∈ (D, PySem.W.listOf vs.toArray ep) :: news, q ∈ tl) → (∃ tb, (nat_lit 795, tabObj tb) ∈ tl) → Below A₀ base outer g' → (fragK.heap_1 w.params).In g' → Top p loose mean mg mb g' → KtsDicts (outer.filterMap (·.frame)) g' → Q (.ref TD) { s with heap := h', toks := tk' }),
   wpAny (model PySem.Challenge.rw_kt0066_01.row.prog w) (ktrTop 302 un gd cn cs L a ccd cl outer) (call (.ref 800) [.ref D, .int i ti, .int n tn]) Q E s := by
  k_fill
  intro w un gd cn cs a ccd cl outer A₀ base h₀ L m s Q E p loose mean mg mb B F X T hk D vs ep i ti n tn rows news N C BF KD hu hn hD hne hv hgood ret
  refine wpAny_call ?_
  (refine' codeE_cellsS (g₀ := h₀) (binds := [(S "rows", .ref D), (S "figures", .int i ti), (S "turns", .int n tn)]) ?k1 ?k2 ?k3 ?k4 ?k5 ?XB ?TB ?D ?T0 ?kA ?kF ?kK ?k6 ?k7 ?k8 ?k9 ?kB ?kD ?_ ?c2 ?c3 ?c4; (case kA => exact rfl); (case kF => exact rfl); (case kK => assumption); (case k2 => k_asm); (case k1 => k_asm); (case XB => exact BF.X); (case TB => exact BF.T); (case D => assumption); (case T0 => exact KtsTurn.refl); (case k3 => k_asm); (case k4 => k_asm); (case k5 => k_asm); (case k6 => k_is); (case k7 => k_is); (case k8 => ktr_room); (case k9 => first | exact BindsTo.of_eq rfl | exact binds_K (X.keeps F.keep) rfl (by k_is) rfl rfl rfl); (case kB => exact rfl); (case kD => decide +kernel); (case c2 => exact rfl); (case c3 => exact rfl); (case c4 => exact rfl); k_whole; intro g' L' h' tk' cells' FG' F' N' Y' B' X' T' l1 D'; (try k_lt l1); k_cells Y'; (try simp only [List.cons_append, List.nil_append] at N'); (try dsimp only); (try k_lift B'); (try k_fold))
  replace F' : Fr g' L' h' (fun y => if y = S "turns" then some (.int n tn) else if y = S "rows" then some (.ref D) else none) := F'
  (rename (_ = Data.cell _) => dC')
  replace dC' : _ = Data.cell (some (.int i ti)) := dC'
  repeat' (first | (k_unfold; (try dsimp only)) | (k_end; kc_close) | (k_here; (with_reducible show wpAny _ _ (call (Value.ref 77) _) _ _ _); refine WStop.out ?_) | ((with_reducible show wpAny _ _ (call (Value.builtin "iter") _) _ _ _); (k_here; k_dflt (refine iter_rng (by k_asm) (by k_asm) (by k_mem) (by lia) ?_; k_whole); intro _ _ _ _ l1ww; (try k_lt l1ww)); (revert l1ww; intro _)) | ((with_reducible show wpAny _ _ (call (Value.type "range") _) _ _ _); (k_here; k_dflt (refine rng_new (by k_asm) (by k_asm) ?_; k_whole); intro _ _ _ _ _ _ _ l1ww; (try k_lt l1ww)); (revert l1ww; intro _)) | (k_here; (with_reducible show wpAny _ _ (binaryOp _ (Value.ref _) (Value.ref _)) _ _ _); k_dflt (refine add_one (by k_asm) (by k_asm) (by k_mem) (by k_mem) (by assumption) ?_; k_whole); intro _ _ _ _ l1ww; (try k_lt l1ww); (revert l1ww; intro _)) | ((with_reducible show wpAny _ _ (binaryOp Operator.FloorDiv (Value.int _ _) (Value.int _ _)) _ _ _); (k_here; k_dflt (refine fd_any (by assumption) (by assumption) ?_; k_whole); intro _)) | ((with_reducible show wpAny _ _ (binaryOp Operator.Pow (Value.int _ _) (Value.int _ _)) _ _ _); (k_here; k_dflt (refine pow4_any (by lia) ?_; k_whole); intro _ _ _)) | (k_here; (with_reducible show wpAny _ _ (subscriptTail _ _ (Value.ref _) (Value.int (-1) _)) _ _ _); k_dflt (refine last_sub (by k_asm) (by k_mem) (by assumption) ?_; k_whole)) | (k_here; (with_reducible show wpAny _ _ (call (Value.ref _) [Value.ref _, Value.int _ _]) _ _ _); refine WStop.out ?_) | ((with_reducible show wpAny _ _ (pyIter (Value.ref _)) (fun it s₂ => codeAny _ _ _ _ _) _ _); refine WStop.out ?_) | walk1)
  unfold WStop
  (rename News _ _ _ _ => N2)
  (rename Fr _ _ _ _ => F2)
  rename_i o1 f1 c1 oc1 vs1 t1 ct1 h1 tk1 d1 d2 la lb R1 ta tb h2 tk2 lc T1 h3 ld TD h4 le
  refine wpAny_call ?_
  (refine' codeE_defS (g₀ := g') (binds := [(S "function", .ref f1), (S "sequence", .ref R1), (S "initial", .ref TD)]) ?k1 ?k2 ?k3 ?k4 ?k5 ?XB ?TB ?D ?T0 ?kA ?kf ?kK ?k6 ?k7 ?k8 ?k9 ?kB ?_ ?c2 ?c3 ?c4 ?c5; (case kA => exact rfl); (case kf => exact rfl); (case kK => exact rfl); (case k2 => k_asm); (case k1 => k_asm); (case XB => exact BF.X); (case TB => exact BF.T); (case D => assumption); (case T0 => exact KtsTurn.refl); (case k3 => k_asm); (case k4 => k_asm); (case k5 => k_asm); (case k6 => k_is); (case k7 => k_is); (case k8 => ktr_room); (case k9 => first | exact BindsTo.of_eq rfl | exact binds_K (X'.keeps F2.keep) rfl (by k_is) rfl rfl rfl); (case kB => exact locs rfl); (case c2 => exact rfl); (case c3 => exact rfl); (case c4 => exact rfl); (case c5 => decide); k_whole; intro gr Lr hr FGr Fr' Nr Br Xr Tr Dr; (try dsimp only); (try k_lift Br); (try k_fold))
  repeat' (first | (k_unfold; (try dsimp only)) | (k_end; kc_close) | (k_here; (with_reducible show wpAny _ _ (call (Value.ref 77) _) _ _ _); refine WStop.out ?_) | ((with_reducible show wpAny _ _ (call (Value.builtin "iter") _) _ _ _); (k_here; k_dflt (refine iter_rng (by k_asm) (by k_asm) (by k_mem) (by lia) ?_; k_whole); intro _ _ _ _ l1ww; (try k_lt l1ww)); (revert l1ww; intro _)) | ((with_reducible show wpAny _ _ (call (Value.type "range") _) _ _ _); (k_here; k_dflt (refine rng_new (by k_asm) (by k_asm) ?_; k_whole); intro _ _ _ _ _ _ _ l1ww; (try k_lt l1ww)); (revert l1ww; intro _)) | (k_here; (with_reducible show wpAny _ _ (binaryOp _ (Value.ref _) (Value.ref _)) _ _ _); k_dflt (refine add_one (by k_asm) (by k_asm) (by k_mem) (by k_mem) (by assumption) ?_; k_whole); intro _ _ _ _ l1ww; (try k_lt l1ww); (revert l1ww; intro _)) | ((with_reducible show wpAny _ _ (binaryOp Operator.FloorDiv (Value.int _ _) (Value.int _ _)) _ _ _); (k_here; k_dflt (refine fd_any (by assumption) (by assumption) ?_; k_whole); intro _)) | ((with_reducible show wpAny _ _ (binaryOp Operator.Pow (Value.int _ _) (Value.int _ _)) _ _ _); (k_here; k_dflt (refine pow4_any (by lia) ?_; k_whole); intro _ _ _)) | (k_here; (with_reducible show wpAny _ _ (subscriptTail _ _ (Value.ref _) (Value.int (-1) _)) _ _ _); k_dflt (refine last_sub (by k_asm) (by k_mem) (by assumption) ?_; k_whole)) | (k_here; (with_reducible show wpAny _ _ (call (Value.ref _) [Value.ref _, Value.int _ _]) _ _ _); refine WStop.out ?_) | ((with_reducible show wpAny _ _ (pyIter (Value.ref _)) (fun it s₂ => codeAny _ _ _ _ _) _ _); refine WStop.out ?_) | walk1)
  unfold WStop
  refine wpAny_For ?_
  repeat' (first | (k_unfold; (try dsimp only)) | (k_end; kc_close) | (k_here; (with_reducible show wpAny _ _ (call (Value.ref 77) _) _ _ _); refine WStop.out ?_) | ((with_reducible show wpAny _ _ (call (Value.builtin "iter") _) _ _ _); (k_here; k_dflt (refine iter_rng (by k_asm) (by k_asm) (by k_mem) (by lia) ?_; k_whole); intro _ _ _ _ l1ww; (try k_lt l1ww)); (revert l1ww; intro _)) | ((with_reducible show wpAny _ _ (call (Value.type "range") _) _ _ _); (k_here; k_dflt (refine rng_new (by k_asm) (by k_asm) ?_; k_whole); intro _ _ _ _ _ _ _ l1ww; (try k_lt l1ww)); (revert l1ww; intro _)) | (k_here; (with_reducible show wpAny _ _ (binaryOp _ (Value.ref _) (Value.ref _)) _ _ _); k_dflt (refine add_one (by k_asm) (by k_asm) (by k_mem) (by k_mem) (by assumption) ?_; k_whole); intro _ _ _ _ l1ww; (try k_lt l1ww); (revert l1ww; intro _)) | ((with_reducible show wpAny _ _ (binaryOp Operator.FloorDiv (Value.int _ _) (Value.int _ _)) _ _ _); (k_here; k_dflt (refine fd_any (by assumption) (by assumption) ?_; k_whole); intro _)) | ((with_reducible show wpAny _ _ (binaryOp Operator.Pow (Value.int _ _) (Value.int _ _)) _ _ _); (k_here; k_dflt (refine pow4_any (by lia) ?_; k_whole); intro _ _ _)) | (k_here; (with_reducible show wpAny _ _ (subscriptTail _ _ (Value.ref _) (Value.int (-1) _)) _ _ _); k_dflt (refine last_sub (by k_asm) (by k_mem) (by assumption) ?_; k_whole)) | (k_here; (with_reducible show wpAny _ _ (call (Value.ref _) [Value.ref _, Value.int _ _]) _ _ _); refine WStop.out ?_) | ((with_reducible show wpAny _ _ (pyIter (Value.ref _)) (fun it s₂ => codeAny _ _ _ _ _) _ _); refine WStop.out ?_) | walk1)
  unfold WStop
  (rename News _ _ _ _ => N3)
  (rename Fr _ _ _ _ => F3)
  rename_i tk3 I1 h5 lf h6 h7
  generalize hFO : kla_obj _ _ _ _ _ _ _ _ _ = FO at N3
  have nI := N3 _ (.head _)
  refine wpAny_pyIter_rangeiter (x := 0) (left := (n : Int)) (step := 1) nI.1 ?_
  obtain ⟨PF, hPF0, hPFi⟩ := facts_of Br Xr Tr Dr
  obtain ⟨tbv, N4⟩ := pld_news N3
  clear N3
  refine for_turn (n := n) (m := mRD (.ref f1) (.ref R1) (.ref TD) (.ref I1) (.ref TD) none) (news := (TD, PySem.W.listOf [Value.ref T1].toArray 0) :: (f1, FO) :: (c1, oc1) :: (L' + 1, o1) :: (T1, tupO D) :: (D, PySem.W.listOf vs.toArray ep) :: (nat_lit 795, tabObj tbv) :: news)
    (fun j g mp nw => ∃ (TE : Addr) (tvs : List Value) (ep' : Nat) (tl : List (Addr × Obj)) (ev : Option Value), mp = mRD (.ref f1) (.ref R1) (.ref TD) (.ref I1) (.ref TE) ev ∧ nw = (TE, PySem.W.listOf tvs.toArray ep') :: (f1, FO) :: (c1, oc1) :: (L' + 1, o1) :: tl ∧
      ToldV tl tvs ((List.range (j + 1)).map (iterR rows)) ∧ (∀ q ∈ (D, PySem.W.listOf vs.toArray ep) :: (nat_lit 795, tabObj tbv) :: news, q ∈ tl) ∧ PF g)
    rfl rfl rfl (fr_cast F3 mRD_init) N4 ?joff ?j0 ?jstep ?jdone
  case joff =>
    intro q hq
    (revert q; refine all_cons (Nat.ne_of_lt lf.1) ?_; intro q hq)
    (revert q; refine all_cons (Nat.ne_of_lt lf.2.2.2.1) ?_; intro q hq)
    (revert q; refine all_cons (Nat.ne_of_lt lf.2.2.2.2.1) ?_; intro q hq)
    (revert q; refine all_cons (Nat.ne_of_lt lf.2.2.2.2.2.1) ?_; intro q hq)
    (revert q; refine all_cons (Nat.ne_of_lt lf.2.1) ?_; intro q hq)
    (revert q; refine all_cons (Nat.ne_of_lt lf.2.2.2.2.2.2.2.1) ?_; intro q hq)
    (revert q; refine all_cons (Nat.ne_of_lt lf.2.2.2.2.2.2.1) ?_; intro q hq)
    exact Nat.ne_of_lt (ktn_ltOf lf.2.2.2.2.2.2.2.2 q hq)
  case j0 =>
    exact ⟨TD, [.ref T1], 0, _, none, rfl, rfl, .cons ⟨T1, D, vs, ep, rfl, .head _, .tail _ (.head _), hv⟩ .nil, fun q hq => .tail _ hq, hPF0⟩
  case jstep =>
    intro j g mp nw t h9 tk9 hjn hI0
    refine goal_abs fun GP hGP => ?_
    obtain ⟨TE, tvs, ep', tl, ev, rfl, rfl, hT, hsub, hPF⟩ := hI0
    refine hGP ?_
    clear hGP
    intro hoff F5 N5
    refine goal_abs fun GP hGP => ?_
    obtain ⟨kt5, B5, X5, T5, D5⟩ := (hPFi g).mp hPF
    have hTo := hT
    rw [List.range_succ, List.map_append] at hT
    obtain ⟨us, v, rfl, hU, T2, D2, rv, ep2, rfl, hT2, hD2, hrv⟩ := hT.split
    have hG := good_iter hgood j
    obtain ⟨c, ms, hcm⟩ : ∃ c ms, iterR rows j = c :: ms := by
      cases e : iterR rows j with
      | nil => exact absurd e hG.ne
      | cons c ms => exact ⟨c, ms, rfl⟩
    refine hGP ?_
    clear hGP
    have hul : us.length < 1000 := by rw [hU.len]; simp; lia
    have hul2 : (us ++ [Value.ref T2]).length < 1000 := by rw [List.length_append, hU.len]; simp; lia
    subst hFO
    have N6 := news_up (news_up N5 (p := (T2, tupO D2)) (by simp [hT2])) (p := (D2, PySem.W.listOf rv.toArray ep2)) (by simp [hD2])
    clear N5
    repeat' (first | (k_unfold; (try dsimp only)) | (k_end; kc_close) | (k_here; (with_reducible show wpAny _ _ (call (Value.ref 77) _) _ _ _); refine WStop.out ?_) | ((with_reducible show wpAny _ _ (call (Value.builtin "iter") _) _ _ _); (k_here; k_dflt (refine iter_rng (by k_asm) (by k_asm) (by k_mem) (by lia) ?_; k_whole); intro _ _ _ _ l1ww; (try k_lt l1ww)); (revert l1ww; intro _)) | ((with_reducible show wpAny _ _ (call (Value.type "range") _) _ _ _); (k_here; k_dflt (refine rng_new (by k_asm) (by k_asm) ?_; k_whole); intro _ _ _ _ _ _ _ l1ww; (try k_lt l1ww)); (revert l1ww; intro _)) | (k_here; (with_reducible show wpAny _ _ (binaryOp _ (Value.ref _) (Value.ref _)) _ _ _); k_dflt (refine add_one (by k_asm) (by k_asm) (by k_mem) (by k_mem) (by assumption) ?_; k_whole); intro _ _ _ _ l1ww; (try k_lt l1ww); (revert l1ww; intro _)) | ((with_reducible show wpAny _ _ (binaryOp Operator.FloorDiv (Value.int _ _) (Value.int _ _)) _ _ _); (k_here; k_dflt (refine fd_any (by assumption) (by assumption) ?_; k_whole); intro _)) | ((with_reducible show wpAny _ _ (binaryOp Operator.Pow (Value.int _ _) (Value.int _ _)) _ _ _); (k_here; k_dflt (refine pow4_any (by lia) ?_; k_whole); intro _ _ _)) | (k_here; (with_reducible show wpAny _ _ (subscriptTail _ _ (Value.ref _) (Value.int (-1) _)) _ _ _); k_dflt (refine last_sub (by k_asm) (by k_mem) (by assumption) ?_; k_whole)) | (k_here; (with_reducible show wpAny _ _ (call (Value.ref _) [Value.ref _, Value.int _ _]) _ _ _); refine WStop.out ?_) | ((with_reducible show wpAny _ _ (pyIter (Value.ref _)) (fun it s₂ => codeAny _ _ _ _ _) _ _); refine WStop.out ?_) | walk1)
    unfold WStop
    (rename News _ _ _ _ => N7)
    (rename Fr _ _ _ _ => F7)
    refine wpAny_call ?_
    (refine' codeE_lamS (g₀ := g) (binds := [(S "told", .ref TE), (S "turn", .int (0 + (j : Int)) t)]) ?k1 ?k2 ?k3 ?k4 ?k5 ?XB ?TB ?D ?T0 ?kA ?kF ?kK ?k6 ?k7 ?k8 ?k9 ?kB ?_ ?c2 ?c3 ?c4 ?c5; (case kA => exact rfl); (case kF => exact rfl); (case kK => exact rfl); (case k1 => exact B5); (case k2 => exact F7); (case k3 => exact X5); (case k4 => exact N7); (case k5 => exact T5); (case XB => exact BF.X); (case TB => exact BF.T); (case D => exact D5); (case T0 => exact KtsTurn.refl); (case k6 => k_mem); (case k7 => exact codeRec_news N7 (by k_mem) (by assumption) (by assumption)); (case k8 => ktr_room); (case k9 => exact rfl); (case kB => exact locs rfl); (case c2 => exact rfl); (case c3 => exact rfl); (case c4 => exact rfl); (case c5 => decide); k_whole; intro gl Ll hl FGl Fl Nl Bl Xl Tl Dl; (try dsimp only); (try k_lift Bl); (try k_fold))
    repeat' (first | (k_unfold; (try dsimp only)) | (k_end; kc_close) | (k_here; (with_reducible show wpAny _ _ (call (Value.ref 77) _) _ _ _); refine WStop.out ?_) | ((with_reducible show wpAny _ _ (call (Value.builtin "iter") _) _ _ _); (k_here; k_dflt (refine iter_rng (by k_asm) (by k_asm) (by k_mem) (by lia) ?_; k_whole); intro _ _ _ _ l1ww; (try k_lt l1ww)); (revert l1ww; intro _)) | ((with_reducible show wpAny _ _ (call (Value.type "range") _) _ _ _); (k_here; k_dflt (refine rng_new (by k_asm) (by k_asm) ?_; k_whole); intro _ _ _ _ _ _ _ l1ww; (try k_lt l1ww)); (revert l1ww; intro _)) | (k_here; (with_reducible show wpAny _ _ (binaryOp _ (Value.ref _) (Value.ref _)) _ _ _); k_dflt (refine add_one (by k_asm) (by k_asm) (by k_mem) (by k_mem) (by assumption) ?_; k_whole); intro _ _ _ _ l1ww; (try k_lt l1ww); (revert l1ww; intro _)) | ((with_reducible show wpAny _ _ (binaryOp Operator.FloorDiv (Value.int _ _) (Value.int _ _)) _ _ _); (k_here; k_dflt (refine fd_any (by assumption) (by assumption) ?_; k_whole); intro _)) | ((with_reducible show wpAny _ _ (binaryOp Operator.Pow (Value.int _ _) (Value.int _ _)) _ _ _); (k_here; k_dflt (refine pow4_any (by lia) ?_; k_whole); intro _ _ _)) | (k_here; (with_reducible show wpAny _ _ (subscriptTail _ _ (Value.ref _) (Value.int (-1) _)) _ _ _); k_dflt (refine last_sub (by k_asm) (by k_mem) (by assumption) ?_; k_whole)) | (k_here; (with_reducible show wpAny _ _ (call (Value.ref _) [Value.ref _, Value.int _ _]) _ _ _); refine WStop.out ?_) | ((with_reducible show wpAny _ _ (pyIter (Value.ref _)) (fun it s₂ => codeAny _ _ _ _ _) _ _); refine WStop.out ?_) | walk1)
    unfold WStop
    (rename News _ _ _ _ => N8)
    (rename Fr _ _ _ _ => F8)
    rw [hcm] at hrv hG
    have hc10 : c ≤ 10 := by have := hG.sum; rw [List.sum_cons] at this; lia
    have hm10 : ∀ x ∈ ms, x ≤ 10 := fun x hx => by have := hG.sum; have h2 := le_sum (r := c :: ms) (.tail _ hx); lia
    have hm1 : ∀ x ∈ ms, 1 ≤ x := fun x hx => hG.pos x (.tail _ hx)
    have hlen : (c :: ms).length ≤ 11 := by have := hG.sum; have h2 := len_sum hG.pos; lia
    have N9 := news_up N8 (p := (D2, PySem.W.listOf rv.toArray ep2)) (by k_mem)
    k_dflt (refine' turn_spec (c := c) (ms := ms) (vs := rv) (ep := ep2) ?jB ?jF ?jX ?jT ?jK ?jN hrv hc10 hm10 hm1 hlen ?jBF ?jD ?ju ?_; (case jN => exact N9); (case jF => exact F8); (case jB => exact Bl); (case jX => exact Xl); (case jT => exact Tl); (case jBF => assumption); (case jD => exact Dl); (case jK => exact rfl); (case ju => ktr_units))
    intro gt T8 D8 vs8 ht tkt hv8 KT8 F10 N10 lt8 B10 X10 T10 K10
    clear N8 N9
    repeat' (first | (k_unfold; (try dsimp only)) | (k_end; kc_close) | (k_here; (with_reducible show wpAny _ _ (call (Value.ref 77) _) _ _ _); refine WStop.out ?_) | ((with_reducible show wpAny _ _ (call (Value.builtin "iter") _) _ _ _); (k_here; k_dflt (refine iter_rng (by k_asm) (by k_asm) (by k_mem) (by lia) ?_; k_whole); intro _ _ _ _ l1ww; (try k_lt l1ww)); (revert l1ww; intro _)) | ((with_reducible show wpAny _ _ (call (Value.type "range") _) _ _ _); (k_here; k_dflt (refine rng_new (by k_asm) (by k_asm) ?_; k_whole); intro _ _ _ _ _ _ _ l1ww; (try k_lt l1ww)); (revert l1ww; intro _)) | (k_here; (with_reducible show wpAny _ _ (binaryOp _ (Value.ref _) (Value.ref _)) _ _ _); k_dflt (refine add_one (by k_asm) (by k_asm) (by k_mem) (by k_mem) (by assumption) ?_; k_whole); intro _ _ _ _ l1ww; (try k_lt l1ww); (revert l1ww; intro _)) | ((with_reducible show wpAny _ _ (binaryOp Operator.FloorDiv (Value.int _ _) (Value.int _ _)) _ _ _); (k_here; k_dflt (refine fd_any (by assumption) (by assumption) ?_; k_whole); intro _)) | ((with_reducible show wpAny _ _ (binaryOp Operator.Pow (Value.int _ _) (Value.int _ _)) _ _ _); (k_here; k_dflt (refine pow4_any (by lia) ?_; k_whole); intro _ _ _)) | (k_here; (with_reducible show wpAny _ _ (subscriptTail _ _ (Value.ref _) (Value.int (-1) _)) _ _ _); k_dflt (refine last_sub (by k_asm) (by k_mem) (by assumption) ?_; k_whole)) | (k_here; (with_reducible show wpAny _ _ (call (Value.ref _) [Value.ref _, Value.int _ _]) _ _ _); refine WStop.out ?_) | ((with_reducible show wpAny _ _ (pyIter (Value.ref _)) (fun it s₂ => codeAny _ _ _ _ _) _ _); refine WStop.out ?_) | walk1)
    (rename News _ _ _ _ => NE)
    (rename Fr _ Lr _ _ => FE)
    (rename KtsTurn _ g _ => kT)
    (rename Below _ _ _ _ => kB)
    (rename KtsDicts _ _ => kD)
    (rename Top _ _ _ _ _ _ => kP)
    (rename Frag.In _ _ => kX)
    (rename (_ < _ ∧ _ < _ ∧ _ < _ ∧ _ < _ ∧ _ < _ ∧ _ < _ ∧ _ < _ ∧ _ < _ ∧ _ < _ ∧ _ < _ ∧ _ < _ ∧ AllLt _ tl) => lD)
    refine ⟨_, _, _, _, (_, PySem.W.listOf (us ++ [Value.ref T2] ++ [Value.ref T8]).toArray 0) :: (f1, _) :: (c1, oc1) :: (L' + 1, o1) :: (T8, tupO D8) :: (D8, PySem.W.listOf vs8.toArray 0) :: tl, rfl, fr_cast FE mRD_step, ?nn, ?off, _, _, 0, _, some _, rfl, rfl, ?told, ?sub, (hPFi _).mpr ⟨kt5.trans kT, kB, kX, kP, kD⟩⟩
    case nn =>
      refine news_sub NE (fun q hq => ?_)
      (revert q; (repeat (refine all_cons ?_ ?_; (· repeat (first | (with_reducible exact List.mem_cons_self) | (with_reducible exact List.Mem.head _) | apply List.Mem.tail)))); intro q hq)
      (repeat (first | exact hq | exact absurd hq List.not_mem_nil | apply List.Mem.tail))
    case off =>
      intro q hq
      (revert q; refine all_cons (Nat.ne_of_gt lD.2.2.2.2.2.2.1) ?_; intro q hq)
      (revert q; refine all_cons (hoff _ (.tail _ (.head _))) ?_; intro q hq)
      (revert q; refine all_cons (hoff _ (.tail _ (.tail _ (.head _)))) ?_; intro q hq)
      (revert q; refine all_cons (hoff _ (.tail _ (.tail _ (.tail _ (.head _))))) ?_; intro q hq)
      (revert q; refine all_cons (Nat.ne_of_gt (lt8.2.2.2.2 (I1, itR (0 + ((j + 1 : Nat) : Int)) ((n : Int) - ((j + 1 : Nat) : Int))) (by k_mem))) ?_; intro q hq)
      (revert q; refine all_cons (Nat.ne_of_gt (lt8.2.2.2.1 (I1, itR (0 + ((j + 1 : Nat) : Int)) ((n : Int) - ((j + 1 : Nat) : Int))) (by k_mem))) ?_; intro q hq)
      exact hoff _ (.tail _ (.tail _ (.tail _ (.tail _ hq))))
    case told =>
      rw [List.range_succ, List.map_append]
      refine ToldV.snoc (hTo.mono fun q hq => .tail _ (.tail _ hq)) ⟨T8, D8, vs8, 0, rfl, .head _, .tail _ (.head _), ?_⟩
      show RowsV vs8 (nextR (iterR rows j))
      rw [hcm]
      exact hv8
    case sub =>
      exact fun q hq => .tail _ (.tail _ (hsub q hq))
  case jdone =>
    intro g mp nw hE tkE hI0
    refine goal_abs fun GP hGP => ?_
    obtain ⟨TE, tvs, ep', tl, ev, rfl, rfl, hT, hsub, hPF⟩ := hI0
    refine hGP ?_
    clear hGP
    intro F5 N5
    refine goal_abs fun GP hGP => ?_
    obtain ⟨kt5, B5, X5, T5, D5⟩ := (hPFi g).mp hPF
    refine hGP ?_
    clear hGP
    clear N4 nI
    dsimp only
    repeat' (first | (k_unfold; (try dsimp only)) | (k_end; kc_close) | (k_here; (with_reducible show wpAny _ _ (call (Value.ref 77) _) _ _ _); refine WStop.out ?_) | ((with_reducible show wpAny _ _ (call (Value.builtin "iter") _) _ _ _); (k_here; k_dflt (refine iter_rng (by k_asm) (by k_asm) (by k_mem) (by lia) ?_; k_whole); intro _ _ _ _ l1ww; (try k_lt l1ww)); (revert l1ww; intro _)) | ((with_reducible show wpAny _ _ (call (Value.type "range") _) _ _ _); (k_here; k_dflt (refine rng_new (by k_asm) (by k_asm) ?_; k_whole); intro _ _ _ _ _ _ _ l1ww; (try k_lt l1ww)); (revert l1ww; intro _)) | (k_here; (with_reducible show wpAny _ _ (binaryOp _ (Value.ref _) (Value.ref _)) _ _ _); k_dflt (refine add_one (by k_asm) (by k_asm) (by k_mem) (by k_mem) (by assumption) ?_; k_whole); intro _ _ _ _ l1ww; (try k_lt l1ww); (revert l1ww; intro _)) | ((with_reducible show wpAny _ _ (binaryOp Operator.FloorDiv (Value.int _ _) (Value.int _ _)) _ _ _); (k_here; k_dflt (refine fd_any (by assumption) (by assumption) ?_; k_whole); intro _)) | ((with_reducible show wpAny _ _ (binaryOp Operator.Pow (Value.int _ _) (Value.int _ _)) _ _ _); (k_here; k_dflt (refine pow4_any (by lia) ?_; k_whole); intro _ _ _)) | (k_here; (with_reducible show wpAny _ _ (subscriptTail _ _ (Value.ref _) (Value.int (-1) _)) _ _ _); k_dflt (refine last_sub (by k_asm) (by k_mem) (by assumption) ?_; k_whole)) | (k_here; (with_reducible show wpAny _ _ (call (Value.ref _) [Value.ref _, Value.int _ _]) _ _ _); refine WStop.out ?_) | ((with_reducible show wpAny _ _ (pyIter (Value.ref _)) (fun it s₂ => codeAny _ _ _ _ _) _ _); refine WStop.out ?_) | walk1)
    (rename News _ _ _ _ => NE)
    (rename Fr _ L _ _ => FE)
    (rename KtsTurn _ h₀ _ => kT)
    (rename Below _ _ _ _ => kB)
    (rename KtsDicts _ _ => kD)
    (rename Top _ _ _ _ _ _ => kP)
    (rename Frag.In _ _ => kX)
    exact ret _ TE tvs ep' _ _ _ (hT.mono fun q hq => .tail _ (.tail _ (.tail _ hq))) kT FE NE (fun q hq => .tail _ (.tail _ (.tail _ (hsub q (by rcases List.mem_cons.mp hq with rfl | hq; exact .head _; exact .tail _ (.tail _ hq)))))) ⟨tbv, .tail _ (.tail _ (.tail _ (hsub _ (.tail _ (.head _)))))⟩ kB kX kP kD
end Mine
end
end
section
open PySem
set_option Elab.async false
set_option maxRecDepth 1000000
set_option maxHeartbeats 0
namespace Mine
theorem ten : ∀ {d : Nat}, d < 10 → d = 0 ∨ d = 1 ∨ d = 2 ∨ d = 3 ∨ d = 4 ∨ d = 5 ∨ d = 6 ∨ d = 7 ∨ d = 8 ∨ d = 9
  | 0, _ => .inl rfl
  | 1, _ => .inr (.inl rfl)
  | 2, _ => .inr (.inr (.inl rfl))
  | 3, _ => .inr (.inr (.inr (.inl rfl)))
  | 4, _ => .inr (.inr (.inr (.inr (.inl rfl))))
  | 5, _ => .inr (.inr (.inr (.inr (.inr (.inl rfl)))))
  | 6, _ => .inr (.inr (.inr (.inr (.inr (.inr (.inl rfl))))))
  | 7, _ => .inr (.inr (.inr (.inr (.inr (.inr (.inr (.inl rfl)))))))
  | 8, _ => .inr (.inr (.inr (.inr (.inr (.inr (.inr (.inr (.inl rfl))))))))
  | 9, _ => .inr (.inr (.inr (.inr (.inr (.inr (.inr (.inr (.inr rfl))))))))
  | n + 10, h => absurd h (Nat.not_lt_of_le (Nat.le_add_left 10 n))
noncomputable def incLast : List Nat → List Nat
  | [] => []
  | [a] => [a + 1]
  | a :: r => a :: incLast r
noncomputable def comps : Nat → List (List Nat)
  | 0 => [[1]]
  | n + 1 => (comps n).flatMap fun h => [h ++ [1], incLast h]
noncomputable def insD (x : Nat) : List Nat → List Nat
  | [] => [x]
  | y :: r => if Nat.ble x y then y :: insD x r else x :: y :: r
noncomputable def sortD : List Nat → List Nat
  | [] => []
  | x :: r => insD x (sortD r)
noncomputable def maxL : List Nat → Nat
  | [] => 0
  | x :: r => Nat.max x (maxL r)
noncomputable def reachedL (l : List Nat) : List Nat := (List.range (maxL l)).map fun k => (l.filter fun x => Nat.blt k x).length
noncomputable def nextCol (l : List Nat) : List Nat := (l.filter fun x => Nat.blt 1 x).map (· - 1) ++ [l.length]
noncomputable def toldL (cols : List Nat) : Nat → List (List Nat)
  | 0 => []
  | n + 1 => reachedL cols :: toldL (nextCol cols) n
noncomputable def sizeL (dots : Nat) : Nat := if Nat.ble (2 * dots) 2 then 1 else if Nat.ble (2 * dots) 6 then 2 else if Nat.ble (2 * dots) 12 then 3 else 4
noncomputable def moreL (rows : List Nat) (size : Nat) : List Int := (rows ++ List.replicate (size - rows.length) 0).zipIdx.map fun (p : Nat × Nat) => (p.1 : Int) - ((size : Int) - 1 - (p.2 : Int))
noncomputable def iters (r : List Nat) : Nat → List (List Nat)
  | 0 => []
  | n + 1 => r :: iters (nextR r) n
noncomputable def insI (x : Int) : List Int → List Int
  | [] => [x]
  | y :: r => if x ≤ y then x :: y :: r else y :: insI x r
noncomputable def sortI : List Int → List Int
  | [] => []
  | x :: r => insI x (sortI r)
noncomputable def lawOk (dots : Nat) (h : List Nat) : Bool :=
  let size := sizeL dots
  let turns := size * (size - 1)
  let it := iters (sortD h) (turns + 2)
  let ahead := moreL (it.getD turns []) size
  let behind := moreL (it.getD (turns + 1) []) size
  let ones := dots - turns / 2
  (it.take turns == toldL (reachedL h) turns) && (sortI ahead == List.replicate (size - ones) 0 ++ List.replicate ones 1) && (behind == ahead.drop 1 ++ ahead.take 1)
end Mine
end
section
open PySem PySem.W PyProof.Rows
set_option Elab.async false
set_option maxRecDepth 100000
set_option maxHeartbeats 8000000
namespace Mine
theorem range_up0 {n : Nat} (h : n < 1000) : Builtin.Range.rangeSize 0 (n : Int) 1 = n ∧ Builtin.Range.small 0 (n : Int) 1 = true := by
  constructor
  · unfold Builtin.Range.rangeSize
    rw [if_pos (by decide), Int.ediv_one]
    split <;> lia
  · exact small_one (by decide) (by decide) (by lia) (by lia)
theorem incLast_snoc (a : Nat) : ∀ r : List Nat, incLast (r ++ [a]) = r ++ [a + 1]
  | [] => rfl
  | [_] => rfl
  | x :: y :: r => by
    have ih := incLast_snoc a (y :: r)
    show x :: incLast (y :: (r ++ [a])) = _
    rw [show y :: (r ++ [a]) = (y :: r) ++ [a] from rfl, ih]
    rfl
theorem comps_step {n : Nat} {r : List Nat} (h : r ∈ comps n) : r ++ [1] ∈ comps (n + 1) ∧ incLast r ∈ comps (n + 1) := by
  simp only [comps, List.mem_flatMap]
  exact ⟨⟨r, h, by simp⟩, ⟨r, h, by simp⟩⟩
theorem comps_bd : ∀ {n : Nat} {r : List Nat}, r ∈ comps n → (∃ r0 a, r = r0 ++ [a] ∧ a ≤ n + 1) ∧ r.length ≤ n + 1
  | 0, r, h => by
    simp only [comps, List.mem_singleton] at h
    subst h
    exact ⟨⟨[], 1, rfl, Nat.le_refl _⟩, Nat.le_refl _⟩
  | n + 1, r, h => by
    simp only [comps, List.mem_flatMap, List.mem_cons, List.not_mem_nil, or_false] at h
    obtain ⟨x, hx, h⟩ := h
    obtain ⟨⟨r0, a, e, ha⟩, hl⟩ := comps_bd hx
    rcases h with h | h
    · subst h
      exact ⟨⟨x, 1, rfl, by lia⟩, by simp; lia⟩
    · rw [e, incLast_snoc] at h
      subst h e
      refine ⟨⟨r0, a + 1, rfl, by lia⟩, ?_⟩
      simp at hl ⊢
      lia
theorem RowsV.snoc {vs : List Value} {ms : List Nat} {a : Nat} (h : RowsV vs (ms ++ [a])) : ∃ us t, vs = us ++ [.str (dotsS a) t] ∧ RowsV us ms := by
  induction ms generalizing vs with
  | nil =>
    cases h with
    | cons r => cases r; exact ⟨[], _, rfl, .nil⟩
  | cons x ms ih =>
    cases h with
    | cons r =>
      obtain ⟨us, t, rfl, q⟩ := ih r
      exact ⟨_ :: us, t, rfl, .cons q⟩
noncomputable abbrev mHP (k : Int) (tk : Tok) (D : Addr) (kv : Option Value) : Str → Option Value := fun y =>
  if y = S "k" then kv else if y = S "heaps" then some (.ref D) else if y = S "number" then some (.int k tk) else none
theorem mHP_init {D : Addr} {k : Int} {tk : Tok} : (fun y => if y = S "heaps" then some (.ref D) else List.lookup y [(S "number", .int k tk)]) = mHP k tk D none := by
  funext y
  by_cases h1 : y = S "k"
  · subst h1; rfl
  by_cases h2 : y = S "heaps"
  · subst h2; rfl
  by_cases h3 : y = S "number"
  · subst h3; rfl
  simp only [mHP, if_neg h1, if_neg h2, if_neg h3, List.lookup, beq_eq_false_iff_ne.mpr h3]
theorem mHP_step {D : Addr} {k : Int} {tk : Tok} {kv : Option Value} {v : Value} : (fun y => if y = S "k" then some v else mHP k tk D kv y) = mHP k tk D (some v) := by
  funext y
  by_cases h1 : y = S "k"
  · subst h1; rfl
  simp only [mHP, if_neg h1]
section
variable {prog : Program} {w : World} {A : Around} {E : Value → Shared → Prop} {s : Shared} {h₀ : Heap} {L D : Addr} {m : Str → Option Value} {news news' : List (Addr × Obj)} {us : List Value} {v : Value} {n : Nat} {Q : Value → Shared → Prop}
theorem pow2_any {t u : Tok} {j : Nat} {Q : Value → Shared → Prop} (hj : j < 14) (h : ∀ q : Int, 0 < q → q < 1073741824 → Q (.int q s.toks) { s with toks := s.toks + 1 }) :
    wpAny (model prog w) A (binaryOp .Pow (.int 2 t) (.int (0 + (j : Int)) u)) Q E s := by
  have e : (0 + (j : Int)).toNat = j := by lia
  refine pow_int_small (by lia) (by lia) (by decide) ?_
  rw [e]
  have h1 : (2 : Nat) ^ j ≤ 2 ^ 13 := Nat.pow_le_pow_right (by decide) (by lia)
  have h2 : (2 : Nat) ^ 13 = 8192 := by decide
  have h3 : 0 < (2 : Nat) ^ j := Nat.pow_pos (by decide)
  have e2 : (2 : Int) ^ j = ((2 ^ j : Nat) : Int) := by push_cast; rfl
  refine h _ ?_ ?_ <;> (rw [e2]; lia)
theorem pop_snoc (F : Fr h₀ L s.heap m) (N : News h₀ L s.heap news) (U : Upd D (listOf (us ++ [v]).toArray n) (listOf us.toArray (n + 1)) news news') (hz : us.length < 1000)
    (h : ∀ h', Fr h₀ L h' m → News h₀ L h' news' → Q v { s with heap := h' }) : wpAny (model prog w) A (call (.builtin "list.pop") [.ref D]) Q E s := by
  refine kl_pop F N (p := us) (y := v) (by simpa using kpa_last v us) U ?_ h
  rw [sizeLine_eq]
  simp
  lia
theorem app_snoc (F : Fr h₀ L s.heap m) (N : News h₀ L s.heap news) (hz : us.length < 1000) (U : Upd D (listOf us.toArray n) (listOf (us ++ [v]).toArray (n + 1)) news news')
    (h : ∀ h', Fr h₀ L h' m → News h₀ L h' news' → Q .none { s with heap := h' }) : wpAny (model prog w) A (call (.builtin "list.append") [.ref D, v]) Q E s := by
  refine append_K F N (its := us.toArray) (n := n) (by simpa using U) h ?_
  rw [sizeLine_eq]
  simp
  lia
end
local macro_rules | `(tactic| walk_at "RangeRest") => `(tactic| refine WStop.out ?_)
theorem heaps_spec : ∀ {w : World} {dp un : Nat} {gd : Option (List Code)} {cn : Str} {cs : Scope} {a : Addr} {ccd : Value} {cl : List (Str × Addr)} {outer : List Env} {A₀ : Around} {base h₀ : Heap} {L : Addr} {m : Str → Option Value} {s : Shared} {Q E : Value → Shared → Prop} {p : Program} {loose : List Str} {mean : ExcName → Option Value} {mg mb : Str → Option Value}
   (_B : Below A₀ base outer h₀) (_F : Fr h₀ L s.heap m) (_X : (fragK.heap_1 w.params).In h₀) (_T : Top p loose mean mg mb h₀) (_hk : cs.kind = .function)
   {k : Int} {tki : Tok} {news : List (Addr × Obj)} (_N : News h₀ L s.heap news)
   (_hd : dp + 4 < recursionLimit) (_hu : un + 40 < cLine)
   (_ret : ∀ (D : Addr) (vs : List Value) (rows : List Nat) (ep : Nat) (h' : Heap) (tk' : Nat), RowsV vs rows → rows ∈ comps (k.fmod 10).toNat → Fr h₀ L h' m → News h₀ L h' ((D, PySem.W.listOf vs.toArray ep) :: news) → (∀ q ∈ news, @LT.lt Nat _ q.1 D) → Q (.ref D) { s with heap := h', toks := tk' }),
   wpAny (model PySem.Challenge.rw_kt0066_01.row.prog w) (ktrTop dp un gd cn cs L a ccd cl outer) (call (.ref 779) [.int k tki]) Q E s := by
  k_fill
  intro w dp un gd cn cs a ccd cl outer A₀ base h₀ L m s Q E p loose mean mg mb B F X T hk k tki news N hd hu ret
  refine wpAny_call ?_
  (refine' code_def ?k1 ?k2 ?k3 ?k4 ?k5 ?kA ?kF ?kK ?k6 ?k7 ?k8 ?k9 ?kB ?_ ?c2 ?c3 ?c4 ?c5; (case kA => exact rfl); (case kF => exact rfl); (case kK => assumption); (case k1 => k_asm); (case k2 => k_asm); (case k3 => k_asm); (case k4 => k_asm); (case k5 => k_asm); (case k6 => k_is); (case k7 => k_is); (case k8 => ktr_room); (case k9 => first | exact BindsTo.of_eq rfl | exact binds_K (by k_in) rfl (by k_is) rfl rfl rfl); (case c5 => decide); (case kB => exact locs rfl); (case c2 => exact rfl); (case c3 => exact rfl); (case c4 => exact rfl); k_whole; intro g' L' h' FG' F' N' B' X' T'; (try dsimp only); (try k_lift B'); (try k_fold))
  have hm1 := Int.fmod_nonneg_of_pos k (b := 10) (by decide)
  have hm2 := Int.fmod_lt_of_pos k (b := 10) (by decide)
  obtain ⟨n, hn⟩ : ∃ n : Nat, k.fmod 10 = (n : Int) := ⟨(k.fmod 10).toNat, by lia⟩
  have hn10 : n < 10 := by lia
  repeat' (first | (k_unfold; (try dsimp only)) | (k_end; wrow_close) | ((with_reducible show wpAny _ _ (call (Value.builtin "list.pop") _) _ _ _); (k_here; k_dflt ((fail_if_success (fail_if_success (refine' pop_snoc ?_ ?_ ?_ ?_ ?_))); refine pop_snoc (by k_asm) (by k_asm) (by k_upd) (by lia) ?_; k_whole); intro _ _ Nww; (try dsimp only [List.nil_append, List.cons_append] at Nww)); (revert Nww; intro _)) | ((with_reducible show wpAny _ _ (binaryOp Operator.FloorDiv (Value.int _ _) (Value.int _ _)) _ _ _); (k_here; k_dflt ((fail_if_success (fail_if_success (refine' fd_any ?_ ?_ ?_))); refine fd_any (by first | assumption | decide) (by first | assumption | decide) ?_; k_whole); intro _)) | ((with_reducible show wpAny _ _ (binaryOp Operator.Pow (Value.int _ _) (Value.int _ _)) _ _ _); (k_here; k_dflt ((fail_if_success (fail_if_success (refine' pow2_any ?_ ?_))); refine pow2_any (by lia) ?_; k_whole); intro _ _ _)) | ((with_reducible show wpAny _ _ (pyIter (Value.ref _)) (fun it s₂ => LoopAtV _ _ _ _ _ _ _ _ _ it s₂) _ _); (rename Fr _ _ _ _ => lFww); (rename News _ _ _ _ => lNww); (with_unfolding_all refine iter_rangeUnr (by rfl) (by assumption) (by rw [(by assumption : Int.fmod _ 10 = _)]; exact (range_up0 (by lia)).2) (by rw [(by assumption : Int.fmod _ 10 = _)]; exact (range_up0 (by lia)).1) lFww lNww ?_); clear lFww lNww; intro _ _) | ((with_reducible show wpAny _ _ (call (Value.builtin "list.append") _) _ _ _); (k_here; k_dflt ((fail_if_success (fail_if_success (refine' app_snoc ?_ ?_ ?_ ?_ ?_))); refine app_snoc (by k_asm) (by k_asm) ?_ (by k_upd) ?_; (· lia); k_whole); intro _ _ Nww; (try dsimp only [List.nil_append, List.cons_append] at Nww)); (revert Nww; intro _)) | walk1)
  unfold WStop
  (rename (∀ p : Addr × Obj, p ∈ news → p.1 < _) => lAl)
  rename_i l' z0 z1 z2 z3 z4 z5 z6 z7 z8 z9 z10 I1 lI
  refine rr_ind (fun j mp nw => ∃ (vs : List Value) (rows : List Nat) (ep : Nat) (kv : Option Value), mp = mHP k tki l' kv ∧ nw = (l', PySem.W.listOf vs.toArray ep) :: news ∧ RowsV vs rows ∧ rows ∈ comps j) ?jz ?js _ 0 _ _ (Nat.add_zero _) ?ji
  case ji =>
    exact ⟨_, [1], 0, none, mHP_init, rfl, .cons (mm := 1) .nil, by decide⟩
  case js =>
    rintro j mp nw hjn ⟨vs, rows, ep, kv, rfl, rfl, hv, hc⟩ t h9 tk9 F9 N9
    obtain ⟨⟨r0, a0, rfl, ha⟩, hl⟩ := comps_bd hc
    obtain ⟨us, t0, rfl, hv0⟩ := hv.snoc
    have hul : us.length < 1000 := by rw [hv0.length]; simp at hl; lia
    have hul2 : (us ++ [Value.str (dotsS a0) t0]).length < 1000 := by rw [List.length_append, hv0.length]; simp at hl ⊢; lia
    have nI : @Ne Nat I1 l' := Nat.ne_of_gt (lI _ (.head _))
    have hnl : ∀ p ∈ news, p.1 ≠ l' := fun p hp => Nat.ne_of_lt (lAl p hp)
    have hI : ∀ p ∈ news, @LT.lt Nat _ p.1 I1 := fun p hp => lI _ (.tail _ hp)
    have hI2 : @LT.lt Nat _ l' I1 := lI _ (.head _)
    clear lI z2 z3
    have hda : (dotsS a0).length ≤ 20 := by rw [dotsS_len]; lia
    repeat' (first | (k_unfold; (try dsimp only)) | (k_end; wrow_close) | ((with_reducible show wpAny _ _ (call (Value.builtin "list.pop") _) _ _ _); (k_here; k_dflt ((fail_if_success (fail_if_success (refine' pop_snoc ?_ ?_ ?_ ?_ ?_))); refine pop_snoc (by k_asm) (by k_asm) (by k_upd) (by lia) ?_; k_whole); intro _ _ Nww; (try dsimp only [List.nil_append, List.cons_append] at Nww)); (revert Nww; intro _)) | ((with_reducible show wpAny _ _ (binaryOp Operator.FloorDiv (Value.int _ _) (Value.int _ _)) _ _ _); (k_here; k_dflt ((fail_if_success (fail_if_success (refine' fd_any ?_ ?_ ?_))); refine fd_any (by first | assumption | decide) (by first | assumption | decide) ?_; k_whole); intro _)) | ((with_reducible show wpAny _ _ (binaryOp Operator.Pow (Value.int _ _) (Value.int _ _)) _ _ _); (k_here; k_dflt ((fail_if_success (fail_if_success (refine' pow2_any ?_ ?_))); refine pow2_any (by lia) ?_; k_whole); intro _ _ _)) | ((with_reducible show wpAny _ _ (pyIter (Value.ref _)) (fun it s₂ => LoopAtV _ _ _ _ _ _ _ _ _ it s₂) _ _); (rename Fr _ _ _ _ => lFww); (rename News _ _ _ _ => lNww); (with_unfolding_all refine iter_rangeUnr (by rfl) (by assumption) (by rw [(by assumption : Int.fmod _ 10 = _)]; exact (range_up0 (by lia)).2) (by rw [(by assumption : Int.fmod _ 10 = _)]; exact (range_up0 (by lia)).1) lFww lNww ?_); clear lFww lNww; intro _ _) | ((with_reducible show wpAny _ _ (call (Value.builtin "list.append") _) _ _ _); (k_here; k_dflt ((fail_if_success (fail_if_success (refine' app_snoc ?_ ?_ ?_ ?_ ?_))); refine app_snoc (by k_asm) (by k_asm) ?_ (by k_upd) ?_; (· lia); k_whole); intro _ _ Nww; (try dsimp only [List.nil_append, List.cons_append] at Nww)); (revert Nww; intro _)) | walk1)
    all_goals (rename News _ _ _ _ => NE)
    all_goals (rename Fr _ _ _ _ => FE)
    · refine UnrEnd.intro FE NE _ (fun p hp => hp) ?o1 ⟨_, r0 ++ [a0] ++ [1], _, _, mHP_step, rfl, hv.append (.cons (mm := 1) .nil), (comps_step hc).1⟩
      case o1 =>
        intro p hp
        (revert p; refine all_cons (Nat.ne_of_lt hI2) ?_; intro p hp)
        · exact Nat.ne_of_lt (hI p hp)
    · rw [dots_succ] at NE
      refine UnrEnd.intro FE NE _ (fun p hp => hp) ?o2 ⟨_, r0 ++ [a0 + 1], _, _, mHP_step, rfl, hv0.append (.cons (mm := a0 + 1) .nil), ?c2⟩
      case o2 =>
        intro p hp
        (revert p; refine all_cons (Nat.ne_of_lt hI2) ?_; intro p hp)
        · exact Nat.ne_of_lt (hI p hp)
      case c2 =>
        have := (comps_step hc).2
        rwa [incLast_snoc] at this
  case jz =>
    rintro mp nw ⟨vs, rows, ep, kv, rfl, rfl, hv, hc⟩ h9 tk9 F9 N9
    clear lI z2 z3
    repeat' (first | (k_unfold; (try dsimp only)) | (k_end; wrow_close) | ((with_reducible show wpAny _ _ (call (Value.builtin "list.pop") _) _ _ _); (k_here; k_dflt ((fail_if_success (fail_if_success (refine' pop_snoc ?_ ?_ ?_ ?_ ?_))); refine pop_snoc (by k_asm) (by k_asm) (by k_upd) (by lia) ?_; k_whole); intro _ _ Nww; (try dsimp only [List.nil_append, List.cons_append] at Nww)); (revert Nww; intro _)) | ((with_reducible show wpAny _ _ (binaryOp Operator.FloorDiv (Value.int _ _) (Value.int _ _)) _ _ _); (k_here; k_dflt ((fail_if_success (fail_if_success (refine' fd_any ?_ ?_ ?_))); refine fd_any (by first | assumption | decide) (by first | assumption | decide) ?_; k_whole); intro _)) | ((with_reducible show wpAny _ _ (binaryOp Operator.Pow (Value.int _ _) (Value.int _ _)) _ _ _); (k_here; k_dflt ((fail_if_success (fail_if_success (refine' pow2_any ?_ ?_))); refine pow2_any (by lia) ?_; k_whole); intro _ _ _)) | ((with_reducible show wpAny _ _ (pyIter (Value.ref _)) (fun it s₂ => LoopAtV _ _ _ _ _ _ _ _ _ it s₂) _ _); (rename Fr _ _ _ _ => lFww); (rename News _ _ _ _ => lNww); (with_unfolding_all refine iter_rangeUnr (by rfl) (by assumption) (by rw [(by assumption : Int.fmod _ 10 = _)]; exact (range_up0 (by lia)).2) (by rw [(by assumption : Int.fmod _ 10 = _)]; exact (range_up0 (by lia)).1) lFww lNww ?_); clear lFww lNww; intro _ _) | ((with_reducible show wpAny _ _ (call (Value.builtin "list.append") _) _ _ _); (k_here; k_dflt ((fail_if_success (fail_if_success (refine' app_snoc ?_ ?_ ?_ ?_ ?_))); refine app_snoc (by k_asm) (by k_asm) ?_ (by k_upd) ?_; (· lia); k_whole); intro _ _ Nww; (try dsimp only [List.nil_append, List.cons_append] at Nww)); (revert Nww; intro _)) | walk1)
    (rename Fr h₀ _ _ _ => FE)
    (rename News h₀ _ _ _ => NE)
    refine ret _ _ _ _ _ _ hv ?_ FE NE lAl
    rw [hn]
    exact hc
end Mine
end
section
open PySem PySem.W PyProof.Rows
set_option Elab.async false
set_option maxRecDepth 100000
set_option maxHeartbeats 8000000
namespace Mine
section
variable {M : Model} {A : Around} {E : Value → Shared → Prop} {s : Shared}
/-- the frame of a comprehension with cells of its own -/
theorem nfe_around {scope : Scope} {globals : Addr} {closure : List (Str × Addr)} {qual : Str} {code : Value} {out : Env} {Q : Env → Shared → Prop}
    (hQ : Q (newEnv scope s.heap.objs.size globals (cellsFrom (s.heap.objs.size + 1) scope.names closure) qual none code (some out) builtinsNs)
      { s with heap := pushCells (s.heap.push { cls := .type "dict", data := .dict #[] }) scope.names }) :
    wpAny M A (newFunctionEnv scope globals closure [] qual none code (some out)) Q E s := by
  simp only [newFunctionEnv, Option.isSome_some, if_true]
  refine wpAny_bind (wpAny_alloc ?_)
  refine wpAny_bind (wpAny_layCells _ (fun name kind cells => by cases hkc : kind == NameKind.cell <;> simp [hkc]) _ _ _ _ ?_)
  rw [show ({ s with heap := s.heap.push { cls := .type "dict", data := .dict #[] } } : Shared).heap.objs.size = s.heap.objs.size + 1 from Heap.size_push ..]
  exact wpAny_bind (wpAny_pure (wpAny_pure hQ))
end
section
variable {prog : Program} {w : World} {A : Around} {E : Value → Shared → Prop} {s : Shared} {env : Env} {x : Str} {px pos : Pos} {elt iter : PySem.Expr} {scope : Scope} {cl : List (Str × Addr)} {Q : Value → Shared → Prop}
noncomputable abbrev cellN : Obj := { cls := .type "cell", data := .cell none }
noncomputable abbrev dictN : Obj := { cls := .type "dict", data := .dict #[] }
/-- a comprehension over a range whose target is a cell of its own -/
theorem comp_from {acc I L : Addr} {n : Nat} {g : Heap} {m : Str → Option Value} {news : List (Addr × Obj)} (P : Nat → List Value → Prop)
    (hcell : ∀ (c : Addr) (h : Heap), cellsFrom c scope.names cl = (x, c) :: cl ∧ pushCells h scope.names = h.push cellN)
    (hkind : (relabel scope env).kind = .function) (hx : ∀ cl C, (compEnvC scope cl C env).kindOf x = some .cell) (hh : A.handled = none)
    (F : Fr g L s.heap m) (N : News g L s.heap ((acc, PySem.W.listOf ([] : List Value).toArray 0) :: (I, itR 0 n) :: news)) (hn : n < 1000)
    (hai : acc ≠ I) (hoff : ∀ p ∈ news, p.1 ≠ acc ∧ p.1 ≠ I) (h0 : P 0 []) (hP : ∀ i us, P i us → us.length = i)
    (turn : ∀ i us ep C K ok t h tk E', i < n → P i us → ok.data = .cell (some (.int (i : Int) t)) → Fr g L h m →
      News g L h ((K, ok) :: (acc, PySem.W.listOf us.toArray ep) :: (I, itR ((i + 1 : Nat) : Int) ((n : Int) - ((i + 1 : Nat) : Int))) :: (C, dictN) :: news) →
      (∀ p ∈ (acc, PySem.W.listOf us.toArray ep) :: (I, itR ((i + 1 : Nat) : Int) ((n : Int) - ((i + 1 : Nat) : Int))) :: news, p.1 < C ∧ p.1 < K) → C < K →
      wpAny (model prog w) A (eval elt (compEnvC scope ((x, K) :: cl) C env)) (fun y s' => P (i + 1) (us ++ [y]) ∧ ∃ h' tk', s' = { s with heap := h', toks := tk' } ∧ Fr g L h' m ∧
        News g L h' ((K, ok) :: (acc, PySem.W.listOf us.toArray ep) :: (I, itR ((i + 1 : Nat) : Int) ((n : Int) - ((i + 1 : Nat) : Int))) :: (C, dictN) :: news)) E' { s with heap := h, toks := tk })
    (done : ∀ us ep h' tk', P n us → Fr g L h' m → News g L h' ((acc, PySem.W.listOf us.toArray ep) :: news) → Q (.ref acc) { s with heap := h', toks := tk' }) :
    wpAny (model prog w) A (newFunctionEnv scope env.globals cl [] env.qual none .none (some env)) (fun cenv s₄ =>
      codeAny (model prog w) A (.compStart (.ListComp elt [⟨.Name x px, iter, [], 0⟩] scope pos) 0 (.ref I) (.ref acc) { cenv with scope := relabel scope env }) (compPost (model prog w) A E none Q (.ref acc) cenv.locals) s₄) E s := by
  refine nfe_around ?_
  obtain ⟨e1, e2⟩ := hcell (s.heap.objs.size + 1) (s.heap.push dictN)
  rw [e1, e2]
  generalize hC : s.heap.objs.size = C
  have hCK : ∀ p ∈ ((acc, PySem.W.listOf ([] : List Value).toArray 0) :: (I, itR 0 n) :: news), p.1 < C := fun p hp => hC ▸ Heap.lt_size (N p hp).1
  have F1 := (F.push dictN).push cellN
  have N1 : News g L ((s.heap.push dictN).push cellN) ((C + 1, cellN) :: (C, dictN) :: (acc, PySem.W.listOf ([] : List Value).toArray 0) :: (I, itR 0 n) :: news) := by
    have a := News.push F N dictN rfl
    have b := News.push (F.push dictN) a cellN rfl
    rw [Heap.size_push, hC] at b
    exact b
  generalize (s.heap.push dictN).push cellN = H1 at F1 N1
  show codeAny _ _ (.compStart _ _ _ _ (compEnvC scope ((x, C + 1) :: cl) C env)) (compPost _ _ _ _ _ _ C) { s with heap := H1 }
  have W := Walks.range (prog := prog) (w := w) hh I 0 1 n
  have hI0 : IsRangeIter H1 I (0 + (0 : Nat) * 1) ((n : Int) - (0 : Nat)) 1 := by
    have : H1.get? I = some (itR (0 + ((0 : Nat) : Int) * 1) ((n : Int) - ((0 : Nat) : Int))) := by simpa using (N1 (I, itR 0 n) (by simp)).1
    exact this
  have loop : codeAny (model prog w) A (.compLoop (.ListComp elt [⟨.Name x px, iter, [], 0⟩] scope pos) 0 (.ref I) (.ref acc) (compEnvC scope ((x, C + 1) :: cl) C env)) (compPost (model prog w) A E none Q (.ref acc) C) { s with heap := H1 } := by
    refine codeAny_compLoop_list
      (fun k s' => ∃ (i : Nat) (us : List Value) (ep : Nat) (ok : Obj) (h' : Heap) (tk' : Nat), s' = { s with heap := h', toks := tk' } ∧ P i us ∧ i ≤ n ∧ k = n + 1 - i ∧ (∃ v, ok.data = .cell v) ∧ Fr g L h' m ∧
        News g L h' ((C + 1, ok) :: (acc, PySem.W.listOf us.toArray ep) :: (I, itR (i : Int) ((n : Int) - (i : Int))) :: (C, dictN) :: news)) ?_ (n + 1)
      ⟨0, [], 0, cellN, H1, s.toks, rfl, h0, Nat.zero_le _, rfl, ⟨none, rfl⟩, F1, ?_⟩
    case refine_2 =>
      intro p hp
      simp only [List.mem_cons] at hp
      refine N1 p ?_
      simp only [List.mem_cons]
      rcases hp with h | h | h | h | h
      · exact .inl h
      · exact .inr (.inr (.inl h))
      · refine .inr (.inr (.inr (.inl ?_)))
        simpa using h
      · exact .inr (.inl h)
      · exact .inr (.inr (.inr (.inr h)))
    rintro k s' ⟨i, us, ep, ok, h', tk', rfl, hPi, hi, rfl, ⟨cv, hcv⟩, F', N'⟩
    have nI := N' (I, itR (i : Int) ((n : Int) - (i : Int))) (by simp)
    have st : IsRangeIter h' I (0 + (i : Nat) * 1) ((n : Int) - (i : Nat)) 1 := by
      have : h'.get? I = some (itR (0 + ((i : Nat) : Int) * 1) ((n : Int) - ((i : Nat) : Int))) := by simpa using nI.1
      exact this
    have hIC : I < C := hCK (I, itR 0 n) (by simp)
    have hAC : acc < C := hCK (acc, PySem.W.listOf ([] : List Value).toArray 0) (by simp)
    have hNC : ∀ p ∈ news, p.1 < C := fun p hp => hCK p (by simp [hp])
    have hIC' : @LT.lt Nat _ I C := hIC
    have hAC' : @LT.lt Nat _ acc C := hAC
    have nK := N' (C + 1, ok) (by simp)
    have nC := N' (C, dictN) (by simp)
    have next : ∀ h₁ : Heap, (∀ b o, b ∉ [I] → h'.get? b = some o → h₁.get? b = some o) → Fr g L h₁ m ∧ News g L h₁ ((C + 1, ok) :: (acc, PySem.W.listOf us.toArray ep) :: (C, dictN) :: news) := fun h₁ hk₁ =>
      ⟨⟨F'.ns.at' fun o e => hk₁ _ o (fun q => nI.2.1 (List.mem_singleton.mp q).symm) e, fun b o e => hk₁ b o (fun q => by rw [List.mem_singleton.mp q, nI.2.2] at e; cases e) (F'.keep b o e), F'.above⟩,
        fun p hp => by
          have hne : p.1 ≠ I := by
            rcases mem3 hp with rfl | rfl | rfl | hp
            · show @Ne Nat (C + 1) I; lia
            · exact hai
            · show @Ne Nat C I; lia
            · exact (hoff p hp).2
          have hm : p ∈ (C + 1, ok) :: (acc, PySem.W.listOf us.toArray ep) :: (I, itR (i : Int) ((n : Int) - (i : Int))) :: (C, dictN) :: news := by
            simp only [List.mem_cons] at hp ⊢
            rcases hp with h | h | h | h
            · exact .inl h
            · exact .inr (.inl h)
            · exact .inr (.inr (.inr (.inl h)))
            · exact .inr (.inr (.inr (.inr h)))
          exact ⟨hk₁ _ _ (fun q => hne (List.mem_singleton.mp q)) (N' p hm).1, (N' p hm).2⟩⟩
    by_cases hlt : i < n
    · refine W.item i _ _ _ hlt st fun v h₁ tk₁ hPv hst₁ hk₁ => ?_
      obtain ⟨t, rfl⟩ := hPv
      obtain ⟨F₁, N₁⟩ := next h₁ hk₁
      have g1 : h₁.get? I = some (itR (((i + 1 : Nat) : Int)) ((n : Int) - ((i + 1 : Nat) : Int))) := by
        have q : h₁.get? I = some (itR (0 + ((i + 1 : Nat) : Int) * 1) ((n : Int) - ((i + 1 : Nat) : Int))) := hst₁
        simpa using q
      have lk : ((x, C + 1) :: cl).lookup x = some (C + 1) := by simp [List.lookup]
      refine wpAny_assign_Name (wpAny_storeName_cell (v₀ := cv) hkind (hx _ _) lk ⟨ok, (N₁ (C + 1, ok) (by simp)).1, hcv⟩ fun h₂ hc₂ hs₂ => ?_)
      obtain ⟨ok2, hg2, hd2⟩ := hc₂
      rw [show (0 + (i : Int) * 1) = (i : Int) by lia] at hd2
      have F₂ := F₁.change hs₂ nK.2.1 nK.2.2
      have N₂ : News g L h₂ ((C + 1, ok2) :: (acc, PySem.W.listOf us.toArray ep) :: (I, itR ((i + 1 : Nat) : Int) ((n : Int) - ((i + 1 : Nat) : Int))) :: (C, dictN) :: news) := by
        intro p hp
        rcases mem4 hp with rfl | rfl | rfl | rfl | hp
        · exact ⟨hg2, nK.2⟩
        · exact ⟨hs₂.extBut _ _ (by show @Ne Nat acc (C + 1); lia) (N₁ (acc, PySem.W.listOf us.toArray ep) (by simp)).1, (N₁ (acc, PySem.W.listOf us.toArray ep) (by simp)).2⟩
        · exact ⟨hs₂.extBut _ _ (by show @Ne Nat I (C + 1); lia) g1, nI.2⟩
        · exact ⟨hs₂.extBut _ _ (by show @Ne Nat C (C + 1); lia) (N₁ (C, dictN) (by simp)).1, nC.2⟩
        · have hlt2 : @LT.lt Nat _ p.1 C := hNC p hp
          exact ⟨hs₂.extBut _ _ (by show @Ne Nat p.1 (C + 1); lia) (N₁ p (by simp [hp])).1, (N₁ p (by simp [hp])).2⟩
      refine wpAny_mono (turn i us ep C (C + 1) ok2 t h₂ _ _ hlt hPi hd2 F₂ N₂ ?_ (Nat.lt_succ_self C)) (fun y s₃ h₃ => ?_) fun _ _ e => e
      · intro p hp
        rcases mem2 hp with rfl | rfl | hp
        · exact ⟨hAC, Nat.lt_succ_of_lt hAC⟩
        · exact ⟨hIC, Nat.lt_succ_of_lt hIC⟩
        · exact ⟨hNC p hp, Nat.lt_succ_of_lt (hNC p hp)⟩
      obtain ⟨hP3, h3, tk3, rfl, F3, N3⟩ := h₃
      have U : Upd acc (PySem.W.listOf us.toArray ep) (PySem.W.listOf (us.toArray.push y) (ep + 1)) ((C + 1, ok2) :: (acc, PySem.W.listOf us.toArray ep) :: (I, itR ((i + 1 : Nat) : Int) ((n : Int) - ((i + 1 : Nat) : Int))) :: (C, dictN) :: news)
          ((C + 1, ok2) :: (acc, PySem.W.listOf (us.toArray.push y) (ep + 1)) :: (I, itR ((i + 1 : Nat) : Int) ((n : Int) - ((i + 1 : Nat) : Int))) :: (C, dictN) :: news) := by
        refine Upd.tail (by show @Ne Nat (C + 1) acc; lia) (Upd.head ?_)
        intro p hp
        rcases mem2 hp with rfl | rfl | hp
        · exact fun e => hai e.symm
        · show @Ne Nat C acc; lia
        · exact (hoff p hp).1
      refine append_K (s := { s with heap := h3, toks := tk3 }) F3 N3 U (fun h4 F4 N4 => ?_) ?_
      · refine ⟨n + 1 - (i + 1), by lia, i + 1, us ++ [y], ep + 1, ok2, h4, tk3, rfl, hP3, hlt, rfl, ⟨_, hd2⟩, F4, ?_⟩
        rw [List.push_toArray] at N4
        exact N4
      · have := hP i us hPi
        rw [sizeLine_eq]
        simp
        lia
    · have hin : i = n := by lia
      subst hin
      refine W.done _ _ _ st fun h₁ tk₁ hk₁ => ?_
      obtain ⟨F₁, N₁⟩ := next h₁ hk₁
      refine ⟨fun _ => none, ⟨dictN, #[], _, (N₁ (C, dictN) (by simp)).1, rfl, (by intro e he; simp at he), fun _ => rfl⟩, fun h'' hs'' => ?_⟩
      refine done us ep h'' tk₁ hPi (F₁.change hs'' nC.2.1 nC.2.2) ?_
      intro p hp
      have hne : p.1 ≠ C := by
        rcases mem1 hp with rfl | hp
        · show @Ne Nat acc C; lia
        · have hlt2 : @LT.lt Nat _ p.1 C := hNC p hp
          show @Ne Nat p.1 C; lia
      have hm : p ∈ (C + 1, ok) :: (acc, PySem.W.listOf us.toArray ep) :: (C, dictN) :: news := by
        simp only [List.mem_cons] at hp ⊢
        rcases hp with h | h
        · exact .inr (.inl h)
        · exact .inr (.inr (.inr h))
      exact ⟨hs''.extBut _ _ hne (N₁ p hm).1, (N₁ p hm).2⟩
  exact codeAny_compStart_list loop (W.self 0 _ _ _ hI0 loop)
end
end Mine
end
section
open PySem PySem.W PyProof.Rows
set_option Elab.async false
set_option maxRecDepth 100000
set_option maxHeartbeats 8000000
namespace Mine
theorem maxL_le : ∀ {l : List Nat} {x : Nat}, x ∈ l → x ≤ maxL l
  | y :: r, x, h => by
    show x ≤ max y (maxL r)
    rcases List.mem_cons.mp h with rfl | h
    · exact Nat.le_max_left _ _
    · exact Nat.le_trans (maxL_le h) (Nat.le_max_right _ _)
theorem maxL_mem : ∀ {l : List Nat}, l ≠ [] → maxL l ∈ l
  | [], h => absurd rfl h
  | [y], _ => by simp [maxL]
  | y :: z :: r, _ => by
    have ih := maxL_mem (l := z :: r) (by simp)
    show max y (maxL (z :: r)) ∈ _
    rcases Nat.le_total y (maxL (z :: r)) with h | h
    · rw [Nat.max_eq_right h]; exact .tail _ ih
    · rw [Nat.max_eq_left h]; exact .head _
section
variable {prog : Program} {w : World} {A : Around} {E : Value → Shared → Prop} {s : Shared} {h₀ : Heap} {L D : Addr} {m : Str → Option Value} {news : List (Addr × Obj)} {vs : List Value} {cols : List Nat} {ep : Nat} {Q : Value → Shared → Prop}
theorem max_cols (hh : A.handled = none) (F : Fr h₀ L s.heap m) (N : News h₀ L s.heap news) (hm : (D, PySem.W.listOf vs.toArray ep) ∈ news) (hi : IntsAre vs (cols.map Int.ofNat)) (hne : cols ≠ [])
    (h : ∀ h' (t : Tok) tk, Fr h₀ L h' m → News h₀ L h' news → Q (.int (maxL cols) t) { s with heap := h', toks := tk }) :
    wpAny (model prog w) A (call (.builtin "max") [.ref D]) Q E s := by
  refine max_list_N hh F N (PySem.IsL.isList (n := ep) (N _ hm).1) hi (by simpa using List.length_pos_iff.mpr hne) fun h' M t tk F' N' hM hle => ?_
  have e : M = (maxL cols : Int) := by
    obtain ⟨a, ha, rfl⟩ := List.mem_map.mp hM
    have h1 := maxL_le ha
    have h2 := hle _ (List.mem_map.mpr ⟨_, maxL_mem hne, rfl⟩)
    show (a : Int) = _
    have h3 : ((maxL cols : Nat) : Int) ≤ (a : Int) := h2
    lia
  rw [e]
  exact h h' t tk F' N'
end
section
variable {prog : Program} {w : World} {A : Around} {E : Value → Shared → Prop} {s : Shared} {h₀ : Heap} {L : Addr} {m : Str → Option Value} {news : List (Addr × Obj)} {Q : Value → Shared → Prop}
theorem pyit_rng {R : Addr} {n : Nat} {t u v : Tok} (F : Fr h₀ L s.heap m) (N : News h₀ L s.heap news) (hm : (R, rgO 0 n t u v) ∈ news) (hn : n < 1000)
    (h : ∀ (I : Addr) (h' : Heap), Fr h₀ L h' m → News h₀ L h' ((I, itR 0 n) :: news) → (∀ p ∈ news, p.1 < I) → Q (.ref I) { s with heap := h' }) :
    wpAny (model prog w) A (pyIter (.ref R)) Q E s := by
  have hsz : Builtin.Range.rangeSize 0 (n : Int) 1 = (n : Int) := by
    unfold Builtin.Range.rangeSize
    rw [if_pos (by decide), Int.ediv_one]
    split <;> lia
  refine wpAny_pyIter_range (N _ hm).1 (small_one (by decide) (by decide) (by lia) (by lia)) ?_
  refine h _ _ (F.push _) ?_ fun p hp => Heap.lt_size (N p hp).1
  have hp := News.push F N { cls := .type "range_iterator", data := .fields #[rawInt 0, rawInt (Builtin.Range.rangeSize 0 (n : Int) 1), rawInt 1] } rfl
  rw [hsz] at hp ⊢
  exact hp
end
theorem filt_len {i : Nat} {cols : List Nat} : (List.filter (fun a => decide ((i : Int) < a)) (List.map Int.ofNat cols)).length = (cols.filter fun x => Nat.blt i x).length := by
  rw [List.filter_map, List.length_map]
  congr 1
  apply List.filter_congr
  intro x _
  rw [Bool.eq_iff_iff]
  simp [Nat.blt_eq]
theorem reached_spec : ∀ {w : World} {dp un : Nat} {gd : Option (List Code)} {cn : Str} {cs : Scope} {a : Addr} {ccd : Value} {cl : List (Str × Addr)} {outer : List Env} {A₀ : Around} {base h₀ : Heap} {L : Addr} {m : Str → Option Value} {s : Shared} {Q E : Value → Shared → Prop} {p : Program} {loose : List Str} {mean : ExcName → Option Value} {mg mb : Str → Option Value}
   (_B : Below A₀ base outer h₀) (_F : Fr h₀ L s.heap m) (_X : (fragK.heap_1 w.params).In h₀) (_T : Top p loose mean mg mb h₀) (_hk : cs.kind = .function)
   {D : Addr} {vs : List Value} {ep : Nat} {cols : List Nat} {news : List (Addr × Obj)} (_N : News h₀ L s.heap ((D, PySem.W.listOf vs.toArray ep) :: news))
   (_hi : IntsAre vs (cols.map Int.ofNat)) (_hl : cols.length ≤ 40) (_hm : ∀ x ∈ cols, x ≤ 40) (_hne : cols ≠ []) (_BF : BFacts w base p loose mean mg mb) (_KD : KtsDicts (outer.filterMap (·.frame)) h₀)
   (_hd : dp + 8 < recursionLimit) (_hu : un + 80 < cLine)
   (_ret : ∀ (D' : Addr) (vs' : List Value) (ep' : Nat) (h' : Heap) (tk' : Nat), IntsAre vs' ((reachedL cols).map Int.ofNat) → Fr h₀ L h' m → News h₀ L h' ((D', PySem.W.listOf vs'.toArray ep') :: (D, PySem.W.listOf vs.toArray ep) :: news) → (∀ q ∈ (D, PySem.W.listOf vs.toArray ep) :: news, @LT.lt Nat _ q.1 D') → Q (.ref D') { s with heap := h', toks := tk' }),
   wpAny (model PySem.Challenge.rw_kt0066_01.row.prog w) (ktrTop dp un gd cn cs L a ccd cl outer) (call (.ref 805) [.ref D]) Q E s := by
  k_fill
  intro w dp un gd cn cs a ccd cl outer A₀ base h₀ L m s Q E p loose mean mg mb B F X T hk D vs ep cols news N hi hl hm hne BF KD hd hu ret
  refine wpAny_call ?_
  (refine' codeE_cellsS (g₀ := h₀) (binds := [(S "lengths", .ref D)]) ?k1 ?k2 ?k3 ?k4 ?k5 ?XB ?TB ?D ?T0 ?kA ?kF ?kK ?k6 ?k7 ?k8 ?k9 ?kB ?kD ?_ ?c2 ?c3 ?c4; (case kA => exact rfl); (case kF => exact rfl); (case kK => assumption); (case k2 => k_asm); (case k1 => k_asm); (case XB => exact BF.X); (case TB => exact BF.T); (case D => assumption); (case T0 => exact KtsTurn.refl); (case k3 => k_asm); (case k4 => k_asm); (case k5 => k_asm); (case k6 => k_is); (case k7 => k_is); (case k8 => ktr_room); (case k9 => first | exact BindsTo.of_eq rfl | exact binds_K (X.keeps F.keep) rfl (by k_is) rfl rfl rfl); (case kB => exact rfl); (case kD => decide +kernel); (case c2 => exact rfl); (case c3 => exact rfl); (case c4 => exact rfl); k_whole; intro g' L' h' tk' cells' FG' F' N' Y' B' X' T' l1 D'; (try k_lt l1); k_cells Y'; (try simp only [List.cons_append, List.nil_append] at N'); (try dsimp only); (try k_lift B'); (try k_fold))
  replace F' : Fr g' L' h' (fun _ => none) := F'
  repeat' (first | (k_unfold; (try dsimp only)) | (k_end; wrow_close) | ((with_reducible show wpAny _ _ (call (Value.type "range") _) _ _ _); (k_here; k_dflt ((fail_if_success (fail_if_success (refine' rng_new ?_ ?_ ?_))); refine rng_new (by k_asm) (by k_asm) ?_; k_whole); intro _ _ _ _ _ _ _ _)) | ((with_reducible show wpAny _ _ (pyIter (Value.ref _)) _ _ _); (k_dflt ((fail_if_success (fail_if_success (refine' pyit_rng ?_ ?_ ?_ ?_ ?_))); refine pyit_rng (by k_asm) (by k_asm) (by k_mem) (by lia) ?_; k_whole); intro _ _ _ _ _)) | ((with_reducible show wpAny _ _ (call (Value.builtin "max") _) _ _ _); (k_here; k_dflt ((fail_if_success (fail_if_success (refine' max_cols ?_ ?_ ?_ ?_ ?_ ?_ ?_))); refine max_cols (by with_unfolding_all rfl) (by k_asm) (by k_asm) (by k_mem) (by assumption) (by assumption) ?_; k_whole); intro _ _ _ _ _)) | walk1)
  have hmx : maxL cols ≤ 40 := hm _ (maxL_mem hne)
  rw [eval_ListComp]
  refine wpAny_comprehension_free (use := none) rfl (by intro _; rfl) (by rfl) rfl (by decide) ?_
  dsimp only [firstIter]
  repeat' (first | (k_unfold; (try dsimp only)) | (k_end; wrow_close) | ((with_reducible show wpAny _ _ (call (Value.type "range") _) _ _ _); (k_here; k_dflt ((fail_if_success (fail_if_success (refine' rng_new ?_ ?_ ?_))); refine rng_new (by k_asm) (by k_asm) ?_; k_whole); intro _ _ _ _ _ _ _ _)) | ((with_reducible show wpAny _ _ (pyIter (Value.ref _)) _ _ _); (k_dflt ((fail_if_success (fail_if_success (refine' pyit_rng ?_ ?_ ?_ ?_ ?_))); refine pyit_rng (by k_asm) (by k_asm) (by k_mem) (by lia) ?_; k_whole); intro _ _ _ _ _)) | ((with_reducible show wpAny _ _ (call (Value.builtin "max") _) _ _ _); (k_here; k_dflt ((fail_if_success (fail_if_success (refine' max_cols ?_ ?_ ?_ ?_ ?_ ?_ ?_))); refine max_cols (by with_unfolding_all rfl) (by k_asm) (by k_asm) (by k_mem) (by assumption) (by assumption) ?_; k_whole); intro _ _ _ _ _)) | walk1)
  (rename News _ _ _ _ => NN)
  (rename Fr _ _ _ _ => FF)
  rename_i o1 d1 hz0 t0 tkz0 R1 t1 t2 hz1 tkz1 lR I1 hz2 lI A1 hz3 lA
  refine comp_from (fun i us => IntsAre us ((List.range i).map fun k => (((cols.filter fun x => Nat.blt k x).length : Nat) : Int))) (fun _ _ => ⟨rfl, rfl⟩) rfl (fun _ _ => rfl) rfl FF NN (by lia) ?hai ?hoff .nil ?hP ?turn ?done
  case hai => exact Nat.ne_of_gt lA.1
  case hoff =>
    intro p hp
    refine ⟨?_, Nat.ne_of_lt (lI p hp)⟩
    have h2 : @LT.lt Nat _ p.1 I1 := lI p hp
    have h3 : @LT.lt Nat _ I1 A1 := lA.1
    exact Nat.ne_of_lt (Nat.lt_trans h2 h3)
  case hP =>
    intro i us hi
    simpa using hi.length
  case turn =>
    intro i us ep9 C K ok t9 h9 tk9 E9 hi9 hus hok F9 N9 hlt hCK9
    clear NN FF
    refine wpAny_mono (Q := fun y s' => (∃ t, y = .int (((cols.filter fun x => Nat.blt i x).length : Nat) : Int) t) ∧ ∃ h' tk', s' = { s with heap := h', toks := tk' } ∧ Fr g' L' h' (fun _ => none) ∧ News g' L' h' ((K, ok) :: (A1, PySem.W.listOf us.toArray ep9) :: (I1, itR ((i + 1 : Nat) : Int) ((maxL cols : Int) - ((i + 1 : Nat) : Int))) :: (C, dictN) :: (R1, rgO 0 (↑(maxL cols)) t1 t0 t2) :: (L' + 1, o1) :: (D, PySem.W.listOf vs.toArray ep) :: news)) ?_ ?_ fun _ _ e => e
    · have N10 := news_up N9 (p := (D, PySem.W.listOf vs.toArray ep)) (by simp)
      clear N9
      repeat' (first | (k_unfold; (try dsimp only)) | (k_end; wrow_close) | ((with_reducible show wpAny _ _ (call (Value.type "range") _) _ _ _); (k_here; k_dflt ((fail_if_success (fail_if_success (refine' rng_new ?_ ?_ ?_))); refine rng_new (by k_asm) (by k_asm) ?_; k_whole); intro _ _ _ _ _ _ _ _)) | ((with_reducible show wpAny _ _ (pyIter (Value.ref _)) _ _ _); (k_dflt ((fail_if_success (fail_if_success (refine' pyit_rng ?_ ?_ ?_ ?_ ?_))); refine pyit_rng (by k_asm) (by k_asm) (by k_mem) (by lia) ?_; k_whole); intro _ _ _ _ _)) | ((with_reducible show wpAny _ _ (call (Value.builtin "max") _) _ _ _); (k_here; k_dflt ((fail_if_success (fail_if_success (refine' max_cols ?_ ?_ ?_ ?_ ?_ ?_ ?_))); refine max_cols (by with_unfolding_all rfl) (by k_asm) (by k_asm) (by k_mem) (by assumption) (by assumption) ?_; k_whole); intro _ _ _ _ _)) | walk1)
      rename_i q1 q2 D5 ys5 h5 tk5 F5 N5 q3 hl5 q4 hc5
      have e5 : ys5.length = (cols.filter fun x => Nat.blt i x).length := by
        rw [← filt_len, ← List.length_map (f := PyData.int)]
        exact hc5.length_eq
      have e6 : (cols.filter fun x => Nat.blt i x).length ≤ 40 := Nat.le_trans (List.length_filter_le _ _) hl
      have e7 : ((ys5.toArray.size : Nat) : Int) = (((cols.filter fun x => Nat.blt i x).length : Nat) : Int) := by rw [List.size_toArray, e5]
      refine len_list hl5 (by rw [e7]; lia) ?_
      rw [e7]
      exact ⟨⟨_, rfl⟩, h5, _, rfl, F5, news_sub N5 (fun q hq => .tail _ hq)⟩
    · rintro y s' ⟨⟨t, rfl⟩, h7, tk7, rfl, F7, N7⟩
      refine ⟨?_, h7, tk7, rfl, F7, N7⟩
      rw [List.range_succ, List.map_append]
      exact hus.append (.cons _ _ .nil)
  case done =>
    intro us ep9 h9 tk9 hi9 F9 N9
    repeat' (first | (k_unfold; (try dsimp only)) | (k_end; wrow_close) | ((with_reducible show wpAny _ _ (call (Value.type "range") _) _ _ _); (k_here; k_dflt ((fail_if_success (fail_if_success (refine' rng_new ?_ ?_ ?_))); refine rng_new (by k_asm) (by k_asm) ?_; k_whole); intro _ _ _ _ _ _ _ _)) | ((with_reducible show wpAny _ _ (pyIter (Value.ref _)) _ _ _); (k_dflt ((fail_if_success (fail_if_success (refine' pyit_rng ?_ ?_ ?_ ?_ ?_))); refine pyit_rng (by k_asm) (by k_asm) (by k_mem) (by lia) ?_; k_whole); intro _ _ _ _ _)) | ((with_reducible show wpAny _ _ (call (Value.builtin "max") _) _ _ _); (k_here; k_dflt ((fail_if_success (fail_if_success (refine' max_cols ?_ ?_ ?_ ?_ ?_ ?_ ?_))); refine max_cols (by with_unfolding_all rfl) (by k_asm) (by k_asm) (by k_mem) (by assumption) (by assumption) ?_; k_whole); intro _ _ _ _ _)) | walk1)
    (rename Fr h₀ _ _ _ => FE)
    (rename News h₀ _ _ _ => NE)
    refine ret A1 us ep9 h9 tk9 ?_ FE ?_ ?_
    · rw [reachedL, List.map_map]
      exact hi9
    · refine news_sub NE (fun q hq => ?_)
      simp only [List.mem_cons] at hq ⊢
      rcases hq with h | h | h
      · exact .inl h
      · exact .inr (.inr (.inr (.inl h)))
      · exact .inr (.inr (.inr (.inr h)))
    · intro q hq
      (revert q; refine all_cons (lA.2.2.2.1) ?_; intro q hq)
      · exact ktn_ltOf lA.2.2.2.2 q hq
end Mine
end
section
open PySem PySem.W PyProof.Rows
set_option Elab.async false
set_option maxRecDepth 100000
set_option maxHeartbeats 8000000
namespace Mine
noncomputable def colsAt (cols : List Nat) : Nat → List Nat
  | 0 => cols
  | n + 1 => nextCol (colsAt cols n)
theorem colsAt_succ (cols : List Nat) : ∀ n, colsAt cols (n + 1) = colsAt (nextCol cols) n
  | 0 => rfl
  | n + 1 => by rw [colsAt, colsAt_succ cols n]; rfl
theorem toldL_eq : ∀ (n : Nat) (cols : List Nat), toldL cols n = (List.range n).map fun i => reachedL (colsAt cols i)
  | 0, _ => rfl
  | n + 1, cols => by
    rw [toldL, toldL_eq n, List.range_succ_eq_map, List.map_cons, List.map_map]
    congr 1
    apply List.map_congr_left
    intro i _
    show _ = reachedL (colsAt cols (i + 1))
    rw [colsAt_succ]
theorem nextCol_bd {cols : List Nat} {b : Nat} (h1 : cols.length ≤ b) (h2 : ∀ x ∈ cols, x ≤ b) : (nextCol cols).length ≤ b + 1 ∧ (∀ x ∈ nextCol cols, x ≤ b + 1) ∧ nextCol cols ≠ [] := by
  refine ⟨?_, fun x hx => ?_, by simp [nextCol]⟩
  · have := List.length_filter_le (fun x => Nat.blt 1 x) cols
    simp only [nextCol, List.length_append, List.length_map, List.length_cons, List.length_nil]
    lia
  · rcases List.mem_append.mp hx with hx | hx
    · obtain ⟨y, hy, rfl⟩ := List.mem_map.mp hx
      have := h2 y (List.mem_filter.mp hy).1
      lia
    · obtain rfl := List.mem_singleton.mp hx
      lia
theorem reached_bd {l : List Nat} {b : Nat} (h1 : l.length ≤ b) (h2 : ∀ x ∈ l, x ≤ b) : (reachedL l).length ≤ b ∧ ∀ x ∈ reachedL l, x ≤ b := by
  refine ⟨?_, fun x hx => ?_⟩
  · simp only [reachedL, List.length_map, List.length_range]
    rcases l with _ | ⟨y, r⟩
    · exact Nat.zero_le _
    · exact h2 _ (maxL_mem (by simp))
  · obtain ⟨k, _, rfl⟩ := List.mem_map.mp hx
    exact Nat.le_trans (List.length_filter_le _ _) h1
theorem colsAt_bd {cols : List Nat} (h1 : cols.length ≤ 10) (h2 : ∀ x ∈ cols, x ≤ 10) (h3 : cols ≠ []) : ∀ n, (colsAt cols n).length ≤ 10 + n ∧ (∀ x ∈ colsAt cols n, x ≤ 10 + n) ∧ colsAt cols n ≠ []
  | 0 => ⟨h1, h2, h3⟩
  | n + 1 => by
    obtain ⟨a, b, _⟩ := colsAt_bd h1 h2 h3 n
    exact nextCol_bd a b
theorem next_list : ∀ cols : List Nat, ((cols.map Int.ofNat).filter (fun a => decide ((1 : Int) < a))).map (fun i => i - 1) = ((cols.filter fun x => Nat.blt 1 x).map (· - 1)).map Int.ofNat
  | [] => rfl
  | x :: r => by
    have ih := next_list r
    by_cases hx : 1 < x
    · have e1 : decide ((1 : Int) < Int.ofNat x) = true := decide_eq_true (by show (1 : Int) < (x : Int); lia)
      have e2 : Nat.blt 1 x = true := by simpa [Nat.blt_eq] using hx
      rw [List.map_cons, List.filter_cons_of_pos (by simpa using e1), List.filter_cons_of_pos (by simpa using e2), List.map_cons, List.map_cons, List.map_cons, ih]
      congr 1
      show (x : Int) - 1 = ((x - 1 : Nat) : Int)
      lia
    · have e1 : decide ((1 : Int) < Int.ofNat x) = false := decide_eq_false (by show ¬ (1 : Int) < (x : Int); lia)
      have e2 : Nat.blt 1 x = false := by rw [← Bool.not_eq_true, Nat.blt_eq]; exact hx
      rw [List.map_cons, List.filter_cons_of_neg (by simp [e1] at *; lia), List.filter_cons_of_neg (by rw [e2]; decide), ih]
theorem next_ints {ys : List Value} {cols : List Nat} {t : Tok} (h : IntsAre ys (((cols.map Int.ofNat).filter (fun a => decide ((1 : Int) < a))).map (fun i => i - 1))) :
    IntsAre (ys ++ [.int (((cols.map Int.ofNat).length : Nat) : Int) t]) ((nextCol cols).map Int.ofNat) := by
  rw [next_list] at h
  rw [nextCol, List.map_append]
  refine h.append ?_
  rw [List.length_map]
  exact .cons _ _ .nil
noncomputable abbrev mTO (n : Int) (tn : Tok) (D C T : Addr) (tv : Option Value) : Str → Option Value := fun y =>
  if y = S "turn" then tv else if y = S "told" then some (.ref T) else if y = S "columns" then some (.ref C) else if y = S "turns" then some (.int n tn) else if y = S "lengths" then some (.ref D) else none
theorem mTO_init {n : Int} {tn : Tok} {D C T : Addr} : (fun y => if y = S "told" then some (.ref T) else if y = S "columns" then some (.ref C) else List.lookup y [(S "turns", .int n tn), (S "lengths", .ref D)]) = mTO n tn D C T none := by
  funext y
  by_cases h1 : y = S "turn"
  · subst h1; rfl
  by_cases h2 : y = S "told"
  · subst h2; rfl
  by_cases h3 : y = S "columns"
  · subst h3; rfl
  by_cases h4 : y = S "turns"
  · subst h4; rfl
  by_cases h5 : y = S "lengths"
  · subst h5; rfl
  simp only [mTO, if_neg h1, if_neg h2, if_neg h3, if_neg h4, if_neg h5, List.lookup, beq_eq_false_iff_ne.mpr h4, beq_eq_false_iff_ne.mpr h5]
theorem mTO_step {n : Int} {tn : Tok} {D C C' T : Addr} {tv : Option Value} {v : Value} : (fun y => if y = S "columns" then some (.ref C') else if y = S "turn" then some v else mTO n tn D C T tv y) = mTO n tn D C' T (some v) := by
  funext y
  by_cases h1 : y = S "turn"
  · subst h1; rfl
  by_cases h3 : y = S "columns"
  · subst h3; rfl
  simp only [mTO, if_neg h1, if_neg h3]
local macro_rules | `(tactic| walk_at "call builtin:list.append") => `(tactic| (k_here; k_dflt (refine app_snoc (by k_asm) (by k_asm) ?_ (by k_upd) ?_; lia; k_whole); intro h' F' N'; try dsimp only [List.nil_append, List.cons_append] at N'))
local macro_rules | `(tactic| walk_at "RangeRest") => `(tactic| refine WStop.out ?_)
theorem flat_dots (k : Nat) (acc : Array Nat) : (List.replicate k (#[46] : Array Nat)).foldl (· ++ ·) acc = acc ++ (List.replicate k 46).toArray := by
  induction k generalizing acc with
  | zero => simp
  | succ k ih => rw [List.replicate_succ, List.foldl_cons, ih, List.replicate_succ]; apply Array.ext'; simp
theorem mul_dots (a : Nat) : Txt.mul (S ".") (a : Int) = dotsS a := by
  unfold Txt.mul
  have e : (S ".").cps = #[46] := by decide +kernel
  have e2 : (S ".").length = 1 := by decide +kernel
  by_cases h0 : a = 0
  · subst h0; decide +kernel
  rw [if_neg (by lia)]
  by_cases h1 : a = 1
  · subst h1; decide +kernel
  rw [if_neg (by rw [e2]; simp; lia), e, flat_dots]
  simp
section
variable {prog : Program} {w : World} {A : Around} {E : Value → Shared → Prop} {s : Shared} {Q : Value → Shared → Prop}
theorem mul_dot {t u : Tok} {a : Nat} (ha : a ≤ 1000) (h : ∀ t' k, Q (.str (dotsS a) t') { s with toks := k }) : wpAny (model prog w) A (binaryOp .Mult (.str (S ".") t) (.int (a : Int) u)) Q E s := by
  refine SB.mul (mulOk_of 16 1048576 (by decide +kernel) (by lia) (by lia) (by decide) (by decide)) ?_
  rw [mul_dots]
  exact h
end
theorem rowsV_carried : ∀ {vs : List Value} {ms : List Nat}, CarriedAll vs (ms.map fun i => PyData.str (dotsS i)) → RowsV vs ms
  | _, [], h => by cases h; exact .nil
  | _, m :: ms, h => by
    cases h with
    | cons h r =>
      cases h
      exact .cons (rowsV_carried r)
local macro_rules | `(tactic| walk_at "eval ListComp") => `(tactic| ((with_reducible apply ListComp_rowsP); (case hfree => decide); (case hcell => decide); (case hkind => with_unfolding_all rfl); (case hnames => decide); (case hx => with_unfolding_all rfl); (case hs => intro _; with_unfolding_all rfl)))
theorem told_spec : ∀ {w : World} {dp un : Nat} {gd : Option (List Code)} {cn : Str} {cs : Scope} {a : Addr} {ccd : Value} {cl : List (Str × Addr)} {outer : List Env} {A₀ : Around} {base h₀ : Heap} {L : Addr} {m : Str → Option Value} {s : Shared} {Q E : Value → Shared → Prop} {p : Program} {loose : List Str} {mean : ExcName → Option Value} {mg mb : Str → Option Value}
   (_B : Below A₀ base outer h₀) (_F : Fr h₀ L s.heap m) (_X : (fragK.heap_1 w.params).In h₀) (_T : Top p loose mean mg mb h₀) (_hk : cs.kind = .function)
   {D : Addr} {vs : List Value} {ep : Nat} {rows : List Nat} {n : Nat} {tn : Tok} {news : List (Addr × Obj)} (_N : News h₀ L s.heap ((D, PySem.W.listOf vs.toArray ep) :: news))
   (_hi : IntsAre vs (rows.map Int.ofNat)) (_hg : Good rows) (_hn : n ≤ 13) (_BF : BFacts w base p loose mean mg mb) (_KD : KtsDicts (outer.filterMap (·.frame)) h₀)
   (_hd : dp + 12 < recursionLimit) (_hu : un + 160 < cLine)
   (_ret : ∀ (TD : Addr) (tvs : List Value) (ep' : Nat) (tl : List (Addr × Obj)) (h' : Heap) (tk' : Nat), ToldV tl tvs (toldL (reachedL rows) n) → Fr h₀ L h' m → News h₀ L h' ((TD, PySem.W.listOf tvs.toArray ep') :: tl) → (∀ q ∈ (D, PySem.W.listOf vs.toArray ep) :: news, q ∈ tl) → Q (.ref TD) { s with heap := h', toks := tk' }),
   wpAny (model PySem.Challenge.rw_kt0066_01.row.prog w) (ktrTop dp un gd cn cs L a ccd cl outer) (call (.ref 810) [.ref D, .int n tn]) Q E s := by
  k_fill
  intro w dp un gd cn cs a ccd cl outer A₀ base h₀ L m s Q E p loose mean mg mb B F X T hk D vs ep rows n tn news N hi hg hn BF KD hd hu ret
  refine wpAny_call ?_
  (refine' codeE_defS (g₀ := h₀) (binds := [(S "lengths", .ref D), (S "turns", .int n tn)]) ?k1 ?k2 ?k3 ?k4 ?k5 ?XB ?TB ?D ?T0 ?kA ?kf ?kK ?k6 ?k7 ?k8 ?k9 ?kB ?_ ?c2 ?c3 ?c4 ?c5; (case kA => exact rfl); (case kf => exact rfl); (case kK => assumption); (case k2 => k_asm); (case k1 => k_asm); (case XB => exact BF.X); (case TB => exact BF.T); (case D => assumption); (case T0 => exact KtsTurn.refl); (case k3 => k_asm); (case k4 => k_asm); (case k5 => k_asm); (case k6 => k_is); (case k7 => k_is); (case k8 => ktr_room); (case k9 => first | exact BindsTo.of_eq rfl | exact binds_K (X.keeps F.keep) rfl (by k_is) rfl rfl rfl); (case kB => exact locs rfl); (case c2 => exact rfl); (case c3 => exact rfl); (case c4 => exact rfl); (case c5 => decide); k_whole; intro g' L' h' FG' F' N' B' X' T' D'; (try dsimp only); (try k_lift B'); (try k_fold))
  repeat' (first | ((with_reducible refine q_out (by assumption) ?_); (try dsimp only)) | ((fail_if_success (with_reducible refine q_chk (by assumption) ?_)); (with_reducible refine q_abs ?_); intro _ _) | (k_unfold; (try dsimp only)) | (k_end; wrow_close) | ((with_reducible show wpAny _ _ (pyIter (Value.ref _)) (CompPost _ _ _ _ _ _ _ _ _) _ _); refine WStop.out ?_) | (k_here; (with_reducible show wpAny _ _ (call (Value.ref 805) _) _ _ _); refine WStop.out ?_) | ((with_reducible show wpAny _ _ (pyIter (Value.ref _)) (fun it s₂ => LoopAtV _ _ _ _ _ _ _ _ _ it s₂) _ _); (rename Fr _ _ _ _ => lFww); (rename News _ _ _ _ => lNww); (with_unfolding_all refine iter_rangeUnr (by rfl) (by assumption) (And.right (range_up0 (by lia))) (And.left (range_up0 (by lia))) lFww lNww ?_); clear lFww lNww; intro _ _) | walk1)
  unfold WStop
  obtain ⟨hb1, hb2⟩ : rows.length ≤ 10 ∧ ∀ x ∈ rows, x ≤ 10 := ⟨Nat.le_trans (len_sum hg.pos) hg.sum, fun x hx => Nat.le_trans (le_sum hx) hg.sum⟩
  k_dflt (refine' reached_spec (cols := rows) (vs := vs) (ep := ep) ?jB ?jF ?jX ?jT ?jK ?jN hi ?jl ?jm hg.ne ?jBF ?jD ?jd ?ju ?_; (case jN => k_asm); (case jF => k_asm); (case jB => assumption); (case jX => assumption); (case jT => assumption); (case jBF => assumption); (case jD => assumption); (case jK => first | exact rfl | assumption); (case jl => lia); (case jm => exact fun x hx => Nat.le_trans (hb2 x hx) (by decide)); (case jd => ktr_room); (case ju => ktr_units))
  intro C1 cv1 ec1 h1 tk1 hi1 F1 N1 l1
  obtain ⟨hc1, hc2⟩ := reached_bd hb1 hb2
  have hc3 : reachedL rows ≠ [] := by
    have hm := maxL_mem hg.ne
    have h1 := hg.pos _ hm
    intro e
    have := congrArg List.length e
    simp only [reachedL, List.length_map, List.length_range, List.length_nil] at this
    lia
  have hbd := colsAt_bd hc1 hc2 hc3
  repeat' (first | ((with_reducible refine q_out (by assumption) ?_); (try dsimp only)) | ((fail_if_success (with_reducible refine q_chk (by assumption) ?_)); (with_reducible refine q_abs ?_); intro _ _) | (k_unfold; (try dsimp only)) | (k_end; wrow_close) | ((with_reducible show wpAny _ _ (pyIter (Value.ref _)) (CompPost _ _ _ _ _ _ _ _ _) _ _); refine WStop.out ?_) | (k_here; (with_reducible show wpAny _ _ (call (Value.ref 805) _) _ _ _); refine WStop.out ?_) | ((with_reducible show wpAny _ _ (pyIter (Value.ref _)) (fun it s₂ => LoopAtV _ _ _ _ _ _ _ _ _ it s₂) _ _); (rename Fr _ _ _ _ => lFww); (rename News _ _ _ _ => lNww); (with_unfolding_all refine iter_rangeUnr (by rfl) (by assumption) (And.right (range_up0 (by lia))) (And.left (range_up0 (by lia))) lFww lNww ?_); clear lFww lNww; intro _ _) | walk1)
  unfold WStop
  rename_i T1 z3 lT z4 z5 z6 z7 z8 t1 t2 t3 z10 z11 I1 lI
  clear z10 z11
  have hTI : @LT.lt Nat _ T1 I1 := lI _ (.head _)
  have hCI : @LT.lt Nat _ C1 I1 := lI _ (.tail _ (.head _))
  have hnI : ∀ p ∈ (D, PySem.W.listOf vs.toArray ep) :: news, @LT.lt Nat _ p.1 I1 := fun p hp => lI p (.tail _ (.tail _ hp))
  have hnT : ∀ p ∈ (D, PySem.W.listOf vs.toArray ep) :: news, @LT.lt Nat _ p.1 T1 := fun p hp => by
    rcases List.mem_cons.mp hp with rfl | hp
    · exact lT.2.1
    · exact ktn_ltOf lT.2.2 p hp
  have hCT : @LT.lt Nat _ C1 T1 := lT.1
  clear lI
  refine rr_ind (fun j mp nw => ∃ (C : Addr) (cv : List Value) (ec : Nat) (tvs : List Value) (et : Nat) (tl : List (Addr × Obj)) (tv : Option Value), mp = mTO n tn D C T1 tv ∧ nw = (T1, PySem.W.listOf tvs.toArray et) :: (C, PySem.W.listOf cv.toArray ec) :: tl ∧
    ToldV tl tvs ((List.range j).map fun i => reachedL (colsAt (reachedL rows) i)) ∧ IntsAre cv ((colsAt (reachedL rows) j).map Int.ofNat) ∧ (∀ q ∈ (D, PySem.W.listOf vs.toArray ep) :: news, q ∈ tl) ∧ @Ne Nat C T1 ∧ @Ne Nat C I1 ∧ (∀ p ∈ tl, @Ne Nat p.1 T1) ∧ (∀ p ∈ tl, @Ne Nat p.1 I1)) ?jz ?js _ 0 _ _ (Nat.add_zero _) ?ji
  case ji =>
    exact ⟨C1, cv1, ec1, [], 0, _, none, mTO_init, rfl, .nil, hi1, fun q hq => hq, Nat.ne_of_lt hCT, Nat.ne_of_lt hCI, fun p hp => Nat.ne_of_lt (hnT p hp), fun p hp => Nat.ne_of_lt (hnI p hp)⟩
  case js =>
    intro j mp nw hjn hI0
    refine goal_abs fun GP hGP => ?_
    obtain ⟨C, cv, ec, tvs, et, tl, tv, rfl, rfl, hT, hcv, hsub, nCT, nCI, ntT, ntI⟩ := hI0
    refine hGP ?_
    clear hGP
    intro t h9 tk9 F9 N9
    clear hi1 l1
    obtain ⟨hd1, hd2, hd3⟩ := hbd j
    have hul : tvs.length < 1000 := by rw [hT.len]; simp; lia
    repeat' (first | ((with_reducible refine q_out (by assumption) ?_); (try dsimp only)) | ((fail_if_success (with_reducible refine q_chk (by assumption) ?_)); (with_reducible refine q_abs ?_); intro _ _) | (k_unfold; (try dsimp only)) | (k_end; wrow_close) | ((with_reducible show wpAny _ _ (pyIter (Value.ref _)) (CompPost _ _ _ _ _ _ _ _ _) _ _); refine WStop.out ?_) | (k_here; (with_reducible show wpAny _ _ (call (Value.ref 805) _) _ _ _); refine WStop.out ?_) | ((with_reducible show wpAny _ _ (pyIter (Value.ref _)) (fun it s₂ => LoopAtV _ _ _ _ _ _ _ _ _ it s₂) _ _); (rename Fr _ _ _ _ => lFww); (rename News _ _ _ _ => lNww); (with_unfolding_all refine iter_rangeUnr (by rfl) (by assumption) (And.right (range_up0 (by lia))) (And.left (range_up0 (by lia))) lFww lNww ?_); clear lFww lNww; intro _ _) | walk1)
    unfold WStop
    have N10 := news_up N9 (p := (C, PySem.W.listOf cv.toArray ec)) (by simp)
    clear N9
    k_dflt (refine' reached_spec (cols := colsAt (reachedL rows) j) (vs := cv) (ep := ec) ?jB ?jF ?jX ?jT ?jK ?jN hcv ?jl ?jm hd3 ?jBF ?jD ?jd ?ju ?_; (case jN => exact N10); (case jF => k_asm); (case jB => assumption); (case jX => assumption); (case jT => assumption); (case jBF => assumption); (case jD => assumption); (case jK => first | exact rfl | assumption); (case jl => lia); (case jm => exact fun x hx => Nat.le_trans (hd2 x hx) (by lia)); (case jd => ktr_room); (case ju => ktr_units))
    intro R2 rv2 er2 h2 tk2 hi2 F2 N2 l2
    clear N10
    repeat' (first | ((with_reducible refine q_out (by assumption) ?_); (try dsimp only)) | ((fail_if_success (with_reducible refine q_chk (by assumption) ?_)); (with_reducible refine q_abs ?_); intro _ _) | (k_unfold; (try dsimp only)) | (k_end; wrow_close) | ((with_reducible show wpAny _ _ (pyIter (Value.ref _)) (CompPost _ _ _ _ _ _ _ _ _) _ _); refine WStop.out ?_) | (k_here; (with_reducible show wpAny _ _ (call (Value.ref 805) _) _ _ _); refine WStop.out ?_) | ((with_reducible show wpAny _ _ (pyIter (Value.ref _)) (fun it s₂ => LoopAtV _ _ _ _ _ _ _ _ _ it s₂) _ _); (rename Fr _ _ _ _ => lFww); (rename News _ _ _ _ => lNww); (with_unfolding_all refine iter_rangeUnr (by rfl) (by assumption) (And.right (range_up0 (by lia))) (And.left (range_up0 (by lia))) lFww lNww ?_); clear lFww lNww; intro _ _) | walk1)
    unfold WStop
    k_dflt (refine' srcC_listDW (K := ItemKind.int) (as := (reachedL (colsAt (reachedL rows) j)).map Int.ofNat) (vs := rv2) (pz := fun _ => true) (d := fun i => PyData.str (dotsS i.toNat)) ?hh ?hl ?hi F2 N2 ?g1 ?g2 ?g3 ?sz; (case hh => with_unfolding_all rfl); (case hl => is_list); (case hi => exact hi2.areOf))
    case g1 =>
      intro C9 a9 v9 s9 m9 E9 ha9 hk9 hn9 hx9 ht9
      exact wpAny_pure ⟨rfl, s9.heap, s9.toks, rfl, fun _ _ e => e⟩
    case g2 =>
      intro C9 a9 v9 s9 m9 E9 ha9 hk9 hp9 hn9 hx9 ht9
      obtain ⟨t8, rfl⟩ := hk9
      obtain ⟨b9, hb9, rfl⟩ := List.mem_map.mp ha9
      have hb40 := (reached_bd (b := 10 + j) hd1 hd2).2 b9 hb9
      repeat' (first | ((with_reducible refine q_out (by assumption) ?_); (try dsimp only)) | ((fail_if_success (with_reducible refine q_chk (by assumption) ?_)); (with_reducible refine q_abs ?_); intro _ _) | (k_unfold; (try dsimp only)) | (k_end; wrow_close) | ((with_reducible show wpAny _ _ (pyIter (Value.ref _)) (CompPost _ _ _ _ _ _ _ _ _) _ _); refine WStop.out ?_) | (k_here; (with_reducible show wpAny _ _ (call (Value.ref 805) _) _ _ _); refine WStop.out ?_) | ((with_reducible show wpAny _ _ (pyIter (Value.ref _)) (fun it s₂ => LoopAtV _ _ _ _ _ _ _ _ _ it s₂) _ _); (rename Fr _ _ _ _ => lFww); (rename News _ _ _ _ => lNww); (with_unfolding_all refine iter_rangeUnr (by rfl) (by assumption) (And.right (range_up0 (by lia))) (And.left (range_up0 (by lia))) lFww lNww ?_); clear lFww lNww; intro _ _) | walk1)
      refine mul_dot (a := b9) (by lia) fun t' k => ⟨?_, s9.heap, k, rfl, fun _ _ e => e⟩
      exact .str _ _
    case g3 =>
      intro D5 ys5 h5 tk5 F5 N5 g5 l5 p5 c5
      obtain ⟨e5, N6⟩ := made_enters p5 F5 N5 g5
      have hne5 := p5.2
      clear N5 p5 N2 F2
      have hv5 : RowsV ys5 (reachedL (colsAt (reachedL rows) j)) := rowsV_carried (by
        rw [List.filter_eq_self.mpr (fun _ _ => rfl), List.map_map] at c5
        exact c5)
      clear c5
      repeat' (first | ((with_reducible refine q_out (by assumption) ?_); (try dsimp only)) | ((fail_if_success (with_reducible refine q_chk (by assumption) ?_)); (with_reducible refine q_abs ?_); intro _ _) | (k_unfold; (try dsimp only)) | (k_end; wrow_close) | ((with_reducible show wpAny _ _ (pyIter (Value.ref _)) (CompPost _ _ _ _ _ _ _ _ _) _ _); refine WStop.out ?_) | (k_here; (with_reducible show wpAny _ _ (call (Value.ref 805) _) _ _ _); refine WStop.out ?_) | ((with_reducible show wpAny _ _ (pyIter (Value.ref _)) (fun it s₂ => LoopAtV _ _ _ _ _ _ _ _ _ it s₂) _ _); (rename Fr _ _ _ _ => lFww); (rename News _ _ _ _ => lNww); (with_unfolding_all refine iter_rangeUnr (by rfl) (by assumption) (And.right (range_up0 (by lia))) (And.left (range_up0 (by lia))) lFww lNww ?_); clear lFww lNww; intro _ _) | walk1)
      (rename News _ _ _ _ => NE)
      (rename Fr _ _ _ _ => FE)
      rename_i U6 h6 l6
      have N7 := news_sub (l' := (C, PySem.W.listOf cv.toArray ec) :: (T1, PySem.W.listOf tvs.toArray et) :: (I1, itR (0 + ((j + 1 : Nat) : Int)) ((n : Int) - ((j + 1 : Nat) : Int))) :: (U6, tupO D5) :: (D5, PySem.W.listOf ys5.toArray e5) :: tl) NE (fun q hq => by
        (revert q; (repeat (refine all_cons ?_ ?_; (· repeat (first | (with_reducible exact List.mem_cons_self) | (with_reducible exact List.Mem.head _) | apply List.Mem.tail)))); intro q hq)
        (repeat (first | exact hq | exact absurd hq List.not_mem_nil | apply List.Mem.tail)))
      clear NE
      have nU : @Ne Nat U6 T1 := Nat.ne_of_gt l6.2.2.2.2.1
      have nD : @Ne Nat D5 T1 := Ne.symm (hne5 (T1, PySem.W.listOf tvs.toArray et) (by simp))
      refine app_snoc FE N7 hul (Upd.tail nCT (Upd.head ?_)) ?_
      · intro q hq
        rcases mem3 hq with rfl | rfl | rfl | hq
        · exact Nat.ne_of_gt hTI
        · exact nU
        · exact nD
        · exact ntT q hq
      intro h7 F7 N8
      clear N7 FE
      repeat' (first | ((with_reducible refine q_out (by assumption) ?_); (try dsimp only)) | ((fail_if_success (with_reducible refine q_chk (by assumption) ?_)); (with_reducible refine q_abs ?_); intro _ _) | (k_unfold; (try dsimp only)) | (k_end; wrow_close) | ((with_reducible show wpAny _ _ (pyIter (Value.ref _)) (CompPost _ _ _ _ _ _ _ _ _) _ _); refine WStop.out ?_) | (k_here; (with_reducible show wpAny _ _ (call (Value.ref 805) _) _ _ _); refine WStop.out ?_) | ((with_reducible show wpAny _ _ (pyIter (Value.ref _)) (fun it s₂ => LoopAtV _ _ _ _ _ _ _ _ _ it s₂) _ _); (rename Fr _ _ _ _ => lFww); (rename News _ _ _ _ => lNww); (with_unfolding_all refine iter_rangeUnr (by rfl) (by assumption) (And.right (range_up0 (by lia))) (And.left (range_up0 (by lia))) lFww lNww ?_); clear lFww lNww; intro _ _) | walk1)
      unfold WStop
      have F8 := (by assumption : Fr g' L' h7 _)
      k_dflt (refine' srcC_listDW (K := ItemKind.int) (as := (colsAt (reachedL rows) j).map Int.ofNat) (vs := cv) (pz := fun a => decide (1 < a)) (d := fun i => PyData.int (i - 1)) ?hh ?hl ?hi F8 N8 ?f1 ?f2 ?f3 ?fz; (case hh => with_unfolding_all rfl); (case hl => is_list); (case hi => exact hcv.areOf))
      case f1 =>
        intro C9 a9 v9 s9 m9 E9 ha9 hk9 hn9 hx9 ht9
        obtain ⟨t8, rfl⟩ := hk9
        repeat' (first | ((with_reducible refine q_out (by assumption) ?_); (try dsimp only)) | ((fail_if_success (with_reducible refine q_chk (by assumption) ?_)); (with_reducible refine q_abs ?_); intro _ _) | (k_unfold; (try dsimp only)) | (k_end; wrow_close) | ((with_reducible show wpAny _ _ (pyIter (Value.ref _)) (CompPost _ _ _ _ _ _ _ _ _) _ _); refine WStop.out ?_) | (k_here; (with_reducible show wpAny _ _ (call (Value.ref 805) _) _ _ _); refine WStop.out ?_) | ((with_reducible show wpAny _ _ (pyIter (Value.ref _)) (fun it s₂ => LoopAtV _ _ _ _ _ _ _ _ _ it s₂) _ _); (rename Fr _ _ _ _ => lFww); (rename News _ _ _ _ => lNww); (with_unfolding_all refine iter_rangeUnr (by rfl) (by assumption) (And.right (range_up0 (by lia))) (And.left (range_up0 (by lia))) lFww lNww ?_); clear lFww lNww; intro _ _) | walk1)
        all_goals exact ⟨_, _, rfl, fun _ _ e => e⟩
      case f2 =>
        intro C9 a9 v9 s9 m9 E9 ha9 hk9 hp9 hn9 hx9 ht9
        obtain ⟨t8, rfl⟩ := hk9
        obtain ⟨b9, hb9, rfl⟩ := List.mem_map.mp ha9
        have hb40 := hd2 b9 hb9
        repeat' (first | ((with_reducible refine q_out (by assumption) ?_); (try dsimp only)) | ((fail_if_success (with_reducible refine q_chk (by assumption) ?_)); (with_reducible refine q_abs ?_); intro _ _) | (k_unfold; (try dsimp only)) | (k_end; wrow_close) | ((with_reducible show wpAny _ _ (pyIter (Value.ref _)) (CompPost _ _ _ _ _ _ _ _ _) _ _); refine WStop.out ?_) | (k_here; (with_reducible show wpAny _ _ (call (Value.ref 805) _) _ _ _); refine WStop.out ?_) | ((with_reducible show wpAny _ _ (pyIter (Value.ref _)) (fun it s₂ => LoopAtV _ _ _ _ _ _ _ _ _ it s₂) _ _); (rename Fr _ _ _ _ => lFww); (rename News _ _ _ _ => lNww); (with_unfolding_all refine iter_rangeUnr (by rfl) (by assumption) (And.right (range_up0 (by lia))) (And.left (range_up0 (by lia))) lFww lNww ?_); clear lFww lNww; intro _ _) | walk1)
        · exact .int _ _
        · exact ⟨_, _, rfl, fun _ _ e => e⟩
      case f3 =>
        intro D8 ys8 h8 tk8 F9 N9 g8 l8 p8 c8
        obtain ⟨e8, N10⟩ := made_enters p8 F9 N9 g8
        have hne8 := p8.2
        clear N9 p8 N8
        have hv8 := c8.intsOf
        clear c8
        repeat' (first | ((with_reducible refine q_out (by assumption) ?_); (try dsimp only)) | ((fail_if_success (with_reducible refine q_chk (by assumption) ?_)); (with_reducible refine q_abs ?_); intro _ _) | (k_unfold; (try dsimp only)) | (k_end; wrow_close) | ((with_reducible show wpAny _ _ (pyIter (Value.ref _)) (CompPost _ _ _ _ _ _ _ _ _) _ _); refine WStop.out ?_) | (k_here; (with_reducible show wpAny _ _ (call (Value.ref 805) _) _ _ _); refine WStop.out ?_) | ((with_reducible show wpAny _ _ (pyIter (Value.ref _)) (fun it s₂ => LoopAtV _ _ _ _ _ _ _ _ _ it s₂) _ _); (rename Fr _ _ _ _ => lFww); (rename News _ _ _ _ => lNww); (with_unfolding_all refine iter_rangeUnr (by rfl) (by assumption) (And.right (range_up0 (by lia))) (And.left (range_up0 (by lia))) lFww lNww ?_); clear lFww lNww; intro _ _) | walk1)
        (rename News _ _ _ _ => NE)
        (rename Fr _ _ _ _ => FE)
        have hy8 : ys8.length < 1000 := by
          have h1 := hv8.length
          have h2 := List.length_filter_le (fun a => decide ((1 : Int) < a)) ((colsAt (reachedL rows) j).map Int.ofNat)
          simp only [List.length_map] at h1 h2
          lia
        refine add_one FE NE (by k_mem) (by k_mem) hy8 ?_
        intro D9 h9 F10 N11 l11
        clear NE FE
        repeat' (first | ((with_reducible refine q_out (by assumption) ?_); (try dsimp only)) | ((fail_if_success (with_reducible refine q_chk (by assumption) ?_)); (with_reducible refine q_abs ?_); intro _ _) | (k_unfold; (try dsimp only)) | (k_end; wrow_close) | ((with_reducible show wpAny _ _ (pyIter (Value.ref _)) (CompPost _ _ _ _ _ _ _ _ _) _ _); refine WStop.out ?_) | (k_here; (with_reducible show wpAny _ _ (call (Value.ref 805) _) _ _ _); refine WStop.out ?_) | ((with_reducible show wpAny _ _ (pyIter (Value.ref _)) (fun it s₂ => LoopAtV _ _ _ _ _ _ _ _ _ it s₂) _ _); (rename Fr _ _ _ _ => lFww); (rename News _ _ _ _ => lNww); (with_unfolding_all refine iter_rangeUnr (by rfl) (by assumption) (And.right (range_up0 (by lia))) (And.left (range_up0 (by lia))) lFww lNww ?_); clear lFww lNww; intro _ _) | walk1)
        (rename News _ _ _ _ => NE)
        (rename Fr _ _ _ _ => FE)
        have hD9 : ∀ q : Addr × Obj, q ∈ (I1, itR (0 + ((j + 1 : Nat) : Int)) ((n : Int) - ((j + 1 : Nat) : Int))) :: (T1, PySem.W.listOf (tvs ++ [Value.ref U6]).toArray (et + 1)) :: [] → @LT.lt Nat _ q.1 D9 := fun q hq => l11 q (by
          (revert q; (repeat (refine all_cons ?_ ?_; (· repeat (first | (with_reducible exact List.mem_cons_self) | (with_reducible exact List.Mem.head _) | apply List.Mem.tail)))); intro q hq)
          (repeat (first | exact hq | exact absurd hq List.not_mem_nil | apply List.Mem.tail)))
        refine' UnrEnd.intro FE NE ((T1, PySem.W.listOf (tvs ++ [Value.ref U6]).toArray (et + 1)) :: (D9, PySem.W.listOf (ys8 ++ [Value.int ((((colsAt (reachedL rows) j).map Int.ofNat).length : Nat) : Int) (tk8 + 1)]).toArray 0) :: (U6, tupO D5) :: (D5, PySem.W.listOf ys5.toArray e5) :: tl) ?usub ?uoff ⟨D9, _, 0, tvs ++ [Value.ref U6], et + 1, (U6, tupO D5) :: (D5, PySem.W.listOf ys5.toArray e5) :: tl, _, mTO_step, rfl, ?u1, next_ints hv8, ?u3, ?u4, ?u5, ?u6, ?u7⟩
        case usub =>
          intro q hq
          (revert q; (repeat (refine all_cons ?_ ?_; (· repeat (first | (with_reducible exact List.mem_cons_self) | (with_reducible exact List.Mem.head _) | apply List.Mem.tail)))); intro q hq)
          (repeat (first | exact hq | exact absurd hq List.not_mem_nil | apply List.Mem.tail))
        case uoff =>
          intro q hq
          rcases mem4 hq with rfl | rfl | rfl | rfl | hq
          · exact Nat.ne_of_lt hTI
          · exact Nat.ne_of_gt (hD9 _ (.head _))
          · exact Nat.ne_of_gt l6.2.2.2.1
          · exact Ne.symm (hne5 (I1, itR (0 + ((j + 1 : Nat) : Int)) ((n : Int) - ((j + 1 : Nat) : Int))) (by simp))
          · exact ntI q hq
        case u1 =>
          rw [List.range_succ, List.map_append]
          exact ToldV.snoc (hT.mono fun q hq => .tail _ (.tail _ hq)) ⟨U6, D5, ys5, e5, rfl, .head _, .tail _ (.head _), hv5⟩
        case u3 => exact fun q hq => .tail _ (.tail _ (hsub q hq))
        case u4 => exact Nat.ne_of_gt (hD9 _ (.tail _ (.head _)))
        case u5 => exact Nat.ne_of_gt (hD9 _ (.head _))
        case u6 =>
          intro q hq
          rcases mem2 hq with rfl | rfl | hq
          · exact nU
          · exact nD
          · exact ntT q hq
        case u7 =>
          intro q hq
          rcases mem2 hq with rfl | rfl | hq
          · exact Nat.ne_of_gt l6.2.2.2.1
          · exact Ne.symm (hne5 (I1, itR (0 + ((j + 1 : Nat) : Int)) ((n : Int) - ((j + 1 : Nat) : Int))) (by simp))
          · exact ntI q hq
      case fz =>
        simp only [List.length_map]
        have hs : sizeLine = 16777216 := by first | rfl | exact sizeLine_eq
        lia
    case sz =>
      simp only [List.length_map]
      have := (reached_bd (b := 10 + j) hd1 hd2).1
      have hs : sizeLine = 16777216 := by first | rfl | exact sizeLine_eq
      lia
  case jz =>
    intro mp nw hI0
    refine goal_abs fun GP hGP => ?_
    obtain ⟨C, cv, ec, tvs, et, tl, tv, rfl, rfl, hT, hcv, hsub, nCT, nCI, ntT, ntI⟩ := hI0
    refine hGP ?_
    clear hGP
    intro h9 tk9 F9 N9
    repeat' (first | ((with_reducible refine q_out (by assumption) ?_); (try dsimp only)) | ((fail_if_success (with_reducible refine q_chk (by assumption) ?_)); (with_reducible refine q_abs ?_); intro _ _) | (k_unfold; (try dsimp only)) | (k_end; wrow_close) | ((with_reducible show wpAny _ _ (pyIter (Value.ref _)) (CompPost _ _ _ _ _ _ _ _ _) _ _); refine WStop.out ?_) | (k_here; (with_reducible show wpAny _ _ (call (Value.ref 805) _) _ _ _); refine WStop.out ?_) | ((with_reducible show wpAny _ _ (pyIter (Value.ref _)) (fun it s₂ => LoopAtV _ _ _ _ _ _ _ _ _ it s₂) _ _); (rename Fr _ _ _ _ => lFww); (rename News _ _ _ _ => lNww); (with_unfolding_all refine iter_rangeUnr (by rfl) (by assumption) (And.right (range_up0 (by lia))) (And.left (range_up0 (by lia))) lFww lNww ?_); clear lFww lNww; intro _ _) | walk1)
    (rename Fr h₀ _ _ _ => FE)
    (rename News h₀ _ _ _ => NE)
    refine ret _ _ _ _ _ _ ?_ FE NE (fun q hq => .tail _ (hsub q hq))
    rw [toldL_eq]
    exact hT.mono fun q hq => .tail _ hq
end Mine
end
section
open PySem PySem.W PyProof.Rows
set_option Elab.async false
set_option maxRecDepth 100000
set_option maxHeartbeats 8000000
namespace Mine
section
variable {prog : Program} {w : World} {A : Around} {E : Value → Shared → Prop} {s : Shared} {h₀ : Heap} {L : Addr} {m : Str → Option Value} {env : Env}
noncomputable def RestEnd (h₀ : Heap) (L : Addr) (m : Str → Option Value) (s : Shared) (news : List (Addr × Obj)) (M : Value → Prop) (y : Value) (s' : Shared) : Prop :=
  ∃ h' tk', s' = { s with heap := h', toks := tk' } ∧ Fr h₀ L h' m ∧ News h₀ L h' news ∧ M y
/-- a comprehension's turns by an induction of one's own -/
theorem rest_ind {elt : PySem.Expr} {x : Str} {scope : Scope} {cl : List (Str × Addr)} {S : List (Addr × Obj) → Prop} {P : Nat → Value → Prop} {Fin : List Value → List (Addr × Obj) → Prop} {n : Nat} {news : List (Addr × Obj)} (M : Nat → List Value → Prop) (hS : S news) (h0 : M 0 [])
    (step : ∀ i ys v I oI C oC D m₂ h tk (E' : Value → Shared → Prop), i < n → M i ys → P i v → LCg.NsObj oC m₂ → m₂ x = some v → Fr h₀ L h m → News h₀ L h ((I, oI) :: (C, oC) :: (D, LCg.lst ys) :: news) → LCg.Off3 I C D news →
      wpAny (model prog w) A (eval elt (compEnvC scope cl C env)) (RestEnd h₀ L m s ((I, oI) :: (C, oC) :: (D, LCg.lst ys) :: news) (fun y => M (i + 1) (ys ++ [y]))) E' { s with heap := h, toks := tk })
    (fin : ∀ ys, M n ys → Fin ys news) : ∀ j i ys, i + j = n → M i ys → LCg.CompRest prog w A h₀ L m env elt x scope cl s S P Fin j i ys news := by
  intro j
  induction j with
  | zero =>
    intro i ys hi hy
    obtain rfl : i = n := by lia
    exact LCg.CompRest.zero (fin ys hy)
  | succ j ih =>
    intro i ys hi hy
    refine LCg.CompRest.succ fun v I oI C oC D m₂ h tk E' hv hC hx F N off ne => ?_
    refine wpAny_mono (step i ys v I oI C oC D m₂ h tk E' (by lia) hy hv hC hx F N off) (fun y s₂ hq => ?_) fun _ _ e => e
    obtain ⟨h', tk', e, F', N', hM⟩ := hq
    exact ⟨h', tk', news, e, F', N', off, hS, ih (i + 1) _ (by lia) hM⟩
end
local macro_rules | `(tactic| walk_at "CompSrc") => `(tactic| refine WStop.out ?_)
theorem more_spec : ∀ {w : World} {dp un : Nat} {gd : Option (List Code)} {cn : Str} {cs : Scope} {a : Addr} {ccd : Value} {cl : List (Str × Addr)} {outer : List Env} {A₀ : Around} {base h₀ : Heap} {L : Addr} {m : Str → Option Value} {s : Shared} {Q E : Value → Shared → Prop} {p : Program} {loose : List Str} {mean : ExcName → Option Value} {mg mb : Str → Option Value}
   (_B : Below A₀ base outer h₀) (_F : Fr h₀ L s.heap m) (_X : (fragK.heap_1 w.params).In h₀) (_T : Top p loose mean mg mb h₀) (_hk : cs.kind = .function)
   {D : Addr} {vs : List Value} {ep : Nat} {rows : List Nat} {n : Nat} {tn : Tok} {news : List (Addr × Obj)} (_N : News h₀ L s.heap ((D, PySem.W.listOf vs.toArray ep) :: news))
   (_hi : RowsV vs rows) (_hl : rows.length ≤ 20) (_hm : ∀ x ∈ rows, x ≤ 20) (_hn : n ≤ 10) (_BF : BFacts w base p loose mean mg mb) (_KD : KtsDicts (outer.filterMap (·.frame)) h₀)
   (_hd : dp + 12 < recursionLimit) (_hu : un + 160 < cLine)
   (_ret : ∀ (D' : Addr) (vs' : List Value) (ep' : Nat) (h' : Heap) (tk' : Nat), IntsAre vs' (moreL rows n) → Fr h₀ L h' m → News h₀ L h' ((D', PySem.W.listOf vs'.toArray ep') :: (D, PySem.W.listOf vs.toArray ep) :: news) → Q (.ref D') { s with heap := h', toks := tk' }),
   wpAny (model PySem.Challenge.rw_kt0066_01.row.prog w) (ktrTop dp un gd cn cs L a ccd cl outer) (call (.ref 815) [.ref D, .int n tn]) Q E s := by
  k_fill
  intro w dp un gd cn cs a ccd cl outer A₀ base h₀ L m s Q E p loose mean mg mb B F X T hk D vs ep rows n tn news N hi hl hm hn BF KD hd hu ret
  refine wpAny_call ?_
  (refine' codeE_cellsS (g₀ := h₀) (binds := [(S "rows", .ref D), (S "size", .int n tn)]) ?k1 ?k2 ?k3 ?k4 ?k5 ?XB ?TB ?D ?T0 ?kA ?kF ?kK ?k6 ?k7 ?k8 ?k9 ?kB ?kD ?_ ?c2 ?c3 ?c4; (case kA => exact rfl); (case kF => exact rfl); (case kK => assumption); (case k2 => k_asm); (case k1 => k_asm); (case XB => exact BF.X); (case TB => exact BF.T); (case D => assumption); (case T0 => exact KtsTurn.refl); (case k3 => k_asm); (case k4 => k_asm); (case k5 => k_asm); (case k6 => k_is); (case k7 => k_is); (case k8 => ktr_room); (case k9 => first | exact BindsTo.of_eq rfl | exact binds_K (X.keeps F.keep) rfl (by k_is) rfl rfl rfl); (case kB => exact rfl); (case kD => decide +kernel); (case c2 => exact rfl); (case c3 => exact rfl); (case c4 => exact rfl); k_whole; intro g' L' h' tk' cells' FG' F' N' Y' B' X' T' l1 D'; (try k_lt l1); k_cells Y'; (try simp only [List.cons_append, List.nil_append] at N'); (try dsimp only); (try k_lift B'); (try k_fold))
  replace F' : Fr g' L' h' (fun y => if y = S "rows" then some (.ref D) else none) := F'
  repeat' (first | (k_unfold; (try dsimp only)) | (k_end; wrow_close) | (k_here; (with_reducible show wpAny _ _ (binaryOp _ (Value.ref _) (Value.ref _)) _ _ _); k_dflt (refine kmk_add_lit (by k_asm) (by k_asm) (by kmk_list) (by kmk_list) (by exact rfl) ?_ (by (rw [sizeLine_eq]; simp; lia))); intro _ _ _ _ l1ww; (try k_lt l1ww); (try k_sweep); (revert l1ww; intro _)) | (k_here; (with_reducible show wpAny _ _ (binaryOp Operator.Mult (Value.ref _) (Value.int _ _)) _ _ _); k_dflt (refine KMa.mul (by k_asm) (by k_asm) (by is_list) (by lia) (by lia) (by (simp only [List.length_cons, List.length_nil]; lia)) (by exact one_flat _ _) ?_; k_whole); intro _ _ _ _ l1ww; (try k_lt l1ww); (try k_sweep); (revert l1ww; intro _)) | ((with_reducible show wpAny _ _ (call (Value.builtin "len") _) _ _ _); (k_here; k_dflt ((fail_if_success (fail_if_success (refine' len_rows ?_ ?_ ?_ ?_ ?_))); refine len_rows (by k_asm) (by k_mem) (by assumption) (by lia) ?_; k_whole); intro _ _)) | (k_here; (with_reducible show wpAny _ _ (call _ [Value.str (dotsS _) _]) _ _ _); refine len_dots (by lia) ?_) | ((with_reducible show wpAny _ _ (eval (Expr.ListComp _ _ _) _) _ _ _); (k_here; k_dflt (refine LCg.ListComp_U (F₀ := by k_asm) (by with_unfolding_all rfl) (by decide) (by rfl) (by decide) (by rfl) ?_))) | walk1)
  unfold WStop
  rename_i o1 o2 d1 d2
  replace d2 : o2.data = Data.cell (some (.int n tn)) := d2
  replace d1 : o1.data = Data.cell none := d1
  have hvl : vs.length = rows.length := hi.length
  refine LCg.CompSrc.ledger (by rfl) F' N' (by k_mem) (by rw [sizeLine_eq]; simp; lia) ?_
  intro gz
  refine rest_ind (fun i ys => IntsAre ys ((rows.take i).map Int.ofNat)) (.inr ⟨_, by k_mem, rfl, _, rfl⟩) .nil ?rs ?rf _ 0 [] (Nat.add_zero _) .nil
  case rs =>
    intro i ys v I oI C oC D9 m₂ h9 tk9 E9 hi9 hM hP hC hx F9 N9 off
    replace hi9 : i < rows.length := by simpa [hvl] using hi9
    obtain ⟨tv, hv⟩ := hi.get i hi9
    have e : v = .str (dotsS (rows.getD i 0)) tv := by
      have h1 : vs[i]? = some v := by simpa using hP
      exact Option.some.inj (h1.symm.trans hv)
    subst e
    obtain ⟨x, hx9⟩ : ∃ x, rows.getD i 0 = x := ⟨_, rfl⟩
    have hxm : x ≤ 20 := by rw [← hx9]; exact getD_le hm i
    rw [hx9] at hx
    repeat' (first | (k_unfold; (try dsimp only)) | (k_end; wrow_close) | (k_here; (with_reducible show wpAny _ _ (binaryOp _ (Value.ref _) (Value.ref _)) _ _ _); k_dflt (refine kmk_add_lit (by k_asm) (by k_asm) (by kmk_list) (by kmk_list) (by exact rfl) ?_ (by (rw [sizeLine_eq]; simp; lia))); intro _ _ _ _ l1ww; (try k_lt l1ww); (try k_sweep); (revert l1ww; intro _)) | (k_here; (with_reducible show wpAny _ _ (binaryOp Operator.Mult (Value.ref _) (Value.int _ _)) _ _ _); k_dflt (refine KMa.mul (by k_asm) (by k_asm) (by is_list) (by lia) (by lia) (by (simp only [List.length_cons, List.length_nil]; lia)) (by exact one_flat _ _) ?_; k_whole); intro _ _ _ _ l1ww; (try k_lt l1ww); (try k_sweep); (revert l1ww; intro _)) | ((with_reducible show wpAny _ _ (call (Value.builtin "len") _) _ _ _); (k_here; k_dflt ((fail_if_success (fail_if_success (refine' len_rows ?_ ?_ ?_ ?_ ?_))); refine len_rows (by k_asm) (by k_mem) (by assumption) (by lia) ?_; k_whole); intro _ _)) | (k_here; (with_reducible show wpAny _ _ (call _ [Value.str (dotsS _) _]) _ _ _); refine len_dots (by lia) ?_) | ((with_reducible show wpAny _ _ (eval (Expr.ListComp _ _ _) _) _ _ _); (k_here; k_dflt (refine LCg.ListComp_U (F₀ := by k_asm) (by with_unfolding_all rfl) (by decide) (by rfl) (by decide) (by rfl) ?_))) | walk1)
    refine ⟨_, _, rfl, F9, N9, ?_⟩
    have e3 : rows.take (i + 1) = rows.take i ++ [x] := by
      rw [List.take_succ_eq_append_getElem hi9, ← hx9, List.getD_eq_getElem?_getD, List.getElem?_eq_getElem hi9]
      rfl
    rw [e3, List.map_append]
    exact hM.append (.cons _ _ .nil)
  case rf =>
    intro ys hM
    replace hM : IntsAre ys (rows.map Int.ofNat) := by
      have e4 : Nat.add 0 vs.toArray.size = rows.length := by show 0 + vs.toArray.size = _; simp [hvl]
      rw [e4, List.take_length] at hM
      exact hM
    have hyl : ys.length = rows.length := by simpa using hM.length
    intro D9 h9 tk9 F9 N9 off9
    repeat' (first | (k_unfold; (try dsimp only)) | (k_end; wrow_close) | (k_here; (with_reducible show wpAny _ _ (binaryOp _ (Value.ref _) (Value.ref _)) _ _ _); k_dflt (refine kmk_add_lit (by k_asm) (by k_asm) (by kmk_list) (by kmk_list) (by exact rfl) ?_ (by (rw [sizeLine_eq]; simp; lia))); intro _ _ _ _ l1ww; (try k_lt l1ww); (try k_sweep); (revert l1ww; intro _)) | (k_here; (with_reducible show wpAny _ _ (binaryOp Operator.Mult (Value.ref _) (Value.int _ _)) _ _ _); k_dflt (refine KMa.mul (by k_asm) (by k_asm) (by is_list) (by lia) (by lia) (by (simp only [List.length_cons, List.length_nil]; lia)) (by exact one_flat _ _) ?_; k_whole); intro _ _ _ _ l1ww; (try k_lt l1ww); (try k_sweep); (revert l1ww; intro _)) | ((with_reducible show wpAny _ _ (call (Value.builtin "len") _) _ _ _); (k_here; k_dflt ((fail_if_success (fail_if_success (refine' len_rows ?_ ?_ ?_ ?_ ?_))); refine len_rows (by k_asm) (by k_mem) (by assumption) (by lia) ?_; k_whole); intro _ _)) | (k_here; (with_reducible show wpAny _ _ (call _ [Value.str (dotsS _) _]) _ _ _); refine len_dots (by lia) ?_) | ((with_reducible show wpAny _ _ (eval (Expr.ListComp _ _ _) _) _ _ _); (k_here; k_dflt (refine LCg.ListComp_U (F₀ := by k_asm) (by with_unfolding_all rfl) (by decide) (by rfl) (by decide) (by rfl) ?_))) | walk1)
    (rename News _ _ _ _ => NE)
    (rename Fr _ _ _ _ => FE)
    rename_i q1 q2 q3 q4 q5 q6 q7 q8 LD q9 lD
    have hz1 : IntsAre (ys ++ List.replicate (n - rows.length) (Value.int 0 tk9)) ((rows ++ List.replicate (n - rows.length) 0).map Int.ofNat) := by
      rw [List.map_append]
      refine hM.append ?_
      rw [List.map_replicate]
      generalize n - rows.length = k
      induction k with
      | zero => exact .nil
      | succ k ih => exact .cons 0 _ ih
    have ez : ((n : Int) - (rows.length : Int)).toNat = n - rows.length := tn_sub _ _
    rw [ez] at NE
    obtain ⟨zs, hzs⟩ : ∃ zs, ys ++ List.replicate (n - rows.length) (Value.int 0 tk9) = zs := ⟨_, rfl⟩
    rw [hzs] at hz1
    have hzl : zs.length = rows.length + (n - rows.length) := by rw [← hzs]; simp [hyl]
    have N5 := news_sub (l' := (L' + 1 + 1, o1) :: (LD, PySem.W.listOf zs.toArray 0) :: (L' + 1, o2) :: (D, PySem.W.listOf vs.toArray ep) :: news) NE (by
      intro q hq
      rw [← hzs] at hq
      (revert q; (repeat (refine all_cons ?_ ?_; (· repeat (first | (with_reducible exact List.mem_cons_self) | (with_reducible exact List.Mem.head _) | apply List.Mem.tail)))); intro q hq)
      (repeat (first | exact hq | exact absurd hq List.not_mem_nil | apply List.Mem.tail)))
    clear NE
    refine storeX_C (o := o1) (v₀ := none) FE N5 rfl (UpdF.head ?_) d1 ?_ rfl rfl
    · intro q hq
      rcases mem3 hq with rfl | rfl | rfl | hq
      · exact Nat.ne_of_gt lD.2.2.2.1
      · exact Nat.ne_of_lt (Nat.lt_succ_self (L' + 1))
      · exact Nat.ne_of_lt (Nat.lt_succ_of_lt (Nat.lt_succ_of_lt l1.1))
      · exact Nat.ne_of_lt (Nat.lt_succ_of_lt (Nat.lt_succ_of_lt (ktn_ltOf l1.2 q hq)))
    intro h5 o3 F6 N6 d3
    clear N5 FE
    repeat' (first | (k_unfold; (try dsimp only)) | (k_end; wrow_close) | (k_here; (with_reducible show wpAny _ _ (binaryOp _ (Value.ref _) (Value.ref _)) _ _ _); k_dflt (refine kmk_add_lit (by k_asm) (by k_asm) (by kmk_list) (by kmk_list) (by exact rfl) ?_ (by (rw [sizeLine_eq]; simp; lia))); intro _ _ _ _ l1ww; (try k_lt l1ww); (try k_sweep); (revert l1ww; intro _)) | (k_here; (with_reducible show wpAny _ _ (binaryOp Operator.Mult (Value.ref _) (Value.int _ _)) _ _ _); k_dflt (refine KMa.mul (by k_asm) (by k_asm) (by is_list) (by lia) (by lia) (by (simp only [List.length_cons, List.length_nil]; lia)) (by exact one_flat _ _) ?_; k_whole); intro _ _ _ _ l1ww; (try k_lt l1ww); (try k_sweep); (revert l1ww; intro _)) | ((with_reducible show wpAny _ _ (call (Value.builtin "len") _) _ _ _); (k_here; k_dflt ((fail_if_success (fail_if_success (refine' len_rows ?_ ?_ ?_ ?_ ?_))); refine len_rows (by k_asm) (by k_mem) (by assumption) (by lia) ?_; k_whole); intro _ _)) | (k_here; (with_reducible show wpAny _ _ (call _ [Value.str (dotsS _) _]) _ _ _); refine len_dots (by lia) ?_) | ((with_reducible show wpAny _ _ (eval (Expr.ListComp _ _ _) _) _ _ _); (k_here; k_dflt (refine LCg.ListComp_U (F₀ := by k_asm) (by with_unfolding_all rfl) (by decide) (by rfl) (by decide) (by rfl) ?_))) | walk1)
    obtain ⟨z, hz⟩ : ∃ z, zs.length = z := ⟨_, rfl⟩
    have hz100 : z ≤ 100 := by lia
    have e6 : ((zs.toArray.size : Nat) : Int) = (z : Int) := by rw [List.size_toArray, hz]
    refine len_list (PySem.IsL.isList (n := 0) (N6 (LD, PySem.W.listOf zs.toArray 0) (by simp)).1) (by rw [e6]; lia) ?_
    rw [e6]
    repeat' (first | (k_unfold; (try dsimp only)) | (k_end; wrow_close) | (k_here; (with_reducible show wpAny _ _ (binaryOp _ (Value.ref _) (Value.ref _)) _ _ _); k_dflt (refine kmk_add_lit (by k_asm) (by k_asm) (by kmk_list) (by kmk_list) (by exact rfl) ?_ (by (rw [sizeLine_eq]; simp; lia))); intro _ _ _ _ l1ww; (try k_lt l1ww); (try k_sweep); (revert l1ww; intro _)) | (k_here; (with_reducible show wpAny _ _ (binaryOp Operator.Mult (Value.ref _) (Value.int _ _)) _ _ _); k_dflt (refine KMa.mul (by k_asm) (by k_asm) (by is_list) (by lia) (by lia) (by (simp only [List.length_cons, List.length_nil]; lia)) (by exact one_flat _ _) ?_; k_whole); intro _ _ _ _ l1ww; (try k_lt l1ww); (try k_sweep); (revert l1ww; intro _)) | ((with_reducible show wpAny _ _ (call (Value.builtin "len") _) _ _ _); (k_here; k_dflt ((fail_if_success (fail_if_success (refine' len_rows ?_ ?_ ?_ ?_ ?_))); refine len_rows (by k_asm) (by k_mem) (by assumption) (by lia) ?_; k_whole); intro _ _)) | (k_here; (with_reducible show wpAny _ _ (call _ [Value.str (dotsS _) _]) _ _ _); refine len_dots (by lia) ?_) | ((with_reducible show wpAny _ _ (eval (Expr.ListComp _ _ _) _) _ _ _); (k_here; k_dflt (refine LCg.ListComp_U (F₀ := by k_asm) (by with_unfolding_all rfl) (by decide) (by rfl) (by decide) (by rfl) ?_))) | walk1)
    unfold WStop
    rename_i hr7 F7 N7 hk7
    obtain ⟨al, hal⟩ : ∃ al, rows ++ List.replicate (n - rows.length) 0 = al := ⟨_, rfl⟩
    rw [hal] at hz1
    have hzal : z = al.length := by rw [← hz, hz1.length]; simp
    have halm : ∀ x ∈ al, x ≤ 20 := by
      intro x hx
      rw [← hal] at hx
      rcases List.mem_append.mp hx with hx | hx
      · exact hm x hx
      · rw [(List.mem_replicate.mp hx).2]; exact Nat.zero_le _
    refine LCg.CompSrc.range (n := z) (by rfl) F7 N7 hr7 (range_up0 (by lia)).2 (range_up0 (by lia)).1 (by rw [sizeLine_eq]; lia) ?_
    intro gy
    refine rest_ind (fun i ys => IntsAre ys ((moreL rows n).take i)) True.intro .nil ?ss ?sf _ 0 [] (Nat.add_zero _) .nil
    case ss =>
      intro i ys v I oI C oC D8 m₂ h8 tk8 E8 hi8 hM8 hP hC hx F8 N8 off
      obtain ⟨tv, rfl⟩ := hP
      obtain ⟨x, hx8⟩ : ∃ x, al.getD i 0 = x := ⟨_, rfl⟩
      have hxm : x ≤ 20 := by rw [← hx8]; exact getD_le halm i
      repeat' (first | (k_unfold; (try dsimp only)) | (k_end; wrow_close) | (k_here; (with_reducible show wpAny _ _ (binaryOp _ (Value.ref _) (Value.ref _)) _ _ _); k_dflt (refine kmk_add_lit (by k_asm) (by k_asm) (by kmk_list) (by kmk_list) (by exact rfl) ?_ (by (rw [sizeLine_eq]; simp; lia))); intro _ _ _ _ l1ww; (try k_lt l1ww); (try k_sweep); (revert l1ww; intro _)) | (k_here; (with_reducible show wpAny _ _ (binaryOp Operator.Mult (Value.ref _) (Value.int _ _)) _ _ _); k_dflt (refine KMa.mul (by k_asm) (by k_asm) (by is_list) (by lia) (by lia) (by (simp only [List.length_cons, List.length_nil]; lia)) (by exact one_flat _ _) ?_; k_whole); intro _ _ _ _ l1ww; (try k_lt l1ww); (try k_sweep); (revert l1ww; intro _)) | ((with_reducible show wpAny _ _ (call (Value.builtin "len") _) _ _ _); (k_here; k_dflt ((fail_if_success (fail_if_success (refine' len_rows ?_ ?_ ?_ ?_ ?_))); refine len_rows (by k_asm) (by k_mem) (by assumption) (by lia) ?_; k_whole); intro _ _)) | (k_here; (with_reducible show wpAny _ _ (call _ [Value.str (dotsS _) _]) _ _ _); refine len_dots (by lia) ?_) | ((with_reducible show wpAny _ _ (eval (Expr.ListComp _ _ _) _) _ _ _); (k_here; k_dflt (refine LCg.ListComp_U (F₀ := by k_asm) (by with_unfolding_all rfl) (by decide) (by rfl) (by decide) (by rfl) ?_))) | walk1)
      replace hi8 : i < z := by have e4 : Nat.add 0 z = z := Nat.zero_add _; rw [e4] at hi8; exact hi8
      have hil : i < zs.length := by lia
      obtain ⟨kx, tx, ex, hkx⟩ := IntsAre.at hz1 i zs[i] (List.getElem?_eq_getElem hil)
      have hax : al[i]? = some x := by rw [List.getElem?_eq_getElem (by lia), ← hx8, List.getD_eq_getElem?_getD, List.getElem?_eq_getElem (by lia)]; rfl
      have ekx : kx = (x : Int) := by
        rw [List.getElem?_map, hax] at hkx
        exact (Option.some.inj hkx).symm
      subst ekx
      have hlD : h8.IsList LD zs.toArray := PySem.IsL.isList (n := 0) (N8 (LD, PySem.W.listOf zs.toArray 0) (by simp)).1
      have ei : (0 + (i : Int)).toNat = i := tn_0 i
      have hgx : zs.toArray[(0 + (i : Int)).toNat]? = some (.int (x : Int) tx) := by rw [ei, ← ex]; simp [hil]
      refine tail_any hlD.typeIs slot_list_getitem.lookup (wpAny_getItem_list hlD (by lia) (by lia) hgx ?_) (by with_unfolding_all rfl)
      repeat' (first | (k_unfold; (try dsimp only)) | (k_end; wrow_close) | (k_here; (with_reducible show wpAny _ _ (binaryOp _ (Value.ref _) (Value.ref _)) _ _ _); k_dflt (refine kmk_add_lit (by k_asm) (by k_asm) (by kmk_list) (by kmk_list) (by exact rfl) ?_ (by (rw [sizeLine_eq]; simp; lia))); intro _ _ _ _ l1ww; (try k_lt l1ww); (try k_sweep); (revert l1ww; intro _)) | (k_here; (with_reducible show wpAny _ _ (binaryOp Operator.Mult (Value.ref _) (Value.int _ _)) _ _ _); k_dflt (refine KMa.mul (by k_asm) (by k_asm) (by is_list) (by lia) (by lia) (by (simp only [List.length_cons, List.length_nil]; lia)) (by exact one_flat _ _) ?_; k_whole); intro _ _ _ _ l1ww; (try k_lt l1ww); (try k_sweep); (revert l1ww; intro _)) | ((with_reducible show wpAny _ _ (call (Value.builtin "len") _) _ _ _); (k_here; k_dflt ((fail_if_success (fail_if_success (refine' len_rows ?_ ?_ ?_ ?_ ?_))); refine len_rows (by k_asm) (by k_mem) (by assumption) (by lia) ?_; k_whole); intro _ _)) | (k_here; (with_reducible show wpAny _ _ (call _ [Value.str (dotsS _) _]) _ _ _); refine len_dots (by lia) ?_) | ((with_reducible show wpAny _ _ (eval (Expr.ListComp _ _ _) _) _ _ _); (k_here; k_dflt (refine LCg.ListComp_U (F₀ := by k_asm) (by with_unfolding_all rfl) (by decide) (by rfl) (by decide) (by rfl) ?_))) | walk1)
      refine ⟨_, _, rfl, F8, N8, ?_⟩
      have hmi : (moreL rows n)[i]? = some ((x : Int) - ((n : Int) - 1 - (0 + (i : Int)))) := by
        rw [moreL, hal, List.getElem?_map, List.getElem?_zipIdx, hax]
        simp
      rw [List.take_add_one, hmi]
      exact hM8.append (.cons _ _ .nil)
    case sf =>
      intro ys hM9
      replace hM9 : IntsAre ys (moreL rows n) := by
        have e4 : (moreL rows n).length ≤ z := by rw [moreL, hal, hzal]; simp
        rw [List.take_of_length_le (by simpa using e4)] at hM9
        exact hM9
      intro D8 h8 tk8 F8 N8 off8
      repeat' (first | (k_unfold; (try dsimp only)) | (k_end; wrow_close) | (k_here; (with_reducible show wpAny _ _ (binaryOp _ (Value.ref _) (Value.ref _)) _ _ _); k_dflt (refine kmk_add_lit (by k_asm) (by k_asm) (by kmk_list) (by kmk_list) (by exact rfl) ?_ (by (rw [sizeLine_eq]; simp; lia))); intro _ _ _ _ l1ww; (try k_lt l1ww); (try k_sweep); (revert l1ww; intro _)) | (k_here; (with_reducible show wpAny _ _ (binaryOp Operator.Mult (Value.ref _) (Value.int _ _)) _ _ _); k_dflt (refine KMa.mul (by k_asm) (by k_asm) (by is_list) (by lia) (by lia) (by (simp only [List.length_cons, List.length_nil]; lia)) (by exact one_flat _ _) ?_; k_whole); intro _ _ _ _ l1ww; (try k_lt l1ww); (try k_sweep); (revert l1ww; intro _)) | ((with_reducible show wpAny _ _ (call (Value.builtin "len") _) _ _ _); (k_here; k_dflt ((fail_if_success (fail_if_success (refine' len_rows ?_ ?_ ?_ ?_ ?_))); refine len_rows (by k_asm) (by k_mem) (by assumption) (by lia) ?_; k_whole); intro _ _)) | (k_here; (with_reducible show wpAny _ _ (call _ [Value.str (dotsS _) _]) _ _ _); refine len_dots (by lia) ?_) | ((with_reducible show wpAny _ _ (eval (Expr.ListComp _ _ _) _) _ _ _); (k_here; k_dflt (refine LCg.ListComp_U (F₀ := by k_asm) (by with_unfolding_all rfl) (by decide) (by rfl) (by decide) (by rfl) ?_))) | walk1)
      (rename Fr h₀ _ _ _ => FE)
      (rename News h₀ _ _ _ => NE)
      refine ret D8 ys ys.length h8 tk8 hM9 FE (news_sub NE (fun q hq => ?_))
      (revert q; (repeat (refine all_cons ?_ ?_; (· repeat (first | (with_reducible exact List.mem_cons_self) | (with_reducible exact List.Mem.head _) | apply List.Mem.tail)))); intro q hq)
      (repeat (first | exact hq | exact absurd hq List.not_mem_nil | apply List.Mem.tail))
end Mine
end
section
open PySem PySem.W PyProof.Rows PySem.Calls
set_option Elab.async false
set_option maxRecDepth 100000
set_option maxHeartbeats 800000
namespace Mine
structure Cl (h₀ : Heap) (L P : Addr) (m : PySem.Str → Option Value) (h : Heap) (led : List (Addr × Obj)) (ps : Array Value) (news : List (Addr × Obj)) : Prop where
  fr : Fr h₀ L h m
  nw : News h₀ L h (led ++ (P, tabObj ps) :: news)
  ord : (led.map (·.1)).Pairwise (· ≠ ·)
  abv : ∀ q ∈ (P, tabObj ps) :: news, ∀ r ∈ led, q.1 < r.1
  off : ∀ q ∈ news, q.1 ≠ P
section
variable {prog : Program} {w : World} {A : Around} {α : Type} {Q : α → Shared → Prop} {E : Value → Shared → Prop} {s : Shared} {h₀ h : Heap} {L P a : Addr} {m : PySem.Str → Option Value} {led news : List (Addr × Obj)} {ps : Array Value} {o : Obj}
theorem Cl.start (F : Fr h₀ L h m) (N : News h₀ L h ((P, tabObj ps) :: news)) (hoff : ∀ q ∈ news, q.1 ≠ P) : Cl h₀ L P m h [] ps news := ⟨F, N, .nil, fun _ _ _ hr => (nomatch hr), hoff⟩
theorem Cl.at (D : Cl h₀ L P m h led ps news) (i : Nat) (hi : led[i]? = some (a, o)) : h.get? a = some o := (D.nw _ (List.mem_append_left _ (List.mem_of_getElem? hi))).1
theorem Cl.tab (D : Cl h₀ L P m h led ps news) : h.get? P = some (tabObj ps) := (D.nw (P, tabObj ps) (List.mem_append_right _ (.head _))).1
theorem Cl.tail (D : Cl h₀ L P m h led ps news) (i : Nat) (hi : news[i]? = some (a, o)) : h.get? a = some o := (D.nw _ (List.mem_append_right _ (.tail _ (List.mem_of_getElem? hi)))).1
theorem Cl.old (D : Cl h₀ L P m h led ps news) (e : h₀.get? a = some o) : h.get? a = some o := D.fr.keep _ _ e
theorem Cl.push (D : Cl h₀ L P m h led ps news) (hf : o.isFreed = false) : Cl h₀ L P m (h.push o) ((h.objs.size, o) :: led) ps news := by
  refine ⟨D.fr.push o, D.nw.push D.fr o hf, ?_, fun q hq r hr => ?_, D.off⟩
  · refine List.Pairwise.cons (fun b hb => ?_) D.ord
    obtain ⟨p, hp, rfl⟩ := List.mem_map.mp hb
    exact Nat.ne_of_gt (Heap.lt_size (D.nw p (List.mem_append_left _ hp)).1)
  · rcases List.mem_cons.mp hr with rfl | hr
    · exact Heap.lt_size (D.nw q (List.mem_append_right _ hq)).1
    · exact D.abv q hq r hr
theorem cl_alloc {k : Addr → Sem α} (D : Cl h₀ L P m s.heap led ps news) (hf : o.isFreed = false) (hk : ∀ a h', Cl h₀ L P m h' ((a, o) :: led) ps news → wpAny (model prog w) A (k a) Q E { s with heap := h' }) :
    wpAny (model prog w) A (.alloc o k) Q E s := wpAny_bind (m := alloc o) (f := k) (wpAny_alloc (hk _ _ (D.push hf)))
theorem Cl.ne (D : Cl h₀ L P m h led ps news) (i j : Nat) {b : Addr} {o' : Obj} (hi : led[i]? = some (a, o)) (hj : led[j]? = some (b, o')) (ij : i < j) : a ≠ b := by
  obtain ⟨li, ei⟩ := List.getElem?_eq_some_iff.mp hi
  obtain ⟨lj, ej⟩ := List.getElem?_eq_some_iff.mp hj
  have q := (List.pairwise_iff_getElem.mp D.ord) i j (by rw [List.length_map]; exact li) (by rw [List.length_map]; exact lj) ij
  rw [List.getElem_map, List.getElem_map, ei, ej] at q
  exact q
theorem Cl.upd (D : Cl h₀ L P m h led ps news) (i : Nat) {f : Obj → Obj} {o' : Obj} (hi : led[i]? = some (a, o)) (e : f o = o') (hf : o'.isFreed = false) : Cl h₀ L P m (h.update a f) (led.set i (a, o')) ps news := by
  obtain ⟨hl, he⟩ := List.getElem?_eq_some_iff.mp hi
  have sp : led = led.take i ++ (a, o) :: led.drop (i + 1) := by rw [← he, ← List.drop_eq_getElem_cons hl, List.take_append_drop]
  have e2 : led.set i (a, o') = led.take i ++ (a, o') :: led.drop (i + 1) := List.set_eq_take_append_cons_drop.trans (if_pos hl)
  have ord' := D.ord
  rw [sp, List.map_append, List.map_cons] at ord'
  have p1 : ∀ p ∈ led.take i, p.1 ≠ a := fun p hp => ((List.pairwise_append.mp ord').2.2 p.1 (List.mem_map_of_mem hp) a (.head _))
  have p2 : ∀ p ∈ led.drop (i + 1) ++ (P, tabObj ps) :: news, p.1 ≠ a := fun p hp => by
    rcases List.mem_append.mp hp with hp | hp
    · exact Ne.symm ((List.pairwise_cons.mp (List.pairwise_append.mp ord').2.1).1 p.1 (List.mem_map_of_mem hp))
    · exact Nat.ne_of_lt (D.abv p hp (a, o) (List.mem_of_getElem? hi))
  have N := D.nw
  rw [sp, List.append_assoc, List.cons_append] at N
  obtain ⟨U1, U2⟩ := news_upd (f := f) D.fr N p1 p2 e hf
  refine ⟨U1, by rw [e2, List.append_assoc, List.cons_append]; exact U2, ?_, fun q hq r hr => ?_, D.off⟩
  · rw [e2, List.map_append, List.map_cons]; exact ord'
  · rw [e2] at hr
    rcases List.mem_append.mp hr with hr | hr
    · exact D.abv q hq r (List.mem_of_mem_take hr)
    · rcases List.mem_cons.mp hr with rfl | hr
      · exact D.abv q hq (a, o) (List.mem_of_getElem? hi)
      · exact D.abv q hq r (List.mem_of_mem_drop hr)
theorem cl_update {q : Option Value} {f : Obj → Obj} {k : Unit → Sem α} {o' : Obj} (D : Cl h₀ L P m s.heap led ps news) (i : Nat) (hi : led[i]? = some (a, o)) (e : f o = o') (hf : o'.isFreed = false)
    (hk : ∀ h', Cl h₀ L P m h' (led.set i (a, o')) ps news → wpAny (model prog w) A (k ()) Q E { s with heap := h' }) : wpAny (model prog w) A (.update a q f k) Q E s :=
  wpAny_bind (m := updatePart a q f) (f := k) (wpAny_updatePart (D.at i hi) (hk _ (D.upd i hi e hf)))
theorem Cl.drop (D : Cl h₀ L P m h led ps news) (l' : List (Addr × Obj)) (hs : l'.Sublist led) : Cl h₀ L P m h l' ps news :=
  ⟨D.fr, fun p hp => D.nw p (by rcases List.mem_append.mp hp with hp | hp; exact List.mem_append_left _ (hs.subset hp); exact List.mem_append_right _ hp), D.ord.sublist (hs.map _), fun q hq r hr => D.abv q hq r (hs.subset hr), D.off⟩
theorem Cl.split (D : Cl h₀ L P m h led ps news) (i : Nat) (hi : led[i]? = some (a, o)) : led = led.take i ++ (a, o) :: led.drop (i + 1) ∧ (∀ p ∈ led.take i, p.1 ≠ a) ∧ ∀ p ∈ led.drop (i + 1), p.1 ≠ a := by
  obtain ⟨hl, he⟩ := List.getElem?_eq_some_iff.mp hi
  have sp : led = led.take i ++ (a, o) :: led.drop (i + 1) := by rw [← he, ← List.drop_eq_getElem_cons hl, List.take_append_drop]
  have ord' := D.ord
  rw [sp, List.map_append, List.map_cons] at ord'
  exact ⟨sp, fun p hp => (List.pairwise_append.mp ord').2.2 p.1 (List.mem_map_of_mem hp) a (.head _), fun p hp => Ne.symm ((List.pairwise_cons.mp (List.pairwise_append.mp ord').2.1).1 p.1 (List.mem_map_of_mem hp))⟩
theorem Cl.grow {h' : Heap} {T f c' : Addr} {oc of oT oT' : Obj} (D : Cl h₀ L P m h led ps news) (i : Nat) (hi : led[i]? = some (T, oT)) (hx : Heap.ExtBut T h h') (hge : h.objs.size ≤ c') (hlt : c' < f) (hc : h'.get? c' = some oc) (hf : h'.get? f = some of) (htb : h'.get? T = some oT') :
    Cl h₀ L P m h' ((f, of) :: (c', oc) :: led.set i (T, oT')) ps news := by
  obtain ⟨hl, he⟩ := List.getElem?_eq_some_iff.mp hi
  obtain ⟨sp, p1, p2⟩ := D.split i hi
  have e2 : led.set i (T, oT') = led.take i ++ (T, oT') :: led.drop (i + 1) := List.set_eq_take_append_cons_drop.trans (if_pos hl)
  have mT : (T, oT) ∈ led := List.mem_of_getElem? hi
  have hm := D.nw (T, oT) (List.mem_append_left _ mT)
  have hLs : L < h.objs.size := D.fr.ns.lt
  have hLc : L < c' := Nat.lt_of_lt_of_le hLs hge
  have old : ∀ b o, h₀.get? b = some o → h'.get? b = some o := fun b o e => hx b o (fun q => by rw [q, hm.2.2] at e; cases e) (D.fr.keep b o e)
  have fresh : ∀ b, L < b → h₀.get? b = none := fun b hb => Heap.get?_none_of_le (Nat.le_trans D.fr.above (Nat.le_of_lt hb))
  have ltc : ∀ q ∈ led ++ (P, tabObj ps) :: news, q.1 < c' := fun q hq => Nat.lt_of_lt_of_le (Heap.lt_size (D.nw q hq).1) hge
  have mem2 : ∀ q ∈ led.set i (T, oT'), h'.get? q.1 = some q.2 ∧ ∃ o', (q.1, o') ∈ led := fun q hq => by
    rw [e2] at hq
    rcases List.mem_append.mp hq with hq | hq
    · have ml := List.mem_of_mem_take hq
      exact ⟨hx _ _ (p1 q hq) (D.nw q (List.mem_append_left _ ml)).1, q.2, ml⟩
    · rcases List.mem_cons.mp hq with rfl | hq
      · exact ⟨htb, oT, mT⟩
      · have ml := List.mem_of_mem_drop hq
        exact ⟨hx _ _ (p2 q hq) (D.nw q (List.mem_append_left _ ml)).1, q.2, ml⟩
  have keys : (led.set i (T, oT')).map (·.1) = led.map (·.1) := by
    rw [e2]
    conv => rhs; rw [sp]
    rw [List.map_append, List.map_append, List.map_cons, List.map_cons]
  refine ⟨⟨D.fr.ns.extBut hx hm.2.1.symm, old, D.fr.above⟩, fun q hq => ?_, ?_, fun q hq r hr => ?_, D.off⟩
  · rcases List.mem_append.mp hq with hq | hq
    · rcases List.mem_cons.mp hq with rfl | hq
      · exact ⟨hf, Nat.ne_of_gt (Nat.lt_trans hLc hlt), fresh _ (Nat.lt_trans hLc hlt)⟩
      · rcases List.mem_cons.mp hq with rfl | hq
        · exact ⟨hc, Nat.ne_of_gt hLc, fresh _ hLc⟩
        · obtain ⟨z, o', ml⟩ := mem2 q hq
          exact ⟨z, (D.nw _ (List.mem_append_left _ ml)).2⟩
    · have z := D.nw q (List.mem_append_right _ hq)
      exact ⟨hx _ _ (Nat.ne_of_lt (D.abv q hq _ mT)) z.1, z.2⟩
  · show (f :: c' :: (led.set i (T, oT')).map (·.1)).Pairwise (· ≠ ·)
    rw [keys]
    refine .cons (fun b hb => ?_) (.cons (fun b hb => ?_) D.ord)
    · rcases List.mem_cons.mp hb with rfl | hb
      · exact Nat.ne_of_gt hlt
      · obtain ⟨p, hp, rfl⟩ := List.mem_map.mp hb
        exact Nat.ne_of_gt (Nat.lt_trans (ltc p (List.mem_append_left _ hp)) hlt)
    · obtain ⟨p, hp, rfl⟩ := List.mem_map.mp hb
      exact Nat.ne_of_gt (ltc p (List.mem_append_left _ hp))
  · have hq' : q.1 < c' := ltc q (List.mem_append_right _ hq)
    rcases List.mem_cons.mp hr with rfl | hr
    · exact Nat.lt_trans hq' hlt
    · rcases List.mem_cons.mp hr with rfl | hr
      · exact hq'
      · obtain ⟨_, o', ml⟩ := mem2 r hr
        exact D.abv q hq (r.1, o') ml
end
end Mine
end
section
open PySem PySem.W PyProof.Rows PySem.Calls
set_option Elab.async false
set_option maxRecDepth 100000
set_option maxHeartbeats 800000
namespace Mine
set_option pp.deepTerms false
set_option pp.deepTerms.threshold 8
noncomputable def prepB : Obj := { cls := .type "builtin_function_or_method", data := .fields #[.builtin "type.__prepare__", .type "type"] }
theorem owner_prep : (kfb_private% "ownerAndName") "type.__prepare__" = ("type", "__prepare__") := by first | decide +kernel | kernel_rfl
theorem ty_prep : typeOf (.builtin "type.__prepare__") = pure (.type "classmethod_descriptor") := by show builtinType _ = _; rw [builtinType_eq_fast]; kernel_rfl
theorem ist_type : isType (.type "type") = pure true := by first | rfl | kernel_rfl | (unfold isType; rw [isSubtype_type]; kernel_rfl)
theorem sub_tt : isSubtype (.type "type") (.type "type") = pure true := by rw [isSubtype_type]; kernel_rfl
theorem entry_prep : entryFor table "type.__prepare__" = some Builtin.«type.__prepare__» := entryFor_of_tree (by kernel_rfl)
section
variable {prog : Program} {w : World} {A : Around} {E : Value → Shared → Prop} {s : Shared}
theorem run_prep {M : Model} {P : Fin → Shared → Prop} (h : P (.done (.ret (.ref s.heap.objs.size))) { s with heap := s.heap.push prepB }) :
    wpAny M A (Builtin.«classmethod_descriptor.__get__» ⟨[.builtin "type.__prepare__", .none, .type "type"], []⟩) P E s := by
  unfold Builtin.«classmethod_descriptor.__get__»
  refine wpAny_bind (wpAny_of_eq (a := (.builtin "type.__prepare__", none, some (.type "type"))) (by first | rfl | kernel_rfl) ?_)
  simp only [owner_prep]
  refine wpAny_bind (wpAny_of_eq (a := .type "type") rfl ?_)
  refine wpAny_bind (wpAny_of_eq (a := true) ist_type ?_)
  refine KFB.if_not rfl ?_
  refine wpAny_bind (wpAny_of_eq (a := true) sub_tt ?_)
  refine KFB.if_not rfl ?_
  exact wpAny_bind (wpAny_newObj_type (wpAny_pure h))
theorem cls_by {K : Frag} {c mc : Value} {name : PySem.Str} {tk : Tok} {r : CFound} {fill : Bool} {Q : Value → Shared → Prop} {hook : Option Value} (X : K.In s.heap) (ho : Looks (model prog w) s.heap (opaqueClassAbove c) none) (ht : Looks (model prog w) s.heap (typeOf c) mc)
    (hga : findIn K mc "__getattribute__" = some (some (.builtin "type.__getattribute__"))) (hb : Looks (model prog w) s.heap (hookBefore mc) hook) (hi : subIn K mc (.type "type") = some true) (e : findCls K c mc name = some r)
    (h : wpAny (model prog w) A.in1 r.run (fun fin s' => match fin with | .done (.ret v) => wpAny (model prog w) A (handedOut v) Q E s' | _ => False) (fun _ _ => False) s) :
    wpAny (model prog w) A (getAttrBy c (.str name tk) fill) Q E s := by
  refine wpAny_holding (wpAny_bind (ht _ _ _ _ (fun _ _ e => e) (wpAny_bind (looks_findIn X hga _ _ _ _ (fun _ _ e => e) ?_))))
  dsimp only
  rw [show (onTheHeap mc && Value.builtin "type.__getattribute__" == Value.builtin "object.__getattribute__") = false from by rw [show (Value.builtin "type.__getattribute__" == Value.builtin "object.__getattribute__") = false from by decide +kernel, Bool.and_false], if_neg (by decide)]
  refine wpAny_bind (hb _ _ _ _ (fun _ _ e => e) (wpAny_bind (wpAny_attempt (wpAny_holding ?_))))
  unfold callGetattribute
  rw [show (false && onTheHeap (Value.builtin "type.__getattribute__")) = false from rfl, if_neg (by decide)]
  unfold boundAndCalled
  rw [KF.slot_tga.bind]
  refine wpAny_bind (wpAny_pure ?_)
  show wpAny _ _ (call (.builtin "type.__getattribute__") [c, .str name tk]) _ _ _
  refine wpAny_call ?_
  refine codeAny_call_builtin KF.slot_tga.plain KF.entry_tga ?_
  refine @check_slot (model prog w) _ _ s "type.__getattribute__" "type" "__getattribute__" c [.str name tk] [] _ (by decide +kernel) (by decide +kernel) (ht.andThen (looks_subIn X hi)) (KF.args_tga c (.str name tk)) ?_
  refine tga_run X ho ht e (wpAny_mono h (fun fin s' z => ?_) fun _ _ z => z.elim)
  rcases fin with (_ | _ | _ | _) | _ <;> first | exact z | exact z.elim
theorem prep_get {K : Frag} {Q : Option Value → Shared → Prop} (X : K.In s.heap) (e : findCls K (.type "type") (.type "type") "__prepare__" = some (.get (.builtin "classmethod_descriptor.__get__") (.builtin "type.__prepare__") .none (.type "type")))
    (h : Q (some (.ref s.heap.objs.size)) { s with heap := s.heap.push prepB, toks := s.toks + 1 }) : wpAny (model prog w) A (getAttr? (.type "type") "__prepare__") Q E s := by
  have hstub : opaqueClassAbove (.type "type") = pure none := by unfold opaqueClassAbove; dsimp only; rw [show Manifest.isStub "type" = false by decide +kernel]; rfl
  have ht : typeOf (.type "type") = pure (.type "type") := by first | rfl | kernel_rfl
  have hg : findIn K (.type "type") "__getattribute__" = some (some (.builtin "type.__getattribute__")) := type_tga
  have hr : wpAny (model prog w) A.in1 (CFound.run (.get (.builtin "classmethod_descriptor.__get__") (.builtin "type.__prepare__") .none (.type "type"))) (fun fin s' => match fin with | .done (.ret v) => wpAny (model prog w) A (handedOut v) (fun v s' => Q (some v) s') (fun e s' => wpAny (model prog w) A (do if ← isInstance e (.type "AttributeError") then pure none else throw e) Q E s') s' | _ => False) (fun _ _ => False) { s with toks := s.toks + 1 } := by
    show wpAny _ _ (holding [.builtin "type.__prepare__"] (call (.builtin "classmethod_descriptor.__get__") [.builtin "type.__prepare__", .none, .type "type"]) >>= fun v => ret v) _ _ _
    exact wpAny_bind (wpAny_holding (wpAny_call_entry KFB.slot_get ty_prep KFB.entry_get (run_prep ⟨_, rfl, wpAny_pure (handed_on rfl h)⟩) (KFB.args_get _ _ _)))
  have g2 := cls_by (s := { s with toks := s.toks + 1 }) (tk := s.toks) (fill := false) X (Looks.of_pure hstub) (Looks.of_pure ht) hg (looks_hook X (r := none) (by rfl)) (by show subIn K _ _ = _; rfl) e hr
  exact wpAny_bind (wpAny_mkText (wpAny_bind (wpAny_attempt (wpAny_mono g2 (fun v s' h' => wpAny_pure h') fun e s' h' => h'))))
theorem prep_call {x : Addr} {n b : Value} {Q : Value → Shared → Prop} (hx : s.heap.get? x = some prepB) (h : Q (.ref s.heap.objs.size) { s with heap := s.heap.push emptyDict }) :
    wpAny (model prog w) A (call (.ref x) [n, b]) Q E s := by
  refine wpAny_call ?_
  refine codeAny_of_tree ?_
  show wpAny _ _ (callAny (.ref x) _) _ _ _
  refine nd_load hx ?_
  obtain ⟨hh, g, d, t, os⟩ := s
  dsimp only [prepB]
  repeat lk
  refine ⟨Code.quiet_builtin _ (by decide +kernel), codeAny_builtin entry_prep ?_⟩
  exact wpAny_bind (wpAny_newObj_type (wpAny_pure h))
end
end Mine
end
section
open PySem PySem.W PyProof.Rows PySem.Calls
set_option Elab.async false
set_option maxRecDepth 100000
set_option maxHeartbeats 800000
namespace Mine
set_option pp.deepTerms false
set_option pp.deepTerms.threshold 8
section
variable {prog : Program} {w : World} {A : Around} {E : Value → Shared → Prop} {s : Shared} {h₀ : Heap} {L P d : Addr} {m mg mb : PySem.Str → Option Value} {led news : List (Addr × Obj)} {ps : Array Value} {p : Program} {loose : List PySem.Str} {mean : ExcName → Option Value}
theorem looks_nsGet {M : Model} {h : Heap} {a : Addr} {o : Obj} {k : PySem.Str} {r : Option Value} (ho : h.get? a = some o) (e : lookIn k o = some r) : Looks M h (nsGet a k) r := fun _ _ _ _ kp q => by
  unfold nsGet
  refine wpAny_bind (wpAny_loadPart (kp _ _ ho) ?_)
  rw [nsLook_of e]
  exact wpAny_pure q
noncomputable def nsNew (k : PySem.Str) (es : List DictEntry) : Bool := es.all fun e => !e.key.isStr k && !e.refKey
theorem cl_nsSet {es : List DictEntry} {n : Nat} {k : PySem.Str} {v : Value} {Q : Unit → Shared → Prop} (D : Cl h₀ L P m s.heap led ps news) (i : Nat) (hi : led[i]? = some (d, dictOf es n)) (hs : nsNew k es = true)
    (h : ∀ h', Cl h₀ L P m h' (led.set i (d, dictOf (es ++ [⟨PyData.keyHash w.params k, .str k s.toks, v⟩]) (n + 1))) ps news → Q () { s with heap := h', toks := s.toks + 1 }) :
    wpAny (model prog w) A (nsSet d k v) Q E s := by
  have hs1 : ∀ e ∈ es, e.key.isStr k = false := fun e he => by have z := List.all_eq_true.mp hs e he; rw [Bool.and_eq_true, Bool.not_eq_true'] at z; exact z.1
  have hs2 : ∀ e ∈ es, e.refKey = false := fun e he => by have z := List.all_eq_true.mp hs e he; rw [Bool.and_eq_true, Bool.not_eq_true', Bool.not_eq_true'] at z; exact z.2
  have e1 : es.any (·.key.isStr k) = false := by
    cases q : es.any (·.key.isStr k) with
    | false => rfl
    | true => obtain ⟨e, he, z⟩ := List.any_eq_true.mp q; rw [hs1 e he] at z; cases z
  have e2 : es.any (·.refKey) = false := by
    cases q : es.any (·.refKey) with
    | false => rfl
    | true => obtain ⟨e, he, z⟩ := List.any_eq_true.mp q; rw [hs2 e he] at z; cases z
  have e : Obj.putName k (PyData.keyHash w.params k) (.str k s.toks) v (dictOf es n) = dictOf (es ++ [⟨PyData.keyHash w.params k, .str k s.toks, v⟩]) (n + 1) := by
    rw [putName_dict, putL_new hs1]
    show dictOf _ (if es.any (·.key.isStr k) then n else n + 1) = _
    rw [e1, if_neg Bool.false_ne_true]
  have c : aRefKeyMayBeTheName k es.toArray = false := by
    rw [aRefKeyMayBeTheName_at, ← Array.any_toList, ← Array.any_toList]
    show (!es.any (·.key.isStr k) && es.any (·.refKey)) = false
    rw [e2, Bool.and_false]
  unfold nsSet
  refine wpAny_bind (wpAny_bind (wpAny_askSetting (wpAny_pure (wpAny_bind (wpAny_mkText (wpAny_bind (wpAny_loadPart (D.at i hi) ?_)))))))
  dsimp only
  rw [c]
  exact wpAny_updatePart (D.at i hi) (h _ (D.upd i hi e rfl))
theorem cl_nsPut {es : List DictEntry} {n : Nat} {k : PySem.Str} {v : Value} {Q : Unit → Shared → Prop} (D : Cl h₀ L P m s.heap led ps news) (i : Nat) (hi : led[i]? = some (d, dictOf es n)) (hs : es.all (fun e => !e.refKey) = true)
    (h : ∀ h', Cl h₀ L P m h' (led.set i (d, dictOf (putL k (PyData.keyHash w.params k) (.str k s.toks) v es) (putN k es n))) ps news → Q () { s with heap := h', toks := s.toks + 1 }) :
    wpAny (model prog w) A (nsSet d k v) Q E s := by
  have hs2 : ∀ e ∈ es, e.refKey = false := fun e he => by have z := List.all_eq_true.mp hs e he; rwa [Bool.not_eq_true'] at z
  have e2 : es.any (·.refKey) = false := by
    cases q : es.any (·.refKey) with
    | false => rfl
    | true => obtain ⟨e, he, z⟩ := List.any_eq_true.mp q; rw [hs2 e he] at z; cases z
  have c : aRefKeyMayBeTheName k es.toArray = false := by
    rw [aRefKeyMayBeTheName_at, ← Array.any_toList, ← Array.any_toList]
    show (!es.any (·.key.isStr k) && es.any (·.refKey)) = false
    rw [e2, Bool.and_false]
  unfold nsSet
  refine wpAny_bind (wpAny_bind (wpAny_askSetting (wpAny_pure (wpAny_bind (wpAny_mkText (wpAny_bind (wpAny_loadPart (D.at i hi) ?_)))))))
  dsimp only
  rw [c]
  exact wpAny_updatePart (D.at i hi) (h _ (D.upd i hi (putName_dict ..) rfl))
theorem goal_absC {G : Prop} (h : ∀ P : Prop, (G → P) → P) : G := h G id
theorem cl_classCode {env : Env} {c : Addr} {pos : Pos} {fl : Nat} {name qual : PySem.Str} {scope : Scope} {Q : Value → Shared → Prop} (D : Cl h₀ L P m s.heap led ps news) (C : CodeHd s.heap c P) (hcd : env.code = .ref c) (ht : TriplesOk ps.toList) (hnf : codeAmong pos ps.toList = none)
      (h : ∀ CC P' oc h' tk, Cl h₀ L P m h' ((P', tabObj #[]) :: (CC, oc) :: led) (ps ++ #[rawInt pos.line, rawInt pos.col, .ref CC]) news → (∀ h'', h''.get? CC = some oc → CodeHd h'' CC P') → Q (.ref CC) { s with heap := h', toks := tk }) :
    wpAny (model prog w) A (classCode env pos fl name qual scope) Q E s := by
  have hP := D.tab
  refine goal_absC fun GP hGP => ?_
  obtain ⟨o, vs, file, tf, flags, tg, inF, text, tt, op, ho, hd, h11, h2, h7, h9, h10, hop, hpd, htr, hne⟩ := id (C.code hP ht)
  refine hGP ?_
  clear hGP
  unfold classCode codeAt
  rw [hcd, if_neg (show ¬ ((Value.ref c == Value.none) = true) from Bool.false_ne_true)]
  refine wpAny_bind (wpAny_fieldsOf ho hd ?_)
  rw [h11]
  refine wpAny_bind (wpAny_fieldsOf hop hpd ?_)
  rw [hnf, h2, h7, h9, h10]
  refine wpAny_bind (wpAny_newCodeX fun c' P' h' tk hk hc' hP' hcode' htab' hrec' => ?_)
  have hop' := hk _ _ hop
  have eop : op = tabObj ps := Option.some.inj (hop.symm.trans hP)
  subst eop
  refine wpAny_bind (wpAny_updateFieldsOfTheText hop' hpd ?_)
  have hnew : (Obj.mapFields (fun vs => if (codeAmong pos vs.toList).isSome = true then vs else vs ++ #[rawInt pos.line, rawInt pos.col, .ref c']) (tabObj ps)).data =
      .fields (ps ++ #[rawInt pos.line, rawInt pos.col, .ref c']) := by
    rw [Obj.data_mapFields hpd, hnf]; rfl
  have hget := Heap.get?_update_self (h := h') (fun o => Obj.mapFields (fun vs => if (codeAmong pos vs.toList).isSome = true then vs else
    vs ++ #[rawInt pos.line, rawInt pos.col, .ref c']) o) hop' (Obj.isFreed_of_fields hnew)
  refine wpAny_bind (wpAny_fieldsOf hget hnew ?_)
  have hl : (ps ++ #[rawInt pos.line, rawInt pos.col, Value.ref c']).toList = ps.toList ++ [rawInt pos.line, rawInt pos.col, .ref c'] := by simp
  rw [hl, codeAmong_snoc _ htr hnf]
  have hs : Heap.SameBut P h' (h'.update P fun o => Obj.mapFields (fun vs => if (codeAmong pos vs.toList).isSome = true then vs else vs ++ #[rawInt pos.line, rawInt pos.col, .ref c']) o) := Heap.SameBut.update ..
  have hm := D.nw (P, tabObj ps) (List.mem_append_right _ (.head _))
  have hLs : L < s.heap.objs.size := D.fr.ns.lt
  have fresh : ∀ b, L < b → h₀.get? b = none := fun b hb => Heap.get?_none_of_le (Nat.le_trans D.fr.above (Nat.le_of_lt hb))
  have lt : ∀ q ∈ led ++ (P, tabObj ps) :: news, q.1 < s.heap.objs.size := fun q hq => Heap.lt_size (D.nw q hq).1
  have lP := lt (P, tabObj ps) (List.mem_append_right _ (.head _))
  have neP : ∀ b, s.heap.objs.size ≤ b → b ≠ P := fun b hb => Nat.ne_of_gt (Nat.lt_of_lt_of_le lP hb)
  refine goal_absC fun GP hGP => ?_
  obtain ⟨oc, voc, file', tf', flags', tg', inF', text', tt', op', a1, a2, a3, a4, a5, a6, a7, a8, a9, a10, a11⟩ := id hcode'
  obtain ⟨⟨o₂, vs₂, b1, b2, b3, b4⟩, b5⟩ := id htab'
  rw [a1] at b1; cases b1
  rw [a2] at b3; cases b3
  refine hGP ?_
  clear hGP
  refine wpAny_pure (h c' P' oc _ tk ⟨⟨(D.fr.ns.keeps hk).extBut hs.extBut hm.2.1.symm, fun b o e => (hs.2 b fun q => ?_).trans (hk b o (D.fr.keep b o e)), D.fr.above⟩, fun q hq => ?_, ?_, fun q hq r hr => ?_, D.off⟩ (fun h'' e => ⟨oc, voc, file', tf', flags', tg', inF', text', tt', e, b2, a2, b4, a3, a4, a5, a6, a7, a11⟩))
  · rw [q, hm.2.2] at e; cases e
  · rcases List.mem_append.mp hq with hq | hq
    · rcases List.mem_cons.mp hq with rfl | hq
      · exact ⟨(hs.2 _ (neP _ hP')).trans b5, Nat.ne_of_gt (Nat.lt_of_lt_of_le hLs hP'), fresh _ (Nat.lt_of_lt_of_le hLs hP')⟩
      · rcases List.mem_cons.mp hq with rfl | hq
        · exact ⟨(hs.2 _ (neP _ hc')).trans a1, Nat.ne_of_gt (Nat.lt_of_lt_of_le hLs hc'), fresh _ (Nat.lt_of_lt_of_le hLs hc')⟩
        · have z := D.nw q (List.mem_append_left _ hq)
          exact ⟨(hs.2 _ (Nat.ne_of_gt (D.abv _ (.head _) q hq))).trans (hk _ _ z.1), z.2⟩
    · rcases List.mem_cons.mp hq with rfl | hq
      · refine ⟨?_, hm.2⟩
        rw [hget]
        simp only [Obj.mapFields, hnf]
        rfl
      · have z := D.nw q (List.mem_append_right _ (.tail _ hq))
        exact ⟨(hs.2 _ (D.off q hq)).trans (hk _ _ z.1), z.2⟩
  · refine .cons (fun b hb => ?_) (.cons (fun b hb => ?_) D.ord)
    · rcases List.mem_cons.mp hb with rfl | hb
      · exact Ne.symm a11
      · obtain ⟨p, hp, rfl⟩ := List.mem_map.mp hb
        exact Nat.ne_of_gt (Nat.lt_of_lt_of_le (lt p (List.mem_append_left _ hp)) hP')
    · obtain ⟨p, hp, rfl⟩ := List.mem_map.mp hb
      exact Nat.ne_of_gt (Nat.lt_of_lt_of_le (lt p (List.mem_append_left _ hp)) hc')
  · have l1 : q.1 < s.heap.objs.size := by
      rcases List.mem_cons.mp hq with rfl | hq
      · exact lP
      · exact lt q (List.mem_append_right _ (.tail _ hq))
    rcases List.mem_cons.mp hr with rfl | hr
    · exact Nat.lt_of_lt_of_le l1 hP'
    · rcases List.mem_cons.mp hr with rfl | hr
      · exact Nat.lt_of_lt_of_le l1 hc'
      · rcases List.mem_cons.mp hq with rfl | hq
        · exact D.abv _ (.head _) r hr
        · exact D.abv q (.tail _ hq) r hr
theorem in_nil {h : Heap} : Frag.In [] h := fun _ _ e => nomatch e
theorem prep_found : findCls [] (.type "type") (.type "type") "__prepare__" = some (.get (.builtin "classmethod_descriptor.__get__") (.builtin "type.__prepare__") .none (.type "type")) := by kernel_rfl
theorem cl_prep {Q : Option Value → Shared → Prop} (D : Cl h₀ L P m s.heap led ps news) (h : ∀ a h', Cl h₀ L P m h' ((a, prepB) :: led) ps news → Q (some (.ref a)) { s with heap := h', toks := s.toks + 1 }) :
    wpAny (model prog w) A (getAttr? (.type "type") "__prepare__") Q E s := prep_get in_nil prep_found (h _ _ (D.push rfl))
theorem cl_prepCall {x : Addr} {n b : Value} {kw : List (PySem.Str × Value)} {Q : Value → Shared → Prop} (hkw : kw = []) (D : Cl h₀ L P m s.heap led ps news) (i : Nat) (hi : led[i]? = some (x, prepB)) (h : ∀ a h', Cl h₀ L P m h' ((a, emptyDict) :: led) ps news → Q (.ref a) { s with heap := h' }) :
    wpAny (model prog w) A (call (.ref x) [n, b] kw) Q E s := by subst hkw; exact prep_call (D.at i hi) (h _ _ (D.push rfl))
theorem tl_nil {M : Model} {h : Heap} {t : Value} {k : PySem.Str} {r : Option Value} (e : findIn [] t k = some r) : Looks M h (typeLookup t k) r := looks_findIn in_nil e
theorem lk_tobj {M : Model} {h : Heap} : Looks M h (typeOf (.type "object")) (.type "type") := Looks.of_pure (by first | rfl | kernel_rfl)
theorem lk_ttyp {M : Model} {h : Heap} : Looks M h (typeOf (.type "type")) (.type "type") := Looks.of_pure (by first | rfl | kernel_rfl)
theorem lk_iobj {M : Model} {h : Heap} : Looks M h (isType (.type "object")) true := Looks.of_pure (by first | rfl | kernel_rfl | (unfold isType; rw [isSubtype_type]; kernel_rfl))
theorem lk_ityp {M : Model} {h : Heap} : Looks M h (isType (.type "type")) true := Looks.of_pure ist_type
theorem lk_stt {M : Model} {h : Heap} : Looks M h (isSubtype (.type "type") (.type "type")) true := Looks.of_pure sub_tt
theorem Cl.big {h : Heap} {a : Addr} {o : Obj} (D : Cl h₀ L P m h led ps news) (i : Nat) (hi : led[i]? = some (a, o)) : P < a := D.abv _ (.head _) _ (List.mem_of_getElem? hi)
theorem cl_small {α : Type} {a b : Addr} {o : Obj} {x y : Sem α} {Q : α → Shared → Prop} (D : Cl h₀ L P m s.heap led ps news) (hb : Nat.ble b P = true) (i : Nat) (hi : led[i]? = some (a, o)) (h : wpAny (model prog w) A y Q E s) : wpAny (model prog w) A (if (a == b) = true then x else y) Q E s := by
  rw [if_neg (fun q => Nat.ne_of_gt (Nat.lt_of_le_of_lt (Nat.le_of_ble_eq_true hb) (D.big i hi)) (beq_iff_eq.mp q))]
  exact h
theorem cs {α : Type} {a b : Addr} {o : Obj} {x y : Sem α} {Q : α → Shared → Prop} (i : Nat) (D : Cl h₀ L P m s.heap led ps news) (hb : Nat.ble b P = true) (h : wpAny (model prog w) A y Q E s) (hi : led[i]? = some (a, o) := by rfl) : wpAny (model prog w) A (if (a == b) = true then x else y) Q E s := cl_small D hb i hi h
theorem cl_nsIn {M : Model} {h : Heap} {K : Frag} {a : Addr} {k : PySem.Str} {r : Option Value} (D : Cl h₀ L P m h led ps news) (X : K.In h₀) (e : nsIn K a k = some r) : Looks M h (nsGet a k) r := looks_nsIn (X.keeps D.fr.keep) e
theorem cl_builtins {running : Addr} {Q : Addr → Shared → Prop} (D : Cl h₀ L P m s.heap led ps news) (T : Top p loose mean mg mb h₀) (h : Q builtinsNs s) : wpAny (model prog w) A (builtinsFor mainGlobals running) Q E s := by
  obtain ⟨bm, ob, b1, b2, b3, b4, b5, b6⟩ := T.bmain
  exact wpAny_builtinsFor (T.g.keeps D.fr.keep) b1 b2 (D.fr.keep _ _ b3) b4 b5 b6 h
theorem cl_enter {Q : Unit → Shared → Prop} (D : Cl h₀ L P m s.heap led ps news) (T : Top p loose mean mg mb h₀) (hd : A.depth < recursionLimit) (h : Q () s) : wpAny (model prog w) A enterFrame Q E s :=
  wpAny_enterFrame (let ⟨mc, a, r⟩ := T.nolimit; ⟨mc, a.keeps D.fr.keep, r⟩) hd h
theorem cl_localSet {env : Env} {es : List DictEntry} {n : Nat} {k : PySem.Str} {v : Value} {Q : Unit → Shared → Prop} (D : Cl h₀ L P m s.heap led ps news) (i : Nat) (hi : led[i]? = some (env.locals, dictOf es n)) (hs : nsNew k es = true)
    (h : ∀ h', Cl h₀ L P m h' (led.set i (env.locals, dictOf (es ++ [⟨PyData.keyHash w.params k, .str k s.toks, v⟩]) (n + 1))) ps news → Q () { s with heap := h', toks := s.toks + 1 }) :
    wpAny (model prog w) A (localSet env k v) Q E s := by
  unfold localSet
  refine wpAny_bind (wpAny_load (D.at i hi) ?_)
  rw [if_pos (show (Value.type "dict" == Value.type "dict") = true from by decide)]
  exact cl_nsSet D i hi hs h
theorem cl_storePut {env : Env} {es : List DictEntry} {n : Nat} {k : PySem.Str} {v : Value} {Q : Unit → Shared → Prop} (hst : storeName env k v = localSet env k v) (D : Cl h₀ L P m s.heap led ps news) (i : Nat) (hi : led[i]? = some (env.locals, dictOf es n)) (hs : es.all (fun e => !e.refKey) = true)
    (h : ∀ h', Cl h₀ L P m h' (led.set i (env.locals, dictOf (putL k (PyData.keyHash w.params k) (.str k s.toks) v es) (putN k es n))) ps news → Q () { s with heap := h', toks := s.toks + 1 }) :
    wpAny (model prog w) A (storeName env k v) Q E s := by
  rw [hst]
  unfold localSet
  refine wpAny_bind (wpAny_load (D.at i hi) ?_)
  rw [if_pos (show (Value.type "dict" == Value.type "dict") = true from by decide)]
  exact cl_nsPut D i hi hs h
theorem cl_store {env : Env} {es : List DictEntry} {n : Nat} {k : PySem.Str} {v : Value} {Q : Unit → Shared → Prop} (hst : storeName env k v = localSet env k v) (D : Cl h₀ L P m s.heap led ps news) (i : Nat) (hi : led[i]? = some (env.locals, dictOf es n)) (hs : nsNew k es = true)
    (h : ∀ h', Cl h₀ L P m h' (led.set i (env.locals, dictOf (es ++ [⟨PyData.keyHash w.params k, .str k s.toks, v⟩]) (n + 1))) ps news → Q () { s with heap := h', toks := s.toks + 1 }) :
    wpAny (model prog w) A (storeName env k v) Q E s := by
  rw [hst]
  exact cl_localSet D i hi hs h
noncomputable abbrev frameOb (code : Value) (N : Addr) (nm : Value) : Obj := { cls := .type "frame", slots := #[some code, some (.ref mainGlobals), some (.ref N), none, some nm, none, some (.ref builtinsNs)] }
theorem cl_frame {code : Value} {N : Addr} {K : Frag} {nm : Value} {Q : Addr → Shared → Prop} (D : Cl h₀ L P m s.heap led ps news) (X : K.In h₀) (e : nsIn K mainGlobals "__name__" = some (some nm)) (h : ∀ a h', Cl h₀ L P m h' ((a, frameOb code N nm) :: led) ps news → Q a { s with heap := h' }) :
    wpAny (model prog w) A (newBodyFrame code mainGlobals N builtinsNs) Q E s := by
  unfold newBodyFrame
  exact wpAny_bind ((cl_nsIn D X e).here (wpAny_alloc (h _ _ (D.push rfl))))
theorem cl_findIn {M : Model} {h : Heap} {K : Frag} {t : Value} {k : PySem.Str} {r : Option Value} (D : Cl h₀ L P m h led ps news) (X : K.In h₀) (e : findIn K t k = some r) : Looks M h (typeLookup t k) r := looks_findIn (X.keeps D.fr.keep) e
theorem bind_abs {M : Model} {α β : Type} {A : Around} {E : Value → Shared → Prop} {s : Shared} {Q : α → Shared → Prop} {mm : Sem β} {f : β → Sem α} (h : ∀ f', f' = f → wpAny M A mm (fun a s' => wpAny M A (f' a) Q E s') E s) : wpAny M A (mm >>= f) Q E s := wpAny_bind (h f rfl)
theorem app_abs {M : Model} {α β : Type} {A : Around} {E : Value → Shared → Prop} {s : Shared} {Q : α → Shared → Prop} {f f' : β → Sem α} {a : β} (hf : f' = f) (h : wpAny M A (f a) Q E s) : wpAny M A (f' a) Q E s := by rw [hf]; exact h
structure Halt (p : Prop) : Prop where go :: out : p
theorem cl_makeFn {env : Env} {c T : Addr} {pt : Array Value} {pos : Pos} {fl : Nat} {name qual : PySem.Str} {params : Arguments} {body : List Stmt} {scope : Scope} {clos : List (PySem.Str × Addr)} {Q : Value → Shared → Prop} (D : Cl h₀ L P m s.heap led ps news) (i : Nat) (hi : led[i]? = some (T, tabObj pt))
    (Tp : Top p loose mean mg mb h₀) (C : CodeHd s.heap c T) (hcd : env.code = .ref c)
    (hge : env.globals = mainGlobals) (ht : TriplesOk pt.toList) (hnf : codeAmong pos pt.toList = none) (hcl : closureFor scope env = pure clos)
    (h : ∀ f c' oc vs t ctv doc h' tk, Cl h₀ L P m h' ((f, fnMade name qual params body scope clos doc ((mg "__name__").getD .none) c' ctv) :: (c', oc) :: led.set i (T, tabObj (pt ++ #[rawInt pos.line, rawInt pos.col, .ref c']))) ps news →
      oc.data = .fields vs → vs[1]? = some (.str qual t) → Q (.ref f) { s with heap := h', toks := tk }) :
    wpAny (model prog w) A (makeFunction name qual params (.stmts body) scope env [] [] [] pos fl) Q E s := by
  have hm := D.nw (T, tabObj pt) (List.mem_append_left _ (List.mem_of_getElem? hi))
  have hgs := Tp.g.keeps D.fr.keep
  obtain ⟨bm, ob, b1, b2, b3, b4, b5, b6⟩ := Tp.bmain
  have hgP : mainGlobals ≠ T := fun q => by
    obtain ⟨o, es, ep, e, hd, _⟩ := hgs
    rw [q, hm.1] at e; cases e; cases hd
  have hbP : bm ≠ T := fun q => by
    have e := D.fr.keep _ _ b3
    rw [q, hm.1] at e; cases e; cases b4
  have hbG : bm ≠ mainGlobals := fun q => by
    obtain ⟨o, es, ep, e, hd, _⟩ := Tp.g
    rw [q, e] at b3; cases b3; rw [hd] at b6; cases b6
  refine makeFunction_K (mg := mg) hcl hge hgs hcd C hm.1 ht hnf hgP ⟨bm, ob, b1, b2, hbG, hbP, D.fr.keep _ _ b3, b4, b5, b6⟩ fun c' ctv doc h' tk hx hsz hlt hrec htb => ?_
  obtain ⟨c₂, oc, vs, t, e2, hoc, hd, hv⟩ := hrec
  cases e2
  refine h h'.objs.size c' oc vs t ctv doc _ tk (D.grow i hi (fun b o hb e => Heap.get?_push_of_some _ (hx b o hb e)) hsz hlt (Heap.get?_push_of_some _ hoc) (Heap.get?_push_size _ rfl) (Heap.get?_push_of_some _ htb)) hd hv
end
end Mine
end
section
open PySem PySem.W PyProof.Rows PySem.Calls
set_option Elab.async false
set_option maxRecDepth 100000
set_option maxHeartbeats 8000000
namespace Mine
set_option pp.deepTerms false
set_option pp.deepTerms.threshold 6
noncomputable def ctkCls : List Stmt × Scope × Pos × List PySem.Str := match ((PySem.Challenge.rw_kt0066_01.row.prog.theDef (S "cmp_to_key")).getD default).2.1 with
  | .ClassDef _ _ _ body _ _ sc _ _ st pos :: _ => (body, sc, pos, st)
  | _ => default
noncomputable abbrev cEnv (N0 cell CC FR : Addr) : Env := { scope := ctkCls.2.1, locals := N0, globals := mainGlobals, cells := [(S "mycmp", cell)], qual := S "cmp_to_key.<locals>.K.", code := .ref CC, frame := some FR, builtins := builtinsNs }
section
variable {w : World} {A : Around} {E : Value → Shared → Prop} {s : Shared} {h₀ : Heap} {L P d : Addr} {m mg mb : PySem.Str → Option Value} {led news : List (Addr × Obj)} {ps : Array Value} {p : Program} {loose : List PySem.Str} {mean : ExcName → Option Value}
noncomputable abbrev de (w : World) (k : PySem.Str) (t : Tok) (v : Value) : DictEntry := ⟨PyData.keyHash w.params k, .str k t, v⟩
theorem cl_names {oF oT oK : Obj} {N0 cell CC FR P' : Addr} {Q : Unit → Shared → Prop} (X : (fragK.heap_1 w.params).In h₀) (D : Cl h₀ L P m s.heap ((FR, oF) :: (P', oT) :: (CC, oK) :: (N0, emptyDict) :: led) ps news)
    (h : ∀ h', Cl h₀ L P m h' ((FR, oF) :: (P', oT) :: (CC, oK) :: (N0, dictOf [de w "__module__" s.toks (.str "law_kt0066_01" 1290), de w "__qualname__" (s.toks + 1 + 1) (.str "cmp_to_key.<locals>.K" (s.toks + 1)), de w "__firstlineno__" (s.toks + 1 + 1 + 1 + 1) (.int 15 (s.toks + 1 + 1 + 1))] 3) :: led) ps news →
      Q () { s with heap := h', toks := s.toks + 5 }) :
    wpAny (model PySem.Challenge.rw_kt0066_01.row.prog w) A (do storeName (cEnv N0 cell CC FR) "__module__" (← loadName (cEnv N0 cell CC FR) "__name__"); storeName (cEnv N0 cell CC FR) "__qualname__" (← mkText "cmp_to_key.<locals>.K"); storeName (cEnv N0 cell CC FR) "__firstlineno__" (← mkInt ((15 : Nat) : Int)); pure ()) Q E s := by
  revert X; k_fill; intro X
  obtain ⟨hh, g, d, t, os⟩ := s
  dsimp only at D h ⊢
  repeat (first | ((with_reducible refine cl_store (by k_dflt rfl) (by assumption) 3 (by k_dflt rfl) (by k_dflt rfl) ?_); intro _ _; (try dsimp only [List.set, List.cons_append, List.nil_append])) | ((with_reducible refine Looks.at (cl_nsIn (a := mainGlobals) (K := fragK.heap_1 _) (by assumption) (by assumption) (by k_dflt k_is)) ?_); (try dsimp only)) | ((with_reducible refine Looks.at (looks_nsGet (by k_dflt (first | exact Cl.at (by assumption) 3 (by rfl))) (by k_dflt rfl)) ?_); (try dsimp only)) | ((with_reducible refine nd_load (by k_dflt (first | exact Cl.at (by assumption) 0 (by rfl) | exact Cl.at (by assumption) 1 (by rfl) | exact Cl.at (by assumption) 2 (by rfl) | exact Cl.at (by assumption) 3 (by rfl))) ?_); (try dsimp only)) | lk)
  exact h _ (by assumption)
end
end Mine
end
section
open PySem PySem.W PyProof.Rows PySem.Calls
set_option Elab.async false
set_option maxRecDepth 100000
set_option maxHeartbeats 8000000
namespace Mine
set_option pp.deepTerms false
set_option pp.deepTerms.threshold 6
section
variable {w : World} {A : Around} {E : Value → Shared → Prop} {s : Shared} {h₀ : Heap} {L P d : Addr} {m mg mb : PySem.Str → Option Value} {led news : List (Addr × Obj)} {ps : Array Value} {p : Program} {loose : List PySem.Str} {mean : ExcName → Option Value}
noncomputable def fnIn (k : Nat) : Arguments × List Stmt × Scope := match ctkCls.1[k]? with
  | some (.FunctionDef _ args body _ _ _ sc _ _ _) => (args, body, sc)
  | _ => default
noncomputable def ctkIn := fnIn 2
noncomputable def ctkLt := fnIn 3
noncomputable abbrev clsEs (w : World) (tk1 tk2 tk3 tk4 tk5 u1 u2 u3 u4 u5 u6 u7 u8 u9 : Tok) (LST fI fL fG fE fA fB : Addr) : List DictEntry :=
  [de w "__module__" tk1 (.str "cpy313.functools" u1), de w "__qualname__" tk2 (.str "cmp_to_key.<locals>.K" tk3), de w "__firstlineno__" tk4 (.int 15 tk5), de w "__slots__" u2 (.ref LST), de w "__init__" u3 (.ref fI), de w "__lt__" u4 (.ref fL),
   de w "__gt__" u5 (.ref fG), de w "__eq__" u6 (.ref fE), de w "__le__" u7 (.ref fA), de w "__ge__" u8 (.ref fB), de w "__hash__" u9 .none]
theorem cl_body {oF oK : Obj} {N0 cell CC FR P' : Addr} {tk1 tk2 tk3 tk4 tk5 : Tok} {Q : Flow → Shared → Prop} (X : (fragK.heap_1 w.params).In h₀) (T : Top p loose mean mg mb h₀) (hk : ∀ h'', h''.get? CC = some oK → CodeHd h'' CC P')
    (D : Cl h₀ L P m s.heap ((FR, oF) :: (P', tabObj #[]) :: (CC, oK) :: (N0, dictOf [de w "__module__" tk1 (.str "law_kt0066_01" 1290), de w "__qualname__" tk2 (.str "cmp_to_key.<locals>.K" tk3), de w "__firstlineno__" tk4 (.int 15 tk5)] 3) :: led) ps news)
    (h : ∀ (fI cI fL cL fG fE fA fB LST : Addr) (oI oL : Obj) (dI kI dL kL : Value) (vI vL : Array Value) (tI tL : Tok)
       (nG qG : PySem.Str) (pG : Arguments) (bG : List Stmt) (sG : Scope) (clG : List (PySem.Str × Addr)) (dG mG : Value) (cG : Addr) (kG : Value)
       (nE qE : PySem.Str) (pE : Arguments) (bE : List Stmt) (sE : Scope) (clE : List (PySem.Str × Addr)) (dE mE : Value) (cE : Addr) (kE : Value)
       (nA qA : PySem.Str) (pA : Arguments) (bA : List Stmt) (sA : Scope) (clA : List (PySem.Str × Addr)) (dA mA : Value) (cA : Addr) (kA : Value)
       (nB qB : PySem.Str) (pB : Arguments) (bB : List Stmt) (sB : Scope) (clB : List (PySem.Str × Addr)) (dB mB : Value) (cB : Addr) (kB : Value)
       (pt : Array Value) (u0 u1 u2 u3 u4 u5 u6 u7 u8 u9 : Tok) (h' : Heap) (tk' : Nat),
       Cl h₀ L P m h' ((fB, fnMade nB qB pB bB sB clB dB mB cB kB) :: (fA, fnMade nA qA pA bA sA clA dA mA cA kA) :: (fE, fnMade nE qE pE bE sE clE dE mE cE kE) :: (fG, fnMade nG qG pG bG sG clG dG mG cG kG) :: (fL, fnMade "__lt__" "cmp_to_key.<locals>.K.__lt__" ctkLt.1 ctkLt.2.1 ctkLt.2.2 [(S "mycmp", cell)] dL ((mg "__name__").getD .none) cL kL) :: (cL, oL) :: (fI, fnMade "__init__" "cmp_to_key.<locals>.K.__init__" ctkIn.1 ctkIn.2.1 ctkIn.2.2 [] dI ((mg "__name__").getD .none) cI kI) :: (cI, oI) :: (LST, { cls := .type "list", data := .seq #[.str "obj" u0] }) :: (FR, oF) :: (P', tabObj pt) :: (CC, oK) :: (N0, dictOf (clsEs w tk1 tk2 tk3 tk4 tk5 u1 u2 u3 u4 u5 u6 u7 u8 u9 LST fI fL fG fE fA fB) 11) :: led) ps news →
       oI.data = .fields vI → vI[1]? = some (.str "cmp_to_key.<locals>.K.__init__" tI) → oL.data = .fields vL → vL[1]? = some (.str "cmp_to_key.<locals>.K.__lt__" tL) → Q .next { s with heap := h', toks := tk' }) :
    wpAny (model PySem.Challenge.rw_kt0066_01.row.prog w) A (run (.body ctkCls.1 (cEnv N0 cell CC FR))) Q E s := by
  revert X; k_fill; intro X
  obtain ⟨hh, g, d, t, os⟩ := s
  dsimp only at D ⊢
  have hR : ctkCls = ctkCls := rfl
  conv at hR => rhs; whnf
  generalize hC : cEnv N0 cell CC FR = env
  rw [hR]
  dsimp only
  refine wpAny_run (codeAny_body rfl rfl ?_)
  subst hC
  refine wpAny_execs_cons (wpAny_Assign_Name ?_)
  refine wpAny_mkText ?_
  refine cl_storePut rfl D 3 rfl rfl fun h1 D1 => ?_
  refine wpAny_execs_cons (wpAny_Assign_Name ?_)
  rw [arm_eval_List]
  repeat (first | ((with_reducible show wpAny _ _ (storeName _ _ _) _ _ _); refine Halt.out ?_) | ((with_reducible refine cl_alloc (by assumption) (by k_dflt rfl) ?_); intro _ _ _; (try dsimp only)) | with_reducible refine PySem.W.X.x_at ?_ | ((with_reducible refine cl_storePut (by k_dflt rfl) (by assumption) 3 (by k_dflt rfl) (by k_dflt rfl) ?_); intro _ _; (try dsimp only [List.set, List.cons_append, List.nil_append])) | ((with_reducible refine nd_load (by k_dflt (first | exact Cl.at (by assumption) 0 (by rfl) | exact Cl.at (by assumption) 1 (by rfl) | exact Cl.at (by assumption) 2 (by rfl) | exact Cl.at (by assumption) 3 (by rfl))) ?_); (try dsimp only)) | lk)
  refine ⟨?_⟩
  refine cl_storePut rfl (by assumption) 4 rfl rfl fun h2 D2 => ?_
  refine wpAny_execs_cons (nestDef_K rfl rfl rfl (cl_makeFn D2 2 rfl T (hk _ (Cl.at D2 3 rfl)) rfl rfl ?htI rfl rfl fun fI cI oI vI tI kI dI hI uI DI eI gI => ?_))
  case htI => exact trivial
  refine cl_storePut rfl DI 6 rfl rfl fun sI SI => ?_
  simp only [List.append_toArray, List.cons_append, List.nil_append] at SI
  refine wpAny_execs_cons (nestDef_K rfl rfl rfl (cl_makeFn SI 4 rfl T (hk _ (Cl.at SI 5 rfl)) rfl rfl ?htL rfl rfl fun fL cL oL vL tL kL dL hL uL DL eL gL => ?_))
  case htL => exact trivial
  refine cl_storePut rfl DL 8 rfl rfl fun sL SL => ?_
  simp only [List.append_toArray, List.cons_append, List.nil_append] at SL
  refine wpAny_execs_cons (nestDef_K rfl rfl rfl (cl_makeFn SL 6 rfl T (hk _ (Cl.at SL 7 rfl)) rfl rfl ?htG rfl rfl fun fG cG oG vG tG kG dG hG uG DG eG gG => ?_))
  case htG => exact trivial
  refine cl_storePut rfl (DG.drop _ (.cons_cons _ (.cons _ (List.Sublist.refl _)))) 9 rfl rfl fun sG SG => ?_
  simp only [List.append_toArray, List.cons_append, List.nil_append] at SG
  refine wpAny_execs_cons (nestDef_K rfl rfl rfl (cl_makeFn SG 7 rfl T (hk _ (Cl.at SG 8 rfl)) rfl rfl ?htE rfl rfl fun fE cE oE vE tE kE dE hE uE DE eE gE => ?_))
  case htE => exact trivial
  refine cl_storePut rfl (DE.drop _ (.cons_cons _ (.cons _ (List.Sublist.refl _)))) 10 rfl rfl fun sE SE => ?_
  simp only [List.append_toArray, List.cons_append, List.nil_append] at SE
  refine wpAny_execs_cons (nestDef_K rfl rfl rfl (cl_makeFn SE 8 rfl T (hk _ (Cl.at SE 9 rfl)) rfl rfl ?htA rfl rfl fun fA cA oA vA tA kA dA hA uA DA eA gA => ?_))
  case htA => exact trivial
  refine cl_storePut rfl (DA.drop _ (.cons_cons _ (.cons _ (List.Sublist.refl _)))) 11 rfl rfl fun sA SA => ?_
  simp only [List.append_toArray, List.cons_append, List.nil_append] at SA
  refine wpAny_execs_cons (nestDef_K rfl rfl rfl (cl_makeFn SA 9 rfl T (hk _ (Cl.at SA 10 rfl)) rfl rfl ?htB rfl rfl fun fB cB oB vB tB kB dB hB uB DB eB gB => ?_))
  case htB => exact trivial
  refine cl_storePut rfl (DB.drop _ (.cons_cons _ (.cons _ (List.Sublist.refl _)))) 12 rfl rfl fun sB SB => ?_
  refine wpAny_execs_cons (wpAny_Assign_Name ?_)
  refine wpAny_pure ?_
  refine cl_storePut rfl SB 12 rfl rfl fun h9 D9 => ?_
  refine wpAny_execs_nil ?_
  exact h _ _ _ _ _ _ _ _ _ _ _ _ _ _ _ _ _ _ _ _ _ _ _ _ _ _ _ _ _ _ _ _ _ _ _ _ _ _ _ _ _ _ _ _ _ _ _ _ _ _ _ _ _ _ _ _ _ _ _ _ _ _ _ _ _ _ _ _ _ _ _ _ D9 eI gI eL gL
end
end Mine
end
section
open PySem PySem.W PyProof.Rows PySem.Calls PySem.Builtin
set_option Elab.async false
set_option maxRecDepth 100000
set_option maxHeartbeats 800000
namespace Mine
set_option pp.deepTerms false
set_option pp.deepTerms.threshold 8
set_option linter.unusedVariables false
theorem best_obj : Slots.bestBase [.type "object"] = pure (.type "object") := by kernel_rfl
theorem sn_obj : Slots.slotNamesOf (.type "object") = pure [] := by kernel_rfl
theorem gd_obj : Slots.givesDict (.type "object") = pure false := by kernel_rfl
theorem vs_obj : Slots.varSize (.type "object") = pure false := by kernel_rfl
theorem weak_obj : Slots.givesWeak (.type "object") = pure false := by kernel_rfl
section
variable {prog : Program} {w : World} {A : Around} {E : Value → Shared → Prop} {s : Shared} {h₀ : Heap} {L P d : Addr} {m mg mb : PySem.Str → Option Value} {led news : List (Addr × Obj)} {ps : Array Value} {p : Program} {loose : List PySem.Str} {mean : ExcName → Option Value}
theorem Cl.keep {h h' : Heap} (D : Cl h₀ L P m h led ps news) (k : ∀ b o, h.get? b = some o → h'.get? b = some o) : Cl h₀ L P m h' led ps news :=
  ⟨⟨D.fr.ns.keeps k, fun b o e => k _ _ (D.fr.keep b o e), D.fr.above⟩, fun q hq => ⟨k _ _ (D.nw q hq).1, (D.nw q hq).2⟩, D.ord, D.abv, D.off⟩
theorem cl_updCls {a : Addr} {c : Value} {dd : Option Addr} {cd cd' : ClassData} {sl : Array (Option Value)} {f : ClassData → ClassData} {Q : Unit → Shared → Prop} (D : Cl h₀ L P m s.heap led ps news) (i : Nat) (hi : led[i]? = some (a, ⟨c, dd, .cls cd, sl⟩)) (e : f cd = cd') (hp : (Data.cls cd').pastItsLine = none)
    (h : ∀ h', Cl h₀ L P m h' (led.set i (a, ⟨c, dd, .cls cd', sl⟩)) ps news → Q () { s with heap := h' }) : wpAny (model prog w) A (updateCls a f) Q E s := by
  have D' := D.upd i (f := Obj.mapCls f) (o' := ⟨c, dd, .cls cd', sl⟩) hi (by show (⟨c, dd, .cls (f cd), sl⟩ : Obj) = _; rw [e]) rfl
  unfold updateCls
  refine wpAny_bind (wpAny_load (D.at i hi) ?_)
  dsimp only
  refine wpAny_bind (wpAny_update (D.at i hi) ?_)
  have hl : (led.set i (a, (⟨c, dd, .cls cd', sl⟩ : Obj)))[i]? = some (a, ⟨c, dd, .cls cd', sl⟩) := by
    obtain ⟨hl, _⟩ := List.getElem?_eq_some_iff.mp hi
    rw [List.getElem?_set_self hl]
  refine wpAny_lookBehind (D'.at i hl) hp ?_
  exact h _ D'
theorem cl_read {entries : Array DictEntry} {e : DictEntry} {LST : Addr} {u0 : Tok} {Q : Slots.Plan → Shared → Prop} (D : Cl h₀ L P m s.heap led ps news) (i : Nat) (hi : led[i]? = some (LST, { cls := .type "list", data := .seq #[.str "obj" u0] }))
    (hf : entries.find? (·.key.isStr "__slots__") = some e) (he : e.val = .ref LST) (hn : entries.any (·.key.isStr "obj") = false) (h : ∀ h', Cl h₀ L P m h' led ps news → Q { names := ["obj"], dict := false, weak := false, inherited := [] } { s with heap := h' }) :
    wpAny (model prog w) A (Slots.read "K" [.type "object"] entries) Q E s := by
  obtain ⟨hh, g, d, t, os⟩ := s
  obtain ⟨ha, kk, v⟩ := e
  subst he
  dsimp only at D h ⊢
  have tw : Looks (model prog w) hh (asStr? (.ref LST)) none := (Looks.ld (D.at i hi)).andThen .now
  unfold Slots.read
  repeat (first | rw [hf] | (first | ((with_reducible show wpAny _ _ (collect _) _ _ _); refine Halt.out ?_) | (first | ((with_reducible show wpAny _ _ (Slots.bestBase _) _ _ _); with_reducible refine Looks.at (Looks.of_pure best_obj) ?_) | ((with_reducible show wpAny _ _ (Slots.slotNamesOf (Value.type _)) _ _ _); with_reducible refine Looks.at (Looks.of_pure sn_obj) ?_) | ((with_reducible show wpAny _ _ (Slots.givesDict (Value.type _)) _ _ _); with_reducible refine Looks.at (Looks.of_pure gd_obj) ?_) | ((with_reducible show wpAny _ _ (Slots.varSize (Value.type _)) _ _ _); with_reducible refine Looks.at (Looks.of_pure vs_obj) ?_) | ((with_reducible show wpAny _ _ (Slots.givesWeak (Value.type _)) _ _ _); with_reducible refine Looks.at (Looks.of_pure weak_obj) ?_)) | lk))
  refine ⟨?_⟩
  refine wpAny_collect_seq LST (.inl rfl) (D.at i hi) rfl rfl (fun h' k => ?_)
  have D' := D.keep k
  dsimp only
  have m1 : Slots.mangle "K" "obj" = "obj" := by decide +kernel
  have m2 : Slots.isIdentifier "obj" = some true := by decide +kernel
  repeat (first | rw [m2] | (first | ((with_reducible show wpAny _ _ (collect _) _ _ _); refine Halt.out ?_) | (first | ((with_reducible show wpAny _ _ (Slots.bestBase _) _ _ _); with_reducible refine Looks.at (Looks.of_pure best_obj) ?_) | ((with_reducible show wpAny _ _ (Slots.slotNamesOf (Value.type _)) _ _ _); with_reducible refine Looks.at (Looks.of_pure sn_obj) ?_) | ((with_reducible show wpAny _ _ (Slots.givesDict (Value.type _)) _ _ _); with_reducible refine Looks.at (Looks.of_pure gd_obj) ?_) | ((with_reducible show wpAny _ _ (Slots.varSize (Value.type _)) _ _ _); with_reducible refine Looks.at (Looks.of_pure vs_obj) ?_) | ((with_reducible show wpAny _ _ (Slots.givesWeak (Value.type _)) _ _ _); with_reducible refine Looks.at (Looks.of_pure weak_obj) ?_)) | lk))
  refine KFB.if_not (by show ((entries.any fun x => x.key.isStr (Slots.mangle "K" "obj")) && _) = false; rw [m1, hn]; rfl) ?_
  refine KFB.if_not (by show (Slots.mangle "K" "obj" == "__del__") = false; rw [m1]; decide +kernel) ?_
  repeat (first | ((with_reducible show wpAny _ _ (collect _) _ _ _); refine Halt.out ?_) | (first | ((with_reducible show wpAny _ _ (Slots.bestBase _) _ _ _); with_reducible refine Looks.at (Looks.of_pure best_obj) ?_) | ((with_reducible show wpAny _ _ (Slots.slotNamesOf (Value.type _)) _ _ _); with_reducible refine Looks.at (Looks.of_pure sn_obj) ?_) | ((with_reducible show wpAny _ _ (Slots.givesDict (Value.type _)) _ _ _); with_reducible refine Looks.at (Looks.of_pure gd_obj) ?_) | ((with_reducible show wpAny _ _ (Slots.varSize (Value.type _)) _ _ _); with_reducible refine Looks.at (Looks.of_pure vs_obj) ?_) | ((with_reducible show wpAny _ _ (Slots.givesWeak (Value.type _)) _ _ _); with_reducible refine Looks.at (Looks.of_pure weak_obj) ?_)) | lk)
  have z := h _ D'
  rw [← m1] at z
  exact z
end
end Mine
end
section
open PySem PySem.W PyProof.Rows PySem.Calls PySem.Builtin
set_option Elab.async false
set_option maxRecDepth 100000
set_option maxHeartbeats 800000
namespace Mine
set_option pp.deepTerms false
set_option pp.deepTerms.threshold 8
set_option linter.unusedVariables false
noncomputable def putS (sl : List (Option Value)) (j : Nat) (v : Option Value) : List (Option Value) := (sl ++ List.replicate (j + 1 - sl.length) none).set j v
theorem putS_arr (sl : List (Option Value)) (j : Nat) (v : Option Value) : (sl.toArray ++ Array.replicate (j + 1 - sl.toArray.size) none).setIfInBounds j v = (putS sl j v).toArray := by
  unfold putS
  apply Array.toList_inj.mp
  simp
section
variable {prog : Program} {w : World} {A : Around} {E : Value → Shared → Prop} {h₀ h : Heap} {g : Array GenState} {d : Drawn} {t : Nat} {os : OsState} {L P : Addr} {m : PySem.Str → Option Value} {led news : List (Addr × Obj)} {ps : Array Value}
theorem clx_alloc {α : Type} {o : Obj} {k : Addr → Sem α} {Q : α → Shared → Prop} (D : Cl h₀ L P m h led ps news) (hf : o.isFreed = false) (hk : ∀ a h', Cl h₀ L P m h' ((a, o) :: led) ps news → wpAny (model prog w) A (k a) Q E ⟨h', g, d, t, os⟩) :
    wpAny (model prog w) A (.alloc o k) Q E ⟨h, g, d, t, os⟩ := cl_alloc (s := ⟨h, g, d, t, os⟩) D hf hk
theorem clx_update {α : Type} {a : Addr} {o o' : Obj} {q : Option Value} {f : Obj → Obj} {k : Unit → Sem α} {Q : α → Shared → Prop} (D : Cl h₀ L P m h led ps news) (i : Nat) (hi : led[i]? = some (a, o)) (e : f o = o') (hf : o'.isFreed = false)
    (hk : ∀ h', Cl h₀ L P m h' (led.set i (a, o')) ps news → wpAny (model prog w) A (k ()) Q E ⟨h', g, d, t, os⟩) : wpAny (model prog w) A (.update a q f k) Q E ⟨h, g, d, t, os⟩ :=
  cl_update (s := ⟨h, g, d, t, os⟩) D i hi e hf hk
theorem clx_nsSet {a : Addr} {es : List DictEntry} {n : Nat} {k : PySem.Str} {v : Value} {Q : Unit → Shared → Prop} (D : Cl h₀ L P m h led ps news) (i : Nat) (hi : led[i]? = some (a, dictOf es n)) (hs : nsNew k es = true)
    (hq : ∀ h', Cl h₀ L P m h' (led.set i (a, dictOf (es ++ [⟨PyData.keyHash w.params k, .str k t, v⟩]) (n + 1))) ps news → Q () ⟨h', g, d, t + 1, os⟩) :
    wpAny (model prog w) A (nsSet a k v) Q E ⟨h, g, d, t, os⟩ := cl_nsSet (s := ⟨h, g, d, t, os⟩) D i hi hs hq
theorem clx_nsSetByValue {a : Addr} {es : List DictEntry} {n : Nat} {k : PySem.Str} {v : Value} {Q : Unit → Shared → Prop} (D : Cl h₀ L P m h led ps news) (i : Nat) (hi : led[i]? = some (a, dictOf es n)) (hs : nsNew k es = true) (hz : Nat.ble es.length sizeLine = true)
    (hq : ∀ h', Cl h₀ L P m h' (led.set i (a, dictOf (es ++ [⟨PyData.keyHash w.params k, .str k t, v⟩]) (n + 1))) ps news → Q () ⟨h', g, d, t + 1, os⟩) :
    wpAny (model prog w) A (nsSetByValue a k v) Q E ⟨h, g, d, t, os⟩ := by
  unfold nsSetByValue
  refine wpAny_bind (wpAny_loadPart (D.at i hi) ?_)
  dsimp only
  have c : ¬ (decide (es.toArray.size > sizeLine) && noSuchName k es.toArray) = true := by
    rw [List.size_toArray, decide_eq_false (by have := Nat.le_of_ble_eq_true hz; omega), Bool.false_and]; exact Bool.false_ne_true
  rw [if_neg c]
  exact clx_nsSet D i hi hs hq
theorem clx_setSlot {a : Addr} {c : Value} {dd : Option Addr} {dt : Data} {sl sl' : List (Option Value)} {j : Nat} {v : Option Value} {Q : Unit → Shared → Prop} (D : Cl h₀ L P m h led ps news) (i : Nat) (hi : led[i]? = some (a, ⟨c, dd, dt, sl.toArray⟩))
    (hj : Nat.ble sizeLine j = false) (e : putS sl j v = sl') (hf : (⟨c, dd, dt, sl'.toArray⟩ : Obj).isFreed = false) (hq : ∀ h', Cl h₀ L P m h' (led.set i (a, ⟨c, dd, dt, sl'.toArray⟩)) ps news → Q () ⟨h', g, d, t, os⟩) :
    wpAny (model prog w) A (setSlotAt a j v) Q E ⟨h, g, d, t, os⟩ := by
  unfold setSlotAt
  have hn : ¬ j ≥ sizeLine := fun q => by rw [Nat.ble_eq_true_of_le q] at hj; cases hj
  rw [if_neg hn]
  refine wpAny_bind (wpAny_pure ?_)
  have e2 : (fun o : Obj => { o with slots := (o.slots ++ Array.replicate (j + 1 - o.slots.size) none).setIfInBounds j v }) (⟨c, dd, dt, sl.toArray⟩ : Obj) = ⟨c, dd, dt, sl'.toArray⟩ := by
    show (⟨c, dd, dt, _⟩ : Obj) = _
    rw [← e, ← putS_arr]
  exact wpAny_updatePart (D.at i hi) (hq _ (D.upd i (f := fun o : Obj => { o with slots := (o.slots ++ Array.replicate (j + 1 - o.slots.size) none).setIfInBounds j v }) hi e2 hf))
theorem clx_slotAt {M : Model} {a : Addr} {c : Value} {dd : Option Addr} {dt : Data} {sl : List (Option Value)} {j : Nat} {r : Option Value} (D : Cl h₀ L P m h led ps news) (i : Nat) (hi : led[i]? = some (a, ⟨c, dd, dt, sl.toArray⟩)) (e : (sl[j]?).join = r) : Looks M h (slotAt a j) r :=
  (Looks.ld (D.at i hi)).andThen (Looks.of_pure (by show (pure _ : Sem (Option Value)) = pure r; rw [← e, List.getElem?_toArray]))
theorem clx_updCls {a : Addr} {c : Value} {dd : Option Addr} {cd cd' : ClassData} {sl : Array (Option Value)} {f : ClassData → ClassData} {Q : Unit → Shared → Prop} (D : Cl h₀ L P m h led ps news) (i : Nat) (hi : led[i]? = some (a, ⟨c, dd, .cls cd, sl⟩)) (e : f cd = cd') (hp : (Data.cls cd').pastItsLine = none)
    (hq : ∀ h', Cl h₀ L P m h' (led.set i (a, ⟨c, dd, .cls cd', sl⟩)) ps news → Q () ⟨h', g, d, t, os⟩) : wpAny (model prog w) A (updateCls a f) Q E ⟨h, g, d, t, os⟩ :=
  cl_updCls (s := ⟨h, g, d, t, os⟩) D i hi e hp hq
theorem Cl.cast {led' : List (Addr × Obj)} (D : Cl h₀ L P m h led ps news) (e : led = led') : Cl h₀ L P m h led' ps news := e ▸ D
theorem look_cls {M : Model} {C : Addr} {c : Value} {dd : Option Addr} {cd : ClassData} {sl : Array (Option Value)} (D : Cl h₀ L P m h led ps news) (i : Nat) (hi : led[i]? = some (C, ⟨c, dd, .cls cd, sl⟩)) : Looks M h (classData C) cd :=
  (Looks.ld (D.at i hi)).andThen .now
theorem look_mro {M : Model} {C : Addr} {c : Value} {dd : Option Addr} {cd : ClassData} {sl : Array (Option Value)} {l : List Value} (D : Cl h₀ L P m h led ps news) (i : Nat) (hi : led[i]? = some (C, ⟨c, dd, .cls cd, sl⟩)) (hm : cd.mro = l) : Looks M h (mroOf (.ref C)) l :=
  hm ▸ (look_cls D i hi).andThen .now
theorem look_obj {M : Model} {k : PySem.Str} {r : Option Value} (e : ownIn [] k (.type "object") = some r) : Looks M h (classOwn (.type "object") k) r := looks_ownIn in_nil e
theorem look_own {M : Model} {C N : Addr} {c : Value} {dd : Option Addr} {cd : ClassData} {sl : Array (Option Value)} {oN : Obj} {k : PySem.Str} {r : Option Value} (D : Cl h₀ L P m h led ps news) (i j : Nat) (hi : led[i]? = some (C, ⟨c, dd, .cls cd, sl⟩)) (hn : cd.ns = N) (hj : led[j]? = some (N, oN)) (e : lookIn k oN = some r) : Looks M h (classOwn (.ref C) k) r := by
  subst hn
  exact (look_cls D i hi).andThen (looks_nsGet (D.at j hj) e)
theorem look_type {M : Model} {C N : Addr} {c : Value} {dd : Option Addr} {cd : ClassData} {sl : Array (Option Value)} {oN : Obj} {k : PySem.Str} {r r' : Option Value} (D : Cl h₀ L P m h led ps news) (i j : Nat) (hi : led[i]? = some (C, ⟨c, dd, .cls cd, sl⟩)) (hm : cd.mro = [.ref C, .type "object"]) (hn : cd.ns = N)
    (hj : led[j]? = some (N, oN)) (e : lookIn k oN = some r) (e2 : match r with | some v => r' = some v | none => ownIn [] k (.type "object") = some r') : Looks M h (typeLookup (.ref C) k) r' := by
  unfold typeLookup
  refine (look_mro D i hi hm).andThen ?_
  intro A Q E s kp q
  refine wpAny_bind ?_
  rw [List.forIn_cons]
  refine wpAny_bind (wpAny_bind (look_own D i j hi hn hj e A _ E s kp ?_))
  cases r with
  | some v => cases e2; exact wpAny_pure (wpAny_pure (wpAny_pure q))
  | none =>
    refine wpAny_pure ?_
    dsimp only
    rw [List.forIn_cons]
    refine wpAny_bind (wpAny_bind (look_obj (h := h) e2 A _ E s kp ?_))
    cases r' with
    | some v => exact wpAny_pure (wpAny_pure (wpAny_pure q))
    | none =>
      refine wpAny_pure ?_
      dsimp only
      rw [List.forIn_nil]
      exact wpAny_pure (wpAny_pure q)
end
end Mine
end
section
open PySem PySem.W PyProof.Rows PySem.Calls PySem.Builtin
set_option Elab.async false
set_option maxRecDepth 100000
set_option maxHeartbeats 800000
namespace Mine
set_option pp.deepTerms false
set_option pp.deepTerms.threshold 8
set_option linter.unusedVariables false
noncomputable abbrev mdObj (C : Addr) (tn : Tok) : Obj := { cls := .type "member_descriptor", data := .fields #[.str "obj" tn, .ref C, .builtin "proto.slot", .builtin "proto.slot#set", .int 0 0] }
section
variable {prog : Program} {w : World} {A : Around} {E : Value → Shared → Prop} {h₀ h : Heap} {g : Array GenState} {d : Drawn} {t : Nat} {os : OsState} {L P : Addr} {m : PySem.Str → Option Value} {led news : List (Addr × Obj)} {ps : Array Value}
theorem clx_newFields {ty : String} {vs : List Value} {Q : Value → Shared → Prop} (D : Cl h₀ L P m h led ps news) (hz : vs.length ≤ sizeLine + 2) (hq : ∀ a h', Cl h₀ L P m h' ((a, { cls := .type ty, data := .fields vs.toArray }) :: led) ps news → Q (.ref a) ⟨h', g, d, t, os⟩) :
    wpAny (model prog w) A (newFields ty vs) Q E ⟨h, g, d, t, os⟩ := by
  unfold newFields
  exact wpAny_newObj_type (hq _ _ (D.push rfl)) (by show vs.toArray.size ≤ _; rw [List.size_toArray]; exact hz)
theorem cl_refresh {M : Model} {C N : Addr} {c : Value} {dd : Option Addr} {cd : ClassData} {sl : List (Option Value)} {oN : Obj} {v : Value} (D : Cl h₀ L P m h led ps news) (i j : Nat) (hi : led[i]? = some (C, ⟨c, dd, .cls cd, sl.toArray⟩)) (hm : cd.mro = [.ref C, .type "object"]) (hn : cd.ns = N)
    (hj : led[j]? = some (N, oN)) (e : lookIn "__new__" oN = some none) (e4 : (sl[4]?).join = some v) : Looks M h (Bind.refreshMaker C) () := by
  have e2 : ownIn [] "__new__" (.type "object") = some (some (.builtin "object.__new__")) := by kernel_rfl
  unfold Bind.refreshMaker
  refine (clx_slotAt D i hi e4).andThen ?_
  dsimp only [Option.isNone]
  rw [if_neg Bool.false_ne_true]
  refine (look_type D i j hi hm hn hj e e2).andThen ?_
  (try dsimp only)
  rw [if_neg (by decide +kernel)]
  exact .now
theorem cl_install {C N : Addr} {c : Value} {dd : Option Addr} {cd : ClassData} {sl : List (Option Value)} {es : List DictEntry} {n : Nat} {Q : Unit → Shared → Prop} (D : Cl h₀ L P m h led ps news) (i j : Nat) (hi : led[i]? = some (C, ⟨c, dd, .cls cd, sl.toArray⟩)) (hj : led[j]? = some (N, dictOf es n)) (hij : i ≠ j)
    (e : lookIn "obj" (dictOf es n) = some none) (hs : nsNew "obj" es = true) (hz : Nat.ble es.length sizeLine = true) (hp : (Data.cls { cd with hasDict := false, slotNames := ["obj"] }).pastItsLine = none)
    (hq : ∀ MD h', Cl h₀ L P m h' ((MD, mdObj C t) :: (led.set j (N, dictOf (es ++ [⟨PyData.keyHash w.params "obj", .str "obj" (t + 1), .ref MD⟩]) (n + 1))).set i (C, ⟨c, dd, .cls { cd with hasDict := false, slotNames := ["obj"] }, sl.toArray⟩)) ps news → Q () ⟨h', g, d, t + 2, os⟩) :
    wpAny (model prog w) A (Slots.install (.ref C) N [.type "object"] { names := ["obj"], dict := false, weak := false, inherited := [] }) Q E ⟨h, g, d, t, os⟩ := by
  unfold Slots.install
  (try dsimp only)
  refine wpAny_bind ?_
  rw [List.forIn_cons]
  refine wpAny_bind (wpAny_bind ((looks_nsGet (D.at j hj) e).here ?_))
  dsimp only [Option.isNone]
  rw [if_pos rfl]
  refine wpAny_bind (m := mkStr "obj") (f := fun v => newFields _ [v, _, _, _, _] >>= _) ?_
  unfold mkStr
  rw [if_neg (by decide +kernel)]
  refine wpAny_bind (m := fresh) (wpAny_fresh (wpAny_pure ?_))
  (try dsimp only)
  refine wpAny_bind (clx_newFields D (by show (5 : Nat) ≤ _; rw [sizeLine_eq]; omega) fun MD h1 D1 => ?_)
  refine wpAny_bind (clx_nsSetByValue D1 (j + 1) hj hs hz fun h2 D2 => ?_)
  refine wpAny_pure ?_
  (try dsimp only)
  rw [List.forIn_nil]
  refine wpAny_pure ?_
  refine wpAny_bind ?_
  rw [List.forIn_cons, gd_obj]
  refine wpAny_bind (wpAny_bind (wpAny_pure ?_))
  (try dsimp only)
  rw [if_neg Bool.false_ne_true]
  refine wpAny_pure ?_
  (try dsimp only)
  rw [List.forIn_nil]
  refine wpAny_pure ?_
  rw [if_neg (by decide +kernel)]
  have hi2 : (((MD, mdObj C t) :: led).set (j + 1) (N, dictOf (es ++ [⟨PyData.keyHash w.params "obj", .str "obj" (t + 1), .ref MD⟩]) (n + 1)))[i + 1]? = some (C, ⟨c, dd, .cls cd, sl.toArray⟩) := by show (led.set j _)[i]? = _; rw [List.getElem?_set_ne (Ne.symm hij)]; exact hi
  refine clx_updCls D2 (i + 1) hi2 rfl hp ?_
  intro h3 D3
  exact hq _ _ D3
end
end Mine
end
section
open PySem PySem.W PyProof.Rows PySem.Calls PySem.Builtin
set_option Elab.async false
set_option maxRecDepth 100000
set_option maxHeartbeats 800000
namespace Mine
set_option pp.deepTerms false
set_option pp.deepTerms.threshold 8
set_option linter.unusedVariables false
noncomputable abbrev suObj (C : Addr) : Obj := { cls := .type "super", data := .fields #[.ref C, .ref C, .ref C] }
noncomputable abbrev isObj (C : Addr) : Obj := { cls := .type "builtin_function_or_method", data := .fields #[.builtin "object.__init_subclass__", .ref C] }
noncomputable abbrev kCd (C N : Addr) : ClassData := { name := "K", bases := [.type "object"], mro := [.ref C, .type "object"], ns := N, qualname := "cmp_to_key.<locals>.K", hasDict := false, slotNames := ["obj"] }
theorem owner_isc : (kfb_private% "ownerAndName") "object.__init_subclass__" = ("object", "__init_subclass__") := by first | decide +kernel | kernel_rfl
theorem ty_isc : typeOf (.builtin "object.__init_subclass__") = pure (.type "classmethod_descriptor") := by show builtinType _ = _; rw [builtinType_eq_fast]; kernel_rfl
theorem entry_isc : entryFor table "object.__init_subclass__" = some Builtin.«object.__init_subclass__» := entryFor_of_tree (by kernel_rfl)
section
variable {prog : Program} {w : World} {A : Around} {E : Value → Shared → Prop} {h₀ h : Heap} {g : Array GenState} {d : Drawn} {t : Nat} {os : OsState} {L P : Addr} {m : PySem.Str → Option Value} {led news : List (Addr × Obj)} {ps : Array Value}
theorem Cl.setHead {h' : Heap} {a : Addr} {o o' : Obj} (D : Cl h₀ L P m h ((a, o) :: led) ps news) (hx : Heap.ExtBut a h h') (e : h'.get? a = some o') : Cl h₀ L P m h' ((a, o') :: led) ps news := by
  have hm := D.nw (a, o) (List.mem_append_left _ (.head _))
  have old : ∀ b o, h₀.get? b = some o → h'.get? b = some o := fun b o e => hx b o (fun q => by rw [q, hm.2.2] at e; cases e) (D.fr.keep b o e)
  refine ⟨⟨D.fr.ns.extBut hx hm.2.1.symm, old, D.fr.above⟩, fun q hq => ?_, D.ord, fun q hq r hr => ?_, D.off⟩
  · rcases List.mem_append.mp hq with hq | hq
    · rcases List.mem_cons.mp hq with rfl | hq
      · exact ⟨e, hm.2⟩
      · have z := D.nw q (List.mem_append_left _ (.tail _ hq))
        exact ⟨hx _ _ (fun q1 => (List.pairwise_cons.mp D.ord).1 q.1 (List.mem_map_of_mem hq) q1.symm) z.1, z.2⟩
    · have z := D.nw q (List.mem_append_right _ hq)
      exact ⟨hx _ _ (Nat.ne_of_lt (D.abv q hq (a, o) (.head _))) z.1, z.2⟩
  · rcases List.mem_cons.mp hr with rfl | hr
    · exact D.abv q hq (a, o) (.head _)
    · exact D.abv q hq r (.tail _ hr)
theorem look_sub {M : Model} {C : Addr} {c : Value} {dd : Option Addr} {cd : ClassData} {sl : Array (Option Value)} {b : Value} {r : Bool} (D : Cl h₀ L P m h led ps news) (i : Nat) (hi : led[i]? = some (C, ⟨c, dd, .cls cd, sl⟩)) (hm : cd.mro = [.ref C, .type "object"]) (e : ([.ref C, .type "object"] : List Value).contains b = r) : Looks M h (isSubtype (.ref C) b) r := by
  unfold isSubtype
  refine (look_mro D i hi hm).andThen ?_
  dsimp only [List.isEmpty]
  rw [if_neg Bool.false_ne_true, ← e]
  exact .now
theorem look_isType {M : Model} {C : Addr} {c : Value} {dd : Option Addr} {cd : ClassData} {sl : Array (Option Value)} (D : Cl h₀ L P m h led ps news) (i : Nat) (hi : led[i]? = some (C, ⟨c, dd, .cls cd, sl⟩)) : Looks M h (isType (.ref C)) true :=
  (Looks.ld (D.at i hi)).andThen .now
theorem self_in (C : Addr) : ([.ref C, .type "object"] : List Value).contains (.ref C) = true := by simp
theorem obj_in (C : Addr) : ([.ref C, .type "object"] : List Value).contains (.type "object") = true := by simp
theorem cl_super {C : Addr} {c : Value} {dd : Option Addr} {cd : ClassData} {sl : Array (Option Value)} {Q : Value → Shared → Prop} (D : Cl h₀ L P m h led ps news) (i : Nat) (hi : led[i]? = some (C, ⟨c, dd, .cls cd, sl⟩)) (hm : cd.mro = [.ref C, .type "object"])
    (hq : ∀ S h', Cl h₀ L P m h' ((S, suObj C) :: led) ps news → Q (.ref S) ⟨h', g, d, t, os⟩) : wpAny (model prog w) A (call (.type "super") [.ref C, .ref C]) Q E ⟨h, g, d, t, os⟩ := by
  refine ks_callType_codesW (Q₁ := fun obj s₁ => obj = .ref h.objs.size ∧ s₁ = ⟨h.push { cls := .type "super", data := .fields #[.none, .none, .none] }, g, d, t, os⟩) F.ks_called_super (ks_wpAny_checkTypeCall_super (D.at i hi) rfl) F.ks_entry_super_init
    (ks_code_super_new _ _ ⟨rfl, rfl⟩) fun obj s₁ h₁ => ?_
  obtain ⟨rfl, rfl⟩ := h₁
  have hso : (h.push { cls := .type "super", data := .fields #[.none, .none, .none] }).get? h.objs.size = some { cls := .type "super", dict := none, data := .fields #[.none, .none, .none], slots := #[] } := Heap.get?_push_at rfl rfl
  have D1 := D.push (o := { cls := .type "super", data := .fields #[.none, .none, .none] }) rfl
  have hi1 : ((h.objs.size, ({ cls := .type "super", data := .fields #[.none, .none, .none] } : Obj)) :: led)[i + 1]? = some (C, ⟨c, dd, .cls cd, sl⟩) := hi
  have t1 : Looks (model prog w) _ _ _ := look_isType D1 (i + 1) hi1
  have t2 : Looks (model prog w) _ _ _ := look_sub (b := .ref C) D1 (i + 1) hi1 hm (self_in C)
  refine ⟨⟨_, hso, rfl⟩, F.ks_initArgs_super _ _ _, ?_⟩
  unfold Builtin.«super.__init__» noKeywords
  repeat (first | (with_reducible refine Looks.at t1 ?_) | (with_reducible refine Looks.at t2 ?_) | (with_reducible refine ks_wpAny_super_set3 hso ?_) | wp_step)
  all_goals first
    | (intro h' e k; exact ⟨rfl, hq _ h' (D1.setHead k e)⟩)
    | (refine ks_wpAny_super_set3 hso ?_; intro h' e k; exact ⟨rfl, hq _ h' (D1.setHead k e)⟩)
theorem cl_isc {M : Model} {C : Addr} {c : Value} {dd : Option Addr} {cd : ClassData} {sl : Array (Option Value)} {Q : Fin → Shared → Prop} (D : Cl h₀ L P m h led ps news) (i : Nat) (hi : led[i]? = some (C, ⟨c, dd, .cls cd, sl⟩)) (hm : cd.mro = [.ref C, .type "object"])
    (hq : ∀ S h', Cl h₀ L P m h' ((S, isObj C) :: led) ps news → Q (.done (.ret (.ref S))) ⟨h', g, d, t, os⟩) : wpAny M A (Builtin.«classmethod_descriptor.__get__» ⟨[.builtin "object.__init_subclass__", .none, .ref C], []⟩) Q E ⟨h, g, d, t, os⟩ := by
  unfold Builtin.«classmethod_descriptor.__get__»
  refine wpAny_bind (wpAny_of_eq (a := (.builtin "object.__init_subclass__", none, some (.ref C))) (by first | rfl | kernel_rfl) ?_)
  simp only [owner_isc]
  refine wpAny_bind (wpAny_of_eq (a := .ref C) rfl ?_)
  refine wpAny_bind (Looks.at (look_isType D i hi) ?_)
  refine KFB.if_not rfl ?_
  refine wpAny_bind (Looks.at (look_sub (b := .type "object") D i hi hm (obj_in C)) ?_)
  refine KFB.if_not rfl ?_
  exact wpAny_bind (wpAny_newObj_type (wpAny_pure (hq _ _ (D.push rfl))))
theorem isc_own : ownIn [] "__init_subclass__" (.type "object") = some (some (.builtin "object.__init_subclass__")) := by kernel_rfl
theorem cl_superGet {C S : Addr} {c : Value} {dd : Option Addr} {cd : ClassData} {sl : Array (Option Value)} {Q : Value → Shared → Prop} (D : Cl h₀ L P m h led ps news) (i j : Nat) (hi : led[i]? = some (C, ⟨c, dd, .cls cd, sl⟩)) (hm : cd.mro = [.ref C, .type "object"]) (hj : led[j]? = some (S, suObj C))
    (ho : Looks (model prog w) h (opaqueClassAbove (.ref C)) none)
    (hq : ∀ B h', Cl h₀ L P m h' ((B, isObj C) :: led) ps news → Q (.ref B) ⟨h', g, d, t + 1, os⟩) : wpAny (model prog w) A (getAttr (.ref S) "__init_subclass__") Q E ⟨h, g, d, t, os⟩ := by
  have hlk := F.ks_slot_super_ga.lookup
  have hso : h.get? S = some { cls := .type "super", dict := none, data := .fields #[.ref C, .ref C, .ref C], slots := #[] } := D.at j hj
  have hdt : ({ cls := .type "super", dict := none, data := .fields #[.ref C, .ref C, .ref C], slots := #[] } : Obj).data = .fields #[.ref C, .ref C, .ref C] := rfl
  have f0 : (#[.ref C, .ref C, .ref C] : Array Value)[0]? = some (.ref C) := rfl
  have f1 : (#[.ref C, .ref C, .ref C] : Array Value)[1]? = some (.ref C) := rfl
  have f2 : (#[.ref C, .ref C, .ref C] : Array Value)[2]? = some (.ref C) := rfl
  have hT : ∀ t', (⟨h, g, d, t', os⟩ : Shared).TypeIs (.ref S) "super" := fun _ => ⟨_, hso, rfl⟩
  have hl : (([.ref C, .type "object"] : List Value).dropWhile (· != .ref C)).drop 1 = [.type "object"] := by simp
  unfold getAttr getAttrBy
  refine wpAny_bind (wpAny_mkText (wpAny_holding (wpAny_bind (wpAny_typeOf (hT _) (wpAny_bind (wpAny_of_eq hlk ?_))))))
  show wpAny _ _ (getAttrByItsOwn (.ref S) (.str "__init_subclass__" t) (.type "super") (.builtin "super.__getattribute__") true false) _ _ _
  unfold getAttrByItsOwn hookBefore callGetattribute boundAndCalled
  refine wpAny_bind (wpAny_of_eq (show (if onTheHeap (.type "super") then typeLookup (.type "super") "__getattr__" else pure none) = pure none from rfl) ?_)
  refine wpAny_bind (wpAny_attempt (wpAny_holding ?_))
  rw [show (false && onTheHeap (Value.builtin "super.__getattribute__")) = false from rfl, if_neg (by decide), F.ks_slot_super_ga.bind]
  refine wpAny_bind (wpAny_pure ?_)
  show wpAny _ _ (call (.builtin "super.__getattribute__") [.ref S, .str "__init_subclass__" t]) _ _ _
  refine wpAny_call (codeAny_call_builtin F.ks_slot_super_ga.plain F.ks_entry_super_ga (F.ks_slot_super_ga.check _ _ _ _ _ _ _ _ (hT _) (F.ks_gaArgs_super _ _) ?_))
  unfold Builtin.«super.__getattribute__»
  have hself : (Value.ref C == Value.ref C) = true := by simp
  repeat (first
    | (with_reducible refine wpAny_field hso hdt f0 ?_) | (with_reducible refine wpAny_field hso hdt f1 ?_) | (with_reducible refine wpAny_field hso hdt f2 ?_)
    | (with_reducible refine ks_wpAny_notOpaque ho ?_)
    | (with_reducible refine Looks.at (look_mro D i hi hm) ?_; rw [hl])
    | (with_reducible refine Looks.at (look_obj isc_own) ?_)
    | (with_reducible refine wpAny_of_eq ty_isc ?_)
    | (with_reducible refine wpAny_of_eq KFB.slot_get.lookup ?_)
    | (rw [hself, if_pos rfl])
    | ((with_reducible show wpAny _ _ (call (.builtin "classmethod_descriptor.__get__") _) _ _ _); refine wpAny_call_entry KFB.slot_get ty_isc KFB.entry_get (cl_isc D i hi hm fun B h1 D1 => ?_) (KFB.args_get _ _ _))
    | (with_reducible refine ⟨_, rfl, ?_⟩)
    | wp_step
    | dsimp only)
  all_goals exact hq _ _ (by assumption)
theorem cl_iscCall {C N B : Addr} {dd : Option Addr} {sl : Array (Option Value)} {Q : Value → Shared → Prop} (D : Cl h₀ L P m h led ps news) (i j : Nat) (hi : led[i]? = some (B, isObj C)) (hj : led[j]? = some (C, ⟨.type "type", dd, .cls (kCd C N), sl⟩)) (hq : Q .none ⟨h, g, d, t, os⟩) : wpAny (model prog w) A (call (.ref B) []) Q E ⟨h, g, d, t, os⟩ := by
  have hC := D.at j hj
  refine wpAny_call ?_
  refine codeAny_of_tree ?_
  show wpAny _ _ (callAny (.ref B) _) _ _ _
  refine nd_load (D.at i hi) ?_
  dsimp only
  repeat lk

  refine ⟨Code.quiet_builtin _ (by decide +kernel), codeAny_builtin entry_isc ?_⟩
  unfold Builtin.«object.__init_subclass__»
  repeat lk
  first | exact hq | exact ⟨_, rfl, hq⟩
theorem nd_try {M : Model} {α : Type} {s : Shared} {m : Sem α} {k : Value → Sem α} {Q : α → Shared → Prop} (h : wpAny M A m Q (fun e s' => wpAny M A (k e) Q E s') s) : wpAny M A (m.tryCatch k) Q E s := wpAny_tryCatch h
theorem loop_same {M : Model} {α β : Type} {s : Shared} {es : List α} {b : β} {body : α → β → Sem (ForInStep β)} {Q : β → Shared → Prop} (hb : ∀ e ∈ es, ∀ R : ForInStep β → Shared → Prop, R (.yield b) s → wpAny M A (body e b) R E s) (hq : Q b s) : wpAny M A (forIn es.toArray b body) Q E s := by
  rw [List.forIn_toArray]
  induction es with
  | nil => rw [List.forIn_nil]; exact wpAny_pure hq
  | cons e es ih =>
    rw [List.forIn_cons]
    refine wpAny_bind (hb e (.head _) _ ?_)
    exact ih fun x hx => hb x (.tail _ hx)
theorem spec_ref {M : Model} {a : Addr} {o : Obj} {T : String} {k : PySem.Str} {r : Option Value} (D : Cl h₀ L P m h led ps news) (i : Nat) (hi : led[i]? = some (a, o)) (hc : o.cls = .type T) (e : findIn [] (.type T) k = some r) : Looks M h (specialOf (.ref a) k) r := by
  unfold specialOf
  exact ((Looks.ld (D.at i hi)).andThen (by rw [hc]; exact .now)).andThen (tl_nil e)
theorem spec_str {M : Model} {x : PySem.Str} {tk : Tok} : Looks M h (specialOf (.str x tk) "__set_name__") none := Looks.andThen (a := .type "str") .now (tl_nil (by kernel_rfl))
theorem spec_int {M : Model} {x : Int} {tk : Tok} : Looks M h (specialOf (.int x tk) "__set_name__") none := Looks.andThen (a := .type "int") .now (tl_nil (by kernel_rfl))
theorem spec_none {M : Model} : Looks M h (specialOf .none "__set_name__") none := Looks.andThen (a := .type "NoneType") .now (tl_nil (by kernel_rfl))
theorem arr_halt {M : Model} {α β : Type} {s : Shared} {es : List α} {b : β} {body : α → β → Sem (ForInStep β)} {Q : β → Shared → Prop} (q : Halt (wpAny M A (forIn es.toArray b body) Q E s)) : wpAny M A (forIn es.toArray b body) Q E s := q.out
end
end Mine
end
section
open PySem PySem.W PyProof.Rows PySem.Calls PySem.Builtin
set_option Elab.async false
set_option maxRecDepth 100000
set_option maxHeartbeats 8000000
namespace Mine
set_option pp.deepTerms false
set_option pp.deepTerms.threshold 6
set_option linter.unusedVariables false
theorem made_type : Bind.madeBy (.type "type") = pure (some "type.__new__") := by kernel_rfl
theorem ext_obj : Builtin.extendedBase [.type "object"] = pure (.type "object") := by kernel_rfl
theorem not_over : Builtin.notOverATurnedClass [.type "object"] = pure () := by kernel_rfl
theorem mro_type : mroOf (.type "type") = pure [.type "type", .type "object"] := by kernel_rfl
theorem hook_none : Builtin.mroHook? (.type "type") = pure none := by kernel_rfl
theorem lin_obj : Builtin.linearize [.type "object"] mroOf = pure [.type "object"] := by kernel_rfl
theorem made_obj : Bind.madeBy (.type "object") = pure (some "object.__new__") := by kernel_rfl
noncomputable abbrev clsAll (w : World) (tk1 tk2 tk3 tk4 tk5 u1 u2 u3 u4 u5 u6 u7 u8 u9 u11 : Tok) (LST fI fL fG fE fA fB ST : Addr) : List DictEntry := clsEs w tk1 tk2 tk3 tk4 tk5 u1 u2 u3 u4 u5 u6 u7 u8 u9 LST fI fL fG fE fA fB ++ [de w "__static_attributes__" u11 (.ref ST)]
noncomputable abbrev clsNs (w : World) (tk1 tk4 tk5 u1 u2 u3 u4 u5 u6 u7 u8 u9 u11 : Tok) (LST fI fL fG fE fA fB ST : Addr) : List DictEntry :=
  [de w "__module__" tk1 (.str "cpy313.functools" u1), de w "__firstlineno__" tk4 (.int 15 tk5), de w "__slots__" u2 (.ref LST), de w "__init__" u3 (.ref fI), de w "__lt__" u4 (.ref fL),
   de w "__gt__" u5 (.ref fG), de w "__eq__" u6 (.ref fE), de w "__le__" u7 (.ref fA), de w "__ge__" u8 (.ref fB), de w "__hash__" u9 .none, de w "__static_attributes__" u11 (.ref ST)]
noncomputable abbrev clsFin (w : World) (tk1 tk4 tk5 u1 u2 u3 u4 u5 u6 u7 u8 u9 u11 u12 u13 : Tok) (LST fI fL fG fE fA fB ST MD : Addr) : List DictEntry :=
  [de w "__module__" tk1 (.str "cpy313.functools" u1), de w "__firstlineno__" tk4 (.int 15 tk5), de w "__slots__" u2 (.ref LST), de w "__init__" u3 (.ref fI), de w "__lt__" u4 (.ref fL),
   de w "__gt__" u5 (.ref fG), de w "__eq__" u6 (.ref fE), de w "__le__" u7 (.ref fA), de w "__ge__" u8 (.ref fB), de w "__hash__" u9 .none, de w "__static_attributes__" u11 (.ref ST), de w "obj" u12 (.ref MD), de w "__doc__" u13 .none]
theorem nsub_obj (a : Addr) : noteSubclassOfBuiltin "object" a = pure () := by
  unfold noteSubclassOfBuiltin
  rw [if_pos (by decide +kernel)]
theorem ti_kind : builtinKind "type.__init__" = some .slot := by decide +kernel
theorem ti_split : splitId "type.__init__" = some ("type", "__init__") := by decide +kernel
theorem ti_args (a b c d : Value) : argsOk "type.__init__" ⟨[a, b, c, d], []⟩ := by unfold argsOk; kernel_rfl
theorem entry_ti : entryFor table "type.__init__" = some Builtin.«type.__init__» := entryFor_of_tree (by kernel_rfl)
theorem chk_tnew (a b c : Value) : checkBuiltinCall "type.__new__" ⟨[.type "type", a, b, c], []⟩ = pure () := by kernel_rfl
theorem flt_self (C : Addr) : List.filter (fun x => x != Value.ref C) [Value.ref C, Value.type "object"] = [Value.type "object"] := by simp
theorem pS0 (v : Option Value) : putS [] 0 v = [v] := rfl
theorem pS2 (a v : Option Value) : putS [a] 2 v = [a, none, v] := rfl
theorem pS3 (a b c v : Option Value) : putS [a, b, c] 3 v = [a, b, c, v] := rfl
theorem pS4 (a b c d v : Option Value) : putS [a, b, c, d] 4 v = [a, b, c, d, v] := rfl
theorem pS5 (a b c d e v : Option Value) : putS [a, b, c, d, e] 5 v = [a, b, c, d, e, v] := rfl
theorem entry_tnew : entryFor table "type.__new__" = some Builtin.«type.__new__» := entryFor_of_tree (by kernel_rfl)
section
variable {w : World} {A : Around} {E : Value → Shared → Prop} {s : Shared} {h₀ : Heap} {L P d : Addr} {m mg mb : PySem.Str → Option Value} {led news : List (Addr × Obj)} {ps : Array Value} {p : Program} {loose : List PySem.Str} {mean : ExcName → Option Value}
theorem hook_all {M : Model} {nG qG : PySem.Str} {pG : Arguments} {bG : List Stmt} {sG : Scope} {clG : List (PySem.Str × Addr)} {dG mG : Value} {cG : Addr} {kG : Value} {nE qE : PySem.Str} {pE : Arguments} {bE : List Stmt} {sE : Scope} {clE : List (PySem.Str × Addr)} {dE mE : Value} {cE : Addr} {kE : Value} {nA qA : PySem.Str} {pA : Arguments} {bA : List Stmt} {sA : Scope} {clA : List (PySem.Str × Addr)} {dA mA : Value} {cA : Addr} {kA : Value} {nB qB : PySem.Str} {pB : Arguments} {bB : List Stmt} {sB : Scope} {clB : List (PySem.Str × Addr)} {dB mB : Value} {cB : Addr} {kB : Value} {nL qL : PySem.Str} {pL : Arguments} {bL : List Stmt} {sL : Scope} {clL : List (PySem.Str × Addr)} {dL mL : Value} {cL : Addr} {kL : Value} {nI qI : PySem.Str} {pI : Arguments} {bI : List Stmt} {sI : Scope} {clI : List (PySem.Str × Addr)} {dI mI : Value} {cI : Addr} {kI : Value} {fI fL fG fE fA fB LST ST CC P' FR N0 PR BT : Addr} {oF oK oI oL : Obj} {pt : Array Value} {tk1 tk2 tk3 tk4 tk5 u0 u1 u2 u3 u4 u5 u6 u7 u8 u9 u10 u11 tn : Tok} {C N MD : Addr} {t1 t2 tm : Tok} {oC oN : Obj} {hh : Heap} (D : Cl h₀ L 63 m hh ((MD, mdObj C tm) :: (C, oC) :: (N, oN) :: (ST, { cls := .type "tuple", data := .seq #[.str "obj" u10] }) :: (fB, fnMade nB qB pB bB sB clB dB mB cB kB) :: (fA, fnMade nA qA pA bA sA clA dA mA cA kA) :: (fE, fnMade nE qE pE bE sE clE dE mE cE kE) :: (fG, fnMade nG qG pG bG sG clG dG mG cG kG) :: (fL, fnMade nL qL pL bL sL clL dL mL cL kL) :: (cL, oL) :: (fI, fnMade nI qI pI bI sI clI dI mI cI kI) :: (cI, oI) :: (LST, { cls := .type "list", data := .seq #[.str "obj" u0] }) :: (FR, oF) :: (P', tabObj pt) :: (CC, oK) :: (N0, dictOf (clsAll w tk1 tk2 tk3 tk4 tk5 u1 u2 u3 u4 u5 u6 u7 u8 u9 u11 LST fI fL fG fE fA fB ST) 12) :: (PR, prepB) :: (BT, { cls := .type "tuple", data := .seq #[.type "object"] }) :: led) ps news) :
    ∀ e ∈ clsFin w tk1 tk4 tk5 u1 u2 u3 u4 u5 u6 u7 u8 u9 u11 t1 t2 LST fI fL fG fE fA fB ST MD, laidUnderItsOwnName e.key e.val = false ∧ Looks M hh (specialOf e.val "__set_name__") none :=
  List.forall_mem_cons.mpr ⟨⟨rfl, spec_str⟩, List.forall_mem_cons.mpr ⟨⟨rfl, spec_int⟩, List.forall_mem_cons.mpr ⟨⟨rfl, spec_ref D 12 rfl rfl (by kernel_rfl)⟩, List.forall_mem_cons.mpr ⟨⟨rfl, spec_ref D 10 rfl rfl (by kernel_rfl)⟩, List.forall_mem_cons.mpr ⟨⟨rfl, spec_ref D 8 rfl rfl (by kernel_rfl)⟩, List.forall_mem_cons.mpr ⟨⟨rfl, spec_ref D 7 rfl rfl (by kernel_rfl)⟩, List.forall_mem_cons.mpr ⟨⟨rfl, spec_ref D 6 rfl rfl (by kernel_rfl)⟩, List.forall_mem_cons.mpr ⟨⟨rfl, spec_ref D 5 rfl rfl (by kernel_rfl)⟩, List.forall_mem_cons.mpr ⟨⟨rfl, spec_ref D 4 rfl rfl (by kernel_rfl)⟩, List.forall_mem_cons.mpr ⟨⟨rfl, spec_none⟩, List.forall_mem_cons.mpr ⟨⟨rfl, spec_ref D 3 rfl rfl (by kernel_rfl)⟩, List.forall_mem_cons.mpr ⟨⟨rfl, spec_ref D 0 rfl rfl (by kernel_rfl)⟩, List.forall_mem_cons.mpr ⟨⟨rfl, spec_none⟩, fun _ q => nomatch q⟩⟩⟩⟩⟩⟩⟩⟩⟩⟩⟩⟩⟩
theorem key_all {t1 t2 tk1 tk4 tk5 u1 u2 u3 u4 u5 u6 u7 u8 u9 u11 : Tok} {LST fI fL fG fE fA fB ST MD : Addr} : ∀ e ∈ clsFin w tk1 tk4 tk5 u1 u2 u3 u4 u5 u6 u7 u8 u9 u11 t1 t2 LST fI fL fG fE fA fB ST MD, ∃ k tk, e.key = .str k tk :=
  List.forall_mem_cons.mpr ⟨⟨_, _, rfl⟩, List.forall_mem_cons.mpr ⟨⟨_, _, rfl⟩, List.forall_mem_cons.mpr ⟨⟨_, _, rfl⟩, List.forall_mem_cons.mpr ⟨⟨_, _, rfl⟩, List.forall_mem_cons.mpr ⟨⟨_, _, rfl⟩, List.forall_mem_cons.mpr ⟨⟨_, _, rfl⟩, List.forall_mem_cons.mpr ⟨⟨_, _, rfl⟩, List.forall_mem_cons.mpr ⟨⟨_, _, rfl⟩, List.forall_mem_cons.mpr ⟨⟨_, _, rfl⟩, List.forall_mem_cons.mpr ⟨⟨_, _, rfl⟩, List.forall_mem_cons.mpr ⟨⟨_, _, rfl⟩, List.forall_mem_cons.mpr ⟨⟨_, _, rfl⟩, List.forall_mem_cons.mpr ⟨⟨_, _, rfl⟩, fun _ q => nomatch q⟩⟩⟩⟩⟩⟩⟩⟩⟩⟩⟩⟩⟩
theorem cl_new {nG qG : PySem.Str} {pG : Arguments} {bG : List Stmt} {sG : Scope} {clG : List (PySem.Str × Addr)} {dG mG : Value} {cG : Addr} {kG : Value} {nE qE : PySem.Str} {pE : Arguments} {bE : List Stmt} {sE : Scope} {clE : List (PySem.Str × Addr)} {dE mE : Value} {cE : Addr} {kE : Value} {nA qA : PySem.Str} {pA : Arguments} {bA : List Stmt} {sA : Scope} {clA : List (PySem.Str × Addr)} {dA mA : Value} {cA : Addr} {kA : Value} {nB qB : PySem.Str} {pB : Arguments} {bB : List Stmt} {sB : Scope} {clB : List (PySem.Str × Addr)} {dB mB : Value} {cB : Addr} {kB : Value} {nL qL : PySem.Str} {pL : Arguments} {bL : List Stmt} {sL : Scope} {clL : List (PySem.Str × Addr)} {dL mL : Value} {cL : Addr} {kL : Value} {nI qI : PySem.Str} {pI : Arguments} {bI : List Stmt} {sI : Scope} {clI : List (PySem.Str × Addr)} {dI mI : Value} {cI : Addr} {kI : Value} {fI fL fG fE fA fB LST ST CC P' FR N0 PR BT : Addr} {oF oK oI oL : Obj} {pt : Array Value} {tk1 tk2 tk3 tk4 tk5 u0 u1 u2 u3 u4 u5 u6 u7 u8 u9 u10 u11 tn : Tok} {Q : Value → Shared → Prop} (X : (fragK.heap_1 w.params).In h₀) (D : Cl h₀ L 63 m s.heap ((ST, { cls := .type "tuple", data := .seq #[.str "obj" u10] }) :: (fB, fnMade nB qB pB bB sB clB dB mB cB kB) :: (fA, fnMade nA qA pA bA sA clA dA mA cA kA) :: (fE, fnMade nE qE pE bE sE clE dE mE cE kE) :: (fG, fnMade nG qG pG bG sG clG dG mG cG kG) :: (fL, fnMade nL qL pL bL sL clL dL mL cL kL) :: (cL, oL) :: (fI, fnMade nI qI pI bI sI clI dI mI cI kI) :: (cI, oI) :: (LST, { cls := .type "list", data := .seq #[.str "obj" u0] }) :: (FR, oF) :: (P', tabObj pt) :: (CC, oK) :: (N0, dictOf (clsAll w tk1 tk2 tk3 tk4 tk5 u1 u2 u3 u4 u5 u6 u7 u8 u9 u11 LST fI fL fG fE fA fB ST) 12) :: (PR, prepB) :: (BT, { cls := .type "tuple", data := .seq #[.type "object"] }) :: led) ps news)
    (hq : ∀ C N MD h', Cl h₀ L 63 m h' ((MD, mdObj C s.toks) :: (C, ⟨.type "type", none, .cls (kCd C N), [some (.ref BT), none, some (.str "K" tn), some (.str "cmp_to_key.<locals>.K" tk3), some (.builtin "object.__new__"), some (.bool false)].toArray⟩) :: (N, dictOf (clsFin w tk1 tk4 tk5 u1 u2 u3 u4 u5 u6 u7 u8 u9 u11 (s.toks + 1) (s.toks + 1 + 1) LST fI fL fG fE fA fB ST MD) 3) :: (ST, { cls := .type "tuple", data := .seq #[.str "obj" u10] }) :: (fB, fnMade nB qB pB bB sB clB dB mB cB kB) :: (fA, fnMade nA qA pA bA sA clA dA mA cA kA) :: (fE, fnMade nE qE pE bE sE clE dE mE cE kE) :: (fG, fnMade nG qG pG bG sG clG dG mG cG kG) :: (fL, fnMade nL qL pL bL sL clL dL mL cL kL) :: (cL, oL) :: (fI, fnMade nI qI pI bI sI clI dI mI cI kI) :: (cI, oI) :: (LST, { cls := .type "list", data := .seq #[.str "obj" u0] }) :: (FR, oF) :: (P', tabObj pt) :: (CC, oK) :: (N0, dictOf (clsAll w tk1 tk2 tk3 tk4 tk5 u1 u2 u3 u4 u5 u6 u7 u8 u9 u11 LST fI fL fG fE fA fB ST) 12) :: (PR, prepB) :: (BT, { cls := .type "tuple", data := .seq #[.type "object"] }) :: led) ps news → Q (.ref C) { s with heap := h', toks := s.toks + 4 }) :
    wpAny (model PySem.Challenge.rw_kt0066_01.row.prog w) A (call (.type "type") [.str "K" tn, .ref BT, .ref N0] []) Q E s := by
  revert X; k_fill; intro X
  obtain ⟨hh, g, d, t, os⟩ := s
  dsimp only at D hq ⊢
  refine wpAny_call (codeAny_of_tree ?_)
  refine wpAny_pure (a := Fin.again (.builtin "type.__call__" ⟨[.type "type", .str "K" tn, .ref BT, .ref N0], []⟩)) (And.intro (Code.quiet_builtin _ (by decide +kernel)) (codeAny_builtin entry_typeCall ?_))
  unfold Builtin.«type.__call__»
  repeat (first | ((with_reducible show wpAny _ _ (Slots.install _ _ _ _) _ _ _); refine Halt.out ?_) | ((with_reducible show wpAny _ _ (call (Value.type "super") _ _) _ _ _); refine Halt.out ?_) | ((with_reducible show wpAny _ _ (call (Value.ref _) _ _) _ _ _); refine Halt.out ?_) | ((with_reducible show wpAny _ _ (getAttr (Value.ref _) _ _) _ _ _); refine Halt.out ?_) | with_reducible refine arr_halt ?_ | ((with_reducible show wpAny _ _ (Bind.refreshMaker _) _ _ _); refine Halt.out ?_) | ((with_reducible show wpAny _ _ (updateCls _ _) _ _ _); refine Halt.out ?_) | ((with_reducible show wpAny _ _ (List.anyM _ (List.filter _ _)) _ _ _); rw [flt_self]) | ((with_reducible show wpAny _ _ (setSlotAt _ _ _) _ _ _); (first | ((with_reducible refine clx_setSlot (by k_dflt assumption) 0 (by k_dflt rfl) (by k_dflt (decide +kernel)) (by k_dflt (first | exact pS0 _ | exact pS2 _ _ | exact pS3 _ _ _ _ | exact pS4 _ _ _ _ _ | exact pS5 _ _ _ _ _ _)) (by k_dflt rfl) ?_)) | ((with_reducible refine clx_setSlot (by k_dflt assumption) 1 (by k_dflt rfl) (by k_dflt (decide +kernel)) (by k_dflt (first | exact pS0 _ | exact pS2 _ _ | exact pS3 _ _ _ _ | exact pS4 _ _ _ _ _ | exact pS5 _ _ _ _ _ _)) (by k_dflt rfl) ?_))); intro _ _) | ((with_reducible show wpAny _ _ (nsSet _ _ _) _ _ _); refine Halt.out ?_) | ((with_reducible show wpAny _ _ (Sem.update _ _ _ _) _ _ _); (first | refine clx_update (by assumption) 0 (by rfl) rfl (by rfl) ?_ | refine clx_update (by assumption) 1 (by rfl) rfl (by rfl) ?_ | refine clx_update (by assumption) 2 (by rfl) rfl (by rfl) ?_ | refine clx_update (by assumption) 3 (by rfl) rfl (by rfl) ?_ | refine clx_update (by assumption) 4 (by rfl) rfl (by rfl) ?_ | refine clx_update (by assumption) 5 (by rfl) rfl (by rfl) ?_ | refine clx_update (by assumption) 6 (by rfl) rfl (by rfl) ?_ | refine clx_update (by assumption) 7 (by rfl) rfl (by rfl) ?_); intro _ _) | (((fail_if_success (fail_if_success (with_reducible refine' KFB.if_not (c := Array.contains _ _) ?_ ?_))); with_reducible refine KFB.if_not (c := Array.contains _ _) (by k_dflt (decide +kernel)) ?_)) | (((fail_if_success (fail_if_success (with_reducible refine' KFB.if_not (c := Array.any _ _ _ _) ?_ ?_))); with_reducible refine KFB.if_not (c := Array.any _ _ _ _) (by k_dflt (rw [← Array.any_toList]; kernel_rfl)) ?_)) | ((with_reducible refine app_abs (by assumption) ?_)) | ((with_reducible refine bind_abs ?_); intro _ _) | (first | ((with_reducible show wpAny _ _ (Bind.madeBy (Value.type _)) _ _ _); with_reducible refine Looks.at (Looks.of_pure made_type) ?_) | ((with_reducible show wpAny _ _ (Builtin.extendedBase _) _ _ _); with_reducible refine Looks.at (Looks.of_pure ext_obj) ?_) | ((with_reducible show wpAny _ _ (Builtin.notOverATurnedClass _) _ _ _); with_reducible refine Looks.at (Looks.of_pure not_over) ?_) | ((with_reducible show wpAny _ _ (mroOf (Value.type _)) _ _ _); with_reducible refine Looks.at (Looks.of_pure mro_type) ?_) | ((with_reducible show wpAny _ _ (Builtin.mroHook? _) _ _ _); with_reducible refine Looks.at (Looks.of_pure hook_none) ?_) | ((with_reducible show wpAny _ _ (Builtin.linearize _ _) _ _ _); with_reducible refine Looks.at (Looks.of_pure lin_obj) ?_) | ((with_reducible show wpAny _ _ (Slots.givesWeak (Value.type _)) _ _ _); with_reducible refine Looks.at (Looks.of_pure weak_obj) ?_) | ((with_reducible show wpAny _ _ (Bind.madeBy (Value.type _)) _ _ _); with_reducible refine Looks.at (Looks.of_pure made_obj) ?_) | ((with_reducible show wpAny _ _ (noteSubclassOfBuiltin _ _) _ _ _); with_reducible refine Looks.at (Looks.of_pure (nsub_obj _)) ?_) | with_reducible refine nd_try ?_) | (first | ((with_reducible show wpAny _ _ (typeOf (Value.type _)) _ _ _); first | with_reducible refine Looks.at lk_tobj ?_ | with_reducible refine Looks.at lk_ttyp ?_) | ((with_reducible show wpAny _ _ (isType (Value.type _)) _ _ _); first | with_reducible refine Looks.at lk_iobj ?_ | with_reducible refine Looks.at lk_ityp ?_) | ((with_reducible show wpAny _ _ (isSubtype (Value.type _) (Value.type _)) _ _ _); with_reducible refine Looks.at lk_stt ?_)) | ((with_reducible show wpAny _ _ (if (_ == sysModules) = true then _ else _) _ _ _); (first | refine cl_small (by assumption) rfl 0 (by rfl) ?_ | refine cl_small (by assumption) rfl 1 (by rfl) ?_ | refine cl_small (by assumption) rfl 2 (by rfl) ?_ | refine cl_small (by assumption) rfl 3 (by rfl) ?_ | refine cl_small (by assumption) rfl 4 (by rfl) ?_ | refine cl_small (by assumption) rfl 5 (by rfl) ?_ | refine cl_small (by assumption) rfl 6 (by rfl) ?_ | refine cl_small (by assumption) rfl 7 (by rfl) ?_ | refine cl_small (by assumption) rfl 8 (by rfl) ?_ | refine cl_small (by assumption) rfl 9 (by rfl) ?_ | refine cl_small (by assumption) rfl 10 (by rfl) ?_ | refine cl_small (by assumption) rfl 11 (by rfl) ?_ | refine cl_small (by assumption) rfl 12 (by rfl) ?_ | refine cl_small (by assumption) rfl 13 (by rfl) ?_ | refine cl_small (by assumption) rfl 14 (by rfl) ?_ | refine cl_small (by assumption) rfl 15 (by rfl) ?_ | refine cl_small (by assumption) rfl 16 (by rfl) ?_ | refine cl_small (by assumption) rfl 17 (by rfl) ?_ | refine cl_small (by assumption) rfl 18 (by rfl) ?_ | refine cl_small (by assumption) rfl 19 (by rfl) ?_ | refine cl_small (by assumption) rfl 20 (by rfl) ?_ | refine cl_small (by assumption) rfl 21 (by rfl) ?_ | refine cl_small (by assumption) rfl 22 (by rfl) ?_ | refine cl_small (by assumption) rfl 23 (by rfl) ?_)) | ((with_reducible show wpAny _ _ (Slots.read _ _ _) _ _ _); refine Halt.out ?_) | ((with_reducible show wpAny _ _ (if (_ || _ == some (Value.builtin "dict.__iter__")) = true then _ else _) _ _ _); (refine KFB.if_so (by kernel_rfl) ?_)) | with_reducible refine wpAny_call ?_ | ((with_reducible show wpAny _ _ (Sem.alloc _ _) _ _ _); refine Halt.out ?_) | (((fail_if_success (fail_if_success (with_reducible refine' Looks.at (cl_findIn (K := fragK.heap_1 _) ?_ ?_ ?_) ?_))); with_reducible refine Looks.at (cl_findIn (K := fragK.heap_1 _) (by assumption) (by assumption) (by k_dflt k_is)) ?_)) | (((fail_if_success (fail_if_success (with_reducible refine' Looks.at (looks_nsGet ?_ ?_) ?_))); with_reducible refine Looks.at (looks_nsGet (by k_dflt (first | exact Cl.at (by assumption) 0 (by rfl) | exact Cl.at (by assumption) 1 (by rfl) | exact Cl.at (by assumption) 2 (by rfl) | exact Cl.at (by assumption) 3 (by rfl) | exact Cl.at (by assumption) 4 (by rfl) | exact Cl.at (by assumption) 5 (by rfl) | exact Cl.at (by assumption) 6 (by rfl) | exact Cl.at (by assumption) 7 (by rfl) | exact Cl.at (by assumption) 8 (by rfl) | exact Cl.at (by assumption) 9 (by rfl) | exact Cl.at (by assumption) 10 (by rfl) | exact Cl.at (by assumption) 11 (by rfl) | exact Cl.at (by assumption) 12 (by rfl) | exact Cl.at (by assumption) 13 (by rfl) | exact Cl.at (by assumption) 14 (by rfl) | exact Cl.at (by assumption) 15 (by rfl) | exact Cl.at (by assumption) 16 (by rfl) | exact Cl.at (by assumption) 17 (by rfl) | exact Cl.at (by assumption) 18 (by rfl) | exact Cl.at (by assumption) 19 (by rfl) | exact Cl.at (by assumption) 20 (by rfl) | exact Cl.at (by assumption) 21 (by rfl) | exact Cl.at (by assumption) 22 (by rfl) | exact Cl.at (by assumption) 23 (by rfl))) (by k_dflt rfl)) ?_)) | (((fail_if_success (fail_if_success (with_reducible refine' nd_load ?_ ?_))); with_reducible refine nd_load (by k_dflt (first | assumption | exact Cl.at (by assumption) 0 (by rfl) | exact Cl.at (by assumption) 1 (by rfl) | exact Cl.at (by assumption) 2 (by rfl) | exact Cl.at (by assumption) 3 (by rfl) | exact Cl.at (by assumption) 4 (by rfl) | exact Cl.at (by assumption) 5 (by rfl) | exact Cl.at (by assumption) 6 (by rfl) | exact Cl.at (by assumption) 7 (by rfl) | exact Cl.at (by assumption) 8 (by rfl) | exact Cl.at (by assumption) 9 (by rfl) | exact Cl.at (by assumption) 10 (by rfl) | exact Cl.at (by assumption) 11 (by rfl) | exact Cl.at (by assumption) 12 (by rfl) | exact Cl.at (by assumption) 13 (by rfl) | exact Cl.at (by assumption) 14 (by rfl) | exact Cl.at (by assumption) 15 (by rfl) | exact Cl.at (by assumption) 16 (by rfl) | exact Cl.at (by assumption) 17 (by rfl) | exact Cl.at (by assumption) 18 (by rfl) | exact Cl.at (by assumption) 19 (by rfl) | exact Cl.at (by assumption) 20 (by rfl) | exact Cl.at (by assumption) 21 (by rfl) | exact Cl.at (by assumption) 22 (by rfl) | exact Cl.at (by assumption) 23 (by rfl))) ?_)) | lk)
  refine codeAny_call_builtin_at (Code.quiet_builtin _ (by decide +kernel)) entry_tnew ?_
  rw [chk_tnew]
  refine wpAny_pure ?_
  unfold Builtin.«type.__new__»
  repeat (first | ((with_reducible show wpAny _ _ (Slots.install _ _ _ _) _ _ _); refine Halt.out ?_) | ((with_reducible show wpAny _ _ (call (Value.type "super") _ _) _ _ _); refine Halt.out ?_) | ((with_reducible show wpAny _ _ (call (Value.ref _) _ _) _ _ _); refine Halt.out ?_) | ((with_reducible show wpAny _ _ (getAttr (Value.ref _) _ _) _ _ _); refine Halt.out ?_) | with_reducible refine arr_halt ?_ | ((with_reducible show wpAny _ _ (Bind.refreshMaker _) _ _ _); refine Halt.out ?_) | ((with_reducible show wpAny _ _ (updateCls _ _) _ _ _); refine Halt.out ?_) | ((with_reducible show wpAny _ _ (List.anyM _ (List.filter _ _)) _ _ _); rw [flt_self]) | ((with_reducible show wpAny _ _ (setSlotAt _ _ _) _ _ _); (first | ((with_reducible refine clx_setSlot (by k_dflt assumption) 0 (by k_dflt rfl) (by k_dflt (decide +kernel)) (by k_dflt (first | exact pS0 _ | exact pS2 _ _ | exact pS3 _ _ _ _ | exact pS4 _ _ _ _ _ | exact pS5 _ _ _ _ _ _)) (by k_dflt rfl) ?_)) | ((with_reducible refine clx_setSlot (by k_dflt assumption) 1 (by k_dflt rfl) (by k_dflt (decide +kernel)) (by k_dflt (first | exact pS0 _ | exact pS2 _ _ | exact pS3 _ _ _ _ | exact pS4 _ _ _ _ _ | exact pS5 _ _ _ _ _ _)) (by k_dflt rfl) ?_))); intro _ _) | ((with_reducible show wpAny _ _ (nsSet _ _ _) _ _ _); refine Halt.out ?_) | ((with_reducible show wpAny _ _ (Sem.update _ _ _ _) _ _ _); (first | refine clx_update (by assumption) 0 (by rfl) rfl (by rfl) ?_ | refine clx_update (by assumption) 1 (by rfl) rfl (by rfl) ?_ | refine clx_update (by assumption) 2 (by rfl) rfl (by rfl) ?_ | refine clx_update (by assumption) 3 (by rfl) rfl (by rfl) ?_ | refine clx_update (by assumption) 4 (by rfl) rfl (by rfl) ?_ | refine clx_update (by assumption) 5 (by rfl) rfl (by rfl) ?_ | refine clx_update (by assumption) 6 (by rfl) rfl (by rfl) ?_ | refine clx_update (by assumption) 7 (by rfl) rfl (by rfl) ?_); intro _ _) | (((fail_if_success (fail_if_success (with_reducible refine' KFB.if_not (c := Array.contains _ _) ?_ ?_))); with_reducible refine KFB.if_not (c := Array.contains _ _) (by k_dflt (decide +kernel)) ?_)) | (((fail_if_success (fail_if_success (with_reducible refine' KFB.if_not (c := Array.any _ _ _ _) ?_ ?_))); with_reducible refine KFB.if_not (c := Array.any _ _ _ _) (by k_dflt (rw [← Array.any_toList]; kernel_rfl)) ?_)) | ((with_reducible refine app_abs (by assumption) ?_)) | ((with_reducible refine bind_abs ?_); intro _ _) | (first | ((with_reducible show wpAny _ _ (Bind.madeBy (Value.type _)) _ _ _); with_reducible refine Looks.at (Looks.of_pure made_type) ?_) | ((with_reducible show wpAny _ _ (Builtin.extendedBase _) _ _ _); with_reducible refine Looks.at (Looks.of_pure ext_obj) ?_) | ((with_reducible show wpAny _ _ (Builtin.notOverATurnedClass _) _ _ _); with_reducible refine Looks.at (Looks.of_pure not_over) ?_) | ((with_reducible show wpAny _ _ (mroOf (Value.type _)) _ _ _); with_reducible refine Looks.at (Looks.of_pure mro_type) ?_) | ((with_reducible show wpAny _ _ (Builtin.mroHook? _) _ _ _); with_reducible refine Looks.at (Looks.of_pure hook_none) ?_) | ((with_reducible show wpAny _ _ (Builtin.linearize _ _) _ _ _); with_reducible refine Looks.at (Looks.of_pure lin_obj) ?_) | ((with_reducible show wpAny _ _ (Slots.givesWeak (Value.type _)) _ _ _); with_reducible refine Looks.at (Looks.of_pure weak_obj) ?_) | ((with_reducible show wpAny _ _ (Bind.madeBy (Value.type _)) _ _ _); with_reducible refine Looks.at (Looks.of_pure made_obj) ?_) | ((with_reducible show wpAny _ _ (noteSubclassOfBuiltin _ _) _ _ _); with_reducible refine Looks.at (Looks.of_pure (nsub_obj _)) ?_) | with_reducible refine nd_try ?_) | (first | ((with_reducible show wpAny _ _ (typeOf (Value.type _)) _ _ _); first | with_reducible refine Looks.at lk_tobj ?_ | with_reducible refine Looks.at lk_ttyp ?_) | ((with_reducible show wpAny _ _ (isType (Value.type _)) _ _ _); first | with_reducible refine Looks.at lk_iobj ?_ | with_reducible refine Looks.at lk_ityp ?_) | ((with_reducible show wpAny _ _ (isSubtype (Value.type _) (Value.type _)) _ _ _); with_reducible refine Looks.at lk_stt ?_)) | ((with_reducible show wpAny _ _ (if (_ == sysModules) = true then _ else _) _ _ _); (first | refine cl_small (by assumption) rfl 0 (by rfl) ?_ | refine cl_small (by assumption) rfl 1 (by rfl) ?_ | refine cl_small (by assumption) rfl 2 (by rfl) ?_ | refine cl_small (by assumption) rfl 3 (by rfl) ?_ | refine cl_small (by assumption) rfl 4 (by rfl) ?_ | refine cl_small (by assumption) rfl 5 (by rfl) ?_ | refine cl_small (by assumption) rfl 6 (by rfl) ?_ | refine cl_small (by assumption) rfl 7 (by rfl) ?_ | refine cl_small (by assumption) rfl 8 (by rfl) ?_ | refine cl_small (by assumption) rfl 9 (by rfl) ?_ | refine cl_small (by assumption) rfl 10 (by rfl) ?_ | refine cl_small (by assumption) rfl 11 (by rfl) ?_ | refine cl_small (by assumption) rfl 12 (by rfl) ?_ | refine cl_small (by assumption) rfl 13 (by rfl) ?_ | refine cl_small (by assumption) rfl 14 (by rfl) ?_ | refine cl_small (by assumption) rfl 15 (by rfl) ?_ | refine cl_small (by assumption) rfl 16 (by rfl) ?_ | refine cl_small (by assumption) rfl 17 (by rfl) ?_ | refine cl_small (by assumption) rfl 18 (by rfl) ?_ | refine cl_small (by assumption) rfl 19 (by rfl) ?_ | refine cl_small (by assumption) rfl 20 (by rfl) ?_ | refine cl_small (by assumption) rfl 21 (by rfl) ?_ | refine cl_small (by assumption) rfl 22 (by rfl) ?_ | refine cl_small (by assumption) rfl 23 (by rfl) ?_)) | ((with_reducible show wpAny _ _ (Slots.read _ _ _) _ _ _); refine Halt.out ?_) | ((with_reducible show wpAny _ _ (if (_ || _ == some (Value.builtin "dict.__iter__")) = true then _ else _) _ _ _); (refine KFB.if_so (by kernel_rfl) ?_)) | with_reducible refine wpAny_call ?_ | ((with_reducible show wpAny _ _ (Sem.alloc _ _) _ _ _); refine Halt.out ?_) | (((fail_if_success (fail_if_success (with_reducible refine' Looks.at (cl_findIn (K := fragK.heap_1 _) ?_ ?_ ?_) ?_))); with_reducible refine Looks.at (cl_findIn (K := fragK.heap_1 _) (by assumption) (by assumption) (by k_dflt k_is)) ?_)) | (((fail_if_success (fail_if_success (with_reducible refine' Looks.at (looks_nsGet ?_ ?_) ?_))); with_reducible refine Looks.at (looks_nsGet (by k_dflt (first | exact Cl.at (by assumption) 0 (by rfl) | exact Cl.at (by assumption) 1 (by rfl) | exact Cl.at (by assumption) 2 (by rfl) | exact Cl.at (by assumption) 3 (by rfl) | exact Cl.at (by assumption) 4 (by rfl) | exact Cl.at (by assumption) 5 (by rfl) | exact Cl.at (by assumption) 6 (by rfl) | exact Cl.at (by assumption) 7 (by rfl) | exact Cl.at (by assumption) 8 (by rfl) | exact Cl.at (by assumption) 9 (by rfl) | exact Cl.at (by assumption) 10 (by rfl) | exact Cl.at (by assumption) 11 (by rfl) | exact Cl.at (by assumption) 12 (by rfl) | exact Cl.at (by assumption) 13 (by rfl) | exact Cl.at (by assumption) 14 (by rfl) | exact Cl.at (by assumption) 15 (by rfl) | exact Cl.at (by assumption) 16 (by rfl) | exact Cl.at (by assumption) 17 (by rfl) | exact Cl.at (by assumption) 18 (by rfl) | exact Cl.at (by assumption) 19 (by rfl) | exact Cl.at (by assumption) 20 (by rfl) | exact Cl.at (by assumption) 21 (by rfl) | exact Cl.at (by assumption) 22 (by rfl) | exact Cl.at (by assumption) 23 (by rfl))) (by k_dflt rfl)) ?_)) | (((fail_if_success (fail_if_success (with_reducible refine' nd_load ?_ ?_))); with_reducible refine nd_load (by k_dflt (first | assumption | exact Cl.at (by assumption) 0 (by rfl) | exact Cl.at (by assumption) 1 (by rfl) | exact Cl.at (by assumption) 2 (by rfl) | exact Cl.at (by assumption) 3 (by rfl) | exact Cl.at (by assumption) 4 (by rfl) | exact Cl.at (by assumption) 5 (by rfl) | exact Cl.at (by assumption) 6 (by rfl) | exact Cl.at (by assumption) 7 (by rfl) | exact Cl.at (by assumption) 8 (by rfl) | exact Cl.at (by assumption) 9 (by rfl) | exact Cl.at (by assumption) 10 (by rfl) | exact Cl.at (by assumption) 11 (by rfl) | exact Cl.at (by assumption) 12 (by rfl) | exact Cl.at (by assumption) 13 (by rfl) | exact Cl.at (by assumption) 14 (by rfl) | exact Cl.at (by assumption) 15 (by rfl) | exact Cl.at (by assumption) 16 (by rfl) | exact Cl.at (by assumption) 17 (by rfl) | exact Cl.at (by assumption) 18 (by rfl) | exact Cl.at (by assumption) 19 (by rfl) | exact Cl.at (by assumption) 20 (by rfl) | exact Cl.at (by assumption) 21 (by rfl) | exact Cl.at (by assumption) 22 (by rfl) | exact Cl.at (by assumption) 23 (by rfl))) ?_)) | lk)
  refine ⟨?_⟩
  refine cl_read D 9 rfl rfl rfl (by rw [← Array.any_toList]; kernel_rfl) ?_
  intro h1 D1
  repeat (first | ((with_reducible show wpAny _ _ (Slots.install _ _ _ _) _ _ _); refine Halt.out ?_) | ((with_reducible show wpAny _ _ (call (Value.type "super") _ _) _ _ _); refine Halt.out ?_) | ((with_reducible show wpAny _ _ (call (Value.ref _) _ _) _ _ _); refine Halt.out ?_) | ((with_reducible show wpAny _ _ (getAttr (Value.ref _) _ _) _ _ _); refine Halt.out ?_) | with_reducible refine arr_halt ?_ | ((with_reducible show wpAny _ _ (Bind.refreshMaker _) _ _ _); refine Halt.out ?_) | ((with_reducible show wpAny _ _ (updateCls _ _) _ _ _); refine Halt.out ?_) | ((with_reducible show wpAny _ _ (List.anyM _ (List.filter _ _)) _ _ _); rw [flt_self]) | ((with_reducible show wpAny _ _ (setSlotAt _ _ _) _ _ _); (first | ((with_reducible refine clx_setSlot (by k_dflt assumption) 0 (by k_dflt rfl) (by k_dflt (decide +kernel)) (by k_dflt (first | exact pS0 _ | exact pS2 _ _ | exact pS3 _ _ _ _ | exact pS4 _ _ _ _ _ | exact pS5 _ _ _ _ _ _)) (by k_dflt rfl) ?_)) | ((with_reducible refine clx_setSlot (by k_dflt assumption) 1 (by k_dflt rfl) (by k_dflt (decide +kernel)) (by k_dflt (first | exact pS0 _ | exact pS2 _ _ | exact pS3 _ _ _ _ | exact pS4 _ _ _ _ _ | exact pS5 _ _ _ _ _ _)) (by k_dflt rfl) ?_))); intro _ _) | ((with_reducible show wpAny _ _ (nsSet _ _ _) _ _ _); refine Halt.out ?_) | ((with_reducible show wpAny _ _ (Sem.update _ _ _ _) _ _ _); (first | refine clx_update (by assumption) 0 (by rfl) rfl (by rfl) ?_ | refine clx_update (by assumption) 1 (by rfl) rfl (by rfl) ?_ | refine clx_update (by assumption) 2 (by rfl) rfl (by rfl) ?_ | refine clx_update (by assumption) 3 (by rfl) rfl (by rfl) ?_ | refine clx_update (by assumption) 4 (by rfl) rfl (by rfl) ?_ | refine clx_update (by assumption) 5 (by rfl) rfl (by rfl) ?_ | refine clx_update (by assumption) 6 (by rfl) rfl (by rfl) ?_ | refine clx_update (by assumption) 7 (by rfl) rfl (by rfl) ?_); intro _ _) | (((fail_if_success (fail_if_success (with_reducible refine' KFB.if_not (c := Array.contains _ _) ?_ ?_))); with_reducible refine KFB.if_not (c := Array.contains _ _) (by k_dflt (decide +kernel)) ?_)) | (((fail_if_success (fail_if_success (with_reducible refine' KFB.if_not (c := Array.any _ _ _ _) ?_ ?_))); with_reducible refine KFB.if_not (c := Array.any _ _ _ _) (by k_dflt (rw [← Array.any_toList]; kernel_rfl)) ?_)) | ((with_reducible refine app_abs (by assumption) ?_)) | ((with_reducible refine bind_abs ?_); intro _ _) | (first | ((with_reducible show wpAny _ _ (Bind.madeBy (Value.type _)) _ _ _); with_reducible refine Looks.at (Looks.of_pure made_type) ?_) | ((with_reducible show wpAny _ _ (Builtin.extendedBase _) _ _ _); with_reducible refine Looks.at (Looks.of_pure ext_obj) ?_) | ((with_reducible show wpAny _ _ (Builtin.notOverATurnedClass _) _ _ _); with_reducible refine Looks.at (Looks.of_pure not_over) ?_) | ((with_reducible show wpAny _ _ (mroOf (Value.type _)) _ _ _); with_reducible refine Looks.at (Looks.of_pure mro_type) ?_) | ((with_reducible show wpAny _ _ (Builtin.mroHook? _) _ _ _); with_reducible refine Looks.at (Looks.of_pure hook_none) ?_) | ((with_reducible show wpAny _ _ (Builtin.linearize _ _) _ _ _); with_reducible refine Looks.at (Looks.of_pure lin_obj) ?_) | ((with_reducible show wpAny _ _ (Slots.givesWeak (Value.type _)) _ _ _); with_reducible refine Looks.at (Looks.of_pure weak_obj) ?_) | ((with_reducible show wpAny _ _ (Bind.madeBy (Value.type _)) _ _ _); with_reducible refine Looks.at (Looks.of_pure made_obj) ?_) | ((with_reducible show wpAny _ _ (noteSubclassOfBuiltin _ _) _ _ _); with_reducible refine Looks.at (Looks.of_pure (nsub_obj _)) ?_) | with_reducible refine nd_try ?_) | (first | ((with_reducible show wpAny _ _ (typeOf (Value.type _)) _ _ _); first | with_reducible refine Looks.at lk_tobj ?_ | with_reducible refine Looks.at lk_ttyp ?_) | ((with_reducible show wpAny _ _ (isType (Value.type _)) _ _ _); first | with_reducible refine Looks.at lk_iobj ?_ | with_reducible refine Looks.at lk_ityp ?_) | ((with_reducible show wpAny _ _ (isSubtype (Value.type _) (Value.type _)) _ _ _); with_reducible refine Looks.at lk_stt ?_)) | ((with_reducible show wpAny _ _ (if (_ == sysModules) = true then _ else _) _ _ _); (first | refine cl_small (by assumption) rfl 0 (by rfl) ?_ | refine cl_small (by assumption) rfl 1 (by rfl) ?_ | refine cl_small (by assumption) rfl 2 (by rfl) ?_ | refine cl_small (by assumption) rfl 3 (by rfl) ?_ | refine cl_small (by assumption) rfl 4 (by rfl) ?_ | refine cl_small (by assumption) rfl 5 (by rfl) ?_ | refine cl_small (by assumption) rfl 6 (by rfl) ?_ | refine cl_small (by assumption) rfl 7 (by rfl) ?_ | refine cl_small (by assumption) rfl 8 (by rfl) ?_ | refine cl_small (by assumption) rfl 9 (by rfl) ?_ | refine cl_small (by assumption) rfl 10 (by rfl) ?_ | refine cl_small (by assumption) rfl 11 (by rfl) ?_ | refine cl_small (by assumption) rfl 12 (by rfl) ?_ | refine cl_small (by assumption) rfl 13 (by rfl) ?_ | refine cl_small (by assumption) rfl 14 (by rfl) ?_ | refine cl_small (by assumption) rfl 15 (by rfl) ?_ | refine cl_small (by assumption) rfl 16 (by rfl) ?_ | refine cl_small (by assumption) rfl 17 (by rfl) ?_ | refine cl_small (by assumption) rfl 18 (by rfl) ?_ | refine cl_small (by assumption) rfl 19 (by rfl) ?_ | refine cl_small (by assumption) rfl 20 (by rfl) ?_ | refine cl_small (by assumption) rfl 21 (by rfl) ?_ | refine cl_small (by assumption) rfl 22 (by rfl) ?_ | refine cl_small (by assumption) rfl 23 (by rfl) ?_)) | ((with_reducible show wpAny _ _ (Slots.read _ _ _) _ _ _); refine Halt.out ?_) | ((with_reducible show wpAny _ _ (if (_ || _ == some (Value.builtin "dict.__iter__")) = true then _ else _) _ _ _); (refine KFB.if_so (by kernel_rfl) ?_)) | with_reducible refine wpAny_call ?_ | ((with_reducible show wpAny _ _ (Sem.alloc _ _) _ _ _); refine Halt.out ?_) | (((fail_if_success (fail_if_success (with_reducible refine' Looks.at (cl_findIn (K := fragK.heap_1 _) ?_ ?_ ?_) ?_))); with_reducible refine Looks.at (cl_findIn (K := fragK.heap_1 _) (by assumption) (by assumption) (by k_dflt k_is)) ?_)) | (((fail_if_success (fail_if_success (with_reducible refine' Looks.at (looks_nsGet ?_ ?_) ?_))); with_reducible refine Looks.at (looks_nsGet (by k_dflt (first | exact Cl.at (by assumption) 0 (by rfl) | exact Cl.at (by assumption) 1 (by rfl) | exact Cl.at (by assumption) 2 (by rfl) | exact Cl.at (by assumption) 3 (by rfl) | exact Cl.at (by assumption) 4 (by rfl) | exact Cl.at (by assumption) 5 (by rfl) | exact Cl.at (by assumption) 6 (by rfl) | exact Cl.at (by assumption) 7 (by rfl) | exact Cl.at (by assumption) 8 (by rfl) | exact Cl.at (by assumption) 9 (by rfl) | exact Cl.at (by assumption) 10 (by rfl) | exact Cl.at (by assumption) 11 (by rfl) | exact Cl.at (by assumption) 12 (by rfl) | exact Cl.at (by assumption) 13 (by rfl) | exact Cl.at (by assumption) 14 (by rfl) | exact Cl.at (by assumption) 15 (by rfl) | exact Cl.at (by assumption) 16 (by rfl) | exact Cl.at (by assumption) 17 (by rfl) | exact Cl.at (by assumption) 18 (by rfl) | exact Cl.at (by assumption) 19 (by rfl) | exact Cl.at (by assumption) 20 (by rfl) | exact Cl.at (by assumption) 21 (by rfl) | exact Cl.at (by assumption) 22 (by rfl) | exact Cl.at (by assumption) 23 (by rfl))) (by k_dflt rfl)) ?_)) | (((fail_if_success (fail_if_success (with_reducible refine' nd_load ?_ ?_))); with_reducible refine nd_load (by k_dflt (first | assumption | exact Cl.at (by assumption) 0 (by rfl) | exact Cl.at (by assumption) 1 (by rfl) | exact Cl.at (by assumption) 2 (by rfl) | exact Cl.at (by assumption) 3 (by rfl) | exact Cl.at (by assumption) 4 (by rfl) | exact Cl.at (by assumption) 5 (by rfl) | exact Cl.at (by assumption) 6 (by rfl) | exact Cl.at (by assumption) 7 (by rfl) | exact Cl.at (by assumption) 8 (by rfl) | exact Cl.at (by assumption) 9 (by rfl) | exact Cl.at (by assumption) 10 (by rfl) | exact Cl.at (by assumption) 11 (by rfl) | exact Cl.at (by assumption) 12 (by rfl) | exact Cl.at (by assumption) 13 (by rfl) | exact Cl.at (by assumption) 14 (by rfl) | exact Cl.at (by assumption) 15 (by rfl) | exact Cl.at (by assumption) 16 (by rfl) | exact Cl.at (by assumption) 17 (by rfl) | exact Cl.at (by assumption) 18 (by rfl) | exact Cl.at (by assumption) 19 (by rfl) | exact Cl.at (by assumption) 20 (by rfl) | exact Cl.at (by assumption) 21 (by rfl) | exact Cl.at (by assumption) 22 (by rfl) | exact Cl.at (by assumption) 23 (by rfl))) ?_)) | lk)
  refine ⟨?_⟩
  refine clx_alloc D1 rfl ?_
  intro N h2 D2
  repeat (first | ((with_reducible show wpAny _ _ (Slots.install _ _ _ _) _ _ _); refine Halt.out ?_) | ((with_reducible show wpAny _ _ (call (Value.type "super") _ _) _ _ _); refine Halt.out ?_) | ((with_reducible show wpAny _ _ (call (Value.ref _) _ _) _ _ _); refine Halt.out ?_) | ((with_reducible show wpAny _ _ (getAttr (Value.ref _) _ _) _ _ _); refine Halt.out ?_) | with_reducible refine arr_halt ?_ | ((with_reducible show wpAny _ _ (Bind.refreshMaker _) _ _ _); refine Halt.out ?_) | ((with_reducible show wpAny _ _ (updateCls _ _) _ _ _); refine Halt.out ?_) | ((with_reducible show wpAny _ _ (List.anyM _ (List.filter _ _)) _ _ _); rw [flt_self]) | ((with_reducible show wpAny _ _ (setSlotAt _ _ _) _ _ _); (first | ((with_reducible refine clx_setSlot (by k_dflt assumption) 0 (by k_dflt rfl) (by k_dflt (decide +kernel)) (by k_dflt (first | exact pS0 _ | exact pS2 _ _ | exact pS3 _ _ _ _ | exact pS4 _ _ _ _ _ | exact pS5 _ _ _ _ _ _)) (by k_dflt rfl) ?_)) | ((with_reducible refine clx_setSlot (by k_dflt assumption) 1 (by k_dflt rfl) (by k_dflt (decide +kernel)) (by k_dflt (first | exact pS0 _ | exact pS2 _ _ | exact pS3 _ _ _ _ | exact pS4 _ _ _ _ _ | exact pS5 _ _ _ _ _ _)) (by k_dflt rfl) ?_))); intro _ _) | ((with_reducible show wpAny _ _ (nsSet _ _ _) _ _ _); refine Halt.out ?_) | ((with_reducible show wpAny _ _ (Sem.update _ _ _ _) _ _ _); (first | refine clx_update (by assumption) 0 (by rfl) rfl (by rfl) ?_ | refine clx_update (by assumption) 1 (by rfl) rfl (by rfl) ?_ | refine clx_update (by assumption) 2 (by rfl) rfl (by rfl) ?_ | refine clx_update (by assumption) 3 (by rfl) rfl (by rfl) ?_ | refine clx_update (by assumption) 4 (by rfl) rfl (by rfl) ?_ | refine clx_update (by assumption) 5 (by rfl) rfl (by rfl) ?_ | refine clx_update (by assumption) 6 (by rfl) rfl (by rfl) ?_ | refine clx_update (by assumption) 7 (by rfl) rfl (by rfl) ?_); intro _ _) | (((fail_if_success (fail_if_success (with_reducible refine' KFB.if_not (c := Array.contains _ _) ?_ ?_))); with_reducible refine KFB.if_not (c := Array.contains _ _) (by k_dflt (decide +kernel)) ?_)) | (((fail_if_success (fail_if_success (with_reducible refine' KFB.if_not (c := Array.any _ _ _ _) ?_ ?_))); with_reducible refine KFB.if_not (c := Array.any _ _ _ _) (by k_dflt (rw [← Array.any_toList]; kernel_rfl)) ?_)) | ((with_reducible refine app_abs (by assumption) ?_)) | ((with_reducible refine bind_abs ?_); intro _ _) | (first | ((with_reducible show wpAny _ _ (Bind.madeBy (Value.type _)) _ _ _); with_reducible refine Looks.at (Looks.of_pure made_type) ?_) | ((with_reducible show wpAny _ _ (Builtin.extendedBase _) _ _ _); with_reducible refine Looks.at (Looks.of_pure ext_obj) ?_) | ((with_reducible show wpAny _ _ (Builtin.notOverATurnedClass _) _ _ _); with_reducible refine Looks.at (Looks.of_pure not_over) ?_) | ((with_reducible show wpAny _ _ (mroOf (Value.type _)) _ _ _); with_reducible refine Looks.at (Looks.of_pure mro_type) ?_) | ((with_reducible show wpAny _ _ (Builtin.mroHook? _) _ _ _); with_reducible refine Looks.at (Looks.of_pure hook_none) ?_) | ((with_reducible show wpAny _ _ (Builtin.linearize _ _) _ _ _); with_reducible refine Looks.at (Looks.of_pure lin_obj) ?_) | ((with_reducible show wpAny _ _ (Slots.givesWeak (Value.type _)) _ _ _); with_reducible refine Looks.at (Looks.of_pure weak_obj) ?_) | ((with_reducible show wpAny _ _ (Bind.madeBy (Value.type _)) _ _ _); with_reducible refine Looks.at (Looks.of_pure made_obj) ?_) | ((with_reducible show wpAny _ _ (noteSubclassOfBuiltin _ _) _ _ _); with_reducible refine Looks.at (Looks.of_pure (nsub_obj _)) ?_) | with_reducible refine nd_try ?_) | (first | ((with_reducible show wpAny _ _ (typeOf (Value.type _)) _ _ _); first | with_reducible refine Looks.at lk_tobj ?_ | with_reducible refine Looks.at lk_ttyp ?_) | ((with_reducible show wpAny _ _ (isType (Value.type _)) _ _ _); first | with_reducible refine Looks.at lk_iobj ?_ | with_reducible refine Looks.at lk_ityp ?_) | ((with_reducible show wpAny _ _ (isSubtype (Value.type _) (Value.type _)) _ _ _); with_reducible refine Looks.at lk_stt ?_)) | ((with_reducible show wpAny _ _ (if (_ == sysModules) = true then _ else _) _ _ _); (first | refine cl_small (by assumption) rfl 0 (by rfl) ?_ | refine cl_small (by assumption) rfl 1 (by rfl) ?_ | refine cl_small (by assumption) rfl 2 (by rfl) ?_ | refine cl_small (by assumption) rfl 3 (by rfl) ?_ | refine cl_small (by assumption) rfl 4 (by rfl) ?_ | refine cl_small (by assumption) rfl 5 (by rfl) ?_ | refine cl_small (by assumption) rfl 6 (by rfl) ?_ | refine cl_small (by assumption) rfl 7 (by rfl) ?_ | refine cl_small (by assumption) rfl 8 (by rfl) ?_ | refine cl_small (by assumption) rfl 9 (by rfl) ?_ | refine cl_small (by assumption) rfl 10 (by rfl) ?_ | refine cl_small (by assumption) rfl 11 (by rfl) ?_ | refine cl_small (by assumption) rfl 12 (by rfl) ?_ | refine cl_small (by assumption) rfl 13 (by rfl) ?_ | refine cl_small (by assumption) rfl 14 (by rfl) ?_ | refine cl_small (by assumption) rfl 15 (by rfl) ?_ | refine cl_small (by assumption) rfl 16 (by rfl) ?_ | refine cl_small (by assumption) rfl 17 (by rfl) ?_ | refine cl_small (by assumption) rfl 18 (by rfl) ?_ | refine cl_small (by assumption) rfl 19 (by rfl) ?_ | refine cl_small (by assumption) rfl 20 (by rfl) ?_ | refine cl_small (by assumption) rfl 21 (by rfl) ?_ | refine cl_small (by assumption) rfl 22 (by rfl) ?_ | refine cl_small (by assumption) rfl 23 (by rfl) ?_)) | ((with_reducible show wpAny _ _ (Slots.read _ _ _) _ _ _); refine Halt.out ?_) | ((with_reducible show wpAny _ _ (if (_ || _ == some (Value.builtin "dict.__iter__")) = true then _ else _) _ _ _); (refine KFB.if_so (by kernel_rfl) ?_)) | with_reducible refine wpAny_call ?_ | ((with_reducible show wpAny _ _ (Sem.alloc _ _) _ _ _); refine Halt.out ?_) | (((fail_if_success (fail_if_success (with_reducible refine' Looks.at (cl_findIn (K := fragK.heap_1 _) ?_ ?_ ?_) ?_))); with_reducible refine Looks.at (cl_findIn (K := fragK.heap_1 _) (by assumption) (by assumption) (by k_dflt k_is)) ?_)) | (((fail_if_success (fail_if_success (with_reducible refine' Looks.at (looks_nsGet ?_ ?_) ?_))); with_reducible refine Looks.at (looks_nsGet (by k_dflt (first | exact Cl.at (by assumption) 0 (by rfl) | exact Cl.at (by assumption) 1 (by rfl) | exact Cl.at (by assumption) 2 (by rfl) | exact Cl.at (by assumption) 3 (by rfl) | exact Cl.at (by assumption) 4 (by rfl) | exact Cl.at (by assumption) 5 (by rfl) | exact Cl.at (by assumption) 6 (by rfl) | exact Cl.at (by assumption) 7 (by rfl) | exact Cl.at (by assumption) 8 (by rfl) | exact Cl.at (by assumption) 9 (by rfl) | exact Cl.at (by assumption) 10 (by rfl) | exact Cl.at (by assumption) 11 (by rfl) | exact Cl.at (by assumption) 12 (by rfl) | exact Cl.at (by assumption) 13 (by rfl) | exact Cl.at (by assumption) 14 (by rfl) | exact Cl.at (by assumption) 15 (by rfl) | exact Cl.at (by assumption) 16 (by rfl) | exact Cl.at (by assumption) 17 (by rfl) | exact Cl.at (by assumption) 18 (by rfl) | exact Cl.at (by assumption) 19 (by rfl) | exact Cl.at (by assumption) 20 (by rfl) | exact Cl.at (by assumption) 21 (by rfl) | exact Cl.at (by assumption) 22 (by rfl) | exact Cl.at (by assumption) 23 (by rfl))) (by k_dflt rfl)) ?_)) | (((fail_if_success (fail_if_success (with_reducible refine' nd_load ?_ ?_))); with_reducible refine nd_load (by k_dflt (first | assumption | exact Cl.at (by assumption) 0 (by rfl) | exact Cl.at (by assumption) 1 (by rfl) | exact Cl.at (by assumption) 2 (by rfl) | exact Cl.at (by assumption) 3 (by rfl) | exact Cl.at (by assumption) 4 (by rfl) | exact Cl.at (by assumption) 5 (by rfl) | exact Cl.at (by assumption) 6 (by rfl) | exact Cl.at (by assumption) 7 (by rfl) | exact Cl.at (by assumption) 8 (by rfl) | exact Cl.at (by assumption) 9 (by rfl) | exact Cl.at (by assumption) 10 (by rfl) | exact Cl.at (by assumption) 11 (by rfl) | exact Cl.at (by assumption) 12 (by rfl) | exact Cl.at (by assumption) 13 (by rfl) | exact Cl.at (by assumption) 14 (by rfl) | exact Cl.at (by assumption) 15 (by rfl) | exact Cl.at (by assumption) 16 (by rfl) | exact Cl.at (by assumption) 17 (by rfl) | exact Cl.at (by assumption) 18 (by rfl) | exact Cl.at (by assumption) 19 (by rfl) | exact Cl.at (by assumption) 20 (by rfl) | exact Cl.at (by assumption) 21 (by rfl) | exact Cl.at (by assumption) 22 (by rfl) | exact Cl.at (by assumption) 23 (by rfl))) ?_)) | lk)
  refine KFB.if_not (by show (!(Array.any _ fun x : DictEntry => x.key.isStr "__module__")) = false; rw [← Array.any_toList]; kernel_rfl) ?_
  repeat (first | ((with_reducible show wpAny _ _ (Slots.install _ _ _ _) _ _ _); refine Halt.out ?_) | ((with_reducible show wpAny _ _ (call (Value.type "super") _ _) _ _ _); refine Halt.out ?_) | ((with_reducible show wpAny _ _ (call (Value.ref _) _ _) _ _ _); refine Halt.out ?_) | ((with_reducible show wpAny _ _ (getAttr (Value.ref _) _ _) _ _ _); refine Halt.out ?_) | with_reducible refine arr_halt ?_ | ((with_reducible show wpAny _ _ (Bind.refreshMaker _) _ _ _); refine Halt.out ?_) | ((with_reducible show wpAny _ _ (updateCls _ _) _ _ _); refine Halt.out ?_) | ((with_reducible show wpAny _ _ (List.anyM _ (List.filter _ _)) _ _ _); rw [flt_self]) | ((with_reducible show wpAny _ _ (setSlotAt _ _ _) _ _ _); (first | ((with_reducible refine clx_setSlot (by k_dflt assumption) 0 (by k_dflt rfl) (by k_dflt (decide +kernel)) (by k_dflt (first | exact pS0 _ | exact pS2 _ _ | exact pS3 _ _ _ _ | exact pS4 _ _ _ _ _ | exact pS5 _ _ _ _ _ _)) (by k_dflt rfl) ?_)) | ((with_reducible refine clx_setSlot (by k_dflt assumption) 1 (by k_dflt rfl) (by k_dflt (decide +kernel)) (by k_dflt (first | exact pS0 _ | exact pS2 _ _ | exact pS3 _ _ _ _ | exact pS4 _ _ _ _ _ | exact pS5 _ _ _ _ _ _)) (by k_dflt rfl) ?_))); intro _ _) | ((with_reducible show wpAny _ _ (nsSet _ _ _) _ _ _); refine Halt.out ?_) | ((with_reducible show wpAny _ _ (Sem.update _ _ _ _) _ _ _); (first | refine clx_update (by assumption) 0 (by rfl) rfl (by rfl) ?_ | refine clx_update (by assumption) 1 (by rfl) rfl (by rfl) ?_ | refine clx_update (by assumption) 2 (by rfl) rfl (by rfl) ?_ | refine clx_update (by assumption) 3 (by rfl) rfl (by rfl) ?_ | refine clx_update (by assumption) 4 (by rfl) rfl (by rfl) ?_ | refine clx_update (by assumption) 5 (by rfl) rfl (by rfl) ?_ | refine clx_update (by assumption) 6 (by rfl) rfl (by rfl) ?_ | refine clx_update (by assumption) 7 (by rfl) rfl (by rfl) ?_); intro _ _) | (((fail_if_success (fail_if_success (with_reducible refine' KFB.if_not (c := Array.contains _ _) ?_ ?_))); with_reducible refine KFB.if_not (c := Array.contains _ _) (by k_dflt (decide +kernel)) ?_)) | (((fail_if_success (fail_if_success (with_reducible refine' KFB.if_not (c := Array.any _ _ _ _) ?_ ?_))); with_reducible refine KFB.if_not (c := Array.any _ _ _ _) (by k_dflt (rw [← Array.any_toList]; kernel_rfl)) ?_)) | ((with_reducible refine app_abs (by assumption) ?_)) | ((with_reducible refine bind_abs ?_); intro _ _) | (first | ((with_reducible show wpAny _ _ (Bind.madeBy (Value.type _)) _ _ _); with_reducible refine Looks.at (Looks.of_pure made_type) ?_) | ((with_reducible show wpAny _ _ (Builtin.extendedBase _) _ _ _); with_reducible refine Looks.at (Looks.of_pure ext_obj) ?_) | ((with_reducible show wpAny _ _ (Builtin.notOverATurnedClass _) _ _ _); with_reducible refine Looks.at (Looks.of_pure not_over) ?_) | ((with_reducible show wpAny _ _ (mroOf (Value.type _)) _ _ _); with_reducible refine Looks.at (Looks.of_pure mro_type) ?_) | ((with_reducible show wpAny _ _ (Builtin.mroHook? _) _ _ _); with_reducible refine Looks.at (Looks.of_pure hook_none) ?_) | ((with_reducible show wpAny _ _ (Builtin.linearize _ _) _ _ _); with_reducible refine Looks.at (Looks.of_pure lin_obj) ?_) | ((with_reducible show wpAny _ _ (Slots.givesWeak (Value.type _)) _ _ _); with_reducible refine Looks.at (Looks.of_pure weak_obj) ?_) | ((with_reducible show wpAny _ _ (Bind.madeBy (Value.type _)) _ _ _); with_reducible refine Looks.at (Looks.of_pure made_obj) ?_) | ((with_reducible show wpAny _ _ (noteSubclassOfBuiltin _ _) _ _ _); with_reducible refine Looks.at (Looks.of_pure (nsub_obj _)) ?_) | with_reducible refine nd_try ?_) | (first | ((with_reducible show wpAny _ _ (typeOf (Value.type _)) _ _ _); first | with_reducible refine Looks.at lk_tobj ?_ | with_reducible refine Looks.at lk_ttyp ?_) | ((with_reducible show wpAny _ _ (isType (Value.type _)) _ _ _); first | with_reducible refine Looks.at lk_iobj ?_ | with_reducible refine Looks.at lk_ityp ?_) | ((with_reducible show wpAny _ _ (isSubtype (Value.type _) (Value.type _)) _ _ _); with_reducible refine Looks.at lk_stt ?_)) | ((with_reducible show wpAny _ _ (if (_ == sysModules) = true then _ else _) _ _ _); (first | refine cl_small (by assumption) rfl 0 (by rfl) ?_ | refine cl_small (by assumption) rfl 1 (by rfl) ?_ | refine cl_small (by assumption) rfl 2 (by rfl) ?_ | refine cl_small (by assumption) rfl 3 (by rfl) ?_ | refine cl_small (by assumption) rfl 4 (by rfl) ?_ | refine cl_small (by assumption) rfl 5 (by rfl) ?_ | refine cl_small (by assumption) rfl 6 (by rfl) ?_ | refine cl_small (by assumption) rfl 7 (by rfl) ?_ | refine cl_small (by assumption) rfl 8 (by rfl) ?_ | refine cl_small (by assumption) rfl 9 (by rfl) ?_ | refine cl_small (by assumption) rfl 10 (by rfl) ?_ | refine cl_small (by assumption) rfl 11 (by rfl) ?_ | refine cl_small (by assumption) rfl 12 (by rfl) ?_ | refine cl_small (by assumption) rfl 13 (by rfl) ?_ | refine cl_small (by assumption) rfl 14 (by rfl) ?_ | refine cl_small (by assumption) rfl 15 (by rfl) ?_ | refine cl_small (by assumption) rfl 16 (by rfl) ?_ | refine cl_small (by assumption) rfl 17 (by rfl) ?_ | refine cl_small (by assumption) rfl 18 (by rfl) ?_ | refine cl_small (by assumption) rfl 19 (by rfl) ?_ | refine cl_small (by assumption) rfl 20 (by rfl) ?_ | refine cl_small (by assumption) rfl 21 (by rfl) ?_ | refine cl_small (by assumption) rfl 22 (by rfl) ?_ | refine cl_small (by assumption) rfl 23 (by rfl) ?_)) | ((with_reducible show wpAny _ _ (Slots.read _ _ _) _ _ _); refine Halt.out ?_) | ((with_reducible show wpAny _ _ (if (_ || _ == some (Value.builtin "dict.__iter__")) = true then _ else _) _ _ _); (refine KFB.if_so (by kernel_rfl) ?_)) | with_reducible refine wpAny_call ?_ | ((with_reducible show wpAny _ _ (Sem.alloc _ _) _ _ _); refine Halt.out ?_) | (((fail_if_success (fail_if_success (with_reducible refine' Looks.at (cl_findIn (K := fragK.heap_1 _) ?_ ?_ ?_) ?_))); with_reducible refine Looks.at (cl_findIn (K := fragK.heap_1 _) (by assumption) (by assumption) (by k_dflt k_is)) ?_)) | (((fail_if_success (fail_if_success (with_reducible refine' Looks.at (looks_nsGet ?_ ?_) ?_))); with_reducible refine Looks.at (looks_nsGet (by k_dflt (first | exact Cl.at (by assumption) 0 (by rfl) | exact Cl.at (by assumption) 1 (by rfl) | exact Cl.at (by assumption) 2 (by rfl) | exact Cl.at (by assumption) 3 (by rfl) | exact Cl.at (by assumption) 4 (by rfl) | exact Cl.at (by assumption) 5 (by rfl) | exact Cl.at (by assumption) 6 (by rfl) | exact Cl.at (by assumption) 7 (by rfl) | exact Cl.at (by assumption) 8 (by rfl) | exact Cl.at (by assumption) 9 (by rfl) | exact Cl.at (by assumption) 10 (by rfl) | exact Cl.at (by assumption) 11 (by rfl) | exact Cl.at (by assumption) 12 (by rfl) | exact Cl.at (by assumption) 13 (by rfl) | exact Cl.at (by assumption) 14 (by rfl) | exact Cl.at (by assumption) 15 (by rfl) | exact Cl.at (by assumption) 16 (by rfl) | exact Cl.at (by assumption) 17 (by rfl) | exact Cl.at (by assumption) 18 (by rfl) | exact Cl.at (by assumption) 19 (by rfl) | exact Cl.at (by assumption) 20 (by rfl) | exact Cl.at (by assumption) 21 (by rfl) | exact Cl.at (by assumption) 22 (by rfl) | exact Cl.at (by assumption) 23 (by rfl))) (by k_dflt rfl)) ?_)) | (((fail_if_success (fail_if_success (with_reducible refine' nd_load ?_ ?_))); with_reducible refine nd_load (by k_dflt (first | assumption | exact Cl.at (by assumption) 0 (by rfl) | exact Cl.at (by assumption) 1 (by rfl) | exact Cl.at (by assumption) 2 (by rfl) | exact Cl.at (by assumption) 3 (by rfl) | exact Cl.at (by assumption) 4 (by rfl) | exact Cl.at (by assumption) 5 (by rfl) | exact Cl.at (by assumption) 6 (by rfl) | exact Cl.at (by assumption) 7 (by rfl) | exact Cl.at (by assumption) 8 (by rfl) | exact Cl.at (by assumption) 9 (by rfl) | exact Cl.at (by assumption) 10 (by rfl) | exact Cl.at (by assumption) 11 (by rfl) | exact Cl.at (by assumption) 12 (by rfl) | exact Cl.at (by assumption) 13 (by rfl) | exact Cl.at (by assumption) 14 (by rfl) | exact Cl.at (by assumption) 15 (by rfl) | exact Cl.at (by assumption) 16 (by rfl) | exact Cl.at (by assumption) 17 (by rfl) | exact Cl.at (by assumption) 18 (by rfl) | exact Cl.at (by assumption) 19 (by rfl) | exact Cl.at (by assumption) 20 (by rfl) | exact Cl.at (by assumption) 21 (by rfl) | exact Cl.at (by assumption) 22 (by rfl) | exact Cl.at (by assumption) 23 (by rfl))) ?_)) | lk)
  refine ⟨?_⟩
  refine clx_alloc D2 rfl ?_
  intro C h3 D3
  repeat (first | ((with_reducible show wpAny _ _ (Slots.install _ _ _ _) _ _ _); refine Halt.out ?_) | ((with_reducible show wpAny _ _ (call (Value.type "super") _ _) _ _ _); refine Halt.out ?_) | ((with_reducible show wpAny _ _ (call (Value.ref _) _ _) _ _ _); refine Halt.out ?_) | ((with_reducible show wpAny _ _ (getAttr (Value.ref _) _ _) _ _ _); refine Halt.out ?_) | with_reducible refine arr_halt ?_ | ((with_reducible show wpAny _ _ (Bind.refreshMaker _) _ _ _); refine Halt.out ?_) | ((with_reducible show wpAny _ _ (updateCls _ _) _ _ _); refine Halt.out ?_) | ((with_reducible show wpAny _ _ (List.anyM _ (List.filter _ _)) _ _ _); rw [flt_self]) | ((with_reducible show wpAny _ _ (setSlotAt _ _ _) _ _ _); (first | ((with_reducible refine clx_setSlot (by k_dflt assumption) 0 (by k_dflt rfl) (by k_dflt (decide +kernel)) (by k_dflt (first | exact pS0 _ | exact pS2 _ _ | exact pS3 _ _ _ _ | exact pS4 _ _ _ _ _ | exact pS5 _ _ _ _ _ _)) (by k_dflt rfl) ?_)) | ((with_reducible refine clx_setSlot (by k_dflt assumption) 1 (by k_dflt rfl) (by k_dflt (decide +kernel)) (by k_dflt (first | exact pS0 _ | exact pS2 _ _ | exact pS3 _ _ _ _ | exact pS4 _ _ _ _ _ | exact pS5 _ _ _ _ _ _)) (by k_dflt rfl) ?_))); intro _ _) | ((with_reducible show wpAny _ _ (nsSet _ _ _) _ _ _); refine Halt.out ?_) | ((with_reducible show wpAny _ _ (Sem.update _ _ _ _) _ _ _); (first | refine clx_update (by assumption) 0 (by rfl) rfl (by rfl) ?_ | refine clx_update (by assumption) 1 (by rfl) rfl (by rfl) ?_ | refine clx_update (by assumption) 2 (by rfl) rfl (by rfl) ?_ | refine clx_update (by assumption) 3 (by rfl) rfl (by rfl) ?_ | refine clx_update (by assumption) 4 (by rfl) rfl (by rfl) ?_ | refine clx_update (by assumption) 5 (by rfl) rfl (by rfl) ?_ | refine clx_update (by assumption) 6 (by rfl) rfl (by rfl) ?_ | refine clx_update (by assumption) 7 (by rfl) rfl (by rfl) ?_); intro _ _) | (((fail_if_success (fail_if_success (with_reducible refine' KFB.if_not (c := Array.contains _ _) ?_ ?_))); with_reducible refine KFB.if_not (c := Array.contains _ _) (by k_dflt (decide +kernel)) ?_)) | (((fail_if_success (fail_if_success (with_reducible refine' KFB.if_not (c := Array.any _ _ _ _) ?_ ?_))); with_reducible refine KFB.if_not (c := Array.any _ _ _ _) (by k_dflt (rw [← Array.any_toList]; kernel_rfl)) ?_)) | ((with_reducible refine app_abs (by assumption) ?_)) | ((with_reducible refine bind_abs ?_); intro _ _) | (first | ((with_reducible show wpAny _ _ (Bind.madeBy (Value.type _)) _ _ _); with_reducible refine Looks.at (Looks.of_pure made_type) ?_) | ((with_reducible show wpAny _ _ (Builtin.extendedBase _) _ _ _); with_reducible refine Looks.at (Looks.of_pure ext_obj) ?_) | ((with_reducible show wpAny _ _ (Builtin.notOverATurnedClass _) _ _ _); with_reducible refine Looks.at (Looks.of_pure not_over) ?_) | ((with_reducible show wpAny _ _ (mroOf (Value.type _)) _ _ _); with_reducible refine Looks.at (Looks.of_pure mro_type) ?_) | ((with_reducible show wpAny _ _ (Builtin.mroHook? _) _ _ _); with_reducible refine Looks.at (Looks.of_pure hook_none) ?_) | ((with_reducible show wpAny _ _ (Builtin.linearize _ _) _ _ _); with_reducible refine Looks.at (Looks.of_pure lin_obj) ?_) | ((with_reducible show wpAny _ _ (Slots.givesWeak (Value.type _)) _ _ _); with_reducible refine Looks.at (Looks.of_pure weak_obj) ?_) | ((with_reducible show wpAny _ _ (Bind.madeBy (Value.type _)) _ _ _); with_reducible refine Looks.at (Looks.of_pure made_obj) ?_) | ((with_reducible show wpAny _ _ (noteSubclassOfBuiltin _ _) _ _ _); with_reducible refine Looks.at (Looks.of_pure (nsub_obj _)) ?_) | with_reducible refine nd_try ?_) | (first | ((with_reducible show wpAny _ _ (typeOf (Value.type _)) _ _ _); first | with_reducible refine Looks.at lk_tobj ?_ | with_reducible refine Looks.at lk_ttyp ?_) | ((with_reducible show wpAny _ _ (isType (Value.type _)) _ _ _); first | with_reducible refine Looks.at lk_iobj ?_ | with_reducible refine Looks.at lk_ityp ?_) | ((with_reducible show wpAny _ _ (isSubtype (Value.type _) (Value.type _)) _ _ _); with_reducible refine Looks.at lk_stt ?_)) | ((with_reducible show wpAny _ _ (if (_ == sysModules) = true then _ else _) _ _ _); (first | refine cl_small (by assumption) rfl 0 (by rfl) ?_ | refine cl_small (by assumption) rfl 1 (by rfl) ?_ | refine cl_small (by assumption) rfl 2 (by rfl) ?_ | refine cl_small (by assumption) rfl 3 (by rfl) ?_ | refine cl_small (by assumption) rfl 4 (by rfl) ?_ | refine cl_small (by assumption) rfl 5 (by rfl) ?_ | refine cl_small (by assumption) rfl 6 (by rfl) ?_ | refine cl_small (by assumption) rfl 7 (by rfl) ?_ | refine cl_small (by assumption) rfl 8 (by rfl) ?_ | refine cl_small (by assumption) rfl 9 (by rfl) ?_ | refine cl_small (by assumption) rfl 10 (by rfl) ?_ | refine cl_small (by assumption) rfl 11 (by rfl) ?_ | refine cl_small (by assumption) rfl 12 (by rfl) ?_ | refine cl_small (by assumption) rfl 13 (by rfl) ?_ | refine cl_small (by assumption) rfl 14 (by rfl) ?_ | refine cl_small (by assumption) rfl 15 (by rfl) ?_ | refine cl_small (by assumption) rfl 16 (by rfl) ?_ | refine cl_small (by assumption) rfl 17 (by rfl) ?_ | refine cl_small (by assumption) rfl 18 (by rfl) ?_ | refine cl_small (by assumption) rfl 19 (by rfl) ?_ | refine cl_small (by assumption) rfl 20 (by rfl) ?_ | refine cl_small (by assumption) rfl 21 (by rfl) ?_ | refine cl_small (by assumption) rfl 22 (by rfl) ?_ | refine cl_small (by assumption) rfl 23 (by rfl) ?_)) | ((with_reducible show wpAny _ _ (Slots.read _ _ _) _ _ _); refine Halt.out ?_) | ((with_reducible show wpAny _ _ (if (_ || _ == some (Value.builtin "dict.__iter__")) = true then _ else _) _ _ _); (refine KFB.if_so (by kernel_rfl) ?_)) | with_reducible refine wpAny_call ?_ | ((with_reducible show wpAny _ _ (Sem.alloc _ _) _ _ _); refine Halt.out ?_) | (((fail_if_success (fail_if_success (with_reducible refine' Looks.at (cl_findIn (K := fragK.heap_1 _) ?_ ?_ ?_) ?_))); with_reducible refine Looks.at (cl_findIn (K := fragK.heap_1 _) (by assumption) (by assumption) (by k_dflt k_is)) ?_)) | (((fail_if_success (fail_if_success (with_reducible refine' Looks.at (looks_nsGet ?_ ?_) ?_))); with_reducible refine Looks.at (looks_nsGet (by k_dflt (first | exact Cl.at (by assumption) 0 (by rfl) | exact Cl.at (by assumption) 1 (by rfl) | exact Cl.at (by assumption) 2 (by rfl) | exact Cl.at (by assumption) 3 (by rfl) | exact Cl.at (by assumption) 4 (by rfl) | exact Cl.at (by assumption) 5 (by rfl) | exact Cl.at (by assumption) 6 (by rfl) | exact Cl.at (by assumption) 7 (by rfl) | exact Cl.at (by assumption) 8 (by rfl) | exact Cl.at (by assumption) 9 (by rfl) | exact Cl.at (by assumption) 10 (by rfl) | exact Cl.at (by assumption) 11 (by rfl) | exact Cl.at (by assumption) 12 (by rfl) | exact Cl.at (by assumption) 13 (by rfl) | exact Cl.at (by assumption) 14 (by rfl) | exact Cl.at (by assumption) 15 (by rfl) | exact Cl.at (by assumption) 16 (by rfl) | exact Cl.at (by assumption) 17 (by rfl) | exact Cl.at (by assumption) 18 (by rfl) | exact Cl.at (by assumption) 19 (by rfl) | exact Cl.at (by assumption) 20 (by rfl) | exact Cl.at (by assumption) 21 (by rfl) | exact Cl.at (by assumption) 22 (by rfl) | exact Cl.at (by assumption) 23 (by rfl))) (by k_dflt rfl)) ?_)) | (((fail_if_success (fail_if_success (with_reducible refine' nd_load ?_ ?_))); with_reducible refine nd_load (by k_dflt (first | assumption | exact Cl.at (by assumption) 0 (by rfl) | exact Cl.at (by assumption) 1 (by rfl) | exact Cl.at (by assumption) 2 (by rfl) | exact Cl.at (by assumption) 3 (by rfl) | exact Cl.at (by assumption) 4 (by rfl) | exact Cl.at (by assumption) 5 (by rfl) | exact Cl.at (by assumption) 6 (by rfl) | exact Cl.at (by assumption) 7 (by rfl) | exact Cl.at (by assumption) 8 (by rfl) | exact Cl.at (by assumption) 9 (by rfl) | exact Cl.at (by assumption) 10 (by rfl) | exact Cl.at (by assumption) 11 (by rfl) | exact Cl.at (by assumption) 12 (by rfl) | exact Cl.at (by assumption) 13 (by rfl) | exact Cl.at (by assumption) 14 (by rfl) | exact Cl.at (by assumption) 15 (by rfl) | exact Cl.at (by assumption) 16 (by rfl) | exact Cl.at (by assumption) 17 (by rfl) | exact Cl.at (by assumption) 18 (by rfl) | exact Cl.at (by assumption) 19 (by rfl) | exact Cl.at (by assumption) 20 (by rfl) | exact Cl.at (by assumption) 21 (by rfl) | exact Cl.at (by assumption) 22 (by rfl) | exact Cl.at (by assumption) 23 (by rfl))) ?_)) | lk)
  refine ⟨?_⟩
  rename Cl _ _ _ _ _ _ _ _ => DX
  have D4 := DX.cast (led' := (C, ⟨.type "type", none, .cls { name := "K", bases := [.type "object"], mro := [], ns := N, qualname := "cmp_to_key.<locals>.K" }, [some (.ref BT), none, some (.str "K" tn), some (.str "cmp_to_key.<locals>.K" tk3)].toArray⟩) :: (N, dictOf (clsNs w tk1 tk4 tk5 u1 u2 u3 u4 u5 u6 u7 u8 u9 u11 LST fI fL fG fE fA fB ST) 1) :: (ST, { cls := .type "tuple", data := .seq #[.str "obj" u10] }) :: (fB, fnMade nB qB pB bB sB clB dB mB cB kB) :: (fA, fnMade nA qA pA bA sA clA dA mA cA kA) :: (fE, fnMade nE qE pE bE sE clE dE mE cE kE) :: (fG, fnMade nG qG pG bG sG clG dG mG cG kG) :: (fL, fnMade nL qL pL bL sL clL dL mL cL kL) :: (cL, oL) :: (fI, fnMade nI qI pI bI sI clI dI mI cI kI) :: (cI, oI) :: (LST, { cls := .type "list", data := .seq #[.str "obj" u0] }) :: (FR, oF) :: (P', tabObj pt) :: (CC, oK) :: (N0, dictOf (clsAll w tk1 tk2 tk3 tk4 tk5 u1 u2 u3 u4 u5 u6 u7 u8 u9 u11 LST fI fL fG fE fA fB ST) 12) :: (PR, prepB) :: (BT, { cls := .type "tuple", data := .seq #[.type "object"] }) :: led) (by kernel_rfl)
  refine clx_updCls (cd' := { kCd C N with hasDict := true, slotNames := [] }) D4 0 rfl (by kernel_rfl) (by kernel_rfl) ?_
  intro h5 D5
  dsimp only [List.set] at D5
  repeat (first | ((with_reducible show wpAny _ _ (Slots.install _ _ _ _) _ _ _); refine Halt.out ?_) | ((with_reducible show wpAny _ _ (call (Value.type "super") _ _) _ _ _); refine Halt.out ?_) | ((with_reducible show wpAny _ _ (call (Value.ref _) _ _) _ _ _); refine Halt.out ?_) | ((with_reducible show wpAny _ _ (getAttr (Value.ref _) _ _) _ _ _); refine Halt.out ?_) | with_reducible refine arr_halt ?_ | ((with_reducible show wpAny _ _ (Bind.refreshMaker _) _ _ _); refine Halt.out ?_) | ((with_reducible show wpAny _ _ (updateCls _ _) _ _ _); refine Halt.out ?_) | ((with_reducible show wpAny _ _ (List.anyM _ (List.filter _ _)) _ _ _); rw [flt_self]) | ((with_reducible show wpAny _ _ (setSlotAt _ _ _) _ _ _); (first | ((with_reducible refine clx_setSlot (by k_dflt assumption) 0 (by k_dflt rfl) (by k_dflt (decide +kernel)) (by k_dflt (first | exact pS0 _ | exact pS2 _ _ | exact pS3 _ _ _ _ | exact pS4 _ _ _ _ _ | exact pS5 _ _ _ _ _ _)) (by k_dflt rfl) ?_)) | ((with_reducible refine clx_setSlot (by k_dflt assumption) 1 (by k_dflt rfl) (by k_dflt (decide +kernel)) (by k_dflt (first | exact pS0 _ | exact pS2 _ _ | exact pS3 _ _ _ _ | exact pS4 _ _ _ _ _ | exact pS5 _ _ _ _ _ _)) (by k_dflt rfl) ?_))); intro _ _) | ((with_reducible show wpAny _ _ (nsSet _ _ _) _ _ _); refine Halt.out ?_) | ((with_reducible show wpAny _ _ (Sem.update _ _ _ _) _ _ _); (first | refine clx_update (by assumption) 0 (by rfl) rfl (by rfl) ?_ | refine clx_update (by assumption) 1 (by rfl) rfl (by rfl) ?_ | refine clx_update (by assumption) 2 (by rfl) rfl (by rfl) ?_ | refine clx_update (by assumption) 3 (by rfl) rfl (by rfl) ?_ | refine clx_update (by assumption) 4 (by rfl) rfl (by rfl) ?_ | refine clx_update (by assumption) 5 (by rfl) rfl (by rfl) ?_ | refine clx_update (by assumption) 6 (by rfl) rfl (by rfl) ?_ | refine clx_update (by assumption) 7 (by rfl) rfl (by rfl) ?_); intro _ _) | (((fail_if_success (fail_if_success (with_reducible refine' KFB.if_not (c := Array.contains _ _) ?_ ?_))); with_reducible refine KFB.if_not (c := Array.contains _ _) (by k_dflt (decide +kernel)) ?_)) | (((fail_if_success (fail_if_success (with_reducible refine' KFB.if_not (c := Array.any _ _ _ _) ?_ ?_))); with_reducible refine KFB.if_not (c := Array.any _ _ _ _) (by k_dflt (rw [← Array.any_toList]; kernel_rfl)) ?_)) | ((with_reducible refine app_abs (by assumption) ?_)) | ((with_reducible refine bind_abs ?_); intro _ _) | (first | ((with_reducible show wpAny _ _ (Bind.madeBy (Value.type _)) _ _ _); with_reducible refine Looks.at (Looks.of_pure made_type) ?_) | ((with_reducible show wpAny _ _ (Builtin.extendedBase _) _ _ _); with_reducible refine Looks.at (Looks.of_pure ext_obj) ?_) | ((with_reducible show wpAny _ _ (Builtin.notOverATurnedClass _) _ _ _); with_reducible refine Looks.at (Looks.of_pure not_over) ?_) | ((with_reducible show wpAny _ _ (mroOf (Value.type _)) _ _ _); with_reducible refine Looks.at (Looks.of_pure mro_type) ?_) | ((with_reducible show wpAny _ _ (Builtin.mroHook? _) _ _ _); with_reducible refine Looks.at (Looks.of_pure hook_none) ?_) | ((with_reducible show wpAny _ _ (Builtin.linearize _ _) _ _ _); with_reducible refine Looks.at (Looks.of_pure lin_obj) ?_) | ((with_reducible show wpAny _ _ (Slots.givesWeak (Value.type _)) _ _ _); with_reducible refine Looks.at (Looks.of_pure weak_obj) ?_) | ((with_reducible show wpAny _ _ (Bind.madeBy (Value.type _)) _ _ _); with_reducible refine Looks.at (Looks.of_pure made_obj) ?_) | ((with_reducible show wpAny _ _ (noteSubclassOfBuiltin _ _) _ _ _); with_reducible refine Looks.at (Looks.of_pure (nsub_obj _)) ?_) | with_reducible refine nd_try ?_) | (first | ((with_reducible show wpAny _ _ (typeOf (Value.type _)) _ _ _); first | with_reducible refine Looks.at lk_tobj ?_ | with_reducible refine Looks.at lk_ttyp ?_) | ((with_reducible show wpAny _ _ (isType (Value.type _)) _ _ _); first | with_reducible refine Looks.at lk_iobj ?_ | with_reducible refine Looks.at lk_ityp ?_) | ((with_reducible show wpAny _ _ (isSubtype (Value.type _) (Value.type _)) _ _ _); with_reducible refine Looks.at lk_stt ?_)) | ((with_reducible show wpAny _ _ (if (_ == sysModules) = true then _ else _) _ _ _); (first | refine cl_small (by assumption) rfl 0 (by rfl) ?_ | refine cl_small (by assumption) rfl 1 (by rfl) ?_ | refine cl_small (by assumption) rfl 2 (by rfl) ?_ | refine cl_small (by assumption) rfl 3 (by rfl) ?_ | refine cl_small (by assumption) rfl 4 (by rfl) ?_ | refine cl_small (by assumption) rfl 5 (by rfl) ?_ | refine cl_small (by assumption) rfl 6 (by rfl) ?_ | refine cl_small (by assumption) rfl 7 (by rfl) ?_ | refine cl_small (by assumption) rfl 8 (by rfl) ?_ | refine cl_small (by assumption) rfl 9 (by rfl) ?_ | refine cl_small (by assumption) rfl 10 (by rfl) ?_ | refine cl_small (by assumption) rfl 11 (by rfl) ?_ | refine cl_small (by assumption) rfl 12 (by rfl) ?_ | refine cl_small (by assumption) rfl 13 (by rfl) ?_ | refine cl_small (by assumption) rfl 14 (by rfl) ?_ | refine cl_small (by assumption) rfl 15 (by rfl) ?_ | refine cl_small (by assumption) rfl 16 (by rfl) ?_ | refine cl_small (by assumption) rfl 17 (by rfl) ?_ | refine cl_small (by assumption) rfl 18 (by rfl) ?_ | refine cl_small (by assumption) rfl 19 (by rfl) ?_ | refine cl_small (by assumption) rfl 20 (by rfl) ?_ | refine cl_small (by assumption) rfl 21 (by rfl) ?_ | refine cl_small (by assumption) rfl 22 (by rfl) ?_ | refine cl_small (by assumption) rfl 23 (by rfl) ?_)) | ((with_reducible show wpAny _ _ (Slots.read _ _ _) _ _ _); refine Halt.out ?_) | ((with_reducible show wpAny _ _ (if (_ || _ == some (Value.builtin "dict.__iter__")) = true then _ else _) _ _ _); (refine KFB.if_so (by kernel_rfl) ?_)) | with_reducible refine wpAny_call ?_ | ((with_reducible show wpAny _ _ (Sem.alloc _ _) _ _ _); refine Halt.out ?_) | (((fail_if_success (fail_if_success (with_reducible refine' Looks.at (cl_findIn (K := fragK.heap_1 _) ?_ ?_ ?_) ?_))); with_reducible refine Looks.at (cl_findIn (K := fragK.heap_1 _) (by assumption) (by assumption) (by k_dflt k_is)) ?_)) | (((fail_if_success (fail_if_success (with_reducible refine' Looks.at (looks_nsGet ?_ ?_) ?_))); with_reducible refine Looks.at (looks_nsGet (by k_dflt (first | exact Cl.at (by assumption) 0 (by rfl) | exact Cl.at (by assumption) 1 (by rfl) | exact Cl.at (by assumption) 2 (by rfl) | exact Cl.at (by assumption) 3 (by rfl) | exact Cl.at (by assumption) 4 (by rfl) | exact Cl.at (by assumption) 5 (by rfl) | exact Cl.at (by assumption) 6 (by rfl) | exact Cl.at (by assumption) 7 (by rfl) | exact Cl.at (by assumption) 8 (by rfl) | exact Cl.at (by assumption) 9 (by rfl) | exact Cl.at (by assumption) 10 (by rfl) | exact Cl.at (by assumption) 11 (by rfl) | exact Cl.at (by assumption) 12 (by rfl) | exact Cl.at (by assumption) 13 (by rfl) | exact Cl.at (by assumption) 14 (by rfl) | exact Cl.at (by assumption) 15 (by rfl) | exact Cl.at (by assumption) 16 (by rfl) | exact Cl.at (by assumption) 17 (by rfl) | exact Cl.at (by assumption) 18 (by rfl) | exact Cl.at (by assumption) 19 (by rfl) | exact Cl.at (by assumption) 20 (by rfl) | exact Cl.at (by assumption) 21 (by rfl) | exact Cl.at (by assumption) 22 (by rfl) | exact Cl.at (by assumption) 23 (by rfl))) (by k_dflt rfl)) ?_)) | (((fail_if_success (fail_if_success (with_reducible refine' nd_load ?_ ?_))); with_reducible refine nd_load (by k_dflt (first | assumption | exact Cl.at (by assumption) 0 (by rfl) | exact Cl.at (by assumption) 1 (by rfl) | exact Cl.at (by assumption) 2 (by rfl) | exact Cl.at (by assumption) 3 (by rfl) | exact Cl.at (by assumption) 4 (by rfl) | exact Cl.at (by assumption) 5 (by rfl) | exact Cl.at (by assumption) 6 (by rfl) | exact Cl.at (by assumption) 7 (by rfl) | exact Cl.at (by assumption) 8 (by rfl) | exact Cl.at (by assumption) 9 (by rfl) | exact Cl.at (by assumption) 10 (by rfl) | exact Cl.at (by assumption) 11 (by rfl) | exact Cl.at (by assumption) 12 (by rfl) | exact Cl.at (by assumption) 13 (by rfl) | exact Cl.at (by assumption) 14 (by rfl) | exact Cl.at (by assumption) 15 (by rfl) | exact Cl.at (by assumption) 16 (by rfl) | exact Cl.at (by assumption) 17 (by rfl) | exact Cl.at (by assumption) 18 (by rfl) | exact Cl.at (by assumption) 19 (by rfl) | exact Cl.at (by assumption) 20 (by rfl) | exact Cl.at (by assumption) 21 (by rfl) | exact Cl.at (by assumption) 22 (by rfl) | exact Cl.at (by assumption) 23 (by rfl))) ?_)) | lk)
  refine ⟨?_⟩
  rename Cl _ _ _ _ _ _ _ _ => DY
  have D6 := DY.cast (led' := (C, ⟨.type "type", none, .cls { kCd C N with hasDict := true, slotNames := [] }, [some (.ref BT), none, some (.str "K" tn), some (.str "cmp_to_key.<locals>.K" tk3), some (.builtin "object.__new__")].toArray⟩) :: (N, dictOf (clsNs w tk1 tk4 tk5 u1 u2 u3 u4 u5 u6 u7 u8 u9 u11 LST fI fL fG fE fA fB ST) 1) :: (ST, { cls := .type "tuple", data := .seq #[.str "obj" u10] }) :: (fB, fnMade nB qB pB bB sB clB dB mB cB kB) :: (fA, fnMade nA qA pA bA sA clA dA mA cA kA) :: (fE, fnMade nE qE pE bE sE clE dE mE cE kE) :: (fG, fnMade nG qG pG bG sG clG dG mG cG kG) :: (fL, fnMade nL qL pL bL sL clL dL mL cL kL) :: (cL, oL) :: (fI, fnMade nI qI pI bI sI clI dI mI cI kI) :: (cI, oI) :: (LST, { cls := .type "list", data := .seq #[.str "obj" u0] }) :: (FR, oF) :: (P', tabObj pt) :: (CC, oK) :: (N0, dictOf (clsAll w tk1 tk2 tk3 tk4 tk5 u1 u2 u3 u4 u5 u6 u7 u8 u9 u11 LST fI fL fG fE fA fB ST) 12) :: (PR, prepB) :: (BT, { cls := .type "tuple", data := .seq #[.type "object"] }) :: led) (by kernel_rfl)
  refine Looks.at (cl_refresh D6 0 1 rfl rfl rfl rfl (by kernel_rfl) rfl) ?_
  repeat (first | ((with_reducible show wpAny _ _ (Slots.install _ _ _ _) _ _ _); refine Halt.out ?_) | ((with_reducible show wpAny _ _ (call (Value.type "super") _ _) _ _ _); refine Halt.out ?_) | ((with_reducible show wpAny _ _ (call (Value.ref _) _ _) _ _ _); refine Halt.out ?_) | ((with_reducible show wpAny _ _ (getAttr (Value.ref _) _ _) _ _ _); refine Halt.out ?_) | with_reducible refine arr_halt ?_ | ((with_reducible show wpAny _ _ (Bind.refreshMaker _) _ _ _); refine Halt.out ?_) | ((with_reducible show wpAny _ _ (updateCls _ _) _ _ _); refine Halt.out ?_) | ((with_reducible show wpAny _ _ (List.anyM _ (List.filter _ _)) _ _ _); rw [flt_self]) | ((with_reducible show wpAny _ _ (setSlotAt _ _ _) _ _ _); (first | ((with_reducible refine clx_setSlot (by k_dflt assumption) 0 (by k_dflt rfl) (by k_dflt (decide +kernel)) (by k_dflt (first | exact pS0 _ | exact pS2 _ _ | exact pS3 _ _ _ _ | exact pS4 _ _ _ _ _ | exact pS5 _ _ _ _ _ _)) (by k_dflt rfl) ?_)) | ((with_reducible refine clx_setSlot (by k_dflt assumption) 1 (by k_dflt rfl) (by k_dflt (decide +kernel)) (by k_dflt (first | exact pS0 _ | exact pS2 _ _ | exact pS3 _ _ _ _ | exact pS4 _ _ _ _ _ | exact pS5 _ _ _ _ _ _)) (by k_dflt rfl) ?_))); intro _ _) | ((with_reducible show wpAny _ _ (nsSet _ _ _) _ _ _); refine Halt.out ?_) | ((with_reducible show wpAny _ _ (Sem.update _ _ _ _) _ _ _); (first | refine clx_update (by assumption) 0 (by rfl) rfl (by rfl) ?_ | refine clx_update (by assumption) 1 (by rfl) rfl (by rfl) ?_ | refine clx_update (by assumption) 2 (by rfl) rfl (by rfl) ?_ | refine clx_update (by assumption) 3 (by rfl) rfl (by rfl) ?_ | refine clx_update (by assumption) 4 (by rfl) rfl (by rfl) ?_ | refine clx_update (by assumption) 5 (by rfl) rfl (by rfl) ?_ | refine clx_update (by assumption) 6 (by rfl) rfl (by rfl) ?_ | refine clx_update (by assumption) 7 (by rfl) rfl (by rfl) ?_); intro _ _) | (((fail_if_success (fail_if_success (with_reducible refine' KFB.if_not (c := Array.contains _ _) ?_ ?_))); with_reducible refine KFB.if_not (c := Array.contains _ _) (by k_dflt (decide +kernel)) ?_)) | (((fail_if_success (fail_if_success (with_reducible refine' KFB.if_not (c := Array.any _ _ _ _) ?_ ?_))); with_reducible refine KFB.if_not (c := Array.any _ _ _ _) (by k_dflt (rw [← Array.any_toList]; kernel_rfl)) ?_)) | ((with_reducible refine app_abs (by assumption) ?_)) | ((with_reducible refine bind_abs ?_); intro _ _) | (first | ((with_reducible show wpAny _ _ (Bind.madeBy (Value.type _)) _ _ _); with_reducible refine Looks.at (Looks.of_pure made_type) ?_) | ((with_reducible show wpAny _ _ (Builtin.extendedBase _) _ _ _); with_reducible refine Looks.at (Looks.of_pure ext_obj) ?_) | ((with_reducible show wpAny _ _ (Builtin.notOverATurnedClass _) _ _ _); with_reducible refine Looks.at (Looks.of_pure not_over) ?_) | ((with_reducible show wpAny _ _ (mroOf (Value.type _)) _ _ _); with_reducible refine Looks.at (Looks.of_pure mro_type) ?_) | ((with_reducible show wpAny _ _ (Builtin.mroHook? _) _ _ _); with_reducible refine Looks.at (Looks.of_pure hook_none) ?_) | ((with_reducible show wpAny _ _ (Builtin.linearize _ _) _ _ _); with_reducible refine Looks.at (Looks.of_pure lin_obj) ?_) | ((with_reducible show wpAny _ _ (Slots.givesWeak (Value.type _)) _ _ _); with_reducible refine Looks.at (Looks.of_pure weak_obj) ?_) | ((with_reducible show wpAny _ _ (Bind.madeBy (Value.type _)) _ _ _); with_reducible refine Looks.at (Looks.of_pure made_obj) ?_) | ((with_reducible show wpAny _ _ (noteSubclassOfBuiltin _ _) _ _ _); with_reducible refine Looks.at (Looks.of_pure (nsub_obj _)) ?_) | with_reducible refine nd_try ?_) | (first | ((with_reducible show wpAny _ _ (typeOf (Value.type _)) _ _ _); first | with_reducible refine Looks.at lk_tobj ?_ | with_reducible refine Looks.at lk_ttyp ?_) | ((with_reducible show wpAny _ _ (isType (Value.type _)) _ _ _); first | with_reducible refine Looks.at lk_iobj ?_ | with_reducible refine Looks.at lk_ityp ?_) | ((with_reducible show wpAny _ _ (isSubtype (Value.type _) (Value.type _)) _ _ _); with_reducible refine Looks.at lk_stt ?_)) | ((with_reducible show wpAny _ _ (if (_ == sysModules) = true then _ else _) _ _ _); (first | refine cl_small (by assumption) rfl 0 (by rfl) ?_ | refine cl_small (by assumption) rfl 1 (by rfl) ?_ | refine cl_small (by assumption) rfl 2 (by rfl) ?_ | refine cl_small (by assumption) rfl 3 (by rfl) ?_ | refine cl_small (by assumption) rfl 4 (by rfl) ?_ | refine cl_small (by assumption) rfl 5 (by rfl) ?_ | refine cl_small (by assumption) rfl 6 (by rfl) ?_ | refine cl_small (by assumption) rfl 7 (by rfl) ?_ | refine cl_small (by assumption) rfl 8 (by rfl) ?_ | refine cl_small (by assumption) rfl 9 (by rfl) ?_ | refine cl_small (by assumption) rfl 10 (by rfl) ?_ | refine cl_small (by assumption) rfl 11 (by rfl) ?_ | refine cl_small (by assumption) rfl 12 (by rfl) ?_ | refine cl_small (by assumption) rfl 13 (by rfl) ?_ | refine cl_small (by assumption) rfl 14 (by rfl) ?_ | refine cl_small (by assumption) rfl 15 (by rfl) ?_ | refine cl_small (by assumption) rfl 16 (by rfl) ?_ | refine cl_small (by assumption) rfl 17 (by rfl) ?_ | refine cl_small (by assumption) rfl 18 (by rfl) ?_ | refine cl_small (by assumption) rfl 19 (by rfl) ?_ | refine cl_small (by assumption) rfl 20 (by rfl) ?_ | refine cl_small (by assumption) rfl 21 (by rfl) ?_ | refine cl_small (by assumption) rfl 22 (by rfl) ?_ | refine cl_small (by assumption) rfl 23 (by rfl) ?_)) | ((with_reducible show wpAny _ _ (Slots.read _ _ _) _ _ _); refine Halt.out ?_) | ((with_reducible show wpAny _ _ (if (_ || _ == some (Value.builtin "dict.__iter__")) = true then _ else _) _ _ _); (refine KFB.if_so (by kernel_rfl) ?_)) | with_reducible refine wpAny_call ?_ | ((with_reducible show wpAny _ _ (Sem.alloc _ _) _ _ _); refine Halt.out ?_) | (((fail_if_success (fail_if_success (with_reducible refine' Looks.at (cl_findIn (K := fragK.heap_1 _) ?_ ?_ ?_) ?_))); with_reducible refine Looks.at (cl_findIn (K := fragK.heap_1 _) (by assumption) (by assumption) (by k_dflt k_is)) ?_)) | (((fail_if_success (fail_if_success (with_reducible refine' Looks.at (looks_nsGet ?_ ?_) ?_))); with_reducible refine Looks.at (looks_nsGet (by k_dflt (first | exact Cl.at (by assumption) 0 (by rfl) | exact Cl.at (by assumption) 1 (by rfl) | exact Cl.at (by assumption) 2 (by rfl) | exact Cl.at (by assumption) 3 (by rfl) | exact Cl.at (by assumption) 4 (by rfl) | exact Cl.at (by assumption) 5 (by rfl) | exact Cl.at (by assumption) 6 (by rfl) | exact Cl.at (by assumption) 7 (by rfl) | exact Cl.at (by assumption) 8 (by rfl) | exact Cl.at (by assumption) 9 (by rfl) | exact Cl.at (by assumption) 10 (by rfl) | exact Cl.at (by assumption) 11 (by rfl) | exact Cl.at (by assumption) 12 (by rfl) | exact Cl.at (by assumption) 13 (by rfl) | exact Cl.at (by assumption) 14 (by rfl) | exact Cl.at (by assumption) 15 (by rfl) | exact Cl.at (by assumption) 16 (by rfl) | exact Cl.at (by assumption) 17 (by rfl) | exact Cl.at (by assumption) 18 (by rfl) | exact Cl.at (by assumption) 19 (by rfl) | exact Cl.at (by assumption) 20 (by rfl) | exact Cl.at (by assumption) 21 (by rfl) | exact Cl.at (by assumption) 22 (by rfl) | exact Cl.at (by assumption) 23 (by rfl))) (by k_dflt rfl)) ?_)) | (((fail_if_success (fail_if_success (with_reducible refine' nd_load ?_ ?_))); with_reducible refine nd_load (by k_dflt (first | assumption | exact Cl.at (by assumption) 0 (by rfl) | exact Cl.at (by assumption) 1 (by rfl) | exact Cl.at (by assumption) 2 (by rfl) | exact Cl.at (by assumption) 3 (by rfl) | exact Cl.at (by assumption) 4 (by rfl) | exact Cl.at (by assumption) 5 (by rfl) | exact Cl.at (by assumption) 6 (by rfl) | exact Cl.at (by assumption) 7 (by rfl) | exact Cl.at (by assumption) 8 (by rfl) | exact Cl.at (by assumption) 9 (by rfl) | exact Cl.at (by assumption) 10 (by rfl) | exact Cl.at (by assumption) 11 (by rfl) | exact Cl.at (by assumption) 12 (by rfl) | exact Cl.at (by assumption) 13 (by rfl) | exact Cl.at (by assumption) 14 (by rfl) | exact Cl.at (by assumption) 15 (by rfl) | exact Cl.at (by assumption) 16 (by rfl) | exact Cl.at (by assumption) 17 (by rfl) | exact Cl.at (by assumption) 18 (by rfl) | exact Cl.at (by assumption) 19 (by rfl) | exact Cl.at (by assumption) 20 (by rfl) | exact Cl.at (by assumption) 21 (by rfl) | exact Cl.at (by assumption) 22 (by rfl) | exact Cl.at (by assumption) 23 (by rfl))) ?_)) | lk)
  refine ⟨?_⟩
  refine cl_install D6 0 1 rfl rfl (by decide) (by kernel_rfl) (by kernel_rfl) (by kernel_rfl) (by kernel_rfl) ?_
  intro MD h7 D7
  dsimp only [List.set] at D7
  have D8 := D7.cast (led' := (MD, mdObj C t) :: (C, ⟨.type "type", none, .cls (kCd C N), [some (.ref BT), none, some (.str "K" tn), some (.str "cmp_to_key.<locals>.K" tk3), some (.builtin "object.__new__")].toArray⟩) :: (N, dictOf (clsNs w tk1 tk4 tk5 u1 u2 u3 u4 u5 u6 u7 u8 u9 u11 LST fI fL fG fE fA fB ST ++ [de w "obj" (t + 1) (.ref MD)]) 2) :: (ST, { cls := .type "tuple", data := .seq #[.str "obj" u10] }) :: (fB, fnMade nB qB pB bB sB clB dB mB cB kB) :: (fA, fnMade nA qA pA bA sA clA dA mA cA kA) :: (fE, fnMade nE qE pE bE sE clE dE mE cE kE) :: (fG, fnMade nG qG pG bG sG clG dG mG cG kG) :: (fL, fnMade nL qL pL bL sL clL dL mL cL kL) :: (cL, oL) :: (fI, fnMade nI qI pI bI sI clI dI mI cI kI) :: (cI, oI) :: (LST, { cls := .type "list", data := .seq #[.str "obj" u0] }) :: (FR, oF) :: (P', tabObj pt) :: (CC, oK) :: (N0, dictOf (clsAll w tk1 tk2 tk3 tk4 tk5 u1 u2 u3 u4 u5 u6 u7 u8 u9 u11 LST fI fL fG fE fA fB ST) 12) :: (PR, prepB) :: (BT, { cls := .type "tuple", data := .seq #[.type "object"] }) :: led) (by kernel_rfl)
  repeat (first | ((with_reducible show wpAny _ _ (Slots.install _ _ _ _) _ _ _); refine Halt.out ?_) | ((with_reducible show wpAny _ _ (call (Value.type "super") _ _) _ _ _); refine Halt.out ?_) | ((with_reducible show wpAny _ _ (call (Value.ref _) _ _) _ _ _); refine Halt.out ?_) | ((with_reducible show wpAny _ _ (getAttr (Value.ref _) _ _) _ _ _); refine Halt.out ?_) | with_reducible refine arr_halt ?_ | ((with_reducible show wpAny _ _ (Bind.refreshMaker _) _ _ _); refine Halt.out ?_) | ((with_reducible show wpAny _ _ (updateCls _ _) _ _ _); refine Halt.out ?_) | ((with_reducible show wpAny _ _ (List.anyM _ (List.filter _ _)) _ _ _); rw [flt_self]) | ((with_reducible show wpAny _ _ (setSlotAt _ _ _) _ _ _); (first | ((with_reducible refine clx_setSlot (by k_dflt assumption) 0 (by k_dflt rfl) (by k_dflt (decide +kernel)) (by k_dflt (first | exact pS0 _ | exact pS2 _ _ | exact pS3 _ _ _ _ | exact pS4 _ _ _ _ _ | exact pS5 _ _ _ _ _ _)) (by k_dflt rfl) ?_)) | ((with_reducible refine clx_setSlot (by k_dflt assumption) 1 (by k_dflt rfl) (by k_dflt (decide +kernel)) (by k_dflt (first | exact pS0 _ | exact pS2 _ _ | exact pS3 _ _ _ _ | exact pS4 _ _ _ _ _ | exact pS5 _ _ _ _ _ _)) (by k_dflt rfl) ?_))); intro _ _) | ((with_reducible show wpAny _ _ (nsSet _ _ _) _ _ _); refine Halt.out ?_) | ((with_reducible show wpAny _ _ (Sem.update _ _ _ _) _ _ _); (first | refine clx_update (by assumption) 0 (by rfl) rfl (by rfl) ?_ | refine clx_update (by assumption) 1 (by rfl) rfl (by rfl) ?_ | refine clx_update (by assumption) 2 (by rfl) rfl (by rfl) ?_ | refine clx_update (by assumption) 3 (by rfl) rfl (by rfl) ?_ | refine clx_update (by assumption) 4 (by rfl) rfl (by rfl) ?_ | refine clx_update (by assumption) 5 (by rfl) rfl (by rfl) ?_ | refine clx_update (by assumption) 6 (by rfl) rfl (by rfl) ?_ | refine clx_update (by assumption) 7 (by rfl) rfl (by rfl) ?_); intro _ _) | (((fail_if_success (fail_if_success (with_reducible refine' KFB.if_not (c := Array.contains _ _) ?_ ?_))); with_reducible refine KFB.if_not (c := Array.contains _ _) (by k_dflt (decide +kernel)) ?_)) | (((fail_if_success (fail_if_success (with_reducible refine' KFB.if_not (c := Array.any _ _ _ _) ?_ ?_))); with_reducible refine KFB.if_not (c := Array.any _ _ _ _) (by k_dflt (rw [← Array.any_toList]; kernel_rfl)) ?_)) | ((with_reducible refine app_abs (by assumption) ?_)) | ((with_reducible refine bind_abs ?_); intro _ _) | (first | ((with_reducible show wpAny _ _ (Bind.madeBy (Value.type _)) _ _ _); with_reducible refine Looks.at (Looks.of_pure made_type) ?_) | ((with_reducible show wpAny _ _ (Builtin.extendedBase _) _ _ _); with_reducible refine Looks.at (Looks.of_pure ext_obj) ?_) | ((with_reducible show wpAny _ _ (Builtin.notOverATurnedClass _) _ _ _); with_reducible refine Looks.at (Looks.of_pure not_over) ?_) | ((with_reducible show wpAny _ _ (mroOf (Value.type _)) _ _ _); with_reducible refine Looks.at (Looks.of_pure mro_type) ?_) | ((with_reducible show wpAny _ _ (Builtin.mroHook? _) _ _ _); with_reducible refine Looks.at (Looks.of_pure hook_none) ?_) | ((with_reducible show wpAny _ _ (Builtin.linearize _ _) _ _ _); with_reducible refine Looks.at (Looks.of_pure lin_obj) ?_) | ((with_reducible show wpAny _ _ (Slots.givesWeak (Value.type _)) _ _ _); with_reducible refine Looks.at (Looks.of_pure weak_obj) ?_) | ((with_reducible show wpAny _ _ (Bind.madeBy (Value.type _)) _ _ _); with_reducible refine Looks.at (Looks.of_pure made_obj) ?_) | ((with_reducible show wpAny _ _ (noteSubclassOfBuiltin _ _) _ _ _); with_reducible refine Looks.at (Looks.of_pure (nsub_obj _)) ?_) | with_reducible refine nd_try ?_) | (first | ((with_reducible show wpAny _ _ (typeOf (Value.type _)) _ _ _); first | with_reducible refine Looks.at lk_tobj ?_ | with_reducible refine Looks.at lk_ttyp ?_) | ((with_reducible show wpAny _ _ (isType (Value.type _)) _ _ _); first | with_reducible refine Looks.at lk_iobj ?_ | with_reducible refine Looks.at lk_ityp ?_) | ((with_reducible show wpAny _ _ (isSubtype (Value.type _) (Value.type _)) _ _ _); with_reducible refine Looks.at lk_stt ?_)) | ((with_reducible show wpAny _ _ (if (_ == sysModules) = true then _ else _) _ _ _); (first | refine cl_small (by assumption) rfl 0 (by rfl) ?_ | refine cl_small (by assumption) rfl 1 (by rfl) ?_ | refine cl_small (by assumption) rfl 2 (by rfl) ?_ | refine cl_small (by assumption) rfl 3 (by rfl) ?_ | refine cl_small (by assumption) rfl 4 (by rfl) ?_ | refine cl_small (by assumption) rfl 5 (by rfl) ?_ | refine cl_small (by assumption) rfl 6 (by rfl) ?_ | refine cl_small (by assumption) rfl 7 (by rfl) ?_ | refine cl_small (by assumption) rfl 8 (by rfl) ?_ | refine cl_small (by assumption) rfl 9 (by rfl) ?_ | refine cl_small (by assumption) rfl 10 (by rfl) ?_ | refine cl_small (by assumption) rfl 11 (by rfl) ?_ | refine cl_small (by assumption) rfl 12 (by rfl) ?_ | refine cl_small (by assumption) rfl 13 (by rfl) ?_ | refine cl_small (by assumption) rfl 14 (by rfl) ?_ | refine cl_small (by assumption) rfl 15 (by rfl) ?_ | refine cl_small (by assumption) rfl 16 (by rfl) ?_ | refine cl_small (by assumption) rfl 17 (by rfl) ?_ | refine cl_small (by assumption) rfl 18 (by rfl) ?_ | refine cl_small (by assumption) rfl 19 (by rfl) ?_ | refine cl_small (by assumption) rfl 20 (by rfl) ?_ | refine cl_small (by assumption) rfl 21 (by rfl) ?_ | refine cl_small (by assumption) rfl 22 (by rfl) ?_ | refine cl_small (by assumption) rfl 23 (by rfl) ?_)) | ((with_reducible show wpAny _ _ (Slots.read _ _ _) _ _ _); refine Halt.out ?_) | ((with_reducible show wpAny _ _ (if (_ || _ == some (Value.builtin "dict.__iter__")) = true then _ else _) _ _ _); (refine KFB.if_so (by kernel_rfl) ?_)) | with_reducible refine wpAny_call ?_ | ((with_reducible show wpAny _ _ (Sem.alloc _ _) _ _ _); refine Halt.out ?_) | (((fail_if_success (fail_if_success (with_reducible refine' Looks.at (cl_findIn (K := fragK.heap_1 _) ?_ ?_ ?_) ?_))); with_reducible refine Looks.at (cl_findIn (K := fragK.heap_1 _) (by assumption) (by assumption) (by k_dflt k_is)) ?_)) | (((fail_if_success (fail_if_success (with_reducible refine' Looks.at (looks_nsGet ?_ ?_) ?_))); with_reducible refine Looks.at (looks_nsGet (by k_dflt (first | exact Cl.at (by assumption) 0 (by rfl) | exact Cl.at (by assumption) 1 (by rfl) | exact Cl.at (by assumption) 2 (by rfl) | exact Cl.at (by assumption) 3 (by rfl) | exact Cl.at (by assumption) 4 (by rfl) | exact Cl.at (by assumption) 5 (by rfl) | exact Cl.at (by assumption) 6 (by rfl) | exact Cl.at (by assumption) 7 (by rfl) | exact Cl.at (by assumption) 8 (by rfl) | exact Cl.at (by assumption) 9 (by rfl) | exact Cl.at (by assumption) 10 (by rfl) | exact Cl.at (by assumption) 11 (by rfl) | exact Cl.at (by assumption) 12 (by rfl) | exact Cl.at (by assumption) 13 (by rfl) | exact Cl.at (by assumption) 14 (by rfl) | exact Cl.at (by assumption) 15 (by rfl) | exact Cl.at (by assumption) 16 (by rfl) | exact Cl.at (by assumption) 17 (by rfl) | exact Cl.at (by assumption) 18 (by rfl) | exact Cl.at (by assumption) 19 (by rfl) | exact Cl.at (by assumption) 20 (by rfl) | exact Cl.at (by assumption) 21 (by rfl) | exact Cl.at (by assumption) 22 (by rfl) | exact Cl.at (by assumption) 23 (by rfl))) (by k_dflt rfl)) ?_)) | (((fail_if_success (fail_if_success (with_reducible refine' nd_load ?_ ?_))); with_reducible refine nd_load (by k_dflt (first | assumption | exact Cl.at (by assumption) 0 (by rfl) | exact Cl.at (by assumption) 1 (by rfl) | exact Cl.at (by assumption) 2 (by rfl) | exact Cl.at (by assumption) 3 (by rfl) | exact Cl.at (by assumption) 4 (by rfl) | exact Cl.at (by assumption) 5 (by rfl) | exact Cl.at (by assumption) 6 (by rfl) | exact Cl.at (by assumption) 7 (by rfl) | exact Cl.at (by assumption) 8 (by rfl) | exact Cl.at (by assumption) 9 (by rfl) | exact Cl.at (by assumption) 10 (by rfl) | exact Cl.at (by assumption) 11 (by rfl) | exact Cl.at (by assumption) 12 (by rfl) | exact Cl.at (by assumption) 13 (by rfl) | exact Cl.at (by assumption) 14 (by rfl) | exact Cl.at (by assumption) 15 (by rfl) | exact Cl.at (by assumption) 16 (by rfl) | exact Cl.at (by assumption) 17 (by rfl) | exact Cl.at (by assumption) 18 (by rfl) | exact Cl.at (by assumption) 19 (by rfl) | exact Cl.at (by assumption) 20 (by rfl) | exact Cl.at (by assumption) 21 (by rfl) | exact Cl.at (by assumption) 22 (by rfl) | exact Cl.at (by assumption) 23 (by rfl))) ?_)) | lk)
  refine ⟨?_⟩
  rename Cl _ _ _ _ _ _ _ _ => DZ
  have D9 := DZ.cast (led' := (MD, mdObj C t) :: (C, ⟨.type "type", none, .cls (kCd C N), [some (.ref BT), none, some (.str "K" tn), some (.str "cmp_to_key.<locals>.K" tk3), some (.builtin "object.__new__"), some (.bool false)].toArray⟩) :: (N, dictOf (clsNs w tk1 tk4 tk5 u1 u2 u3 u4 u5 u6 u7 u8 u9 u11 LST fI fL fG fE fA fB ST ++ [de w "obj" (t + 1) (.ref MD)]) 2) :: (ST, { cls := .type "tuple", data := .seq #[.str "obj" u10] }) :: (fB, fnMade nB qB pB bB sB clB dB mB cB kB) :: (fA, fnMade nA qA pA bA sA clA dA mA cA kA) :: (fE, fnMade nE qE pE bE sE clE dE mE cE kE) :: (fG, fnMade nG qG pG bG sG clG dG mG cG kG) :: (fL, fnMade nL qL pL bL sL clL dL mL cL kL) :: (cL, oL) :: (fI, fnMade nI qI pI bI sI clI dI mI cI kI) :: (cI, oI) :: (LST, { cls := .type "list", data := .seq #[.str "obj" u0] }) :: (FR, oF) :: (P', tabObj pt) :: (CC, oK) :: (N0, dictOf (clsAll w tk1 tk2 tk3 tk4 tk5 u1 u2 u3 u4 u5 u6 u7 u8 u9 u11 LST fI fL fG fE fA fB ST) 12) :: (PR, prepB) :: (BT, { cls := .type "tuple", data := .seq #[.type "object"] }) :: led) (by kernel_rfl)
  refine clx_nsSet D9 2 rfl (by kernel_rfl) ?_
  intro h10 D10
  have D11 := D10.cast (led' := (MD, mdObj C t) :: (C, ⟨.type "type", none, .cls (kCd C N), [some (.ref BT), none, some (.str "K" tn), some (.str "cmp_to_key.<locals>.K" tk3), some (.builtin "object.__new__"), some (.bool false)].toArray⟩) :: (N, dictOf (clsFin w tk1 tk4 tk5 u1 u2 u3 u4 u5 u6 u7 u8 u9 u11 (t + 1) (t + 1 + 1) LST fI fL fG fE fA fB ST MD) 3) :: (ST, { cls := .type "tuple", data := .seq #[.str "obj" u10] }) :: (fB, fnMade nB qB pB bB sB clB dB mB cB kB) :: (fA, fnMade nA qA pA bA sA clA dA mA cA kA) :: (fE, fnMade nE qE pE bE sE clE dE mE cE kE) :: (fG, fnMade nG qG pG bG sG clG dG mG cG kG) :: (fL, fnMade nL qL pL bL sL clL dL mL cL kL) :: (cL, oL) :: (fI, fnMade nI qI pI bI sI clI dI mI cI kI) :: (cI, oI) :: (LST, { cls := .type "list", data := .seq #[.str "obj" u0] }) :: (FR, oF) :: (P', tabObj pt) :: (CC, oK) :: (N0, dictOf (clsAll w tk1 tk2 tk3 tk4 tk5 u1 u2 u3 u4 u5 u6 u7 u8 u9 u11 LST fI fL fG fE fA fB ST) 12) :: (PR, prepB) :: (BT, { cls := .type "tuple", data := .seq #[.type "object"] }) :: led) (by kernel_rfl)
  repeat (first | ((with_reducible show wpAny _ _ (Slots.install _ _ _ _) _ _ _); refine Halt.out ?_) | ((with_reducible show wpAny _ _ (call (Value.type "super") _ _) _ _ _); refine Halt.out ?_) | ((with_reducible show wpAny _ _ (call (Value.ref _) _ _) _ _ _); refine Halt.out ?_) | ((with_reducible show wpAny _ _ (getAttr (Value.ref _) _ _) _ _ _); refine Halt.out ?_) | with_reducible refine arr_halt ?_ | ((with_reducible show wpAny _ _ (Bind.refreshMaker _) _ _ _); refine Halt.out ?_) | ((with_reducible show wpAny _ _ (updateCls _ _) _ _ _); refine Halt.out ?_) | ((with_reducible show wpAny _ _ (List.anyM _ (List.filter _ _)) _ _ _); rw [flt_self]) | ((with_reducible show wpAny _ _ (setSlotAt _ _ _) _ _ _); (first | ((with_reducible refine clx_setSlot (by k_dflt assumption) 0 (by k_dflt rfl) (by k_dflt (decide +kernel)) (by k_dflt (first | exact pS0 _ | exact pS2 _ _ | exact pS3 _ _ _ _ | exact pS4 _ _ _ _ _ | exact pS5 _ _ _ _ _ _)) (by k_dflt rfl) ?_)) | ((with_reducible refine clx_setSlot (by k_dflt assumption) 1 (by k_dflt rfl) (by k_dflt (decide +kernel)) (by k_dflt (first | exact pS0 _ | exact pS2 _ _ | exact pS3 _ _ _ _ | exact pS4 _ _ _ _ _ | exact pS5 _ _ _ _ _ _)) (by k_dflt rfl) ?_))); intro _ _) | ((with_reducible show wpAny _ _ (nsSet _ _ _) _ _ _); refine Halt.out ?_) | ((with_reducible show wpAny _ _ (Sem.update _ _ _ _) _ _ _); (first | refine clx_update (by assumption) 0 (by rfl) rfl (by rfl) ?_ | refine clx_update (by assumption) 1 (by rfl) rfl (by rfl) ?_ | refine clx_update (by assumption) 2 (by rfl) rfl (by rfl) ?_ | refine clx_update (by assumption) 3 (by rfl) rfl (by rfl) ?_ | refine clx_update (by assumption) 4 (by rfl) rfl (by rfl) ?_ | refine clx_update (by assumption) 5 (by rfl) rfl (by rfl) ?_ | refine clx_update (by assumption) 6 (by rfl) rfl (by rfl) ?_ | refine clx_update (by assumption) 7 (by rfl) rfl (by rfl) ?_); intro _ _) | (((fail_if_success (fail_if_success (with_reducible refine' KFB.if_not (c := Array.contains _ _) ?_ ?_))); with_reducible refine KFB.if_not (c := Array.contains _ _) (by k_dflt (decide +kernel)) ?_)) | (((fail_if_success (fail_if_success (with_reducible refine' KFB.if_not (c := Array.any _ _ _ _) ?_ ?_))); with_reducible refine KFB.if_not (c := Array.any _ _ _ _) (by k_dflt (rw [← Array.any_toList]; kernel_rfl)) ?_)) | ((with_reducible refine app_abs (by assumption) ?_)) | ((with_reducible refine bind_abs ?_); intro _ _) | (first | ((with_reducible show wpAny _ _ (Bind.madeBy (Value.type _)) _ _ _); with_reducible refine Looks.at (Looks.of_pure made_type) ?_) | ((with_reducible show wpAny _ _ (Builtin.extendedBase _) _ _ _); with_reducible refine Looks.at (Looks.of_pure ext_obj) ?_) | ((with_reducible show wpAny _ _ (Builtin.notOverATurnedClass _) _ _ _); with_reducible refine Looks.at (Looks.of_pure not_over) ?_) | ((with_reducible show wpAny _ _ (mroOf (Value.type _)) _ _ _); with_reducible refine Looks.at (Looks.of_pure mro_type) ?_) | ((with_reducible show wpAny _ _ (Builtin.mroHook? _) _ _ _); with_reducible refine Looks.at (Looks.of_pure hook_none) ?_) | ((with_reducible show wpAny _ _ (Builtin.linearize _ _) _ _ _); with_reducible refine Looks.at (Looks.of_pure lin_obj) ?_) | ((with_reducible show wpAny _ _ (Slots.givesWeak (Value.type _)) _ _ _); with_reducible refine Looks.at (Looks.of_pure weak_obj) ?_) | ((with_reducible show wpAny _ _ (Bind.madeBy (Value.type _)) _ _ _); with_reducible refine Looks.at (Looks.of_pure made_obj) ?_) | ((with_reducible show wpAny _ _ (noteSubclassOfBuiltin _ _) _ _ _); with_reducible refine Looks.at (Looks.of_pure (nsub_obj _)) ?_) | with_reducible refine nd_try ?_) | (first | ((with_reducible show wpAny _ _ (typeOf (Value.type _)) _ _ _); first | with_reducible refine Looks.at lk_tobj ?_ | with_reducible refine Looks.at lk_ttyp ?_) | ((with_reducible show wpAny _ _ (isType (Value.type _)) _ _ _); first | with_reducible refine Looks.at lk_iobj ?_ | with_reducible refine Looks.at lk_ityp ?_) | ((with_reducible show wpAny _ _ (isSubtype (Value.type _) (Value.type _)) _ _ _); with_reducible refine Looks.at lk_stt ?_)) | ((with_reducible show wpAny _ _ (if (_ == sysModules) = true then _ else _) _ _ _); (first | refine cl_small (by assumption) rfl 0 (by rfl) ?_ | refine cl_small (by assumption) rfl 1 (by rfl) ?_ | refine cl_small (by assumption) rfl 2 (by rfl) ?_ | refine cl_small (by assumption) rfl 3 (by rfl) ?_ | refine cl_small (by assumption) rfl 4 (by rfl) ?_ | refine cl_small (by assumption) rfl 5 (by rfl) ?_ | refine cl_small (by assumption) rfl 6 (by rfl) ?_ | refine cl_small (by assumption) rfl 7 (by rfl) ?_ | refine cl_small (by assumption) rfl 8 (by rfl) ?_ | refine cl_small (by assumption) rfl 9 (by rfl) ?_ | refine cl_small (by assumption) rfl 10 (by rfl) ?_ | refine cl_small (by assumption) rfl 11 (by rfl) ?_ | refine cl_small (by assumption) rfl 12 (by rfl) ?_ | refine cl_small (by assumption) rfl 13 (by rfl) ?_ | refine cl_small (by assumption) rfl 14 (by rfl) ?_ | refine cl_small (by assumption) rfl 15 (by rfl) ?_ | refine cl_small (by assumption) rfl 16 (by rfl) ?_ | refine cl_small (by assumption) rfl 17 (by rfl) ?_ | refine cl_small (by assumption) rfl 18 (by rfl) ?_ | refine cl_small (by assumption) rfl 19 (by rfl) ?_ | refine cl_small (by assumption) rfl 20 (by rfl) ?_ | refine cl_small (by assumption) rfl 21 (by rfl) ?_ | refine cl_small (by assumption) rfl 22 (by rfl) ?_ | refine cl_small (by assumption) rfl 23 (by rfl) ?_)) | ((with_reducible show wpAny _ _ (Slots.read _ _ _) _ _ _); refine Halt.out ?_) | ((with_reducible show wpAny _ _ (if (_ || _ == some (Value.builtin "dict.__iter__")) = true then _ else _) _ _ _); (refine KFB.if_so (by kernel_rfl) ?_)) | with_reducible refine wpAny_call ?_ | ((with_reducible show wpAny _ _ (Sem.alloc _ _) _ _ _); refine Halt.out ?_) | (((fail_if_success (fail_if_success (with_reducible refine' Looks.at (cl_findIn (K := fragK.heap_1 _) ?_ ?_ ?_) ?_))); with_reducible refine Looks.at (cl_findIn (K := fragK.heap_1 _) (by assumption) (by assumption) (by k_dflt k_is)) ?_)) | (((fail_if_success (fail_if_success (with_reducible refine' Looks.at (looks_nsGet ?_ ?_) ?_))); with_reducible refine Looks.at (looks_nsGet (by k_dflt (first | exact Cl.at (by assumption) 0 (by rfl) | exact Cl.at (by assumption) 1 (by rfl) | exact Cl.at (by assumption) 2 (by rfl) | exact Cl.at (by assumption) 3 (by rfl) | exact Cl.at (by assumption) 4 (by rfl) | exact Cl.at (by assumption) 5 (by rfl) | exact Cl.at (by assumption) 6 (by rfl) | exact Cl.at (by assumption) 7 (by rfl) | exact Cl.at (by assumption) 8 (by rfl) | exact Cl.at (by assumption) 9 (by rfl) | exact Cl.at (by assumption) 10 (by rfl) | exact Cl.at (by assumption) 11 (by rfl) | exact Cl.at (by assumption) 12 (by rfl) | exact Cl.at (by assumption) 13 (by rfl) | exact Cl.at (by assumption) 14 (by rfl) | exact Cl.at (by assumption) 15 (by rfl) | exact Cl.at (by assumption) 16 (by rfl) | exact Cl.at (by assumption) 17 (by rfl) | exact Cl.at (by assumption) 18 (by rfl) | exact Cl.at (by assumption) 19 (by rfl) | exact Cl.at (by assumption) 20 (by rfl) | exact Cl.at (by assumption) 21 (by rfl) | exact Cl.at (by assumption) 22 (by rfl) | exact Cl.at (by assumption) 23 (by rfl))) (by k_dflt rfl)) ?_)) | (((fail_if_success (fail_if_success (with_reducible refine' nd_load ?_ ?_))); with_reducible refine nd_load (by k_dflt (first | assumption | exact Cl.at (by assumption) 0 (by rfl) | exact Cl.at (by assumption) 1 (by rfl) | exact Cl.at (by assumption) 2 (by rfl) | exact Cl.at (by assumption) 3 (by rfl) | exact Cl.at (by assumption) 4 (by rfl) | exact Cl.at (by assumption) 5 (by rfl) | exact Cl.at (by assumption) 6 (by rfl) | exact Cl.at (by assumption) 7 (by rfl) | exact Cl.at (by assumption) 8 (by rfl) | exact Cl.at (by assumption) 9 (by rfl) | exact Cl.at (by assumption) 10 (by rfl) | exact Cl.at (by assumption) 11 (by rfl) | exact Cl.at (by assumption) 12 (by rfl) | exact Cl.at (by assumption) 13 (by rfl) | exact Cl.at (by assumption) 14 (by rfl) | exact Cl.at (by assumption) 15 (by rfl) | exact Cl.at (by assumption) 16 (by rfl) | exact Cl.at (by assumption) 17 (by rfl) | exact Cl.at (by assumption) 18 (by rfl) | exact Cl.at (by assumption) 19 (by rfl) | exact Cl.at (by assumption) 20 (by rfl) | exact Cl.at (by assumption) 21 (by rfl) | exact Cl.at (by assumption) 22 (by rfl) | exact Cl.at (by assumption) 23 (by rfl))) ?_)) | lk)
  refine ⟨?_⟩
  refine loop_same (fun e he R hR => ?_) ?_
  · obtain ⟨k, tk, hk⟩ := key_all e he
    dsimp only
    rw [hk]
    repeat (first | ((with_reducible show wpAny _ _ (Slots.install _ _ _ _) _ _ _); refine Halt.out ?_) | ((with_reducible show wpAny _ _ (call (Value.type "super") _ _) _ _ _); refine Halt.out ?_) | ((with_reducible show wpAny _ _ (call (Value.ref _) _ _) _ _ _); refine Halt.out ?_) | ((with_reducible show wpAny _ _ (getAttr (Value.ref _) _ _) _ _ _); refine Halt.out ?_) | with_reducible refine arr_halt ?_ | ((with_reducible show wpAny _ _ (Bind.refreshMaker _) _ _ _); refine Halt.out ?_) | ((with_reducible show wpAny _ _ (updateCls _ _) _ _ _); refine Halt.out ?_) | ((with_reducible show wpAny _ _ (List.anyM _ (List.filter _ _)) _ _ _); rw [flt_self]) | ((with_reducible show wpAny _ _ (setSlotAt _ _ _) _ _ _); (first | ((with_reducible refine clx_setSlot (by k_dflt assumption) 0 (by k_dflt rfl) (by k_dflt (decide +kernel)) (by k_dflt (first | exact pS0 _ | exact pS2 _ _ | exact pS3 _ _ _ _ | exact pS4 _ _ _ _ _ | exact pS5 _ _ _ _ _ _)) (by k_dflt rfl) ?_)) | ((with_reducible refine clx_setSlot (by k_dflt assumption) 1 (by k_dflt rfl) (by k_dflt (decide +kernel)) (by k_dflt (first | exact pS0 _ | exact pS2 _ _ | exact pS3 _ _ _ _ | exact pS4 _ _ _ _ _ | exact pS5 _ _ _ _ _ _)) (by k_dflt rfl) ?_))); intro _ _) | ((with_reducible show wpAny _ _ (nsSet _ _ _) _ _ _); refine Halt.out ?_) | ((with_reducible show wpAny _ _ (Sem.update _ _ _ _) _ _ _); (first | refine clx_update (by assumption) 0 (by rfl) rfl (by rfl) ?_ | refine clx_update (by assumption) 1 (by rfl) rfl (by rfl) ?_ | refine clx_update (by assumption) 2 (by rfl) rfl (by rfl) ?_ | refine clx_update (by assumption) 3 (by rfl) rfl (by rfl) ?_ | refine clx_update (by assumption) 4 (by rfl) rfl (by rfl) ?_ | refine clx_update (by assumption) 5 (by rfl) rfl (by rfl) ?_ | refine clx_update (by assumption) 6 (by rfl) rfl (by rfl) ?_ | refine clx_update (by assumption) 7 (by rfl) rfl (by rfl) ?_); intro _ _) | (((fail_if_success (fail_if_success (with_reducible refine' KFB.if_not (c := Array.contains _ _) ?_ ?_))); with_reducible refine KFB.if_not (c := Array.contains _ _) (by k_dflt (decide +kernel)) ?_)) | (((fail_if_success (fail_if_success (with_reducible refine' KFB.if_not (c := Array.any _ _ _ _) ?_ ?_))); with_reducible refine KFB.if_not (c := Array.any _ _ _ _) (by k_dflt (rw [← Array.any_toList]; kernel_rfl)) ?_)) | ((with_reducible refine app_abs (by assumption) ?_)) | ((with_reducible refine bind_abs ?_); intro _ _) | (first | ((with_reducible show wpAny _ _ (Bind.madeBy (Value.type _)) _ _ _); with_reducible refine Looks.at (Looks.of_pure made_type) ?_) | ((with_reducible show wpAny _ _ (Builtin.extendedBase _) _ _ _); with_reducible refine Looks.at (Looks.of_pure ext_obj) ?_) | ((with_reducible show wpAny _ _ (Builtin.notOverATurnedClass _) _ _ _); with_reducible refine Looks.at (Looks.of_pure not_over) ?_) | ((with_reducible show wpAny _ _ (mroOf (Value.type _)) _ _ _); with_reducible refine Looks.at (Looks.of_pure mro_type) ?_) | ((with_reducible show wpAny _ _ (Builtin.mroHook? _) _ _ _); with_reducible refine Looks.at (Looks.of_pure hook_none) ?_) | ((with_reducible show wpAny _ _ (Builtin.linearize _ _) _ _ _); with_reducible refine Looks.at (Looks.of_pure lin_obj) ?_) | ((with_reducible show wpAny _ _ (Slots.givesWeak (Value.type _)) _ _ _); with_reducible refine Looks.at (Looks.of_pure weak_obj) ?_) | ((with_reducible show wpAny _ _ (Bind.madeBy (Value.type _)) _ _ _); with_reducible refine Looks.at (Looks.of_pure made_obj) ?_) | ((with_reducible show wpAny _ _ (noteSubclassOfBuiltin _ _) _ _ _); with_reducible refine Looks.at (Looks.of_pure (nsub_obj _)) ?_) | with_reducible refine nd_try ?_) | (first | ((with_reducible show wpAny _ _ (typeOf (Value.type _)) _ _ _); first | with_reducible refine Looks.at lk_tobj ?_ | with_reducible refine Looks.at lk_ttyp ?_) | ((with_reducible show wpAny _ _ (isType (Value.type _)) _ _ _); first | with_reducible refine Looks.at lk_iobj ?_ | with_reducible refine Looks.at lk_ityp ?_) | ((with_reducible show wpAny _ _ (isSubtype (Value.type _) (Value.type _)) _ _ _); with_reducible refine Looks.at lk_stt ?_)) | ((with_reducible show wpAny _ _ (if (_ == sysModules) = true then _ else _) _ _ _); (first | refine cl_small (by assumption) rfl 0 (by rfl) ?_ | refine cl_small (by assumption) rfl 1 (by rfl) ?_ | refine cl_small (by assumption) rfl 2 (by rfl) ?_ | refine cl_small (by assumption) rfl 3 (by rfl) ?_ | refine cl_small (by assumption) rfl 4 (by rfl) ?_ | refine cl_small (by assumption) rfl 5 (by rfl) ?_ | refine cl_small (by assumption) rfl 6 (by rfl) ?_ | refine cl_small (by assumption) rfl 7 (by rfl) ?_ | refine cl_small (by assumption) rfl 8 (by rfl) ?_ | refine cl_small (by assumption) rfl 9 (by rfl) ?_ | refine cl_small (by assumption) rfl 10 (by rfl) ?_ | refine cl_small (by assumption) rfl 11 (by rfl) ?_ | refine cl_small (by assumption) rfl 12 (by rfl) ?_ | refine cl_small (by assumption) rfl 13 (by rfl) ?_ | refine cl_small (by assumption) rfl 14 (by rfl) ?_ | refine cl_small (by assumption) rfl 15 (by rfl) ?_ | refine cl_small (by assumption) rfl 16 (by rfl) ?_ | refine cl_small (by assumption) rfl 17 (by rfl) ?_ | refine cl_small (by assumption) rfl 18 (by rfl) ?_ | refine cl_small (by assumption) rfl 19 (by rfl) ?_ | refine cl_small (by assumption) rfl 20 (by rfl) ?_ | refine cl_small (by assumption) rfl 21 (by rfl) ?_ | refine cl_small (by assumption) rfl 22 (by rfl) ?_ | refine cl_small (by assumption) rfl 23 (by rfl) ?_)) | ((with_reducible show wpAny _ _ (Slots.read _ _ _) _ _ _); refine Halt.out ?_) | ((with_reducible show wpAny _ _ (if (_ || _ == some (Value.builtin "dict.__iter__")) = true then _ else _) _ _ _); (refine KFB.if_so (by kernel_rfl) ?_)) | with_reducible refine wpAny_call ?_ | ((with_reducible show wpAny _ _ (Sem.alloc _ _) _ _ _); refine Halt.out ?_) | (((fail_if_success (fail_if_success (with_reducible refine' Looks.at (cl_findIn (K := fragK.heap_1 _) ?_ ?_ ?_) ?_))); with_reducible refine Looks.at (cl_findIn (K := fragK.heap_1 _) (by assumption) (by assumption) (by k_dflt k_is)) ?_)) | (((fail_if_success (fail_if_success (with_reducible refine' Looks.at (looks_nsGet ?_ ?_) ?_))); with_reducible refine Looks.at (looks_nsGet (by k_dflt (first | exact Cl.at (by assumption) 0 (by rfl) | exact Cl.at (by assumption) 1 (by rfl) | exact Cl.at (by assumption) 2 (by rfl) | exact Cl.at (by assumption) 3 (by rfl) | exact Cl.at (by assumption) 4 (by rfl) | exact Cl.at (by assumption) 5 (by rfl) | exact Cl.at (by assumption) 6 (by rfl) | exact Cl.at (by assumption) 7 (by rfl) | exact Cl.at (by assumption) 8 (by rfl) | exact Cl.at (by assumption) 9 (by rfl) | exact Cl.at (by assumption) 10 (by rfl) | exact Cl.at (by assumption) 11 (by rfl) | exact Cl.at (by assumption) 12 (by rfl) | exact Cl.at (by assumption) 13 (by rfl) | exact Cl.at (by assumption) 14 (by rfl) | exact Cl.at (by assumption) 15 (by rfl) | exact Cl.at (by assumption) 16 (by rfl) | exact Cl.at (by assumption) 17 (by rfl) | exact Cl.at (by assumption) 18 (by rfl) | exact Cl.at (by assumption) 19 (by rfl) | exact Cl.at (by assumption) 20 (by rfl) | exact Cl.at (by assumption) 21 (by rfl) | exact Cl.at (by assumption) 22 (by rfl) | exact Cl.at (by assumption) 23 (by rfl))) (by k_dflt rfl)) ?_)) | (((fail_if_success (fail_if_success (with_reducible refine' nd_load ?_ ?_))); with_reducible refine nd_load (by k_dflt (first | assumption | exact Cl.at (by assumption) 0 (by rfl) | exact Cl.at (by assumption) 1 (by rfl) | exact Cl.at (by assumption) 2 (by rfl) | exact Cl.at (by assumption) 3 (by rfl) | exact Cl.at (by assumption) 4 (by rfl) | exact Cl.at (by assumption) 5 (by rfl) | exact Cl.at (by assumption) 6 (by rfl) | exact Cl.at (by assumption) 7 (by rfl) | exact Cl.at (by assumption) 8 (by rfl) | exact Cl.at (by assumption) 9 (by rfl) | exact Cl.at (by assumption) 10 (by rfl) | exact Cl.at (by assumption) 11 (by rfl) | exact Cl.at (by assumption) 12 (by rfl) | exact Cl.at (by assumption) 13 (by rfl) | exact Cl.at (by assumption) 14 (by rfl) | exact Cl.at (by assumption) 15 (by rfl) | exact Cl.at (by assumption) 16 (by rfl) | exact Cl.at (by assumption) 17 (by rfl) | exact Cl.at (by assumption) 18 (by rfl) | exact Cl.at (by assumption) 19 (by rfl) | exact Cl.at (by assumption) 20 (by rfl) | exact Cl.at (by assumption) 21 (by rfl) | exact Cl.at (by assumption) 22 (by rfl) | exact Cl.at (by assumption) 23 (by rfl))) ?_)) | lk)
    exact hR
  repeat (first | ((with_reducible show wpAny _ _ (Slots.install _ _ _ _) _ _ _); refine Halt.out ?_) | ((with_reducible show wpAny _ _ (call (Value.type "super") _ _) _ _ _); refine Halt.out ?_) | ((with_reducible show wpAny _ _ (call (Value.ref _) _ _) _ _ _); refine Halt.out ?_) | ((with_reducible show wpAny _ _ (getAttr (Value.ref _) _ _) _ _ _); refine Halt.out ?_) | with_reducible refine arr_halt ?_ | ((with_reducible show wpAny _ _ (Bind.refreshMaker _) _ _ _); refine Halt.out ?_) | ((with_reducible show wpAny _ _ (updateCls _ _) _ _ _); refine Halt.out ?_) | ((with_reducible show wpAny _ _ (List.anyM _ (List.filter _ _)) _ _ _); rw [flt_self]) | ((with_reducible show wpAny _ _ (setSlotAt _ _ _) _ _ _); (first | ((with_reducible refine clx_setSlot (by k_dflt assumption) 0 (by k_dflt rfl) (by k_dflt (decide +kernel)) (by k_dflt (first | exact pS0 _ | exact pS2 _ _ | exact pS3 _ _ _ _ | exact pS4 _ _ _ _ _ | exact pS5 _ _ _ _ _ _)) (by k_dflt rfl) ?_)) | ((with_reducible refine clx_setSlot (by k_dflt assumption) 1 (by k_dflt rfl) (by k_dflt (decide +kernel)) (by k_dflt (first | exact pS0 _ | exact pS2 _ _ | exact pS3 _ _ _ _ | exact pS4 _ _ _ _ _ | exact pS5 _ _ _ _ _ _)) (by k_dflt rfl) ?_))); intro _ _) | ((with_reducible show wpAny _ _ (nsSet _ _ _) _ _ _); refine Halt.out ?_) | ((with_reducible show wpAny _ _ (Sem.update _ _ _ _) _ _ _); (first | refine clx_update (by assumption) 0 (by rfl) rfl (by rfl) ?_ | refine clx_update (by assumption) 1 (by rfl) rfl (by rfl) ?_ | refine clx_update (by assumption) 2 (by rfl) rfl (by rfl) ?_ | refine clx_update (by assumption) 3 (by rfl) rfl (by rfl) ?_ | refine clx_update (by assumption) 4 (by rfl) rfl (by rfl) ?_ | refine clx_update (by assumption) 5 (by rfl) rfl (by rfl) ?_ | refine clx_update (by assumption) 6 (by rfl) rfl (by rfl) ?_ | refine clx_update (by assumption) 7 (by rfl) rfl (by rfl) ?_); intro _ _) | (((fail_if_success (fail_if_success (with_reducible refine' KFB.if_not (c := Array.contains _ _) ?_ ?_))); with_reducible refine KFB.if_not (c := Array.contains _ _) (by k_dflt (decide +kernel)) ?_)) | (((fail_if_success (fail_if_success (with_reducible refine' KFB.if_not (c := Array.any _ _ _ _) ?_ ?_))); with_reducible refine KFB.if_not (c := Array.any _ _ _ _) (by k_dflt (rw [← Array.any_toList]; kernel_rfl)) ?_)) | ((with_reducible refine app_abs (by assumption) ?_)) | ((with_reducible refine bind_abs ?_); intro _ _) | (first | ((with_reducible show wpAny _ _ (Bind.madeBy (Value.type _)) _ _ _); with_reducible refine Looks.at (Looks.of_pure made_type) ?_) | ((with_reducible show wpAny _ _ (Builtin.extendedBase _) _ _ _); with_reducible refine Looks.at (Looks.of_pure ext_obj) ?_) | ((with_reducible show wpAny _ _ (Builtin.notOverATurnedClass _) _ _ _); with_reducible refine Looks.at (Looks.of_pure not_over) ?_) | ((with_reducible show wpAny _ _ (mroOf (Value.type _)) _ _ _); with_reducible refine Looks.at (Looks.of_pure mro_type) ?_) | ((with_reducible show wpAny _ _ (Builtin.mroHook? _) _ _ _); with_reducible refine Looks.at (Looks.of_pure hook_none) ?_) | ((with_reducible show wpAny _ _ (Builtin.linearize _ _) _ _ _); with_reducible refine Looks.at (Looks.of_pure lin_obj) ?_) | ((with_reducible show wpAny _ _ (Slots.givesWeak (Value.type _)) _ _ _); with_reducible refine Looks.at (Looks.of_pure weak_obj) ?_) | ((with_reducible show wpAny _ _ (Bind.madeBy (Value.type _)) _ _ _); with_reducible refine Looks.at (Looks.of_pure made_obj) ?_) | ((with_reducible show wpAny _ _ (noteSubclassOfBuiltin _ _) _ _ _); with_reducible refine Looks.at (Looks.of_pure (nsub_obj _)) ?_) | with_reducible refine nd_try ?_) | (first | ((with_reducible show wpAny _ _ (typeOf (Value.type _)) _ _ _); first | with_reducible refine Looks.at lk_tobj ?_ | with_reducible refine Looks.at lk_ttyp ?_) | ((with_reducible show wpAny _ _ (isType (Value.type _)) _ _ _); first | with_reducible refine Looks.at lk_iobj ?_ | with_reducible refine Looks.at lk_ityp ?_) | ((with_reducible show wpAny _ _ (isSubtype (Value.type _) (Value.type _)) _ _ _); with_reducible refine Looks.at lk_stt ?_)) | ((with_reducible show wpAny _ _ (if (_ == sysModules) = true then _ else _) _ _ _); (first | refine cl_small (by assumption) rfl 0 (by rfl) ?_ | refine cl_small (by assumption) rfl 1 (by rfl) ?_ | refine cl_small (by assumption) rfl 2 (by rfl) ?_ | refine cl_small (by assumption) rfl 3 (by rfl) ?_ | refine cl_small (by assumption) rfl 4 (by rfl) ?_ | refine cl_small (by assumption) rfl 5 (by rfl) ?_ | refine cl_small (by assumption) rfl 6 (by rfl) ?_ | refine cl_small (by assumption) rfl 7 (by rfl) ?_ | refine cl_small (by assumption) rfl 8 (by rfl) ?_ | refine cl_small (by assumption) rfl 9 (by rfl) ?_ | refine cl_small (by assumption) rfl 10 (by rfl) ?_ | refine cl_small (by assumption) rfl 11 (by rfl) ?_ | refine cl_small (by assumption) rfl 12 (by rfl) ?_ | refine cl_small (by assumption) rfl 13 (by rfl) ?_ | refine cl_small (by assumption) rfl 14 (by rfl) ?_ | refine cl_small (by assumption) rfl 15 (by rfl) ?_ | refine cl_small (by assumption) rfl 16 (by rfl) ?_ | refine cl_small (by assumption) rfl 17 (by rfl) ?_ | refine cl_small (by assumption) rfl 18 (by rfl) ?_ | refine cl_small (by assumption) rfl 19 (by rfl) ?_ | refine cl_small (by assumption) rfl 20 (by rfl) ?_ | refine cl_small (by assumption) rfl 21 (by rfl) ?_ | refine cl_small (by assumption) rfl 22 (by rfl) ?_ | refine cl_small (by assumption) rfl 23 (by rfl) ?_)) | ((with_reducible show wpAny _ _ (Slots.read _ _ _) _ _ _); refine Halt.out ?_) | ((with_reducible show wpAny _ _ (if (_ || _ == some (Value.builtin "dict.__iter__")) = true then _ else _) _ _ _); (refine KFB.if_so (by kernel_rfl) ?_)) | with_reducible refine wpAny_call ?_ | ((with_reducible show wpAny _ _ (Sem.alloc _ _) _ _ _); refine Halt.out ?_) | (((fail_if_success (fail_if_success (with_reducible refine' Looks.at (cl_findIn (K := fragK.heap_1 _) ?_ ?_ ?_) ?_))); with_reducible refine Looks.at (cl_findIn (K := fragK.heap_1 _) (by assumption) (by assumption) (by k_dflt k_is)) ?_)) | (((fail_if_success (fail_if_success (with_reducible refine' Looks.at (looks_nsGet ?_ ?_) ?_))); with_reducible refine Looks.at (looks_nsGet (by k_dflt (first | exact Cl.at (by assumption) 0 (by rfl) | exact Cl.at (by assumption) 1 (by rfl) | exact Cl.at (by assumption) 2 (by rfl) | exact Cl.at (by assumption) 3 (by rfl) | exact Cl.at (by assumption) 4 (by rfl) | exact Cl.at (by assumption) 5 (by rfl) | exact Cl.at (by assumption) 6 (by rfl) | exact Cl.at (by assumption) 7 (by rfl) | exact Cl.at (by assumption) 8 (by rfl) | exact Cl.at (by assumption) 9 (by rfl) | exact Cl.at (by assumption) 10 (by rfl) | exact Cl.at (by assumption) 11 (by rfl) | exact Cl.at (by assumption) 12 (by rfl) | exact Cl.at (by assumption) 13 (by rfl) | exact Cl.at (by assumption) 14 (by rfl) | exact Cl.at (by assumption) 15 (by rfl) | exact Cl.at (by assumption) 16 (by rfl) | exact Cl.at (by assumption) 17 (by rfl) | exact Cl.at (by assumption) 18 (by rfl) | exact Cl.at (by assumption) 19 (by rfl) | exact Cl.at (by assumption) 20 (by rfl) | exact Cl.at (by assumption) 21 (by rfl) | exact Cl.at (by assumption) 22 (by rfl) | exact Cl.at (by assumption) 23 (by rfl))) (by k_dflt rfl)) ?_)) | (((fail_if_success (fail_if_success (with_reducible refine' nd_load ?_ ?_))); with_reducible refine nd_load (by k_dflt (first | assumption | exact Cl.at (by assumption) 0 (by rfl) | exact Cl.at (by assumption) 1 (by rfl) | exact Cl.at (by assumption) 2 (by rfl) | exact Cl.at (by assumption) 3 (by rfl) | exact Cl.at (by assumption) 4 (by rfl) | exact Cl.at (by assumption) 5 (by rfl) | exact Cl.at (by assumption) 6 (by rfl) | exact Cl.at (by assumption) 7 (by rfl) | exact Cl.at (by assumption) 8 (by rfl) | exact Cl.at (by assumption) 9 (by rfl) | exact Cl.at (by assumption) 10 (by rfl) | exact Cl.at (by assumption) 11 (by rfl) | exact Cl.at (by assumption) 12 (by rfl) | exact Cl.at (by assumption) 13 (by rfl) | exact Cl.at (by assumption) 14 (by rfl) | exact Cl.at (by assumption) 15 (by rfl) | exact Cl.at (by assumption) 16 (by rfl) | exact Cl.at (by assumption) 17 (by rfl) | exact Cl.at (by assumption) 18 (by rfl) | exact Cl.at (by assumption) 19 (by rfl) | exact Cl.at (by assumption) 20 (by rfl) | exact Cl.at (by assumption) 21 (by rfl) | exact Cl.at (by assumption) 22 (by rfl) | exact Cl.at (by assumption) 23 (by rfl))) ?_)) | lk)
  refine ⟨?_⟩
  refine loop_same (fun e he R hR => ?_) ?_
  · obtain ⟨hl, hs⟩ := hook_all (tn := tn) (M := model PySem.Challenge.rw_kt0066_01.row.prog w) D11 e he
    dsimp only
    refine KFB.if_not hl ?_
    refine wpAny_bind (hs.at ?_)
    dsimp only
    exact wpAny_pure hR
  repeat (first | ((with_reducible show wpAny _ _ (Slots.install _ _ _ _) _ _ _); refine Halt.out ?_) | ((with_reducible show wpAny _ _ (call (Value.type "super") _ _) _ _ _); refine Halt.out ?_) | ((with_reducible show wpAny _ _ (call (Value.ref _) _ _) _ _ _); refine Halt.out ?_) | ((with_reducible show wpAny _ _ (getAttr (Value.ref _) _ _) _ _ _); refine Halt.out ?_) | with_reducible refine arr_halt ?_ | ((with_reducible show wpAny _ _ (Bind.refreshMaker _) _ _ _); refine Halt.out ?_) | ((with_reducible show wpAny _ _ (updateCls _ _) _ _ _); refine Halt.out ?_) | ((with_reducible show wpAny _ _ (List.anyM _ (List.filter _ _)) _ _ _); rw [flt_self]) | ((with_reducible show wpAny _ _ (setSlotAt _ _ _) _ _ _); (first | ((with_reducible refine clx_setSlot (by k_dflt assumption) 0 (by k_dflt rfl) (by k_dflt (decide +kernel)) (by k_dflt (first | exact pS0 _ | exact pS2 _ _ | exact pS3 _ _ _ _ | exact pS4 _ _ _ _ _ | exact pS5 _ _ _ _ _ _)) (by k_dflt rfl) ?_)) | ((with_reducible refine clx_setSlot (by k_dflt assumption) 1 (by k_dflt rfl) (by k_dflt (decide +kernel)) (by k_dflt (first | exact pS0 _ | exact pS2 _ _ | exact pS3 _ _ _ _ | exact pS4 _ _ _ _ _ | exact pS5 _ _ _ _ _ _)) (by k_dflt rfl) ?_))); intro _ _) | ((with_reducible show wpAny _ _ (nsSet _ _ _) _ _ _); refine Halt.out ?_) | ((with_reducible show wpAny _ _ (Sem.update _ _ _ _) _ _ _); (first | refine clx_update (by assumption) 0 (by rfl) rfl (by rfl) ?_ | refine clx_update (by assumption) 1 (by rfl) rfl (by rfl) ?_ | refine clx_update (by assumption) 2 (by rfl) rfl (by rfl) ?_ | refine clx_update (by assumption) 3 (by rfl) rfl (by rfl) ?_ | refine clx_update (by assumption) 4 (by rfl) rfl (by rfl) ?_ | refine clx_update (by assumption) 5 (by rfl) rfl (by rfl) ?_ | refine clx_update (by assumption) 6 (by rfl) rfl (by rfl) ?_ | refine clx_update (by assumption) 7 (by rfl) rfl (by rfl) ?_); intro _ _) | (((fail_if_success (fail_if_success (with_reducible refine' KFB.if_not (c := Array.contains _ _) ?_ ?_))); with_reducible refine KFB.if_not (c := Array.contains _ _) (by k_dflt (decide +kernel)) ?_)) | (((fail_if_success (fail_if_success (with_reducible refine' KFB.if_not (c := Array.any _ _ _ _) ?_ ?_))); with_reducible refine KFB.if_not (c := Array.any _ _ _ _) (by k_dflt (rw [← Array.any_toList]; kernel_rfl)) ?_)) | ((with_reducible refine app_abs (by assumption) ?_)) | ((with_reducible refine bind_abs ?_); intro _ _) | (first | ((with_reducible show wpAny _ _ (Bind.madeBy (Value.type _)) _ _ _); with_reducible refine Looks.at (Looks.of_pure made_type) ?_) | ((with_reducible show wpAny _ _ (Builtin.extendedBase _) _ _ _); with_reducible refine Looks.at (Looks.of_pure ext_obj) ?_) | ((with_reducible show wpAny _ _ (Builtin.notOverATurnedClass _) _ _ _); with_reducible refine Looks.at (Looks.of_pure not_over) ?_) | ((with_reducible show wpAny _ _ (mroOf (Value.type _)) _ _ _); with_reducible refine Looks.at (Looks.of_pure mro_type) ?_) | ((with_reducible show wpAny _ _ (Builtin.mroHook? _) _ _ _); with_reducible refine Looks.at (Looks.of_pure hook_none) ?_) | ((with_reducible show wpAny _ _ (Builtin.linearize _ _) _ _ _); with_reducible refine Looks.at (Looks.of_pure lin_obj) ?_) | ((with_reducible show wpAny _ _ (Slots.givesWeak (Value.type _)) _ _ _); with_reducible refine Looks.at (Looks.of_pure weak_obj) ?_) | ((with_reducible show wpAny _ _ (Bind.madeBy (Value.type _)) _ _ _); with_reducible refine Looks.at (Looks.of_pure made_obj) ?_) | ((with_reducible show wpAny _ _ (noteSubclassOfBuiltin _ _) _ _ _); with_reducible refine Looks.at (Looks.of_pure (nsub_obj _)) ?_) | with_reducible refine nd_try ?_) | (first | ((with_reducible show wpAny _ _ (typeOf (Value.type _)) _ _ _); first | with_reducible refine Looks.at lk_tobj ?_ | with_reducible refine Looks.at lk_ttyp ?_) | ((with_reducible show wpAny _ _ (isType (Value.type _)) _ _ _); first | with_reducible refine Looks.at lk_iobj ?_ | with_reducible refine Looks.at lk_ityp ?_) | ((with_reducible show wpAny _ _ (isSubtype (Value.type _) (Value.type _)) _ _ _); with_reducible refine Looks.at lk_stt ?_)) | ((with_reducible show wpAny _ _ (if (_ == sysModules) = true then _ else _) _ _ _); (first | refine cl_small (by assumption) rfl 0 (by rfl) ?_ | refine cl_small (by assumption) rfl 1 (by rfl) ?_ | refine cl_small (by assumption) rfl 2 (by rfl) ?_ | refine cl_small (by assumption) rfl 3 (by rfl) ?_ | refine cl_small (by assumption) rfl 4 (by rfl) ?_ | refine cl_small (by assumption) rfl 5 (by rfl) ?_ | refine cl_small (by assumption) rfl 6 (by rfl) ?_ | refine cl_small (by assumption) rfl 7 (by rfl) ?_ | refine cl_small (by assumption) rfl 8 (by rfl) ?_ | refine cl_small (by assumption) rfl 9 (by rfl) ?_ | refine cl_small (by assumption) rfl 10 (by rfl) ?_ | refine cl_small (by assumption) rfl 11 (by rfl) ?_ | refine cl_small (by assumption) rfl 12 (by rfl) ?_ | refine cl_small (by assumption) rfl 13 (by rfl) ?_ | refine cl_small (by assumption) rfl 14 (by rfl) ?_ | refine cl_small (by assumption) rfl 15 (by rfl) ?_ | refine cl_small (by assumption) rfl 16 (by rfl) ?_ | refine cl_small (by assumption) rfl 17 (by rfl) ?_ | refine cl_small (by assumption) rfl 18 (by rfl) ?_ | refine cl_small (by assumption) rfl 19 (by rfl) ?_ | refine cl_small (by assumption) rfl 20 (by rfl) ?_ | refine cl_small (by assumption) rfl 21 (by rfl) ?_ | refine cl_small (by assumption) rfl 22 (by rfl) ?_ | refine cl_small (by assumption) rfl 23 (by rfl) ?_)) | ((with_reducible show wpAny _ _ (Slots.read _ _ _) _ _ _); refine Halt.out ?_) | ((with_reducible show wpAny _ _ (if (_ || _ == some (Value.builtin "dict.__iter__")) = true then _ else _) _ _ _); (refine KFB.if_so (by kernel_rfl) ?_)) | with_reducible refine wpAny_call ?_ | ((with_reducible show wpAny _ _ (Sem.alloc _ _) _ _ _); refine Halt.out ?_) | (((fail_if_success (fail_if_success (with_reducible refine' Looks.at (cl_findIn (K := fragK.heap_1 _) ?_ ?_ ?_) ?_))); with_reducible refine Looks.at (cl_findIn (K := fragK.heap_1 _) (by assumption) (by assumption) (by k_dflt k_is)) ?_)) | (((fail_if_success (fail_if_success (with_reducible refine' Looks.at (looks_nsGet ?_ ?_) ?_))); with_reducible refine Looks.at (looks_nsGet (by k_dflt (first | exact Cl.at (by assumption) 0 (by rfl) | exact Cl.at (by assumption) 1 (by rfl) | exact Cl.at (by assumption) 2 (by rfl) | exact Cl.at (by assumption) 3 (by rfl) | exact Cl.at (by assumption) 4 (by rfl) | exact Cl.at (by assumption) 5 (by rfl) | exact Cl.at (by assumption) 6 (by rfl) | exact Cl.at (by assumption) 7 (by rfl) | exact Cl.at (by assumption) 8 (by rfl) | exact Cl.at (by assumption) 9 (by rfl) | exact Cl.at (by assumption) 10 (by rfl) | exact Cl.at (by assumption) 11 (by rfl) | exact Cl.at (by assumption) 12 (by rfl) | exact Cl.at (by assumption) 13 (by rfl) | exact Cl.at (by assumption) 14 (by rfl) | exact Cl.at (by assumption) 15 (by rfl) | exact Cl.at (by assumption) 16 (by rfl) | exact Cl.at (by assumption) 17 (by rfl) | exact Cl.at (by assumption) 18 (by rfl) | exact Cl.at (by assumption) 19 (by rfl) | exact Cl.at (by assumption) 20 (by rfl) | exact Cl.at (by assumption) 21 (by rfl) | exact Cl.at (by assumption) 22 (by rfl) | exact Cl.at (by assumption) 23 (by rfl))) (by k_dflt rfl)) ?_)) | (((fail_if_success (fail_if_success (with_reducible refine' nd_load ?_ ?_))); with_reducible refine nd_load (by k_dflt (first | assumption | exact Cl.at (by assumption) 0 (by rfl) | exact Cl.at (by assumption) 1 (by rfl) | exact Cl.at (by assumption) 2 (by rfl) | exact Cl.at (by assumption) 3 (by rfl) | exact Cl.at (by assumption) 4 (by rfl) | exact Cl.at (by assumption) 5 (by rfl) | exact Cl.at (by assumption) 6 (by rfl) | exact Cl.at (by assumption) 7 (by rfl) | exact Cl.at (by assumption) 8 (by rfl) | exact Cl.at (by assumption) 9 (by rfl) | exact Cl.at (by assumption) 10 (by rfl) | exact Cl.at (by assumption) 11 (by rfl) | exact Cl.at (by assumption) 12 (by rfl) | exact Cl.at (by assumption) 13 (by rfl) | exact Cl.at (by assumption) 14 (by rfl) | exact Cl.at (by assumption) 15 (by rfl) | exact Cl.at (by assumption) 16 (by rfl) | exact Cl.at (by assumption) 17 (by rfl) | exact Cl.at (by assumption) 18 (by rfl) | exact Cl.at (by assumption) 19 (by rfl) | exact Cl.at (by assumption) 20 (by rfl) | exact Cl.at (by assumption) 21 (by rfl) | exact Cl.at (by assumption) 22 (by rfl) | exact Cl.at (by assumption) 23 (by rfl))) ?_)) | lk)
  refine ⟨?_⟩
  refine cl_super D11 1 rfl rfl fun S h12 D12 => ?_
  repeat (first | ((with_reducible show wpAny _ _ (Slots.install _ _ _ _) _ _ _); refine Halt.out ?_) | ((with_reducible show wpAny _ _ (call (Value.type "super") _ _) _ _ _); refine Halt.out ?_) | ((with_reducible show wpAny _ _ (call (Value.ref _) _ _) _ _ _); refine Halt.out ?_) | ((with_reducible show wpAny _ _ (getAttr (Value.ref _) _ _) _ _ _); refine Halt.out ?_) | with_reducible refine arr_halt ?_ | ((with_reducible show wpAny _ _ (Bind.refreshMaker _) _ _ _); refine Halt.out ?_) | ((with_reducible show wpAny _ _ (updateCls _ _) _ _ _); refine Halt.out ?_) | ((with_reducible show wpAny _ _ (List.anyM _ (List.filter _ _)) _ _ _); rw [flt_self]) | ((with_reducible show wpAny _ _ (setSlotAt _ _ _) _ _ _); (first | ((with_reducible refine clx_setSlot (by k_dflt assumption) 0 (by k_dflt rfl) (by k_dflt (decide +kernel)) (by k_dflt (first | exact pS0 _ | exact pS2 _ _ | exact pS3 _ _ _ _ | exact pS4 _ _ _ _ _ | exact pS5 _ _ _ _ _ _)) (by k_dflt rfl) ?_)) | ((with_reducible refine clx_setSlot (by k_dflt assumption) 1 (by k_dflt rfl) (by k_dflt (decide +kernel)) (by k_dflt (first | exact pS0 _ | exact pS2 _ _ | exact pS3 _ _ _ _ | exact pS4 _ _ _ _ _ | exact pS5 _ _ _ _ _ _)) (by k_dflt rfl) ?_))); intro _ _) | ((with_reducible show wpAny _ _ (nsSet _ _ _) _ _ _); refine Halt.out ?_) | ((with_reducible show wpAny _ _ (Sem.update _ _ _ _) _ _ _); (first | refine clx_update (by assumption) 0 (by rfl) rfl (by rfl) ?_ | refine clx_update (by assumption) 1 (by rfl) rfl (by rfl) ?_ | refine clx_update (by assumption) 2 (by rfl) rfl (by rfl) ?_ | refine clx_update (by assumption) 3 (by rfl) rfl (by rfl) ?_ | refine clx_update (by assumption) 4 (by rfl) rfl (by rfl) ?_ | refine clx_update (by assumption) 5 (by rfl) rfl (by rfl) ?_ | refine clx_update (by assumption) 6 (by rfl) rfl (by rfl) ?_ | refine clx_update (by assumption) 7 (by rfl) rfl (by rfl) ?_); intro _ _) | (((fail_if_success (fail_if_success (with_reducible refine' KFB.if_not (c := Array.contains _ _) ?_ ?_))); with_reducible refine KFB.if_not (c := Array.contains _ _) (by k_dflt (decide +kernel)) ?_)) | (((fail_if_success (fail_if_success (with_reducible refine' KFB.if_not (c := Array.any _ _ _ _) ?_ ?_))); with_reducible refine KFB.if_not (c := Array.any _ _ _ _) (by k_dflt (rw [← Array.any_toList]; kernel_rfl)) ?_)) | ((with_reducible refine app_abs (by assumption) ?_)) | ((with_reducible refine bind_abs ?_); intro _ _) | (first | ((with_reducible show wpAny _ _ (Bind.madeBy (Value.type _)) _ _ _); with_reducible refine Looks.at (Looks.of_pure made_type) ?_) | ((with_reducible show wpAny _ _ (Builtin.extendedBase _) _ _ _); with_reducible refine Looks.at (Looks.of_pure ext_obj) ?_) | ((with_reducible show wpAny _ _ (Builtin.notOverATurnedClass _) _ _ _); with_reducible refine Looks.at (Looks.of_pure not_over) ?_) | ((with_reducible show wpAny _ _ (mroOf (Value.type _)) _ _ _); with_reducible refine Looks.at (Looks.of_pure mro_type) ?_) | ((with_reducible show wpAny _ _ (Builtin.mroHook? _) _ _ _); with_reducible refine Looks.at (Looks.of_pure hook_none) ?_) | ((with_reducible show wpAny _ _ (Builtin.linearize _ _) _ _ _); with_reducible refine Looks.at (Looks.of_pure lin_obj) ?_) | ((with_reducible show wpAny _ _ (Slots.givesWeak (Value.type _)) _ _ _); with_reducible refine Looks.at (Looks.of_pure weak_obj) ?_) | ((with_reducible show wpAny _ _ (Bind.madeBy (Value.type _)) _ _ _); with_reducible refine Looks.at (Looks.of_pure made_obj) ?_) | ((with_reducible show wpAny _ _ (noteSubclassOfBuiltin _ _) _ _ _); with_reducible refine Looks.at (Looks.of_pure (nsub_obj _)) ?_) | with_reducible refine nd_try ?_) | (first | ((with_reducible show wpAny _ _ (typeOf (Value.type _)) _ _ _); first | with_reducible refine Looks.at lk_tobj ?_ | with_reducible refine Looks.at lk_ttyp ?_) | ((with_reducible show wpAny _ _ (isType (Value.type _)) _ _ _); first | with_reducible refine Looks.at lk_iobj ?_ | with_reducible refine Looks.at lk_ityp ?_) | ((with_reducible show wpAny _ _ (isSubtype (Value.type _) (Value.type _)) _ _ _); with_reducible refine Looks.at lk_stt ?_)) | ((with_reducible show wpAny _ _ (if (_ == sysModules) = true then _ else _) _ _ _); (first | refine cl_small (by assumption) rfl 0 (by rfl) ?_ | refine cl_small (by assumption) rfl 1 (by rfl) ?_ | refine cl_small (by assumption) rfl 2 (by rfl) ?_ | refine cl_small (by assumption) rfl 3 (by rfl) ?_ | refine cl_small (by assumption) rfl 4 (by rfl) ?_ | refine cl_small (by assumption) rfl 5 (by rfl) ?_ | refine cl_small (by assumption) rfl 6 (by rfl) ?_ | refine cl_small (by assumption) rfl 7 (by rfl) ?_ | refine cl_small (by assumption) rfl 8 (by rfl) ?_ | refine cl_small (by assumption) rfl 9 (by rfl) ?_ | refine cl_small (by assumption) rfl 10 (by rfl) ?_ | refine cl_small (by assumption) rfl 11 (by rfl) ?_ | refine cl_small (by assumption) rfl 12 (by rfl) ?_ | refine cl_small (by assumption) rfl 13 (by rfl) ?_ | refine cl_small (by assumption) rfl 14 (by rfl) ?_ | refine cl_small (by assumption) rfl 15 (by rfl) ?_ | refine cl_small (by assumption) rfl 16 (by rfl) ?_ | refine cl_small (by assumption) rfl 17 (by rfl) ?_ | refine cl_small (by assumption) rfl 18 (by rfl) ?_ | refine cl_small (by assumption) rfl 19 (by rfl) ?_ | refine cl_small (by assumption) rfl 20 (by rfl) ?_ | refine cl_small (by assumption) rfl 21 (by rfl) ?_ | refine cl_small (by assumption) rfl 22 (by rfl) ?_ | refine cl_small (by assumption) rfl 23 (by rfl) ?_)) | ((with_reducible show wpAny _ _ (Slots.read _ _ _) _ _ _); refine Halt.out ?_) | ((with_reducible show wpAny _ _ (if (_ || _ == some (Value.builtin "dict.__iter__")) = true then _ else _) _ _ _); (refine KFB.if_so (by kernel_rfl) ?_)) | with_reducible refine wpAny_call ?_ | ((with_reducible show wpAny _ _ (Sem.alloc _ _) _ _ _); refine Halt.out ?_) | (((fail_if_success (fail_if_success (with_reducible refine' Looks.at (cl_findIn (K := fragK.heap_1 _) ?_ ?_ ?_) ?_))); with_reducible refine Looks.at (cl_findIn (K := fragK.heap_1 _) (by assumption) (by assumption) (by k_dflt k_is)) ?_)) | (((fail_if_success (fail_if_success (with_reducible refine' Looks.at (looks_nsGet ?_ ?_) ?_))); with_reducible refine Looks.at (looks_nsGet (by k_dflt (first | exact Cl.at (by assumption) 0 (by rfl) | exact Cl.at (by assumption) 1 (by rfl) | exact Cl.at (by assumption) 2 (by rfl) | exact Cl.at (by assumption) 3 (by rfl) | exact Cl.at (by assumption) 4 (by rfl) | exact Cl.at (by assumption) 5 (by rfl) | exact Cl.at (by assumption) 6 (by rfl) | exact Cl.at (by assumption) 7 (by rfl) | exact Cl.at (by assumption) 8 (by rfl) | exact Cl.at (by assumption) 9 (by rfl) | exact Cl.at (by assumption) 10 (by rfl) | exact Cl.at (by assumption) 11 (by rfl) | exact Cl.at (by assumption) 12 (by rfl) | exact Cl.at (by assumption) 13 (by rfl) | exact Cl.at (by assumption) 14 (by rfl) | exact Cl.at (by assumption) 15 (by rfl) | exact Cl.at (by assumption) 16 (by rfl) | exact Cl.at (by assumption) 17 (by rfl) | exact Cl.at (by assumption) 18 (by rfl) | exact Cl.at (by assumption) 19 (by rfl) | exact Cl.at (by assumption) 20 (by rfl) | exact Cl.at (by assumption) 21 (by rfl) | exact Cl.at (by assumption) 22 (by rfl) | exact Cl.at (by assumption) 23 (by rfl))) (by k_dflt rfl)) ?_)) | (((fail_if_success (fail_if_success (with_reducible refine' nd_load ?_ ?_))); with_reducible refine nd_load (by k_dflt (first | assumption | exact Cl.at (by assumption) 0 (by rfl) | exact Cl.at (by assumption) 1 (by rfl) | exact Cl.at (by assumption) 2 (by rfl) | exact Cl.at (by assumption) 3 (by rfl) | exact Cl.at (by assumption) 4 (by rfl) | exact Cl.at (by assumption) 5 (by rfl) | exact Cl.at (by assumption) 6 (by rfl) | exact Cl.at (by assumption) 7 (by rfl) | exact Cl.at (by assumption) 8 (by rfl) | exact Cl.at (by assumption) 9 (by rfl) | exact Cl.at (by assumption) 10 (by rfl) | exact Cl.at (by assumption) 11 (by rfl) | exact Cl.at (by assumption) 12 (by rfl) | exact Cl.at (by assumption) 13 (by rfl) | exact Cl.at (by assumption) 14 (by rfl) | exact Cl.at (by assumption) 15 (by rfl) | exact Cl.at (by assumption) 16 (by rfl) | exact Cl.at (by assumption) 17 (by rfl) | exact Cl.at (by assumption) 18 (by rfl) | exact Cl.at (by assumption) 19 (by rfl) | exact Cl.at (by assumption) 20 (by rfl) | exact Cl.at (by assumption) 21 (by rfl) | exact Cl.at (by assumption) 22 (by rfl) | exact Cl.at (by assumption) 23 (by rfl))) ?_)) | lk)
  refine ⟨?_⟩
  refine cl_superGet D12 2 0 rfl rfl rfl (looks_opaque (K := fragK.heap_1 w.params) (X.keeps D12.fr.keep) (by k_is)) fun B h13 D13 => ?_
  repeat (first | ((with_reducible show wpAny _ _ (Slots.install _ _ _ _) _ _ _); refine Halt.out ?_) | ((with_reducible show wpAny _ _ (call (Value.type "super") _ _) _ _ _); refine Halt.out ?_) | ((with_reducible show wpAny _ _ (call (Value.ref _) _ _) _ _ _); refine Halt.out ?_) | ((with_reducible show wpAny _ _ (getAttr (Value.ref _) _ _) _ _ _); refine Halt.out ?_) | with_reducible refine arr_halt ?_ | ((with_reducible show wpAny _ _ (Bind.refreshMaker _) _ _ _); refine Halt.out ?_) | ((with_reducible show wpAny _ _ (updateCls _ _) _ _ _); refine Halt.out ?_) | ((with_reducible show wpAny _ _ (List.anyM _ (List.filter _ _)) _ _ _); rw [flt_self]) | ((with_reducible show wpAny _ _ (setSlotAt _ _ _) _ _ _); (first | ((with_reducible refine clx_setSlot (by k_dflt assumption) 0 (by k_dflt rfl) (by k_dflt (decide +kernel)) (by k_dflt (first | exact pS0 _ | exact pS2 _ _ | exact pS3 _ _ _ _ | exact pS4 _ _ _ _ _ | exact pS5 _ _ _ _ _ _)) (by k_dflt rfl) ?_)) | ((with_reducible refine clx_setSlot (by k_dflt assumption) 1 (by k_dflt rfl) (by k_dflt (decide +kernel)) (by k_dflt (first | exact pS0 _ | exact pS2 _ _ | exact pS3 _ _ _ _ | exact pS4 _ _ _ _ _ | exact pS5 _ _ _ _ _ _)) (by k_dflt rfl) ?_))); intro _ _) | ((with_reducible show wpAny _ _ (nsSet _ _ _) _ _ _); refine Halt.out ?_) | ((with_reducible show wpAny _ _ (Sem.update _ _ _ _) _ _ _); (first | refine clx_update (by assumption) 0 (by rfl) rfl (by rfl) ?_ | refine clx_update (by assumption) 1 (by rfl) rfl (by rfl) ?_ | refine clx_update (by assumption) 2 (by rfl) rfl (by rfl) ?_ | refine clx_update (by assumption) 3 (by rfl) rfl (by rfl) ?_ | refine clx_update (by assumption) 4 (by rfl) rfl (by rfl) ?_ | refine clx_update (by assumption) 5 (by rfl) rfl (by rfl) ?_ | refine clx_update (by assumption) 6 (by rfl) rfl (by rfl) ?_ | refine clx_update (by assumption) 7 (by rfl) rfl (by rfl) ?_); intro _ _) | (((fail_if_success (fail_if_success (with_reducible refine' KFB.if_not (c := Array.contains _ _) ?_ ?_))); with_reducible refine KFB.if_not (c := Array.contains _ _) (by k_dflt (decide +kernel)) ?_)) | (((fail_if_success (fail_if_success (with_reducible refine' KFB.if_not (c := Array.any _ _ _ _) ?_ ?_))); with_reducible refine KFB.if_not (c := Array.any _ _ _ _) (by k_dflt (rw [← Array.any_toList]; kernel_rfl)) ?_)) | ((with_reducible refine app_abs (by assumption) ?_)) | ((with_reducible refine bind_abs ?_); intro _ _) | (first | ((with_reducible show wpAny _ _ (Bind.madeBy (Value.type _)) _ _ _); with_reducible refine Looks.at (Looks.of_pure made_type) ?_) | ((with_reducible show wpAny _ _ (Builtin.extendedBase _) _ _ _); with_reducible refine Looks.at (Looks.of_pure ext_obj) ?_) | ((with_reducible show wpAny _ _ (Builtin.notOverATurnedClass _) _ _ _); with_reducible refine Looks.at (Looks.of_pure not_over) ?_) | ((with_reducible show wpAny _ _ (mroOf (Value.type _)) _ _ _); with_reducible refine Looks.at (Looks.of_pure mro_type) ?_) | ((with_reducible show wpAny _ _ (Builtin.mroHook? _) _ _ _); with_reducible refine Looks.at (Looks.of_pure hook_none) ?_) | ((with_reducible show wpAny _ _ (Builtin.linearize _ _) _ _ _); with_reducible refine Looks.at (Looks.of_pure lin_obj) ?_) | ((with_reducible show wpAny _ _ (Slots.givesWeak (Value.type _)) _ _ _); with_reducible refine Looks.at (Looks.of_pure weak_obj) ?_) | ((with_reducible show wpAny _ _ (Bind.madeBy (Value.type _)) _ _ _); with_reducible refine Looks.at (Looks.of_pure made_obj) ?_) | ((with_reducible show wpAny _ _ (noteSubclassOfBuiltin _ _) _ _ _); with_reducible refine Looks.at (Looks.of_pure (nsub_obj _)) ?_) | with_reducible refine nd_try ?_) | (first | ((with_reducible show wpAny _ _ (typeOf (Value.type _)) _ _ _); first | with_reducible refine Looks.at lk_tobj ?_ | with_reducible refine Looks.at lk_ttyp ?_) | ((with_reducible show wpAny _ _ (isType (Value.type _)) _ _ _); first | with_reducible refine Looks.at lk_iobj ?_ | with_reducible refine Looks.at lk_ityp ?_) | ((with_reducible show wpAny _ _ (isSubtype (Value.type _) (Value.type _)) _ _ _); with_reducible refine Looks.at lk_stt ?_)) | ((with_reducible show wpAny _ _ (if (_ == sysModules) = true then _ else _) _ _ _); (first | refine cl_small (by assumption) rfl 0 (by rfl) ?_ | refine cl_small (by assumption) rfl 1 (by rfl) ?_ | refine cl_small (by assumption) rfl 2 (by rfl) ?_ | refine cl_small (by assumption) rfl 3 (by rfl) ?_ | refine cl_small (by assumption) rfl 4 (by rfl) ?_ | refine cl_small (by assumption) rfl 5 (by rfl) ?_ | refine cl_small (by assumption) rfl 6 (by rfl) ?_ | refine cl_small (by assumption) rfl 7 (by rfl) ?_ | refine cl_small (by assumption) rfl 8 (by rfl) ?_ | refine cl_small (by assumption) rfl 9 (by rfl) ?_ | refine cl_small (by assumption) rfl 10 (by rfl) ?_ | refine cl_small (by assumption) rfl 11 (by rfl) ?_ | refine cl_small (by assumption) rfl 12 (by rfl) ?_ | refine cl_small (by assumption) rfl 13 (by rfl) ?_ | refine cl_small (by assumption) rfl 14 (by rfl) ?_ | refine cl_small (by assumption) rfl 15 (by rfl) ?_ | refine cl_small (by assumption) rfl 16 (by rfl) ?_ | refine cl_small (by assumption) rfl 17 (by rfl) ?_ | refine cl_small (by assumption) rfl 18 (by rfl) ?_ | refine cl_small (by assumption) rfl 19 (by rfl) ?_ | refine cl_small (by assumption) rfl 20 (by rfl) ?_ | refine cl_small (by assumption) rfl 21 (by rfl) ?_ | refine cl_small (by assumption) rfl 22 (by rfl) ?_ | refine cl_small (by assumption) rfl 23 (by rfl) ?_)) | ((with_reducible show wpAny _ _ (Slots.read _ _ _) _ _ _); refine Halt.out ?_) | ((with_reducible show wpAny _ _ (if (_ || _ == some (Value.builtin "dict.__iter__")) = true then _ else _) _ _ _); (refine KFB.if_so (by kernel_rfl) ?_)) | with_reducible refine wpAny_call ?_ | ((with_reducible show wpAny _ _ (Sem.alloc _ _) _ _ _); refine Halt.out ?_) | (((fail_if_success (fail_if_success (with_reducible refine' Looks.at (cl_findIn (K := fragK.heap_1 _) ?_ ?_ ?_) ?_))); with_reducible refine Looks.at (cl_findIn (K := fragK.heap_1 _) (by assumption) (by assumption) (by k_dflt k_is)) ?_)) | (((fail_if_success (fail_if_success (with_reducible refine' Looks.at (looks_nsGet ?_ ?_) ?_))); with_reducible refine Looks.at (looks_nsGet (by k_dflt (first | exact Cl.at (by assumption) 0 (by rfl) | exact Cl.at (by assumption) 1 (by rfl) | exact Cl.at (by assumption) 2 (by rfl) | exact Cl.at (by assumption) 3 (by rfl) | exact Cl.at (by assumption) 4 (by rfl) | exact Cl.at (by assumption) 5 (by rfl) | exact Cl.at (by assumption) 6 (by rfl) | exact Cl.at (by assumption) 7 (by rfl) | exact Cl.at (by assumption) 8 (by rfl) | exact Cl.at (by assumption) 9 (by rfl) | exact Cl.at (by assumption) 10 (by rfl) | exact Cl.at (by assumption) 11 (by rfl) | exact Cl.at (by assumption) 12 (by rfl) | exact Cl.at (by assumption) 13 (by rfl) | exact Cl.at (by assumption) 14 (by rfl) | exact Cl.at (by assumption) 15 (by rfl) | exact Cl.at (by assumption) 16 (by rfl) | exact Cl.at (by assumption) 17 (by rfl) | exact Cl.at (by assumption) 18 (by rfl) | exact Cl.at (by assumption) 19 (by rfl) | exact Cl.at (by assumption) 20 (by rfl) | exact Cl.at (by assumption) 21 (by rfl) | exact Cl.at (by assumption) 22 (by rfl) | exact Cl.at (by assumption) 23 (by rfl))) (by k_dflt rfl)) ?_)) | (((fail_if_success (fail_if_success (with_reducible refine' nd_load ?_ ?_))); with_reducible refine nd_load (by k_dflt (first | assumption | exact Cl.at (by assumption) 0 (by rfl) | exact Cl.at (by assumption) 1 (by rfl) | exact Cl.at (by assumption) 2 (by rfl) | exact Cl.at (by assumption) 3 (by rfl) | exact Cl.at (by assumption) 4 (by rfl) | exact Cl.at (by assumption) 5 (by rfl) | exact Cl.at (by assumption) 6 (by rfl) | exact Cl.at (by assumption) 7 (by rfl) | exact Cl.at (by assumption) 8 (by rfl) | exact Cl.at (by assumption) 9 (by rfl) | exact Cl.at (by assumption) 10 (by rfl) | exact Cl.at (by assumption) 11 (by rfl) | exact Cl.at (by assumption) 12 (by rfl) | exact Cl.at (by assumption) 13 (by rfl) | exact Cl.at (by assumption) 14 (by rfl) | exact Cl.at (by assumption) 15 (by rfl) | exact Cl.at (by assumption) 16 (by rfl) | exact Cl.at (by assumption) 17 (by rfl) | exact Cl.at (by assumption) 18 (by rfl) | exact Cl.at (by assumption) 19 (by rfl) | exact Cl.at (by assumption) 20 (by rfl) | exact Cl.at (by assumption) 21 (by rfl) | exact Cl.at (by assumption) 22 (by rfl) | exact Cl.at (by assumption) 23 (by rfl))) ?_)) | lk)
  refine ⟨?_⟩
  refine cl_iscCall D13 0 3 rfl rfl ?_
  repeat (first | ((with_reducible show wpAny _ _ (Slots.install _ _ _ _) _ _ _); refine Halt.out ?_) | ((with_reducible show wpAny _ _ (call (Value.type "super") _ _) _ _ _); refine Halt.out ?_) | ((with_reducible show wpAny _ _ (call (Value.ref _) _ _) _ _ _); refine Halt.out ?_) | ((with_reducible show wpAny _ _ (getAttr (Value.ref _) _ _) _ _ _); refine Halt.out ?_) | with_reducible refine arr_halt ?_ | ((with_reducible show wpAny _ _ (Bind.refreshMaker _) _ _ _); refine Halt.out ?_) | ((with_reducible show wpAny _ _ (updateCls _ _) _ _ _); refine Halt.out ?_) | ((with_reducible show wpAny _ _ (List.anyM _ (List.filter _ _)) _ _ _); rw [flt_self]) | ((with_reducible show wpAny _ _ (setSlotAt _ _ _) _ _ _); (first | ((with_reducible refine clx_setSlot (by k_dflt assumption) 0 (by k_dflt rfl) (by k_dflt (decide +kernel)) (by k_dflt (first | exact pS0 _ | exact pS2 _ _ | exact pS3 _ _ _ _ | exact pS4 _ _ _ _ _ | exact pS5 _ _ _ _ _ _)) (by k_dflt rfl) ?_)) | ((with_reducible refine clx_setSlot (by k_dflt assumption) 1 (by k_dflt rfl) (by k_dflt (decide +kernel)) (by k_dflt (first | exact pS0 _ | exact pS2 _ _ | exact pS3 _ _ _ _ | exact pS4 _ _ _ _ _ | exact pS5 _ _ _ _ _ _)) (by k_dflt rfl) ?_))); intro _ _) | ((with_reducible show wpAny _ _ (nsSet _ _ _) _ _ _); refine Halt.out ?_) | ((with_reducible show wpAny _ _ (Sem.update _ _ _ _) _ _ _); (first | refine clx_update (by assumption) 0 (by rfl) rfl (by rfl) ?_ | refine clx_update (by assumption) 1 (by rfl) rfl (by rfl) ?_ | refine clx_update (by assumption) 2 (by rfl) rfl (by rfl) ?_ | refine clx_update (by assumption) 3 (by rfl) rfl (by rfl) ?_ | refine clx_update (by assumption) 4 (by rfl) rfl (by rfl) ?_ | refine clx_update (by assumption) 5 (by rfl) rfl (by rfl) ?_ | refine clx_update (by assumption) 6 (by rfl) rfl (by rfl) ?_ | refine clx_update (by assumption) 7 (by rfl) rfl (by rfl) ?_); intro _ _) | (((fail_if_success (fail_if_success (with_reducible refine' KFB.if_not (c := Array.contains _ _) ?_ ?_))); with_reducible refine KFB.if_not (c := Array.contains _ _) (by k_dflt (decide +kernel)) ?_)) | (((fail_if_success (fail_if_success (with_reducible refine' KFB.if_not (c := Array.any _ _ _ _) ?_ ?_))); with_reducible refine KFB.if_not (c := Array.any _ _ _ _) (by k_dflt (rw [← Array.any_toList]; kernel_rfl)) ?_)) | ((with_reducible refine app_abs (by assumption) ?_)) | ((with_reducible refine bind_abs ?_); intro _ _) | (first | ((with_reducible show wpAny _ _ (Bind.madeBy (Value.type _)) _ _ _); with_reducible refine Looks.at (Looks.of_pure made_type) ?_) | ((with_reducible show wpAny _ _ (Builtin.extendedBase _) _ _ _); with_reducible refine Looks.at (Looks.of_pure ext_obj) ?_) | ((with_reducible show wpAny _ _ (Builtin.notOverATurnedClass _) _ _ _); with_reducible refine Looks.at (Looks.of_pure not_over) ?_) | ((with_reducible show wpAny _ _ (mroOf (Value.type _)) _ _ _); with_reducible refine Looks.at (Looks.of_pure mro_type) ?_) | ((with_reducible show wpAny _ _ (Builtin.mroHook? _) _ _ _); with_reducible refine Looks.at (Looks.of_pure hook_none) ?_) | ((with_reducible show wpAny _ _ (Builtin.linearize _ _) _ _ _); with_reducible refine Looks.at (Looks.of_pure lin_obj) ?_) | ((with_reducible show wpAny _ _ (Slots.givesWeak (Value.type _)) _ _ _); with_reducible refine Looks.at (Looks.of_pure weak_obj) ?_) | ((with_reducible show wpAny _ _ (Bind.madeBy (Value.type _)) _ _ _); with_reducible refine Looks.at (Looks.of_pure made_obj) ?_) | ((with_reducible show wpAny _ _ (noteSubclassOfBuiltin _ _) _ _ _); with_reducible refine Looks.at (Looks.of_pure (nsub_obj _)) ?_) | with_reducible refine nd_try ?_) | (first | ((with_reducible show wpAny _ _ (typeOf (Value.type _)) _ _ _); first | with_reducible refine Looks.at lk_tobj ?_ | with_reducible refine Looks.at lk_ttyp ?_) | ((with_reducible show wpAny _ _ (isType (Value.type _)) _ _ _); first | with_reducible refine Looks.at lk_iobj ?_ | with_reducible refine Looks.at lk_ityp ?_) | ((with_reducible show wpAny _ _ (isSubtype (Value.type _) (Value.type _)) _ _ _); with_reducible refine Looks.at lk_stt ?_)) | ((with_reducible show wpAny _ _ (if (_ == sysModules) = true then _ else _) _ _ _); (first | refine cl_small (by assumption) rfl 0 (by rfl) ?_ | refine cl_small (by assumption) rfl 1 (by rfl) ?_ | refine cl_small (by assumption) rfl 2 (by rfl) ?_ | refine cl_small (by assumption) rfl 3 (by rfl) ?_ | refine cl_small (by assumption) rfl 4 (by rfl) ?_ | refine cl_small (by assumption) rfl 5 (by rfl) ?_ | refine cl_small (by assumption) rfl 6 (by rfl) ?_ | refine cl_small (by assumption) rfl 7 (by rfl) ?_ | refine cl_small (by assumption) rfl 8 (by rfl) ?_ | refine cl_small (by assumption) rfl 9 (by rfl) ?_ | refine cl_small (by assumption) rfl 10 (by rfl) ?_ | refine cl_small (by assumption) rfl 11 (by rfl) ?_ | refine cl_small (by assumption) rfl 12 (by rfl) ?_ | refine cl_small (by assumption) rfl 13 (by rfl) ?_ | refine cl_small (by assumption) rfl 14 (by rfl) ?_ | refine cl_small (by assumption) rfl 15 (by rfl) ?_ | refine cl_small (by assumption) rfl 16 (by rfl) ?_ | refine cl_small (by assumption) rfl 17 (by rfl) ?_ | refine cl_small (by assumption) rfl 18 (by rfl) ?_ | refine cl_small (by assumption) rfl 19 (by rfl) ?_ | refine cl_small (by assumption) rfl 20 (by rfl) ?_ | refine cl_small (by assumption) rfl 21 (by rfl) ?_ | refine cl_small (by assumption) rfl 22 (by rfl) ?_ | refine cl_small (by assumption) rfl 23 (by rfl) ?_)) | ((with_reducible show wpAny _ _ (Slots.read _ _ _) _ _ _); refine Halt.out ?_) | ((with_reducible show wpAny _ _ (if (_ || _ == some (Value.builtin "dict.__iter__")) = true then _ else _) _ _ _); (refine KFB.if_so (by kernel_rfl) ?_)) | with_reducible refine wpAny_call ?_ | ((with_reducible show wpAny _ _ (Sem.alloc _ _) _ _ _); refine Halt.out ?_) | (((fail_if_success (fail_if_success (with_reducible refine' Looks.at (cl_findIn (K := fragK.heap_1 _) ?_ ?_ ?_) ?_))); with_reducible refine Looks.at (cl_findIn (K := fragK.heap_1 _) (by assumption) (by assumption) (by k_dflt k_is)) ?_)) | (((fail_if_success (fail_if_success (with_reducible refine' Looks.at (looks_nsGet ?_ ?_) ?_))); with_reducible refine Looks.at (looks_nsGet (by k_dflt (first | exact Cl.at (by assumption) 0 (by rfl) | exact Cl.at (by assumption) 1 (by rfl) | exact Cl.at (by assumption) 2 (by rfl) | exact Cl.at (by assumption) 3 (by rfl) | exact Cl.at (by assumption) 4 (by rfl) | exact Cl.at (by assumption) 5 (by rfl) | exact Cl.at (by assumption) 6 (by rfl) | exact Cl.at (by assumption) 7 (by rfl) | exact Cl.at (by assumption) 8 (by rfl) | exact Cl.at (by assumption) 9 (by rfl) | exact Cl.at (by assumption) 10 (by rfl) | exact Cl.at (by assumption) 11 (by rfl) | exact Cl.at (by assumption) 12 (by rfl) | exact Cl.at (by assumption) 13 (by rfl) | exact Cl.at (by assumption) 14 (by rfl) | exact Cl.at (by assumption) 15 (by rfl) | exact Cl.at (by assumption) 16 (by rfl) | exact Cl.at (by assumption) 17 (by rfl) | exact Cl.at (by assumption) 18 (by rfl) | exact Cl.at (by assumption) 19 (by rfl) | exact Cl.at (by assumption) 20 (by rfl) | exact Cl.at (by assumption) 21 (by rfl) | exact Cl.at (by assumption) 22 (by rfl) | exact Cl.at (by assumption) 23 (by rfl))) (by k_dflt rfl)) ?_)) | (((fail_if_success (fail_if_success (with_reducible refine' nd_load ?_ ?_))); with_reducible refine nd_load (by k_dflt (first | assumption | exact Cl.at (by assumption) 0 (by rfl) | exact Cl.at (by assumption) 1 (by rfl) | exact Cl.at (by assumption) 2 (by rfl) | exact Cl.at (by assumption) 3 (by rfl) | exact Cl.at (by assumption) 4 (by rfl) | exact Cl.at (by assumption) 5 (by rfl) | exact Cl.at (by assumption) 6 (by rfl) | exact Cl.at (by assumption) 7 (by rfl) | exact Cl.at (by assumption) 8 (by rfl) | exact Cl.at (by assumption) 9 (by rfl) | exact Cl.at (by assumption) 10 (by rfl) | exact Cl.at (by assumption) 11 (by rfl) | exact Cl.at (by assumption) 12 (by rfl) | exact Cl.at (by assumption) 13 (by rfl) | exact Cl.at (by assumption) 14 (by rfl) | exact Cl.at (by assumption) 15 (by rfl) | exact Cl.at (by assumption) 16 (by rfl) | exact Cl.at (by assumption) 17 (by rfl) | exact Cl.at (by assumption) 18 (by rfl) | exact Cl.at (by assumption) 19 (by rfl) | exact Cl.at (by assumption) 20 (by rfl) | exact Cl.at (by assumption) 21 (by rfl) | exact Cl.at (by assumption) 22 (by rfl) | exact Cl.at (by assumption) 23 (by rfl))) ?_)) | lk)
  have hInst : Looks (model PySem.Challenge.rw_kt0066_01.row.prog w) h13 (isInstance (.ref C) (.type "type")) true := ((Looks.ld (D13.at 3 rfl)).andThen .now).andThen lk_stt
  refine codeAny_call_builtin_at (Code.quiet_builtin _ (by decide +kernel)) entry_ti (check_slot ti_kind ti_split hInst (ti_args _ _ _ _) ?_)
  unfold Builtin.«type.__init__»
  repeat (first | ((with_reducible show wpAny _ _ (Slots.install _ _ _ _) _ _ _); refine Halt.out ?_) | ((with_reducible show wpAny _ _ (call (Value.type "super") _ _) _ _ _); refine Halt.out ?_) | ((with_reducible show wpAny _ _ (call (Value.ref _) _ _) _ _ _); refine Halt.out ?_) | ((with_reducible show wpAny _ _ (getAttr (Value.ref _) _ _) _ _ _); refine Halt.out ?_) | with_reducible refine arr_halt ?_ | ((with_reducible show wpAny _ _ (Bind.refreshMaker _) _ _ _); refine Halt.out ?_) | ((with_reducible show wpAny _ _ (updateCls _ _) _ _ _); refine Halt.out ?_) | ((with_reducible show wpAny _ _ (List.anyM _ (List.filter _ _)) _ _ _); rw [flt_self]) | ((with_reducible show wpAny _ _ (setSlotAt _ _ _) _ _ _); (first | ((with_reducible refine clx_setSlot (by k_dflt assumption) 0 (by k_dflt rfl) (by k_dflt (decide +kernel)) (by k_dflt (first | exact pS0 _ | exact pS2 _ _ | exact pS3 _ _ _ _ | exact pS4 _ _ _ _ _ | exact pS5 _ _ _ _ _ _)) (by k_dflt rfl) ?_)) | ((with_reducible refine clx_setSlot (by k_dflt assumption) 1 (by k_dflt rfl) (by k_dflt (decide +kernel)) (by k_dflt (first | exact pS0 _ | exact pS2 _ _ | exact pS3 _ _ _ _ | exact pS4 _ _ _ _ _ | exact pS5 _ _ _ _ _ _)) (by k_dflt rfl) ?_))); intro _ _) | ((with_reducible show wpAny _ _ (nsSet _ _ _) _ _ _); refine Halt.out ?_) | ((with_reducible show wpAny _ _ (Sem.update _ _ _ _) _ _ _); (first | refine clx_update (by assumption) 0 (by rfl) rfl (by rfl) ?_ | refine clx_update (by assumption) 1 (by rfl) rfl (by rfl) ?_ | refine clx_update (by assumption) 2 (by rfl) rfl (by rfl) ?_ | refine clx_update (by assumption) 3 (by rfl) rfl (by rfl) ?_ | refine clx_update (by assumption) 4 (by rfl) rfl (by rfl) ?_ | refine clx_update (by assumption) 5 (by rfl) rfl (by rfl) ?_ | refine clx_update (by assumption) 6 (by rfl) rfl (by rfl) ?_ | refine clx_update (by assumption) 7 (by rfl) rfl (by rfl) ?_); intro _ _) | (((fail_if_success (fail_if_success (with_reducible refine' KFB.if_not (c := Array.contains _ _) ?_ ?_))); with_reducible refine KFB.if_not (c := Array.contains _ _) (by k_dflt (decide +kernel)) ?_)) | (((fail_if_success (fail_if_success (with_reducible refine' KFB.if_not (c := Array.any _ _ _ _) ?_ ?_))); with_reducible refine KFB.if_not (c := Array.any _ _ _ _) (by k_dflt (rw [← Array.any_toList]; kernel_rfl)) ?_)) | ((with_reducible refine app_abs (by assumption) ?_)) | ((with_reducible refine bind_abs ?_); intro _ _) | (first | ((with_reducible show wpAny _ _ (Bind.madeBy (Value.type _)) _ _ _); with_reducible refine Looks.at (Looks.of_pure made_type) ?_) | ((with_reducible show wpAny _ _ (Builtin.extendedBase _) _ _ _); with_reducible refine Looks.at (Looks.of_pure ext_obj) ?_) | ((with_reducible show wpAny _ _ (Builtin.notOverATurnedClass _) _ _ _); with_reducible refine Looks.at (Looks.of_pure not_over) ?_) | ((with_reducible show wpAny _ _ (mroOf (Value.type _)) _ _ _); with_reducible refine Looks.at (Looks.of_pure mro_type) ?_) | ((with_reducible show wpAny _ _ (Builtin.mroHook? _) _ _ _); with_reducible refine Looks.at (Looks.of_pure hook_none) ?_) | ((with_reducible show wpAny _ _ (Builtin.linearize _ _) _ _ _); with_reducible refine Looks.at (Looks.of_pure lin_obj) ?_) | ((with_reducible show wpAny _ _ (Slots.givesWeak (Value.type _)) _ _ _); with_reducible refine Looks.at (Looks.of_pure weak_obj) ?_) | ((with_reducible show wpAny _ _ (Bind.madeBy (Value.type _)) _ _ _); with_reducible refine Looks.at (Looks.of_pure made_obj) ?_) | ((with_reducible show wpAny _ _ (noteSubclassOfBuiltin _ _) _ _ _); with_reducible refine Looks.at (Looks.of_pure (nsub_obj _)) ?_) | with_reducible refine nd_try ?_) | (first | ((with_reducible show wpAny _ _ (typeOf (Value.type _)) _ _ _); first | with_reducible refine Looks.at lk_tobj ?_ | with_reducible refine Looks.at lk_ttyp ?_) | ((with_reducible show wpAny _ _ (isType (Value.type _)) _ _ _); first | with_reducible refine Looks.at lk_iobj ?_ | with_reducible refine Looks.at lk_ityp ?_) | ((with_reducible show wpAny _ _ (isSubtype (Value.type _) (Value.type _)) _ _ _); with_reducible refine Looks.at lk_stt ?_)) | ((with_reducible show wpAny _ _ (if (_ == sysModules) = true then _ else _) _ _ _); (first | refine cl_small (by assumption) rfl 0 (by rfl) ?_ | refine cl_small (by assumption) rfl 1 (by rfl) ?_ | refine cl_small (by assumption) rfl 2 (by rfl) ?_ | refine cl_small (by assumption) rfl 3 (by rfl) ?_ | refine cl_small (by assumption) rfl 4 (by rfl) ?_ | refine cl_small (by assumption) rfl 5 (by rfl) ?_ | refine cl_small (by assumption) rfl 6 (by rfl) ?_ | refine cl_small (by assumption) rfl 7 (by rfl) ?_ | refine cl_small (by assumption) rfl 8 (by rfl) ?_ | refine cl_small (by assumption) rfl 9 (by rfl) ?_ | refine cl_small (by assumption) rfl 10 (by rfl) ?_ | refine cl_small (by assumption) rfl 11 (by rfl) ?_ | refine cl_small (by assumption) rfl 12 (by rfl) ?_ | refine cl_small (by assumption) rfl 13 (by rfl) ?_ | refine cl_small (by assumption) rfl 14 (by rfl) ?_ | refine cl_small (by assumption) rfl 15 (by rfl) ?_ | refine cl_small (by assumption) rfl 16 (by rfl) ?_ | refine cl_small (by assumption) rfl 17 (by rfl) ?_ | refine cl_small (by assumption) rfl 18 (by rfl) ?_ | refine cl_small (by assumption) rfl 19 (by rfl) ?_ | refine cl_small (by assumption) rfl 20 (by rfl) ?_ | refine cl_small (by assumption) rfl 21 (by rfl) ?_ | refine cl_small (by assumption) rfl 22 (by rfl) ?_ | refine cl_small (by assumption) rfl 23 (by rfl) ?_)) | ((with_reducible show wpAny _ _ (Slots.read _ _ _) _ _ _); refine Halt.out ?_) | ((with_reducible show wpAny _ _ (if (_ || _ == some (Value.builtin "dict.__iter__")) = true then _ else _) _ _ _); (refine KFB.if_so (by kernel_rfl) ?_)) | with_reducible refine wpAny_call ?_ | ((with_reducible show wpAny _ _ (Sem.alloc _ _) _ _ _); refine Halt.out ?_) | (((fail_if_success (fail_if_success (with_reducible refine' Looks.at (cl_findIn (K := fragK.heap_1 _) ?_ ?_ ?_) ?_))); with_reducible refine Looks.at (cl_findIn (K := fragK.heap_1 _) (by assumption) (by assumption) (by k_dflt k_is)) ?_)) | (((fail_if_success (fail_if_success (with_reducible refine' Looks.at (looks_nsGet ?_ ?_) ?_))); with_reducible refine Looks.at (looks_nsGet (by k_dflt (first | exact Cl.at (by assumption) 0 (by rfl) | exact Cl.at (by assumption) 1 (by rfl) | exact Cl.at (by assumption) 2 (by rfl) | exact Cl.at (by assumption) 3 (by rfl) | exact Cl.at (by assumption) 4 (by rfl) | exact Cl.at (by assumption) 5 (by rfl) | exact Cl.at (by assumption) 6 (by rfl) | exact Cl.at (by assumption) 7 (by rfl) | exact Cl.at (by assumption) 8 (by rfl) | exact Cl.at (by assumption) 9 (by rfl) | exact Cl.at (by assumption) 10 (by rfl) | exact Cl.at (by assumption) 11 (by rfl) | exact Cl.at (by assumption) 12 (by rfl) | exact Cl.at (by assumption) 13 (by rfl) | exact Cl.at (by assumption) 14 (by rfl) | exact Cl.at (by assumption) 15 (by rfl) | exact Cl.at (by assumption) 16 (by rfl) | exact Cl.at (by assumption) 17 (by rfl) | exact Cl.at (by assumption) 18 (by rfl) | exact Cl.at (by assumption) 19 (by rfl) | exact Cl.at (by assumption) 20 (by rfl) | exact Cl.at (by assumption) 21 (by rfl) | exact Cl.at (by assumption) 22 (by rfl) | exact Cl.at (by assumption) 23 (by rfl))) (by k_dflt rfl)) ?_)) | (((fail_if_success (fail_if_success (with_reducible refine' nd_load ?_ ?_))); with_reducible refine nd_load (by k_dflt (first | assumption | exact Cl.at (by assumption) 0 (by rfl) | exact Cl.at (by assumption) 1 (by rfl) | exact Cl.at (by assumption) 2 (by rfl) | exact Cl.at (by assumption) 3 (by rfl) | exact Cl.at (by assumption) 4 (by rfl) | exact Cl.at (by assumption) 5 (by rfl) | exact Cl.at (by assumption) 6 (by rfl) | exact Cl.at (by assumption) 7 (by rfl) | exact Cl.at (by assumption) 8 (by rfl) | exact Cl.at (by assumption) 9 (by rfl) | exact Cl.at (by assumption) 10 (by rfl) | exact Cl.at (by assumption) 11 (by rfl) | exact Cl.at (by assumption) 12 (by rfl) | exact Cl.at (by assumption) 13 (by rfl) | exact Cl.at (by assumption) 14 (by rfl) | exact Cl.at (by assumption) 15 (by rfl) | exact Cl.at (by assumption) 16 (by rfl) | exact Cl.at (by assumption) 17 (by rfl) | exact Cl.at (by assumption) 18 (by rfl) | exact Cl.at (by assumption) 19 (by rfl) | exact Cl.at (by assumption) 20 (by rfl) | exact Cl.at (by assumption) 21 (by rfl) | exact Cl.at (by assumption) 22 (by rfl) | exact Cl.at (by assumption) 23 (by rfl))) ?_)) | lk)
  exact hq _ _ _ _ (D13.drop _ (.cons _ (.cons _ (List.Sublist.refl _))))
end
end Mine
end
section
open PySem PySem.W PyProof.Rows PySem.Calls
set_option Elab.async false
set_option maxRecDepth 100000
set_option maxHeartbeats 2000000
namespace Mine
set_option pp.deepTerms false
set_option pp.deepTerms.threshold 6
/-- what the call of cmp_to_key leaves in the ledger: the class K over the comparison f -/
inductive KCls (w : World) (mn : Value) (f C : Addr) (led : List (Addr × Obj)) : Prop
  | mk (MD N fL cL fI cI cell LST fG fE fA fB ST BT : Addr) (oL oI oC : Obj) (dL kL dI kI : Value) (vL vI : Array Value) (tL tI t0 tn tk1 tk3 tk4 tk5 u1 u2 u3 u4 u5 u6 u7 u8 u9 u11 t1 t2 : Tok)
    (e : led = [(MD, mdObj C t0), (C, ⟨.type "type", none, .cls (kCd C N), [some (.ref BT), none, some (.str "K" tn), some (.str "cmp_to_key.<locals>.K" tk3), some (.builtin "object.__new__"), some (.bool false)].toArray⟩),
      (N, dictOf (clsFin w tk1 tk4 tk5 u1 u2 u3 u4 u5 u6 u7 u8 u9 u11 t1 t2 LST fI fL fG fE fA fB ST MD) 3),
      (fL, fnMade "__lt__" "cmp_to_key.<locals>.K.__lt__" ctkLt.1 ctkLt.2.1 ctkLt.2.2 [(S "mycmp", cell)] dL mn cL kL), (cL, oL),
      (fI, fnMade "__init__" "cmp_to_key.<locals>.K.__init__" ctkIn.1 ctkIn.2.1 ctkIn.2.2 [] dI mn cI kI), (cI, oI), (cell, oC)])
    (a1 : oL.data = .fields vL) (a2 : vL[1]? = some (.str "cmp_to_key.<locals>.K.__lt__" tL)) (a3 : oI.data = .fields vI) (a4 : vI[1]? = some (.str "cmp_to_key.<locals>.K.__init__" tI)) (a5 : oC.data = .cell (some (.ref f))) (a6 : (led.map (·.1)).Pairwise (· ≠ ·)) : KCls w mn f C led
section
variable {w : World} {A : Around} {E : Value → Shared → Prop} {s : Shared} {h₀ : Heap} {L d c : Addr} {m mg mb : PySem.Str → Option Value} {led news : List (Addr × Obj)} {ps : Array Value} {p : Program} {loose : List PySem.Str} {mean : ExcName → Option Value} {env : Env}
theorem cl_class {oC : Obj} {cell f : Addr} {Q : Value → Shared → Prop} (X : (fragK.heap_1 w.params).In h₀) (T : Top p loose mean mg mb h₀) (D : Cl h₀ L 63 m s.heap [(cell, oC)] #[] news) (C : CodeHd h₀ c 63) (hcd : env.code = .ref c) (hge : env.globals = mainGlobals) (hbu : env.builtins = builtinsNs)
    (hcl : closureFor ctkCls.2.1 env = pure [(S "mycmp", cell)]) (hdp : A.depth < recursionLimit) (hoC : oC.data = .cell (some (.ref f)))
    (hq : ∀ C' led' ps' h' tk', KCls w ((mg "__name__").getD .none) f C' led' → Cl h₀ L 63 m h' led' ps' news → Q (.ref C') { s with heap := h', toks := tk' }) :
    wpAny (model PySem.Challenge.rw_kt0066_01.row.prog w) A (buildClass "K" "cmp_to_key.<locals>.K" [.type "object"] [] ctkCls.1 ctkCls.2.1 ctkCls.2.2.2 15 env ctkCls.2.2.1 none) Q E s := by
  revert X; k_fill; intro X
  obtain ⟨hh, g, d, t, os⟩ := s
  dsimp only at D hq ⊢
  unfold buildClass
  repeat (first | ((with_reducible show wpAny _ _ (call (Value.type "type") _ _) _ _ _); refine Halt.out ?_) | ((with_reducible show wpAny _ _ (run _) _ _ _); refine Halt.out ?_) | ((with_reducible show wpAny _ _ (storeName _ _ _) _ _ _); refine Halt.out ?_) | (((fail_if_success (fail_if_success (with_reducible refine' Looks.at (cl_nsIn (K := fragK.heap_1 _) ?_ ?_ ?_) ?_))); with_reducible refine Looks.at (cl_nsIn (K := fragK.heap_1 _) (by assumption) (by assumption) (by k_dflt k_is)) ?_); (try dsimp only)) | ((with_reducible show wpAny _ _ (if (_ == sysModules) = true then _ else _) _ _ _); (first | refine cl_small (by assumption) rfl 0 (by rfl) ?_ | refine cl_small (by assumption) rfl 1 (by rfl) ?_ | refine cl_small (by assumption) rfl 2 (by rfl) ?_ | refine cl_small (by assumption) rfl 3 (by rfl) ?_ | refine cl_small (by assumption) rfl 4 (by rfl) ?_ | refine cl_small (by assumption) rfl 5 (by rfl) ?_ | refine cl_small (by assumption) rfl 6 (by rfl) ?_ | refine cl_small (by assumption) rfl 7 (by rfl) ?_); (try dsimp only)) | (first | ((with_reducible show wpAny _ _ (typeOf (Value.type _)) _ _ _); first | with_reducible refine Looks.at lk_tobj ?_ | with_reducible refine Looks.at lk_ttyp ?_) | ((with_reducible show wpAny _ _ (isType (Value.type _)) _ _ _); first | with_reducible refine Looks.at lk_iobj ?_ | with_reducible refine Looks.at lk_ityp ?_) | ((with_reducible show wpAny _ _ (isSubtype (Value.type _) (Value.type _)) _ _ _); with_reducible refine Looks.at lk_stt ?_)) | ((with_reducible show wpAny _ _ (classCode _ _ _ _ _ _) _ _ _); refine Halt.out ?_) | (((fail_if_success (fail_if_success (with_reducible refine' cl_prepCall ?_ ?_ 0 ?_ ?_))); with_reducible refine cl_prepCall (by k_dflt rfl) (by assumption) 0 (by k_dflt rfl) ?_); intro _ _ _; (try dsimp only)) | ((with_reducible refine cl_prep (by assumption) ?_); intro _ _ _; (try dsimp only)) | (((fail_if_success (fail_if_success (with_reducible refine' Looks.at (cl_findIn (K := fragK.heap_1 _) ?_ ?_ ?_) ?_))); with_reducible refine Looks.at (cl_findIn (K := fragK.heap_1 _) (by assumption) (by assumption) (by k_dflt k_is)) ?_); (try dsimp only)) | ((with_reducible refine app_abs (by assumption) ?_)) | ((with_reducible refine bind_abs ?_); intro _ _) | (((fail_if_success (fail_if_success (with_reducible refine' clx_alloc ?_ ?_ ?_))); with_reducible refine clx_alloc (by assumption) (by k_dflt rfl) ?_); intro _ _ _; (try dsimp only)) | (((fail_if_success (fail_if_success (with_reducible refine' Looks.at (looks_nsGet ?_ ?_) ?_))); with_reducible refine Looks.at (looks_nsGet (by k_dflt (first | assumption | exact Cl.at (by assumption) 0 (by rfl) | exact Cl.at (by assumption) 1 (by rfl) | exact Cl.at (by assumption) 2 (by rfl) | exact Cl.at (by assumption) 3 (by rfl) | exact Cl.at (by assumption) 4 (by rfl) | exact Cl.at (by assumption) 5 (by rfl) | exact Cl.at (by assumption) 6 (by rfl) | exact Cl.at (by assumption) 7 (by rfl) | exact Cl.at (by assumption) 8 (by rfl) | exact Cl.at (by assumption) 9 (by rfl) | exact Cl.at (by assumption) 10 (by rfl) | exact Cl.at (by assumption) 11 (by rfl) | exact Cl.at (by assumption) 12 (by rfl) | exact Cl.at (by assumption) 13 (by rfl) | exact Cl.at (by assumption) 14 (by rfl) | exact Cl.at (by assumption) 15 (by rfl))) (by k_dflt rfl)) ?_); (try dsimp only)) | (((fail_if_success (fail_if_success (with_reducible refine' nd_load ?_ ?_))); with_reducible refine nd_load (by k_dflt (first | assumption | exact Cl.at (by assumption) 0 (by rfl) | exact Cl.at (by assumption) 1 (by rfl) | exact Cl.at (by assumption) 2 (by rfl) | exact Cl.at (by assumption) 3 (by rfl) | exact Cl.at (by assumption) 4 (by rfl) | exact Cl.at (by assumption) 5 (by rfl) | exact Cl.at (by assumption) 6 (by rfl) | exact Cl.at (by assumption) 7 (by rfl) | exact Cl.at (by assumption) 8 (by rfl) | exact Cl.at (by assumption) 9 (by rfl) | exact Cl.at (by assumption) 10 (by rfl) | exact Cl.at (by assumption) 11 (by rfl) | exact Cl.at (by assumption) 12 (by rfl) | exact Cl.at (by assumption) 13 (by rfl) | exact Cl.at (by assumption) 14 (by rfl) | exact Cl.at (by assumption) 15 (by rfl) | exact Cl.tab (by assumption))) ?_); (try dsimp only)) | lk)
  refine ⟨?_⟩
  rename Cl _ _ _ _ _ _ _ _ => D1
  refine cl_classCode D1 (C.keeps fun b o e => D1.old e) hcd ?ht rfl ?_
  case ht => exact trivial
  intro CC P' oK h2 tk2 D2 mk2
  (try dsimp only)
  refine app_abs (by assumption) ?_
  (try dsimp only)
  rw [hge, hbu, hcl]
  refine wpAny_bind (cl_builtins D2 T (wpAny_bind ?_))
  refine' (cl_frame (K := fragK.heap_1 w.params) D2 X ?e ?_)
  case e => k_is
  intro FR h3 D3
  refine wpAny_bind (wpAny_pure ?_)
  refine wpAny_holding (wpAny_bind (cl_enter D3 T hdp ?_))
  refine wpAny_bind (wpAny_onRaise ?_)
  refine cl_names X D3 ?_
  intro h4 D4
  dsimp only
  repeat (first | ((with_reducible show wpAny _ _ (call (Value.type "type") _ _) _ _ _); refine Halt.out ?_) | ((with_reducible show wpAny _ _ (run _) _ _ _); refine Halt.out ?_) | ((with_reducible show wpAny _ _ (storeName _ _ _) _ _ _); refine Halt.out ?_) | (((fail_if_success (fail_if_success (with_reducible refine' Looks.at (cl_nsIn (K := fragK.heap_1 _) ?_ ?_ ?_) ?_))); with_reducible refine Looks.at (cl_nsIn (K := fragK.heap_1 _) (by assumption) (by assumption) (by k_dflt k_is)) ?_); (try dsimp only)) | ((with_reducible show wpAny _ _ (if (_ == sysModules) = true then _ else _) _ _ _); (first | refine cl_small (by assumption) rfl 0 (by rfl) ?_ | refine cl_small (by assumption) rfl 1 (by rfl) ?_ | refine cl_small (by assumption) rfl 2 (by rfl) ?_ | refine cl_small (by assumption) rfl 3 (by rfl) ?_ | refine cl_small (by assumption) rfl 4 (by rfl) ?_ | refine cl_small (by assumption) rfl 5 (by rfl) ?_ | refine cl_small (by assumption) rfl 6 (by rfl) ?_ | refine cl_small (by assumption) rfl 7 (by rfl) ?_); (try dsimp only)) | (first | ((with_reducible show wpAny _ _ (typeOf (Value.type _)) _ _ _); first | with_reducible refine Looks.at lk_tobj ?_ | with_reducible refine Looks.at lk_ttyp ?_) | ((with_reducible show wpAny _ _ (isType (Value.type _)) _ _ _); first | with_reducible refine Looks.at lk_iobj ?_ | with_reducible refine Looks.at lk_ityp ?_) | ((with_reducible show wpAny _ _ (isSubtype (Value.type _) (Value.type _)) _ _ _); with_reducible refine Looks.at lk_stt ?_)) | ((with_reducible show wpAny _ _ (classCode _ _ _ _ _ _) _ _ _); refine Halt.out ?_) | (((fail_if_success (fail_if_success (with_reducible refine' cl_prepCall ?_ ?_ 0 ?_ ?_))); with_reducible refine cl_prepCall (by k_dflt rfl) (by assumption) 0 (by k_dflt rfl) ?_); intro _ _ _; (try dsimp only)) | ((with_reducible refine cl_prep (by assumption) ?_); intro _ _ _; (try dsimp only)) | (((fail_if_success (fail_if_success (with_reducible refine' Looks.at (cl_findIn (K := fragK.heap_1 _) ?_ ?_ ?_) ?_))); with_reducible refine Looks.at (cl_findIn (K := fragK.heap_1 _) (by assumption) (by assumption) (by k_dflt k_is)) ?_); (try dsimp only)) | ((with_reducible refine app_abs (by assumption) ?_)) | ((with_reducible refine bind_abs ?_); intro _ _) | (((fail_if_success (fail_if_success (with_reducible refine' clx_alloc ?_ ?_ ?_))); with_reducible refine clx_alloc (by assumption) (by k_dflt rfl) ?_); intro _ _ _; (try dsimp only)) | (((fail_if_success (fail_if_success (with_reducible refine' Looks.at (looks_nsGet ?_ ?_) ?_))); with_reducible refine Looks.at (looks_nsGet (by k_dflt (first | assumption | exact Cl.at (by assumption) 0 (by rfl) | exact Cl.at (by assumption) 1 (by rfl) | exact Cl.at (by assumption) 2 (by rfl) | exact Cl.at (by assumption) 3 (by rfl) | exact Cl.at (by assumption) 4 (by rfl) | exact Cl.at (by assumption) 5 (by rfl) | exact Cl.at (by assumption) 6 (by rfl) | exact Cl.at (by assumption) 7 (by rfl) | exact Cl.at (by assumption) 8 (by rfl) | exact Cl.at (by assumption) 9 (by rfl) | exact Cl.at (by assumption) 10 (by rfl) | exact Cl.at (by assumption) 11 (by rfl) | exact Cl.at (by assumption) 12 (by rfl) | exact Cl.at (by assumption) 13 (by rfl) | exact Cl.at (by assumption) 14 (by rfl) | exact Cl.at (by assumption) 15 (by rfl))) (by k_dflt rfl)) ?_); (try dsimp only)) | (((fail_if_success (fail_if_success (with_reducible refine' nd_load ?_ ?_))); with_reducible refine nd_load (by k_dflt (first | assumption | exact Cl.at (by assumption) 0 (by rfl) | exact Cl.at (by assumption) 1 (by rfl) | exact Cl.at (by assumption) 2 (by rfl) | exact Cl.at (by assumption) 3 (by rfl) | exact Cl.at (by assumption) 4 (by rfl) | exact Cl.at (by assumption) 5 (by rfl) | exact Cl.at (by assumption) 6 (by rfl) | exact Cl.at (by assumption) 7 (by rfl) | exact Cl.at (by assumption) 8 (by rfl) | exact Cl.at (by assumption) 9 (by rfl) | exact Cl.at (by assumption) 10 (by rfl) | exact Cl.at (by assumption) 11 (by rfl) | exact Cl.at (by assumption) 12 (by rfl) | exact Cl.at (by assumption) 13 (by rfl) | exact Cl.at (by assumption) 14 (by rfl) | exact Cl.at (by assumption) 15 (by rfl) | exact Cl.tab (by assumption))) ?_); (try dsimp only)) | lk)
  refine ⟨?_⟩
  refine cl_body X T mk2 D4 ?_
  intro fI cI fL cL fG fE fA fB LST oI oL dI kI dL kL vI vL tI tL nG qG pG bG sG clG dG mG cG kG nE qE pE bE sE clE dE mE cE kE nA qA pA bA sA clA dA mA cA kA nB qB pB bB sB clB dB mB cB kB pt u0 u1 u2 u3 u4 u5 u6 u7 u8 u9 h5 tk5 D5 eI gI eL gL
  dsimp only
  repeat (first | ((with_reducible show wpAny _ _ (call (Value.type "type") _ _) _ _ _); refine Halt.out ?_) | ((with_reducible show wpAny _ _ (run _) _ _ _); refine Halt.out ?_) | ((with_reducible show wpAny _ _ (storeName _ _ _) _ _ _); refine Halt.out ?_) | (((fail_if_success (fail_if_success (with_reducible refine' Looks.at (cl_nsIn (K := fragK.heap_1 _) ?_ ?_ ?_) ?_))); with_reducible refine Looks.at (cl_nsIn (K := fragK.heap_1 _) (by assumption) (by assumption) (by k_dflt k_is)) ?_); (try dsimp only)) | ((with_reducible show wpAny _ _ (if (_ == sysModules) = true then _ else _) _ _ _); (first | refine cl_small (by assumption) rfl 0 (by rfl) ?_ | refine cl_small (by assumption) rfl 1 (by rfl) ?_ | refine cl_small (by assumption) rfl 2 (by rfl) ?_ | refine cl_small (by assumption) rfl 3 (by rfl) ?_ | refine cl_small (by assumption) rfl 4 (by rfl) ?_ | refine cl_small (by assumption) rfl 5 (by rfl) ?_ | refine cl_small (by assumption) rfl 6 (by rfl) ?_ | refine cl_small (by assumption) rfl 7 (by rfl) ?_); (try dsimp only)) | (first | ((with_reducible show wpAny _ _ (typeOf (Value.type _)) _ _ _); first | with_reducible refine Looks.at lk_tobj ?_ | with_reducible refine Looks.at lk_ttyp ?_) | ((with_reducible show wpAny _ _ (isType (Value.type _)) _ _ _); first | with_reducible refine Looks.at lk_iobj ?_ | with_reducible refine Looks.at lk_ityp ?_) | ((with_reducible show wpAny _ _ (isSubtype (Value.type _) (Value.type _)) _ _ _); with_reducible refine Looks.at lk_stt ?_)) | ((with_reducible show wpAny _ _ (classCode _ _ _ _ _ _) _ _ _); refine Halt.out ?_) | (((fail_if_success (fail_if_success (with_reducible refine' cl_prepCall ?_ ?_ 0 ?_ ?_))); with_reducible refine cl_prepCall (by k_dflt rfl) (by assumption) 0 (by k_dflt rfl) ?_); intro _ _ _; (try dsimp only)) | ((with_reducible refine cl_prep (by assumption) ?_); intro _ _ _; (try dsimp only)) | (((fail_if_success (fail_if_success (with_reducible refine' Looks.at (cl_findIn (K := fragK.heap_1 _) ?_ ?_ ?_) ?_))); with_reducible refine Looks.at (cl_findIn (K := fragK.heap_1 _) (by assumption) (by assumption) (by k_dflt k_is)) ?_); (try dsimp only)) | ((with_reducible refine app_abs (by assumption) ?_)) | ((with_reducible refine bind_abs ?_); intro _ _) | (((fail_if_success (fail_if_success (with_reducible refine' clx_alloc ?_ ?_ ?_))); with_reducible refine clx_alloc (by assumption) (by k_dflt rfl) ?_); intro _ _ _; (try dsimp only)) | (((fail_if_success (fail_if_success (with_reducible refine' Looks.at (looks_nsGet ?_ ?_) ?_))); with_reducible refine Looks.at (looks_nsGet (by k_dflt (first | assumption | exact Cl.at (by assumption) 0 (by rfl) | exact Cl.at (by assumption) 1 (by rfl) | exact Cl.at (by assumption) 2 (by rfl) | exact Cl.at (by assumption) 3 (by rfl) | exact Cl.at (by assumption) 4 (by rfl) | exact Cl.at (by assumption) 5 (by rfl) | exact Cl.at (by assumption) 6 (by rfl) | exact Cl.at (by assumption) 7 (by rfl) | exact Cl.at (by assumption) 8 (by rfl) | exact Cl.at (by assumption) 9 (by rfl) | exact Cl.at (by assumption) 10 (by rfl) | exact Cl.at (by assumption) 11 (by rfl) | exact Cl.at (by assumption) 12 (by rfl) | exact Cl.at (by assumption) 13 (by rfl) | exact Cl.at (by assumption) 14 (by rfl) | exact Cl.at (by assumption) 15 (by rfl))) (by k_dflt rfl)) ?_); (try dsimp only)) | (((fail_if_success (fail_if_success (with_reducible refine' nd_load ?_ ?_))); with_reducible refine nd_load (by k_dflt (first | assumption | exact Cl.at (by assumption) 0 (by rfl) | exact Cl.at (by assumption) 1 (by rfl) | exact Cl.at (by assumption) 2 (by rfl) | exact Cl.at (by assumption) 3 (by rfl) | exact Cl.at (by assumption) 4 (by rfl) | exact Cl.at (by assumption) 5 (by rfl) | exact Cl.at (by assumption) 6 (by rfl) | exact Cl.at (by assumption) 7 (by rfl) | exact Cl.at (by assumption) 8 (by rfl) | exact Cl.at (by assumption) 9 (by rfl) | exact Cl.at (by assumption) 10 (by rfl) | exact Cl.at (by assumption) 11 (by rfl) | exact Cl.at (by assumption) 12 (by rfl) | exact Cl.at (by assumption) 13 (by rfl) | exact Cl.at (by assumption) 14 (by rfl) | exact Cl.at (by assumption) 15 (by rfl) | exact Cl.tab (by assumption))) ?_); (try dsimp only)) | lk)
  refine ⟨?_⟩
  rename Cl _ _ _ _ _ _ _ _ => D6
  refine cl_store rfl D6 13 rfl rfl fun h7 D7 => ?_
  repeat (first | ((with_reducible show wpAny _ _ (call (Value.type "type") _ _) _ _ _); refine Halt.out ?_) | ((with_reducible show wpAny _ _ (run _) _ _ _); refine Halt.out ?_) | ((with_reducible show wpAny _ _ (storeName _ _ _) _ _ _); refine Halt.out ?_) | (((fail_if_success (fail_if_success (with_reducible refine' Looks.at (cl_nsIn (K := fragK.heap_1 _) ?_ ?_ ?_) ?_))); with_reducible refine Looks.at (cl_nsIn (K := fragK.heap_1 _) (by assumption) (by assumption) (by k_dflt k_is)) ?_); (try dsimp only)) | ((with_reducible show wpAny _ _ (if (_ == sysModules) = true then _ else _) _ _ _); (first | refine cl_small (by assumption) rfl 0 (by rfl) ?_ | refine cl_small (by assumption) rfl 1 (by rfl) ?_ | refine cl_small (by assumption) rfl 2 (by rfl) ?_ | refine cl_small (by assumption) rfl 3 (by rfl) ?_ | refine cl_small (by assumption) rfl 4 (by rfl) ?_ | refine cl_small (by assumption) rfl 5 (by rfl) ?_ | refine cl_small (by assumption) rfl 6 (by rfl) ?_ | refine cl_small (by assumption) rfl 7 (by rfl) ?_); (try dsimp only)) | (first | ((with_reducible show wpAny _ _ (typeOf (Value.type _)) _ _ _); first | with_reducible refine Looks.at lk_tobj ?_ | with_reducible refine Looks.at lk_ttyp ?_) | ((with_reducible show wpAny _ _ (isType (Value.type _)) _ _ _); first | with_reducible refine Looks.at lk_iobj ?_ | with_reducible refine Looks.at lk_ityp ?_) | ((with_reducible show wpAny _ _ (isSubtype (Value.type _) (Value.type _)) _ _ _); with_reducible refine Looks.at lk_stt ?_)) | ((with_reducible show wpAny _ _ (classCode _ _ _ _ _ _) _ _ _); refine Halt.out ?_) | (((fail_if_success (fail_if_success (with_reducible refine' cl_prepCall ?_ ?_ 0 ?_ ?_))); with_reducible refine cl_prepCall (by k_dflt rfl) (by assumption) 0 (by k_dflt rfl) ?_); intro _ _ _; (try dsimp only)) | ((with_reducible refine cl_prep (by assumption) ?_); intro _ _ _; (try dsimp only)) | (((fail_if_success (fail_if_success (with_reducible refine' Looks.at (cl_findIn (K := fragK.heap_1 _) ?_ ?_ ?_) ?_))); with_reducible refine Looks.at (cl_findIn (K := fragK.heap_1 _) (by assumption) (by assumption) (by k_dflt k_is)) ?_); (try dsimp only)) | ((with_reducible refine app_abs (by assumption) ?_)) | ((with_reducible refine bind_abs ?_); intro _ _) | (((fail_if_success (fail_if_success (with_reducible refine' clx_alloc ?_ ?_ ?_))); with_reducible refine clx_alloc (by assumption) (by k_dflt rfl) ?_); intro _ _ _; (try dsimp only)) | (((fail_if_success (fail_if_success (with_reducible refine' Looks.at (looks_nsGet ?_ ?_) ?_))); with_reducible refine Looks.at (looks_nsGet (by k_dflt (first | assumption | exact Cl.at (by assumption) 0 (by rfl) | exact Cl.at (by assumption) 1 (by rfl) | exact Cl.at (by assumption) 2 (by rfl) | exact Cl.at (by assumption) 3 (by rfl) | exact Cl.at (by assumption) 4 (by rfl) | exact Cl.at (by assumption) 5 (by rfl) | exact Cl.at (by assumption) 6 (by rfl) | exact Cl.at (by assumption) 7 (by rfl) | exact Cl.at (by assumption) 8 (by rfl) | exact Cl.at (by assumption) 9 (by rfl) | exact Cl.at (by assumption) 10 (by rfl) | exact Cl.at (by assumption) 11 (by rfl) | exact Cl.at (by assumption) 12 (by rfl) | exact Cl.at (by assumption) 13 (by rfl) | exact Cl.at (by assumption) 14 (by rfl) | exact Cl.at (by assumption) 15 (by rfl))) (by k_dflt rfl)) ?_); (try dsimp only)) | (((fail_if_success (fail_if_success (with_reducible refine' nd_load ?_ ?_))); with_reducible refine nd_load (by k_dflt (first | assumption | exact Cl.at (by assumption) 0 (by rfl) | exact Cl.at (by assumption) 1 (by rfl) | exact Cl.at (by assumption) 2 (by rfl) | exact Cl.at (by assumption) 3 (by rfl) | exact Cl.at (by assumption) 4 (by rfl) | exact Cl.at (by assumption) 5 (by rfl) | exact Cl.at (by assumption) 6 (by rfl) | exact Cl.at (by assumption) 7 (by rfl) | exact Cl.at (by assumption) 8 (by rfl) | exact Cl.at (by assumption) 9 (by rfl) | exact Cl.at (by assumption) 10 (by rfl) | exact Cl.at (by assumption) 11 (by rfl) | exact Cl.at (by assumption) 12 (by rfl) | exact Cl.at (by assumption) 13 (by rfl) | exact Cl.at (by assumption) 14 (by rfl) | exact Cl.at (by assumption) 15 (by rfl) | exact Cl.tab (by assumption))) ?_); (try dsimp only)) | lk)
  refine ⟨?_⟩
  dsimp only [List.set] at D7
  refine cl_new X D7 ?_
  intro C' N MD h8 D8
  dsimp only
  repeat (first | ((with_reducible show wpAny _ _ (call (Value.type "type") _ _) _ _ _); refine Halt.out ?_) | ((with_reducible show wpAny _ _ (run _) _ _ _); refine Halt.out ?_) | ((with_reducible show wpAny _ _ (storeName _ _ _) _ _ _); refine Halt.out ?_) | (((fail_if_success (fail_if_success (with_reducible refine' Looks.at (cl_nsIn (K := fragK.heap_1 _) ?_ ?_ ?_) ?_))); with_reducible refine Looks.at (cl_nsIn (K := fragK.heap_1 _) (by assumption) (by assumption) (by k_dflt k_is)) ?_); (try dsimp only)) | ((with_reducible show wpAny _ _ (if (_ == sysModules) = true then _ else _) _ _ _); (first | refine cl_small (by assumption) rfl 0 (by rfl) ?_ | refine cl_small (by assumption) rfl 1 (by rfl) ?_ | refine cl_small (by assumption) rfl 2 (by rfl) ?_ | refine cl_small (by assumption) rfl 3 (by rfl) ?_ | refine cl_small (by assumption) rfl 4 (by rfl) ?_ | refine cl_small (by assumption) rfl 5 (by rfl) ?_ | refine cl_small (by assumption) rfl 6 (by rfl) ?_ | refine cl_small (by assumption) rfl 7 (by rfl) ?_); (try dsimp only)) | (first | ((with_reducible show wpAny _ _ (typeOf (Value.type _)) _ _ _); first | with_reducible refine Looks.at lk_tobj ?_ | with_reducible refine Looks.at lk_ttyp ?_) | ((with_reducible show wpAny _ _ (isType (Value.type _)) _ _ _); first | with_reducible refine Looks.at lk_iobj ?_ | with_reducible refine Looks.at lk_ityp ?_) | ((with_reducible show wpAny _ _ (isSubtype (Value.type _) (Value.type _)) _ _ _); with_reducible refine Looks.at lk_stt ?_)) | ((with_reducible show wpAny _ _ (classCode _ _ _ _ _ _) _ _ _); refine Halt.out ?_) | (((fail_if_success (fail_if_success (with_reducible refine' cl_prepCall ?_ ?_ 0 ?_ ?_))); with_reducible refine cl_prepCall (by k_dflt rfl) (by assumption) 0 (by k_dflt rfl) ?_); intro _ _ _; (try dsimp only)) | ((with_reducible refine cl_prep (by assumption) ?_); intro _ _ _; (try dsimp only)) | (((fail_if_success (fail_if_success (with_reducible refine' Looks.at (cl_findIn (K := fragK.heap_1 _) ?_ ?_ ?_) ?_))); with_reducible refine Looks.at (cl_findIn (K := fragK.heap_1 _) (by assumption) (by assumption) (by k_dflt k_is)) ?_); (try dsimp only)) | ((with_reducible refine app_abs (by assumption) ?_)) | ((with_reducible refine bind_abs ?_); intro _ _) | (((fail_if_success (fail_if_success (with_reducible refine' clx_alloc ?_ ?_ ?_))); with_reducible refine clx_alloc (by assumption) (by k_dflt rfl) ?_); intro _ _ _; (try dsimp only)) | (((fail_if_success (fail_if_success (with_reducible refine' Looks.at (looks_nsGet ?_ ?_) ?_))); with_reducible refine Looks.at (looks_nsGet (by k_dflt (first | assumption | exact Cl.at (by assumption) 0 (by rfl) | exact Cl.at (by assumption) 1 (by rfl) | exact Cl.at (by assumption) 2 (by rfl) | exact Cl.at (by assumption) 3 (by rfl) | exact Cl.at (by assumption) 4 (by rfl) | exact Cl.at (by assumption) 5 (by rfl) | exact Cl.at (by assumption) 6 (by rfl) | exact Cl.at (by assumption) 7 (by rfl) | exact Cl.at (by assumption) 8 (by rfl) | exact Cl.at (by assumption) 9 (by rfl) | exact Cl.at (by assumption) 10 (by rfl) | exact Cl.at (by assumption) 11 (by rfl) | exact Cl.at (by assumption) 12 (by rfl) | exact Cl.at (by assumption) 13 (by rfl) | exact Cl.at (by assumption) 14 (by rfl) | exact Cl.at (by assumption) 15 (by rfl))) (by k_dflt rfl)) ?_); (try dsimp only)) | (((fail_if_success (fail_if_success (with_reducible refine' nd_load ?_ ?_))); with_reducible refine nd_load (by k_dflt (first | assumption | exact Cl.at (by assumption) 0 (by rfl) | exact Cl.at (by assumption) 1 (by rfl) | exact Cl.at (by assumption) 2 (by rfl) | exact Cl.at (by assumption) 3 (by rfl) | exact Cl.at (by assumption) 4 (by rfl) | exact Cl.at (by assumption) 5 (by rfl) | exact Cl.at (by assumption) 6 (by rfl) | exact Cl.at (by assumption) 7 (by rfl) | exact Cl.at (by assumption) 8 (by rfl) | exact Cl.at (by assumption) 9 (by rfl) | exact Cl.at (by assumption) 10 (by rfl) | exact Cl.at (by assumption) 11 (by rfl) | exact Cl.at (by assumption) 12 (by rfl) | exact Cl.at (by assumption) 13 (by rfl) | exact Cl.at (by assumption) 14 (by rfl) | exact Cl.at (by assumption) 15 (by rfl) | exact Cl.tab (by assumption))) ?_); (try dsimp only)) | lk)
  have D9 := D8.drop _ (.cons_cons _ (.cons_cons _ (.cons_cons _ (.cons _ (.cons _ (.cons _ (.cons _ (.cons _ (.cons_cons _ (.cons_cons _ (.cons_cons _ (.cons_cons _ (.cons _ (.cons _ (.cons _ (.cons _ (.cons _ (.cons _ (.cons _ (.cons_cons _ .slnil))))))))))))))))))))
  exact hq _ _ _ _ _ ⟨_, _, _, _, _, _, _, _, _, _, _, _, _, _, _, _, _, _, _, _, _, _, _, _, _, _, _, _, _, _, _, _, _, _, _, _, _, _, _, _, _, _, _, rfl, eL, gL, eI, gI, hoC, D9.ord⟩ D9
end
end Mine
end
section
open PySem PySem.W PyProof.Rows PySem.Calls
set_option Elab.async false
set_option maxRecDepth 100000
set_option maxHeartbeats 8000000
namespace Mine
set_option pp.deepTerms false
set_option pp.deepTerms.threshold 6
section
variable {M : Model} {A : Around} {E : Value → Shared → Prop} {s : Shared} {h₀ : Heap} {L : Addr} {m mg mb : Str → Option Value} {news : List (Addr × Obj)} {p : Program} {loose : List Str} {mean : ExcName → Option Value} {env : Env}
theorem guard_ok {Q : Unit → Shared → Prop} (F : Fr h₀ L s.heap m) (T : Top p loose mean mg mb h₀) (he : env.builtins = builtinsNs) (h : Q () s) : wpAny M A (buildClassGuard env) Q E s := by
  unfold buildClassGuard
  rw [he]
  refine wpAny_bind (wpAny_nsGet (T.keeps F.keep).b ?_)
  rw [(T.builtins (S "__build_class__") (by decide)).trans (show bootBuiltins (S "__build_class__") = some (.builtin "__build_class__") by decide +kernel)]
  exact wpAny_pure h
theorem args_pos {Q : Args → Shared → Prop} {fv : Value} {l : List (Bool × Sem Value)} {pos : Pos} (h : wpAny M A (spliced l) (fun vs s' => Q ⟨vs, []⟩ s') E s) : wpAny M A (evalArgs fv false l (backToKw pos (keywordEach [] env))) Q E s := by
  unfold evalArgs
  refine wpAny_bind (wpAny_mono h (fun vs s' h' => ?_) fun _ _ e => e)
  repeat lk
  exact h'
end
theorem ctk_spec : ∀ {w : World} {dp un : Nat} {gd : Option (List Code)} {cn : Str} {cs : Scope} {a : Addr} {ccd : Value} {cl : List (Str × Addr)} {outer : List Env} {A₀ : Around} {base h₀ : Heap} {L : Addr} {m : Str → Option Value} {s : Shared} {Q E : Value → Shared → Prop} {p : Program} {loose : List Str} {mean : ExcName → Option Value} {mg mb : Str → Option Value}
   (_B : Below A₀ base outer h₀) (_F : Fr h₀ L s.heap m) (_X : (fragK.heap_1 w.params).In h₀) (_T : Top p loose mean mg mb h₀) (_hk : cs.kind = .function)
   {f : Addr} {news : List (Addr × Obj)} (_N : News h₀ L s.heap ((nat_lit 63, tabObj #[]) :: news)) (_hoff : ∀ q ∈ news, @Ne Nat q.1 63) (_C : CodeHd base (nat_lit 67) (nat_lit 63))
   (_BF : BFacts w base p loose mean mg mb) (_KD : KtsDicts (outer.filterMap (·.frame)) h₀) (_hd : dp + 40 < recursionLimit) (_hu : un + 600 < cLine)
   (_ret : ∀ (C : Addr) (led : List (Addr × Obj)) (ps : Array Value) (h' : Heap) (tk' : Nat), KCls w ((mg "__name__").getD .none) f C led →  Fr h₀ L h' m → News h₀ L h' (led ++ (nat_lit 63, tabObj ps) :: news) → (∀ q ∈ (nat_lit 63, tabObj ps) :: news, ∀ r ∈ led, @LT.lt Nat _ q.1 r.1) → Q (.ref C) { s with heap := h', toks := tk' }),
   wpAny (model PySem.Challenge.rw_kt0066_01.row.prog w) (ktrTop dp un gd cn cs L a ccd cl outer) (call (.ref 68) [.ref f]) Q E s := by
  k_fill
  intro w dp un gd cn cs a ccd cl outer A₀ base h₀ L m s Q E p loose mean mg mb B F X T hk f news N hoff C BF KD hd hu ret
  refine wpAny_call ?_
  (refine' codeE_cellsS (g₀ := h₀) (binds := [(S "mycmp", .ref f)]) ?k1 ?k2 ?k3 ?k4 ?k5 ?XB ?TB ?D ?T0 ?kA ?kF ?kK ?k6 ?k7 ?k8 ?k9 ?kB ?kD ?_ ?c2 ?c3 ?c4; (case kA => exact rfl); (case kF => exact rfl); (case kK => assumption); (case k2 => k_asm); (case k1 => k_asm); (case XB => exact BF.X); (case TB => exact BF.T); (case D => assumption); (case T0 => exact KtsTurn.refl); (case k3 => k_asm); (case k4 => k_asm); (case k5 => k_asm); (case k6 => k_is); (case k7 => k_is); (case k8 => ktr_room); (case k9 => first | exact BindsTo.of_eq rfl | exact binds_K (X.keeps F.keep) rfl (by k_is) rfl rfl rfl); (case kB => exact rfl); (case kD => decide +kernel); (case c2 => exact rfl); (case c3 => exact rfl); (case c4 => exact rfl); k_whole; intro g' L' h' tk' cells' FG' F' N' Y' B' X' T' l1 D'; (try k_lt l1); k_cells Y'; (try simp only [List.cons_append, List.nil_append] at N'); (try dsimp only); (try k_lift B'); (try k_fold))
  replace F' : Fr g' L' h' (fun _ => none) := F'
  repeat' (first | (k_unfold; (try dsimp only)) | (k_end; wrow_close) | walk1)
  rw [arm_exec_ClassDef]
  refine wpAny_bind (wpAny_pure (wpAny_bind (wpAny_standAt ?_)))
  refine wpAny_bind (guard_ok F' T' rfl (wpAny_bind (wpAny_holding (wpAny_bind (args_pos ?_)))))
  repeat' (first | (k_unfold; (try dsimp only)) | (k_end; wrow_close) | walk1)
  refine wpAny_bind (wpAny_standAt (wpAny_holding ?_))
  rename_i oC dC
  have D0 : Cl g' L' 63 (fun _ => none) h' [(L' + 1, oC)] #[] news := by
    refine ⟨F', N', List.pairwise_singleton _ _, fun q hq r hr => ?_, hoff⟩
    rcases List.mem_singleton.mp hr with rfl
    rcases List.mem_cons.mp hq with rfl | hq
    · exact Nat.lt_succ_of_lt l1.1
    · exact Nat.lt_succ_of_lt (ktn_ltOf l1.2 _ hq)
  have hR : ctkCls = ctkCls := rfl
  conv at hR => rhs; whnf
  have z := fun (Q₁ E₁ : Value → Shared → Prop) (A₁ : Around) (env₁ : Env) (hcd : env₁.code = .ref 67) (hge : env₁.globals = mainGlobals) (hbu : env₁.builtins = builtinsNs) => cl_class (Q := Q₁) (E := E₁) (A := A₁) (s := ⟨h', s.gens, s.drawn, tk', s.os⟩) (f := f) (env := env₁) X' T' D0 (C.keeps B'.stays) hcd hge hbu
  rw [hR] at z
  refine z _ _ _ _ rfl rfl rfl rfl (by ktr_room) ?_ ?_
  · rw [dC]; rfl
  intro C' led' ps' h2 tk2 hK D2
  have F2 : Fr g' L' h2 (fun _ => none) := D2.fr
  have N2 : News g' L' h2 (led' ++ (63, tabObj ps') :: news) := D2.nw
  have A2 := D2.abv
  clear z hR D0 D2 N' F'
  refine wpAny_bind (wpAny_of_eq (a := .ref C') rfl ?_)
  refine wpAny_bind (wpAny_standAt (wpAny_bind ?_))
  repeat' (first | (k_unfold; (try dsimp only)) | (k_end; wrow_close) | walk1)
  refine wpAny_pure ?_
  dsimp only
  repeat' (first | (k_unfold; (try dsimp only)) | (k_end; wrow_close) | walk1)
  exact ret _ _ _ _ _ hK (by assumption) (by assumption) A2
end Mine
end
section
open PySem PySem.W PyProof.Rows PySem.Calls
set_option Elab.async false
set_option maxRecDepth 100000
set_option maxHeartbeats 800000
namespace Mine
set_option pp.deepTerms false
set_option linter.unusedVariables false
set_option pp.deepTerms.threshold 8
/-- the class K as a fragment whose places are letters -/
structure KF (K : Frag) (C N MD fL fI : Addr) : Prop where
  cls : clsIn K C = some (kCd C N)
  makes : makesIn K C = true
  init : findIn K (.ref C) "__init__" = some (some (.ref fI))
  lt : findIn K (.ref C) "__lt__" = some (some (.ref fL))
  obj : findIn K (.ref C) "obj" = some (some (.ref MD))
  sa : findIn K (.ref C) "__setattr__" = some (some (.builtin "object.__setattr__"))
  ga : findIn K (.ref C) "__getattribute__" = some (some (.builtin "object.__getattribute__"))
  gat : findIn K (.ref C) "__getattr__" = some none
  mdT : typeIn K (.ref MD) = some (.type "member_descriptor")
  slot : slotIn K MD C = some 0
  fIT : typeIn K (.ref fI) = some (.type "function")
  fLT : typeIn K (.ref fL) = some (.type "function")
section
variable {K : Frag} {C N MD fL fI : Addr} {oN : Obj} {k : PySem.Str} {v : Value} {sl : Array (Option Value)} {es : List DictEntry} {n : Nat} {r : Option Value}
theorem ns_own (hN : K.lookup N = some (dictOf es n)) (e : lookIn k (dictOf es n) = some r) : nsIn K N k = some r := by
  unfold nsIn
  rw [hN]
  exact e
theorem find_own (hC : K.lookup C = some ⟨.type "type", none, .cls (kCd C N), sl⟩) (hN : K.lookup N = some (dictOf es n)) (e : lookIn k (dictOf es n) = some (some v)) : findIn K (.ref C) k = some (some v) := by
  unfold findIn
  dsimp only
  rw [hC]
  show alongIn K k [.ref C, .type "object"] = _
  unfold alongIn ownIn
  dsimp only
  rw [hC]
  show (match nsIn K N k with | some (some v) => some (some v) | some none => _ | none => none) = _
  rw [ns_own hN e]
theorem find_obj (hC : K.lookup C = some ⟨.type "type", none, .cls (kCd C N), sl⟩) (hN : K.lookup N = some (dictOf es n)) (e : lookIn k (dictOf es n) = some none) (e2 : fastBuiltinOwn "object" k = r) : findIn K (.ref C) k = some r := by
  unfold findIn
  dsimp only
  rw [hC]
  show alongIn K k [.ref C, .type "object"] = _
  unfold alongIn ownIn
  dsimp only
  rw [hC]
  show (match nsIn K N k with | some (some v) => some (some v) | some none => _ | none => none) = _
  rw [ns_own hN e]
  dsimp only
  unfold alongIn ownIn
  dsimp only
  rw [e2]
  cases r with
  | some v => rfl
  | none => rfl
theorem lookup_mem {K : Frag} (hd : (K.map (·.1)).Pairwise (· ≠ ·)) {a : Addr} {o : Obj} (hm : (a, o) ∈ K) : K.lookup a = some o := by
  induction K with
  | nil => cases hm
  | cons p K ih =>
    obtain ⟨b, x⟩ := p
    rw [List.map_cons, List.pairwise_cons] at hd
    rcases List.mem_cons.mp hm with q | hm
    · cases q; rw [List.lookup_cons, show (a == a) = true from beq_self_eq_true a]
    · have nb : (a == b) = false := by
        rw [beq_eq_false_iff_ne]
        exact fun q => hd.1 a (List.mem_map_of_mem hm) q.symm
      rw [List.lookup_cons, nb]
      exact ih hd.2 hm
theorem mem_lookup {K : Frag} {a : Addr} {o : Obj} (e : K.lookup a = some o) : (a, o) ∈ K := by
  induction K with
  | nil => cases e
  | cons p K ih =>
    obtain ⟨b, x⟩ := p
    rw [List.lookup_cons] at e
    cases q : a == b with
    | true => rw [q] at e; cases e; rw [beq_iff_eq.mp q]; exact .head _
    | false => rw [q] at e; exact .tail _ (ih e)
theorem frag_news {h₀ h : Heap} {L : Addr} {news : List (Addr × Obj)} (N : News h₀ L h news) (hs : ∀ q ∈ K, q ∈ news) : K.In h := fun a o e => (N _ (hs _ (mem_lookup e))).1
inductive KfR (mn : Value) (f C : Addr) (led : List (Addr × Obj)) : Prop
  | mk (N MD fL fI cI : Addr) (oI : Obj) (dI kI : Value) (vI : Array Value) (tI : Tok) (cL : Addr) (oL : Obj) (dL kL : Value) (vL : Array Value) (tL : Tok) (cell : Addr) (oC : Obj) (kf : KF led C N MD fL fI)
    (a : (fI, fnMade "__init__" "cmp_to_key.<locals>.K.__init__" ctkIn.1 ctkIn.2.1 ctkIn.2.2 [] dI mn cI kI) ∈ led ∧ (cI, oI) ∈ led ∧ oI.data = .fields vI ∧ vI[1]? = some (.str "cmp_to_key.<locals>.K.__init__" tI))
    (b : (fL, fnMade "__lt__" "cmp_to_key.<locals>.K.__lt__" ctkLt.1 ctkLt.2.1 ctkLt.2.2 [(S "mycmp", cell)] dL mn cL kL) ∈ led ∧ (cL, oL) ∈ led ∧ oL.data = .fields vL ∧ vL[1]? = some (.str "cmp_to_key.<locals>.K.__lt__" tL)) (c : (cell, oC) ∈ led) (d : oC.data = .cell (some (.ref f))) : KfR mn f C led
theorem kf_of {w : World} {mn : Value} {f : Addr} {led : List (Addr × Obj)} (hK : KCls w mn f C led) : KfR mn f C led := by
  obtain ⟨MD, N, fL, cL, fI, cI, cell, LST, fG, fE, fA, fB, ST, BT, oL, oI, oC, dL, kL, dI, kI, vL, vI, tL, tI, t0, tn, tk1, tk3, tk4, tk5, u1, u2, u3, u4, u5, u6, u7, u8, u9, u11, t1, t2, hled, z1, z2, z3, z4, z5, hp⟩ := hK
  have mem : ∀ {q}, q ∈ led → led.lookup q.1 = some q.2 := fun {q} h => lookup_mem hp h
  have kM : led.lookup MD = some _ := mem (q := (MD, _)) (by rw [hled]; exact .head _)
  have kC : led.lookup C = some _ := mem (q := (C, _)) (by rw [hled]; exact .tail _ (.head _))
  have kN : led.lookup N = some _ := mem (q := (N, _)) (by rw [hled]; exact .tail _ (.tail _ (.head _)))
  have kKL : led.lookup fL = some _ := mem (q := (fL, _)) (by rw [hled]; exact .tail _ (.tail _ (.tail _ (.head _))))
  have kKI : led.lookup fI = some _ := mem (q := (fI, _)) (by rw [hled]; exact .tail _ (.tail _ (.tail _ (.tail _ (.tail _ (.head _))))))
  have mm : ∀ (i : Nat) (q : Addr × Obj), led[i]? = some q → q ∈ led := fun i q h => List.mem_of_getElem? h
  refine ⟨N, MD, fL, fI, cI, oI, dI, kI, vI, tI, cL, oL, dL, kL, vL, tL, cell, oC, ⟨?_, ?_, ?_, ?_, ?_, ?_, ?_, ?_, ?_, ?_, ?_, ?_⟩, ⟨mm 5 _ (by rw [hled]; rfl), mm 6 _ (by rw [hled]; rfl), z3, z4⟩, ⟨mm 3 _ (by rw [hled]; rfl), mm 4 _ (by rw [hled]; rfl), z1, z2⟩, mm 7 _ (by rw [hled]; rfl), z5⟩
  · unfold clsIn; rw [kC]
  · have tC : typeIn led (.ref C) = some (.type "type") := by unfold typeIn; dsimp only; rw [kC]; rfl
    have sC : specialIn led (.ref C) "__call__" = some (some (.builtin "type.__call__")) := by unfold specialIn; rw [tC, Option.bind_some]; show fastLookup "type" "__call__" = _; kernel_rfl
    have iC : instIn led (.ref C) (.type "type") = some true := by unfold instIn; rw [tC, Option.bind_some]; show (fastBuiltinMro "type").map _ = _; kernel_rfl
    unfold makesIn
    rw [kC]
    dsimp only
    rw [sC, iC]
    simp
  · exact find_own kC kN rfl
  · exact find_own kC kN rfl
  · exact find_own kC kN rfl
  · exact find_obj kC kN rfl (by kernel_rfl)
  · exact find_obj kC kN rfl (by kernel_rfl)
  · exact find_obj kC kN rfl (by kernel_rfl)
  · unfold typeIn; dsimp only; rw [kM]; rfl
  · unfold slotIn recIn clsIn
    rw [kM, kC]
    simp
  · unfold typeIn; dsimp only; rw [kKI]; rfl
  · unfold typeIn; dsimp only; rw [kKL]; rfl
end
end Mine
end
section
open PySem PySem.W PyProof.Rows PySem.Calls
set_option Elab.async false
set_option maxRecDepth 100000
set_option maxHeartbeats 8000000
namespace Mine
set_option pp.deepTerms false
set_option pp.deepTerms.threshold 6
noncomputable abbrev kInst (C dx : Addr) (v : Value) : Obj := { cls := .ref C, dict := some dx, data := .plain, slots := #[some v] }
section
variable {prog : Program} {w : World} {A : Around} {E : Value → Shared → Prop} {s : Shared} {K : Frag} {x C N L p MD fL fI dx : Addr} {h₀ : Heap} {m : Str → Option Value} {news : List (Addr × Obj)} {ox : Obj} {v : Value}
theorem kf_takes (Y : KF K C N MD fL fI) : takesIn K (.ref MD) = some true := by
  have e : specialIn K (.ref MD) "__set__" = some (some (.builtin "member_descriptor.__set__")) := by unfold specialIn; rw [Y.mdT, Option.bind_some]; show fastLookup "member_descriptor" "__set__" = _; kernel_rfl
  unfold takesIn; rw [e]
theorem kf_get (Y : KF K C N MD fL fI) : specialIn K (.ref MD) "__get__" = some (some (.builtin "member_descriptor.__get__")) := by
  unfold specialIn; rw [Y.mdT, Option.bind_some]; show fastLookup "member_descriptor" "__get__" = _; kernel_rfl
theorem kf_inst {h : Heap} {ox od : Obj} (hx : h.get? x = some ox) (hc : ox.cls = .ref C) (hn : notCls ox = true) (hd : ox.dict = some dx) (hdx : h.get? dx = some od) : InstAt h x ox C (some od) := ⟨hx, hc, hn, by rw [hd]; exact hdx⟩
theorem get_obj {expr : Bool} {Q : Value → Shared → Prop} (X : K.In s.heap) (Y : KF K C N MD fL fI) (hx : s.heap.get? x = some (kInst C dx v)) (hdx : s.heap.get? dx = some emptyDict) (hh : handedIn v = true) (h : Q v { s with toks := s.toks + 1 }) : wpAny (model prog w) A (getAttr (.ref x) "obj" expr) Q E s :=
  have I := kf_inst hx rfl rfl rfl hdx
  get_bind X I Y.ga (findObj_data (by rw [Y.cls]; rfl) Y.obj (kf_get Y) (kf_takes Y)) Y.gat (wpAny_call (slot_get (s := { s with toks := s.toks + 1 }) X I Y.slot rfl (handed_on hh h)))
theorem set_obj {Q : Unit → Shared → Prop} {pre post : List (Addr × Obj)} (F : Fr h₀ L s.heap m) (X : K.In s.heap) (Y : KF K C N MD fL fI) (N' : News h₀ L s.heap (pre ++ (x, instObj C dx) :: post)) (hdx : s.heap.get? dx = some emptyDict) (h1 : ∀ p ∈ pre, p.1 ≠ x) (h2 : ∀ p ∈ post, p.1 ≠ x)
    (h : ∀ h', Fr h₀ L h' m → News h₀ L h' (pre ++ (x, kInst C dx v) :: post) → Q () { s with heap := h', toks := s.toks + 1 }) : wpAny (model prog w) A (setAttr (.ref x) "obj" v) Q E s :=
  have I : InstAt s.heap x (instObj C dx) C (some emptyDict) := kf_inst (N' (x, instObj C dx) (List.mem_append_right _ (.head _))).1 rfl rfl rfl hdx
  set_plain X I Y.sa (osa_descr (s := { s with toks := s.toks + 1 }) KF.slot_mset X I (by unfold plainOver; rw [Y.cls]; rfl) (by unfold takerIn; rw [Y.obj, Option.bind_some]; dsimp only; rw [kf_takes Y]; rfl) Y.mdT
    (slot_set (s := { s with toks := s.toks + 1 }) F N' X I Y.slot (by decide) h1 h2 (by rfl) rfl fun h' F' N2 => h h' F' N2))
theorem code_news {h₀ h : Heap} {L c : Addr} {oc : Obj} {vs : Array Value} {qual : Str} {t : Tok} {news : List (Addr × Obj)} (N : News h₀ L h news) (hm : (c, oc) ∈ news) (hd : oc.data = .fields vs) (hv : vs[1]? = some (.str qual t)) : h.CodeRec (.ref c) qual := codeRec_news N hm hd hv
end
theorem ctor_spec : ∀ {w : World} {A A₀ : Around} {E : Value → Shared → Prop} {s : Shared} {L : Addr} {h₀ base : Heap} {m mg mb : Str → Option Value} {news led : List (Addr × Obj)} {p : Program} {loose : List Str} {mean : ExcName → Option Value} {env : Env} {outer : List Env} {mn : Value} {f C : Addr} {v : Value} {Q : Value → Shared → Prop}
   (_B : Below A₀ base outer h₀) (_F : Fr h₀ L s.heap m) (_X : (fragK.heap_1 w.params).In h₀) (_T : Top p loose mean mg mb h₀) (_hA : A.frames = some (env :: outer)) (_hf : env.frame = some L) (_hke : env.scope.kind = .function)
   (_N : News h₀ L s.heap news) (_hK : KCls w mn f C led) (_hled : ∀ q ∈ led, q ∈ news) (_hd : A.depth + 5 < recursionLimit)
   (_ret : ∀ (x dx : Addr) (h' : Heap) (tk' : Nat), Fr h₀ L h' m → News h₀ L h' ((x, kInst C dx v) :: (dx, emptyDict) :: news) → (∀ q ∈ news, @LT.lt Nat _ q.1 dx) → @LT.lt Nat _ dx x → Q (.ref x) { s with heap := h', toks := tk' }),
   wpAny (model PySem.Challenge.rw_kt0066_01.row.prog w) A (call (.ref C) [v]) Q E s := by
  k_fill
  intro w A A₀ E s L h₀ base m mg mb news led p loose mean env outer mn f C v Q B F X T hA hf hke N hK hled hd ret
  obtain ⟨NN, MD, fL, fI, cI, oI, dI, kI, vI, tI, cL, oL, dL, kL, vL, tL, cell, oC, Y, ⟨i1, i2, i3, i4⟩, -, -, -⟩ := kf_of hK
  have XK : Frag.In led s.heap := frag_news N hled
  obtain ⟨hh, g, d, tk, os⟩ := s
  dsimp only at XK F N ret ⊢
  have Ym := makes_of (M := model PySem.Challenge.rw_kt0066_01.row.prog w) XK Y.makes
  refine wpAny_call (make_core Ym (looks_findIn XK Y.init) (fun self => bind_fn XK self Y.fIT) (.inl (bne_iff_ne.mpr fun q => by cases q)) ?_)
  have F1 := (F.push emptyDict).push (instObj C hh.objs.size)
  have N0 := News.push F N emptyDict rfl
  have N1 := News.push (F.push emptyDict) N0 (instObj C hh.objs.size) rfl
  have hR : ctkIn = ctkIn := rfl
  conv at hR => rhs; whnf
  rw [hR] at i1
  dsimp only at i1
  have C1 := code_news N1 (.tail _ (.tail _ (hled _ i2))) i3 i4
  refine code_nest B F1 X N1 T hA hf hke (.tail _ (.tail _ (hled _ i1))) C1 (by show A.depth + 1 < _; lia) (binds := [(S "self", .ref (hh.objs.size + 1)), (S "obj", v)]) ?hb ?hl ?_ rfl rfl rfl ?hc
  case hb => exact BindsTo.of_eq rfl
  case hl =>
    intro y hy
    rcases List.mem_cons.mp hy with rfl | hy
    · kernel_rfl
    rcases List.mem_cons.mp hy with rfl | hy
    · kernel_rfl
    cases hy
  case hc => decide +kernel
  intro g' L' h' FG F' N' B' X' T'
  try dsimp only
  rw [Heap.size_push] at N'
  have XK' : Frag.In led h' := frag_news N' fun q hq => .tail _ (.tail _ (hled q hq))
  have hlt : ∀ q ∈ news, @LT.lt Nat _ q.1 hh.objs.size := fun q hq => Heap.lt_size (N q hq).1
  clear N0 N1 F1 Ym hR C1 i1 XK N F
  generalize hx : hh.objs.size + 1 = x at *
  generalize hdx : hh.objs.size = dx at *
  repeat' (first | (k_unfold; (try dsimp only)) | (k_end; wrow_close) | walk1)
  refine set_obj (pre := []) (post := (dx, emptyDict) :: news) F' XK' Y N' (N' (dx, emptyDict) (.tail _ (.head _))).1 (fun _ h => nomatch h) (fun q hq => ?_) fun h2 F2 N2 => ?_
  · rcases List.mem_cons.mp hq with rfl | hq
    · show @Ne Nat dx x; lia
    · have := hlt q hq; show @Ne Nat q.1 x; lia
  dsimp only
  refine wpAny_execs_nil ?_
  refine leaveK_ F2 N2 fun Fq Nq => ⟨rfl, ?_⟩
  exact ret _ _ _ _ Fq Nq hlt (by show @LT.lt Nat _ dx x; lia)
end Mine
end
section
open PySem PySem.W PyProof.Rows PySem.Calls
set_option Elab.async false
set_option maxRecDepth 100000
set_option maxHeartbeats 8000000
namespace Mine
set_option pp.deepTerms false
set_option pp.deepTerms.threshold 6
/-- the law's comparison, its places in the text left open -/
noncomputable abbrev lamA (q1 q2 : Pos) : Arguments := { posonlyargs := [], args := [{ arg := "one", annotation := none, pos := q1 }, { arg := "other", annotation := none, pos := q2 }], vararg := none, kwonlyargs := [], kw_defaults := [], kwarg := none, defaults := [] }
noncomputable abbrev lamB (p1 p2 p3 p4 p5 p6 p7 : Pos) : PySem.Expr := .BinOp (.Call (.Name "len" p1) [.Name "other" p2] [] p3) .Sub (.Call (.Name "len" p4) [.Name "one" p5] [] p6) p7
noncomputable abbrev lamS : Scope := { kind := .function, names := [(S "one", .local), (S "other", .local), (S "len", .globalImplicit)], isGenerator := false, isCoroutine := false, more := [] }
noncomputable abbrev lamX (q1 q2 p1 p2 p3 p4 p5 p6 p7 : Pos) (pm : Value) (c : Addr) (ct : Value) : Obj := kla_obj (S "<lambda>") (S "law.<locals>.<lambda>") (lamA q1 q2) (lamB p1 p2 p3 p4 p5 p6 p7) lamS [] pm c ct
theorem news_add {h₀ h : Heap} {L : Addr} {news : List (Addr × Obj)} {q : Addr × Obj} (N : News h₀ L h news) (hq : q ∈ news) : News h₀ L h (q :: news) := fun r hr => by
  rcases List.mem_cons.mp hr with rfl | hr
  · exact N r hq
  · exact N r hr
theorem lt_call : ∀ {w : World} {A A₀ : Around} {E : Value → Shared → Prop} {s : Shared} {L : Addr} {h₀ base : Heap} {m mg mb : Str → Option Value} {news led : List (Addr × Obj)} {p : Program} {loose : List Str} {mean : ExcName → Option Value} {env : Env} {outer : List Env} {mn : Value} {f C fL : Addr} {Q : Value → Shared → Prop}
   {x y dx dy c : Addr} {cx cy : Str} {tx ty tq : Tok} {oc : Obj} {cv : Array Value} {pm ct : Value} {q1 q2 p1 p2 p3 p4 p5 p6 p7 : Pos}
   (_B : Below A₀ base outer h₀) (_F : Fr h₀ L s.heap m) (_X : (fragK.heap_1 w.params).In h₀) (_T : Top p loose mean mg mb h₀) (_hA : A.frames = some (env :: outer)) (_hf : env.frame = some L) (_hke : env.scope.kind = .function)
   (_N : News h₀ L s.heap news) (_hK : KCls w mn f C led) (_hl : findIn led (.ref C) "__lt__" = some (some (.ref fL))) (_hled : ∀ q ∈ led, q ∈ news) (_hd : A.depth + 5 < recursionLimit) (_hu : A.units + 300 < cLine)
   (_hx : (x, kInst C dx (.str cx tx)) ∈ news) (_hdx : (dx, emptyDict) ∈ news) (_hy : (y, kInst C dy (.str cy ty)) ∈ news) (_hdy : (dy, emptyDict) ∈ news) (_hff : (f, lamX q1 q2 p1 p2 p3 p4 p5 p6 p7 pm c ct) ∈ news) (_hc : (c, oc) ∈ news) (_hoc : oc.data = .fields cv) (_hcv : cv[1]? = some (.str (S "law.<locals>.<lambda>") tq))
   (_lx : cx.length ≤ 100) (_ly : cy.length ≤ 100)
   (_ret : ∀ (h' : Heap) (tk' : Nat), Fr h₀ L h' m → News h₀ L h' news → Q (.bool (decide ((cy.length : Int) - (cx.length : Int) < 0))) { s with heap := h', toks := tk' }),
   wpAny (model PySem.Challenge.rw_kt0066_01.row.prog w) A (call (.ref fL) [.ref x, .ref y]) Q E s := by
  k_fill
  intro w A A₀ E s L h₀ base m mg mb news led p loose mean env outer mn f C fL₀ Q x y dx dy c cx cy tx ty tq oc cv pm ct q1 q2 p1 p2 p3 p4 p5 p6 p7 B F X T hA hf hke N hK hl hled hd hu hx hdx hy hdy hff hc hoc hcv lx ly ret
  obtain ⟨NN, MD, fL, fI, cI, oI, dI, kI, vI, tI, cL, oL, dL, kL, vL, tL, cell, oC, Y, -, ⟨i1, i2, i3, i4⟩, i5, i6⟩ := kf_of hK
  have e : fL₀ = fL := by have := hl.symm.trans Y.lt; injection this with this; injection this with this; injection this
  subst e
  have hR : ctkLt = ctkLt := rfl
  conv at hR => rhs; whnf
  rw [hR] at i1
  dsimp only at i1
  have C1 := code_news N (hled _ i2) i3 i4
  have N2 := news_add (news_add (news_add (news_add (news_add (news_add (news_add N hc) (.tail _ hdy)) (.tail _ (.tail _ hy))) (.tail _ (.tail _ (.tail _ hdx)))) (.tail _ (.tail _ (.tail _ (.tail _ hx))))) (.tail _ (.tail _ (.tail _ (.tail _ (.tail _ hff)))))) (.tail _ (.tail _ (.tail _ (.tail _ (.tail _ (.tail _ (hled _ i5)))))))
  refine wpAny_call ?_
  refine code_nest B F X N2 T hA hf hke (.tail _ (.tail _ (.tail _ (.tail _ (.tail _ (.tail _ (.tail _ (hled _ i1)))))))) C1 (by omega) (binds := [(S "self", .ref x), (S "other", .ref y)]) ?hb ?hl ?_ rfl rfl rfl ?hc
  case hb => exact BindsTo.of_eq rfl
  case hl =>
    intro z hz
    rcases List.mem_cons.mp hz with rfl | hz
    · kernel_rfl
    rcases List.mem_cons.mp hz with rfl | hz
    · kernel_rfl
    cases hz
  case hc => decide +kernel
  intro g' L' h' FG F' N' B' X' T'
  try dsimp only
  have XK' : Frag.In led h' := frag_news N' fun q hq => .tail _ (.tail _ (.tail _ (.tail _ (.tail _ (.tail _ (.tail _ (hled _ hq)))))))
  clear hR C1 i1 N2 N F
  (first | (k_unfold; (try dsimp only)) | (k_end; wrow_close) | walk1)
  (first | (k_unfold; (try dsimp only)) | (k_end; wrow_close) | walk1)
  (first | (k_unfold; (try dsimp only)) | (k_end; wrow_close) | walk1)
  (first | (k_unfold; (try dsimp only)) | (k_end; wrow_close) | walk1)
  (refine' nameX_F N' ?c ?m ?d ?_ ?a ?b; (case a => rfl); (case b => rfl); (case c => rfl); (case m => exact .head _); (case d => exact i6))
  refine callWith_F (FnAt.of N' (.tail _ (.head _))) ?_
  repeat' (first | (k_unfold; (try dsimp only)) | (k_end; wrow_close) | walk1)
  refine get_obj XK' Y (N' (x, kInst C dx (.str cx tx)) (.tail _ (.tail _ (.head _)))).1 (N' (dx, emptyDict) (.tail _ (.tail _ (.tail _ (.head _))))).1 rfl ?_
  dsimp only
  repeat' (first | (k_unfold; (try dsimp only)) | (k_end; wrow_close) | walk1)
  refine get_obj XK' Y (N' (y, kInst C dy (.str cy ty)) (.tail _ (.tail _ (.tail _ (.tail _ (.head _)))))).1 (N' (dy, emptyDict) (.tail _ (.tail _ (.tail _ (.tail _ (.tail _ (.head _))))))).1 rfl ?_
  dsimp only
  (first | (k_unfold; (try dsimp only)) | (k_end; wrow_close) | walk1)
  (first | (k_unfold; (try dsimp only)) | (k_end; wrow_close) | walk1)
  (first | (k_unfold; (try dsimp only)) | (k_end; wrow_close) | walk1)
  refine wpAny_call ?_
  (refine' kla_code (binds := [(S "one", .str cx tx), (S "other", .str cy ty)]) B' F' X' N' T' ?kA ?kF ?kK (.tail _ (.head _)) (codeRec_news N' (.tail _ (.tail _ (.tail _ (.tail _ (.tail _ (.tail _ (.head _))))))) hoc hcv) ?k8 ?k9 ?kB ?_ ?c2 ?c3 ?c4 ?c5; (case kA => (show A.frames.map _ = _; rw [hA]; rfl)); (case kF => exact rfl); (case kK => exact rfl); (case k8 => (show A.depth + 1 < _; omega)); (case k9 => exact rfl); (case c5 => decide); (case kB => exact locs rfl); (case c2 => exact rfl); (case c3 => exact rfl); (case c4 => exact rfl); k_whole; intro g2 L2 h2 FG2 F2 N2 B2 X2 T2; (try dsimp only))
  clear FG FG2 XK'
  (first | (k_unfold; (try dsimp only)) | (k_end; wrow_close) | walk1)
  (first | (k_unfold; (try dsimp only)) | (k_end; wrow_close) | walk1)
  (first | (k_unfold; (try dsimp only)) | (k_end; wrow_close) | walk1)
  (first | (k_unfold; (try dsimp only)) | (k_end; wrow_close) | walk1)
  (first | (k_unfold; (try dsimp only)) | (k_end; wrow_close) | walk1)
  (first | (k_unfold; (try dsimp only)) | (k_end; wrow_close) | walk1)
  (first | (k_unfold; (try dsimp only)) | (k_end; wrow_close) | walk1)
  (first | (k_unfold; (try dsimp only)) | (k_end; wrow_close) | walk1)
  (first | (k_unfold; (try dsimp only)) | (k_end; wrow_close) | walk1)
  (first | (k_unfold; (try dsimp only)) | (k_end; wrow_close) | walk1)
  (first | (k_unfold; (try dsimp only)) | (k_end; wrow_close) | walk1)
  (first | (k_unfold; (try dsimp only)) | (k_end; wrow_close) | walk1)
  (first | (k_unfold; (try dsimp only)) | (k_end; wrow_close) | walk1)
  (first | (k_unfold; (try dsimp only)) | (k_end; wrow_close) | walk1)
  (first | (k_unfold; (try dsimp only)) | (k_end; wrow_close) | walk1)
  (first | (k_unfold; (try dsimp only)) | (k_end; wrow_close) | walk1)
  (first | (k_unfold; (try dsimp only)) | (k_end; wrow_close) | walk1)
  (first | (k_unfold; (try dsimp only)) | (k_end; wrow_close) | walk1)
  (first | (k_unfold; (try dsimp only)) | (k_end; wrow_close) | walk1)
  (first | (k_unfold; (try dsimp only)) | (k_end; wrow_close) | walk1)
  rename Fr h₀ _ _ _ => FZ
  rename News h₀ _ _ _ => NZ
  exact ret _ _ FZ fun q hq => NZ q (by
    repeat (first | exact hq | apply List.Mem.tail))
end Mine
end
section
open PySem PySem.W PyProof.Rows PySem.Calls
set_option Elab.async false
set_option maxRecDepth 100000
set_option maxHeartbeats 4000000
namespace Mine
section
variable {prog : Program} {w : World} {A : Around} {E : Value → Shared → Prop} {s : Shared} {h₀ : Heap} {L a kS : Addr} {m : Str → Option Value} {news : List (Addr × Obj)} {v : Value}
/-- `<` of two instances of a class that bears `__lt__`, as the sort asks it; the class may be new -/
theorem lt_new {K : Frag} {x C f : Addr} {ox : Obj} {od : Option Obj} {b : Value} {Q : Bool → Shared → Prop} (hu : A.units < cLine) (X : K.In s.heap) (I : InstAt s.heap x ox C od) (hs : findIn K (.ref C) "__lt__" = some (some (.ref f))) (hf : isFn K (.ref f) = true)
    (h : wpAny (model prog w) A (call (.ref f) [.ref x, b]) (PySem.W.BoolBack Q) E s) : wpAny (model prog w) A (keyLt' oneType' (.ref x) b) Q E s := by
  rw [keyLt'_oneType, oneLt'_eq]
  simp only [if_true]
  refine wpAny_bind (wpAny_cRoomFor hu (wpAny_bind (ifBound_K X I hs hf (wpAny_mono h (fun u s' hv => ?_) fun _ _ e => e))))
  cases u <;> first | exact hv.elim | skip
  exact wpAny_truthy_bool hv
theorem updF_mid {d : Addr} {o : Obj} {post : List (Addr × Obj)} (h2 : ∀ p ∈ post, p.1 ≠ d) : ∀ (pre : List (Addr × Obj)), (∀ p ∈ pre, p.1 ≠ d) → ∃ g, UpdF d o (pre ++ (d, o) :: post) g ∧ ∀ o', g o' = pre ++ (d, o') :: post
  | [], _ => ⟨_, .head h2, fun _ => rfl⟩
  | q :: pre, h1 => by
    obtain ⟨g, u, e⟩ := updF_mid h2 pre fun p hp => h1 p (.tail _ hp)
    exact ⟨_, .tail (h1 q (.head _)) u, fun o' => by rw [e]; rfl⟩
/-- a list of one item, sorted by a key: the key is made, nothing is asked -/
theorem one_end {e1 e : Nat} {k : Value} {P : PySem.Fin → Shared → Prop} (h : KatFin h₀ L m kS a [k] e e1 [v] (fun s4 => P (.done (.ret .none)) s4) s) :
    wpAny (model prog w) A (ksk_end a false #[v] e1 (.ref kS) #[k]) P E s := by
  unfold ksk_end
  dsimp only
  rw [if_neg (by simp), if_pos (show #[v].size < 2 from Nat.lt_succ_self 1), if_pos (show #[v].size < 2 from Nat.lt_succ_self 1)]
  refine wpAny_bind (wpAny_pure (wpAny_bind (wpAny_pure ?_)))
  exact kat_tail (ks := [k]) (out := [v]) (b := false) (by show Array.map _ (#[k].zip #[v]) = #[v]; simp) (Nat.le_of_ble_eq_true rfl) (Nat.le_of_ble_eq_true rfl) rfl h
theorem one_rest {f : Value} {e1 : Nat} {P : PySem.Fin → Shared → Prop} (hk : s.heap.get? kS = some (seqObj "list" #[] 0))
    (h : KatKeys prog w A h₀ L m kS f (fun ks e s' => KatFin h₀ L m kS a ks e e1 [v] (fun s4 => P (.done (.ret .none)) s4) s') [v] [] 0 s) :
    wpAny (model prog w) A (ksk_rest a f false #[v] e1 (.ref kS)) P E s := by
  unfold ksk_rest
  refine wpAny_bind (wpAny_rule ?_)
  rw [← Array.forIn_toList]
  refine wpAny_bind (wpAny_mono (kat_fold (n := 1) (by decide) (fun x ks e s' C hz hx => ?_) [v] [] 0 s rfl hk h) (fun _ s' hd => ?_) fun _ _ x => x)
  · refine wpAny_bind (wpAny_attempt (wpAny_mono hx (fun k s'' hk => ?_) fun _ _ hF => hF.elim))
    obtain ⟨news', g, F', N', U, c⟩ := hk
    obtain ⟨pre, post, e0, hg, x1, x2⟩ := U.split
    rw [e0] at N'
    obtain ⟨n1, n2, n3⟩ := N' (kS, seqObj "list" (List.toArray ks) e) (List.mem_append_right _ (.head _))
    have up := Heap.SameBut.update s''.heap kS (Obj.mapSeq (·.push k))
    have push : (List.toArray ks).push k = List.toArray (ks ++ [k]) := by simp
    obtain ⟨c2, hc2⟩ : ∃ c2, (s''.heap.update kS (Obj.mapSeq (·.push k))).get? kS = some (seqObj "list" (List.toArray (ks ++ [k])) c2) := ⟨_, by rw [← push]; exact get?_update_seq n1 (·.push k)⟩
    dsimp only
    refine wpAny_bind (listUpdate_at n1 rfl (wpAny_pure ⟨rfl, k, c2, hc2, c _ c2 (kas_fr F' up n2 n3) (by rw [hg]; exact news_set N' x1 x2 up hc2)⟩) ?_ ?_)
    · rw [List.size_toArray, sizeLine_eq]; lia
    · rw [Array.size_push, List.size_toArray, sizeLine_eq]; lia
  · obtain ⟨ks, e, hk', hl, fin⟩ := hd
    obtain ⟨k, rfl⟩ : ∃ k, ks = [k] := List.length_eq_one_iff.mp hl
    exact wpAny_bind (listItems_at hk' rfl (one_end fin))
theorem one_keyed {f : Value} {n : Nat} {P : PySem.Fin → Shared → Prop} (F : Fr h₀ L s.heap m) (N : News h₀ L s.heap news) (ho : s.heap.get? a = some (seqObj "list" #[v] n)) (haL : a ≠ L) (ha0 : h₀.get? a = none) (hna : ∀ p ∈ news, p.1 ≠ a)
    (h : ∀ kS e1 h', Fr h₀ L h' m → News h₀ L h' ((kS, seqObj "list" #[] 0) :: (a, seqObj "list" #[] e1) :: news) → a < kS → (∀ q ∈ news, q.1 < kS) →
      KatKeys prog w A h₀ L m kS f (fun ks e s' => KatFin h₀ L m kS a ks e e1 [v] (fun s4 => P (.done (.ret .none)) s4) s') [v] [] 0 { s with heap := h' }) :
    wpAny (model prog w) A (ksk_tree a f false) P E s := by
  have up := Heap.SameBut.update s.heap a (Obj.mapSeq fun _ => (#[] : Array Value))
  obtain ⟨e1, ho1⟩ : ∃ e1, (s.heap.update a (Obj.mapSeq fun _ => (#[] : Array Value))).get? a = some (seqObj "list" #[] e1) := ⟨_, get?_update_seq ho fun _ => #[]⟩
  have N1 : News h₀ L (s.heap.update a (Obj.mapSeq fun _ => (#[] : Array Value))) ((a, seqObj "list" #[] e1) :: news) := fun p hp => by
    rcases List.mem_cons.mp hp with rfl | hp
    · exact ⟨ho1, haL, ha0⟩
    · exact kas_news N up hna p hp
  have F1 := kas_fr F up haL ha0
  have F2 := F1.push (seqObj "tuple" #[v] 0)
  have N2 := (N1.grown fun b x e => Heap.get?_push_of_some (seqObj "tuple" #[v] 0) e)
  have N3 := News.push F2 N2 (seqObj "list" #[] 0) rfl
  unfold ksk_tree
  refine wpAny_bind (listItems_at ho rfl ?_)
  refine wpAny_bind (listUpdate_at ho rfl ?_ (by rw [sizeLine_eq]; exact Nat.le_of_ble_eq_true rfl) (Nat.zero_le _))
  refine wpAny_bind (seqEpoch_at ho1 rfl (wpAny_bind (wpAny_newTuple (wpAny_bind (wpAny_newList (wpAny_holding ?_) (Nat.zero_le _))) ?_)))
  · refine one_rest (h₀ := h₀) (L := L) (m := m) (s := { s with heap := ((s.heap.update a (Obj.mapSeq fun _ => (#[] : Array Value))).push (seqObj "tuple" #[v] 0)).push (seqObj "list" #[] 0) }) (kS := ((s.heap.update a (Obj.mapSeq fun _ => (#[] : Array Value))).push (seqObj "tuple" #[v] 0)).objs.size) (Heap.get?_push_size _ rfl) ?_
    exact h _ e1 _ (F2.push _) N3 (Heap.lt_size (N2 _ (.head _)).1) fun q hq => Heap.lt_size (N2 q (.tail _ hq)).1
  · rw [sizeLine_eq]; exact Nat.le_of_ble_eq_true rfl
theorem one_sortedK {l : Addr} {f : Value} {kw : List (Str × Value)} {Q : Value → Shared → Prop} (F : Fr h₀ L s.heap m) (N : News h₀ L s.heap news) (hl : s.heap.IsList l #[v])
    (ha1 : argsOk "sorted" ⟨[.ref l], kw⟩) (ha2 : ∀ x, argsOk "list.sort" ⟨[.ref x], kw⟩) (ht : ∀ x, Builtin.«list.sort» ⟨[.ref x], kw⟩ = ksk_tree x f false)
    (h : ∀ D kS e1 h', Fr h₀ L h' m → News h₀ L h' ((kS, seqObj "list" #[] 0) :: (D, seqObj "list" #[] e1) :: news) → D < kS → (∀ q ∈ news, q.1 < D) →
      KatKeys prog w A.in1.in1 h₀ L m kS f (fun ks e s' => KatFin h₀ L m kS D ks e e1 [v] (fun s4 => Q (.ref D) s4) s') [v] [] 0 { s with heap := h' }) :
    wpAny (model prog w) A (call (.builtin "sorted") [.ref l] kw) Q E s := by
  refine call_function_entry_kw kind_sorted plain_sorted entry_sorted ha1 ?_
  unfold Builtin.«sorted»
  refine wpAny_bind (m := checkCount "sorted" 1 1 _) (wpAny_pure ?_)
  refine wpAny_bind (collect_list (vs := [v]) hl ?_ (by rw [sizeLine_eq]; exact Nat.le_of_ble_eq_true rfl))
  refine wpAny_bind (wpAny_newList ?_ (by rw [sizeLine_eq]; exact Nat.le_of_ble_eq_true rfl))
  generalize hq : (s.heap.push (seqObj "list" #[] 0)).update s.heap.objs.size (Obj.mapSeq (· ++ [v].toArray)) = hp
  have up : ∀ b o, s.heap.get? b = some o → hp.get? b = some o := fun b o e => by
    have hlt : b < s.heap.objs.size := Heap.lt_size e
    rw [← hq, Heap.get?_update_ne _ _ _ _ (Nat.ne_of_lt hlt)]
    exact Heap.get?_push_of_some _ e
  have hz : s.heap.objs.size < hp.objs.size := by rw [← hq, Heap.size_update, Heap.size_push]; exact Nat.lt_succ_self _
  have hL : L < hp.objs.size := Nat.lt_trans F.ns.lt hz
  have hoL : (hp.push (seqObj "list" [v].toArray 0)).get? hp.objs.size = some (seqObj "list" [v].toArray 0) := Heap.get?_push_size _ rfl
  have up2 : ∀ b o, s.heap.get? b = some o → (hp.push (seqObj "list" [v].toArray 0)).get? b = some o := fun b o e => Heap.get?_push_of_some _ (up b o e)
  show wpAny _ _ _ _ _ { s with heap := hp.push (seqObj "list" [v].toArray 0) }
  refine wpAny_bind (wpAny_holding (wpAny_call_entry_kw slot_list_sort ⟨_, hoL, rfl⟩ entry_list_sort ?body (ha2 _)))
  case body =>
    have ht' := ht hp.objs.size
    show wpAny (model prog w) A.in1.in1 (Builtin.«list.sort» ⟨[.ref hp.objs.size], kw⟩) _ _ _
    rw [ht']
    refine one_keyed (s := { s with heap := hp.push (seqObj "list" [v].toArray 0) }) (F.kept up2) (N.grown up2) hoL (Nat.ne_of_gt hL) (Heap.get?_none_of_le (Nat.le_trans F.above (Nat.le_of_lt hL))) (fun p hp => Nat.ne_of_lt (Nat.lt_trans (Heap.lt_size (N p hp).1) hz)) fun kS e1 h' F' N' l0 l1 => ?_
    exact kat_keys_mono (h _ kS e1 h' F' N' l0 fun q hq => Nat.lt_trans (Heap.lt_size (N q hq).1) hz) fun ks e s' _ hd => hd.mono fun s4 hq => ⟨_, rfl, wpAny_pure ⟨_, rfl, hq⟩⟩
end
end Mine
end
section
open PySem PySem.W PyProof.Rows
set_option Elab.async false
set_option maxRecDepth 1000000
set_option maxHeartbeats 0
namespace Mine
/-- the tree of questions, answered by an oracle; none where a question's place is not below n -/
noncomputable def katO {α : Type} (o : Nat → Nat → Bool) (n : Nat) : KasT α → Option α
  | .ret a => some a
  | .ask i j k => if Nat.blt i n && Nat.blt j n then katO o n (k (o i j)) else none
theorem katO_wp {α : Type} {cmp : Nat → Nat → (Bool → Shared → Prop) → Shared → Prop} {o : Nat → Nat → Bool} {n : Nat} {I : Shared → Prop} {Q : α → Shared → Prop}
    (hc : ∀ i j s C, i < n → j < n → I s → (∀ s', I s' → C (o i j) s') → cmp i j C s) : ∀ (t : KasT α) (a : α) (s : Shared), katO o n t = some a → I s → (∀ s', I s' → Q a s') → t.kasWp cmp Q s
  | .ret b, a, s, e, hi, hq => by
    have e : some b = some a := e
    cases e
    exact hq s hi
  | .ask i j k, a, s, e, hi, hq => by
    have e : (if Nat.blt i n && Nat.blt j n then katO o n (k (o i j)) else none) = some a := e
    split at e
    case isTrue h =>
      rw [Bool.and_eq_true] at h
      refine hc i j s _ (by have := h.1; simpa [Nat.blt_eq] using this) (by have := h.2; simpa [Nat.blt_eq] using this) hi fun s' hi' => ?_
      exact katO_wp hc (k (o i j)) a s' e hi' hq
    case isFalse => cases e
noncomputable def sortO (rows : List Nat) : Bool :=
  match katO (fun i j => Nat.blt (rows.getD j 0) (rows.getD i 0)) rows.length (kas_sort rows.length) with
  | some p => p.toList.all (fun i => Nat.blt i rows.length) && (p.toList.map fun i => rows.getD i 0) == sortD rows
  | none => false
noncomputable def sortOk (r : List Nat) : Bool := Nat.ble r.length 1 || sortO r
theorem so_0 : (comps 0).all sortOk = true := by decide +kernel
theorem so_1 : (comps 1).all sortOk = true := by decide +kernel
theorem so_2 : (comps 2).all sortOk = true := by decide +kernel
theorem so_3 : (comps 3).all sortOk = true := by decide +kernel
theorem so_4 : (comps 4).all sortOk = true := by decide +kernel
theorem so_5 : (comps 5).all sortOk = true := by decide +kernel
theorem so_6 : (comps 6).all sortOk = true := by decide +kernel
theorem so_7 : (comps 7).all sortOk = true := by decide +kernel
theorem so_8 : (comps 8).all sortOk = true := by decide +kernel
theorem so_9 : (comps 9).all sortOk = true := by decide +kernel
theorem so_all {d : Nat} (hd : d < 10) {r : List Nat} (h : r ∈ comps d) (h2 : 2 ≤ r.length) : ∃ p : Array Nat, katO (fun i j => Nat.blt (r.getD j 0) (r.getD i 0)) r.length (kas_sort r.length) = some p ∧ (∀ i ∈ p.toList, i < r.length) ∧ (p.toList.map fun i => r.getD i 0) = sortD r := by
  have ok : sortOk r = true := by
    have h10 : d = 0 ∨ d = 1 ∨ d = 2 ∨ d = 3 ∨ d = 4 ∨ d = 5 ∨ d = 6 ∨ d = 7 ∨ d = 8 ∨ d = 9 := ten hd
    rcases h10 with e | e | e | e | e | e | e | e | e | e <;> subst e
    · exact List.all_eq_true.mp so_0 r h
    · exact List.all_eq_true.mp so_1 r h
    · exact List.all_eq_true.mp so_2 r h
    · exact List.all_eq_true.mp so_3 r h
    · exact List.all_eq_true.mp so_4 r h
    · exact List.all_eq_true.mp so_5 r h
    · exact List.all_eq_true.mp so_6 r h
    · exact List.all_eq_true.mp so_7 r h
    · exact List.all_eq_true.mp so_8 r h
    · exact List.all_eq_true.mp so_9 r h
  unfold sortOk at ok
  rw [Bool.or_eq_true] at ok
  rcases ok with ok | ok
  · have := Nat.le_of_ble_eq_true ok; omega
  · unfold sortO at ok
    split at ok
    · rename_i p hp
      rw [Bool.and_eq_true, List.all_eq_true, beq_iff_eq] at ok
      exact ⟨p, hp, fun i hi => by have := ok.1 i hi; simpa [Nat.blt_eq] using this, ok.2⟩
    · cases ok
end Mine
end
section
open PySem PySem.W PyProof.Rows PySem.Calls
set_option Elab.async false
set_option maxRecDepth 100000
set_option maxHeartbeats 4000000
namespace Mine
set_option pp.deepTerms false
set_option pp.deepTerms.threshold 6
/-- the keys made so far: instances of K over the rows' texts, the last at the ledger's head -/
inductive KeysV (C kS : Addr) : List Value → List Nat → List (Addr × Obj) → Prop
  | nil : KeysV C kS [] [] []
  | snoc {ks ms l x dx t mm} : KeysV C kS ks ms l → @LT.lt Nat _ kS dx → @LT.lt Nat _ dx x → KeysV C kS (ks ++ [.ref x]) (ms ++ [mm]) ((x, kInst C dx (.str (dotsS mm) t)) :: (dx, emptyDict) :: l)
section
variable {C kS : Addr} {ks : List Value} {ms : List Nat} {l : List (Addr × Obj)}
theorem KeysV.length (h : KeysV C kS ks ms l) : ks.length = ms.length := by
  induction h with
  | nil => rfl
  | snoc _ _ _ ih => simp [ih]
theorem KeysV.above (h : KeysV C kS ks ms l) : ∀ q ∈ l, @Ne Nat q.1 kS := by
  induction h with
  | nil => exact fun _ h => nomatch h
  | snoc _ h1 h2 ih =>
    intro q hq
    (revert q; refine all_cons (Nat.ne_of_gt (Nat.lt_trans h1 h2)) ?_; intro q hq)
    · (revert q; refine all_cons (Nat.ne_of_gt h1) ?_; intro q hq)
      · exact ih q hq
theorem KeysV.at (h : KeysV C kS ks ms l) : ∀ i, i < ms.length → ∃ x dx t, ks.getD i Value.none = .ref x ∧ (x, kInst C dx (.str (dotsS (ms.getD i 0)) t)) ∈ l ∧ (dx, emptyDict) ∈ l := by
  induction h with
  | nil => exact fun _ h => nomatch h
  | @snoc ks ms l x dx t mm hk h1 h2 ih =>
    intro i hi
    have hl := hk.length
    by_cases e : i < ms.length
    · obtain ⟨x', dx', t', a, b, c⟩ := ih i e
      refine ⟨x', dx', t', ?_, ?_, .tail _ (.tail _ c)⟩
      · rw [← a, List.getD_eq_getElem?_getD, List.getD_eq_getElem?_getD, List.getElem?_append_left (by lia)]
      · have e2 : (ms ++ [mm]).getD i 0 = ms.getD i 0 := by rw [List.getD_eq_getElem?_getD, List.getD_eq_getElem?_getD, List.getElem?_append_left e]
        rw [e2]
        exact .tail _ (.tail _ b)
    · rw [List.length_append, List.length_singleton] at hi
      obtain rfl : i = ms.length := by lia
      refine ⟨x, dx, t, ?_, ?_, .tail _ (.head _)⟩
      · rw [List.getD_eq_getElem?_getD, List.getElem?_append_right (by lia), hl]; simp
      · have e2 : (ms ++ [mm]).getD ms.length 0 = mm := by rw [List.getD_eq_getElem?_getD, List.getElem?_append_right (by lia)]; simp
        rw [e2]
        exact .head _
theorem KeysV.all (h : KeysV C kS ks ms l) : ∀ v ∈ ks, ∃ x dx t mm, v = .ref x ∧ (x, kInst C dx (.str (dotsS mm) t)) ∈ l := by
  induction h with
  | nil => exact fun _ h => nomatch h
  | @snoc ks ms l x dx t mm hk h1 h2 ih =>
    intro v hv
    rcases List.mem_append.mp hv with hv | hv
    · obtain ⟨x', dx', t', mm', a, b⟩ := ih v hv
      exact ⟨x', dx', t', mm', a, .tail _ (.tail _ b)⟩
    · exact ⟨x, dx, t, mm, List.mem_singleton.mp hv, .head _⟩
theorem rowsV_at {vs : List Value} {ms : List Nat} (h : RowsV vs ms) : ∀ i, i < ms.length → ∃ t, vs.getD i Value.none = .str (dotsS (ms.getD i 0)) t := by
  induction h with
  | nil => intro i h; exact absurd h (Nat.not_lt_zero i)
  | @cons t _ _ _ _ ih =>
    intro i hi
    cases i with
    | zero => exact ⟨t, rfl⟩
    | succ i => exact ih i (Nat.lt_of_succ_lt_succ hi)
theorem rowsV_pick {vs : List Value} {ms : List Nat} (h : RowsV vs ms) : ∀ (is : List Nat), (∀ i ∈ is, i < ms.length) → RowsV (is.map fun i => vs.getD i Value.none) (is.map fun i => ms.getD i 0)
  | [], _ => .nil
  | i :: is, hi => by
    obtain ⟨t, e⟩ := rowsV_at h i (hi i (.head _))
    rw [List.map_cons, List.map_cons, e]
    exact .cons (rowsV_pick h is fun j hj => hi j (.tail _ hj))
end
section
variable {w : World} {A A₀ : Around} {L kS D : Addr} {h₀ base : Heap} {m mg mb : Str → Option Value} {rest led : List (Addr × Obj)} {p : Program} {loose : List Str} {mean : ExcName → Option Value} {env : Env} {outer : List Env} {mn : Value} {f C : Addr} {s₀ : Shared} {rows : List Nat}
theorem keys_ind {Fin : List Value → Nat → Shared → Prop} (B : Below A₀ base outer h₀) (X : (fragK.heap_1 w.params).In h₀) (T : Top p loose mean mg mb h₀) (hA : A.frames = some (env :: outer)) (hf : env.frame = some L) (hke : env.scope.kind = .function)
    (hK : KCls w mn f C led) (hled : ∀ q ∈ led, q ∈ rest) (hd : A.depth + 5 < recursionLimit) (hkS : ∀ q ∈ rest, @LT.lt Nat _ q.1 kS)
    (hfin : ∀ ks e l h' tk', KeysV C kS ks rows l → Fr h₀ L h' m → News h₀ L h' (l ++ (kS, seqObj "list" (List.toArray ks) e) :: rest) → Fin ks e { s₀ with heap := h', toks := tk' }) :
    ∀ (r : List Value) (rr : List Nat) (ks : List Value) (ms : List Nat) (l : List (Addr × Obj)) (e : Nat) (h' : Heap) (tk' : Nat), RowsV r rr → KeysV C kS ks ms l → ms ++ rr = rows → Fr h₀ L h' m → News h₀ L h' (l ++ (kS, seqObj "list" (List.toArray ks) e) :: rest) →
      KatKeys PySem.Challenge.rw_kt0066_01.row.prog w A h₀ L m kS (.ref C) Fin r ks e { s₀ with heap := h', toks := tk' }
  | [], rr, ks, ms, l, e, h', tk', hr, hk, hm, F, N => by
    cases hr
    rw [List.append_nil] at hm
    subst hm
    exact KatKeys.nil (hfin _ _ _ _ _ hk F N)
  | v :: r, rr, ks, ms, l, e, h', tk', hr, hk, hm, F, N => by
    cases hr with
    | @cons t _ mm rr hr =>
    refine KatKeys.cons (ctor_spec B F X T hA hf hke N hK (fun q hq => List.mem_append_right _ (.tail _ (hled q hq))) hd fun x dx h2 tk2 F2 N2 l1 l2 => ?_)
    have lk : @LT.lt Nat _ kS dx := l1 (kS, seqObj "list" (List.toArray ks) e) (List.mem_append_right _ (.head _))
    have hk2 : KeysV C kS (ks ++ [.ref x]) (ms ++ [mm]) ((x, kInst C dx (.str (dotsS mm) t)) :: (dx, emptyDict) :: l) := hk.snoc lk l2
    obtain ⟨g, U, hg⟩ := updF_mid (o := seqObj "list" (List.toArray ks) e) (fun q hq => Nat.ne_of_lt (hkS q hq)) _ hk2.above
    refine KatBack.intro F2 N2 U fun h3 c F3 N3 => ?_
    rw [hg] at N3
    exact keys_ind B X T hA hf hke hK hled hd hkS hfin r rr (ks ++ [.ref x]) (ms ++ [mm]) _ c h3 tk2 hr hk2 (by rw [List.append_assoc]; exact hm) F3 N3
/-- what both ends hand on: the store of keys emptied, the new list filled -/
theorem fin_both {ks out : List Value} {e e1 : Nat} {l news : List (Addr × Obj)} {h' : Heap} {tk' : Nat} {Q : Shared → Prop} (hk : KeysV C kS ks rows l) (hkS : ∀ q ∈ (D, seqObj "list" #[] e1) :: news, @LT.lt Nat _ q.1 kS) (hD : ∀ q ∈ news, @LT.lt Nat _ q.1 D)
    (F : Fr h₀ L h' m) (N : News h₀ L h' (l ++ (kS, seqObj "list" (List.toArray ks) e) :: (D, seqObj "list" #[] e1) :: news)) (hl : ∀ q ∈ l, @LT.lt Nat _ kS q.1)
    (h : ∀ h2 c, Fr h₀ L h2 m → News h₀ L h2 ((D, PySem.W.listOf (List.toArray out) c) :: news) → Q { s₀ with heap := h2, toks := tk' }) : KatFin h₀ L m kS D ks e e1 out Q { s₀ with heap := h', toks := tk' } := by
  obtain ⟨g, U, hg⟩ := updF_mid (o := seqObj "list" (List.toArray ks) e) (fun q hq => Nat.ne_of_lt (hkS q hq)) _ hk.above
  refine KatFin.intro F N U fun h2 c F2 N2 => ?_
  rw [hg] at N2
  have hDk : @LT.lt Nat _ D kS := hkS (D, seqObj "list" #[] e1) (.head _)
  obtain ⟨g2, U2, hg2⟩ := updF_mid (o := seqObj "list" #[] e1) (post := news) (d := D) (fun q hq => Nat.ne_of_lt (hD q hq)) (l ++ [(kS, seqObj "list" #[] c)]) (fun q hq => by
    rcases List.mem_append.mp hq with hq | hq
    · exact Nat.ne_of_gt (Nat.lt_trans hDk (hl q hq))
    · rw [List.mem_singleton.mp hq]; exact Nat.ne_of_gt hDk)
  refine KasFin.intro F2 (by rw [List.append_assoc]; exact N2) U2 fun h3 c3 F3 N3 => ?_
  rw [hg2] at N3
  exact h h3 c3 F3 fun q hq => N3 q (List.mem_append_right _ hq)
theorem KeysV.over {ks : List Value} {ms : List Nat} {l : List (Addr × Obj)} (h : KeysV C kS ks ms l) : ∀ q ∈ l, @LT.lt Nat _ kS q.1 := by
  induction h with
  | nil => exact fun _ h => nomatch h
  | snoc _ h1 h2 ih =>
    intro q hq
    (revert q; refine all_cons (Nat.lt_trans h1 h2) ?_; intro q hq)
    · (revert q; refine all_cons (h1) ?_; intro q hq)
      · exact ih q hq
end
theorem sort_spec : ∀ {w : World} {dp un : Nat} {gd : Option (List Code)} {cn : Str} {cs : Scope} {a : Addr} {ccd : Value} {cl : List (Str × Addr)} {outer : List Env} {A₀ : Around} {base h₀ : Heap} {L : Addr} {m : Str → Option Value} {s : Shared} {Q E : Value → Shared → Prop} {p : Program} {loose : List Str} {mean : ExcName → Option Value} {mg mb : Str → Option Value}
   (_B : Below A₀ base outer h₀) (_F : Fr h₀ L s.heap m) (_X : (fragK.heap_1 w.params).In h₀) (_T : Top p loose mean mg mb h₀) (_hk : cs.kind = .function)
   {D f c C : Addr} {oc : Obj} {cv : Array Value} {tq : Tok} {mn pm ct : Value} {q1 q2 p1 p2 p3 p4 p5 p6 p7 : Pos} {vs : List Value} {ep : Nat} {rows : List Nat} {n : Nat} {news led : List (Addr × Obj)} (_N : News h₀ L s.heap ((D, PySem.W.listOf vs.toArray ep) :: (f, lamX q1 q2 p1 p2 p3 p4 p5 p6 p7 pm c ct) :: (c, oc) :: news))
   (_hoc : oc.data = .fields cv) (_hcv : cv[1]? = some (.str (S "law.<locals>.<lambda>") tq)) (_hK : KCls w mn f C led) (_hled : ∀ q ∈ led, q ∈ news) (_hv : RowsV vs rows) (_hG : Good rows) (_hn : n < 10) (_hl2 : rows ∈ comps n)
   (_hd : dp + 40 < recursionLimit) (_hu : un + 600 < cLine)
   (_ret : ∀ (D' : Addr) (vs' : List Value) (ep' : Nat) (h' : Heap) (tk' : Nat), RowsV vs' (sortD rows) → Fr h₀ L h' m → News h₀ L h' ((D', PySem.W.listOf vs'.toArray ep') :: (D, PySem.W.listOf vs.toArray ep) :: (f, lamX q1 q2 p1 p2 p3 p4 p5 p6 p7 pm c ct) :: (c, oc) :: news) → (∀ q ∈ (D, PySem.W.listOf vs.toArray ep) :: (f, lamX q1 q2 p1 p2 p3 p4 p5 p6 p7 pm c ct) :: (c, oc) :: news, @LT.lt Nat _ q.1 D') → Q (.ref D') { s with heap := h', toks := tk' }),
   wpAny (model PySem.Challenge.rw_kt0066_01.row.prog w) (ktrTop dp un gd cn cs L a ccd cl outer) (call (.builtin "sorted") [.ref D] [(S "key", .ref C)]) Q E s := by
  intro w dp un gd cn cs a ccd cl outer A₀ base h₀ L m s Q E p loose mean mg mb B F X T hk D f c C oc cv tq mn pm ct q1 q2 p1 p2 p3 p4 p5 p6 p7 vs ep rows n news led N hoc hcv hK hled hv hG hn hl2 hd hu ret
  have hlist : s.heap.IsList D vs.toArray := ⟨_, (N _ (.head _)).1, rfl, ep, rfl⟩
  have hvl := hv.length
  have hle : ∀ x ∈ rows, x ≤ 10 := fun x hx => Nat.le_trans (le_sum hx) hG.sum
  have hlen : rows.length ≤ 10 := Nat.le_trans (len_sum hG.pos) hG.sum
  generalize hnw : (D, PySem.W.listOf vs.toArray ep) :: (f, lamX q1 q2 p1 p2 p3 p4 p5 p6 p7 pm c ct) :: (c, oc) :: news = nw at N ret
  have hled2 : ∀ q ∈ led, q ∈ nw := fun q hq => by rw [← hnw]; exact .tail _ (.tail _ (.tail _ (hled q hq)))
  have hfm : (f, lamX q1 q2 p1 p2 p3 p4 p5 p6 p7 pm c ct) ∈ nw := by rw [← hnw]; exact .tail _ (.head _)
  have hcm : (c, oc) ∈ nw := by rw [← hnw]; exact .tail _ (.tail _ (.head _))
  by_cases h1 : rows.length < 2
  · obtain ⟨v, mm, rfl, rfl⟩ : ∃ v mm, vs = [v] ∧ rows = [mm] := by
      have h0 := hG.ne
      cases hv with
      | nil => exact absurd rfl h0
      | @cons t vs' mm ms h =>
        cases h with
        | nil => exact ⟨_, _, rfl, rfl⟩
        | cons h => exact absurd h1 (by simp only [List.length_cons]; lia)
    refine one_sortedK (v := v) F N hlist (ksk_s1 _ _) (fun _ => ksk_l1 _ _) (fun _ => ksk_t1 _ _) fun D' kS e1 h' F' N' l0 l1 => ?_
    have lkS : ∀ q ∈ (D', seqObj "list" #[] e1) :: nw, @LT.lt Nat _ q.1 kS := fun q hq => by
      (revert q; refine all_cons (l0) ?_; intro q hq)
      · exact Nat.lt_trans (l1 q hq) l0
    refine keys_ind (env := envX cn cs L a ccd cl) (rows := [mm]) (s₀ := s) B X T rfl rfl hk hK (fun q hq => .tail _ (hled2 q hq)) (by ktr_room) lkS (fun ks e l h2 tk2 hks F2 N2 => ?_) [v] [mm] [] [] [] 0 h' s.toks hv .nil rfl F' N'
    exact fin_both hks lkS l1 F2 N2 hks.over fun h3 c3 F3 N3 => ret _ _ _ _ _ hv F3 N3 l1
  · have h2 : 2 ≤ vs.length := by lia
    refine kat_sortedK (b := false) F N hlist h2 (by lia) (ksk_s1 _ _) (fun _ => ksk_l1 _ _) (fun _ => ksk_t1 _ _) fun D' kS e1 h' F' N' l0 l1 => ?_
    have lkS : ∀ q ∈ (D', seqObj "list" #[] e1) :: nw, @LT.lt Nat _ q.1 kS := fun q hq => by
      (revert q; refine all_cons (l0) ?_; intro q hq)
      · exact Nat.lt_trans (l1 q hq) l0
    refine keys_ind (env := envX cn cs L a ccd cl) (rows := rows) (s₀ := s) B X T rfl rfl hk hK (fun q hq => .tail _ (hled2 q hq)) (by ktr_room) lkS (fun ks e l h2 tk2 hks F2 N2 => ?_) vs rows [] [] [] 0 h' s.toks hv .nil rfl F' N'
    refine kas_kind (T := .ref C) (by rw [hks.length]; lia) (fun v hv => ?_) rfl (by simp) ?_
    · obtain ⟨x, dx, t, mm, rfl, hm⟩ := hks.all v hv
      exact (Looks.ld (N2 _ (List.mem_append_left _ hm)).1).andThen .now
    obtain ⟨pp, hp1, hp2, hp3⟩ := so_all hn hl2 (by lia)
    rw [hvl]
    obtain ⟨NN, MD, fL, fI, cI, oI, dI, kI, vI, tI, cL, oL, dL, kL, vL, tL, cell, oC, Y, -⟩ := kf_of hK
    have inAll : ∀ {q}, q ∈ nw → q ∈ l ++ (kS, seqObj "list" (List.toArray ks) e) :: (D', seqObj "list" #[] e1) :: nw := fun h => List.mem_append_right _ (.tail _ (.tail _ h))
    refine katO_wp (I := fun s' => ∃ h' tk', s' = { s with heap := h', toks := tk' } ∧ Fr h₀ L h' m ∧ News h₀ L h' (l ++ (kS, seqObj "list" (List.toArray ks) e) :: (D', seqObj "list" #[] e1) :: nw)) (fun i j s' CC hi hj hI hC => ?_) _ pp _ hp1 ⟨_, _, rfl, F2, N2⟩ fun s' hI => ?_
    · obtain ⟨h3, tk3, rfl, F3, N3⟩ := hI
      obtain ⟨x, dx, tx, ex, mx, mdx⟩ := hks.at i hi
      obtain ⟨y, dy, ty, ey, my, mdy⟩ := hks.at j hj
      have XK : Frag.In led h3 := frag_news N3 fun q hq => inAll (hled2 q hq)
      show wpAny _ _ (keyLt' oneType' (ks.getD i Value.none) (ks.getD j Value.none)) CC _ _
      rw [ex, ey]
      have bi : rows.getD i 0 ≤ 10 := by
        rw [List.getD_eq_getElem?_getD, List.getElem?_eq_getElem hi]; exact hle _ (List.getElem_mem hi)
      have bj : rows.getD j 0 ≤ 10 := by
        rw [List.getD_eq_getElem?_getD, List.getElem?_eq_getElem hj]; exact hle _ (List.getElem_mem hj)
      refine lt_new (by ktr_units) XK (kf_inst (N3 _ (List.mem_append_left _ mx)).1 rfl rfl rfl (N3 _ (List.mem_append_left _ mdx)).1) Y.lt (by unfold isFn; rw [Y.fLT]; rfl) ?_
      refine lt_call (env := envX cn cs L a ccd cl) B F3 X T rfl rfl hk N3 hK Y.lt (fun q hq => inAll (hled2 q hq)) (by ktr_room) (by ktr_units) (List.mem_append_left _ mx) (List.mem_append_left _ mdx) (List.mem_append_left _ my) (List.mem_append_left _ mdy) (inAll hfm) (inAll hcm) hoc hcv (by rw [dots_len]; lia) (by rw [dots_len]; lia) fun h4 tk4 F4 N4 => ?_
      have e : decide (((dotsS (rows.getD j 0)).length : Int) - ((dotsS (rows.getD i 0)).length : Int) < 0) = Nat.blt (rows.getD j 0) (rows.getD i 0) := by
        rw [dots_len, dots_len, Bool.eq_iff_iff, decide_eq_true_iff, Nat.blt_eq]
        lia
      rw [e]
      exact hC _ ⟨_, _, rfl, F4, N4⟩
    · obtain ⟨h3, tk3, rfl, F3, N3⟩ := hI
      refine fin_both hks lkS l1 F3 N3 hks.over fun h4 c4 F4 N4 => ret _ _ _ _ _ ?_ F4 N4 l1
      rw [← hp3]
      exact rowsV_pick hv _ hp2
end Mine
end
section
open PySem PySem.W PyProof.Rows PySem.Calls
set_option Elab.async false
set_option maxRecDepth 100000
set_option maxHeartbeats 8000000
namespace Mine
noncomputable def lawD : Arguments × List Stmt × Scope := (PySem.Challenge.rw_kt0066_01.row.prog.theDef (S "law")).getD default
set_option pp.deepTerms false
set_option pp.deepTerms.threshold 6
noncomputable abbrev envL (L fa : Addr) : Env := envOfC (S "law") lawD.2.2 L fa (.ref (nat_lit 819))
noncomputable abbrev mLT (l9 TD R1 H1 : Addr) (turns sz : Nat) (fig num : Int) (tt tz tf tn : Tok) : Str → Option Value := fun y =>
  if y = S "played" then some (.ref TD) else if y = S "rows" then some (.ref R1) else if y = S "turns" then some (.int turns tt) else if y = S "size" then some (.int sz tz) else if y = S "heaps" then some (.ref H1) else if y = S "figures" then some (.int fig tf) else if y = S "number" then some (.int num tn) else if y = S "script" then some (.ref l9) else none
theorem ToldV.take {l : List (Addr × Obj)} {vs : List Value} {mss : List (List Nat)} (hT : ToldV l vs mss) : ∀ k, ToldV l (vs.take k) (mss.take k) := by
  induction hT with
  | nil => intro k; rw [List.take_nil, List.take_nil]; exact .nil
  | cons h _ ih =>
    intro k
    cases k with
    | zero => exact .nil
    | succ k => exact .cons h (ih k)
noncomputable def pdR (ms : List Nat) : PyData := .tuple [.list (ms.map fun m => .str (dotsS m)), .bool true]
theorem strOk_dots (m : Nat) : PyData.strOk (dotsS m) = true := by
  unfold PyData.strOk
  rw [← Array.all_toList, List.all_eq_true]
  intro x hx
  rw [List.eq_of_mem_replicate hx]
  rfl
theorem lay_rows : ∀ ms : List Nat, PyData.canLayAll0 (ms.map fun m => PyData.str (dotsS m)) = true ∧ PyData.depthAll (ms.map fun m => PyData.str (dotsS m)) = 0 ∧ PyData.eqvAll (ms.map fun m => PyData.str (dotsS m)) (ms.map fun m => PyData.str (dotsS m)) = true
  | [] => ⟨by simp [PyData.canLayAll0], by simp [PyData.depthAll], by simp [PyData.eqvAll]⟩
  | m :: ms => by
    obtain ⟨h1, h2, h3⟩ := lay_rows ms
    refine ⟨?_, ?_, ?_⟩
    · rw [List.map_cons, PyData.canLayAll0, PyData.canLay0, strOk_dots, h1]; rfl
    · rw [List.map_cons, PyData.depthAll, PyData.depth, h2]; rfl
    · rw [List.map_cons, PyData.eqvAll, PyData.eqv, h3]; simp
theorem lay_told : ∀ mss : List (List Nat), PyData.canLayAll0 (mss.map pdR) = true ∧ PyData.depthAll (mss.map pdR) ≤ 2 ∧ PyData.eqvAll (mss.map pdR) (mss.map pdR) = true
  | [] => ⟨by simp [PyData.canLayAll0], by simp [PyData.depthAll], by simp [PyData.eqvAll]⟩
  | m :: ms => by
    obtain ⟨h1, h2, h3⟩ := lay_told ms
    obtain ⟨g1, g2, g3⟩ := lay_rows m
    refine ⟨?_, ?_, ?_⟩
    · rw [List.map_cons, PyData.canLayAll0, h1, pdR, PyData.canLay0, PyData.canLayAll0, PyData.canLay0, g1, PyData.canLayAll0, PyData.canLay0, PyData.canLayAll0]; rfl
    · rw [List.map_cons, PyData.depthAll, pdR, PyData.depth, PyData.depthAll, PyData.depth, g2, PyData.depthAll, PyData.depth, PyData.depthAll]
      exact Nat.max_le.mpr ⟨by decide, h2⟩
    · rw [List.map_cons, PyData.eqvAll, h3, pdR, PyData.eqv, PyData.eqvAll, PyData.eqv, g3, PyData.eqvAll, PyData.eqv, PyData.eqvAll]; rfl
theorem reads_rows {h : Heap} {vs : List Value} {ms : List Nat} (hr : RowsV vs ms) : ∃ as, ReadsAll h vs (ms.map fun m => PyData.str (dotsS m)) as := by
  induction hr with
  | nil => exact ⟨_, .nil⟩
  | cons _ ih =>
    obtain ⟨_, q⟩ := ih
    exact ⟨_, .cons (Reads.str _ _) q⟩
theorem reads_told {g h : Heap} {L : Addr} {l : List (Addr × Obj)} (N : News g L h l) {vs : List Value} {mss : List (List Nat)} (hT : ToldV l vs mss) : ∃ as, ReadsAll h vs (mss.map pdR) as := by
  induction hT with
  | nil => exact ⟨_, .nil⟩
  | cons ht _ ih =>
    obtain ⟨T, D, rv, ep, e, h1, h2, h3⟩ := ht
    obtain ⟨_, q⟩ := ih
    obtain ⟨_, p⟩ := reads_rows (h := h) h3
    have p1 : Reads h (.ref D) (.list _) _ := reads_list_at (N _ h2).1 rfl rfl (by simpa using p)
    have p2 : Reads h (.ref T) (pdR _) _ := reads_tuple_at (vs := #[Value.ref D, Value.bool true]) (N _ h1).1 rfl rfl (.cons p1 (.cons (Reads.bool true) .nil))
    subst e
    exact ⟨_, ReadsAll.cons p2 q⟩
section
variable {prog : Program} {w : World} {A : Around} {E : Value → Shared → Prop} {s : Shared} {h₀ : Heap} {L a b : Addr} {l1 l2 news : List (Addr × Obj)} {Q : Value → Shared → Prop} {xs ys : List Value} {ka kb : Nat} {mss : List (List Nat)}
theorem ne_told (N : News h₀ L s.heap news) (ma : (a, PySem.W.listOf xs.toArray ka) ∈ news) (ha : ToldV l1 xs mss) (sa : ∀ p ∈ l1, p ∈ news) (mb : (b, PySem.W.listOf ys.toArray kb) ∈ news) (hb : ToldV l2 ys mss) (sb : ∀ p ∈ l2, p ∈ news)
    (hu : A.units + 64 < cLine) (h : Q (.bool false) s) : wpAny (model prog w) A (compareOp .NotEq (.ref a) (.ref b)) Q E s := by
  obtain ⟨_, ra⟩ := reads_told N (ha.mono sa)
  obtain ⟨_, rb⟩ := reads_told N (hb.mono sb)
  obtain ⟨h1, h2, h3⟩ := lay_told mss
  have hs : SeqAt.shaped (.list (mss.map pdR)) = true := by
    unfold SeqAt.shaped
    rw [PyData.canLay0, h1, PyData.depth]
    simp
    lia
  refine ne_dataH (reads_list_at (N _ ma).1 rfl rfl (by simpa using ra)) (reads_list_at (N _ mb).1 rfl rfl (by simpa using rb)) hs hs hu ?_
  rw [PyData.eqv, h3]
  exact h
end
theorem iters_eq : ∀ (n : Nat) (r : List Nat), iters r n = (List.range n).map (iterR r)
  | 0, _ => rfl
  | n + 1, r => by
    rw [iters, iters_eq n, List.range_succ_eq_map, List.map_cons, List.map_map]
    congr 1
    apply List.map_congr_left
    intro i _
    have h : ∀ k, iterR (nextR r) k = iterR r (k + 1) := by
      intro k
      induction k with
      | zero => rfl
      | succ k ih => rw [iterR, ih]; rfl
    exact h i
theorem pick2 {l : List Value} {n : Nat} (h : l.length = n + 2) : slicePick l.toArray none (some (-2)) none = (l.take n).toArray := by
  have h2 := slicePick_butLast l.toArray 2 (by decide)
  rw [List.size_toArray, h] at h2
  simpa using h2
theorem law_parts {d sz turns : Nat} {r : List Nat} (h : lawOk (d + 1) r = true) (hsz : sizeL (d + 1) = sz) (ht : turns = sz * (sz - 1)) :
    (List.range turns).map (iterR (sortD r)) = toldL (reachedL r) turns ∧ sortI (moreL (iterR (sortD r) turns) sz) = List.replicate (sz - (d + 1 - turns / 2)) 0 ++ List.replicate (d + 1 - turns / 2) 1 ∧
      moreL (iterR (sortD r) (turns + 1)) sz = (moreL (iterR (sortD r) turns) sz).drop 1 ++ (moreL (iterR (sortD r) turns) sz).take 1 := by
  unfold lawOk at h
  simp only [hsz, ← ht, iters_eq, Bool.and_eq_true, beq_iff_eq] at h
  obtain ⟨⟨h1, h2⟩, h3⟩ := h
  have e1 : ∀ k, k < turns + 2 → ((List.range (turns + 2)).map (iterR (sortD r))).getD k [] = iterR (sortD r) k := by
    intro k hk
    rw [List.getD_eq_getElem?_getD, List.getElem?_map, List.getElem?_range hk]
    rfl
  rw [e1 _ (by lia)] at h2 h3
  rw [e1 _ (by lia)] at h3
  refine ⟨?_, h2, h3⟩
  rw [← h1, ← List.map_take, List.take_range, Nat.min_eq_left (by lia)]
section
variable {prog : Program} {w : World} {A : Around} {E : Value → Shared → Prop} {s : Shared} {h₀ : Heap} {L D : Addr} {m : Str → Option Value} {news : List (Addr × Obj)} {us : List Value} {v v2 : Value} {n : Nat} {Q : Value → Shared → Prop}
theorem last2_sub {value slice : PySem.Expr} {u : Tok} (N : News h₀ L s.heap news) (hm : (D, PySem.W.listOf (us ++ [v] ++ [v2]).toArray n) ∈ news) (hl : us.length < 1000) (h : Q v s)
    (hs : subscripted slice false (.ref D) (.int (-2) u) = operate [.ref D, .int (-2) u] (getItem (.ref D) (.int (-2) u)) := by with_unfolding_all rfl) :
    wpAny (model prog w) A (subscriptTail value slice (.ref D) (.int (-2) u)) Q E s := by
  have hl' : s.heap.IsList D (us ++ [v] ++ [v2]).toArray := PySem.IsL.isList (n := n) (N _ hm).1
  refine kde_neg (j := us.length) (v := v) hl' (by decide) (by decide) ?_ ?_ h hs
  · unfold seqIndex?
    simp
    lia
  · simp
end
local macro_rules | `(tactic| walk_at "subscriptTail Name Slice ref ref") => `(tactic| refine WStop.out ?_)
local macro_rules | `(tactic| walk_at "CompSrc") => `(tactic| refine WStop.out ?_)
theorem insI_perm (x : Int) : ∀ l : List Int, (insI x l).Perm (x :: l)
  | [] => .refl _
  | y :: r => by
    unfold insI
    split
    · exact .refl _
    · exact ((insI_perm x r).cons y).trans (List.Perm.swap x y r)
theorem insI_sorted (x : Int) : ∀ l : List Int, l.Pairwise (· ≤ ·) → (insI x l).Pairwise (· ≤ ·)
  | [], _ => by simp [insI]
  | y :: r, h => by
    obtain ⟨h1, h2⟩ := List.pairwise_cons.mp h
    unfold insI
    split
    · rename_i hxy
      exact List.Pairwise.cons (fun z hz => by
        rcases List.mem_cons.mp hz with rfl | hz
        · exact hxy
        · exact Int.le_trans hxy (h1 z hz)) h
    · rename_i hxy
      exact List.Pairwise.cons (fun z hz => by
        rcases List.mem_cons.mp ((insI_perm x r).mem_iff.mp hz) with rfl | hz
        · lia
        · exact h1 z hz) (insI_sorted x r h2)
theorem sortI_perm : ∀ l : List Int, (sortI l).Perm l
  | [] => .refl _
  | x :: r => (insI_perm x _).trans ((sortI_perm r).cons x)
theorem sortI_sorted : ∀ l : List Int, (sortI l).Pairwise (· ≤ ·)
  | [] => .nil
  | x :: r => insI_sorted x _ (sortI_sorted r)
theorem ints_rep (i : Int) (t : Tok) : ∀ k, IntsAre (List.replicate k (Value.int i t)) (List.replicate k i)
  | 0 => .nil
  | k + 1 => .cons i t (ints_rep i t k)
local macro_rules | `(tactic| walk_at "compareOp Eq ref ref") => `(tactic| refine WStop.out ?_)
local macro_rules | `(tactic| walk_at "call builtin:sorted") => `(tactic| refine WStop.out ?_)
theorem ones_ok : ∀ d : Nat, d < 10 → ((d : Int) + 1 - ((sizeL (d + 1) : Int) * ((sizeL (d + 1) : Int) - 1)).fdiv 2) = ((d + 1 - sizeL (d + 1) * (sizeL (d + 1) - 1) / 2 : Nat) : Int) ∧ d + 1 - sizeL (d + 1) * (sizeL (d + 1) - 1) / 2 ≤ sizeL (d + 1) := by decide +kernel
theorem law_tail : ∀ {w : World} {g₀ g : Heap} {L fa l9 TD R1 H1 : Addr} {turns sz d : Nat} {fig num : Int} {tt tz tf tn tdd : Tok} {tvs hv1 : List Value} {hrows : List Nat} {etd ep1 : Nat} {oD : Obj} {tl : List (Addr × Obj)} {s : Shared} {Q : Flow → Shared → Prop} {E : Value → Shared → Prop} {pV : Program} {lV : List Str} {mV : ExcName → Option Value} {mg mb : Str → Option Value}
   (_B : Below callerA g₀ [] g) (_F : Fr g L s.heap (mLT l9 TD R1 H1 turns sz fig num tt tz tf tn)) (_X : (fragK.heap_1 w.params).In g) (_T : Top pV lV mV mg mb g) (_BF : BFacts w g₀ pV lV mV mg mb) (_KD : KtsDicts (([] : List Env).filterMap (·.frame)) g)
   (_N : News g L s.heap ((TD, PySem.W.listOf tvs.toArray etd) :: tl)) (_hTV : ToldV tl tvs ((List.range (turns + 1 + 1)).map (iterR (sortD hrows)))) (_hH : (H1, PySem.W.listOf hv1.toArray ep1) ∈ tl) (_hvR : RowsV hv1 hrows) (_hG1 : Good hrows) (_hG2 : Good (sortD hrows))
   (_hoD : (L + 1, oD) ∈ tl) (_hdd : oD.data = .cell (some (.int ((d : Int) + 1) tdd))) (_hd10 : d < 10) (_hsz : sizeL (d + 1) = sz) (_hsz4 : 1 ≤ sz ∧ sz ≤ 4) (_ht : turns = sz * (sz - 1)) (_hlaw : lawOk (d + 1) hrows = true)
   (_ret : ∀ (h' : Heap) (tk' : Nat), (∀ b o, g.get? b = some o → h'.get? b = some o) → (∀ q ∈ tl, h'.get? q.1 = some q.2) → Q (.ret (.bool true)) { s with heap := h', toks := tk' }),
   wpAny (model PySem.Challenge.rw_kt0066_01.row.prog w) (callerA.deeper (envL L fa)) (execs (lawD.2.1.drop 8) (envL L fa)) Q E s := by
  k_fill
  intro w g₀ g L fa l9 TD R1 H1 turns sz d fig num tt tz tf tn tdd tvs hv1 hrows etd ep1 oD tl s Q E pV lV mV mg mb B F X T BF KD N hTV hH hvR hG1 hG2 hoD hdd hd10 hsz hsz4 ht hlaw ret
  have ht12 : turns ≤ 12 := by
    rw [ht]
    have h4 := hsz4.2
    have h1 := hsz4.1
    have : sz = 1 ∨ sz = 2 ∨ sz = 3 ∨ sz = 4 := four_n sz (Nat.lt_succ_of_le (by first | exact h4 | exact h1)) (by first | exact h1 | exact h4)
    rcases this with rfl | rfl | rfl | rfl <;> decide
  obtain ⟨hp1, hp2, hp3⟩ := law_parts hlaw hsz ht
  have hTV0 := hTV
  rw [List.range_succ, List.map_append] at hTV
  obtain ⟨us1, vA, rfl, hU1, TA, DA, avs, ea, rfl, mTA, mDA, hvA⟩ := hTV.split
  rw [List.range_succ, List.map_append] at hU1
  obtain ⟨us, vB, rfl, hU, TB, DB, bvs, eb, rfl, mTB, mDB, hvB⟩ := hU1.split
  have hul : us.length < 1000 := by rw [hU.len]; simp; lia
  have hul1 : (us ++ [Value.ref TB]).length < 1000 := by rw [List.length_append, hU.len]; simp; lia
  have hR : lawD = lawD := rfl
  conv at hR => rhs; whnf
  rw [hR]
  dsimp only [envL]
  rw [hR]
  dsimp only [List.drop]
  clear hR
  k_unmd
  repeat' (first | (k_unfold; (try dsimp only)) | (k_end; wrow_close) | (k_here; (with_reducible show wpAny _ _ (binaryOp _ (Value.ref _) (Value.ref _)) _ _ _); refine WStop.out ?_) | (k_here; (with_reducible show wpAny _ _ (binaryOp Operator.Mult (Value.ref _) (Value.int _ _)) _ _ _); k_dflt (refine KMa.mul (by k_asm) (by k_asm) (by is_list) (by lia) (by lia) (by (simp only [List.length_cons, List.length_nil]; lia)) (by exact one_flat _ _) ?_; k_whole); intro _ _ _ _ l1ww; (try k_lt l1ww); (try k_sweep); (revert l1ww; intro _)) | (k_here; (with_reducible show wpAny _ _ (call _ [Value.str (dotsS _) _]) _ _ _); refine len_dots (by lia) ?_) | (k_here; (with_reducible show wpAny _ _ (call (Value.ref _) _) _ _ _); refine WStop.out ?_) | (k_here; (with_reducible show wpAny _ _ (subscriptTail _ _ (Value.ref _) (Value.int (-2) _)) _ _ _); k_dflt (refine last2_sub (by k_asm) (by k_mem) (by assumption) ?_; k_whole)) | (k_here; (with_reducible show wpAny _ _ (subscriptTail _ _ (Value.ref _) (Value.int (-1) _)) _ _ _); k_dflt (refine last_sub (by k_asm) (by k_mem) (by assumption) ?_; k_whole)) | ((with_reducible show wpAny _ _ (eval (Expr.ListComp _ _ _) _) _ _ _); (k_here; k_dflt (refine LCg.ListComp_U (F₀ := by k_asm) (by with_unfolding_all rfl) (by decide) (by rfl) (by decide) (by rfl) ?_))) | walk1)
  unfold WStop
  (rename Fr _ _ _ _ => F11)
  (rename News _ _ _ _ => N11)
  have htl : (us ++ [Value.ref TB] ++ [Value.ref TA]).length = turns + 2 := by rw [hTV0.len]; simp
  have hsp : slicePick (us ++ [Value.ref TB] ++ [Value.ref TA]).toArray none (some (-2)) none = us.toArray := by
    have h3 : us.length = turns := by rw [hU.len]; simp
    have h4 : (us ++ [Value.ref TB] ++ [Value.ref TA]).take turns = us := by rw [List.append_assoc, ← h3]; simp
    rw [pick2 htl, h4]
  with_unfolding_all refine' kmk_slice (its := (us ++ [Value.ref TB] ++ [Value.ref TA]).toArray) (lo := none) (hi := some (-2)) F11 N11 ?hl .none (.int _ _) ?_ ?hs ?ht ?hz
  case hl => exact PySem.IsL.isList (n := etd) (N11 _ (.head _)).1
  case hs => with_unfolding_all rfl
  case ht => intro _; rfl
  case hz => rw [List.size_toArray, htl, sizeLine_eq]; lia
  intro SD h16 F12 N12 l12
  rw [hsp] at N12
  clear F11 N11
  repeat' (first | (k_unfold; (try dsimp only)) | (k_end; wrow_close) | (k_here; (with_reducible show wpAny _ _ (binaryOp _ (Value.ref _) (Value.ref _)) _ _ _); refine WStop.out ?_) | (k_here; (with_reducible show wpAny _ _ (binaryOp Operator.Mult (Value.ref _) (Value.int _ _)) _ _ _); k_dflt (refine KMa.mul (by k_asm) (by k_asm) (by is_list) (by lia) (by lia) (by (simp only [List.length_cons, List.length_nil]; lia)) (by exact one_flat _ _) ?_; k_whole); intro _ _ _ _ l1ww; (try k_lt l1ww); (try k_sweep); (revert l1ww; intro _)) | (k_here; (with_reducible show wpAny _ _ (call _ [Value.str (dotsS _) _]) _ _ _); refine len_dots (by lia) ?_) | (k_here; (with_reducible show wpAny _ _ (call (Value.ref _) _) _ _ _); refine WStop.out ?_) | (k_here; (with_reducible show wpAny _ _ (subscriptTail _ _ (Value.ref _) (Value.int (-2) _)) _ _ _); k_dflt (refine last2_sub (by k_asm) (by k_mem) (by assumption) ?_; k_whole)) | (k_here; (with_reducible show wpAny _ _ (subscriptTail _ _ (Value.ref _) (Value.int (-1) _)) _ _ _); k_dflt (refine last_sub (by k_asm) (by k_mem) (by assumption) ?_; k_whole)) | ((with_reducible show wpAny _ _ (eval (Expr.ListComp _ _ _) _) _ _ _); (k_here; k_dflt (refine LCg.ListComp_U (F₀ := by k_asm) (by with_unfolding_all rfl) (by decide) (by rfl) (by decide) (by rfl) ?_))) | walk1)
  unfold WStop
  have hHl : hv1.length = hrows.length := hvR.length
  have hrl : hrows.length ≤ 10 := Nat.le_trans (len_sum hG1.pos) hG1.sum
  refine LCg.CompSrc.ledger (ax := H1) (its := hv1.toArray) (k := ep1) (by rfl) F12 N12 (.tail _ (.tail _ hH)) (by rw [sizeLine_eq]; simp; lia) ?_
  intro gz
  refine rest_ind (fun i ys => IntsAre ys ((hrows.take i).map Int.ofNat)) (.inr ⟨_, .tail _ (.tail _ hH), rfl, _, rfl⟩) .nil ?rs ?rf _ 0 [] (Nat.add_zero _) .nil
  case rs =>
    intro i ys v I oI C oC D9 m₂ h9 tk9 E9 hi9 hM hP hC hx F9 N9 off
    replace hi9 : i < hrows.length := by simpa [hHl] using hi9
    obtain ⟨tv, hv⟩ := hvR.get i hi9
    have e : v = .str (dotsS (hrows.getD i 0)) tv := by
      have h1 : hv1[i]? = some v := by simpa using hP
      exact Option.some.inj (h1.symm.trans hv)
    subst e
    obtain ⟨x, hx9⟩ : ∃ x, hrows.getD i 0 = x := ⟨_, rfl⟩
    have hxm : x ≤ 10 := by rw [← hx9]; exact getD_le (fun y hy => Nat.le_trans (le_sum hy) hG1.sum) i
    rw [hx9] at hx
    repeat' (first | (k_unfold; (try dsimp only)) | (k_end; wrow_close) | (k_here; (with_reducible show wpAny _ _ (binaryOp _ (Value.ref _) (Value.ref _)) _ _ _); refine WStop.out ?_) | (k_here; (with_reducible show wpAny _ _ (binaryOp Operator.Mult (Value.ref _) (Value.int _ _)) _ _ _); k_dflt (refine KMa.mul (by k_asm) (by k_asm) (by is_list) (by lia) (by lia) (by (simp only [List.length_cons, List.length_nil]; lia)) (by exact one_flat _ _) ?_; k_whole); intro _ _ _ _ l1ww; (try k_lt l1ww); (try k_sweep); (revert l1ww; intro _)) | (k_here; (with_reducible show wpAny _ _ (call _ [Value.str (dotsS _) _]) _ _ _); refine len_dots (by lia) ?_) | (k_here; (with_reducible show wpAny _ _ (call (Value.ref _) _) _ _ _); refine WStop.out ?_) | (k_here; (with_reducible show wpAny _ _ (subscriptTail _ _ (Value.ref _) (Value.int (-2) _)) _ _ _); k_dflt (refine last2_sub (by k_asm) (by k_mem) (by assumption) ?_; k_whole)) | (k_here; (with_reducible show wpAny _ _ (subscriptTail _ _ (Value.ref _) (Value.int (-1) _)) _ _ _); k_dflt (refine last_sub (by k_asm) (by k_mem) (by assumption) ?_; k_whole)) | ((with_reducible show wpAny _ _ (eval (Expr.ListComp _ _ _) _) _ _ _); (k_here; k_dflt (refine LCg.ListComp_U (F₀ := by k_asm) (by with_unfolding_all rfl) (by decide) (by rfl) (by decide) (by rfl) ?_))) | walk1)
    refine ⟨_, _, rfl, F9, N9, ?_⟩
    have e3 : hrows.take (i + 1) = hrows.take i ++ [x] := by
      rw [List.take_succ_eq_append_getElem hi9, ← hx9, List.getD_eq_getElem?_getD, List.getElem?_eq_getElem hi9]
      rfl
    rw [e3, List.map_append]
    exact hM.append (.cons _ _ .nil)
  case rf =>
    intro ys hM
    replace hM : IntsAre ys (hrows.map Int.ofNat) := by
      have e4 : Nat.add 0 hv1.toArray.size = hrows.length := by show 0 + hv1.toArray.size = _; simp [hHl]
      rw [e4, List.take_length] at hM
      exact hM
    intro LD h9 tk9 F9 N9 off9
    clear F12 N12
    repeat' (first | (k_unfold; (try dsimp only)) | (k_end; wrow_close) | (k_here; (with_reducible show wpAny _ _ (binaryOp _ (Value.ref _) (Value.ref _)) _ _ _); refine WStop.out ?_) | (k_here; (with_reducible show wpAny _ _ (binaryOp Operator.Mult (Value.ref _) (Value.int _ _)) _ _ _); k_dflt (refine KMa.mul (by k_asm) (by k_asm) (by is_list) (by lia) (by lia) (by (simp only [List.length_cons, List.length_nil]; lia)) (by exact one_flat _ _) ?_; k_whole); intro _ _ _ _ l1ww; (try k_lt l1ww); (try k_sweep); (revert l1ww; intro _)) | (k_here; (with_reducible show wpAny _ _ (call _ [Value.str (dotsS _) _]) _ _ _); refine len_dots (by lia) ?_) | (k_here; (with_reducible show wpAny _ _ (call (Value.ref _) _) _ _ _); refine WStop.out ?_) | (k_here; (with_reducible show wpAny _ _ (subscriptTail _ _ (Value.ref _) (Value.int (-2) _)) _ _ _); k_dflt (refine last2_sub (by k_asm) (by k_mem) (by assumption) ?_; k_whole)) | (k_here; (with_reducible show wpAny _ _ (subscriptTail _ _ (Value.ref _) (Value.int (-1) _)) _ _ _); k_dflt (refine last_sub (by k_asm) (by k_mem) (by assumption) ?_; k_whole)) | ((with_reducible show wpAny _ _ (eval (Expr.ListComp _ _ _) _) _ _ _); (k_here; k_dflt (refine LCg.ListComp_U (F₀ := by k_asm) (by with_unfolding_all rfl) (by decide) (by rfl) (by decide) (by rfl) ?_))) | walk1)
    unfold WStop
    (rename Fr _ _ _ _ => F13)
    (rename News _ _ _ _ => N13)
    k_dflt (refine' told_spec (rows := hrows) (n := turns) (vs := ys) ?jB ?jF ?jX ?jT ?jK ?jN hM hG1 ?jn BF KD ?jd ?ju ?_; (case jN => exact N13); (case jF => exact F13); (case jB => exact B); (case jX => exact X); (case jT => exact T); (case jK => exact rfl); (case jn => lia); (case jd => ktr_room); (case ju => ktr_units))
    intro TD2 tvs2 et2 tl2 h17 tk17 hTV2 F14 N14 sub14
    clear N13 F13
    have subT : ∀ q ∈ tl, q ∈ (TD2, PySem.W.listOf tvs2.toArray et2) :: tl2 := fun q hq => .tail _ (sub14 q (.tail _ (.tail _ (.tail _ hq))))
    rw [hp1] at hU
    repeat' (first | (k_unfold; (try dsimp only)) | (k_end; wrow_close) | (k_here; (with_reducible show wpAny _ _ (binaryOp _ (Value.ref _) (Value.ref _)) _ _ _); refine WStop.out ?_) | (k_here; (with_reducible show wpAny _ _ (binaryOp Operator.Mult (Value.ref _) (Value.int _ _)) _ _ _); k_dflt (refine KMa.mul (by k_asm) (by k_asm) (by is_list) (by lia) (by lia) (by (simp only [List.length_cons, List.length_nil]; lia)) (by exact one_flat _ _) ?_; k_whole); intro _ _ _ _ l1ww; (try k_lt l1ww); (try k_sweep); (revert l1ww; intro _)) | (k_here; (with_reducible show wpAny _ _ (call _ [Value.str (dotsS _) _]) _ _ _); refine len_dots (by lia) ?_) | (k_here; (with_reducible show wpAny _ _ (call (Value.ref _) _) _ _ _); refine WStop.out ?_) | (k_here; (with_reducible show wpAny _ _ (subscriptTail _ _ (Value.ref _) (Value.int (-2) _)) _ _ _); k_dflt (refine last2_sub (by k_asm) (by k_mem) (by assumption) ?_; k_whole)) | (k_here; (with_reducible show wpAny _ _ (subscriptTail _ _ (Value.ref _) (Value.int (-1) _)) _ _ _); k_dflt (refine last_sub (by k_asm) (by k_mem) (by assumption) ?_; k_whole)) | ((with_reducible show wpAny _ _ (eval (Expr.ListComp _ _ _) _) _ _ _); (k_here; k_dflt (refine LCg.ListComp_U (F₀ := by k_asm) (by with_unfolding_all rfl) (by decide) (by rfl) (by decide) (by rfl) ?_))) | walk1)
    refine ne_told (mss := toldL (reachedL hrows) turns) N14 (.tail _ (sub14 (SD, PySem.W.listOf us.toArray 0) (.tail _ (.head _)))) hU subT (.head _) hTV2 (fun q hq => .tail _ hq) (by ktr_units) ?_
    have N15 := news_up (news_up (news_up (news_up (news_up (news_up N14 (subT _ mDB)) (.tail _ (subT _ mTB))) (.tail _ (.tail _ (subT _ mDA)))) (.tail _ (.tail _ (.tail _ (subT _ mTA))))) (p := (L + 1, oD)) (.tail _ (.tail _ (.tail _ (.tail _ (subT _ hoD)))))) (p := (TD, PySem.W.listOf (us ++ [Value.ref TB] ++ [Value.ref TA]).toArray etd)) (.tail _ (.tail _ (.tail _ (.tail _ (.tail _ (.tail _ (sub14 _ (.tail _ (.tail _ (.head _))))))))))
    clear N14
    repeat' (first | (k_unfold; (try dsimp only)) | (k_end; wrow_close) | (k_here; (with_reducible show wpAny _ _ (binaryOp _ (Value.ref _) (Value.ref _)) _ _ _); refine WStop.out ?_) | (k_here; (with_reducible show wpAny _ _ (binaryOp Operator.Mult (Value.ref _) (Value.int _ _)) _ _ _); k_dflt (refine KMa.mul (by k_asm) (by k_asm) (by is_list) (by lia) (by lia) (by (simp only [List.length_cons, List.length_nil]; lia)) (by exact one_flat _ _) ?_; k_whole); intro _ _ _ _ l1ww; (try k_lt l1ww); (try k_sweep); (revert l1ww; intro _)) | (k_here; (with_reducible show wpAny _ _ (call _ [Value.str (dotsS _) _]) _ _ _); refine len_dots (by lia) ?_) | (k_here; (with_reducible show wpAny _ _ (call (Value.ref _) _) _ _ _); refine WStop.out ?_) | (k_here; (with_reducible show wpAny _ _ (subscriptTail _ _ (Value.ref _) (Value.int (-2) _)) _ _ _); k_dflt (refine last2_sub (by k_asm) (by k_mem) (by assumption) ?_; k_whole)) | (k_here; (with_reducible show wpAny _ _ (subscriptTail _ _ (Value.ref _) (Value.int (-1) _)) _ _ _); k_dflt (refine last_sub (by k_asm) (by k_mem) (by assumption) ?_; k_whole)) | ((with_reducible show wpAny _ _ (eval (Expr.ListComp _ _ _) _) _ _ _); (k_here; k_dflt (refine LCg.ListComp_U (F₀ := by k_asm) (by with_unfolding_all rfl) (by decide) (by rfl) (by decide) (by rfl) ?_))) | walk1)
    unfold WStop
    (rename Fr _ _ _ _ => F16)
    have N16 := news_up N15 (p := (DB, PySem.W.listOf bvs.toArray eb)) (by k_mem)
    have gB := good_iter hG2 turns
    have gA := good_iter hG2 (turns + 1)
    have bd : ∀ r, Good r → r.length ≤ 20 ∧ ∀ x ∈ r, x ≤ 20 := fun r hr => ⟨Nat.le_trans (len_sum hr.pos) (Nat.le_trans hr.sum (by decide)), fun x hx => Nat.le_trans (le_sum hx) (Nat.le_trans hr.sum (by decide))⟩
    k_dflt (refine' more_spec (rows := iterR (sortD hrows) turns) (n := sz) ?jB ?jF ?jX ?jT ?jK N16 hvB (bd _ gB).1 (bd _ gB).2 ?jn BF KD ?jd ?ju ?_; (case jF => exact F16); (case jB => exact B); (case jX => exact X); (case jT => exact T); (case jK => exact rfl); (case jn => lia); (case jd => ktr_room); (case ju => ktr_units))
    intro AH ahv eah h18 tk18 hAH F17 N17
    clear N16 N15 F16
    repeat' (first | (k_unfold; (try dsimp only)) | (k_end; wrow_close) | (k_here; (with_reducible show wpAny _ _ (binaryOp _ (Value.ref _) (Value.ref _)) _ _ _); refine WStop.out ?_) | (k_here; (with_reducible show wpAny _ _ (binaryOp Operator.Mult (Value.ref _) (Value.int _ _)) _ _ _); k_dflt (refine KMa.mul (by k_asm) (by k_asm) (by is_list) (by lia) (by lia) (by (simp only [List.length_cons, List.length_nil]; lia)) (by exact one_flat _ _) ?_; k_whole); intro _ _ _ _ l1ww; (try k_lt l1ww); (try k_sweep); (revert l1ww; intro _)) | (k_here; (with_reducible show wpAny _ _ (call _ [Value.str (dotsS _) _]) _ _ _); refine len_dots (by lia) ?_) | (k_here; (with_reducible show wpAny _ _ (call (Value.ref _) _) _ _ _); refine WStop.out ?_) | (k_here; (with_reducible show wpAny _ _ (subscriptTail _ _ (Value.ref _) (Value.int (-2) _)) _ _ _); k_dflt (refine last2_sub (by k_asm) (by k_mem) (by assumption) ?_; k_whole)) | (k_here; (with_reducible show wpAny _ _ (subscriptTail _ _ (Value.ref _) (Value.int (-1) _)) _ _ _); k_dflt (refine last_sub (by k_asm) (by k_mem) (by assumption) ?_; k_whole)) | ((with_reducible show wpAny _ _ (eval (Expr.ListComp _ _ _) _) _ _ _); (k_here; k_dflt (refine LCg.ListComp_U (F₀ := by k_asm) (by with_unfolding_all rfl) (by decide) (by rfl) (by decide) (by rfl) ?_))) | walk1)
    unfold WStop
    (rename Fr _ _ _ _ => F18)
    (rename News _ _ _ _ => N18)
    have N19 := news_up N18 (p := (DA, PySem.W.listOf avs.toArray ea)) (by k_mem)
    k_dflt (refine' more_spec (rows := iterR (sortD hrows) (turns + 1)) (n := sz) ?jB ?jF ?jX ?jT ?jK N19 hvA (bd _ gA).1 (bd _ gA).2 ?jn BF KD ?jd ?ju ?_; (case jF => exact F18); (case jB => exact B); (case jX => exact X); (case jT => exact T); (case jK => exact rfl); (case jn => lia); (case jd => ktr_room); (case ju => ktr_units))
    intro BH bhv ebh h19 tk19 hBH F19 N20
    clear N18 N19 F18
    rw [hp3] at hBH
    repeat' (first | (k_unfold; (try dsimp only)) | (k_end; wrow_close) | (k_here; (with_reducible show wpAny _ _ (binaryOp _ (Value.ref _) (Value.ref _)) _ _ _); refine WStop.out ?_) | (k_here; (with_reducible show wpAny _ _ (binaryOp Operator.Mult (Value.ref _) (Value.int _ _)) _ _ _); k_dflt (refine KMa.mul (by k_asm) (by k_asm) (by is_list) (by lia) (by lia) (by (simp only [List.length_cons, List.length_nil]; lia)) (by exact one_flat _ _) ?_; k_whole); intro _ _ _ _ l1ww; (try k_lt l1ww); (try k_sweep); (revert l1ww; intro _)) | (k_here; (with_reducible show wpAny _ _ (call _ [Value.str (dotsS _) _]) _ _ _); refine len_dots (by lia) ?_) | (k_here; (with_reducible show wpAny _ _ (call (Value.ref _) _) _ _ _); refine WStop.out ?_) | (k_here; (with_reducible show wpAny _ _ (subscriptTail _ _ (Value.ref _) (Value.int (-2) _)) _ _ _); k_dflt (refine last2_sub (by k_asm) (by k_mem) (by assumption) ?_; k_whole)) | (k_here; (with_reducible show wpAny _ _ (subscriptTail _ _ (Value.ref _) (Value.int (-1) _)) _ _ _); k_dflt (refine last_sub (by k_asm) (by k_mem) (by assumption) ?_; k_whole)) | ((with_reducible show wpAny _ _ (eval (Expr.ListComp _ _ _) _) _ _ _); (k_here; k_dflt (refine LCg.ListComp_U (F₀ := by k_asm) (by with_unfolding_all rfl) (by decide) (by rfl) (by decide) (by rfl) ?_))) | walk1)
    unfold WStop
    (rename Fr _ _ _ _ => F20)
    (rename News _ _ _ _ => N21)
    have hrl2 : (moreL (iterR (sortD hrows) turns) sz).length ≤ 40 := by
      have := (bd _ gB).1
      simp only [moreL, List.length_map, List.length_zipIdx, List.length_append, List.length_replicate]
      lia
    have hones : ((d : Int) + 1 - ((sz : Int) * ((sz : Int) - 1)).fdiv 2) = ((d + 1 - turns / 2 : Nat) : Int) ∧ d + 1 - turns / 2 ≤ sz := by
      rw [ht, ← hsz]
      exact ones_ok d hd10
    obtain ⟨ho1, ho2⟩ := hones
    rw [ho1] at F20
    generalize d + 1 - turns / 2 = ones at F20 hp2 ho2
    refine kso_sorted (vs := ahv) F20 N21 (PySem.IsL.isList (n := eah) (N21 (AH, PySem.W.listOf ahv.toArray eah) (by k_mem)).1) hAH (by lia) ?_
    intro SD2 sv2 sn2 es2 h20 F21 N22 l21 hS2 _ hPm hPw _
    have hsn2 : sn2 = List.replicate (sz - ones) 0 ++ List.replicate ones 1 := by
      rw [← hp2]
      exact lks_uniq (hPm.trans (sortI_perm _).symm) hPw (sortI_sorted _)
    rw [hsn2] at hS2
    clear hPm hPw hsn2 N21 F20
    repeat' (first | (k_unfold; (try dsimp only)) | (k_end; wrow_close) | (k_here; (with_reducible show wpAny _ _ (binaryOp _ (Value.ref _) (Value.ref _)) _ _ _); refine WStop.out ?_) | (k_here; (with_reducible show wpAny _ _ (binaryOp Operator.Mult (Value.ref _) (Value.int _ _)) _ _ _); k_dflt (refine KMa.mul (by k_asm) (by k_asm) (by is_list) (by lia) (by lia) (by (simp only [List.length_cons, List.length_nil]; lia)) (by exact one_flat _ _) ?_; k_whole); intro _ _ _ _ l1ww; (try k_lt l1ww); (try k_sweep); (revert l1ww; intro _)) | (k_here; (with_reducible show wpAny _ _ (call _ [Value.str (dotsS _) _]) _ _ _); refine len_dots (by lia) ?_) | (k_here; (with_reducible show wpAny _ _ (call (Value.ref _) _) _ _ _); refine WStop.out ?_) | (k_here; (with_reducible show wpAny _ _ (subscriptTail _ _ (Value.ref _) (Value.int (-2) _)) _ _ _); k_dflt (refine last2_sub (by k_asm) (by k_mem) (by assumption) ?_; k_whole)) | (k_here; (with_reducible show wpAny _ _ (subscriptTail _ _ (Value.ref _) (Value.int (-1) _)) _ _ _); k_dflt (refine last_sub (by k_asm) (by k_mem) (by assumption) ?_; k_whole)) | ((with_reducible show wpAny _ _ (eval (Expr.ListComp _ _ _) _) _ _ _); (k_here; k_dflt (refine LCg.ListComp_U (F₀ := by k_asm) (by with_unfolding_all rfl) (by decide) (by rfl) (by decide) (by rfl) ?_))) | walk1)
    unfold WStop
    (rename Fr _ _ _ _ => F22)
    (rename News _ _ _ _ => N23)
    rename_i LZ1 z1 z2 D1 z3 z4 LZ2 z5 z6 D2 z7 z8
    clear z2 z4 z6 z8
    have ek1 : ((sz : Int) - (ones : Int)).toNat = sz - ones := tn_sub _ _
    have ek2 : ((ones : Int)).toNat = ones := tn_nat _
    rw [ek1, ek2] at N23
    refine kmk_add_lit F22 N23 (PySem.IsL.isList (n := 0) (N23 (D1, _) (by k_mem)).1) (PySem.IsL.isList (n := 0) (N23 (D2, _) (by k_mem)).1) rfl ?_ (by rw [sizeLine_eq]; simp; lia)
    intro D3 h21 F23 N24 l24
    clear F22 N23
    repeat' (first | (k_unfold; (try dsimp only)) | (k_end; wrow_close) | (k_here; (with_reducible show wpAny _ _ (binaryOp _ (Value.ref _) (Value.ref _)) _ _ _); refine WStop.out ?_) | (k_here; (with_reducible show wpAny _ _ (binaryOp Operator.Mult (Value.ref _) (Value.int _ _)) _ _ _); k_dflt (refine KMa.mul (by k_asm) (by k_asm) (by is_list) (by lia) (by lia) (by (simp only [List.length_cons, List.length_nil]; lia)) (by exact one_flat _ _) ?_; k_whole); intro _ _ _ _ l1ww; (try k_lt l1ww); (try k_sweep); (revert l1ww; intro _)) | (k_here; (with_reducible show wpAny _ _ (call _ [Value.str (dotsS _) _]) _ _ _); refine len_dots (by lia) ?_) | (k_here; (with_reducible show wpAny _ _ (call (Value.ref _) _) _ _ _); refine WStop.out ?_) | (k_here; (with_reducible show wpAny _ _ (subscriptTail _ _ (Value.ref _) (Value.int (-2) _)) _ _ _); k_dflt (refine last2_sub (by k_asm) (by k_mem) (by assumption) ?_; k_whole)) | (k_here; (with_reducible show wpAny _ _ (subscriptTail _ _ (Value.ref _) (Value.int (-1) _)) _ _ _); k_dflt (refine last_sub (by k_asm) (by k_mem) (by assumption) ?_; k_whole)) | ((with_reducible show wpAny _ _ (eval (Expr.ListComp _ _ _) _) _ _ _); (k_here; k_dflt (refine LCg.ListComp_U (F₀ := by k_asm) (by with_unfolding_all rfl) (by decide) (by rfl) (by decide) (by rfl) ?_))) | walk1)
    unfold WStop
    refine ke_eq_ints (PySem.IsL.isList (n := es2) (N24 (SD2, _) (by k_mem)).1) (PySem.IsL.isList (n := 0) (N24 (D3, _) (by k_mem)).1) hS2 (((ints_rep 0 _ (sz - ones)).append (ints_rep 1 _ ones) : IntsAre (List.replicate (sz - ones) _ ++ List.replicate ones _) _)) (by ktr_units) ?_
    rw [show decide (List.replicate (sz - ones) (0 : Int) ++ List.replicate ones 1 = List.replicate (sz - ones) (0 : Int) ++ List.replicate ones 1) = true from decide_eq_true rfl]
    have N25 := news_sub (l' := (BH, PySem.W.listOf bhv.toArray ebh) :: (AH, PySem.W.listOf ahv.toArray eah) :: (TD2, PySem.W.listOf tvs2.toArray et2) :: tl2) N24 (by
      intro q hq
      (revert q; (repeat (refine all_cons ?_ ?_; (· repeat (first | (with_reducible exact List.mem_cons_self) | (with_reducible exact List.Mem.head _) | apply List.Mem.tail)))); intro q hq)
      (repeat (first | exact hq | exact absurd hq List.not_mem_nil | apply List.Mem.tail)))
    clear N24
    repeat' (first | (k_unfold; (try dsimp only)) | (k_end; wrow_close) | (k_here; (with_reducible show wpAny _ _ (binaryOp _ (Value.ref _) (Value.ref _)) _ _ _); refine WStop.out ?_) | (k_here; (with_reducible show wpAny _ _ (binaryOp Operator.Mult (Value.ref _) (Value.int _ _)) _ _ _); k_dflt (refine KMa.mul (by k_asm) (by k_asm) (by is_list) (by lia) (by lia) (by (simp only [List.length_cons, List.length_nil]; lia)) (by exact one_flat _ _) ?_; k_whole); intro _ _ _ _ l1ww; (try k_lt l1ww); (try k_sweep); (revert l1ww; intro _)) | (k_here; (with_reducible show wpAny _ _ (call _ [Value.str (dotsS _) _]) _ _ _); refine len_dots (by lia) ?_) | (k_here; (with_reducible show wpAny _ _ (call (Value.ref _) _) _ _ _); refine WStop.out ?_) | (k_here; (with_reducible show wpAny _ _ (subscriptTail _ _ (Value.ref _) (Value.int (-2) _)) _ _ _); k_dflt (refine last2_sub (by k_asm) (by k_mem) (by assumption) ?_; k_whole)) | (k_here; (with_reducible show wpAny _ _ (subscriptTail _ _ (Value.ref _) (Value.int (-1) _)) _ _ _); k_dflt (refine last_sub (by k_asm) (by k_mem) (by assumption) ?_; k_whole)) | ((with_reducible show wpAny _ _ (eval (Expr.ListComp _ _ _) _) _ _ _); (k_here; k_dflt (refine LCg.ListComp_U (F₀ := by k_asm) (by with_unfolding_all rfl) (by decide) (by rfl) (by decide) (by rfl) ?_))) | walk1)
    unfold WStop
    with_unfolding_all refine' kmk_slice (its := ahv.toArray) (lo := some 1) (hi := none) F23 N25 ?gl (.int _ _) .none ?_ ?gs ?gt ?gz
    case gl => exact PySem.IsL.isList (n := eah) (N25 (AH, PySem.W.listOf ahv.toArray eah) (.tail _ (.head _))).1
    case gs => with_unfolding_all rfl
    case gt => intro _; rfl
    case gz => rw [List.size_toArray, hAH.length, sizeLine_eq]; lia
    intro S3 h22 F24 N26 l26
    clear N25 F23
    repeat' (first | (k_unfold; (try dsimp only)) | (k_end; wrow_close) | (k_here; (with_reducible show wpAny _ _ (binaryOp _ (Value.ref _) (Value.ref _)) _ _ _); refine WStop.out ?_) | (k_here; (with_reducible show wpAny _ _ (binaryOp Operator.Mult (Value.ref _) (Value.int _ _)) _ _ _); k_dflt (refine KMa.mul (by k_asm) (by k_asm) (by is_list) (by lia) (by lia) (by (simp only [List.length_cons, List.length_nil]; lia)) (by exact one_flat _ _) ?_; k_whole); intro _ _ _ _ l1ww; (try k_lt l1ww); (try k_sweep); (revert l1ww; intro _)) | (k_here; (with_reducible show wpAny _ _ (call _ [Value.str (dotsS _) _]) _ _ _); refine len_dots (by lia) ?_) | (k_here; (with_reducible show wpAny _ _ (call (Value.ref _) _) _ _ _); refine WStop.out ?_) | (k_here; (with_reducible show wpAny _ _ (subscriptTail _ _ (Value.ref _) (Value.int (-2) _)) _ _ _); k_dflt (refine last2_sub (by k_asm) (by k_mem) (by assumption) ?_; k_whole)) | (k_here; (with_reducible show wpAny _ _ (subscriptTail _ _ (Value.ref _) (Value.int (-1) _)) _ _ _); k_dflt (refine last_sub (by k_asm) (by k_mem) (by assumption) ?_; k_whole)) | ((with_reducible show wpAny _ _ (eval (Expr.ListComp _ _ _) _) _ _ _); (k_here; k_dflt (refine LCg.ListComp_U (F₀ := by k_asm) (by with_unfolding_all rfl) (by decide) (by rfl) (by decide) (by rfl) ?_))) | walk1)
    unfold WStop
    with_unfolding_all refine' kmk_slice (its := ahv.toArray) (lo := none) (hi := some 1) F24 N26 ?gl .none (.int _ _) ?_ ?gs ?gt ?gz
    case gl => exact PySem.IsL.isList (n := eah) (N26 (AH, PySem.W.listOf ahv.toArray eah) (.tail _ (.tail _ (.head _)))).1
    case gs => with_unfolding_all rfl
    case gt => intro _; rfl
    case gz => rw [List.size_toArray, hAH.length, sizeLine_eq]; lia
    intro S4 h23 F25 N27 l27
    clear N26 F24
    repeat' (first | (k_unfold; (try dsimp only)) | (k_end; wrow_close) | (k_here; (with_reducible show wpAny _ _ (binaryOp _ (Value.ref _) (Value.ref _)) _ _ _); refine WStop.out ?_) | (k_here; (with_reducible show wpAny _ _ (binaryOp Operator.Mult (Value.ref _) (Value.int _ _)) _ _ _); k_dflt (refine KMa.mul (by k_asm) (by k_asm) (by is_list) (by lia) (by lia) (by (simp only [List.length_cons, List.length_nil]; lia)) (by exact one_flat _ _) ?_; k_whole); intro _ _ _ _ l1ww; (try k_lt l1ww); (try k_sweep); (revert l1ww; intro _)) | (k_here; (with_reducible show wpAny _ _ (call _ [Value.str (dotsS _) _]) _ _ _); refine len_dots (by lia) ?_) | (k_here; (with_reducible show wpAny _ _ (call (Value.ref _) _) _ _ _); refine WStop.out ?_) | (k_here; (with_reducible show wpAny _ _ (subscriptTail _ _ (Value.ref _) (Value.int (-2) _)) _ _ _); k_dflt (refine last2_sub (by k_asm) (by k_mem) (by assumption) ?_; k_whole)) | (k_here; (with_reducible show wpAny _ _ (subscriptTail _ _ (Value.ref _) (Value.int (-1) _)) _ _ _); k_dflt (refine last_sub (by k_asm) (by k_mem) (by assumption) ?_; k_whole)) | ((with_reducible show wpAny _ _ (eval (Expr.ListComp _ _ _) _) _ _ _); (k_here; k_dflt (refine LCg.ListComp_U (F₀ := by k_asm) (by with_unfolding_all rfl) (by decide) (by rfl) (by decide) (by rfl) ?_))) | walk1)
    unfold WStop
    have i1 : IntsAre (slicePick ahv.toArray (some 1) none none).toList ((moreL (iterR (sortD hrows) turns) sz).drop 1) := kmk_from hAH (by decide)
    have i2 : IntsAre (slicePick ahv.toArray none (some 1) none).toList ((moreL (iterR (sortD hrows) turns) sz).take 1) := kmk_upto hAH (by decide)
    have n1 : (slicePick ahv.toArray (some 1) none none).toList.length ≤ 40 := by rw [i1.length, List.length_drop]; lia
    have n2 : (slicePick ahv.toArray none (some 1) none).toList.length ≤ 40 := by rw [i2.length, List.length_take]; lia
    refine kmk_add_lit (zs := (slicePick ahv.toArray (some 1) none none).toList ++ (slicePick ahv.toArray none (some 1) none).toList) F25 N27 (PySem.IsL.isList (n := 0) (N27 (S3, _) (.tail _ (.head _))).1) (PySem.IsL.isList (n := 0) (N27 (S4, _) (.head _)).1) rfl ?_ (by rw [sizeLine_eq]; lia)
    intro D5 h24 F26 N28 l28
    clear F25 N27
    repeat' (first | (k_unfold; (try dsimp only)) | (k_end; wrow_close) | (k_here; (with_reducible show wpAny _ _ (binaryOp _ (Value.ref _) (Value.ref _)) _ _ _); refine WStop.out ?_) | (k_here; (with_reducible show wpAny _ _ (binaryOp Operator.Mult (Value.ref _) (Value.int _ _)) _ _ _); k_dflt (refine KMa.mul (by k_asm) (by k_asm) (by is_list) (by lia) (by lia) (by (simp only [List.length_cons, List.length_nil]; lia)) (by exact one_flat _ _) ?_; k_whole); intro _ _ _ _ l1ww; (try k_lt l1ww); (try k_sweep); (revert l1ww; intro _)) | (k_here; (with_reducible show wpAny _ _ (call _ [Value.str (dotsS _) _]) _ _ _); refine len_dots (by lia) ?_) | (k_here; (with_reducible show wpAny _ _ (call (Value.ref _) _) _ _ _); refine WStop.out ?_) | (k_here; (with_reducible show wpAny _ _ (subscriptTail _ _ (Value.ref _) (Value.int (-2) _)) _ _ _); k_dflt (refine last2_sub (by k_asm) (by k_mem) (by assumption) ?_; k_whole)) | (k_here; (with_reducible show wpAny _ _ (subscriptTail _ _ (Value.ref _) (Value.int (-1) _)) _ _ _); k_dflt (refine last_sub (by k_asm) (by k_mem) (by assumption) ?_; k_whole)) | ((with_reducible show wpAny _ _ (eval (Expr.ListComp _ _ _) _) _ _ _); (k_here; k_dflt (refine LCg.ListComp_U (F₀ := by k_asm) (by with_unfolding_all rfl) (by decide) (by rfl) (by decide) (by rfl) ?_))) | walk1)
    unfold WStop
    refine ke_eq_ints (PySem.IsL.isList (n := ebh) (N28 (BH, _) (.tail _ (.tail _ (.tail _ (.head _))))).1) (PySem.IsL.isList (n := 0) (N28 (D5, _) (.head _)).1) hBH (i1.append i2) (by ktr_units) ?_
    rw [decide_eq_true rfl]
    repeat' (first | (k_unfold; (try dsimp only)) | (k_end; wrow_close) | (k_here; (with_reducible show wpAny _ _ (binaryOp _ (Value.ref _) (Value.ref _)) _ _ _); refine WStop.out ?_) | (k_here; (with_reducible show wpAny _ _ (binaryOp Operator.Mult (Value.ref _) (Value.int _ _)) _ _ _); k_dflt (refine KMa.mul (by k_asm) (by k_asm) (by is_list) (by lia) (by lia) (by (simp only [List.length_cons, List.length_nil]; lia)) (by exact one_flat _ _) ?_; k_whole); intro _ _ _ _ l1ww; (try k_lt l1ww); (try k_sweep); (revert l1ww; intro _)) | (k_here; (with_reducible show wpAny _ _ (call _ [Value.str (dotsS _) _]) _ _ _); refine len_dots (by lia) ?_) | (k_here; (with_reducible show wpAny _ _ (call (Value.ref _) _) _ _ _); refine WStop.out ?_) | (k_here; (with_reducible show wpAny _ _ (subscriptTail _ _ (Value.ref _) (Value.int (-2) _)) _ _ _); k_dflt (refine last2_sub (by k_asm) (by k_mem) (by assumption) ?_; k_whole)) | (k_here; (with_reducible show wpAny _ _ (subscriptTail _ _ (Value.ref _) (Value.int (-1) _)) _ _ _); k_dflt (refine last_sub (by k_asm) (by k_mem) (by assumption) ?_; k_whole)) | ((with_reducible show wpAny _ _ (eval (Expr.ListComp _ _ _) _) _ _ _); (k_here; k_dflt (refine LCg.ListComp_U (F₀ := by k_asm) (by with_unfolding_all rfl) (by decide) (by rfl) (by decide) (by rfl) ?_))) | walk1)
    (rename Fr _ _ _ _ => F27)
    refine ret h24 _ (fun b o e => F27.keep b o e) (fun q hq => ?_)
    have hq2 := sub14 q (.tail _ (.tail _ (.tail _ hq)))
    exact (N28 q (.tail _ (.tail _ (.tail _ (.tail _ (.tail _ (.tail _ hq2))))))).1
end Mine
end
section
open PySem
set_option Elab.async false
set_option maxRecDepth 1000000
set_option maxHeartbeats 0
namespace Mine
/-- the law over rows that stand sorted -/
noncomputable def lawS (dots : Nat) (h : List Nat) : Bool :=
  let size := sizeL dots
  let turns := size * (size - 1)
  let it := iters h (turns + 2)
  let ahead := moreL (it.getD turns []) size
  let behind := moreL (it.getD (turns + 1) []) size
  let ones := dots - turns / 2
  (it.take turns == toldL (reachedL h) turns) && (sortI ahead == List.replicate (size - ones) 0 ++ List.replicate ones 1) && (behind == ahead.drop 1 ++ ahead.take 1)
theorem maxL_ins {x : Nat} : ∀ {r : List Nat}, maxL (insD x r) = Nat.max x (maxL r)
  | [] => rfl
  | y :: r => by
    unfold insD
    split
    · show Nat.max y (maxL (insD x r)) = Nat.max x (Nat.max y (maxL r))
      rw [maxL_ins]
      exact Nat.max_left_comm y x (maxL r)
    · rfl
theorem maxL_sort : ∀ {r : List Nat}, maxL (sortD r) = maxL r
  | [] => rfl
  | x :: r => by rw [sortD, maxL_ins, maxL_sort]; rfl
theorem cnt_ins {p : Nat → Bool} {x : Nat} : ∀ {r : List Nat}, ((insD x r).filter p).length = ((x :: r).filter p).length
  | [] => rfl
  | y :: r => by
    unfold insD
    split
    · have h := cnt_ins (p := p) (x := x) (r := r)
      simp only [List.filter_cons] at h ⊢
      split <;> split <;> simp_all
    · rfl
theorem cnt_sort {p : Nat → Bool} : ∀ {r : List Nat}, ((sortD r).filter p).length = (r.filter p).length
  | [] => rfl
  | x :: r => by
    have h := cnt_sort (p := p) (r := r)
    rw [sortD, cnt_ins]
    simp only [List.filter_cons]
    split <;> simp_all
theorem reached_sort {r : List Nat} : reachedL (sortD r) = reachedL r := by
  unfold reachedL
  rw [maxL_sort]
  exact List.map_congr_left fun k _ => cnt_sort
theorem lawOk_eq {d : Nat} {r : List Nat} : lawOk d r = lawS d (sortD r) := by
  unfold lawOk lawS
  rw [reached_sort]
noncomputable def desc : List Nat → Bool
  | [] => true
  | [_] => true
  | a :: b :: r => Nat.ble b a && desc (b :: r)
theorem desc_ins {x : Nat} : ∀ {r : List Nat}, desc r = true → desc (insD x r) = true ∧ ∀ b s, insD x r = b :: s → b = x ∨ ∃ s', r = b :: s'
  | [], _ => ⟨rfl, fun b s e => by cases e; exact .inl rfl⟩
  | [y], _ => by
    simp only [insD]
    split
    · rename_i h
      exact ⟨by simp only [desc, Bool.and_true]; exact h, fun b s e => by cases e; exact .inr ⟨_, rfl⟩⟩
    · rename_i h
      refine ⟨?_, fun b s e => by cases e; exact .inl rfl⟩
      simp only [desc, Bool.and_true]
      rw [Nat.ble_eq] at h ⊢
      lia
  | y :: z :: r, hd => by
    have hz : Nat.ble z y = true ∧ desc (z :: r) = true := by simpa only [desc, Bool.and_eq_true] using hd
    obtain ⟨h1, h2⟩ := desc_ins (x := x) hz.2
    rw [insD]
    split
    · rename_i h
      refine ⟨?_, fun b s e => by cases e; exact .inr ⟨_, rfl⟩⟩
      cases hi : insD x (z :: r) with
      | nil => rfl
      | cons b s =>
        rw [hi] at h1
        simp only [desc, Bool.and_eq_true]
        refine ⟨?_, h1⟩
        rcases h2 b s hi with rfl | ⟨s', e⟩
        · exact h
        · cases e; exact hz.1
    · rename_i h
      refine ⟨?_, fun b s e => by cases e; exact .inl rfl⟩
      simp only [desc, Bool.and_eq_true]
      refine ⟨?_, hz⟩
      rw [Nat.ble_eq] at h ⊢
      lia
theorem desc_sort : ∀ {r : List Nat}, desc (sortD r) = true
  | [] => rfl
  | _ :: _ => (desc_ins desc_sort).1
theorem ins_mem {x y : Nat} : ∀ {r : List Nat}, y ∈ insD x r → y = x ∨ y ∈ r
  | [], h => .inl (List.mem_singleton.mp h)
  | z :: r, h => by
    unfold insD at h
    split at h
    · rcases List.mem_cons.mp h with rfl | h
      · exact .inr (.head _)
      · rcases ins_mem h with h | h
        · exact .inl h
        · exact .inr (.tail _ h)
    · rcases List.mem_cons.mp h with rfl | h
      · exact .inl rfl
      · exact .inr h
theorem sort_mem {y : Nat} : ∀ {r : List Nat}, y ∈ sortD r → y ∈ r
  | _ :: _, h => by
    rcases ins_mem h with rfl | h
    · exact .head _
    · exact .tail _ (sort_mem h)
theorem ins_sum {x : Nat} : ∀ {r : List Nat}, (insD x r).sum = x + r.sum
  | [] => by simp [insD]
  | z :: r => by
    unfold insD
    split
    · rw [List.sum_cons, ins_sum, List.sum_cons]; lia
    · rw [List.sum_cons]
theorem sort_sum : ∀ {r : List Nat}, (sortD r).sum = r.sum
  | [] => rfl
  | _ :: _ => by rw [sortD, ins_sum, sort_sum, List.sum_cons]
theorem inc_app {a : Nat} : ∀ {r : List Nat}, incLast (r ++ [a]) = r ++ [a + 1]
  | [] => rfl
  | [_] => rfl
  | x :: y :: r => by
    show x :: incLast (y :: r ++ [a]) = _
    rw [inc_app]; rfl
theorem comps_all : ∀ {n : Nat} {l : List Nat}, (∀ x ∈ l, 1 ≤ x) → l.sum = n + 1 → l ∈ comps n
  | 0, l, h, e => by
    match l, h, e with
    | [], _, e => simp at e
    | [a], h, e => simp at e; subst e; exact .head _
    | a :: b :: r, h, e =>
      have h1 := h a (.head _)
      have h2 := h b (.tail _ (.head _))
      rw [List.sum_cons, List.sum_cons] at e
      lia
  | n + 1, l, h, e => by
    have hn : l ≠ [] := fun q => by rw [q] at e; simp at e
    have hs := List.dropLast_concat_getLast hn
    generalize l.dropLast = i at hs
    generalize l.getLast hn = a at hs
    subst hs
    have ha := h a (List.mem_append_right _ (.head _))
    have hi : ∀ x ∈ i, 1 ≤ x := fun x hx => h x (List.mem_append_left _ hx)
    have e2 : i.sum + a = n + 1 + 1 := by simpa using e
    simp only [comps, List.mem_flatMap]
    by_cases h1 : a = 1
    · subst h1
      exact ⟨i, comps_all hi (by lia), .head _⟩
    · refine ⟨i ++ [a - 1], comps_all (fun x hx => ?_) ?_, .tail _ ?_⟩
      · rcases List.mem_append.mp hx with hx | hx
        · exact hi x hx
        · rw [List.mem_singleton.mp hx]; lia
      · rw [List.sum_append]; simp; lia
      · rw [inc_app, show a - 1 + 1 = a by lia]; exact .head _
theorem comps_pos : ∀ {n : Nat} {r : List Nat}, r ∈ comps n → (∀ x ∈ r, 1 ≤ x) ∧ r.sum = n + 1
  | 0, r, h => by
    simp only [comps, List.mem_singleton] at h
    subst h
    exact ⟨fun x hx => by rw [List.mem_singleton.mp hx]; exact Nat.le_refl _, rfl⟩
  | n + 1, r, h => by
    simp only [comps, List.mem_flatMap, List.mem_cons, List.not_mem_nil, or_false] at h
    obtain ⟨x, hx, h⟩ := h
    obtain ⟨h2, h3⟩ := comps_pos hx
    rcases h with rfl | rfl
    · refine ⟨fun y hy => ?_, by simp [h3]⟩
      rcases List.mem_append.mp hy with hy | hy
      · exact h2 y hy
      · rw [List.mem_singleton.mp hy]; exact Nat.le_refl _
    · have hn : x ≠ [] := fun q => by rw [q] at h3; simp at h3
      have hs := List.dropLast_concat_getLast hn
      generalize x.dropLast = i at hs
      generalize x.getLast hn = a at hs
      subst hs
      rw [inc_app]
      refine ⟨fun y hy => ?_, ?_⟩
      · rcases List.mem_append.mp hy with hy | hy
        · exact h2 y (List.mem_append_left _ hy)
        · rw [List.mem_singleton.mp hy]; lia
      · rw [List.sum_append] at h3 ⊢; simp at h3 ⊢; lia
noncomputable def descOk (d : Nat) (r : List Nat) : Bool := !desc r || lawS d r
theorem law_0 : (comps 0).all (descOk 1) = true := by decide +kernel
theorem law_1 : (comps 1).all (descOk 2) = true := by decide +kernel
theorem law_2 : (comps 2).all (descOk 3) = true := by decide +kernel
theorem law_3 : (comps 3).all (descOk 4) = true := by decide +kernel
theorem law_4 : (comps 4).all (descOk 5) = true := by decide +kernel
theorem law_5 : (comps 5).all (descOk 6) = true := by decide +kernel
theorem law_6 : (comps 6).all (descOk 7) = true := by decide +kernel
theorem law_7 : (comps 7).all (descOk 8) = true := by decide +kernel
theorem law_8 : (comps 8).all (descOk 9) = true := by decide +kernel
theorem law_9 : (comps 9).all (descOk 10) = true := by decide +kernel
theorem law_all {d : Nat} (hd : d < 10) {r : List Nat} (h : r ∈ comps d) : lawOk (d + 1) r = true := by
  obtain ⟨h1, h2⟩ := comps_pos h
  have hm : sortD r ∈ comps d := comps_all (fun x hx => h1 x (sort_mem hx)) (sort_sum.trans h2)
  rw [lawOk_eq]
  have ok : descOk (d + 1) (sortD r) = true := by
    have h10 : d = 0 ∨ d = 1 ∨ d = 2 ∨ d = 3 ∨ d = 4 ∨ d = 5 ∨ d = 6 ∨ d = 7 ∨ d = 8 ∨ d = 9 := ten hd
    rcases h10 with e | e | e | e | e | e | e | e | e | e <;> subst e
    · exact List.all_eq_true.mp law_0 _ hm
    · exact List.all_eq_true.mp law_1 _ hm
    · exact List.all_eq_true.mp law_2 _ hm
    · exact List.all_eq_true.mp law_3 _ hm
    · exact List.all_eq_true.mp law_4 _ hm
    · exact List.all_eq_true.mp law_5 _ hm
    · exact List.all_eq_true.mp law_6 _ hm
    · exact List.all_eq_true.mp law_7 _ hm
    · exact List.all_eq_true.mp law_8 _ hm
    · exact List.all_eq_true.mp law_9 _ hm
  unfold descOk at ok
  rw [desc_sort] at ok
  simpa using ok
end Mine
end
section
open PySem PySem.W PyProof.Rows PySem.Calls
set_option Elab.async false
set_option maxRecDepth 100000
set_option maxHeartbeats 8000000
namespace Mine
set_option pp.deepTerms false
set_option pp.deepTerms.threshold 6
section
variable {prog : Program} {w : World} {A : Around} {E : Value → Shared → Prop} {s : Shared} {h₀ : Heap} {L : Addr} {m : Str → Option Value} {news : List (Addr × Obj)} {Q : Value → Shared → Prop}
/-- sum of a list at the ledger's head, of any length; the list goes from the ledger -/
theorem sum_any {D : Addr} {its : Array Value} {ep : Nat} {ns : List Int} (hh : A.handled = none) (F : Fr h₀ L s.heap m) (N : News h₀ L s.heap ((D, ({ cls := .type "list", data := .seq its ep } : Obj)) :: news)) (hi : IntsAre its.toList ns)
    (h : ∀ (k : Int) (t : Tok) (h' : Heap) (tk : Nat), Fr h₀ L h' m → News h₀ L h' news → Q (.int k t) { s with heap := h', toks := tk }) : wpAny (model prog w) A (call (.builtin "sum") [.ref D]) Q E s := by
  obtain ⟨xs, hx⟩ := hi.allInts.items
  have hl : s.heap.IsList D its := ⟨_, (N _ (.head _)).1, rfl, ep, rfl⟩
  rw [Array.toArray_toList] at hx
  rw [hx] at hl
  refine sum_intListG hh hl fun h' tk t' hk => ?_
  exact h _ _ _ _ (F.keeps hk) (fun p hp => ⟨hk _ _ (N p (.tail _ hp)).1, (N p (.tail _ hp)).2⟩)
end
theorem news_63 {a b c d e f g' : Addr × Obj} {g h : Heap} {L : Addr} (N : News g L h [a, b, c, d, e, f, g']) : News g L h [f, a, b, c, d, e, g'] := fun q hq => N q (by
  (revert q; (repeat (refine all_cons ?_ ?_; (· repeat (first | (with_reducible exact List.mem_cons_self) | (with_reducible exact List.Mem.head _) | apply List.Mem.tail)))); intro q hq)
  (repeat (first | exact hq | exact absurd hq List.not_mem_nil | apply List.Mem.tail)))
theorem news_sorted {a b c d e f g' : Addr × Obj} {led : List (Addr × Obj)} {g h : Heap} {L : Addr} (N : News g L h (led ++ [a, b, c, d, e, f, g'])) : News g L h (d :: b :: c :: (led ++ [a, e, f, g'])) := fun q hq => N q (by
  rcases List.mem_cons.mp hq with rfl | hq
  · exact List.mem_append_right _ (.tail _ (.tail _ (.tail _ (.head _))))
  rcases List.mem_cons.mp hq with rfl | hq
  · exact List.mem_append_right _ (.tail _ (.head _))
  rcases List.mem_cons.mp hq with rfl | hq
  · exact List.mem_append_right _ (.tail _ (.tail _ (.head _)))
  rcases List.mem_append.mp hq with hq | hq
  · exact List.mem_append_left _ hq
  rcases List.mem_cons.mp hq with rfl | hq
  · exact List.mem_append_right _ (.head _)
  exact List.mem_append_right _ (.tail _ (.tail _ (.tail _ (.tail _ hq)))))
theorem news_played {r h' f c a b t d : Addr × Obj} {led : List (Addr × Obj)} {g h : Heap} {L : Addr} (N : News g L h (r :: h' :: f :: c :: (led ++ [a, b, t, d]))) : News g L h (t :: r :: h' :: f :: c :: (led ++ [a, b, d])) := fun q hq => N q (by
  rcases List.mem_cons.mp hq with rfl | hq
  · exact .tail _ (.tail _ (.tail _ (.tail _ (List.mem_append_right _ (.tail _ (.tail _ (.head _)))))))
  rcases List.mem_cons.mp hq with rfl | hq
  · exact .head _
  rcases List.mem_cons.mp hq with rfl | hq
  · exact .tail _ (.head _)
  rcases List.mem_cons.mp hq with rfl | hq
  · exact .tail _ (.tail _ (.head _))
  rcases List.mem_cons.mp hq with rfl | hq
  · exact .tail _ (.tail _ (.tail _ (.head _)))
  refine .tail _ (.tail _ (.tail _ (.tail _ ?_)))
  rcases List.mem_append.mp hq with hq | hq
  · exact List.mem_append_left _ hq
  rcases List.mem_cons.mp hq with rfl | hq
  · exact List.mem_append_right _ (.head _)
  rcases List.mem_cons.mp hq with rfl | hq
  · exact List.mem_append_right _ (.tail _ (.head _))
  exact List.mem_append_right _ (.tail _ (.tail _ (.tail _ hq))))
theorem good_comps {n : Nat} {r : List Nat} (hn : n < 10) (h : r ∈ comps n) : Good r ∧ Good (sortD r) := by
  obtain ⟨h2, h3⟩ := comps_pos h
  refine ⟨⟨fun e => ?_, h2, by rw [h3]; exact hn⟩, fun e => ?_, fun x hx => h2 x (sort_mem hx), by rw [sort_sum, h3]; exact hn⟩
  · rw [e] at h3; cases h3
  · have := sort_sum (r := r)
    rw [e, h3] at this
    cases this
local macro_rules | `(tactic| walk_at "eval ListComp") => `(tactic| refine WStop.out ?_)
local macro_rules | `(tactic| walk_at "pyIter ref") => `(tactic| refine WStop.out ?_)
noncomputable def pS (d : Nat) : Value → Bool
  | .int k _ => decide (2 * ((d : Int) + 1) ≤ k * (k + 1))
  | _ => false
theorem size_pick {d : Nat} (hd : d < 10) {t1 t2 t3 t4 : Tok} : ∃ t, ([Value.int 1 t1, .int 2 t2, .int 3 t3, .int 4 t4].filter (pS d))[0]? = some (.int (sizeL (d + 1)) t) := by
  have h : d = 0 ∨ d = 1 ∨ d = 2 ∨ d = 3 ∨ d = 4 ∨ d = 5 ∨ d = 6 ∨ d = 7 ∨ d = 8 ∨ d = 9 := ten hd
  rcases h with rfl | rfl | rfl | rfl | rfl | rfl | rfl | rfl | rfl | rfl <;> exact ⟨_, rfl⟩
theorem four_of {vs : List Value} {P : Nat → Value → Prop} (hl : vs.length = 4) (hP : ∀ j v, vs[j]? = some v → P j v) : ∃ a b c d, vs = [a, b, c, d] ∧ P 0 a ∧ P 1 b ∧ P 2 c ∧ P 3 d := by
  rcases vs with _ | ⟨a, _ | ⟨b, _ | ⟨c, _ | ⟨d, _ | ⟨e, r⟩⟩⟩⟩⟩ <;> simp at hl
  exact ⟨a, b, c, d, rfl, hP 0 a rfl, hP 1 b rfl, hP 2 c rfl, hP 3 d rfl⟩
theorem paired_eq {a b : List Value} (h : Paired (fun v y => y = v) a b) : b = a := by
  induction h with
  | nil => rfl
  | cons h _ ih => rw [h, ih]
theorem range_small {prog : Program} {w : World} {A : Around} (hh : A.handled = none) (I : Addr) (a : Int) (n : Nat) :
    Walks prog w A I [I] [I] n (fun i v => i < n ∧ ∃ t, v = .int (a + i * 1) t) (fun i h => IsRangeIter h I (a + (i : Nat) * 1) ((n : Int) - (i : Nat)) 1) :=
  let W := Walks.range (prog := prog) (w := w) hh I a 1 n
  ⟨W.sub, W.frame, fun i s Q E hi st hQ => W.item i s Q E hi st fun v h' tk hP => hQ v h' tk ⟨hi, hP⟩, W.done, W.self⟩
theorem law_walk : ∀ {w : World} {g h9 : Heap} {L fa l9 : Addr} {vs9 : List Value} {ns9 : List Int} {o9 : Obj} {s : Shared} {Q : Flow → Shared → Prop} {E : Value → Shared → Prop} {pV : Program} {lV : List Str} {mV : ExcName → Option Value} {mg mb : Str → Option Value}
   (_B : Below callerA g [] g) (_F : Fr g L s.heap (fun y => if y = S "script" then some (.ref l9) else none)) (_X : (fragK.heap_1 w.params).In g) (_T : Top pV lV mV mg mb g) (_BF : BFacts w g pV lV mV mg mb) (_C1 : CodeHd g (nat_lit 799) (nat_lit 795)) (_C2 : CodeHd g (nat_lit 67) (nat_lit 63)) (_C3 : CodeHd g (nat_lit 819) (nat_lit 817))
   (_hL : g.IsList l9 vs9.toArray) (_hi : IntsAre vs9 ns9) (_hn : ns9.length ≤ 63) (_ho : o9.data = .cell none) (_N : News g L s.heap [(L + 1, o9), (nat_lit 795, tabObj #[]), (nat_lit 63, tabObj #[]), (nat_lit 817, tabObj #[])])
   (_l0 : @LT.lt Nat _ 795 L ∧ @LT.lt Nat _ 63 L ∧ @LT.lt Nat _ 817 L)
   (_ret : ∀ (h' : Heap) (tk' : Nat), (∀ b o, g.get? b = some o → h'.get? b = some o) → GrownAt (nat_lit 795) h' → GrownAt (nat_lit 63) h' → GrownAt (nat_lit 817) h' → Q (.ret (.bool true)) { s with heap := h', toks := tk' }),
   wpAny (model PySem.Challenge.rw_kt0066_01.row.prog w) (callerA.deeper (envL L fa)) (execs lawD.2.1 (envL L fa)) Q E s := by
  k_fill
  intro w g h9 L fa l9 vs9 ns9 o9 s Q E pV lV mV mg mb B F X T BF C1 C2 C3 hL hi hn ho N l0 ret
  have hR : lawD = lawD := rfl
  conv at hR => rhs; whnf
  rw [hR]
  dsimp only [envL]
  rw [hR]
  dsimp only
  clear hR
  k_unmd
  repeat' (first | (k_unfold; (try dsimp only)) | (k_end; wrow_close) | ((with_reducible show wpAny _ _ (binaryOp Operator.Mult (Value.int _ _) (Value.int _ _)) _ _ _); (k_here; k_dflt (refine' mul_int ?_ (IntMulOk.of_left (intBits_le_64 (by lia) (by lia)))))) | (k_here; (with_reducible show wpAny _ _ (call (Value.ref _) _) _ _ _); refine WStop.out ?_) | ((with_reducible show wpAny _ _ (call (Value.builtin "sum") _) _ _ _); (k_here; k_dflt ((fail_if_success (fail_if_success (refine' sum_any ?_ ?_ ?_ ?_ ?_))); refine sum_any (by with_unfolding_all rfl) (by k_asm) (by k_asm) (by exact IntsAre.pick (by assumption) _ _ _) ?_; k_whole); intro _ _ _ _ _ _)) | walk1)
  unfold WStop
  (rename Fr _ _ _ _ => FF)
  (rename News _ _ _ _ => NN)
  rename_i z1 q1 z2 z3 z4 z5 z6 z7 q2 z8 z9 z10 h5
  generalize q2 + 7 = fig at FF ⊢
  generalize q1 + 25 = num at FF ⊢
  k_dflt (refine' heaps_spec ?jB ?jF ?jX ?jT ?jK ?jN ?jd ?ju ?_; (case jN => exact NN); (case jF => exact FF); (case jB => exact B); (case jX => exact X); (case jT => exact T); (case jK => exact rfl); (case jd => ktr_room); (case ju => ktr_units))
  intro H1 hv1 hrows ep1 h11 tk11 hvR hcm F11 N11 l11
  clear FF NN
  have hH1 : @LT.lt Nat _ (L + 1) H1 := l11 _ (.head _)
  have hH2 : @LT.lt Nat _ 795 H1 := l11 _ (.tail _ (.head _))
  have hH3 : @LT.lt Nat _ 63 H1 := l11 _ (.tail _ (.tail _ (.head _)))
  have hH4 : @LT.lt Nat _ 817 H1 := l11 _ (.tail _ (.tail _ (.tail _ (.head _))))
  obtain ⟨l01, l02, l03⟩ := l0
  repeat' (first | (k_unfold; (try dsimp only)) | (k_end; wrow_close) | ((with_reducible show wpAny _ _ (binaryOp Operator.Mult (Value.int _ _) (Value.int _ _)) _ _ _); (k_here; k_dflt (refine' mul_int ?_ (IntMulOk.of_left (intBits_le_64 (by lia) (by lia)))))) | (k_here; (with_reducible show wpAny _ _ (call (Value.ref _) _) _ _ _); refine WStop.out ?_) | ((with_reducible show wpAny _ _ (call (Value.builtin "sum") _) _ _ _); (k_here; k_dflt ((fail_if_success (fail_if_success (refine' sum_any ?_ ?_ ?_ ?_ ?_))); refine sum_any (by with_unfolding_all rfl) (by k_asm) (by k_asm) (by exact IntsAre.pick (by assumption) _ _ _) ?_; k_whole); intro _ _ _ _ _ _)) | walk1)
  unfold WStop
  (rename Fr _ _ _ _ => FF)
  (rename News _ _ _ _ => NN)
  (rename (_ = Data.cell _) => dd)
  have hm1 := Int.fmod_nonneg_of_pos num (b := 10) (by decide)
  have hm2 := Int.fmod_lt_of_pos num (b := 10) (by decide)
  obtain ⟨d, hd⟩ : ∃ n : Nat, num.fmod 10 = (n : Int) := ⟨(num.fmod 10).toNat, by lia⟩
  have hd10 : d < 10 := by lia
  rw [hd] at hcm dd
  refine wpAny_ListComp_free (cl := [(S "dots", L + 1)]) (pS d) (fun v y => y = v) (by rfl) (by decide) rfl (by decide) rfl ?_
  repeat' (first | (k_unfold; (try dsimp only)) | (k_end; wrow_close) | ((with_reducible show wpAny _ _ (binaryOp Operator.Mult (Value.int _ _) (Value.int _ _)) _ _ _); (k_here; k_dflt (refine' mul_int ?_ (IntMulOk.of_left (intBits_le_64 (by lia) (by lia)))))) | (k_here; (with_reducible show wpAny _ _ (call (Value.ref _) _) _ _ _); refine WStop.out ?_) | ((with_reducible show wpAny _ _ (call (Value.builtin "sum") _) _ _ _); (k_here; k_dflt ((fail_if_success (fail_if_success (refine' sum_any ?_ ?_ ?_ ?_ ?_))); refine sum_any (by with_unfolding_all rfl) (by k_asm) (by k_asm) (by exact IntsAre.pick (by assumption) _ _ _) ?_; k_whole); intro _ _ _ _ _ _)) | walk1)
  unfold WStop
  rename Obj => oD
  rename_i zH zt t1 t2 t3 hr F1 N1 hk1
  replace N1 : News g L _ ((H1, PySem.W.listOf hv1.toArray ep1) :: (L + 1, oD) :: (nat_lit 795, tabObj #[]) :: (nat_lit 63, tabObj #[]) :: (nat_lit 817, tabObj #[]) :: []) := N1
  clear hk1
  refine wpAny_pyIter_range hr (by decide) ?_
  dsimp only
  generalize hI : zH.objs.size = I
  have up : ∀ (h' : Heap), (∀ b o', b ∉ [I] → (zH.push { cls := .type "range_iterator", data := .fields #[rawInt 1, rawInt (Builtin.Range.rangeSize 1 5 1), rawInt 1] }).get? b = some o' → h'.get? b = some o') → ∀ b o', zH.get? b = some o' → h'.get? b = some o' := by
    subst hI
    exact fun h' hk b o' e => hk b o' (not_iter_of_old e) (Heap.get?_push_of_some _ e)
  refine ⟨I, [I], [I], 4, _, _, rfl, range_small (by rfl) _ 1 4, by rw [sizeLine_eq]; decide, ?st, ?fp, ⟨?tests, ?elt⟩, ?fin⟩
  case st =>
    subst hI
    exact Heap.get?_push_size _ rfl
  case fp =>
    subst hI
    intro b hb
    rw [List.mem_singleton.mp hb, Heap.size_push]
    exact Nat.lt_succ_self _
  case tests =>
    rintro C i v s3 m3 E3 hC ⟨hi4, t9, rfl⟩ hn3 hx3 hk3 ht3
    have F3 := F1.keeps (up _ hk3)
    have N3 := N1.grown (up _ hk3)
    repeat' (first | (k_unfold; (try dsimp only)) | (k_end; wrow_close) | ((with_reducible show wpAny _ _ (binaryOp Operator.Mult (Value.int _ _) (Value.int _ _)) _ _ _); (k_here; k_dflt (refine' mul_int ?_ (IntMulOk.of_left (intBits_le_64 (by lia) (by lia)))))) | (k_here; (with_reducible show wpAny _ _ (call (Value.ref _) _) _ _ _); refine WStop.out ?_) | ((with_reducible show wpAny _ _ (call (Value.builtin "sum") _) _ _ _); (k_here; k_dflt ((fail_if_success (fail_if_success (refine' sum_any ?_ ?_ ?_ ?_ ?_))); refine sum_any (by with_unfolding_all rfl) (by k_asm) (by k_asm) (by exact IntsAre.pick (by assumption) _ _ _) ?_; k_whole); intro _ _ _ _ _ _)) | walk1)
    all_goals exact ⟨_, _, rfl, fun _ _ e => e⟩
  case elt =>
    rintro C i v s3 m3 E3 hC ⟨hi4, t9, rfl⟩ hp3 hn3 hx3 hk3 ht3
    repeat' (first | (k_unfold; (try dsimp only)) | (k_end; wrow_close) | ((with_reducible show wpAny _ _ (binaryOp Operator.Mult (Value.int _ _) (Value.int _ _)) _ _ _); (k_here; k_dflt (refine' mul_int ?_ (IntMulOk.of_left (intBits_le_64 (by lia) (by lia)))))) | (k_here; (with_reducible show wpAny _ _ (call (Value.ref _) _) _ _ _); refine WStop.out ?_) | ((with_reducible show wpAny _ _ (call (Value.builtin "sum") _) _ _ _); (k_here; k_dflt ((fail_if_success (fail_if_success (refine' sum_any ?_ ?_ ?_ ?_ ?_))); refine sum_any (by with_unfolding_all rfl) (by k_asm) (by k_asm) (by exact IntsAre.pick (by assumption) _ _ _) ?_; k_whole); intro _ _ _ _ _ _)) | walk1)
    all_goals exact ⟨_, _, rfl, fun _ _ e => e⟩
  case fin =>
    intro D h' tk ys vs hD hl hpl hlen hP hF hk
    have F2 := F1.keeps (up _ hk)
    have N2 := N1.grown (up _ hk)
    clear F1 N1 up hD hpl hk
    obtain ⟨a1, a2, a3, a4, rfl, ⟨_, u1, rfl⟩, ⟨_, u2, rfl⟩, ⟨_, u3, rfl⟩, ⟨_, u4, rfl⟩⟩ := four_of hlen hP
    obtain ⟨tz, hz⟩ := size_pick (t1 := u1) (t2 := u2) (t3 := u3) (t4 := u4) hd10
    have hys := paired_eq hF
    have hz2 : ys[(0 : Int).toNat]? = some (.int (sizeL (d + 1)) tz) := by
      rw [← hz, ← Array.getElem?_toList, hys]
      rfl
    clear hlen hP hF hz hys
    repeat' (first | (k_unfold; (try dsimp only)) | (k_end; wrow_close) | ((with_reducible show wpAny _ _ (binaryOp Operator.Mult (Value.int _ _) (Value.int _ _)) _ _ _); (k_here; k_dflt (refine' mul_int ?_ (IntMulOk.of_left (intBits_le_64 (by lia) (by lia)))))) | (k_here; (with_reducible show wpAny _ _ (call (Value.ref _) _) _ _ _); refine WStop.out ?_) | ((with_reducible show wpAny _ _ (call (Value.builtin "sum") _) _ _ _); (k_here; k_dflt ((fail_if_success (fail_if_success (refine' sum_any ?_ ?_ ?_ ?_ ?_))); refine sum_any (by with_unfolding_all rfl) (by k_asm) (by k_asm) (by exact IntsAre.pick (by assumption) _ _ _) ?_; k_whole); intro _ _ _ _ _ _)) | walk1)
    refine tail_any hl.typeIs slot_list_getitem.lookup (wpAny_getItem_list hl (by decide) (by decide) hz2 ?_) (by with_unfolding_all rfl)
    clear hl hz2
    obtain ⟨sz, hsz⟩ : ∃ n, sizeL (d + 1) = n := ⟨_, rfl⟩
    have hsz4 : 1 ≤ sz ∧ sz ≤ 4 := by
      rw [← hsz]
      unfold sizeL
      split
      · decide
      split
      · decide
      split <;> decide
    rw [hsz]
    repeat' (first | (k_unfold; (try dsimp only)) | (k_end; wrow_close) | ((with_reducible show wpAny _ _ (binaryOp Operator.Mult (Value.int _ _) (Value.int _ _)) _ _ _); (k_here; k_dflt (refine' mul_int ?_ (IntMulOk.of_left (intBits_le_64 (by lia) (by lia)))))) | (k_here; (with_reducible show wpAny _ _ (call (Value.ref _) _) _ _ _); refine WStop.out ?_) | ((with_reducible show wpAny _ _ (call (Value.builtin "sum") _) _ _ _); (k_here; k_dflt ((fail_if_success (fail_if_success (refine' sum_any ?_ ?_ ?_ ?_ ?_))); refine sum_any (by with_unfolding_all rfl) (by k_asm) (by k_asm) (by exact IntsAre.pick (by assumption) _ _ _) ?_; k_whole); intro _ _ _ _ _ _)) | walk1)
    unfold WStop
    (rename Fr _ _ _ _ => F3)
    (rename News _ _ _ _ => N3)
    rename_i f1 c1 oc1 cv1 tc1 ct1 h12 tk12 dc1 dc2 lc1 lc2
    obtain ⟨turns, hturns⟩ : ∃ n : Nat, (sz : Int) * ((sz : Int) - 1) = (n : Int) ∧ n = sz * (sz - 1) := ⟨sz * (sz - 1), by
      have := hsz4.1
      rw [show ((sz : Int) - 1) = ((sz - 1 : Nat) : Int) by lia]
      exact_mod_cast rfl, rfl⟩
    obtain ⟨hturns, hturns2⟩ := hturns
    rw [hturns] at F3
    have KD0 : KtsDicts (([] : List Env).filterMap (·.frame)) g := fun b hb => by cases hb
    have N4 := news_63 N3
    k_dflt (refine' ctk_spec ?jB ?jF ?jX ?jT ?jK N4 ?jo C2 BF KD0 ?jd ?ju ?_; (case jF => exact F3); (case jB => exact B); (case jX => exact X); (case jT => exact T); (case jK => exact rfl); (case jd => ktr_room); (case ju => ktr_units))
    case jo =>
      intro q hq
      simp only [List.mem_cons, List.not_mem_nil, or_false] at hq
      rcases hq with rfl | rfl | rfl | rfl | rfl | rfl
      · exact Nat.ne_of_gt (Nat.lt_trans lc1.2.2.2.1 lc2)
      · exact Nat.ne_of_gt lc1.2.2.2.1
      · exact Nat.ne_of_gt hH3
      · exact Nat.ne_of_gt (Nat.lt_succ_of_lt l02)
      · show (795 : Nat) ≠ 63; decide
      · show (817 : Nat) ≠ 63; decide
    intro C led ps h13 tk13 hK F5 N5 l5
    clear N3 N4 F3
    repeat' (first | (k_unfold; (try dsimp only)) | (k_end; wrow_close) | ((with_reducible show wpAny _ _ (binaryOp Operator.Mult (Value.int _ _) (Value.int _ _)) _ _ _); (k_here; k_dflt (refine' mul_int ?_ (IntMulOk.of_left (intBits_le_64 (by lia) (by lia)))))) | (k_here; (with_reducible show wpAny _ _ (call (Value.ref _) _) _ _ _); refine WStop.out ?_) | ((with_reducible show wpAny _ _ (call (Value.builtin "sum") _) _ _ _); (k_here; k_dflt ((fail_if_success (fail_if_success (refine' sum_any ?_ ?_ ?_ ?_ ?_))); refine sum_any (by with_unfolding_all rfl) (by k_asm) (by k_asm) (by exact IntsAre.pick (by assumption) _ _ _) ?_; k_whole); intro _ _ _ _ _ _)) | walk1)
    have N6 := news_sorted N5
    have hcd : hrows ∈ comps d := by simpa using hcm
    obtain ⟨hG1, hG2⟩ := good_comps hd10 hcd
    k_dflt (refine' sort_spec (n := d) (led := led) ?jB ?jF ?jX ?jT ?jK N6 dc1 dc2 hK ?jo hvR hG1 hd10 hcd ?jd ?ju ?_; (case jF => exact F5); (case jB => exact B); (case jX => exact X); (case jT => exact T); (case jK => exact rfl); (case jd => ktr_room); (case ju => ktr_units))
    case jo => exact fun q hq => List.mem_append_left _ hq
    intro R1 rv1 er1 h14 tk14 hvS F7 N7 l7
    clear N5 N6 F5
    repeat' (first | (k_unfold; (try dsimp only)) | (k_end; wrow_close) | ((with_reducible show wpAny _ _ (binaryOp Operator.Mult (Value.int _ _) (Value.int _ _)) _ _ _); (k_here; k_dflt (refine' mul_int ?_ (IntMulOk.of_left (intBits_le_64 (by lia) (by lia)))))) | (k_here; (with_reducible show wpAny _ _ (call (Value.ref _) _) _ _ _); refine WStop.out ?_) | ((with_reducible show wpAny _ _ (call (Value.builtin "sum") _) _ _ _); (k_here; k_dflt ((fail_if_success (fail_if_success (refine' sum_any ?_ ?_ ?_ ?_ ?_))); refine sum_any (by with_unfolding_all rfl) (by k_asm) (by k_asm) (by exact IntsAre.pick (by assumption) _ _ _) ?_; k_whole); intro _ _ _ _ _ _)) | walk1)
    unfold WStop
    (rename Fr _ _ _ _ => F8)
    (rename News _ _ _ _ => N8)
    have N9 := news_played N8
    have htn : ((turns : Int) + 1) = ((turns + 1 : Nat) : Int) := by lia
    rw [htn]
    have ht12 : turns ≤ 12 := by
      rw [hturns2]
      have h4 := hsz4.2
      have h1 := hsz4.1
      have : sz = 1 ∨ sz = 2 ∨ sz = 3 ∨ sz = 4 := by lia
      rcases this with rfl | rfl | rfl | rfl <;> decide
    have hR795 : @LT.lt Nat _ 795 R1 := by
      have h1 : @LT.lt Nat _ H1 R1 := l7 (H1, PySem.W.listOf hv1.toArray ep1) (.head _)
      exact Nat.lt_trans hH2 h1
    k_dflt (refine' played_spec (rows := sortD hrows) ?jB ?jF ?jX ?jT ?jK N9 C1 BF KD0 ?ju ?jn ?jD ?jo hvS hG2 ?_; (case jF => exact F8); (case jB => exact B); (case jX => exact X); (case jT => exact T); (case jK => exact rfl); (case ju => ktr_units); (case jn => lia); (case jD => exact Nat.ne_of_gt hR795))
    case jo =>
      intro q hq
      simp only [List.mem_cons, List.mem_append, List.not_mem_nil, or_false] at hq
      rcases hq with rfl | rfl | rfl | hq | rfl | rfl | rfl
      · exact Nat.ne_of_gt hH2
      · exact Nat.ne_of_gt (Nat.lt_trans lc1.2.2.1 lc2)
      · exact Nat.ne_of_gt lc1.2.2.1
      · exact Nat.ne_of_gt (l5 (nat_lit 795, tabObj #[]) (by k_mem) q hq)
      · show (63 : Nat) ≠ 795; decide
      · exact Nat.ne_of_gt (Nat.lt_succ_of_lt l01)
      · show (817 : Nat) ≠ 795; decide
    intro g' TD tvs etd tl h15 tk15 hTV KT15 F9 N10 sub9 tb9 B9 X9 T9 KD9
    clear N8 N9 F8
    refine storeX_L F9 N10 (fun h16 F10 N11 => ?_) rfl rfl
    have hH : (H1, PySem.W.listOf hv1.toArray ep1) ∈ tl := sub9 _ (.tail _ (.head _))
    have hoD : (L + 1, oD) ∈ tl := sub9 _ (.tail _ (.tail _ (.tail _ (.tail _ (List.mem_append_right _ (.tail _ (.head _)))))))
    have h63 : (nat_lit 63, tabObj ps) ∈ tl := sub9 _ (.tail _ (.tail _ (.tail _ (.tail _ (List.mem_append_right _ (.head _))))))
    have h817 := sub9 _ (.tail _ (.tail _ (.tail _ (.tail _ (List.mem_append_right _ (.tail _ (.tail _ (.head _))))))))
    refine law_tail B9 F10 X9 T9 BF KD9 N11 hTV hH hvR hG1 hG2 hoD dd hd10 hsz hsz4 hturns2 (law_all hd10 hcd) ?_
    intro h17 tk17 hk17 ht17
    obtain ⟨tb, htb⟩ := tb9
    exact ret h17 tk17 (fun b o e => hk17 b o (KT15.other b o e (fun q => by cases q))) ⟨_, ht17 _ htb⟩ ⟨_, ht17 _ h63⟩ ⟨_, ht17 _ h817⟩
end Mine
end
section
open PySem PySem.W PyProof.Rows PySem.Calls
set_option Elab.async false
set_option maxRecDepth 100000
set_option maxHeartbeats 8000000
namespace Mine
set_option pp.deepTerms false
set_option pp.deepTerms.threshold 6
theorem tst : PySem.Challenge.rw_kt0066_01.Holds := by
  refine holds_law wellM fun said => ?_
  refine' holds_open (q := viewP) (loose := looseP) (Xt := XtM) (XP := XL viewP []) (Yf := obsM) (Ya := valM) (YP := saysM) (N := 100000) leftM saysM_of saysM_keeps (fun s e => xl_of s (Bool.and_eq_true_iff.mp e).1) XL.keeps ?h1 ?h2 ?h3 (fun s e => recFacts_of (Bool.and_eq_true_iff.mp e).2) (by rfl) said okM ⟨rfl, rfl, rfl, rfl, rfl, by decide +kernel⟩ witM ?hc
  case h1 => rfl
  case h2 => rfl
  case h3 => rfl
  case hc =>
    unfold saysM
    k_fill
    intro w s₀ s₁ mg mb G Y fa o pm cd doc dV kV ho hd hcd hD hmg hg args vals as hpre hlay hrd hwl hlo
    have KX : (fragK.heap_1 w.params).In s₁.heap := Y.1
    have hT8 : ∀ P ∈ ([795, 63, 817] : List Addr), s₁.heap.get? P = some (tabObj #[]) := Y.2
    have X := (Ground.X G).1
    have V := (Ground.X G).2
    refine Ground.open G ?_
    intro T B D TE TW
    try (refine guard_noD D (by decide +kernel) ?_; clear D)
    km_lay T hmg ho hd cd
    clear hmg
    wrow_args hpre hlay hrd hwl hlo
    all_goals (
      first | refine callC_kw (enter_call ?_) | refine enter_call ?_
      w_top on
      kn_posts
      w_call any ho hd hcd hD T F
      clear hd
      kn_ghosts F T
      k_drop
      skip)
    (rename Top _ _ _ _ _ (ghostOf _ _) => T0)
    obtain ⟨pV, lV, mV, T1⟩ : ∃ p l mn, Top p l mn mg mb (ghostOf s₁.heap [(799, 795), (67, 63), (819, 817)]) := ⟨_, _, _, T0⟩
    clear T0 T TE TW B X V Y; (try clear hT8); (try clear KX); (try clear G)
    rename_i ns9 z1 z2 z3 z4 z5 z6 z7 l9 vs9 z8 hl9 z9 z10 z11 hi9 z12 hn9 z13 h9 tk9 o9 ho9 hc9 X9 B9 F9 C1 C2 N9 l0
    have hL9 := (by assumption : Heap.IsList (ghostOf s₁.heap [(799, 795), (67, 63), (819, 817)]) l9 _)
    clear z1 z2 z3 z4 z5 z6 z7 z8 hl9 z9 z10 z11 z12 z13 hc9 hD hcd ho hT9 said
    replace ho9 : o9.data = .cell none := ho9
    replace F9 : Fr (ghostOf s₁.heap [(799, 795), (67, 63), (819, 817)]) s₁.heap.objs.size h9 (fun y => if y = S "script" then some (.ref l9) else none) := F9
    generalize hG : ghostOf s₁.heap [(799, 795), (67, 63), (819, 817)] = g at *
    generalize hLs : s₁.heap.objs.size = L at *
    have BF : BFacts w g pV lV mV mg mb := ⟨X9, T1⟩
    refine law_walk (h9 := h9) B9 F9 X9 T1 BF C1 C2 codeHd hL9 hi9 (by omega) ho9 N9 l0 ?_
    intro h' tk' hk g1 g2 g3
    refine ⟨⟨.inl ⟨.bool true, .bool true, [], rfl, ?e1, .bool true, ?e2, ?e3⟩, hk, rfl, hg⟩, g1, g2, g3, trivial⟩
    case e1 => intro cls; rfl
    case e2 => wrow_post
    case e3 => intro _; exact ⟨.nil, fun a ha => by cases ha⟩
end Mine
end
end
theorem PySem.Challenge.cw_kt0066_01_holds : PySem.Challenge.rw_kt0066_01.Holds := by
  exact Mine.tst
