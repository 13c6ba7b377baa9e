/- The numbers that SHA-512 begins with; a message filled up: the specification's, walked. Condition: at most 4000 bytes. -/
import Derived.Test.YtcbpnbfkjdmfgaaDoorSha3
import Derived.Great.BuildSlice
set_option linter.unusedVariables false
namespace Go.Proofs.YtcbpnbfkjdmfgaaDoor.Sha
open Go.ChangeShapes Go.WideShapes Go.ChangeAt Go.RowKit
open Go.Proofs.YtcbpnbfkjdmfgaaDoor.Dig Go.Proofs.YtcbpnbfkjdmfgaaDoor.Mem Go.Proofs.YtcbpnbfkjdmfgaaDoor.Rb

def KK : List Int := [4794697086780616226, 8158064640168781261, 13096744586834688815, 16840607885511220156, 4131703408338449720, 6480981068601479193, 10538285296894168987, 12329834152419229976, 15566598209576043074, 1334009975649890238, 2608012711638119052, 6128411473006802146, 8268148722764581231, 9286055187155687089, 11230858885718282805, 13951009754708518548, 16472876342353939154, 17275323862435702243, 1135362057144423861, 2597628984639134821, 3308224258029322869, 5365058923640841347, 6679025012923562964, 8573033837759648693, 10970295158949994411, 12119686244451234320, 12683024718118986047, 13788192230050041572, 14330467153632333762, 15395433587784984357, 489312712824947311, 1452737877330783856, 2861767655752347644, 3322285676063803686, 5560940570517711597, 5996557281743188959, 7280758554555802590, 8532644243296465576, 9350256976987008742, 10552545826968843579, 11727347734174303076, 12113106623233404929, 14000437183269869457, 14369950271660146224, 15101387698204529176, 15463397548674623760, 17586052441742319658, 1182934255886127544, 1847814050463011016, 2177327727835720531, 2830643537854262169, 3796741975233480872, 4115178125766777443, 5681478168544905931, 6601373596472566643, 7507060721942968483, 8399075790359081724, 8693463985226723168, 9568029438360202098, 10144078919501101548, 10430055236837252648, 11840083180663258601, 13761210420658862357, 14299343276471374635, 14566680578165727644, 15097957966210449927, 16922976911328602910, 17689382322260857208, 500013540394364858, 748580250866718886, 1242879168328830382, 1977374033974150939, 2944078676154940804, 3659926193048069267, 4368137639120453308, 4836135668995329356, 5532061633213252278, 6448918945643986474, 6902733635092675308, 7801388544844847127]
def S0 : S8 := ⟨7640891576956012808, 13503953896175478587, 4354685564936845355, 11912009170470909681, 5840696475078001361, 11170449401992604703, 2270897969802886507, 6620516959819538809⟩
theorem zero8 (w : World) : (zeroValue 50).run Tryd.prog w = .ok (.agg (IArr (zs 8))) w := by kernel_rfl
theorem info8 : (Tryd.prog.info? 50).map (·.size) = some 8 := by kernel_rfl
theorem size8 {xs : List Int} (h : xs.length = 8) : (Tryd.prog.info? 50).map (·.size) = some (IArr xs).size := by rw [IArr_size, h]; exact info8
theorem hu80 : Tryd.prog.underlying 52 = some (.array 80 49) := by kernel_rfl
theorem hs80 : (Tryd.prog.info? 49).map (·.size) = some 1 := by kernel_rfl
theorem hz80 : ((Tryd.prog.info? 52).bind (·.zero)).map (·.cells.size) = some KK.length := by kernel_rfl
theorem build_I {ops : Array Oper} {rest : List Oper} {o : Oper} {a : Act} {w : World} {Q : Exit → Act → World → Prop} (hg : o.guard = none) (parts : Array (Nat × Operand)) (ho : o.op = .build 52 parts)
    (hparts : parts.toList = (KK.zipIdx 0).map fun x => (x.2, Operand.const (Value.int .u64 x.1)))
    (h : wpList Tryd.prog ops Q rest (a.put o.dst (.agg (IArr KK))) w) : wpList Tryd.prog ops Q (o :: rest) a w :=
  wpList_buildFlatArr hg 52 49 80 parts ho .u64 KK hu80 hs80 hz80 hparts h
theorem KK_length : KK.length = 80 := by kernel_rfl

set_option maxRecDepth 100000 in
theorem startNumbers (w : World) :
    Calls Tryd.prog 27 #[] w fun e w' => e = .returned (.agg (IArr S0.list)) ∧ Below w.heap.size w w' := by
  have T0 := Lib.hid (row1_start w 50 (IArr (zs 8)))
  have hz := zero8
  have Z := Lib.hid (show (IArr (zs 8)).size = (IArr S0.list).size by rfl)
  have S := Lib.hid (size8 (xs := S0.list) rfl)
  go_enter Tryd.func27, Tryd.ntmps27
  go_wp2_with (refine store_r1 T0 rfl 50 (.tmp 0) (.tmp 1) rfl (IArr S0.list) rfl (by kernel_rfl) S.out Z.out (IArr_one _) ?_; intro w2 T2)
  refine bodyPost_ret (results_cell_row rfl _ _ w.heap.size 50 (IArr S0.list) (0, 0) _ rfl T2.out.a0 Tryd.underlying50 rfl S.out) rfl ?_
  exact ⟨rfl, T2.out.bel⟩

set_option maxRecDepth 100000 in
set_option maxHeartbeats 2000000 in
theorem roundNumbers (w : World) :
    Calls Tryd.prog 28 #[] w fun e w' => e = .returned (.agg (IArr KK)) ∧ Below w.heap.size w w' := by
  have T0 := Lib.hid (row1_start w 52 (IArr (zs 80)))
  have hz := zero80
  have Z := Lib.hid (show (IArr (zs 80)).size = (IArr KK).size by rw [IArr_size, IArr_size, KK_length]; simp [zs])
  have S := Lib.hid (size80 (xs := KK) KK_length)
  go_enter Tryd.func28, Tryd.ntmps28
  go_wp2_with (first
    | (refine build_I rfl _ rfl (by kernel_rfl) ?_)
    | (with_reducible refine store_r1 T0 rfl 52 (.tmp 0) (.tmp 1) rfl (IArr KK) rfl rfl S.out Z.out (IArr_one _) ?_; intro w2 T2))
  refine bodyPost_ret (results_cell_row rfl _ _ w.heap.size 52 (IArr KK) (0, 0) _ rfl T2.out.a0 Tryd.underlying52 rfl S.out) rfl ?_
  exact ⟨rfl, T2.out.bel⟩
end Go.Proofs.YtcbpnbfkjdmfgaaDoor.Sha
