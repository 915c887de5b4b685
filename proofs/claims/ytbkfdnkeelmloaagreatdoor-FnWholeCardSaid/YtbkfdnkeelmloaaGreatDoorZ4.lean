/- Part 4 of the proof: Fa. -/
import Derived.Test.YtbkfdnkeelmloaaGreatDoorProg
import Derived.Test.YtbkfdnkeelmloaaGreatDoorZ3
set_option linter.unusedVariables false
set_option linter.unusedSimpArgs false
namespace Go.Proofs.YtbkfdnkeelmloaaGreatDoor
open Go.AM Go
theorem sh2:shapeR Tryz.prog 2= .other:=by kernel_rfl
theorem ud2:(Tryz.prog.underlying 2).isSome=true:=by kernel_rfl
theorem ty2:tyR Tryz.prog 2=some (false,1):=by kernel_rfl
theorem zo2:zero1R Tryz.prog 2=some (.int .i64 0):=by kernel_rfl
theorem el2:elemR Tryz.prog 2=none:=by kernel_rfl
theorem in2:intR Tryz.prog 2=some .i64:=by kernel_rfl
theorem co2:concR Tryz.prog 2=true:=by kernel_rfl
theorem sh3:shapeR Tryz.prog 3= .other:=by kernel_rfl
theorem ud3:(Tryz.prog.underlying 3).isSome=true:=by kernel_rfl
theorem ty3:tyR Tryz.prog 3=some (false,1):=by kernel_rfl
theorem ze3:zeroR Tryz.prog 3=some [.int .i64 0]:=by kernel_rfl
theorem zo3:zero1R Tryz.prog 3=some (.int .i64 0):=by kernel_rfl
theorem el3:elemR Tryz.prog 3=none:=by kernel_rfl
theorem in3:intR Tryz.prog 3=some .i64:=by kernel_rfl
theorem sh4:shapeR Tryz.prog 4= .boo:=by kernel_rfl
theorem ty4:tyR Tryz.prog 4=some (false,1):=by kernel_rfl
theorem zo4:zero1R Tryz.prog 4=some (.bool false):=by kernel_rfl
theorem co4:concR Tryz.prog 4=true:=by kernel_rfl
theorem sh5:shapeR Tryz.prog 5= .other:=by kernel_rfl
theorem ud5:(Tryz.prog.underlying 5).isSome=true:=by kernel_rfl
theorem ty5:tyR Tryz.prog 5=some (false,1):=by kernel_rfl
theorem ze5:zeroR Tryz.prog 5=some [.int .u8 0]:=by kernel_rfl
theorem el5:elemR Tryz.prog 5=none:=by kernel_rfl
theorem in5:intR Tryz.prog 5=some .u8:=by kernel_rfl
theorem sh9:shapeR Tryz.prog 9= .str:=by kernel_rfl
theorem ud9:(Tryz.prog.underlying 9).isSome=true:=by kernel_rfl
theorem ty9:tyR Tryz.prog 9=some (false,1):=by kernel_rfl
theorem ze9:zeroR Tryz.prog 9=some [.string ⟨#[]⟩]:=by kernel_rfl
theorem zo9:zero1R Tryz.prog 9=some (.string ⟨#[]⟩):=by kernel_rfl
theorem el9:elemR Tryz.prog 9=none:=by kernel_rfl
theorem in9:intR Tryz.prog 9=none:=by kernel_rfl
theorem co9:concR Tryz.prog 9=true:=by kernel_rfl
theorem sh20:shapeR Tryz.prog 20= .ifc:=by kernel_rfl
theorem ty20:tyR Tryz.prog 20=some (false,1):=by kernel_rfl
theorem zo20:zero1R Tryz.prog 20=some (.nilIface):=by kernel_rfl
theorem co20:concR Tryz.prog 20=false:=by kernel_rfl
theorem sh21:shapeR Tryz.prog 21= .other:=by kernel_rfl
theorem ud21:(Tryz.prog.underlying 21).isSome=true:=by kernel_rfl
theorem ty21:tyR Tryz.prog 21=some (false,1):=by kernel_rfl
theorem el21:elemR Tryz.prog 21=none:=by kernel_rfl
theorem in21:intR Tryz.prog 21=some .i32:=by kernel_rfl
theorem ty23:tyR Tryz.prog 23=some (true,5):=by kernel_rfl
theorem fi23_0:fieldR Tryz.prog 23 0=some (0,1):=by kernel_rfl
theorem fi23_1:fieldR Tryz.prog 23 1=some (1,1):=by kernel_rfl
theorem fi23_2:fieldR Tryz.prog 23 2=some (2,1):=by kernel_rfl
theorem fi23_3:fieldR Tryz.prog 23 3=some (3,1):=by kernel_rfl
theorem sh24:shapeR Tryz.prog 24= .slc:=by kernel_rfl
theorem el24:elemR Tryz.prog 24=some (82,5,48):=by kernel_rfl
theorem sh25:shapeR Tryz.prog 25= .slc:=by kernel_rfl
theorem el25:elemR Tryz.prog 25=some (96,4,48):=by kernel_rfl
theorem sh26:shapeR Tryz.prog 26= .slc:=by kernel_rfl
theorem ty26:tyR Tryz.prog 26=some (false,1):=by kernel_rfl
theorem el26:elemR Tryz.prog 26=some (3,1,8):=by kernel_rfl
theorem sh27:shapeR Tryz.prog 27= .slc:=by kernel_rfl
theorem ty27:tyR Tryz.prog 27=some (false,1):=by kernel_rfl
theorem el27:elemR Tryz.prog 27=some (9,1,16):=by kernel_rfl
theorem sh28:shapeR Tryz.prog 28= .slc:=by kernel_rfl
theorem ty28:tyR Tryz.prog 28=some (false,1):=by kernel_rfl
theorem el28:elemR Tryz.prog 28=some (107,4,40):=by kernel_rfl
theorem sh29:shapeR Tryz.prog 29= .slc:=by kernel_rfl
theorem ty29:tyR Tryz.prog 29=some (false,1):=by kernel_rfl
theorem el29:elemR Tryz.prog 29=some (109,7,64):=by kernel_rfl
theorem ty31:tyR Tryz.prog 31=some (true,16):=by kernel_rfl
theorem fi31_0:fieldR Tryz.prog 31 0=some (0,1):=by kernel_rfl
theorem fi31_1:fieldR Tryz.prog 31 1=some (1,1):=by kernel_rfl
theorem fi31_2:fieldR Tryz.prog 31 2=some (2,1):=by kernel_rfl
theorem fi31_3:fieldR Tryz.prog 31 3=some (3,1):=by kernel_rfl
theorem fi31_4:fieldR Tryz.prog 31 4=some (4,1):=by kernel_rfl
theorem fi31_5:fieldR Tryz.prog 31 5=some (5,1):=by kernel_rfl
theorem fi31_6:fieldR Tryz.prog 31 6=some (6,1):=by kernel_rfl
theorem fi31_7:fieldR Tryz.prog 31 7=some (7,1):=by kernel_rfl
theorem fi31_8:fieldR Tryz.prog 31 8=some (8,1):=by kernel_rfl
theorem fi31_9:fieldR Tryz.prog 31 9=some (9,1):=by kernel_rfl
theorem fi31_10:fieldR Tryz.prog 31 10=some (10,1):=by kernel_rfl
theorem fi31_11:fieldR Tryz.prog 31 11=some (11,1):=by kernel_rfl
theorem fi31_12:fieldR Tryz.prog 31 12=some (12,1):=by kernel_rfl
theorem fi31_13:fieldR Tryz.prog 31 13=some (13,1):=by kernel_rfl
theorem fi31_14:fieldR Tryz.prog 31 14=some (14,1):=by kernel_rfl
theorem fi31_15:fieldR Tryz.prog 31 15=some (15,1):=by kernel_rfl
theorem sh32:shapeR Tryz.prog 32= .slc:=by kernel_rfl
theorem ud32:(Tryz.prog.underlying 32).isSome=true:=by kernel_rfl
theorem ty32:tyR Tryz.prog 32=some (false,1):=by kernel_rfl
theorem ze32:zeroR Tryz.prog 32=some [.slice none 0 0]:=by kernel_rfl
theorem zo32:zero1R Tryz.prog 32=some (.slice none 0 0):=by kernel_rfl
theorem el32:elemR Tryz.prog 32=some (5,1,1):=by kernel_rfl
theorem in32:intR Tryz.prog 32=none:=by kernel_rfl
theorem co32:concR Tryz.prog 32=true:=by kernel_rfl
theorem sh38:shapeR Tryz.prog 38= .slc:=by kernel_rfl
theorem ty38:tyR Tryz.prog 38=some (false,1):=by kernel_rfl
theorem el38:elemR Tryz.prog 38=some (76,15,104):=by kernel_rfl
theorem el44:elemR Tryz.prog 44=some (49,1,24):=by kernel_rfl
theorem sh46:shapeR Tryz.prog 46= .other:=by kernel_rfl
theorem ud46:(Tryz.prog.underlying 46).isSome=true:=by kernel_rfl
theorem ty46:tyR Tryz.prog 46=some (false,1):=by kernel_rfl
theorem zo46:zero1R Tryz.prog 46=some (.int .u64 0):=by kernel_rfl
theorem el46:elemR Tryz.prog 46=none:=by kernel_rfl
theorem in46:intR Tryz.prog 46=some .u64:=by kernel_rfl
theorem co46:concR Tryz.prog 46=true:=by kernel_rfl
theorem ty48:tyR Tryz.prog 48=some (true,6):=by kernel_rfl
theorem ze48:zeroR Tryz.prog 48=some [.int .i64 0,.int .i64 0,.bool false,.int .u64 0,.string ⟨#[]⟩,.slice none 0 0]:=by kernel_rfl
theorem in48:intR Tryz.prog 48=none:=by kernel_rfl
theorem fi48_0:fieldR Tryz.prog 48 0=some (0,1):=by kernel_rfl
theorem fi48_1:fieldR Tryz.prog 48 1=some (1,1):=by kernel_rfl
theorem fi48_2:fieldR Tryz.prog 48 2=some (2,1):=by kernel_rfl
theorem fi48_3:fieldR Tryz.prog 48 3=some (3,1):=by kernel_rfl
theorem fi48_4:fieldR Tryz.prog 48 4=some (4,1):=by kernel_rfl
theorem fi48_5:fieldR Tryz.prog 48 5=some (5,1):=by kernel_rfl
theorem so48:structOK Tryz.prog 48=true:=by kernel_rfl
theorem sh49:shapeR Tryz.prog 49= .slc:=by kernel_rfl
theorem ty49:tyR Tryz.prog 49=some (false,1):=by kernel_rfl
theorem ze49:zeroR Tryz.prog 49=some [.slice none 0 0]:=by kernel_rfl
theorem el49:elemR Tryz.prog 49=some (48,6,72):=by kernel_rfl
theorem in49:intR Tryz.prog 49=none:=by kernel_rfl
theorem sh50:shapeR Tryz.prog 50= .slc:=by kernel_rfl
theorem ty50:tyR Tryz.prog 50=some (false,1):=by kernel_rfl
theorem el50:elemR Tryz.prog 50=some (130,2,40):=by kernel_rfl
theorem ty52:tyR Tryz.prog 52=some (true,7):=by kernel_rfl
theorem ze52:zeroR Tryz.prog 52=some [.slice none 0 0,.slice none 0 0,.slice none 0 0,.slice none 0 0,.slice none 0 0,.slice none 0 0,.slice none 0 0]:=by kernel_rfl
theorem fi52_0:fieldR Tryz.prog 52 0=some (0,1):=by kernel_rfl
theorem fi52_1:fieldR Tryz.prog 52 1=some (1,1):=by kernel_rfl
theorem fi52_2:fieldR Tryz.prog 52 2=some (2,1):=by kernel_rfl
theorem fi52_3:fieldR Tryz.prog 52 3=some (3,1):=by kernel_rfl
theorem fi52_4:fieldR Tryz.prog 52 4=some (4,1):=by kernel_rfl
theorem fi52_5:fieldR Tryz.prog 52 5=some (5,1):=by kernel_rfl
theorem fi52_6:fieldR Tryz.prog 52 6=some (6,1):=by kernel_rfl
theorem so52:structOK Tryz.prog 52=true:=by kernel_rfl
theorem sh53:shapeR Tryz.prog 53= .slc:=by kernel_rfl
theorem el53:elemR Tryz.prog 53=some (58,2,32):=by kernel_rfl
theorem sh56:shapeR Tryz.prog 56= .slc:=by kernel_rfl
theorem ty56:tyR Tryz.prog 56=some (false,1):=by kernel_rfl
theorem el56:elemR Tryz.prog 56=some (65,4,48):=by kernel_rfl
theorem ty58:tyR Tryz.prog 58=some (true,2):=by kernel_rfl
theorem ze58:zeroR Tryz.prog 58=some [.int .i64 0,.slice none 0 0]:=by kernel_rfl
theorem in58:intR Tryz.prog 58=none:=by kernel_rfl
theorem fi58_0:fieldR Tryz.prog 58 0=some (0,1):=by kernel_rfl
theorem fi58_1:fieldR Tryz.prog 58 1=some (1,1):=by kernel_rfl
theorem so58:structOK Tryz.prog 58=true:=by kernel_rfl
theorem sh59:shapeR Tryz.prog 59= .slc:=by kernel_rfl
theorem el59:elemR Tryz.prog 59=some (67,7,72):=by kernel_rfl
theorem sh62:shapeR Tryz.prog 62= .slc:=by kernel_rfl
theorem el62:elemR Tryz.prog 62=some (140,2,16):=by kernel_rfl
theorem sh63:shapeR Tryz.prog 63= .slc:=by kernel_rfl
theorem ty63:tyR Tryz.prog 63=some (false,1):=by kernel_rfl
theorem el63:elemR Tryz.prog 63=some (203,6,72):=by kernel_rfl
theorem ty65:tyR Tryz.prog 65=some (true,4):=by kernel_rfl
theorem ze65:zeroR Tryz.prog 65=some [.int .i64 0,.int .i64 0,.bool false,.slice none 0 0]:=by kernel_rfl
theorem in65:intR Tryz.prog 65=none:=by kernel_rfl
theorem fi65_0:fieldR Tryz.prog 65 0=some (0,1):=by kernel_rfl
theorem fi65_1:fieldR Tryz.prog 65 1=some (1,1):=by kernel_rfl
theorem fi65_2:fieldR Tryz.prog 65 2=some (2,1):=by kernel_rfl
theorem fi65_3:fieldR Tryz.prog 65 3=some (3,1):=by kernel_rfl
theorem so65:structOK Tryz.prog 65=true:=by kernel_rfl
theorem ty67:tyR Tryz.prog 67=some (true,7):=by kernel_rfl
theorem ze67:zeroR Tryz.prog 67=some [.bool false,.int .i64 0,.int .i64 0,.bool false,.slice none 0 0,.int .i64 0,.int .i64 0]:=by kernel_rfl
theorem in67:intR Tryz.prog 67=none:=by kernel_rfl
theorem fi67_0:fieldR Tryz.prog 67 0=some (0,1):=by kernel_rfl
theorem fi67_1:fieldR Tryz.prog 67 1=some (1,4):=by kernel_rfl
theorem fi67_2:fieldR Tryz.prog 67 2=some (5,1):=by kernel_rfl
theorem fi67_3:fieldR Tryz.prog 67 3=some (6,1):=by kernel_rfl
theorem sh69:shapeR Tryz.prog 69= .slc:=by kernel_rfl
theorem el69:elemR Tryz.prog 69=some (79,17,136):=by kernel_rfl
theorem sh72:shapeR Tryz.prog 72= .slc:=by kernel_rfl
theorem el72:elemR Tryz.prog 72=some (234,3,24):=by kernel_rfl
theorem ty74:tyR Tryz.prog 74=some (true,4):=by kernel_rfl
theorem ze74:zeroR Tryz.prog 74=some [.bool false,.string ⟨#[]⟩,.int .u64 0,.int .i64 0]:=by kernel_rfl
theorem in74:intR Tryz.prog 74=none:=by kernel_rfl
theorem fi74_0:fieldR Tryz.prog 74 0=some (0,1):=by kernel_rfl
theorem fi74_1:fieldR Tryz.prog 74 1=some (1,1):=by kernel_rfl
theorem fi74_2:fieldR Tryz.prog 74 2=some (2,1):=by kernel_rfl
theorem fi74_3:fieldR Tryz.prog 74 3=some (3,1):=by kernel_rfl
theorem so74:structOK Tryz.prog 74=true:=by kernel_rfl
theorem sh76:shapeR Tryz.prog 76= .other:=by kernel_rfl
theorem ty76:tyR Tryz.prog 76=some (true,15):=by kernel_rfl
theorem ze76:zeroR Tryz.prog 76=some [.int .u64 0,.int .i64 0,.bool false,.string ⟨#[]⟩,.int .u64 0,.int .i64 0,.int .i64 0,.int .i64 0,.bool false,.bool false,.bool false,.bool false,.int .i64 0,.int .i64 0,.bool false]:=by kernel_rfl
theorem in76:intR Tryz.prog 76=none:=by kernel_rfl
theorem fi76_0:fieldR Tryz.prog 76 0=some (0,1):=by kernel_rfl
theorem fi76_1:fieldR Tryz.prog 76 1=some (1,1):=by kernel_rfl
theorem fi76_2:fieldR Tryz.prog 76 2=some (2,4):=by kernel_rfl
theorem fi76_3:fieldR Tryz.prog 76 3=some (6,1):=by kernel_rfl
theorem fi76_4:fieldR Tryz.prog 76 4=some (7,1):=by kernel_rfl
theorem fi76_5:fieldR Tryz.prog 76 5=some (8,1):=by kernel_rfl
theorem fi76_6:fieldR Tryz.prog 76 6=some (9,1):=by kernel_rfl
theorem fi76_7:fieldR Tryz.prog 76 7=some (10,1):=by kernel_rfl
theorem fi76_8:fieldR Tryz.prog 76 8=some (11,1):=by kernel_rfl
theorem fi76_9:fieldR Tryz.prog 76 9=some (12,1):=by kernel_rfl
theorem fi76_10:fieldR Tryz.prog 76 10=some (13,1):=by kernel_rfl
theorem fi76_11:fieldR Tryz.prog 76 11=some (14,1):=by kernel_rfl
theorem so76:structOK Tryz.prog 76=true:=by kernel_rfl
theorem sh77:shapeR Tryz.prog 77= .slc:=by kernel_rfl
theorem ty77:tyR Tryz.prog 77=some (false,1):=by kernel_rfl
theorem el77:elemR Tryz.prog 77=some (74,4,40):=by kernel_rfl
theorem ty79:tyR Tryz.prog 79=some (true,17):=by kernel_rfl
theorem ze79:zeroR Tryz.prog 79=some [.int .u64 0,.int .i64 0,.bool false,.string ⟨#[]⟩,.int .u64 0,.int .i64 0,.int .i64 0,.int .i64 0,.bool false,.bool false,.bool false,.bool false,.int .i64 0,.int .i64 0,.bool false,.slice none 0 0,.int .i64 0]:=by kernel_rfl
theorem in79:intR Tryz.prog 79=none:=by kernel_rfl
theorem fi79_0:fieldR Tryz.prog 79 0=some (0,15):=by kernel_rfl
theorem fi79_1:fieldR Tryz.prog 79 1=some (15,1):=by kernel_rfl
theorem fi79_2:fieldR Tryz.prog 79 2=some (16,1):=by kernel_rfl
theorem sh80:shapeR Tryz.prog 80= .slc:=by kernel_rfl
theorem ty80:tyR Tryz.prog 80=some (false,1):=by kernel_rfl
theorem el80:elemR Tryz.prog 80=some (156,3,24):=by kernel_rfl
theorem ty82:tyR Tryz.prog 82=some (true,5):=by kernel_rfl
theorem ze82:zeroR Tryz.prog 82=some [.int .u64 0,.int .u64 0,.bool false,.bool false,.slice none 0 0]:=by kernel_rfl
theorem fi82_0:fieldR Tryz.prog 82 0=some (0,1):=by kernel_rfl
theorem fi82_1:fieldR Tryz.prog 82 1=some (1,1):=by kernel_rfl
theorem fi82_2:fieldR Tryz.prog 82 2=some (2,1):=by kernel_rfl
theorem fi82_3:fieldR Tryz.prog 82 3=some (3,1):=by kernel_rfl
theorem fi82_4:fieldR Tryz.prog 82 4=some (4,1):=by kernel_rfl
theorem sh83:shapeR Tryz.prog 83= .slc:=by kernel_rfl
theorem el83:elemR Tryz.prog 83=some (154,2,16):=by kernel_rfl
theorem sh94:shapeR Tryz.prog 94= .slc:=by kernel_rfl
theorem ty94:tyR Tryz.prog 94=some (false,1):=by kernel_rfl
theorem el94:elemR Tryz.prog 94=some (125,4,40):=by kernel_rfl
theorem ty96:tyR Tryz.prog 96=some (true,4):=by kernel_rfl
theorem ze96:zeroR Tryz.prog 96=some [.int .i64 0,.bool false,.int .i64 0,.slice none 0 0]:=by kernel_rfl
theorem in96:intR Tryz.prog 96=none:=by kernel_rfl
theorem fi96_0:fieldR Tryz.prog 96 0=some (0,1):=by kernel_rfl
theorem fi96_1:fieldR Tryz.prog 96 1=some (1,1):=by kernel_rfl
theorem fi96_2:fieldR Tryz.prog 96 2=some (2,1):=by kernel_rfl
theorem fi96_3:fieldR Tryz.prog 96 3=some (3,1):=by kernel_rfl
theorem so96:structOK Tryz.prog 96=true:=by kernel_rfl
theorem ty105:tyR Tryz.prog 105=some (true,36):=by kernel_rfl
theorem ze105:zeroR Tryz.prog 105=some [.int .i64 0,.bool false,.bool false,.int .i64 0,.int .i64 0,.int .i64 0,.bool false,.int .i64 0,.int .i64 0,.int .i64 0,.slice none 0 0,.int .i64 0,.int .i64 0,.slice none 0 0,.slice none 0 0,.slice none 0 0,.int .u64 0,.int .i64 0,.bool false,.string ⟨#[]⟩,.int .u64 0,.int .i64 0,.int .i64 0,.int .i64 0,.bool false,.bool false,.bool false,.bool false,.int .i64 0,.int .i64 0,.bool false,.int .i64 0,.slice none 0 0,.slice none 0 0,.slice none 0 0,.bool false]:=by kernel_rfl
theorem fi105_0:fieldR Tryz.prog 105 0=some (0,16):=by kernel_rfl
theorem fi105_1:fieldR Tryz.prog 105 1=some (16,15):=by kernel_rfl
theorem fi105_2:fieldR Tryz.prog 105 2=some (31,1):=by kernel_rfl
theorem fi105_3:fieldR Tryz.prog 105 3=some (32,1):=by kernel_rfl
theorem fi105_4:fieldR Tryz.prog 105 4=some (33,1):=by kernel_rfl
theorem fi105_5:fieldR Tryz.prog 105 5=some (34,1):=by kernel_rfl
theorem fi105_6:fieldR Tryz.prog 105 6=some (35,1):=by kernel_rfl
theorem so105:structOK Tryz.prog 105=true:=by kernel_rfl
theorem ty107:tyR Tryz.prog 107=some (true,4):=by kernel_rfl
theorem ze107:zeroR Tryz.prog 107=some [.string ⟨#[]⟩,.int .i64 0,.int .u64 0,.int .i64 0]:=by kernel_rfl
theorem in107:intR Tryz.prog 107=none:=by kernel_rfl
theorem fi107_0:fieldR Tryz.prog 107 0=some (0,1):=by kernel_rfl
theorem fi107_1:fieldR Tryz.prog 107 1=some (1,1):=by kernel_rfl
theorem fi107_2:fieldR Tryz.prog 107 2=some (2,1):=by kernel_rfl
theorem fi107_3:fieldR Tryz.prog 107 3=some (3,1):=by kernel_rfl
theorem ty109:tyR Tryz.prog 109=some (true,7):=by kernel_rfl
theorem ze109:zeroR Tryz.prog 109=some [.int .i64 0,.int .u64 0,.int .i64 0,.string ⟨#[]⟩,.int .i64 0,.int .u64 0,.int .i64 0]:=by kernel_rfl
theorem fi109_0:fieldR Tryz.prog 109 0=some (0,1):=by kernel_rfl
theorem fi109_1:fieldR Tryz.prog 109 1=some (1,1):=by kernel_rfl
theorem fi109_2:fieldR Tryz.prog 109 2=some (2,1):=by kernel_rfl
theorem fi109_3:fieldR Tryz.prog 109 3=some (3,4):=by kernel_rfl
theorem ty122:tyR Tryz.prog 122=some (true,2):=by kernel_rfl
theorem ze122:zeroR Tryz.prog 122=some [.slice none 0 0,.slice none 0 0]:=by kernel_rfl
theorem fi122_0:fieldR Tryz.prog 122 0=some (0,1):=by kernel_rfl
theorem fi122_1:fieldR Tryz.prog 122 1=some (1,1):=by kernel_rfl
theorem so122:structOK Tryz.prog 122=true:=by kernel_rfl
theorem ty125:tyR Tryz.prog 125=some (true,4):=by kernel_rfl
theorem ze125:zeroR Tryz.prog 125=some [.int .i64 0,.bool false,.bool false,.slice none 0 0]:=by kernel_rfl
theorem in125:intR Tryz.prog 125=none:=by kernel_rfl
theorem fi125_0:fieldR Tryz.prog 125 0=some (0,1):=by kernel_rfl
theorem fi125_1:fieldR Tryz.prog 125 1=some (1,1):=by kernel_rfl
theorem fi125_2:fieldR Tryz.prog 125 2=some (2,1):=by kernel_rfl
theorem fi125_3:fieldR Tryz.prog 125 3=some (3,1):=by kernel_rfl
theorem so125:structOK Tryz.prog 125=true:=by kernel_rfl
theorem ty130:tyR Tryz.prog 130=some (true,2):=by kernel_rfl
theorem ze130:zeroR Tryz.prog 130=some [.string ⟨#[]⟩,.slice none 0 0]:=by kernel_rfl
theorem in130:intR Tryz.prog 130=none:=by kernel_rfl
theorem fi130_0:fieldR Tryz.prog 130 0=some (0,1):=by kernel_rfl
theorem fi130_1:fieldR Tryz.prog 130 1=some (1,1):=by kernel_rfl
theorem so130:structOK Tryz.prog 130=true:=by kernel_rfl
theorem ty131:tyR Tryz.prog 131=some (false,1):=by kernel_rfl
theorem sh133:shapeR Tryz.prog 133= .ifc:=by kernel_rfl
theorem ty133:tyR Tryz.prog 133=some (false,1):=by kernel_rfl
theorem zo133:zero1R Tryz.prog 133=some (.nilIface):=by kernel_rfl
theorem co133:concR Tryz.prog 133=false:=by kernel_rfl
theorem ty140:tyR Tryz.prog 140=some (true,2):=by kernel_rfl
theorem ze140:zeroR Tryz.prog 140=some [.int .i64 0,.int .i64 0]:=by kernel_rfl
theorem in140:intR Tryz.prog 140=none:=by kernel_rfl
theorem fi140_0:fieldR Tryz.prog 140 0=some (0,1):=by kernel_rfl
theorem fi140_1:fieldR Tryz.prog 140 1=some (1,1):=by kernel_rfl
theorem sh144:shapeR Tryz.prog 144= .other:=by kernel_rfl
theorem ud144:(Tryz.prog.underlying 144).isSome=true:=by kernel_rfl
theorem ty144:tyR Tryz.prog 144=some (false,1):=by kernel_rfl
theorem el144:elemR Tryz.prog 144=none:=by kernel_rfl
theorem in144:intR Tryz.prog 144=some .u32:=by kernel_rfl
theorem co144:concR Tryz.prog 144=true:=by kernel_rfl
theorem sh145:shapeR Tryz.prog 145= .other:=by kernel_rfl
theorem ud145:(Tryz.prog.underlying 145).isSome=true:=by kernel_rfl
theorem ty145:tyR Tryz.prog 145=some (false,1):=by kernel_rfl
theorem zo145:zero1R Tryz.prog 145=some (.int .u32 0):=by kernel_rfl
theorem el145:elemR Tryz.prog 145=none:=by kernel_rfl
theorem in145:intR Tryz.prog 145=some .u32:=by kernel_rfl
theorem co145:concR Tryz.prog 145=true:=by kernel_rfl
theorem sh146:shapeR Tryz.prog 146= .ptr:=by kernel_rfl
theorem ty146:tyR Tryz.prog 146=some (false,1):=by kernel_rfl
theorem sh154:shapeR Tryz.prog 154= .other:=by kernel_rfl
theorem ty154:tyR Tryz.prog 154=some (true,2):=by kernel_rfl
theorem ze154:zeroR Tryz.prog 154=some [.int .u64 0,.int .u64 0]:=by kernel_rfl
theorem el154:elemR Tryz.prog 154=none:=by kernel_rfl
theorem so154:structOK Tryz.prog 154=false:=by kernel_rfl
theorem ar154:arrR Tryz.prog 154=some (2,1):=by kernel_rfl
theorem in154:intR Tryz.prog 154=none:=by kernel_rfl
theorem ty156:tyR Tryz.prog 156=some (true,3):=by kernel_rfl
theorem ze156:zeroR Tryz.prog 156=some [.int .i64 0,.int .u64 0,.int .u64 0]:=by kernel_rfl
theorem fi156_0:fieldR Tryz.prog 156 0=some (0,1):=by kernel_rfl
theorem fi156_1:fieldR Tryz.prog 156 1=some (1,1):=by kernel_rfl
theorem fi156_2:fieldR Tryz.prog 156 2=some (2,1):=by kernel_rfl
theorem sh174:shapeR Tryz.prog 174= .other:=by kernel_rfl
theorem ud174:(Tryz.prog.underlying 174).isSome=true:=by kernel_rfl
theorem el174:elemR Tryz.prog 174=none:=by kernel_rfl
theorem in174:intR Tryz.prog 174=some .u64:=by kernel_rfl
theorem sh180:shapeR Tryz.prog 180= .slc:=by kernel_rfl
theorem el180:elemR Tryz.prog 180=some (32,1,24):=by kernel_rfl
theorem ty189:tyR Tryz.prog 189=some (true,3):=by kernel_rfl
theorem ze189:zeroR Tryz.prog 189=some [.string ⟨#[]⟩,.int .u32 0,.string ⟨#[]⟩]:=by kernel_rfl
theorem co189:concR Tryz.prog 189=true:=by kernel_rfl
theorem fi189_0:fieldR Tryz.prog 189 0=some (0,1):=by kernel_rfl
theorem fi189_1:fieldR Tryz.prog 189 1=some (1,1):=by kernel_rfl
theorem fi189_2:fieldR Tryz.prog 189 2=some (2,1):=by kernel_rfl
theorem so189:structOK Tryz.prog 189=true:=by kernel_rfl
theorem ty192:tyR Tryz.prog 192=some (true,1):=by kernel_rfl
theorem ze192:zeroR Tryz.prog 192=some [.bool false]:=by kernel_rfl
theorem fi192_0:fieldR Tryz.prog 192 0=some (0,1):=by kernel_rfl
theorem so192:structOK Tryz.prog 192=true:=by kernel_rfl
theorem ty194:tyR Tryz.prog 194=some (false,1):=by kernel_rfl
theorem ty196:tyR Tryz.prog 196=some (true,7):=by kernel_rfl
theorem ze196:zeroR Tryz.prog 196=some [.pointer none,.bool false,.nilIface,.string ⟨#[]⟩,.int .u32 0,.slice none 0 0,.nilIface]:=by kernel_rfl
theorem fi196_0:fieldR Tryz.prog 196 0=some (0,1):=by kernel_rfl
theorem fi196_1:fieldR Tryz.prog 196 1=some (1,1):=by kernel_rfl
theorem fi196_2:fieldR Tryz.prog 196 2=some (2,1):=by kernel_rfl
theorem fi196_3:fieldR Tryz.prog 196 3=some (3,1):=by kernel_rfl
theorem fi196_4:fieldR Tryz.prog 196 4=some (4,1):=by kernel_rfl
theorem fi196_5:fieldR Tryz.prog 196 5=some (5,1):=by kernel_rfl
theorem fi196_6:fieldR Tryz.prog 196 6=some (6,1):=by kernel_rfl
theorem so196:structOK Tryz.prog 196=true:=by kernel_rfl
theorem ty198:tyR Tryz.prog 198=some (true,14):=by kernel_rfl
theorem ze198:zeroR Tryz.prog 198=some [.pointer none,.bool false,.nilIface,.string ⟨#[]⟩,.int .u32 0,.slice none 0 0,.nilIface,.pointer none,.nilIface,.int .i64 0,.bool false,.bool false,.int .u32 0,.pointer none]:=by kernel_rfl
theorem fi198_0:fieldR Tryz.prog 198 0=some (0,7):=by kernel_rfl
theorem fi198_1:fieldR Tryz.prog 198 1=some (7,1):=by kernel_rfl
theorem fi198_2:fieldR Tryz.prog 198 2=some (8,1):=by kernel_rfl
theorem fi198_3:fieldR Tryz.prog 198 3=some (9,1):=by kernel_rfl
theorem fi198_4:fieldR Tryz.prog 198 4=some (10,1):=by kernel_rfl
theorem fi198_5:fieldR Tryz.prog 198 5=some (11,1):=by kernel_rfl
theorem fi198_6:fieldR Tryz.prog 198 6=some (12,1):=by kernel_rfl
theorem fi198_7:fieldR Tryz.prog 198 7=some (13,1):=by kernel_rfl
theorem so198:structOK Tryz.prog 198=true:=by kernel_rfl
theorem ty201:tyR Tryz.prog 201=some (true,5):=by kernel_rfl
theorem ze201:zeroR Tryz.prog 201=some [.int .i64 0,.int .i64 0,.int .u64 0,.string ⟨#[]⟩,.slice none 0 0]:=by kernel_rfl
theorem fi201_0:fieldR Tryz.prog 201 0=some (0,1):=by kernel_rfl
theorem fi201_1:fieldR Tryz.prog 201 1=some (1,1):=by kernel_rfl
theorem fi201_2:fieldR Tryz.prog 201 2=some (2,1):=by kernel_rfl
theorem fi201_3:fieldR Tryz.prog 201 3=some (3,1):=by kernel_rfl
theorem fi201_4:fieldR Tryz.prog 201 4=some (4,1):=by kernel_rfl
theorem so201:structOK Tryz.prog 201=true:=by kernel_rfl
theorem ze203:zeroR Tryz.prog 203=some [.int .i64 0,.int .i64 0,.int .i64 0,.int .u64 0,.string ⟨#[]⟩,.slice none 0 0]:=by kernel_rfl
theorem in203:intR Tryz.prog 203=none:=by kernel_rfl
theorem fi203_0:fieldR Tryz.prog 203 0=some (0,1):=by kernel_rfl
theorem fi203_1:fieldR Tryz.prog 203 1=some (1,5):=by kernel_rfl
theorem so203:structOK Tryz.prog 203=true:=by kernel_rfl
theorem sh205:shapeR Tryz.prog 205= .mpp:=by kernel_rfl
theorem ty205:tyR Tryz.prog 205=some (false,1):=by kernel_rfl
theorem mr205:mapR Tryz.prog 205=some (.u64,213):=by kernel_rfl
theorem sh206:shapeR Tryz.prog 206= .mpp:=by kernel_rfl
theorem mr206:mapR Tryz.prog 206=some (.u32,321):=by kernel_rfl
theorem sh207:shapeR Tryz.prog 207= .mpp:=by kernel_rfl
theorem ty207:tyR Tryz.prog 207=some (false,1):=by kernel_rfl
theorem mr207:mapR Tryz.prog 207=some (.u64,319):=by kernel_rfl
theorem sh208:shapeR Tryz.prog 208= .slc:=by kernel_rfl
theorem ty208:tyR Tryz.prog 208=some (false,1):=by kernel_rfl
theorem el208:elemR Tryz.prog 208=some (216,9,72):=by kernel_rfl
theorem ty210:tyR Tryz.prog 210=some (true,18):=by kernel_rfl
theorem ze210:zeroR Tryz.prog 210=some [.slice none 0 0,.slice none 0 0,.slice none 0 0,.slice none 0 0,.slice none 0 0,.slice none 0 0,.slice none 0 0,.slice none 0 0,.slice none 0 0,.slice none 0 0,.slice none 0 0,.slice none 0 0,.map none,.bool false,.bool false,.map none,.map none,.slice none 0 0]:=by kernel_rfl
theorem fi210_0:fieldR Tryz.prog 210 0=some (0,1):=by kernel_rfl
theorem fi210_1:fieldR Tryz.prog 210 1=some (1,1):=by kernel_rfl
theorem fi210_2:fieldR Tryz.prog 210 2=some (2,1):=by kernel_rfl
theorem fi210_3:fieldR Tryz.prog 210 3=some (3,1):=by kernel_rfl
theorem fi210_4:fieldR Tryz.prog 210 4=some (4,1):=by kernel_rfl
theorem fi210_5:fieldR Tryz.prog 210 5=some (5,1):=by kernel_rfl
theorem fi210_6:fieldR Tryz.prog 210 6=some (6,1):=by kernel_rfl
theorem fi210_7:fieldR Tryz.prog 210 7=some (7,1):=by kernel_rfl
theorem fi210_8:fieldR Tryz.prog 210 8=some (8,1):=by kernel_rfl
theorem fi210_9:fieldR Tryz.prog 210 9=some (9,1):=by kernel_rfl
theorem fi210_10:fieldR Tryz.prog 210 10=some (10,1):=by kernel_rfl
theorem fi210_11:fieldR Tryz.prog 210 11=some (11,1):=by kernel_rfl
theorem fi210_12:fieldR Tryz.prog 210 12=some (12,1):=by kernel_rfl
theorem fi210_13:fieldR Tryz.prog 210 13=some (13,1):=by kernel_rfl
theorem fi210_14:fieldR Tryz.prog 210 14=some (14,1):=by kernel_rfl
theorem fi210_15:fieldR Tryz.prog 210 15=some (15,1):=by kernel_rfl
theorem fi210_16:fieldR Tryz.prog 210 16=some (16,1):=by kernel_rfl
theorem fi210_17:fieldR Tryz.prog 210 17=some (17,1):=by kernel_rfl
theorem so210:structOK Tryz.prog 210=true:=by kernel_rfl
theorem sh211:shapeR Tryz.prog 211= .ptr:=by kernel_rfl
theorem co211:concR Tryz.prog 211=true:=by kernel_rfl
theorem sh213:shapeR Tryz.prog 213= .mpp:=by kernel_rfl
theorem ty213:tyR Tryz.prog 213=some (false,1):=by kernel_rfl
theorem zo213:zero1R Tryz.prog 213=some (.map none):=by kernel_rfl
theorem mr213:mapR Tryz.prog 213=some (.u32,270):=by kernel_rfl
theorem sh214:shapeR Tryz.prog 214= .ptr:=by kernel_rfl
theorem ty214:tyR Tryz.prog 214=some (false,1):=by kernel_rfl
theorem ze216:zeroR Tryz.prog 216=some [.int .u32 0,.int .u32 0,.slice none 0 0,.map none,.pointer none,.int .i64 0,.int .i64 0,.bool false,.int .u8 0]:=by kernel_rfl
theorem in216:intR Tryz.prog 216=none:=by kernel_rfl
theorem fi216_0:fieldR Tryz.prog 216 0=some (0,1):=by kernel_rfl
theorem fi216_1:fieldR Tryz.prog 216 1=some (1,1):=by kernel_rfl
theorem fi216_2:fieldR Tryz.prog 216 2=some (2,1):=by kernel_rfl
theorem fi216_3:fieldR Tryz.prog 216 3=some (3,1):=by kernel_rfl
theorem fi216_4:fieldR Tryz.prog 216 4=some (4,1):=by kernel_rfl
theorem fi216_5:fieldR Tryz.prog 216 5=some (5,1):=by kernel_rfl
theorem fi216_6:fieldR Tryz.prog 216 6=some (6,1):=by kernel_rfl
theorem fi216_7:fieldR Tryz.prog 216 7=some (7,1):=by kernel_rfl
theorem fi216_8:fieldR Tryz.prog 216 8=some (8,1):=by kernel_rfl
theorem so216:structOK Tryz.prog 216=true:=by kernel_rfl
theorem sh222:shapeR Tryz.prog 222= .other:=by kernel_rfl
theorem ud222:(Tryz.prog.underlying 222).isSome=true:=by kernel_rfl
theorem ty222:tyR Tryz.prog 222=some (false,1):=by kernel_rfl
theorem el222:elemR Tryz.prog 222=none:=by kernel_rfl
theorem in222:intR Tryz.prog 222=some .u32:=by kernel_rfl
theorem sh223:shapeR Tryz.prog 223= .slc:=by kernel_rfl
theorem ty223:tyR Tryz.prog 223=some (false,1):=by kernel_rfl
theorem el223:elemR Tryz.prog 223=some (242,3,32):=by kernel_rfl
theorem ty225:tyR Tryz.prog 225=some (true,4):=by kernel_rfl
theorem ze225:zeroR Tryz.prog 225=some [.int .u32 0,.int .u32 0,.bool false,.slice none 0 0]:=by kernel_rfl
theorem fi225_0:fieldR Tryz.prog 225 0=some (0,1):=by kernel_rfl
theorem fi225_1:fieldR Tryz.prog 225 1=some (1,1):=by kernel_rfl
theorem fi225_2:fieldR Tryz.prog 225 2=some (2,1):=by kernel_rfl
theorem fi225_3:fieldR Tryz.prog 225 3=some (3,1):=by kernel_rfl
theorem so225:structOK Tryz.prog 225=true:=by kernel_rfl
theorem sh228:shapeR Tryz.prog 228= .other:=by kernel_rfl
theorem ud228:(Tryz.prog.underlying 228).isSome=true:=by kernel_rfl
theorem ty228:tyR Tryz.prog 228=some (false,1):=by kernel_rfl
theorem el228:elemR Tryz.prog 228=none:=by kernel_rfl
theorem in228:intR Tryz.prog 228=some .u32:=by kernel_rfl
theorem sh229:shapeR Tryz.prog 229= .ptr:=by kernel_rfl
theorem sh232:shapeR Tryz.prog 232= .slc:=by kernel_rfl
theorem ty232:tyR Tryz.prog 232=some (false,1):=by kernel_rfl
theorem ze232:zeroR Tryz.prog 232=some [.slice none 0 0]:=by kernel_rfl
theorem el232:elemR Tryz.prog 232=some (302,15,96):=by kernel_rfl
theorem ty234:tyR Tryz.prog 234=some (true,3):=by kernel_rfl
theorem ze234:zeroR Tryz.prog 234=some [.int .i64 0,.int .i64 0,.int .u64 0]:=by kernel_rfl
theorem in234:intR Tryz.prog 234=none:=by kernel_rfl
theorem fi234_0:fieldR Tryz.prog 234 0=some (0,1):=by kernel_rfl
theorem fi234_1:fieldR Tryz.prog 234 1=some (1,1):=by kernel_rfl
theorem fi234_2:fieldR Tryz.prog 234 2=some (2,1):=by kernel_rfl
theorem sh238:shapeR Tryz.prog 238= .ptr:=by kernel_rfl
theorem sh240:shapeR Tryz.prog 240= .other:=by kernel_rfl
theorem ty240:tyR Tryz.prog 240=some (false,1):=by kernel_rfl
theorem zo240:zero1R Tryz.prog 240=some (.int .i64 0):=by kernel_rfl
theorem ty242:tyR Tryz.prog 242=some (true,3):=by kernel_rfl
theorem ze242:zeroR Tryz.prog 242=some [.int .u32 0,.nilIface,.int .i64 0]:=by kernel_rfl
theorem in242:intR Tryz.prog 242=none:=by kernel_rfl
theorem fi242_0:fieldR Tryz.prog 242 0=some (0,1):=by kernel_rfl
theorem fi242_1:fieldR Tryz.prog 242 1=some (1,1):=by kernel_rfl
theorem fi242_2:fieldR Tryz.prog 242 2=some (2,1):=by kernel_rfl
theorem ty260:tyR Tryz.prog 260=some (true,4):=by kernel_rfl
theorem ze260:zeroR Tryz.prog 260=some [.int .u64 0,.int .u64 0,.int .u64 0,.int .u64 0]:=by kernel_rfl
theorem fi260_0:fieldR Tryz.prog 260 0=some (0,1):=by kernel_rfl
theorem fi260_1:fieldR Tryz.prog 260 1=some (1,1):=by kernel_rfl
theorem fi260_2:fieldR Tryz.prog 260 2=some (2,1):=by kernel_rfl
theorem fi260_3:fieldR Tryz.prog 260 3=some (3,1):=by kernel_rfl
theorem co263:concR Tryz.prog 263=true:=by kernel_rfl
theorem ty265:tyR Tryz.prog 265=some (true,1):=by kernel_rfl
theorem ze265:zeroR Tryz.prog 265=some [.string ⟨#[]⟩]:=by kernel_rfl
theorem fi265_0:fieldR Tryz.prog 265 0=some (0,1):=by kernel_rfl
theorem so265:structOK Tryz.prog 265=true:=by kernel_rfl
theorem ty266:tyR Tryz.prog 266=some (false,1):=by kernel_rfl
theorem sh268:shapeR Tryz.prog 268= .slc:=by kernel_rfl
theorem ty268:tyR Tryz.prog 268=some (false,1):=by kernel_rfl
theorem el268:elemR Tryz.prog 268=some (281,4,24):=by kernel_rfl
theorem ty270:tyR Tryz.prog 270=some (true,3):=by kernel_rfl
theorem ze270:zeroR Tryz.prog 270=some [.int .u32 0,.bool false,.slice none 0 0]:=by kernel_rfl
theorem fi270_0:fieldR Tryz.prog 270 0=some (0,1):=by kernel_rfl
theorem fi270_1:fieldR Tryz.prog 270 1=some (1,1):=by kernel_rfl
theorem fi270_2:fieldR Tryz.prog 270 2=some (2,1):=by kernel_rfl
theorem sh279:shapeR Tryz.prog 279= .other:=by kernel_rfl
theorem ud279:(Tryz.prog.underlying 279).isSome=true:=by kernel_rfl
theorem ty279:tyR Tryz.prog 279=some (false,1):=by kernel_rfl
theorem el279:elemR Tryz.prog 279=none:=by kernel_rfl
theorem in279:intR Tryz.prog 279=some .u32:=by kernel_rfl
theorem ze281:zeroR Tryz.prog 281=some [.int .u32 0,.int .u32 0,.int .i64 0,.int .i64 0]:=by kernel_rfl
theorem in281:intR Tryz.prog 281=none:=by kernel_rfl
theorem fi281_0:fieldR Tryz.prog 281 0=some (0,1):=by kernel_rfl
theorem fi281_1:fieldR Tryz.prog 281 1=some (1,1):=by kernel_rfl
theorem fi281_2:fieldR Tryz.prog 281 2=some (2,1):=by kernel_rfl
theorem fi281_3:fieldR Tryz.prog 281 3=some (3,1):=by kernel_rfl
theorem sh285:shapeR Tryz.prog 285= .other:=by kernel_rfl
theorem ud285:(Tryz.prog.underlying 285).isSome=true:=by kernel_rfl
theorem ty285:tyR Tryz.prog 285=some (false,1):=by kernel_rfl
theorem el285:elemR Tryz.prog 285=none:=by kernel_rfl
theorem in285:intR Tryz.prog 285=some .u16:=by kernel_rfl
theorem sh292:shapeR Tryz.prog 292= .slc:=by kernel_rfl
theorem ty292:tyR Tryz.prog 292=some (false,1):=by kernel_rfl
theorem el292:elemR Tryz.prog 292=some (293,1,8):=by kernel_rfl
theorem sh293:shapeR Tryz.prog 293= .ptr:=by kernel_rfl
theorem ty293:tyR Tryz.prog 293=some (false,1):=by kernel_rfl
theorem ze293:zeroR Tryz.prog 293=some [.pointer none]:=by kernel_rfl
theorem in293:intR Tryz.prog 293=none:=by kernel_rfl
theorem ty295:tyR Tryz.prog 295=some (true,12):=by kernel_rfl
theorem ze295:zeroR Tryz.prog 295=some [.int .u64 0,.int .i64 0,.pointer none,.int .i64 0,.int .i64 0,.bool false,.bool false,.bool false,.bool false,.int .i64 0,.int .i64 0,.bool false]:=by kernel_rfl
theorem fi295_0:fieldR Tryz.prog 295 0=some (0,1):=by kernel_rfl
theorem fi295_1:fieldR Tryz.prog 295 1=some (1,1):=by kernel_rfl
theorem fi295_2:fieldR Tryz.prog 295 2=some (2,1):=by kernel_rfl
theorem fi295_3:fieldR Tryz.prog 295 3=some (3,1):=by kernel_rfl
theorem fi295_4:fieldR Tryz.prog 295 4=some (4,1):=by kernel_rfl
theorem fi295_5:fieldR Tryz.prog 295 5=some (5,1):=by kernel_rfl
theorem fi295_6:fieldR Tryz.prog 295 6=some (6,1):=by kernel_rfl
theorem fi295_7:fieldR Tryz.prog 295 7=some (7,1):=by kernel_rfl
theorem fi295_8:fieldR Tryz.prog 295 8=some (8,1):=by kernel_rfl
theorem fi295_9:fieldR Tryz.prog 295 9=some (9,1):=by kernel_rfl
theorem fi295_10:fieldR Tryz.prog 295 10=some (10,1):=by kernel_rfl
theorem fi295_11:fieldR Tryz.prog 295 11=some (11,1):=by kernel_rfl
theorem so295:structOK Tryz.prog 295=true:=by kernel_rfl
theorem ty297:tyR Tryz.prog 297=some (true,38):=by kernel_rfl
theorem ze297:zeroR Tryz.prog 297=some [.pointer none,.bool false,.nilIface,.string ⟨#[]⟩,.int .u32 0,.slice none 0 0,.nilIface,.slice none 0 0,.slice none 0 0,.slice none 0 0,.int .u16 0,.int .i64 0,.int .i64 0,.int .i64 0,.int .i64 0,.bool false,.int .i64 0,.int .i64 0,.int .i64 0,.slice none 0 0,.slice none 0 0,.slice none 0 0,.int .u32 0,.int .u32 0,.int .i64 0,.int .u64 0,.int .i64 0,.pointer none,.int .i64 0,.int .i64 0,.bool false,.bool false,.bool false,.bool false,.int .i64 0,.int .i64 0,.bool false,.int .i64 0]:=by kernel_rfl
theorem fi297_0:fieldR Tryz.prog 297 0=some (0,7):=by kernel_rfl
theorem fi297_1:fieldR Tryz.prog 297 1=some (7,1):=by kernel_rfl
theorem fi297_2:fieldR Tryz.prog 297 2=some (8,1):=by kernel_rfl
theorem fi297_3:fieldR Tryz.prog 297 3=some (9,1):=by kernel_rfl
theorem fi297_4:fieldR Tryz.prog 297 4=some (10,1):=by kernel_rfl
theorem fi297_5:fieldR Tryz.prog 297 5=some (11,1):=by kernel_rfl
theorem fi297_6:fieldR Tryz.prog 297 6=some (12,1):=by kernel_rfl
theorem fi297_7:fieldR Tryz.prog 297 7=some (13,1):=by kernel_rfl
theorem fi297_8:fieldR Tryz.prog 297 8=some (14,1):=by kernel_rfl
theorem fi297_9:fieldR Tryz.prog 297 9=some (15,1):=by kernel_rfl
theorem fi297_10:fieldR Tryz.prog 297 10=some (16,1):=by kernel_rfl
theorem fi297_11:fieldR Tryz.prog 297 11=some (17,1):=by kernel_rfl
theorem fi297_12:fieldR Tryz.prog 297 12=some (18,1):=by kernel_rfl
theorem fi297_13:fieldR Tryz.prog 297 13=some (19,1):=by kernel_rfl
theorem fi297_14:fieldR Tryz.prog 297 14=some (20,1):=by kernel_rfl
theorem fi297_15:fieldR Tryz.prog 297 15=some (21,1):=by kernel_rfl
theorem fi297_16:fieldR Tryz.prog 297 16=some (22,1):=by kernel_rfl
theorem fi297_17:fieldR Tryz.prog 297 17=some (23,1):=by kernel_rfl
theorem fi297_18:fieldR Tryz.prog 297 18=some (24,1):=by kernel_rfl
theorem fi297_19:fieldR Tryz.prog 297 19=some (25,12):=by kernel_rfl
theorem fi297_20:fieldR Tryz.prog 297 20=some (37,1):=by kernel_rfl
theorem so297:structOK Tryz.prog 297=true:=by kernel_rfl
theorem ty302:tyR Tryz.prog 302=some (true,15):=by kernel_rfl
theorem ze302:zeroR Tryz.prog 302=some [.int .u32 0,.int .i64 0,.int .u64 0,.int .i64 0,.pointer none,.int .i64 0,.int .i64 0,.bool false,.bool false,.bool false,.bool false,.int .i64 0,.int .i64 0,.bool false,.int .i64 0]:=by kernel_rfl
theorem in302:intR Tryz.prog 302=none:=by kernel_rfl
theorem fi302_0:fieldR Tryz.prog 302 0=some (0,1):=by kernel_rfl
theorem fi302_1:fieldR Tryz.prog 302 1=some (1,1):=by kernel_rfl
theorem fi302_2:fieldR Tryz.prog 302 2=some (2,12):=by kernel_rfl
theorem fi302_3:fieldR Tryz.prog 302 3=some (14,1):=by kernel_rfl
theorem so302:structOK Tryz.prog 302=true:=by kernel_rfl
theorem ty314:tyR Tryz.prog 314=some (true,0):=by kernel_rfl
theorem ze314:zeroR Tryz.prog 314=some []:=by kernel_rfl
theorem co314:concR Tryz.prog 314=true:=by kernel_rfl
theorem so314:structOK Tryz.prog 314=true:=by kernel_rfl
theorem ty323:tyR Tryz.prog 323=some (true,12):=by kernel_rfl
theorem ze323:zeroR Tryz.prog 323=some [.int .u32 0,.int .u32 0,.slice none 0 0,.map none,.pointer none,.int .i64 0,.int .i64 0,.bool false,.int .u8 0,.int .u32 0,.string ⟨#[]⟩,.nilIface]:=by kernel_rfl
theorem fi323_0:fieldR Tryz.prog 323 0=some (0,9):=by kernel_rfl
theorem fi323_1:fieldR Tryz.prog 323 1=some (9,1):=by kernel_rfl
theorem fi323_2:fieldR Tryz.prog 323 2=some (10,1):=by kernel_rfl
theorem so323:structOK Tryz.prog 323=true:=by kernel_rfl
theorem sh329:shapeR Tryz.prog 329= .mpp:=by kernel_rfl
theorem ty329:tyR Tryz.prog 329=some (false,1):=by kernel_rfl
theorem mr329:mapR Tryz.prog 329=some (.u32,4):=by kernel_rfl
theorem sh331:shapeR Tryz.prog 331= .mpp:=by kernel_rfl
theorem ty331:tyR Tryz.prog 331=some (false,1):=by kernel_rfl
theorem mr331:mapR Tryz.prog 331=some (.u32,240):=by kernel_rfl
theorem sh333:shapeR Tryz.prog 333= .other:=by kernel_rfl
theorem ud333:(Tryz.prog.underlying 333).isSome=true:=by kernel_rfl
theorem el333:elemR Tryz.prog 333=none:=by kernel_rfl
theorem in333:intR Tryz.prog 333=some .i8:=by kernel_rfl
theorem sh334:shapeR Tryz.prog 334= .mpp:=by kernel_rfl
theorem ty334:tyR Tryz.prog 334=some (false,1):=by kernel_rfl
theorem mr334:mapR Tryz.prog 334=some (.i64,3):=by kernel_rfl
theorem sh338:shapeR Tryz.prog 338= .slc:=by kernel_rfl
theorem el338:elemR Tryz.prog 338=some (357,2,16):=by kernel_rfl
theorem ty343:tyR Tryz.prog 343=some (true,3):=by kernel_rfl
theorem ze343:zeroR Tryz.prog 343=some [.string ⟨#[]⟩,.int .u64 0,.int .i64 0]:=by kernel_rfl
theorem fi343_0:fieldR Tryz.prog 343 0=some (0,1):=by kernel_rfl
theorem fi343_1:fieldR Tryz.prog 343 1=some (1,1):=by kernel_rfl
theorem fi343_2:fieldR Tryz.prog 343 2=some (2,1):=by kernel_rfl
theorem so343:structOK Tryz.prog 343=true:=by kernel_rfl
theorem sh347:shapeR Tryz.prog 347= .other:=by kernel_rfl
theorem ty347:tyR Tryz.prog 347=some (true,24):=by kernel_rfl
theorem ze347:zeroR Tryz.prog 347=some [.int .u8 0,.int .u8 0,.int .u8 0,.int .u8 0,.int .u8 0,.int .u8 0,.int .u8 0,.int .u8 0,.int .u8 0,.int .u8 0,.int .u8 0,.int .u8 0,.int .u8 0,.int .u8 0,.int .u8 0,.int .u8 0,.int .u8 0,.int .u8 0,.int .u8 0,.int .u8 0,.int .u8 0,.int .u8 0,.int .u8 0,.int .u8 0]:=by kernel_rfl
theorem el347:elemR Tryz.prog 347=none:=by kernel_rfl
theorem ar347:arrR Tryz.prog 347=some (24,1):=by kernel_rfl
theorem ty357:tyR Tryz.prog 357=some (true,2):=by kernel_rfl
theorem ze357:zeroR Tryz.prog 357=some [.int .i64 0,.int .u32 0]:=by kernel_rfl
theorem in357:intR Tryz.prog 357=none:=by kernel_rfl
theorem fi357_0:fieldR Tryz.prog 357 0=some (0,1):=by kernel_rfl
theorem fi357_1:fieldR Tryz.prog 357 1=some (1,1):=by kernel_rfl
theorem el360:elemR Tryz.prog 360=none:=by kernel_rfl
theorem ar360:arrR Tryz.prog 360=some (20,1):=by kernel_rfl
theorem sh361:shapeR Tryz.prog 361= .other:=by kernel_rfl
theorem ty361:tyR Tryz.prog 361=some (true,65):=by kernel_rfl
theorem el361:elemR Tryz.prog 361=none:=by kernel_rfl
theorem ar361:arrR Tryz.prog 361=some (65,1):=by kernel_rfl
theorem ty372:tyR Tryz.prog 372=some (true,3):=by kernel_rfl
theorem ze372:zeroR Tryz.prog 372=some [.string ⟨#[]⟩,.slice none 0 0,.int .i64 0]:=by kernel_rfl
theorem fi372_0:fieldR Tryz.prog 372 0=some (0,1):=by kernel_rfl
theorem fi372_1:fieldR Tryz.prog 372 1=some (1,1):=by kernel_rfl
theorem fi372_2:fieldR Tryz.prog 372 2=some (2,1):=by kernel_rfl
theorem so372:structOK Tryz.prog 372=true:=by kernel_rfl
theorem el375:elemR Tryz.prog 375=none:=by kernel_rfl
theorem ar375:arrR Tryz.prog 375=some (128,1):=by kernel_rfl
theorem sh376:shapeR Tryz.prog 376= .slc:=by kernel_rfl
theorem ty376:tyR Tryz.prog 376=some (false,1):=by kernel_rfl
theorem el376:elemR Tryz.prog 376=some (378,2,4):=by kernel_rfl
theorem fi378_0:fieldR Tryz.prog 378 0=some (0,1):=by kernel_rfl
theorem fi378_1:fieldR Tryz.prog 378 1=some (1,1):=by kernel_rfl
theorem sh379:shapeR Tryz.prog 379= .ptr:=by kernel_rfl
theorem sh381:shapeR Tryz.prog 381= .slc:=by kernel_rfl
theorem ty381:tyR Tryz.prog 381=some (false,1):=by kernel_rfl
theorem el381:elemR Tryz.prog 381=some (393,5,20):=by kernel_rfl
theorem el383:elemR Tryz.prog 383=none:=by kernel_rfl
theorem ar383:arrR Tryz.prog 383=some (32,1):=by kernel_rfl
theorem el384:elemR Tryz.prog 384=none:=by kernel_rfl
theorem ar384:arrR Tryz.prog 384=some (64,1):=by kernel_rfl
theorem el386:elemR Tryz.prog 386=none:=by kernel_rfl
theorem ar386:arrR Tryz.prog 386=some (256,1):=by kernel_rfl
theorem ty388:tyR Tryz.prog 388=some (true,2):=by kernel_rfl
theorem ze388:zeroR Tryz.prog 388=some [.int .u8 0,.int .u8 0]:=by kernel_rfl
theorem fi388_0:fieldR Tryz.prog 388 0=some (0,1):=by kernel_rfl
theorem fi388_1:fieldR Tryz.prog 388 1=some (1,1):=by kernel_rfl
theorem el389:elemR Tryz.prog 389=none:=by kernel_rfl
theorem ar389:arrR Tryz.prog 389=some (16,2):=by kernel_rfl
theorem el391:elemR Tryz.prog 391=none:=by kernel_rfl
theorem ar391:arrR Tryz.prog 391=some (3,1):=by kernel_rfl
theorem fi393_0:fieldR Tryz.prog 393 0=some (0,1):=by kernel_rfl
theorem fi393_1:fieldR Tryz.prog 393 1=some (1,1):=by kernel_rfl
theorem fi393_2:fieldR Tryz.prog 393 2=some (2,3):=by kernel_rfl
theorem me226:methR Tryz.prog 211 "loop.example/pub-g03041/pub/dwarf.version" =some 226:=by kernel_rfl
theorem me225:methR Tryz.prog 211 "loop.example/pub-g03041/pub/dwarf.dwarf64" =some 225:=by kernel_rfl
theorem me150:methR Tryz.prog 211 "loop.example/pub-g03041/pub/dwarf.addrsize" =some 150:=by kernel_rfl
attribute [go_sem] sh2 ud2 ty2 zo2 el2 in2 co2 sh3 ud3 ty3 ze3 zo3 el3 in3 sh4 ty4 zo4 co4 sh5 ud5 ty5 ze5 el5 in5 sh9 ud9 ty9 ze9 zo9 el9 in9 co9 sh20 ty20 zo20 co20 sh21 ud21 ty21 el21
attribute [go_sem] in21 ty23 fi23_0 fi23_1 fi23_2 fi23_3 sh24 el24 sh25 el25 sh26 ty26 el26 sh27 ty27 el27 sh28 ty28 el28 sh29 ty29 el29 ty31 fi31_0 fi31_1 fi31_2 fi31_3 fi31_4 fi31_5 fi31_6 fi31_7 fi31_8 fi31_9 fi31_10 fi31_11 fi31_12 fi31_13 fi31_14 fi31_15 sh32
attribute [go_sem] ud32 ty32 ze32 zo32 el32 in32 co32 sh38 ty38 el38 el44 sh46 ud46 ty46 zo46 el46 in46 co46 ty48 ze48 in48 fi48_0 fi48_1 fi48_2 fi48_3 fi48_4 fi48_5 so48 sh49 ty49 ze49 el49 in49 sh50 ty50 el50 ty52 ze52 fi52_0 fi52_1
attribute [go_sem] fi52_2 fi52_3 fi52_4 fi52_5 fi52_6 so52 sh53 el53 sh56 ty56 el56 ty58 ze58 in58 fi58_0 fi58_1 so58 sh59 el59 sh62 el62 sh63 ty63 el63 ty65 ze65 in65 fi65_0 fi65_1 fi65_2 fi65_3 so65 ty67 ze67 in67 fi67_0 fi67_1 fi67_2 fi67_3 sh69
attribute [go_sem] el69 sh72 el72 ty74 ze74 in74 fi74_0 fi74_1 fi74_2 fi74_3 so74 sh76 ty76 ze76 in76 fi76_0 fi76_1 fi76_2 fi76_3 fi76_4 fi76_5 fi76_6 fi76_7 fi76_8 fi76_9 fi76_10 fi76_11 so76 sh77 ty77 el77 ty79 ze79 in79 fi79_0 fi79_1 fi79_2 sh80 ty80 el80
attribute [go_sem] ty82 ze82 fi82_0 fi82_1 fi82_2 fi82_3 fi82_4 sh83 el83 sh94 ty94 el94 ty96 ze96 in96 fi96_0 fi96_1 fi96_2 fi96_3 so96 ty105 ze105 fi105_0 fi105_1 fi105_2 fi105_3 fi105_4 fi105_5 fi105_6 so105 ty107 ze107 in107 fi107_0 fi107_1 fi107_2 fi107_3 ty109 ze109 fi109_0
attribute [go_sem] fi109_1 fi109_2 fi109_3 ty122 ze122 fi122_0 fi122_1 so122 ty125 ze125 in125 fi125_0 fi125_1 fi125_2 fi125_3 so125 ty130 ze130 in130 fi130_0 fi130_1 so130 ty131 sh133 ty133 zo133 co133 ty140 ze140 in140 fi140_0 fi140_1 sh144 ud144 ty144 el144 in144 co144 sh145 ud145
attribute [go_sem] ty145 zo145 el145 in145 co145 sh146 ty146 sh154 ty154 ze154 el154 ar154 so154 in154 ty156 ze156 fi156_0 fi156_1 fi156_2 sh174 ud174 el174 in174 sh180 el180 ty189 ze189 co189 fi189_0 fi189_1 fi189_2 so189 ty192 ze192 fi192_0 so192 ty194 ty196 ze196 fi196_0 fi196_1
attribute [go_sem] fi196_2 fi196_3 fi196_4 fi196_5 fi196_6 so196 ty198 ze198 fi198_0 fi198_1 fi198_2 fi198_3 fi198_4 fi198_5 fi198_6 fi198_7 so198 ty201 ze201 fi201_0 fi201_1 fi201_2 fi201_3 fi201_4 so201 ze203 in203 fi203_0 fi203_1 so203 sh205 ty205 mr205 sh206 mr206 sh207 ty207 mr207 sh208 ty208
attribute [go_sem] el208 ty210 ze210 fi210_0 fi210_1 fi210_2 fi210_3 fi210_4 fi210_5 fi210_6 fi210_7 fi210_8 fi210_9 fi210_10 fi210_11 fi210_12 fi210_13 fi210_14 fi210_15 fi210_16 fi210_17 so210 sh211 co211 sh213 ty213 zo213 mr213 sh214 ty214 ze216 in216 fi216_0 fi216_1 fi216_2 fi216_3 fi216_4 fi216_5 fi216_6 fi216_7
attribute [go_sem] fi216_8 so216 sh222 ud222 ty222 el222 in222 sh223 ty223 el223 ty225 ze225 fi225_0 fi225_1 fi225_2 fi225_3 so225 sh228 ud228 ty228 el228 in228 sh229 sh232 ty232 ze232 el232 ty234 ze234 in234 fi234_0 fi234_1 fi234_2 sh238 sh240 ty240 zo240 ty242 ze242 in242
attribute [go_sem] fi242_0 fi242_1 fi242_2 ty260 ze260 fi260_0 fi260_1 fi260_2 fi260_3 co263 ty265 ze265 fi265_0 so265 ty266 sh268 ty268 el268 ty270 ze270 fi270_0 fi270_1 fi270_2 sh279 ud279 ty279 el279 in279 ze281 in281 fi281_0 fi281_1 fi281_2 fi281_3 sh285 ud285 ty285 el285 in285 sh292
attribute [go_sem] ty292 el292 sh293 ty293 ze293 in293 ty295 ze295 fi295_0 fi295_1 fi295_2 fi295_3 fi295_4 fi295_5 fi295_6 fi295_7 fi295_8 fi295_9 fi295_10 fi295_11 so295 ty297 ze297 fi297_0 fi297_1 fi297_2 fi297_3 fi297_4 fi297_5 fi297_6 fi297_7 fi297_8 fi297_9 fi297_10 fi297_11 fi297_12 fi297_13 fi297_14 fi297_15 fi297_16
attribute [go_sem] fi297_17 fi297_18 fi297_19 fi297_20 so297 ty302 ze302 in302 fi302_0 fi302_1 fi302_2 fi302_3 so302 ty314 ze314 co314 so314 ty323 ze323 fi323_0 fi323_1 fi323_2 so323 sh329 ty329 mr329 sh331 ty331 mr331 sh333 ud333 el333 in333 sh334 ty334 mr334 sh338 el338 ty343 ze343
attribute [go_sem] fi343_0 fi343_1 fi343_2 so343 sh347 ty347 ze347 el347 ar347 ty357 ze357 in357 fi357_0 fi357_1 el360 ar360 sh361 ty361 el361 ar361 ty372 ze372 fi372_0 fi372_1 fi372_2 so372 el375 ar375 sh376 ty376 el376 fi378_0 fi378_1 sh379 sh381 ty381 el381 el383 ar383 el384
attribute [go_sem] ar384 el386 ar386 ty388 ze388 fi388_0 fi388_1 el389 ar389 el391 ar391 fi393_0 fi393_1 fi393_2 me226 me225 me150
end Go.Proofs.YtbkfdnkeelmloaaGreatDoor
