/- Part of FnArgon2. No condition. -/
import Derived.Test.YtcminalaicidiaaGreatDoorWF
set_option maxRecDepth 100000
set_option maxHeartbeats 8000000
set_option linter.all false
noncomputable section
namespace Go.Proofs.YtcminalaicidiaaGreatDoor
section
open Go.ay
def VF:List (BitVec 8):=[142#8,10#8,46#8,53#8,244#8,53#8,14#8,59#8,116#8,12#8,216#8,217#8,233#8,245#8,223#8,2#8,233#8,194#8,98#8,131#8,188#8,6#8,249#8,37#8,40#8,114#8,185#8,4#8,81#8,123#8,197#8,222#8,221#8,225#8,249#8,210#8,183#8,6#8,217#8,16#8,173#8,242#8,223#8,138#8,185#8,67#8,148#8,43#8,47#8,125#8,9#8,150#8,105#8,80#8,176#8,109#8,243#8,234#8,157#8,17#8,190#8,206#8,90#8,119#8,0#8,0#8,0#8,0#8,0#8,0#8,0#8,0#8]
def amG:(ow (s3 (U.of [1#8]) D6 0 1 0 8 1#32 8#32 1#32 4#32 2)).l=VF:=by kernel_rfl
def NM:U 8:=(U.of VF).sub 0 64
def amH:(Hw (eP (bU 64) (iS 1024 (kC NM 0 0) 0) (4+72)) (eP (bU 64) (iS 1024 (kC NM 1 0) 0) (4+72))).setWidth 8=117#8:=by kernel_rfl
def VG:List (BitVec 8):=[115#8,160#8,30#8,51#8,88#8,149#8,103#8,54#8,2#8,45#8,236#8,114#8,115#8,54#8,22#8,250#8,5#8,56#8,41#8,88#8,215#8,133#8,216#8,187#8,86#8,117#8,148#8,123#8,152#8,188#8,38#8,201#8,25#8,80#8,112#8,208#8,27#8,209#8,113#8,121#8,252#8,86#8,154#8,201#8,22#8,132#8,136#8,203#8,59#8,89#8,92#8,124#8,59#8,34#8,66#8,238#8,244#8,177#8,221#8,91#8,234#8,174#8,139#8,9#8,0#8,0#8,0#8,0#8,0#8,0#8,0#8,0#8]
def amI:(ow (s3 (U.of [2#8]) D6 0 1 0 8 1#32 8#32 1#32 4#32 2)).l=VG:=by kernel_rfl
def NN:U 8:=(U.of VG).sub 0 64
def amJ:(Hw (eP (bU 64) (iS 1024 (kC NN 0 0) 0) (4+72)) (eP (bU 64) (iS 1024 (kC NN 1 0) 0) (4+72))).setWidth 8=183#8:=by kernel_rfl
end
end Go.Proofs.YtcminalaicidiaaGreatDoor
end
