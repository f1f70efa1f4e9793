/-
  THE NOUGHT VALUES OF encoding/base64's TWO STRUCTS as the model has them: closed facts; no condition.
-/
import Derived.Test.YtdoddigmfckhmaaDoorEncRow
namespace Go.Proofs.YtdoddigmfckhmaaDoor
open Go.RowKit

def zcEnc : Array Value := (List.replicate 320 (Value.int .u8 0) ++ [Value.int .i32 0, Value.bool false]).toArray
theorem zcEnc_ne : zcEnc ≠ #[] := by intro h; have := congrArg Array.size h; revert this; decide +kernel
theorem zcEnc_size : zcEnc.size = 322 := by kernel_rfl
theorem zero_enc (w : World) : (zeroValue 77).run Tryd.prog w = .ok (.agg zcEnc) w := by kernel_rfl
def zcEncoder : Array Value := ([Value.nilIface, Value.pointer none, Value.nilIface, Value.int .u8 0, Value.int .u8 0, Value.int .u8 0, Value.int .i64 0] ++ List.replicate 1024 (Value.int .u8 0)).toArray
theorem zcEncoder_ne : zcEncoder ≠ #[] := by intro h; have := congrArg Array.size h; revert this; decide +kernel
theorem zcEncoder_size : zcEncoder.size = 1031 := by kernel_rfl
theorem zero_encoder (w : World) : (zeroValue 72).run Tryd.prog w = .ok (.agg zcEncoder) w := by kernel_rfl
end Go.Proofs.YtdoddigmfckhmaaDoor
