/-
  Which function each method's name leads to, type by type: closed facts of the program.
-/
import Derived.Test.YtmiflkccfieefaaGreatDoorBase
namespace Go.Proofs.YtmiflkccfieefaaGreatDoor
open Go.RowKit
theorem mt253_saveOffset (a : Option Addr) (w : World) : (method 494 253 (.pointer a) "pub-kestrel/pub/sarama.saveOffset").run Tryz.prog w = .ok (265, .pointer a) w := by kernel_rfl
theorem na253_saveOffset (a : Option Addr) (w : World) : (nilAhead 494 253 (.pointer a) "pub-kestrel/pub/sarama.saveOffset").run Tryz.prog w = .ok (some false) w := by kernel_rfl
theorem mt253_reserveLength (a : Option Addr) (w : World) : (method 494 253 (.pointer a) "pub-kestrel/pub/sarama.reserveLength").run Tryz.prog w = .ok (263, .pointer a) w := by kernel_rfl
theorem na253_reserveLength (a : Option Addr) (w : World) : (nilAhead 494 253 (.pointer a) "pub-kestrel/pub/sarama.reserveLength").run Tryz.prog w = .ok (some false) w := by kernel_rfl
theorem mt253_adjustLength (a : Option Addr) (w : World) : (method 494 253 (.pointer a) "pub-kestrel/pub/sarama.adjustLength").run Tryz.prog w = .ok (260, .pointer a) w := by kernel_rfl
theorem na253_adjustLength (a : Option Addr) (w : World) : (nilAhead 494 253 (.pointer a) "pub-kestrel/pub/sarama.adjustLength").run Tryz.prog w = .ok (some false) w := by kernel_rfl
theorem mt253_run (a : Option Addr) (w : World) : (method 494 253 (.pointer a) "pub-kestrel/pub/sarama.run").run Tryz.prog w = .ok (264, .pointer a) w := by kernel_rfl
theorem na253_run (a : Option Addr) (w : World) : (nilAhead 494 253 (.pointer a) "pub-kestrel/pub/sarama.run").run Tryz.prog w = .ok (some false) w := by kernel_rfl
theorem mt253_check (a : Option Addr) (w : World) : (method 494 253 (.pointer a) "pub-kestrel/pub/sarama.check").run Tryz.prog w = .ok (261, .pointer a) w := by kernel_rfl
theorem na253_check (a : Option Addr) (w : World) : (nilAhead 494 253 (.pointer a) "pub-kestrel/pub/sarama.check").run Tryz.prog w = .ok (some false) w := by kernel_rfl
theorem mt253_decode (a : Option Addr) (w : World) : (method 494 253 (.pointer a) "pub-kestrel/pub/sarama.decode").run Tryz.prog w = .ok (262, .pointer a) w := by kernel_rfl
theorem na253_decode (a : Option Addr) (w : World) : (nilAhead 494 253 (.pointer a) "pub-kestrel/pub/sarama.decode").run Tryz.prog w = .ok (some false) w := by kernel_rfl
theorem mt264_saveOffset (a : Option Addr) (w : World) : (method 494 264 (.pointer a) "pub-kestrel/pub/sarama.saveOffset").run Tryz.prog w = .ok (269, .pointer a) w := by kernel_rfl
theorem na264_saveOffset (a : Option Addr) (w : World) : (nilAhead 494 264 (.pointer a) "pub-kestrel/pub/sarama.saveOffset").run Tryz.prog w = .ok (some false) w := by kernel_rfl
theorem mt264_reserveLength (a : Option Addr) (w : World) : (method 494 264 (.pointer a) "pub-kestrel/pub/sarama.reserveLength").run Tryz.prog w = .ok (267, .pointer a) w := by kernel_rfl
theorem na264_reserveLength (a : Option Addr) (w : World) : (nilAhead 494 264 (.pointer a) "pub-kestrel/pub/sarama.reserveLength").run Tryz.prog w = .ok (some false) w := by kernel_rfl
theorem mt264_run (a : Option Addr) (w : World) : (method 494 264 (.pointer a) "pub-kestrel/pub/sarama.run").run Tryz.prog w = .ok (268, .pointer a) w := by kernel_rfl
theorem na264_run (a : Option Addr) (w : World) : (nilAhead 494 264 (.pointer a) "pub-kestrel/pub/sarama.run").run Tryz.prog w = .ok (some false) w := by kernel_rfl
theorem mt264_check (a : Option Addr) (w : World) : (method 494 264 (.pointer a) "pub-kestrel/pub/sarama.check").run Tryz.prog w = .ok (266, .pointer a) w := by kernel_rfl
theorem na264_check (a : Option Addr) (w : World) : (nilAhead 494 264 (.pointer a) "pub-kestrel/pub/sarama.check").run Tryz.prog w = .ok (some false) w := by kernel_rfl
theorem mt277_saveOffset (a : Option Addr) (w : World) : (method 494 277 (.pointer a) "pub-kestrel/pub/sarama.saveOffset").run Tryz.prog w = .ok (280, .pointer a) w := by kernel_rfl
theorem na277_saveOffset (a : Option Addr) (w : World) : (nilAhead 494 277 (.pointer a) "pub-kestrel/pub/sarama.saveOffset").run Tryz.prog w = .ok (some false) w := by kernel_rfl
theorem mt277_reserveLength (a : Option Addr) (w : World) : (method 494 277 (.pointer a) "pub-kestrel/pub/sarama.reserveLength").run Tryz.prog w = .ok (278, .pointer a) w := by kernel_rfl
theorem na277_reserveLength (a : Option Addr) (w : World) : (nilAhead 494 277 (.pointer a) "pub-kestrel/pub/sarama.reserveLength").run Tryz.prog w = .ok (some false) w := by kernel_rfl
theorem mt277_run (a : Option Addr) (w : World) : (method 494 277 (.pointer a) "pub-kestrel/pub/sarama.run").run Tryz.prog w = .ok (279, .pointer a) w := by kernel_rfl
theorem na277_run (a : Option Addr) (w : World) : (nilAhead 494 277 (.pointer a) "pub-kestrel/pub/sarama.run").run Tryz.prog w = .ok (some false) w := by kernel_rfl
theorem mt277_check (a : Option Addr) (w : World) : (method 494 277 (.pointer a) "pub-kestrel/pub/sarama.check").run Tryz.prog w = .ok (276, .pointer a) w := by kernel_rfl
theorem na277_check (a : Option Addr) (w : World) : (nilAhead 494 277 (.pointer a) "pub-kestrel/pub/sarama.check").run Tryz.prog w = .ok (some false) w := by kernel_rfl
theorem mt277_decode (a : Option Addr) (w : World) : (method 494 277 (.pointer a) "pub-kestrel/pub/sarama.decode").run Tryz.prog w = .ok (277, .pointer a) w := by kernel_rfl
theorem na277_decode (a : Option Addr) (w : World) : (nilAhead 494 277 (.pointer a) "pub-kestrel/pub/sarama.decode").run Tryz.prog w = .ok (some false) w := by kernel_rfl
theorem mt175_push (a : Option Addr) (w : World) : (method 494 175 (.pointer a) "pub-kestrel/pub/sarama.push").run Tryz.prog w = .ok (185, .pointer a) w := by kernel_rfl
theorem na175_push (a : Option Addr) (w : World) : (nilAhead 494 175 (.pointer a) "pub-kestrel/pub/sarama.push").run Tryz.prog w = .ok (some false) w := by kernel_rfl
theorem mt175_pop (a : Option Addr) (w : World) : (method 494 175 (.pointer a) "pub-kestrel/pub/sarama.pop").run Tryz.prog w = .ok (184, .pointer a) w := by kernel_rfl
theorem na175_pop (a : Option Addr) (w : World) : (nilAhead 494 175 (.pointer a) "pub-kestrel/pub/sarama.pop").run Tryz.prog w = .ok (some false) w := by kernel_rfl
theorem mt175_putInt8 (a : Option Addr) (w : World) : (method 494 175 (.pointer a) "pub-kestrel/pub/sarama.putInt8").run Tryz.prog w = .ok (192, .pointer a) w := by kernel_rfl
theorem na175_putInt8 (a : Option Addr) (w : World) : (nilAhead 494 175 (.pointer a) "pub-kestrel/pub/sarama.putInt8").run Tryz.prog w = .ok (some false) w := by kernel_rfl
theorem mt175_putInt32 (a : Option Addr) (w : World) : (method 494 175 (.pointer a) "pub-kestrel/pub/sarama.putInt32").run Tryz.prog w = .ok (190, .pointer a) w := by kernel_rfl
theorem na175_putInt32 (a : Option Addr) (w : World) : (nilAhead 494 175 (.pointer a) "pub-kestrel/pub/sarama.putInt32").run Tryz.prog w = .ok (some false) w := by kernel_rfl
theorem mt175_putInt64 (a : Option Addr) (w : World) : (method 494 175 (.pointer a) "pub-kestrel/pub/sarama.putInt64").run Tryz.prog w = .ok (191, .pointer a) w := by kernel_rfl
theorem na175_putInt64 (a : Option Addr) (w : World) : (nilAhead 494 175 (.pointer a) "pub-kestrel/pub/sarama.putInt64").run Tryz.prog w = .ok (some false) w := by kernel_rfl
theorem mt175_putVarint (a : Option Addr) (w : World) : (method 494 175 (.pointer a) "pub-kestrel/pub/sarama.putVarint").run Tryz.prog w = .ok (194, .pointer a) w := by kernel_rfl
theorem na175_putVarint (a : Option Addr) (w : World) : (nilAhead 494 175 (.pointer a) "pub-kestrel/pub/sarama.putVarint").run Tryz.prog w = .ok (some false) w := by kernel_rfl
theorem mt175_putVarintBytes (a : Option Addr) (w : World) : (method 494 175 (.pointer a) "pub-kestrel/pub/sarama.putVarintBytes").run Tryz.prog w = .ok (195, .pointer a) w := by kernel_rfl
theorem na175_putVarintBytes (a : Option Addr) (w : World) : (nilAhead 494 175 (.pointer a) "pub-kestrel/pub/sarama.putVarintBytes").run Tryz.prog w = .ok (some false) w := by kernel_rfl
theorem mt175_putBytes (a : Option Addr) (w : World) : (method 494 175 (.pointer a) "pub-kestrel/pub/sarama.putBytes").run Tryz.prog w = .ok (187, .pointer a) w := by kernel_rfl
theorem na175_putBytes (a : Option Addr) (w : World) : (nilAhead 494 175 (.pointer a) "pub-kestrel/pub/sarama.putBytes").run Tryz.prog w = .ok (some false) w := by kernel_rfl
theorem mt180_push (a : Option Addr) (w : World) : (method 494 180 (.pointer a) "pub-kestrel/pub/sarama.push").run Tryz.prog w = .ok (199, .pointer a) w := by kernel_rfl
theorem na180_push (a : Option Addr) (w : World) : (nilAhead 494 180 (.pointer a) "pub-kestrel/pub/sarama.push").run Tryz.prog w = .ok (some false) w := by kernel_rfl
theorem mt180_pop (a : Option Addr) (w : World) : (method 494 180 (.pointer a) "pub-kestrel/pub/sarama.pop").run Tryz.prog w = .ok (198, .pointer a) w := by kernel_rfl
theorem na180_pop (a : Option Addr) (w : World) : (nilAhead 494 180 (.pointer a) "pub-kestrel/pub/sarama.pop").run Tryz.prog w = .ok (some false) w := by kernel_rfl
theorem mt180_putInt8 (a : Option Addr) (w : World) : (method 494 180 (.pointer a) "pub-kestrel/pub/sarama.putInt8").run Tryz.prog w = .ok (206, .pointer a) w := by kernel_rfl
theorem na180_putInt8 (a : Option Addr) (w : World) : (nilAhead 494 180 (.pointer a) "pub-kestrel/pub/sarama.putInt8").run Tryz.prog w = .ok (some false) w := by kernel_rfl
theorem mt180_putInt32 (a : Option Addr) (w : World) : (method 494 180 (.pointer a) "pub-kestrel/pub/sarama.putInt32").run Tryz.prog w = .ok (204, .pointer a) w := by kernel_rfl
theorem na180_putInt32 (a : Option Addr) (w : World) : (nilAhead 494 180 (.pointer a) "pub-kestrel/pub/sarama.putInt32").run Tryz.prog w = .ok (some false) w := by kernel_rfl
theorem mt180_putInt64 (a : Option Addr) (w : World) : (method 494 180 (.pointer a) "pub-kestrel/pub/sarama.putInt64").run Tryz.prog w = .ok (205, .pointer a) w := by kernel_rfl
theorem na180_putInt64 (a : Option Addr) (w : World) : (nilAhead 494 180 (.pointer a) "pub-kestrel/pub/sarama.putInt64").run Tryz.prog w = .ok (some false) w := by kernel_rfl
theorem mt180_putVarint (a : Option Addr) (w : World) : (method 494 180 (.pointer a) "pub-kestrel/pub/sarama.putVarint").run Tryz.prog w = .ok (208, .pointer a) w := by kernel_rfl
theorem na180_putVarint (a : Option Addr) (w : World) : (nilAhead 494 180 (.pointer a) "pub-kestrel/pub/sarama.putVarint").run Tryz.prog w = .ok (some false) w := by kernel_rfl
theorem mt180_putVarintBytes (a : Option Addr) (w : World) : (method 494 180 (.pointer a) "pub-kestrel/pub/sarama.putVarintBytes").run Tryz.prog w = .ok (209, .pointer a) w := by kernel_rfl
theorem na180_putVarintBytes (a : Option Addr) (w : World) : (nilAhead 494 180 (.pointer a) "pub-kestrel/pub/sarama.putVarintBytes").run Tryz.prog w = .ok (some false) w := by kernel_rfl
theorem mt180_putBytes (a : Option Addr) (w : World) : (method 494 180 (.pointer a) "pub-kestrel/pub/sarama.putBytes").run Tryz.prog w = .ok (201, .pointer a) w := by kernel_rfl
theorem na180_putBytes (a : Option Addr) (w : World) : (nilAhead 494 180 (.pointer a) "pub-kestrel/pub/sarama.putBytes").run Tryz.prog w = .ok (some false) w := by kernel_rfl
theorem mt171_push (a : Option Addr) (w : World) : (method 494 171 (.pointer a) "pub-kestrel/pub/sarama.push").run Tryz.prog w = .ok (177, .pointer a) w := by kernel_rfl
theorem na171_push (a : Option Addr) (w : World) : (nilAhead 494 171 (.pointer a) "pub-kestrel/pub/sarama.push").run Tryz.prog w = .ok (some false) w := by kernel_rfl
theorem mt171_pop (a : Option Addr) (w : World) : (method 494 171 (.pointer a) "pub-kestrel/pub/sarama.pop").run Tryz.prog w = .ok (176, .pointer a) w := by kernel_rfl
theorem na171_pop (a : Option Addr) (w : World) : (nilAhead 494 171 (.pointer a) "pub-kestrel/pub/sarama.pop").run Tryz.prog w = .ok (some false) w := by kernel_rfl
theorem mt171_getInt8 (a : Option Addr) (w : World) : (method 494 171 (.pointer a) "pub-kestrel/pub/sarama.getInt8").run Tryz.prog w = .ok (171, .pointer a) w := by kernel_rfl
theorem na171_getInt8 (a : Option Addr) (w : World) : (nilAhead 494 171 (.pointer a) "pub-kestrel/pub/sarama.getInt8").run Tryz.prog w = .ok (some false) w := by kernel_rfl
theorem mt171_getInt32 (a : Option Addr) (w : World) : (method 494 171 (.pointer a) "pub-kestrel/pub/sarama.getInt32").run Tryz.prog w = .ok (169, .pointer a) w := by kernel_rfl
theorem na171_getInt32 (a : Option Addr) (w : World) : (nilAhead 494 171 (.pointer a) "pub-kestrel/pub/sarama.getInt32").run Tryz.prog w = .ok (some false) w := by kernel_rfl
theorem mt171_getInt64 (a : Option Addr) (w : World) : (method 494 171 (.pointer a) "pub-kestrel/pub/sarama.getInt64").run Tryz.prog w = .ok (170, .pointer a) w := by kernel_rfl
theorem na171_getInt64 (a : Option Addr) (w : World) : (nilAhead 494 171 (.pointer a) "pub-kestrel/pub/sarama.getInt64").run Tryz.prog w = .ok (some false) w := by kernel_rfl
theorem mt171_getVarint (a : Option Addr) (w : World) : (method 494 171 (.pointer a) "pub-kestrel/pub/sarama.getVarint").run Tryz.prog w = .ok (173, .pointer a) w := by kernel_rfl
theorem na171_getVarint (a : Option Addr) (w : World) : (nilAhead 494 171 (.pointer a) "pub-kestrel/pub/sarama.getVarint").run Tryz.prog w = .ok (some false) w := by kernel_rfl
theorem mt171_getVarintBytes (a : Option Addr) (w : World) : (method 494 171 (.pointer a) "pub-kestrel/pub/sarama.getVarintBytes").run Tryz.prog w = .ok (174, .pointer a) w := by kernel_rfl
theorem na171_getVarintBytes (a : Option Addr) (w : World) : (nilAhead 494 171 (.pointer a) "pub-kestrel/pub/sarama.getVarintBytes").run Tryz.prog w = .ok (some false) w := by kernel_rfl
theorem mt171_getBytes (a : Option Addr) (w : World) : (method 494 171 (.pointer a) "pub-kestrel/pub/sarama.getBytes").run Tryz.prog w = .ok (167, .pointer a) w := by kernel_rfl
theorem na171_getBytes (a : Option Addr) (w : World) : (nilAhead 494 171 (.pointer a) "pub-kestrel/pub/sarama.getBytes").run Tryz.prog w = .ok (some false) w := by kernel_rfl
theorem mt171_remaining (a : Option Addr) (w : World) : (method 494 171 (.pointer a) "pub-kestrel/pub/sarama.remaining").run Tryz.prog w = .ok (178, .pointer a) w := by kernel_rfl
theorem na171_remaining (a : Option Addr) (w : World) : (nilAhead 494 171 (.pointer a) "pub-kestrel/pub/sarama.remaining").run Tryz.prog w = .ok (some false) w := by kernel_rfl
theorem mt171_peekInt8 (a : Option Addr) (w : World) : (method 494 171 (.pointer a) "pub-kestrel/pub/sarama.peekInt8").run Tryz.prog w = .ok (175, .pointer a) w := by kernel_rfl
theorem na171_peekInt8 (a : Option Addr) (w : World) : (nilAhead 494 171 (.pointer a) "pub-kestrel/pub/sarama.peekInt8").run Tryz.prog w = .ok (some false) w := by kernel_rfl
theorem mt171_getRawBytes (a : Option Addr) (w : World) : (method 494 171 (.pointer a) "pub-kestrel/pub/sarama.getRawBytes").run Tryz.prog w = .ok (172, .pointer a) w := by kernel_rfl
theorem na171_getRawBytes (a : Option Addr) (w : World) : (nilAhead 494 171 (.pointer a) "pub-kestrel/pub/sarama.getRawBytes").run Tryz.prog w = .ok (some false) w := by kernel_rfl
theorem mt94_encode (a : Option Addr) (w : World) : (method 494 94 (.pointer a) "pub-kestrel/pub/sarama.encode").run Tryz.prog w = .ok (133, .pointer a) w := by kernel_rfl
theorem na94_encode (a : Option Addr) (w : World) : (nilAhead 494 94 (.pointer a) "pub-kestrel/pub/sarama.encode").run Tryz.prog w = .ok (some false) w := by kernel_rfl
theorem mt94_decode (a : Option Addr) (w : World) : (method 494 94 (.pointer a) "pub-kestrel/pub/sarama.decode").run Tryz.prog w = .ok (132, .pointer a) w := by kernel_rfl
theorem na94_decode (a : Option Addr) (w : World) : (nilAhead 494 94 (.pointer a) "pub-kestrel/pub/sarama.decode").run Tryz.prog w = .ok (some false) w := by kernel_rfl
theorem mt113_encode (a : Option Addr) (w : World) : (method 494 113 (.pointer a) "pub-kestrel/pub/sarama.encode").run Tryz.prog w = .ok (155, .pointer a) w := by kernel_rfl
theorem na113_encode (a : Option Addr) (w : World) : (nilAhead 494 113 (.pointer a) "pub-kestrel/pub/sarama.encode").run Tryz.prog w = .ok (some false) w := by kernel_rfl
theorem mt113_decode (a : Option Addr) (w : World) : (method 494 113 (.pointer a) "pub-kestrel/pub/sarama.decode").run Tryz.prog w = .ok (153, .pointer a) w := by kernel_rfl
theorem na113_decode (a : Option Addr) (w : World) : (nilAhead 494 113 (.pointer a) "pub-kestrel/pub/sarama.decode").run Tryz.prog w = .ok (some false) w := by kernel_rfl
theorem mt116_encode (a : Option Addr) (w : World) : (method 494 116 (.pointer a) "pub-kestrel/pub/sarama.encode").run Tryz.prog w = .ok (163, .pointer a) w := by kernel_rfl
theorem na116_encode (a : Option Addr) (w : World) : (nilAhead 494 116 (.pointer a) "pub-kestrel/pub/sarama.encode").run Tryz.prog w = .ok (some false) w := by kernel_rfl
theorem mt116_decode (a : Option Addr) (w : World) : (method 494 116 (.pointer a) "pub-kestrel/pub/sarama.decode").run Tryz.prog w = .ok (156, .pointer a) w := by kernel_rfl
theorem na116_decode (a : Option Addr) (w : World) : (nilAhead 494 116 (.pointer a) "pub-kestrel/pub/sarama.decode").run Tryz.prog w = .ok (some false) w := by kernel_rfl
attribute [go_sem] mt253_saveOffset na253_saveOffset mt253_reserveLength na253_reserveLength mt253_adjustLength na253_adjustLength mt253_run na253_run mt253_check na253_check mt253_decode na253_decode mt264_saveOffset na264_saveOffset mt264_reserveLength na264_reserveLength mt264_run na264_run mt264_check na264_check mt277_saveOffset na277_saveOffset mt277_reserveLength na277_reserveLength mt277_run na277_run mt277_check na277_check mt277_decode na277_decode mt175_push na175_push mt175_pop na175_pop mt175_putInt8 na175_putInt8 mt175_putInt32 na175_putInt32 mt175_putInt64 na175_putInt64 mt175_putVarint na175_putVarint mt175_putVarintBytes na175_putVarintBytes mt175_putBytes na175_putBytes mt180_push na180_push mt180_pop na180_pop mt180_putInt8 na180_putInt8 mt180_putInt32 na180_putInt32 mt180_putInt64 na180_putInt64 mt180_putVarint na180_putVarint mt180_putVarintBytes na180_putVarintBytes mt180_putBytes na180_putBytes mt171_push na171_push mt171_pop na171_pop mt171_getInt8 na171_getInt8 mt171_getInt32 na171_getInt32 mt171_getInt64 na171_getInt64 mt171_getVarint na171_getVarint mt171_getVarintBytes na171_getVarintBytes mt171_getBytes na171_getBytes mt171_remaining na171_remaining mt171_peekInt8 na171_peekInt8 mt171_getRawBytes na171_getRawBytes mt94_encode na94_encode mt94_decode na94_decode mt113_encode na113_encode mt113_decode na113_decode mt116_encode na116_encode mt116_decode na116_decode
end Go.Proofs.YtmiflkccfieefaaGreatDoor
