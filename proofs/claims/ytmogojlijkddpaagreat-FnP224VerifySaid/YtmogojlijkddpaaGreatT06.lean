/- The proof of laws.FnP224Verify, text 7 of 36. Conditions: none. -/
import Derived.Test.YtmogojlijkddpaaGreatProg
import Derived.KernelRfl
import Derived.Test.YtmogojlijkddpaaGreatT04
noncomputable section

set_option maxRecDepth 100000
namespace Go.Proofs.YtmogojlijkddpaaGreat
open Go.Vm
def tyTree : Tr TI :=
 (.node
 (.node
  (.node
   (.node
    (.node
     (.node
      (.node
       (.node .nil (some ⟨.other, 1, 8, [.val .nilFunc]⟩) .nil)
       (some ⟨.other, 1, 8, [.val .nilFunc]⟩)
       (.node .nil (some ⟨.ptr 182, 1, 8, [.nilp]⟩) .nil))
      none
      (.node
       (.node .nil (some ⟨.other, 1, 8, [.val .nilFunc]⟩) .nil)
       (some ⟨.ptr 113, 1, 8, [.nilp]⟩)
       .nil))
     (some ⟨.ptr 161, 1, 8, [.nilp]⟩)
     (.node
      (.node
       (.node .nil (some ⟨.other, 1, 8, [.val .nilFunc]⟩) .nil)
       (some ⟨.other, 1, 8, [.val .nilFunc]⟩)
       (.node .nil (some ⟨.other, 1, 8, [.val .nilFunc]⟩) .nil))
      (some ⟨.other, 1, 8, [.val .nilFunc]⟩)
      (.node
       (.node .nil (some ⟨.array 28 5, 28, 28, [.int .u8 (.const 0), .int .u8 (.const 0), .int .u8 (.const 0), .int .u8 (.const 0), .int .u8 (.const 0), .int .u8 (.const 0), .int .u8 (.const 0), .int .u8 (.const 0), .int .u8 (.const 0), .int .u8 (.const 0), .int .u8 (.const 0), .int .u8 (.const 0), .int .u8 (.const 0), .int .u8 (.const 0), .int .u8 (.const 0), .int .u8 (.const 0), .int .u8 (.const 0), .int .u8 (.const 0), .int .u8 (.const 0), .int .u8 (.const 0), .int .u8 (.const 0), .int .u8 (.const 0), .int .u8 (.const 0), .int .u8 (.const 0), .int .u8 (.const 0), .int .u8 (.const 0), .int .u8 (.const 0), .int .u8 (.const 0)]⟩) .nil)
       (some ⟨.slice 83, 1, 24, [.nils]⟩)
       .nil)))
    (some ⟨.struct [(0, 2), (1, 3), (2, 4), (3, 6)], 4, 24, [.int .i64 (.const 0), .int .i64 (.const 0), .bool false, .int .u8 (.const 0)]⟩)
    (.node
     (.node
      (.node
       (.node .nil (some ⟨.other, 1, 8, [.val .nilFunc]⟩) .nil)
       (some ⟨.other, 1, 8, [.val .nilFunc]⟩)
       (.node .nil (some ⟨.other, 1, 8, [.val .nilFunc]⟩) .nil))
      (some ⟨.other, 1, 8, [.val .nilFunc]⟩)
      (.node
       (.node .nil (some ⟨.other, 1, 8, [.val .nilFunc]⟩) .nil)
       (some ⟨.struct [(0, 9)], 1, 16, [.val (.string ByteArray.empty)]⟩)
       .nil))
     (some ⟨.slice 37, 1, 24, [.nils]⟩)
     (.node
      (.node .nil (some ⟨.array 4 82, 4, 32, [.int .u64 (.const 0), .int .u64 (.const 0), .int .u64 (.const 0), .int .u64 (.const 0)]⟩) .nil)
      (some ⟨.other, 1, 8, [.val .nilFunc]⟩)
      (.node
       (.node .nil (some ⟨.other, 1, 8, [.val .nilFunc]⟩) .nil)
       (some ⟨.other, 1, 8, [.val .nilFunc]⟩)
       .nil))))
   (some ⟨.int .i64, 1, 8, [.int .i64 (.const 0)]⟩)
   (.node
    (.node
     (.node
      (.node
       (.node .nil (some ⟨.other, 1, 8, [.val .nilFunc]⟩) .nil)
       (some ⟨.other, 1, 8, [.val .nilFunc]⟩)
       (.node .nil (some ⟨.other, 1, 8, [.val .nilFunc]⟩) .nil))
      (some ⟨.other, 1, 8, [.val .nilFunc]⟩)
      (.node
       (.node .nil (some ⟨.struct [(0, 162)], 0, 0, []⟩) .nil)
       (some ⟨.other, 1, 8, [.val .nilFunc]⟩)
       .nil))
     (some ⟨.struct [(0, 17)], 1, 8, [.nilp]⟩)
     (.node
      (.node
       (.node .nil (some ⟨.int .u32, 1, 4, [.int .u32 (.const 0)]⟩) .nil)
       (some ⟨.int .u64, 1, 8, [.int .u64 (.const 0)]⟩)
       (.node .nil (some ⟨.other, 1, 8, [.val .nilFunc]⟩) .nil))
      (some ⟨.ptr 53, 1, 8, [.nilp]⟩)
      (.node
       (.node .nil (some ⟨.other, 1, 8, [.val .nilFunc]⟩) .nil)
       (some ⟨.int .u64, 1, 8, [.int .u64 (.const 0)]⟩)
       .nil)))
    (some ⟨.string, 1, 16, [.val (.string ByteArray.empty)]⟩)
    (.node
     (.node
      (.node
       (.node .nil (some ⟨.ptr 86, 1, 8, [.nilp]⟩) .nil)
       (some ⟨.other, 1, 8, [.val .nilFunc]⟩)
       (.node .nil (some ⟨.other, 1, 8, [.val .nilFunc]⟩) .nil))
      (some ⟨.ptr 73, 1, 8, [.nilp]⟩)
      (.node
       (.node .nil (some ⟨.struct [(0, 12), (1, 12), (2, 147), (3, 165), (4, 5), (5, 5), (6, 166), (7, 167), (8, 168), (9, 169), (10, 170)], 11, 48, [.int .u64 (.const 0), .int .u64 (.const 0), .int .u32 (.const 0), .int .u8 (.const 0), .int .u8 (.const 0), .int .u8 (.const 0), .int .u8 (.const 0), .val .nilFunc, .nilp, .int .i32 (.const 0), .int .i32 (.const 0)]⟩) .nil)
       (some ⟨.other, 1, 8, [.val .nilFunc]⟩)
       .nil))
     (some ⟨.slice 2, 1, 24, [.nils]⟩)
     (.node
      (.node
       (.node .nil (some ⟨.other, 1, 8, [.val .nilFunc]⟩) .nil)
       (some ⟨.struct [(0, 85), (1, 85), (2, 85)], 3, 24, [.nilp, .nilp, .nilp]⟩)
       .nil)
      (some ⟨.other, 1, 8, [.val .nilFunc]⟩)
      (.node
       (.node .nil (some ⟨.other, 1, 8, [.val .nilFunc]⟩) .nil)
       (some ⟨.other, 1, 8, [.val .nilFunc]⟩)
       .nil)))))
  (some ⟨.other, 1, 8, [.val .nilFunc]⟩)
  (.node
   (.node
    (.node
     (.node
      (.node
       (.node .nil (some ⟨.other, 1, 8, [.val .nilFunc]⟩) .nil)
       (some ⟨.struct [(0, 61), (1, 62), (2, 63), (3, 64), (4, 22)], 5, 64, [.val (.string ByteArray.empty), .val .nilFunc, .val .nilFunc, .nilp, .nils]⟩)
       (.node .nil (some ⟨.other, 1, 8, [.val .nilFunc]⟩) .nil))
      none
      (.node
       (.node .nil (some ⟨.struct [(0, 17), (1, 17), (2, 17), (3, 9)], 4, 40, [.nilp, .nilp, .nilp, .val (.string ByteArray.empty)]⟩) .nil)
       (some ⟨.other, 1, 8, [.val .nilFunc]⟩)
       .nil))
     (some ⟨.ptr 172, 1, 8, [.nilp]⟩)
     (.node
      (.node
       (.node .nil (some ⟨.other, 1, 8, [.val .nilFunc]⟩) .nil)
       (some ⟨.other, 1, 8, [.val .nilFunc]⟩)
       .nil)
      (some ⟨.other, 1, 8, [.val .nilFunc]⟩)
      (.node
       (.node .nil (some ⟨.ptr 175, 1, 8, [.nilp]⟩) .nil)
       (some ⟨.struct [(0, 111)], 1, 24, [.nils]⟩)
       .nil)))
    (some ⟨.string, 1, 16, [.val (.string ByteArray.empty)]⟩)
    (.node
     (.node
      (.node
       (.node .nil (some ⟨.other, 1, 8, [.val .nilFunc]⟩) .nil)
       (some ⟨.struct [(0, 61), (1, 22)], 2, 40, [.val (.string ByteArray.empty), .nils]⟩)
       (.node .nil (some ⟨.other, 1, 8, [.val .nilFunc]⟩) .nil))
      (some ⟨.ptr 66, 1, 8, [.nilp]⟩)
      (.node
       (.node .nil (some ⟨.int .i32, 1, 4, [.int .i32 (.const 0)]⟩) .nil)
       (some ⟨.other, 1, 8, [.val .nilFunc]⟩)
       .nil))
     (some ⟨.struct [(0, 3), (1, 3), (2, 3), (3, 23)], 4, 48, [.int .i64 (.const 0), .int .i64 (.const 0), .int .i64 (.const 0), .nils]⟩)
     (.node
      (.node
       (.node .nil (some ⟨.array 15 95, 15, 120, [.nilp, .nilp, .nilp, .nilp, .nilp, .nilp, .nilp, .nilp, .nilp, .nilp, .nilp, .nilp, .nilp, .nilp, .nilp]⟩) .nil)
       (some ⟨.struct [(0, 87)], 4, 32, [.int .u64 (.const 0), .int .u64 (.const 0), .int .u64 (.const 0), .int .u64 (.const 0)]⟩)
       .nil)
      (some ⟨.other, 1, 8, [.val .nilFunc]⟩)
      (.node
       (.node .nil (some ⟨.other, 1, 8, [.val .nilFunc]⟩) .nil)
       (some ⟨.other, 1, 8, [.val .nilFunc]⟩)
       .nil))))
   (some ⟨.int .u8, 1, 1, [.int .u8 (.const 0)]⟩)
   (.node
    (.node
     (.node
      (.node
       .nil
       (some ⟨.other, 1, 8, [.val .nilFunc]⟩)
       (.node .nil (some ⟨.other, 1, 8, [.val .nilFunc]⟩) .nil))
      (some ⟨.array 2 3, 2, 16, [.int .i64 (.const 0), .int .i64 (.const 0)]⟩)
      (.node
       (.node .nil (some ⟨.int .u8, 1, 1, [.int .u8 (.const 0)]⟩) .nil)
       (some ⟨.other, 1, 8, [.val .nilFunc]⟩)
       .nil))
     (some ⟨.int .i32, 1, 4, [.int .i32 (.const 0)]⟩)
     (.node
      (.node .nil (some ⟨.ptr 89, 1, 8, [.nilp]⟩) .nil)
      (some ⟨.struct [(0, 22), (1, 22)], 2, 48, [.nils, .nils]⟩)
      (.node
       (.node .nil (some ⟨.array 15 48, 15, 120, [.nilp, .nilp, .nilp, .nilp, .nilp, .nilp, .nilp, .nilp, .nilp, .nilp, .nilp, .nilp, .nilp, .nilp, .nilp]⟩) .nil)
       (some ⟨.struct [(0, 95), (1, 4), (2, 83), (3, 95)], 4, 32, [.nilp, .bool false, .int .u64 (.const 0), .nilp]⟩)
       .nil)))
    (some ⟨.struct [(0, 9), (1, 12)], 2, 24, [.val (.string ByteArray.empty), .int .u64 (.const 0)]⟩)
    (.node
     (.node
      (.node
       (.node .nil (some ⟨.other, 1, 8, [.val .nilFunc]⟩) .nil)
       (some ⟨.struct [(0, 28), (1, 28), (2, 28)], 3, 72, [.nils, .nils, .nils]⟩)
       (.node .nil (some ⟨.other, 1, 8, [.val .nilFunc]⟩) .nil))
      (some ⟨.iface false, 1, 16, [.val .nilIface]⟩)
      (.node
       (.node .nil (some ⟨.other, 1, 8, [.val .nilFunc]⟩) .nil)
       (some ⟨.other, 1, 8, [.val .nilFunc]⟩)
       .nil))
     (some ⟨.struct [(0, 4), (1, 28), (2, 28)], 3, 56, [.bool false, .nils, .nils]⟩)
     (.node
      (.node
       (.node .nil (some ⟨.other, 1, 8, [.val .nilFunc]⟩) .nil)
       none
       .nil)
      (some ⟨.string, 1, 16, [.val (.string ByteArray.empty)]⟩)
      (.node
       (.node .nil (some ⟨.other, 1, 8, [.val .nilFunc]⟩) .nil)
       (some ⟨.other, 1, 8, [.val .nilFunc]⟩)
       .nil))))))
 none
 (.node
  (.node
   (.node
    (.node
     (.node
      (.node
       .nil
       (some ⟨.ptr 118, 1, 8, [.nilp]⟩)
       (.node .nil (some ⟨.other, 1, 8, [.val .nilFunc]⟩) .nil))
      (some ⟨.other, 1, 8, [.val .nilFunc]⟩)
      (.node
       (.node .nil (some ⟨.struct [(0, 17), (1, 17), (2, 17), (3, 9)], 4, 40, [.nilp, .nilp, .nilp, .val (.string ByteArray.empty)]⟩) .nil)
       none
       .nil))
     (some ⟨.ptr 164, 1, 8, [.nilp]⟩)
     (.node
      (.node
       (.node .nil (some ⟨.other, 1, 8, [.val .nilFunc]⟩) .nil)
       (some ⟨.other, 1, 8, [.val .nilFunc]⟩)
       (.node .nil (some ⟨.ptr 209, 1, 8, [.nilp]⟩) .nil))
      (some ⟨.ptr 92, 1, 8, [.nilp]⟩)
      (.node
       (.node .nil (some ⟨.other, 1, 8, [.val .nilFunc]⟩) .nil)
       (some ⟨.struct [(0, 111)], 1, 24, [.nils]⟩)
       .nil)))
    (some ⟨.struct [(0, 2), (1, 3), (2, 4), (3, 6)], 4, 24, [.int .i64 (.const 0), .int .i64 (.const 0), .bool false, .int .u8 (.const 0)]⟩)
    (.node
     (.node
      (.node
       (.node .nil (some ⟨.other, 1, 8, [.val .nilFunc]⟩) .nil)
       (some ⟨.struct [(0, 61), (1, 22)], 2, 40, [.val (.string ByteArray.empty), .nils]⟩)
       (.node .nil (some ⟨.other, 1, 8, [.val .nilFunc]⟩) .nil))
      (some ⟨.other, 1, 8, [.val .nilFunc]⟩)
      (.node
       (.node .nil (some ⟨.ptr 5, 1, 8, [.nilp]⟩) .nil)
       (some ⟨.struct [(0, 9)], 1, 16, [.val (.string ByteArray.empty)]⟩)
       .nil))
     (some ⟨.struct [(0, 3), (1, 3), (2, 3), (3, 23)], 4, 48, [.int .i64 (.const 0), .int .i64 (.const 0), .int .i64 (.const 0), .nils]⟩)
     (.node
      (.node
       (.node .nil (some ⟨.other, 1, 8, [.val .nilFunc]⟩) .nil)
       (some ⟨.struct [(0, 87)], 4, 32, [.int .u64 (.const 0), .int .u64 (.const 0), .int .u64 (.const 0), .int .u64 (.const 0)]⟩)
       .nil)
      (some ⟨.other, 1, 8, [.val .nilFunc]⟩)
      (.node .nil (some ⟨.other, 1, 8, [.val .nilFunc]⟩) .nil))))
   (some ⟨.bool, 1, 1, [.bool false]⟩)
   (.node
    (.node
     (.node
      (.node
       (.node .nil (some ⟨.other, 1, 8, [.val .nilFunc]⟩) .nil)
       (some ⟨.other, 1, 8, [.val .nilFunc]⟩)
       (.node .nil (some ⟨.array 4 82, 4, 32, [.int .u64 (.const 0), .int .u64 (.const 0), .int .u64 (.const 0), .int .u64 (.const 0)]⟩) .nil))
      (some ⟨.other, 1, 8, [.val .nilFunc]⟩)
      (.node
       (.node .nil (some ⟨.struct [(0, 162)], 0, 0, []⟩) .nil)
       (some ⟨.other, 1, 8, [.val .nilFunc]⟩)
       .nil))
     (some ⟨.iface true, 1, 16, [.val .nilIface]⟩)
     (.node
      (.node
       (.node .nil (some ⟨.other, 1, 8, [.val .nilFunc]⟩) .nil)
       (some ⟨.other, 1, 8, [.val .nilFunc]⟩)
       .nil)
      (some ⟨.struct [(0, 22), (1, 22)], 2, 48, [.nils, .nils]⟩)
      (.node
       (.node .nil (some ⟨.other, 1, 8, [.val .nilFunc]⟩) .nil)
       (some ⟨.other, 1, 8, [.val .nilFunc]⟩)
       .nil)))
    (some ⟨.int .u64, 1, 8, [.int .u64 (.const 0)]⟩)
    (.node
     (.node
      (.node
       (.node .nil (some ⟨.other, 1, 8, [.val .nilFunc]⟩) .nil)
       (some ⟨.struct [(0, 28), (1, 28), (2, 28)], 3, 72, [.nils, .nils, .nils]⟩)
       (.node .nil (some ⟨.int .u64, 1, 8, [.int .u64 (.const 0)]⟩) .nil))
      (some ⟨.iface false, 1, 16, [.val .nilIface]⟩)
      (.node
       (.node .nil (some ⟨.struct [(0, 12), (1, 12), (2, 147), (3, 165), (4, 5), (5, 5), (6, 166), (7, 167), (8, 168), (9, 169), (10, 170)], 11, 48, [.int .u64 (.const 0), .int .u64 (.const 0), .int .u32 (.const 0), .int .u8 (.const 0), .int .u8 (.const 0), .int .u8 (.const 0), .int .u8 (.const 0), .val .nilFunc, .nilp, .int .i32 (.const 0), .int .i32 (.const 0)]⟩) .nil)
       (some ⟨.ptr 87, 1, 8, [.nilp]⟩)
       .nil))
     (some ⟨.slice 2, 1, 24, [.nils]⟩)
     (.node
      (.node
       (.node .nil (some ⟨.other, 1, 8, [.val .nilFunc]⟩) .nil)
       (some ⟨.struct [(0, 85), (1, 85), (2, 85)], 3, 24, [.nilp, .nilp, .nilp]⟩)
       .nil)
      (some ⟨.other, 1, 8, [.val .nilFunc]⟩)
      (.node
       (.node .nil (some ⟨.other, 1, 8, [.val .nilFunc]⟩) .nil)
       (some ⟨.other, 1, 8, [.val .nilFunc]⟩)
       .nil)))))
  (some ⟨.int .i64, 1, 8, [.int .i64 (.const 0)]⟩)
  (.node
   (.node
    (.node
     (.node
      (.node
       (.node .nil (some ⟨.other, 1, 8, [.val .nilFunc]⟩) .nil)
       (some ⟨.struct [(0, 61), (1, 62), (2, 63), (3, 64), (4, 22)], 5, 64, [.val (.string ByteArray.empty), .val .nilFunc, .val .nilFunc, .nilp, .nils]⟩)
       (.node .nil (some ⟨.other, 1, 8, [.val .nilFunc]⟩) .nil))
      (some ⟨.other, 1, 8, [.val .nilFunc]⟩)
      (.node
       (.node .nil (some ⟨.array 0 16, 0, 0, []⟩) .nil)
       (some ⟨.other, 1, 8, [.val .nilFunc]⟩)
       .nil))
     (some ⟨.struct [(0, 17)], 1, 8, [.nilp]⟩)
     (.node
      (.node
       (.node .nil (some ⟨.other, 1, 8, [.val .nilFunc]⟩) .nil)
       (some ⟨.int .u64, 1, 8, [.int .u64 (.const 0)]⟩)
       (.node .nil (some ⟨.other, 1, 8, [.val .nilFunc]⟩) .nil))
      (some ⟨.other, 1, 8, [.val .nilFunc]⟩)
      (.node
       (.node .nil (some ⟨.ptr 190, 1, 8, [.nilp]⟩) .nil)
       (some ⟨.other, 1, 8, [.val .nilFunc]⟩)
       .nil)))
    (some ⟨.string, 1, 16, [.val (.string ByteArray.empty)]⟩)
    (.node
     (.node
      (.node
       (.node .nil (some ⟨.other, 1, 8, [.val .nilFunc]⟩) .nil)
       (some ⟨.other, 1, 8, [.val .nilFunc]⟩)
       (.node .nil (some ⟨.other, 1, 8, [.val .nilFunc]⟩) .nil))
      (some ⟨.other, 1, 8, [.val .nilFunc]⟩)
      (.node
       (.node .nil (some ⟨.int .i32, 1, 4, [.int .i32 (.const 0)]⟩) .nil)
       (some ⟨.other, 1, 8, [.val .nilFunc]⟩)
       .nil))
     (some ⟨.other, 1, 8, [.val .nilFunc]⟩)
     (.node
      (.node
       (.node .nil (some ⟨.slice 3, 1, 24, [.nils]⟩) .nil)
       (some ⟨.other, 1, 8, [.val .nilFunc]⟩)
       .nil)
      (some ⟨.other, 1, 8, [.val .nilFunc]⟩)
      (.node
       (.node .nil (some ⟨.other, 1, 8, [.val .nilFunc]⟩) .nil)
       (some ⟨.other, 1, 8, [.val .nilFunc]⟩)
       .nil))))
   (some ⟨.int .u8, 1, 1, [.int .u8 (.const 0)]⟩)
   (.node
    (.node
     (.node
      (.node
       (.node .nil (some ⟨.other, 1, 8, [.val .nilFunc]⟩) .nil)
       none
       (.node .nil (some ⟨.ptr 196, 1, 8, [.nilp]⟩) .nil))
      (some ⟨.other, 1, 8, [.val .nilFunc]⟩)
      (.node
       (.node .nil (some ⟨.int .u8, 1, 1, [.int .u8 (.const 0)]⟩) .nil)
       (some ⟨.ptr 104, 1, 8, [.nilp]⟩)
       .nil))
     (some ⟨.slice 5, 1, 24, [.nils]⟩)
     (.node
      (.node
       (.node .nil (some ⟨.other, 1, 8, [.val .nilFunc]⟩) .nil)
       (some ⟨.array 4 82, 4, 32, [.int .u64 (.const 0), .int .u64 (.const 0), .int .u64 (.const 0), .int .u64 (.const 0)]⟩)
       .nil)
      (some ⟨.other, 1, 8, [.val .nilFunc]⟩)
      (.node
       (.node .nil (some ⟨.array 15 48, 15, 120, [.nilp, .nilp, .nilp, .nilp, .nilp, .nilp, .nilp, .nilp, .nilp, .nilp, .nilp, .nilp, .nilp, .nilp, .nilp]⟩) .nil)
       (some ⟨.struct [(0, 95), (1, 4), (2, 83), (3, 95)], 4, 32, [.nilp, .bool false, .int .u64 (.const 0), .nilp]⟩)
       .nil)))
    (some ⟨.struct [(0, 9), (1, 12)], 2, 24, [.val (.string ByteArray.empty), .int .u64 (.const 0)]⟩)
    (.node
     (.node
      (.node
       (.node .nil (some ⟨.other, 1, 8, [.val .nilFunc]⟩) .nil)
       (some ⟨.other, 1, 8, [.val .nilFunc]⟩)
       (.node .nil (some ⟨.ptr 82, 1, 8, [.nilp]⟩) .nil))
      none
      (.node
       (.node .nil (some ⟨.other, 1, 8, [.val .nilFunc]⟩) .nil)
       (some ⟨.other, 1, 8, [.val .nilFunc]⟩)
       .nil))
     (some ⟨.struct [(0, 4), (1, 28), (2, 28)], 3, 56, [.bool false, .nils, .nils]⟩)
     (.node
      (.node
       (.node .nil (some ⟨.other, 1, 8, [.val .nilFunc]⟩) .nil)
       (some ⟨.other, 1, 8, [.val .nilFunc]⟩)
       .nil)
      (some ⟨.other, 1, 8, [.val .nilFunc]⟩)
      (.node .nil (some ⟨.other, 1, 8, [.val .nilFunc]⟩) .nil)))))))
def fnTree : Tr Func :=
 (.node
 (.node
  (.node
   (.node
    (.node
     (.node
      (.node
       (.node .nil (some Tryz.f127) .nil)
       (some Tryz.f63)
       .nil)
      (some Tryz.f31)
      (.node
       (.node .nil (some Tryz.f159) .nil)
       (some Tryz.f95)
       .nil))
     (some Tryz.f15)
     (.node
      (.node
       (.node .nil (some Tryz.f143) .nil)
       (some Tryz.f79)
       .nil)
      (some Tryz.f47)
      (.node .nil (some Tryz.f111) .nil)))
    (some Tryz.f7)
    (.node
     (.node
      (.node
       (.node .nil (some Tryz.f135) .nil)
       (some Tryz.f71)
       .nil)
      (some Tryz.f39)
      (.node
       (.node .nil (some Tryz.f167) .nil)
       (some Tryz.f103)
       .nil))
     (some Tryz.f23)
     (.node
      (.node
       (.node .nil (some Tryz.f151) .nil)
       (some Tryz.f87)
       .nil)
      (some Tryz.f55)
      (.node .nil (some Tryz.f119) .nil))))
   (some Tryz.f3)
   (.node
    (.node
     (.node
      (.node
       (.node .nil (some Tryz.f131) .nil)
       (some Tryz.f67)
       .nil)
      (some Tryz.f35)
      (.node
       (.node .nil (some Tryz.f163) .nil)
       (some Tryz.f99)
       .nil))
     (some Tryz.f19)
     (.node
      (.node
       (.node .nil (some Tryz.f147) .nil)
       (some Tryz.f83)
       .nil)
      (some Tryz.f51)
      (.node .nil (some Tryz.f115) .nil)))
    (some Tryz.f11)
    (.node
     (.node
      (.node
       (.node .nil (some Tryz.f139) .nil)
       (some Tryz.f75)
       .nil)
      (some Tryz.f43)
      (.node
       (.node .nil (some Tryz.f171) .nil)
       (some Tryz.f107)
       .nil))
     (some Tryz.f27)
     (.node
      (.node
       (.node .nil (some Tryz.f155) .nil)
       (some Tryz.f91)
       .nil)
      (some Tryz.f59)
      (.node .nil (some Tryz.f123) .nil)))))
  (some Tryz.f1)
  (.node
   (.node
    (.node
     (.node
      (.node
       (.node .nil (some Tryz.f129) .nil)
       (some Tryz.f65)
       .nil)
      (some Tryz.f33)
      (.node
       (.node .nil (some Tryz.f161) .nil)
       (some Tryz.f97)
       .nil))
     (some Tryz.f17)
     (.node
      (.node
       (.node .nil (some Tryz.f145) .nil)
       (some Tryz.f81)
       .nil)
      (some Tryz.f49)
      (.node .nil (some Tryz.f113) .nil)))
    (some Tryz.f9)
    (.node
     (.node
      (.node
       (.node .nil (some Tryz.f137) .nil)
       (some Tryz.f73)
       .nil)
      (some Tryz.f41)
      (.node
       (.node .nil (some Tryz.f169) .nil)
       (some Tryz.f105)
       .nil))
     (some Tryz.f25)
     (.node
      (.node
       (.node .nil (some Tryz.f153) .nil)
       (some Tryz.f89)
       .nil)
      (some Tryz.f57)
      (.node .nil (some Tryz.f121) .nil))))
   (some Tryz.f5)
   (.node
    (.node
     (.node
      (.node
       (.node .nil (some Tryz.f133) .nil)
       (some Tryz.f69)
       .nil)
      (some Tryz.f37)
      (.node
       (.node .nil (some Tryz.f165) .nil)
       (some Tryz.f101)
       .nil))
     (some Tryz.f21)
     (.node
      (.node
       (.node .nil (some Tryz.f149) .nil)
       (some Tryz.f85)
       .nil)
      (some Tryz.f53)
      (.node .nil (some Tryz.f117) .nil)))
    (some Tryz.f13)
    (.node
     (.node
      (.node
       (.node .nil (some Tryz.f141) .nil)
       (some Tryz.f77)
       .nil)
      (some Tryz.f45)
      (.node
       (.node .nil (some Tryz.f173) .nil)
       (some Tryz.f109)
       .nil))
     (some Tryz.f29)
     (.node
      (.node
       (.node .nil (some Tryz.f157) .nil)
       (some Tryz.f93)
       .nil)
      (some Tryz.f61)
      (.node .nil (some Tryz.f125) .nil))))))
 (some Tryz.f0)
 (.node
  (.node
   (.node
    (.node
     (.node
      (.node
       (.node .nil (some Tryz.f128) .nil)
       (some Tryz.f64)
       .nil)
      (some Tryz.f32)
      (.node
       (.node .nil (some Tryz.f160) .nil)
       (some Tryz.f96)
       .nil))
     (some Tryz.f16)
     (.node
      (.node
       (.node .nil (some Tryz.f144) .nil)
       (some Tryz.f80)
       .nil)
      (some Tryz.f48)
      (.node .nil (some Tryz.f112) .nil)))
    (some Tryz.f8)
    (.node
     (.node
      (.node
       (.node .nil (some Tryz.f136) .nil)
       (some Tryz.f72)
       .nil)
      (some Tryz.f40)
      (.node
       (.node .nil (some Tryz.f168) .nil)
       (some Tryz.f104)
       .nil))
     (some Tryz.f24)
     (.node
      (.node
       (.node .nil (some Tryz.f152) .nil)
       (some Tryz.f88)
       .nil)
      (some Tryz.f56)
      (.node .nil (some Tryz.f120) .nil))))
   (some Tryz.f4)
   (.node
    (.node
     (.node
      (.node
       (.node .nil (some Tryz.f132) .nil)
       (some Tryz.f68)
       .nil)
      (some Tryz.f36)
      (.node
       (.node .nil (some Tryz.f164) .nil)
       (some Tryz.f100)
       .nil))
     (some Tryz.f20)
     (.node
      (.node
       (.node .nil (some Tryz.f148) .nil)
       (some Tryz.f84)
       .nil)
      (some Tryz.f52)
      (.node .nil (some Tryz.f116) .nil)))
    (some Tryz.f12)
    (.node
     (.node
      (.node
       (.node .nil (some Tryz.f140) .nil)
       (some Tryz.f76)
       .nil)
      (some Tryz.f44)
      (.node
       (.node .nil (some Tryz.f172) .nil)
       (some Tryz.f108)
       .nil))
     (some Tryz.f28)
     (.node
      (.node
       (.node .nil (some Tryz.f156) .nil)
       (some Tryz.f92)
       .nil)
      (some Tryz.f60)
      (.node .nil (some Tryz.f124) .nil)))))
  (some Tryz.f2)
  (.node
   (.node
    (.node
     (.node
      (.node
       (.node .nil (some Tryz.f130) .nil)
       (some Tryz.f66)
       .nil)
      (some Tryz.f34)
      (.node
       (.node .nil (some Tryz.f162) .nil)
       (some Tryz.f98)
       .nil))
     (some Tryz.f18)
     (.node
      (.node
       (.node .nil (some Tryz.f146) .nil)
       (some Tryz.f82)
       .nil)
      (some Tryz.f50)
      (.node .nil (some Tryz.f114) .nil)))
    (some Tryz.f10)
    (.node
     (.node
      (.node
       (.node .nil (some Tryz.f138) .nil)
       (some Tryz.f74)
       .nil)
      (some Tryz.f42)
      (.node
       (.node .nil (some Tryz.f170) .nil)
       (some Tryz.f106)
       .nil))
     (some Tryz.f26)
     (.node
      (.node
       (.node .nil (some Tryz.f154) .nil)
       (some Tryz.f90)
       .nil)
      (some Tryz.f58)
      (.node .nil (some Tryz.f122) .nil))))
   (some Tryz.f6)
   (.node
    (.node
     (.node
      (.node
       (.node .nil (some Tryz.f134) .nil)
       (some Tryz.f70)
       .nil)
      (some Tryz.f38)
      (.node
       (.node .nil (some Tryz.f166) .nil)
       (some Tryz.f102)
       .nil))
     (some Tryz.f22)
     (.node
      (.node
       (.node .nil (some Tryz.f150) .nil)
       (some Tryz.f86)
       .nil)
      (some Tryz.f54)
      (.node .nil (some Tryz.f118) .nil)))
    (some Tryz.f14)
    (.node
     (.node
      (.node
       (.node .nil (some Tryz.f142) .nil)
       (some Tryz.f78)
       .nil)
      (some Tryz.f46)
      (.node
       (.node .nil (some Tryz.f174) .nil)
       (some Tryz.f110)
       .nil))
     (some Tryz.f30)
     (.node
      (.node
       (.node .nil (some Tryz.f158) .nil)
       (some Tryz.f94)
       .nil)
      (some Tryz.f62)
      (.node .nil (some Tryz.f126) .nil)))))))
theorem tys_ok : chkTr (tyChk Tryz.prog) id tyTree = true := by kernel_rfl
theorem fns_ok : fnTree = listTr 0 Tryz.prog.funcs.toList .nil := by kernel_rfl
theorem names_ok : (Tryz.prog.funcs.toList.all fun fn => !(fn.name == "runtime.NumGoroutine")) = true := by kernel_rfl
theorem mixed_ok : Tryz.prog.follows .mixedOrders = true := by kernel_rfl
end Go.Proofs.YtmogojlijkddpaaGreat
end
