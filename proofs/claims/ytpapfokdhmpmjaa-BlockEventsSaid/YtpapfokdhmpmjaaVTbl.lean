/- The table of types that the walker is told. -/
import Derived.Test.YtpapfokdhmpmjaaVxUse
import Derived.Test.YtpapfokdhmpmjaaVxFlat
import Derived.Test.YtpapfokdhmpmjaaRows
namespace Go.Proofs.Ytpapfokdhmpmjaa.Vx
open Go.RowKit

def tb : Tbl where
  T :=
    (3, ⟨1, false, [.int .i64 (0)], .int .i64, 8⟩) ::
    (4, ⟨1, false, [.ff], .bool, 1⟩) ::
    (9, ⟨1, false, [.str []], .str, 16⟩) ::
    (5, ⟨1, false, [.int .u8 (0)], .int .u8, 1⟩) ::
    (91, ⟨1, false, [.int .u64 (0)], .int .u64, 8⟩) ::
    (80, ⟨1, false, [.val (.slice none 0 0)], .slice 5, 24⟩) ::
    (31, ⟨1, false, [.int .i64 (0)], .int .i64, 8⟩) ::
    (23, ⟨2, true, [.str [], .int .i64 (0)], .struct [(0, (1, false)), (1, (1, false))], 24⟩) ::
    (25, ⟨8, true, [.str [], .int .i64 (0), .str [], .int .i64 (0), .int .i64 (0), .str [], .int .i64 (0), .int .i64 (0)], .struct [(0, (2, true)), (2, (2, true)), (4, (1, false)), (5, (1, false)), (6, (1, false)), (7, (1, false))], 88⟩) ::
    (27, ⟨13, true, [.int .i64 (0), .str [], .int .i64 (0), .str [], .int .i64 (0), .int .i64 (0), .str [], .int .i64 (0), .int .i64 (0), .str [], .str [], .int .i64 (0), .int .i64 (0)], .struct [(0, (1, false)), (1, (8, true)), (9, (1, false)), (10, (2, true)), (12, (1, false))], 144⟩) ::
    (30, ⟨1, false, [.val (.slice none 0 0)], .slice 27, 24⟩) ::
    (40, ⟨4, true, [.str [], .int .i64 (0), .int .i64 (0), .val (.slice none 0 0)], .struct [(0, (1, false)), (1, (1, false)), (2, (1, false)), (3, (1, false))], 56⟩) ::
    (86, ⟨3, true, [.str [], .int .i64 (0), .int .i64 (0)], .struct [(0, (1, false)), (1, (1, false)), (2, (1, false))], 32⟩) ::
    (82, ⟨2, true, [.val (.slice none 0 0), .ff], .struct [(0, (1, false)), (1, (1, false))], 32⟩) ::
    (79, ⟨3, true, [.str [], .int .i64 (0), .int .i64 (0)], .struct [(0, (1, false)), (1, (1, false)), (2, (1, false))], 32⟩) ::
    (83, ⟨4, true, [.str [], .int .i64 (0), .str [], .int .i64 (0)], .array 2 23, 48⟩) ::
    []
  F :=
    (27, [0, 1, 0, 1, 0, 0, 1, 0, 0, 1, 1, 0, 0]) ::
    (23, [1, 0]) ::
    (25, [1, 0, 1, 0, 0, 1, 0, 0]) ::
    []

theorem tb_ok : tb.Ok Try.prog where
  T :=
    TblOk.cons (by kernel_rfl) <|
    TblOk.cons (by kernel_rfl) <|
    TblOk.cons (by kernel_rfl) <|
    TblOk.cons (by kernel_rfl) <|
    TblOk.cons (by kernel_rfl) <|
    TblOk.cons (by kernel_rfl) <|
    TblOk.cons (by kernel_rfl) <|
    TblOk.cons (by kernel_rfl) <|
    TblOk.cons (by kernel_rfl) <|
    TblOk.cons (by kernel_rfl) <|
    TblOk.cons (by kernel_rfl) <|
    TblOk.cons (by kernel_rfl) <|
    TblOk.cons (by kernel_rfl) <|
    TblOk.cons (by kernel_rfl) <|
    TblOk.cons (by kernel_rfl) <|
    TblOk.cons (by kernel_rfl) <|
    TblOk.nil _
  F :=
    FlatsOk.cons (FlatOk.of (D := .struct (Try.prog.fieldsOf 27)) 6 (by decide) (by kernel_rfl) (by kernel_rfl) rfl (by kernel_rfl)) <|
    FlatsOk.cons (FlatOk.of (D := .struct (Try.prog.fieldsOf 23)) 6 (by decide) (by kernel_rfl) (by kernel_rfl) rfl (by kernel_rfl)) <|
    FlatsOk.cons (FlatOk.of (D := .struct (Try.prog.fieldsOf 25)) 6 (by decide) (by kernel_rfl) (by kernel_rfl) rfl (by kernel_rfl)) <|
    FlatsOk.nil _

end Go.Proofs.Ytpapfokdhmpmjaa.Vx
