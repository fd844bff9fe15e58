/- bytes.Buffer: what is written and what is read (out of the shelf). -/
import Derived.Test.YtjebadadimejpaaDoorT3
import Derived.Test.YtjebadadimejpaaDoorShelf
import Derived.Lib.Buffer
import Derived.Lib.BufferWrite
import Derived.Lib.BufferOld
import Derived.Lib.BufferKept
import Derived.Lib.ByteType
namespace Go.Proofs.YtjebadadimejpaaDoor
open Go.RowKit
set_option linter.unusedVariables false

def BufPost (B b : Nat) (bs : List Value) (s : ByteArray) (W : World) (e : Ending) (w' : World) : Prop :=
  e = .returned (.tuple #[.int .i64 s.size, .nilIface]) ∧ Lib.IsBuffer 56 5 B b (bs ++ Lib.byteCells s.data.toList) w' ∧ Below B W w'

theorem wrb_any (B b : Nat) (l : List UInt8) (s : ByteArray) (w : World) (h : Lib.IsBuffer 56 5 B b (Lib.byteCells l) w) (hBw : B ≤ w.heap.size) (hlim : l.length + s.size ≤ 140737488355328) :
    Calls Tryd.prog 35 #[.pointer (some ⟨b, 0, none⟩), .string s] w (BufPost B b (Lib.byteCells l) s w) :=
  Tryd.Buffer_WriteString B b (Lib.byteCells l) s w h hBw (Lib.byteCells_one l) (by rw [Lib.byteCells_length]; exact hlim)

theorem rdb_any (B b : Nat) (l : List UInt8) (w : World) (h : Lib.IsBuffer 56 5 B b (Lib.byteCells l) w) :
    Calls Tryd.prog 34 #[.pointer (some ⟨b, 0, none⟩)] w fun e w' => e = .returned (.string ⟨l.toArray⟩) ∧ ∃ n, w' = w.drewN n :=
  Tryd.Buffer_String B b l w h
end Go.Proofs.YtjebadadimejpaaDoor
