import Derived.Test.Qxb6619252aFloat
import Derived.Test.Qxb6619252aSA
import Derived.Test.Qxb6619252aSC4
import Derived.Test.Qxb6619252aSC5
import Derived.Test.Qxb6619252aS7
import Derived.Test.Qxb6619252aS11
import Derived.Test.Qxb6619252aS13
import Derived.Sort.AssemblyPlain
namespace Go.Proofs.Qxb6619252a
open Go.RowKit Go.Sort

theorem callees13f : Callees13s where
  ins := F.insertionSort_str
  brk := F.breakPatterns_str
  piv := F.choosePivot_str
  par := F.partialInsertionSort_str
  peq := F.partitionEqualOrdered_string
  prt := F.partitionOrdered_string

theorem plain13f : Plain13s where
  swo := swo_ltF
  ins := insertionSort_holds
  par := partialInsertionSort_holds
  prt := partition_holds _
  peq := partitionEqual_holds _
  pdq := pdq_sorts _

theorem pdqWalkF (blk off cap a b limit : Nat) (d : Array Nat) (w : World) (hH : Holds encF w blk off d) (hb : blk < w.heap.size) (hab : a ≤ b) (hbd : b ≤ d.size) (hsz : d.size < 4611686018427387904) (hl : limit < 4611686018427387904) (hB : Sort.Below ltF a b d) :
  Calls Try.prog 20 #[.slice (some ⟨blk, off, none⟩) d.size cap, .int .i64 a, .int .i64 b, .int .i64 limit] w fun e w' =>
    e = .returned (.tuple #[]) ∧ ∃ n os, w' = grow (putRow encF (Sort.ahead w n) blk off (Sort.pdq ltF d a b limit true true)) os :=
  F.pdqsort_string callees13f plain13f (b - a + 1) blk off cap a b limit d w (by omega) hH hb hab hbd hsz hl hB

set_option maxRecDepth 100000 in
theorem Sort_float (blk off cap : Nat) (d : Array Nat) (w : World) (hH : Holds encF w blk off d) (hblk : blk < w.heap.size) (hsz : d.size < 4611686018427387904) :
    Calls Try.prog 17 #[.slice (some ⟨blk, off, none⟩) d.size cap] w fun e w' => e = .returned (.tuple #[]) ∧ ∃ n os, w' = grow (putRow encF (Sort.ahead w n) blk off (Sort.sort ltF d)) os := by
  have HH : Hid (Holds encF w blk off d) := hH
  clear hH
  have hLen : ∀ w, Calls Try.prog 21 #[.int .u64 (d.size : Int)] w fun e w' => e = .returned (.int .i64 (bitsLen d.size : Nat)) ∧ w' = w := fun w => by
    have h := bits_Len (d.size : Int) w (by omega) (by omega)
    rwa [Int.toNat_natCast, bitLen_eq _ (by omega)] at h
  have hk : bitsLen d.size ≤ 62 := (bitsLen_le_iff d.size 62).2 (by omega)
  go_enter Try.func17, Try.ntmps17
  go_wp2_with (first
    | (go_at_call 21; refine (hLen _).mono ?_; rintro e w' ⟨rfl, rfl⟩)
    | (go_at_call 20; refine (pdqWalkF blk off cap 0 d.size (bitsLen d.size) d _ (by exact HH.out) (by exact hblk) (Nat.zero_le _) (Nat.le_refl _) hsz (by omega) (Or.inl rfl)).mono ?_; rintro e w' ⟨rfl, n, os, rfl⟩))
  go_end0
  exact ⟨rfl, n, os, rfl⟩
end Go.Proofs.Qxb6619252a
