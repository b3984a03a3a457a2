/-
  What is proved: the hash of bytes that the package makes is that of the reference's XXH64 with the seed 0.
  Conditions: none beside the statement's own guards (texts of fewer than 100000 bytes).
-/
import Derived.Test.YtojoppondgnajaaPFnHashx2
namespace Go.Proofs.Ytojoppondgnajaa.Pure
open Go.RowKit Go.Proofs.Ytojoppondgnajaa.PFnHash Go.Proofs.YtojoppondgnajaaW.PrintWords Go.Proofs.YtojoppondgnajaaW.PrintLast
theorem FnHash : laws_FnHash.Pure := trivial
end Go.Proofs.Ytojoppondgnajaa.Pure
