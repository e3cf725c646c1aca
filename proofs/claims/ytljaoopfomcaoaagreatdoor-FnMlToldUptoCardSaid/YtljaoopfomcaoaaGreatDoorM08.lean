import Derived.Test.YtljaoopfomcaoaaGreatDoorM07
set_option linter.all false
namespace Go.Proofs.YtljaoopfomcaoaaGreatDoor
section
open Go.RowKit
end
end Go.Proofs.YtljaoopfomcaoaaGreatDoor
