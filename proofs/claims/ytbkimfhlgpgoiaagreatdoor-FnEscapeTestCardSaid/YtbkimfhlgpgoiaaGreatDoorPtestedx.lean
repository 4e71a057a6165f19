-- PRINTED BY print.sh 35421559b90ae4d0a3588c463048766b98c2df88dd9212a6774a882060cdf62d: not written by this session
import Derived.Test.YtbkimfhlgpgoiaaGreatDoorPtestedx0
import Derived.Test.YtbkimfhlgpgoiaaGreatDoorPtestedx1
import Derived.Test.YtbkimfhlgpgoiaaGreatDoorPtestedx2
import Derived.Test.YtbkimfhlgpgoiaaGreatDoorPtestedx3
import Derived.Test.YtbkimfhlgpgoiaaGreatDoorPtestedx4
import Derived.Test.YtbkimfhlgpgoiaaGreatDoorPtestedx5
import Derived.Test.YtbkimfhlgpgoiaaGreatDoorPtestedx6
import Derived.Test.YtbkimfhlgpgoiaaGreatDoorPtestedx7
namespace Go.Proofs.YtbkimfhlgpgoiaaGreatDoor.Ptested
open Go.RowKit Go.Proofs.YtbkimfhlgpgoiaaGreatDoorW.PrintWords Go.Proofs.YtbkimfhlgpgoiaaGreatDoorW.PrintLast Go.Proofs.YtbkimfhlgpgoiaaGreatDoorW.PrintMore
attribute [local go_sem] max2_int min2_int max_two min_two max_three min_three max_four min_four   -- for this text's walks alone
set_option linter.unusedVariables false
set_option linter.unusedSimpArgs false

end Go.Proofs.YtbkimfhlgpgoiaaGreatDoor.Ptested
