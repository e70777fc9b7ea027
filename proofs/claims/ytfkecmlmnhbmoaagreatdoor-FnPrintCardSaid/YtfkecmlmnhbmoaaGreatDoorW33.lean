/- Parts K3. -/
import Derived.Test.YtfkecmlmnhbmoaaGreatDoorW32
set_option linter.unusedVariables false
set_option linter.unusedSimpArgs false
set_option maxRecDepth 100000
set_option maxHeartbeats 40000000
