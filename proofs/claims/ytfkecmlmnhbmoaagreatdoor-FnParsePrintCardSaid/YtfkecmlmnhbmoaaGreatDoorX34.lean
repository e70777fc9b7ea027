/- Parts K3. -/
import Derived.Test.YtfkecmlmnhbmoaaGreatDoorX33
set_option linter.unusedVariables false
set_option linter.unusedSimpArgs false
set_option maxRecDepth 100000
set_option maxHeartbeats 40000000
