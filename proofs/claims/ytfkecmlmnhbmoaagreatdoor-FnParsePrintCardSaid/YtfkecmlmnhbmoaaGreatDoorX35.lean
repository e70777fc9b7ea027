/- Parts D7. -/
import Derived.Test.YtfkecmlmnhbmoaaGreatDoorX34
set_option linter.unusedVariables false
set_option linter.unusedSimpArgs false
set_option maxRecDepth 100000
set_option maxHeartbeats 40000000
