/- What pieces of the code come to. -/
import Derived.Test.YteolgmacekgndaaGreatDoorPke
