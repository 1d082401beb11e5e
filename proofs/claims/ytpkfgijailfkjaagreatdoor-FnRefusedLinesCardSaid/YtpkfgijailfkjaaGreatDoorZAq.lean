/- A part of the proof of what the last text of this claim says: WB5. Conditions: none. -/
import Derived.Test.YtpkfgijailfkjaaGreatDoorZAb

