/- A part of the proof of what the last text of this claim says: WB3. Conditions: none. -/
import Derived.Test.YtpkfgijailfkjaaGreatDoorZAb

