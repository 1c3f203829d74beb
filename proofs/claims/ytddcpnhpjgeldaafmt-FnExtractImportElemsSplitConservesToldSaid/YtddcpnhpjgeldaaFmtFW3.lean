/- The walk of FnExtractImportElemsSplitConserves beside the reading of its rows of rows. -/
import Derived.Test.YtddcpnhpjgeldaaFmtFW2
import Derived.Test.YtddcpnhpjgeldaaFmtRw
