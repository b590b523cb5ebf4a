/- searchKeys: a string. -/
import Derived.Test.YtpahejmkidhhhaaDoorGvSn
namespace Go.Proofs.YtpahejmkidhhhaaDoor.G
set_option linter.unusedVariables false
set_option linter.unusedSimpArgs false
open Go.RowKit Go.Proofs.YtpahejmkidhhhaaDoorW.PrintWords

noncomputable def code21 : Code := ((Tryd.f67.body.bind (brR 21)).getD .skip)
end Go.Proofs.YtpahejmkidhhhaaDoor.G
