/- The listed variables of the laws of peers: each holds an error. -/
import Derived.Test.YtcefcdmonfenoaaDoorJg
import Derived.Test.YtcefcdmonfenoaaDoorArr
namespace Go.Proofs.YtcefcdmonfenoaaDoor
set_option maxRecDepth 100000
theorem Tryd.gVOver : Tryd.prog.globalNamed "pub-symmory/pub/govarint.ErrOverflow" = some 13 ∧ (Tryd.prog.globals[13]?).map (·.type) = some 79 := ⟨by kernel_rfl, by kernel_rfl⟩
theorem Tryd.gVUnder : Tryd.prog.globalNamed "pub-symmory/pub/govarint.ErrUnderflow" = some 15 ∧ (Tryd.prog.globals[15]?).map (·.type) = some 79 := ⟨by kernel_rfl, by kernel_rfl⟩
theorem Tryd.gVMin : Tryd.prog.globalNamed "pub-symmory/pub/govarint.ErrNotMinimal" = some 14 ∧ (Tryd.prog.globals[14]?).map (·.type) = some 79 := ⟨by kernel_rfl, by kernel_rfl⟩
theorem Tryd.gMShort : Tryd.prog.globalNamed "pub-symmory/pub/gomultihash.ErrTooShort" = some 10 ∧ (Tryd.prog.globals[10]?).map (·.type) = some 79 := ⟨by kernel_rfl, by kernel_rfl⟩
theorem Tryd.gMBuf : Tryd.prog.globalNamed "pub-symmory/pub/gomultihash.ErrVarintBufferShort" = some 11 ∧ (Tryd.prog.globals[11]?).map (·.type) = some 79 := ⟨by kernel_rfl, by kernel_rfl⟩
theorem Tryd.gMLong : Tryd.prog.globalNamed "pub-symmory/pub/gomultihash.ErrVarintTooLong" = some 12 ∧ (Tryd.prog.globals[12]?).map (·.type) = some 79 := ⟨by kernel_rfl, by kernel_rfl⟩
end Go.Proofs.YtcefcdmonfenoaaDoor
