/- The tables that the program's package-level arrays hold, as lists. -/
namespace Go.Proofs.YticieelobdfloaaDoor.QSetRange
def gtab0 : List Int := [1, 2, 4, 8, 16, 32, 64, 128]
def gtab1 : List Int := [254, 253, 251, 247, 239, 223, 191, 127]
def gtab2 : List Int := [0, 1, 3, 7, 15, 31, 63, 127]
def gtab3 : List Int := [255, 254, 252, 248, 240, 224, 192, 128]
end Go.Proofs.YticieelobdfloaaDoor.QSetRange
