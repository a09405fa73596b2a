import Derived.Test.YbulkbmdoGreatTake5
import Derived.Test.YbulkbmdoGreatMin
namespace Go.Proofs.YbulkbmdoGreat
theorem take_ok : TakeOk := fun o W R S s pv uv g tgt v cs idx lf nx sl sb hX h hm hu hp0 hgr => take_any o W R S s pv uv g tgt v cs idx lf nx sl sb hX h hm hu hp0 hgr
end Go.Proofs.YbulkbmdoGreat
