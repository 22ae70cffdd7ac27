/-
  The cells that a listed variable's datum lays. Conditions: none.
-/
import Derived.Test.YtcmajdimggdkoaaFmtRows
namespace Go.Proofs.YtcmajdimggdkoaaFmt

def cellLaid : DataW Unit → List Value
  | .lit (.int k n) => [.int k n]
  | .agg xs => xs.flatMap fun
    | .lit (.int k n) => [.int k n]
    | .lit (.string l) => [.string ⟨l.toArray⟩]
    | .agg ys => ys.flatMap fun
      | .lit (.int k n) => [.int k n]
      | _ => []
    | _ => []
  | _ => []
def cellsLaid (d : DataW Unit) : Array Value := (cellLaid d).toArray
end Go.Proofs.YtcmajdimggdkoaaFmt
