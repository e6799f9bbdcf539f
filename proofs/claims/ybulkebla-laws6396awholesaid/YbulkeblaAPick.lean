import Derived.Test.YbulkeblaRows
/-! Parts of a function's code, by their place. -/
namespace Go.Proofs.Ybulkebla
open Go

/-- The part of a code at a place: at a sequence and a test false is the first, true the second; a block's or a loop's body either way. -/
def pick : List Bool → Code → Code
  | [], c => c
  | b :: p, .seq x y => match b with
    | false => pick p x
    | true => pick p y
  | b :: p, .cond _ x y => match b with
    | false => pick p x
    | true => pick p y
  | _ :: p, .block _ c => pick p c
  | _ :: p, .loop c => pick p c
  | _ :: _, _ => .skip

end Go.Proofs.Ybulkebla
