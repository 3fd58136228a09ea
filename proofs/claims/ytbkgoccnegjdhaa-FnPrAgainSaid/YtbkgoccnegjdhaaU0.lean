/- Plain words for the laws on PrettyOptions: places of a JSON text as a tree, a text's bytes, what is written of a tree. -/
import Derived.Test.YtbkgoccnegjdhaaB0
namespace Go.Proofs.Ytbkgoccnegjdhaa.U
open Go.RowKit Go.Proofs.YtbkgoccnegjdhaaW.PrintWords Go.Proofs.Ytbkgoccnegjdhaa.Q
theorem wr {i:Int} (h0 : -9223372036854775808≤i) (h:i≤9223372036854775807):wrap64 i=i:=by unfold wrap64;omega
def sliceB (s:ByteArray) (i j:Int):List Int:=bytesOf (s.extract i.toNat j.toNat)
mutual
def lineV (s:ByteArray):S28→List Int
  | ⟨k,b,e,_,kids⟩=>if k=5 then 91 :: lineL s kids else sliceB s b e
def lineL (s:ByteArray):List S28→List Int
  | []=>[93]
  | p :: ps=>lineV s p++lineT s ps
def lineT (s:ByteArray):List S28→List Int
  | []=>[93]
  | p :: ps=>44 :: 32 :: (lineV s p++lineT s ps)
end
mutual
def objV:S28→Bool
  | ⟨k,_,_,_,kids⟩=>k == 6 || objL kids
def objL:List S28→Bool
  | []=>false
  | p :: ps=>objV p || objL ps
end
-- What is written of a value: W the width, ind the indent bytes, ah what stands ahead of the line, col the column.
mutual
def layV (s:ByteArray) (W:Int) (ind:List Int) (ah:List Int) (col:Int):S28→List Int
  | ⟨k,b,e,names,kids⟩ =>
    if kids=[] then (if k=5 then [91,93] else if k=6 then [123,125] else sliceB s b e)
    else if 0<W∧3<W - col∧k≠6∧objL kids=false∧((lineL s kids).length:Int)+1≤W - col then 91 :: lineL s kids
    else if k=5 then 91 :: layE s W ind ah (ah++ind) kids
    else 123 :: layM s W ind ah (ah++ind) names kids
def layE (s:ByteArray) (W:Int) (ind:List Int) (ah inn:List Int):List S28→List Int
  | []=>10 :: (ah++[93])
  | p :: ps=>10 :: (inn++(layV s W ind inn (inn.length+1) p++layT s W ind ah inn ps))
def layT (s:ByteArray) (W:Int) (ind:List Int) (ah inn:List Int):List S28→List Int
  | []=>10 :: (ah++[93])
  | p :: ps=>44 :: 10 :: (inn++(layV s W ind inn inn.length p++layT s W ind ah inn ps))
def layM (s:ByteArray) (W:Int) (ind:List Int) (ah inn:List Int):List S52→List S28→List Int
  | n :: ns,p :: ps=>10 :: (inn++(sliceB s n.f0 n.f1++(58 :: 32 :: (layV s W ind inn (inn.length+(n.f1 - n.f0)+3) p++layN s W ind ah inn ns ps))))
  | _,_=>10 :: (ah++[125])
def layN (s:ByteArray) (W:Int) (ind:List Int) (ah inn:List Int):List S52→List S28→List Int
  | n :: ns,p :: ps=>44 :: 10 :: (inn++(sliceB s n.f0 n.f1++(58 :: 32 :: (layV s W ind inn (inn.length+(n.f1 - n.f0)+3) p++layN s W ind ah inn ns ps))))
  | _,_=>10 :: (ah++[125])
end
end Go.Proofs.Ytbkgoccnegjdhaa.U
