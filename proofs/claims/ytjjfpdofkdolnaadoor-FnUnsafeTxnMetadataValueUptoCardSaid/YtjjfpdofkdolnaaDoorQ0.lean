import Derived.Test.YtjjfpdofkdolnaaDoorG1
set_option linter.unusedVariables false
set_option linter.unusedSimpArgs false
namespace Go.Proofs.YtjjfpdofkdolnaaDoor
namespace K
open Go Go.Lib
theorem RFs.leaf {s : Vw} {k a b c d e o : Int} {r : List Fld} {cs : List Value} (h : RFs s r cs) : RFs s (.mk k a b c d e o [] :: r) (.int .i64 k :: .int .i64 a :: .int .i64 b :: .int .i64 c :: .int .i64 d :: .int .i64 e :: .int .i64 o :: .slice none 0 0 :: cs) := by
  simp only [RFs, RF]
  exact ⟨[_, _, _, _, _, _, _, _], cs, rfl, ⟨_, rfl, [], ⟨by simp, by simp, .inl ⟨rfl, rfl⟩⟩, rfl⟩, h⟩
theorem RFs.part {s : Vw} {k a b c d e o : Int} {sub r : List Fld} {sv : Value} {lc cs : List Value} (hV : RS s 8 sv sub.length lc) (hF : RFs s sub lc) (h : RFs s r cs) : RFs s (.mk k a b c d e o sub :: r) (.int .i64 k :: .int .i64 a :: .int .i64 b :: .int .i64 c :: .int .i64 d :: .int .i64 e :: .int .i64 o :: sv :: cs) := by
  simp only [RFs, RF]
  exact ⟨[_, _, _, _, _, _, _, _], cs, rfl, ⟨_, rfl, lc, hV, hF⟩, h⟩
end K
end Go.Proofs.YtjjfpdofkdolnaaDoor
