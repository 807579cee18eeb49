import Derived.Test.YtkmjhapkmhmonaaProg
import Derived.Test.YtkmjhapkmhmonaaFlObj
open Go Go.Fl
namespace Go.Proofs.Ytkmjhapkmhmonaa
theorem mixed : Try.prog.follows .mixedOrders = true := by kernel_rfl
theorem one5 : one Try.prog 5 = true := by kernel_rfl
theorem sz5 : sz1 Try.prog 5 = true := by kernel_rfl
theorem esz22 : esz Try.prog 22 = some 1 := by kernel_rfl
theorem isl22 : isSl Try.prog 22 = true := by kernel_rfl
theorem ikd5_3 : ikd Try.prog 5 3 = some IntKind.i64 := by kernel_rfl
theorem mki22 : mki Try.prog 22 = some (5, 1, Value.int IntKind.u8 (Int.ofNat 0)) := by kernel_rfl
theorem bst22_9 : bst Try.prog 22 9 = true := by kernel_rfl
theorem hb3 : hasBody Try.prog 3 = true := by kernel_rfl
theorem res3 : Try.f3.results.toList = [ResultVar.tmp 4] := by kernel_rfl
theorem hb7 : hasBody Try.prog 7 = true := by kernel_rfl
theorem res7 : Try.f7.results.toList = [ResultVar.tmp 4] := by kernel_rfl
theorem hb8 : hasBody Try.prog 8 = true := by kernel_rfl
theorem res8 : Try.f8.results.toList = [ResultVar.tmp 4] := by kernel_rfl
theorem hb9 : hasBody Try.prog 9 = true := by kernel_rfl
theorem res9 : Try.f9.results.toList = [ResultVar.tmp 4] := by kernel_rfl
theorem hb17 : hasBody Try.prog 17 = true := by kernel_rfl
theorem res17 : Try.f17.results.toList = [ResultVar.tmp 4] := by kernel_rfl
theorem hb18 : hasBody Try.prog 18 = true := by kernel_rfl
theorem res18 : Try.f18.results.toList = [ResultVar.tmp 2] := by kernel_rfl
theorem hb26 : hasBody Try.prog 26 = true := by kernel_rfl
theorem res26 : Try.f26.results.toList = [ResultVar.tmp 4] := by kernel_rfl
theorem hb33 : hasBody Try.prog 33 = true := by kernel_rfl
theorem res33 : Try.f33.results.toList = [ResultVar.tmp 2] := by kernel_rfl
end Go.Proofs.Ytkmjhapkmhmonaa
