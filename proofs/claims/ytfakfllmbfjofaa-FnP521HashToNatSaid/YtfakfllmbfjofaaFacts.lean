import Derived.Test.YtfakfllmbfjofaaProg
import Derived.Test.YtfakfllmbfjofaaFlObj
open Go Go.Fl
namespace Go.Proofs.Ytfakfllmbfjofaa
theorem mixed : Try.prog.follows .mixedOrders = true := by kernel_rfl
theorem one2 : one Try.prog 2 = true := by kernel_rfl
theorem one3 : one Try.prog 3 = true := by kernel_rfl
theorem one4 : one Try.prog 4 = true := by kernel_rfl
theorem one5 : one Try.prog 5 = true := by kernel_rfl
theorem one30 : one Try.prog 30 = true := by kernel_rfl
theorem one73 : one Try.prog 73 = true := by kernel_rfl
theorem one76 : one Try.prog 76 = true := by kernel_rfl
theorem one77 : one Try.prog 77 = true := by kernel_rfl
theorem one102 : one Try.prog 102 = true := by kernel_rfl
theorem one106 : one Try.prog 106 = true := by kernel_rfl
theorem one110 : one Try.prog 110 = true := by kernel_rfl
theorem sz2 : sz1 Try.prog 2 = true := by kernel_rfl
theorem sz4 : sz1 Try.prog 4 = true := by kernel_rfl
theorem sz5 : sz1 Try.prog 5 = true := by kernel_rfl
theorem sz30 : sz1 Try.prog 30 = true := by kernel_rfl
theorem sz73 : sz1 Try.prog 73 = true := by kernel_rfl
theorem sz77 : sz1 Try.prog 77 = true := by kernel_rfl
theorem sz102 : sz1 Try.prog 102 = true := by kernel_rfl
theorem sz106 : sz1 Try.prog 106 = true := by kernel_rfl
theorem sz110 : sz1 Try.prog 110 = true := by kernel_rfl
theorem esz26 : esz Try.prog 26 = some 1 := by kernel_rfl
theorem esz27 : esz Try.prog 27 = some 1 := by kernel_rfl
theorem esz30 : esz Try.prog 30 = some 1 := by kernel_rfl
theorem esz106 : esz Try.prog 106 = some 1 := by kernel_rfl
theorem esz168 : esz Try.prog 168 = some 1 := by kernel_rfl
theorem asz37 : asz Try.prog 37 = some (28, 1) := by kernel_rfl
theorem asz44 : asz Try.prog 44 = some (48, 1) := by kernel_rfl
theorem asz46 : asz Try.prog 46 = some (66, 1) := by kernel_rfl
theorem asz111 : asz Try.prog 111 = some (4, 1) := by kernel_rfl
theorem asz112 : asz Try.prog 112 = some (4, 1) := by kernel_rfl
theorem asz124 : asz Try.prog 124 = some (6, 1) := by kernel_rfl
theorem asz132 : asz Try.prog 132 = some (9, 1) := by kernel_rfl
theorem asz166 : asz Try.prog 166 = some (15, 1) := by kernel_rfl
theorem isl26 : isSl Try.prog 26 = true := by kernel_rfl
theorem isl27 : isSl Try.prog 27 = true := by kernel_rfl
theorem isl30 : isSl Try.prog 30 = true := by kernel_rfl
theorem isl106 : isSl Try.prog 106 = true := by kernel_rfl
theorem isl168 : isSl Try.prog 168 = true := by kernel_rfl
theorem foff24_0 : foff Try.prog 24 0 = some 0 := by kernel_rfl
theorem foff24_1 : foff Try.prog 24 1 = some 1 := by kernel_rfl
theorem foff24_2 : foff Try.prog 24 2 = some 2 := by kernel_rfl
theorem foff79_2 : foff Try.prog 79 2 = some 2 := by kernel_rfl
theorem foff79_3 : foff Try.prog 79 3 = some 3 := by kernel_rfl
theorem foff79_4 : foff Try.prog 79 4 = some 4 := by kernel_rfl
theorem foff85_2 : foff Try.prog 85 2 = some 2 := by kernel_rfl
theorem foff85_3 : foff Try.prog 85 3 = some 3 := by kernel_rfl
theorem foff85_4 : foff Try.prog 85 4 = some 4 := by kernel_rfl
theorem foff89_2 : foff Try.prog 89 2 = some 2 := by kernel_rfl
theorem foff89_3 : foff Try.prog 89 3 = some 3 := by kernel_rfl
theorem foff89_4 : foff Try.prog 89 4 = some 4 := by kernel_rfl
theorem foff104_0 : foff Try.prog 104 0 = some 0 := by kernel_rfl
theorem foff104_1 : foff Try.prog 104 1 = some 1 := by kernel_rfl
theorem foff104_2 : foff Try.prog 104 2 = some 2 := by kernel_rfl
theorem foff104_3 : foff Try.prog 104 3 = some 3 := by kernel_rfl
theorem foff108_0 : foff Try.prog 108 0 = some 0 := by kernel_rfl
theorem foff114_0 : foff Try.prog 114 0 = some 0 := by kernel_rfl
theorem foff126_0 : foff Try.prog 126 0 = some 0 := by kernel_rfl
theorem foff134_0 : foff Try.prog 134 0 = some 0 := by kernel_rfl
theorem ikd2_5 : ikd Try.prog 2 5 = some IntKind.u8 := by kernel_rfl
theorem ikd3_102 : ikd Try.prog 3 102 = some IntKind.u64 := by kernel_rfl
theorem ikd5_2 : ikd Try.prog 5 2 = some IntKind.i64 := by kernel_rfl
theorem ikd5_102 : ikd Try.prog 5 102 = some IntKind.u64 := by kernel_rfl
theorem ikd5_174 : ikd Try.prog 5 174 = some IntKind.u32 := by kernel_rfl
theorem ikd102_5 : ikd Try.prog 102 5 = some IntKind.u8 := by kernel_rfl
theorem ikd102_174 : ikd Try.prog 102 174 = some IntKind.u32 := by kernel_rfl
theorem ikd110_174 : ikd Try.prog 110 174 = some IntKind.u32 := by kernel_rfl
theorem ikd174_102 : ikd Try.prog 174 102 = some IntKind.u64 := by kernel_rfl
theorem ikd174_110 : ikd Try.prog 174 110 = some IntKind.u64 := by kernel_rfl
theorem mki27 : mki Try.prog 27 = some (2, 8, Value.int IntKind.i64 (Int.ofNat 0)) := by kernel_rfl
theorem mki30 : mki Try.prog 30 = some (5, 1, Value.int IntKind.u8 (Int.ofNat 0)) := by kernel_rfl
theorem mki106 : mki Try.prog 106 = some (102, 8, Value.int IntKind.u64 (Int.ofNat 0)) := by kernel_rfl
theorem mki168 : mki Try.prog 168 = some (3, 8, Value.int IntKind.i64 (Int.ofNat 0)) := by kernel_rfl
theorem bst30_9 : bst Try.prog 30 9 = true := by kernel_rfl
theorem hb3 : hasBody Try.prog 3 = true := by kernel_rfl
theorem res3 : Try.f3.results.toList = [ResultVar.tmp 2] := by kernel_rfl
theorem hb4 : hasBody Try.prog 4 = true := by kernel_rfl
theorem res4 : Try.f4.results.toList = [ResultVar.tmp 2] := by kernel_rfl
theorem hb5 : hasBody Try.prog 5 = true := by kernel_rfl
theorem res5 : Try.f5.results.toList = [ResultVar.tmp 2] := by kernel_rfl
theorem hb6 : hasBody Try.prog 6 = true := by kernel_rfl
theorem res6 : Try.f6.results.toList = [ResultVar.tmp 2] := by kernel_rfl
theorem hb7 : hasBody Try.prog 7 = true := by kernel_rfl
theorem res7 : Try.f7.results.toList = [ResultVar.tmp 2] := by kernel_rfl
theorem hb8 : hasBody Try.prog 8 = true := by kernel_rfl
theorem res8 : Try.f8.results.toList = [ResultVar.tmp 2] := by kernel_rfl
theorem hb9 : hasBody Try.prog 9 = true := by kernel_rfl
theorem res9 : Try.f9.results.toList = [ResultVar.tmp 2] := by kernel_rfl
theorem hb10 : hasBody Try.prog 10 = true := by kernel_rfl
theorem res10 : Try.f10.results.toList = [ResultVar.tmp 2] := by kernel_rfl
theorem hb11 : hasBody Try.prog 11 = true := by kernel_rfl
theorem res11 : Try.f11.results.toList = [ResultVar.tmp 2] := by kernel_rfl
theorem hb12 : hasBody Try.prog 12 = true := by kernel_rfl
theorem res12 : Try.f12.results.toList = [ResultVar.cell 2 24] := by kernel_rfl
theorem hb13 : hasBody Try.prog 13 = true := by kernel_rfl
theorem res13 : Try.f13.results.toList = [ResultVar.tmp 2] := by kernel_rfl
theorem hb14 : hasBody Try.prog 14 = true := by kernel_rfl
theorem res14 : Try.f14.results.toList = [ResultVar.tmp 4] := by kernel_rfl
theorem hb15 : hasBody Try.prog 15 = true := by kernel_rfl
theorem res15 : Try.f15.results.toList = [ResultVar.tmp 0] := by kernel_rfl
theorem hb16 : hasBody Try.prog 16 = true := by kernel_rfl
theorem res16 : Try.f16.results.toList = [ResultVar.tmp 4] := by kernel_rfl
theorem hb17 : hasBody Try.prog 17 = true := by kernel_rfl
theorem res17 : Try.f17.results.toList = [ResultVar.tmp 0] := by kernel_rfl
theorem hb18 : hasBody Try.prog 18 = true := by kernel_rfl
theorem res18 : Try.f18.results.toList = [ResultVar.tmp 0] := by kernel_rfl
theorem hb19 : hasBody Try.prog 19 = true := by kernel_rfl
theorem res19 : Try.f19.results.toList = [ResultVar.tmp 0] := by kernel_rfl
theorem hb20 : hasBody Try.prog 20 = true := by kernel_rfl
theorem res20 : Try.f20.results.toList = [ResultVar.tmp 0] := by kernel_rfl
theorem hb21 : hasBody Try.prog 21 = true := by kernel_rfl
theorem res21 : Try.f21.results.toList = [ResultVar.tmp 0] := by kernel_rfl
theorem hb22 : hasBody Try.prog 22 = true := by kernel_rfl
theorem res22 : Try.f22.results.toList = [ResultVar.tmp 2] := by kernel_rfl
theorem hb23 : hasBody Try.prog 23 = true := by kernel_rfl
theorem res23 : Try.f23.results.toList = [ResultVar.tmp 4] := by kernel_rfl
theorem hb24 : hasBody Try.prog 24 = true := by kernel_rfl
theorem res24 : Try.f24.results.toList = [ResultVar.tmp 2] := by kernel_rfl
theorem hb25 : hasBody Try.prog 25 = true := by kernel_rfl
theorem res25 : Try.f25.results.toList = [ResultVar.tmp 2] := by kernel_rfl
theorem hb26 : hasBody Try.prog 26 = true := by kernel_rfl
theorem res26 : Try.f26.results.toList = [ResultVar.tmp 4] := by kernel_rfl
theorem hb27 : hasBody Try.prog 27 = true := by kernel_rfl
theorem res27 : Try.f27.results.toList = [ResultVar.tmp 2, ResultVar.tmp 3] := by kernel_rfl
theorem hb28 : hasBody Try.prog 28 = true := by kernel_rfl
theorem res28 : Try.f28.results.toList = [ResultVar.tmp 4] := by kernel_rfl
theorem hb29 : hasBody Try.prog 29 = true := by kernel_rfl
theorem res29 : Try.f29.results.toList = [ResultVar.tmp 6] := by kernel_rfl
theorem hb30 : hasBody Try.prog 30 = true := by kernel_rfl
theorem res30 : Try.f30.results.toList = [ResultVar.tmp 4] := by kernel_rfl
theorem hb31 : hasBody Try.prog 31 = true := by kernel_rfl
theorem res31 : Try.f31.results.toList = [ResultVar.tmp 4] := by kernel_rfl
theorem hb32 : hasBody Try.prog 32 = true := by kernel_rfl
theorem res32 : Try.f32.results.toList = [ResultVar.tmp 2, ResultVar.tmp 3] := by kernel_rfl
theorem hb33 : hasBody Try.prog 33 = true := by kernel_rfl
theorem res33 : Try.f33.results.toList = [ResultVar.tmp 2, ResultVar.tmp 3] := by kernel_rfl
theorem hb34 : hasBody Try.prog 34 = true := by kernel_rfl
theorem res34 : Try.f34.results.toList = [ResultVar.tmp 4] := by kernel_rfl
theorem hb35 : hasBody Try.prog 35 = true := by kernel_rfl
theorem res35 : Try.f35.results.toList = [ResultVar.tmp 2] := by kernel_rfl
theorem hb36 : hasBody Try.prog 36 = true := by kernel_rfl
theorem res36 : Try.f36.results.toList = [ResultVar.tmp 2] := by kernel_rfl
theorem hb37 : hasBody Try.prog 37 = true := by kernel_rfl
theorem res37 : Try.f37.results.toList = [ResultVar.tmp 0] := by kernel_rfl
theorem hb38 : hasBody Try.prog 38 = true := by kernel_rfl
theorem res38 : Try.f38.results.toList = [ResultVar.tmp 2] := by kernel_rfl
theorem hb39 : hasBody Try.prog 39 = true := by kernel_rfl
theorem res39 : Try.f39.results.toList = [ResultVar.tmp 2] := by kernel_rfl
theorem hb40 : hasBody Try.prog 40 = true := by kernel_rfl
theorem res40 : Try.f40.results.toList = [ResultVar.tmp 0] := by kernel_rfl
theorem hb41 : hasBody Try.prog 41 = true := by kernel_rfl
theorem res41 : Try.f41.results.toList = [ResultVar.tmp 2] := by kernel_rfl
theorem hb42 : hasBody Try.prog 42 = true := by kernel_rfl
theorem res42 : Try.f42.results.toList = [ResultVar.tmp 2] := by kernel_rfl
theorem hb43 : hasBody Try.prog 43 = true := by kernel_rfl
theorem res43 : Try.f43.results.toList = [ResultVar.tmp 0] := by kernel_rfl
theorem hb44 : hasBody Try.prog 44 = true := by kernel_rfl
theorem res44 : Try.f44.results.toList = [ResultVar.tmp 2] := by kernel_rfl
theorem hb45 : hasBody Try.prog 45 = true := by kernel_rfl
theorem res45 : Try.f45.results.toList = [ResultVar.tmp 4] := by kernel_rfl
theorem hb46 : hasBody Try.prog 46 = true := by kernel_rfl
theorem res46 : Try.f46.results.toList = [ResultVar.tmp 4] := by kernel_rfl
theorem hb47 : hasBody Try.prog 47 = true := by kernel_rfl
theorem res47 : Try.f47.results.toList = [ResultVar.tmp 4] := by kernel_rfl
theorem hb48 : hasBody Try.prog 48 = true := by kernel_rfl
theorem res48 : Try.f48.results.toList = [ResultVar.tmp 4] := by kernel_rfl
theorem hb49 : hasBody Try.prog 49 = true := by kernel_rfl
theorem res49 : Try.f49.results.toList = [ResultVar.tmp 4] := by kernel_rfl
theorem hb50 : hasBody Try.prog 50 = true := by kernel_rfl
theorem res50 : Try.f50.results.toList = [ResultVar.tmp 4] := by kernel_rfl
theorem hb51 : hasBody Try.prog 51 = true := by kernel_rfl
theorem res51 : Try.f51.results.toList = [ResultVar.tmp 4] := by kernel_rfl
theorem hb52 : hasBody Try.prog 52 = true := by kernel_rfl
theorem res52 : Try.f52.results.toList = [ResultVar.tmp 4, ResultVar.tmp 5] := by kernel_rfl
theorem hb53 : hasBody Try.prog 53 = true := by kernel_rfl
theorem res53 : Try.f53.results.toList = [ResultVar.tmp 6] := by kernel_rfl
theorem hb54 : hasBody Try.prog 54 = true := by kernel_rfl
theorem res54 : Try.f54.results.toList = [ResultVar.tmp 4, ResultVar.tmp 5] := by kernel_rfl
theorem hb55 : hasBody Try.prog 55 = true := by kernel_rfl
theorem res55 : Try.f55.results.toList = [ResultVar.tmp 4, ResultVar.tmp 5] := by kernel_rfl
theorem hb56 : hasBody Try.prog 56 = true := by kernel_rfl
theorem res56 : Try.f56.results.toList = [ResultVar.tmp 2] := by kernel_rfl
theorem hb57 : hasBody Try.prog 57 = true := by kernel_rfl
theorem res57 : Try.f57.results.toList = [ResultVar.tmp 4] := by kernel_rfl
theorem hb58 : hasBody Try.prog 58 = true := by kernel_rfl
theorem res58 : Try.f58.results.toList = [ResultVar.tmp 0] := by kernel_rfl
theorem hb59 : hasBody Try.prog 59 = true := by kernel_rfl
theorem res59 : Try.f59.results.toList = [] := by kernel_rfl
theorem hb60 : hasBody Try.prog 60 = true := by kernel_rfl
theorem res60 : Try.f60.results.toList = [ResultVar.tmp 0] := by kernel_rfl
theorem hb61 : hasBody Try.prog 61 = true := by kernel_rfl
theorem res61 : Try.f61.results.toList = [ResultVar.tmp 0] := by kernel_rfl
theorem hb62 : hasBody Try.prog 62 = true := by kernel_rfl
theorem res62 : Try.f62.results.toList = [] := by kernel_rfl
theorem hb63 : hasBody Try.prog 63 = true := by kernel_rfl
theorem res63 : Try.f63.results.toList = [ResultVar.tmp 0] := by kernel_rfl
theorem hb64 : hasBody Try.prog 64 = true := by kernel_rfl
theorem res64 : Try.f64.results.toList = [ResultVar.tmp 0] := by kernel_rfl
theorem hb65 : hasBody Try.prog 65 = true := by kernel_rfl
theorem res65 : Try.f65.results.toList = [] := by kernel_rfl
theorem hb66 : hasBody Try.prog 66 = true := by kernel_rfl
theorem res66 : Try.f66.results.toList = [ResultVar.tmp 0] := by kernel_rfl
theorem hb67 : hasBody Try.prog 67 = true := by kernel_rfl
theorem res67 : Try.f67.results.toList = [ResultVar.tmp 0] := by kernel_rfl
theorem hb68 : hasBody Try.prog 68 = true := by kernel_rfl
theorem res68 : Try.f68.results.toList = [] := by kernel_rfl
theorem hb69 : hasBody Try.prog 69 = true := by kernel_rfl
theorem res69 : Try.f69.results.toList = [ResultVar.tmp 2] := by kernel_rfl
theorem hb70 : hasBody Try.prog 70 = true := by kernel_rfl
theorem res70 : Try.f70.results.toList = [ResultVar.tmp 4] := by kernel_rfl
theorem hb71 : hasBody Try.prog 71 = true := by kernel_rfl
theorem res71 : Try.f71.results.toList = [] := by kernel_rfl
theorem hb72 : hasBody Try.prog 72 = true := by kernel_rfl
theorem res72 : Try.f72.results.toList = [] := by kernel_rfl
theorem hb73 : hasBody Try.prog 73 = true := by kernel_rfl
theorem res73 : Try.f73.results.toList = [ResultVar.tmp 6, ResultVar.tmp 7] := by kernel_rfl
theorem hb74 : hasBody Try.prog 74 = true := by kernel_rfl
theorem res74 : Try.f74.results.toList = [] := by kernel_rfl
theorem hb75 : hasBody Try.prog 75 = true := by kernel_rfl
theorem res75 : Try.f75.results.toList = [] := by kernel_rfl
theorem hb76 : hasBody Try.prog 76 = true := by kernel_rfl
theorem res76 : Try.f76.results.toList = [] := by kernel_rfl
theorem hb77 : hasBody Try.prog 77 = true := by kernel_rfl
theorem res77 : Try.f77.results.toList = [ResultVar.tmp 4] := by kernel_rfl
theorem hb78 : hasBody Try.prog 78 = true := by kernel_rfl
theorem res78 : Try.f78.results.toList = [ResultVar.tmp 2] := by kernel_rfl
theorem hb79 : hasBody Try.prog 79 = true := by kernel_rfl
theorem res79 : Try.f79.results.toList = [ResultVar.tmp 2] := by kernel_rfl
theorem hb80 : hasBody Try.prog 80 = true := by kernel_rfl
theorem res80 : Try.f80.results.toList = [ResultVar.tmp 2, ResultVar.tmp 3] := by kernel_rfl
theorem hb81 : hasBody Try.prog 81 = true := by kernel_rfl
theorem res81 : Try.f81.results.toList = [ResultVar.tmp 4] := by kernel_rfl
theorem hb82 : hasBody Try.prog 82 = true := by kernel_rfl
theorem res82 : Try.f82.results.toList = [ResultVar.tmp 6] := by kernel_rfl
theorem hb83 : hasBody Try.prog 83 = true := by kernel_rfl
theorem res83 : Try.f83.results.toList = [ResultVar.tmp 2] := by kernel_rfl
theorem hb84 : hasBody Try.prog 84 = true := by kernel_rfl
theorem res84 : Try.f84.results.toList = [ResultVar.tmp 2] := by kernel_rfl
theorem hb85 : hasBody Try.prog 85 = true := by kernel_rfl
theorem res85 : Try.f85.results.toList = [ResultVar.tmp 2] := by kernel_rfl
theorem hb86 : hasBody Try.prog 86 = true := by kernel_rfl
theorem res86 : Try.f86.results.toList = [ResultVar.tmp 4] := by kernel_rfl
theorem hb87 : hasBody Try.prog 87 = true := by kernel_rfl
theorem res87 : Try.f87.results.toList = [ResultVar.tmp 6, ResultVar.tmp 7] := by kernel_rfl
theorem hb88 : hasBody Try.prog 88 = true := by kernel_rfl
theorem res88 : Try.f88.results.toList = [ResultVar.tmp 4] := by kernel_rfl
theorem hb89 : hasBody Try.prog 89 = true := by kernel_rfl
theorem res89 : Try.f89.results.toList = [ResultVar.tmp 4] := by kernel_rfl
theorem hb90 : hasBody Try.prog 90 = true := by kernel_rfl
theorem res90 : Try.f90.results.toList = [ResultVar.tmp 4] := by kernel_rfl
theorem hb91 : hasBody Try.prog 91 = true := by kernel_rfl
theorem res91 : Try.f91.results.toList = [ResultVar.tmp 2] := by kernel_rfl
theorem hb92 : hasBody Try.prog 92 = true := by kernel_rfl
theorem res92 : Try.f92.results.toList = [ResultVar.tmp 2] := by kernel_rfl
theorem hb93 : hasBody Try.prog 93 = true := by kernel_rfl
theorem res93 : Try.f93.results.toList = [ResultVar.tmp 4] := by kernel_rfl
theorem hb94 : hasBody Try.prog 94 = true := by kernel_rfl
theorem res94 : Try.f94.results.toList = [ResultVar.tmp 8] := by kernel_rfl
theorem hb95 : hasBody Try.prog 95 = true := by kernel_rfl
theorem res95 : Try.f95.results.toList = [ResultVar.tmp 4] := by kernel_rfl
theorem hb96 : hasBody Try.prog 96 = true := by kernel_rfl
theorem res96 : Try.f96.results.toList = [] := by kernel_rfl
theorem hb97 : hasBody Try.prog 97 = true := by kernel_rfl
theorem res97 : Try.f97.results.toList = [ResultVar.tmp 4] := by kernel_rfl
theorem hb98 : hasBody Try.prog 98 = true := by kernel_rfl
theorem res98 : Try.f98.results.toList = [ResultVar.tmp 2, ResultVar.tmp 3] := by kernel_rfl
theorem hb99 : hasBody Try.prog 99 = true := by kernel_rfl
theorem res99 : Try.f99.results.toList = [ResultVar.tmp 4] := by kernel_rfl
theorem hb100 : hasBody Try.prog 100 = true := by kernel_rfl
theorem res100 : Try.f100.results.toList = [ResultVar.tmp 4] := by kernel_rfl
theorem hb101 : hasBody Try.prog 101 = true := by kernel_rfl
theorem res101 : Try.f101.results.toList = [ResultVar.tmp 4] := by kernel_rfl
theorem hb102 : hasBody Try.prog 102 = true := by kernel_rfl
theorem res102 : Try.f102.results.toList = [ResultVar.tmp 6] := by kernel_rfl
theorem hb103 : hasBody Try.prog 103 = true := by kernel_rfl
theorem res103 : Try.f103.results.toList = [] := by kernel_rfl
theorem hb104 : hasBody Try.prog 104 = true := by kernel_rfl
theorem res104 : Try.f104.results.toList = [] := by kernel_rfl
theorem hb105 : hasBody Try.prog 105 = true := by kernel_rfl
theorem res105 : Try.f105.results.toList = [ResultVar.tmp 2] := by kernel_rfl
theorem hb106 : hasBody Try.prog 106 = true := by kernel_rfl
theorem res106 : Try.f106.results.toList = [ResultVar.tmp 2] := by kernel_rfl
theorem hb107 : hasBody Try.prog 107 = true := by kernel_rfl
theorem res107 : Try.f107.results.toList = [ResultVar.tmp 2] := by kernel_rfl
theorem hb108 : hasBody Try.prog 108 = true := by kernel_rfl
theorem res108 : Try.f108.results.toList = [] := by kernel_rfl
theorem hb109 : hasBody Try.prog 109 = true := by kernel_rfl
theorem res109 : Try.f109.results.toList = [ResultVar.tmp 2] := by kernel_rfl
theorem hb110 : hasBody Try.prog 110 = true := by kernel_rfl
theorem res110 : Try.f110.results.toList = [ResultVar.tmp 6, ResultVar.tmp 7] := by kernel_rfl
theorem hb111 : hasBody Try.prog 111 = true := by kernel_rfl
theorem res111 : Try.f111.results.toList = [ResultVar.tmp 2] := by kernel_rfl
theorem hb112 : hasBody Try.prog 112 = true := by kernel_rfl
theorem res112 : Try.f112.results.toList = [ResultVar.tmp 4] := by kernel_rfl
theorem hb113 : hasBody Try.prog 113 = true := by kernel_rfl
theorem res113 : Try.f113.results.toList = [ResultVar.tmp 8] := by kernel_rfl
theorem hb114 : hasBody Try.prog 114 = true := by kernel_rfl
theorem res114 : Try.f114.results.toList = [ResultVar.tmp 4] := by kernel_rfl
theorem hb115 : hasBody Try.prog 115 = true := by kernel_rfl
theorem res115 : Try.f115.results.toList = [ResultVar.tmp 4] := by kernel_rfl
theorem hb116 : hasBody Try.prog 116 = true := by kernel_rfl
theorem res116 : Try.f116.results.toList = [ResultVar.tmp 2] := by kernel_rfl
theorem hb117 : hasBody Try.prog 117 = true := by kernel_rfl
theorem res117 : Try.f117.results.toList = [ResultVar.tmp 2] := by kernel_rfl
theorem hb118 : hasBody Try.prog 118 = true := by kernel_rfl
theorem res118 : Try.f118.results.toList = [ResultVar.tmp 2] := by kernel_rfl
theorem hb119 : hasBody Try.prog 119 = true := by kernel_rfl
theorem res119 : Try.f119.results.toList = [ResultVar.tmp 2] := by kernel_rfl
theorem hb120 : hasBody Try.prog 120 = true := by kernel_rfl
theorem res120 : Try.f120.results.toList = [ResultVar.tmp 2] := by kernel_rfl
theorem hb121 : hasBody Try.prog 121 = true := by kernel_rfl
theorem res121 : Try.f121.results.toList = [ResultVar.tmp 2] := by kernel_rfl
theorem hb122 : hasBody Try.prog 122 = true := by kernel_rfl
theorem res122 : Try.f122.results.toList = [ResultVar.tmp 6, ResultVar.tmp 7] := by kernel_rfl
theorem hb123 : hasBody Try.prog 123 = true := by kernel_rfl
theorem res123 : Try.f123.results.toList = [ResultVar.tmp 2] := by kernel_rfl
theorem hb124 : hasBody Try.prog 124 = true := by kernel_rfl
theorem res124 : Try.f124.results.toList = [ResultVar.tmp 2] := by kernel_rfl
theorem hb125 : hasBody Try.prog 125 = true := by kernel_rfl
theorem res125 : Try.f125.results.toList = [ResultVar.tmp 2] := by kernel_rfl
theorem hb126 : hasBody Try.prog 126 = true := by kernel_rfl
theorem res126 : Try.f126.results.toList = [ResultVar.tmp 6, ResultVar.tmp 7] := by kernel_rfl
theorem hb128 : hasBody Try.prog 128 = true := by kernel_rfl
theorem res128 : Try.f128.results.toList = [ResultVar.tmp 6] := by kernel_rfl
theorem hb129 : hasBody Try.prog 129 = true := by kernel_rfl
theorem res129 : Try.f129.results.toList = [ResultVar.tmp 6] := by kernel_rfl
theorem hb130 : hasBody Try.prog 130 = true := by kernel_rfl
theorem res130 : Try.f130.results.toList = [ResultVar.tmp 6, ResultVar.tmp 7] := by kernel_rfl
theorem hb132 : hasBody Try.prog 132 = true := by kernel_rfl
theorem res132 : Try.f132.results.toList = [ResultVar.tmp 4, ResultVar.tmp 5] := by kernel_rfl
theorem hb133 : hasBody Try.prog 133 = true := by kernel_rfl
theorem res133 : Try.f133.results.toList = [ResultVar.tmp 4, ResultVar.tmp 5] := by kernel_rfl
theorem hb134 : hasBody Try.prog 134 = true := by kernel_rfl
theorem res134 : Try.f134.results.toList = [ResultVar.tmp 4, ResultVar.tmp 5] := by kernel_rfl
end Go.Proofs.Ytfakfllmbfjofaa
