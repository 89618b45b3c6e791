/- The room that itoa makes: int(float64(bits) / math.Log2(10)) + 1, at 1 to 192 bits; it is enough. -/
import Derived.Test.YtdfcomilhjoooaaGreatDoorProg
import Derived.KernelRfl
import Derived.Laws.FloatArith
namespace Go.Proofs.YtdfcomilhjoooaaGreatDoor.Flo
open Go
/-- the floats on the way, the whole number behind them -/
def Est (L : Nat) (f q : Nat) (N : Nat) : Prop :=
  floatOfInt FloatKind.f64 (L : Int) = f ∧ (∀ u : World, (binOp .quo 90 (.float .f64 f) (.float .f64 4614662735865160561)).run Tryz.prog u = .ok (.float .f64 q) u) ∧
  (∀ u : World, (convert 90 3 (.float .f64 q)).run Tryz.prog u = .ok (.int .i64 (N : Int)) u) ∧ N ≤ 100 ∧ 2 ^ L ≤ 10 ^ (N + 1)

theorem est1 : Est 1 4607182418800017408 4599094494223104511 0 := ⟨by kernel_rfl, fun u => by kernel_rfl, fun u => by kernel_rfl, by decide, by decide +kernel⟩
theorem est2 : Est 2 4611686018427387904 4603598093850475007 0 := ⟨by kernel_rfl, fun u => by kernel_rfl, fun u => by kernel_rfl, by decide, by decide +kernel⟩
theorem est3 : Est 3 4613937818241073152 4606309531003074303 0 := ⟨by kernel_rfl, fun u => by kernel_rfl, fun u => by kernel_rfl, by decide, by decide +kernel⟩
theorem est4 : Est 4 4616189618054758400 4608101693477845503 1 := ⟨by kernel_rfl, fun u => by kernel_rfl, fun u => by kernel_rfl, by decide, by decide +kernel⟩
theorem est5 : Est 5 4617315517961601024 4609457412054145151 1 := ⟨by kernel_rfl, fun u => by kernel_rfl, fun u => by kernel_rfl, by decide, by decide +kernel⟩
theorem est6 : Est 6 4618441417868443648 4610813130630444799 1 := ⟨by kernel_rfl, fun u => by kernel_rfl, fun u => by kernel_rfl, by decide, by decide +kernel⟩
theorem est7 : Est 7 4619567317775286272 4611927433817066175 2 := ⟨by kernel_rfl, fun u => by kernel_rfl, fun u => by kernel_rfl, by decide, by decide +kernel⟩
theorem est8 : Est 8 4620693217682128896 4612605293105215999 2 := ⟨by kernel_rfl, fun u => by kernel_rfl, fun u => by kernel_rfl, by decide, by decide +kernel⟩
theorem est9 : Est 9 4621256167635550208 4613283152393365823 2 := ⟨by kernel_rfl, fun u => by kernel_rfl, fun u => by kernel_rfl, by decide, by decide +kernel⟩
theorem est10 : Est 10 4621819117588971520 4613961011681515647 3 := ⟨by kernel_rfl, fun u => by kernel_rfl, fun u => by kernel_rfl, by decide, by decide +kernel⟩
theorem est11 : Est 11 4622382067542392832 4614638870969665471 3 := ⟨by kernel_rfl, fun u => by kernel_rfl, fun u => by kernel_rfl, by decide, by decide +kernel⟩
theorem est12 : Est 12 4622945017495814144 4615316730257815295 3 := ⟨by kernel_rfl, fun u => by kernel_rfl, fun u => by kernel_rfl, by decide, by decide +kernel⟩
theorem est13 : Est 13 4623507967449235456 4615994589545965119 3 := ⟨by kernel_rfl, fun u => by kernel_rfl, fun u => by kernel_rfl, by decide, by decide +kernel⟩
theorem est14 : Est 14 4624070917402656768 4616431033444436671 4 := ⟨by kernel_rfl, fun u => by kernel_rfl, fun u => by kernel_rfl, by decide, by decide +kernel⟩
theorem est15 : Est 15 4624633867356078080 4616769963088511583 4 := ⟨by kernel_rfl, fun u => by kernel_rfl, fun u => by kernel_rfl, by decide, by decide +kernel⟩
theorem est16 : Est 16 4625196817309499392 4617108892732586495 4 := ⟨by kernel_rfl, fun u => by kernel_rfl, fun u => by kernel_rfl, by decide, by decide +kernel⟩
theorem est17 : Est 17 4625478292286210048 4617447822376661407 5 := ⟨by kernel_rfl, fun u => by kernel_rfl, fun u => by kernel_rfl, by decide, by decide +kernel⟩
theorem est18 : Est 18 4625759767262920704 4617786752020736319 5 := ⟨by kernel_rfl, fun u => by kernel_rfl, fun u => by kernel_rfl, by decide, by decide +kernel⟩
theorem est19 : Est 19 4626041242239631360 4618125681664811231 5 := ⟨by kernel_rfl, fun u => by kernel_rfl, fun u => by kernel_rfl, by decide, by decide +kernel⟩
theorem est20 : Est 20 4626322717216342016 4618464611308886143 6 := ⟨by kernel_rfl, fun u => by kernel_rfl, fun u => by kernel_rfl, by decide, by decide +kernel⟩
theorem est21 : Est 21 4626604192193052672 4618803540952961055 6 := ⟨by kernel_rfl, fun u => by kernel_rfl, fun u => by kernel_rfl, by decide, by decide +kernel⟩
theorem est22 : Est 22 4626885667169763328 4619142470597035967 6 := ⟨by kernel_rfl, fun u => by kernel_rfl, fun u => by kernel_rfl, by decide, by decide +kernel⟩
theorem est23 : Est 23 4627167142146473984 4619481400241110879 6 := ⟨by kernel_rfl, fun u => by kernel_rfl, fun u => by kernel_rfl, by decide, by decide +kernel⟩
theorem est24 : Est 24 4627448617123184640 4619820329885185791 7 := ⟨by kernel_rfl, fun u => by kernel_rfl, fun u => by kernel_rfl, by decide, by decide +kernel⟩
theorem est25 : Est 25 4627730092099895296 4620159259529260703 7 := ⟨by kernel_rfl, fun u => by kernel_rfl, fun u => by kernel_rfl, by decide, by decide +kernel⟩
theorem est26 : Est 26 4628011567076605952 4620498189173335615 7 := ⟨by kernel_rfl, fun u => by kernel_rfl, fun u => by kernel_rfl, by decide, by decide +kernel⟩
theorem est27 : Est 27 4628293042053316608 4620765168249769711 8 := ⟨by kernel_rfl, fun u => by kernel_rfl, fun u => by kernel_rfl, by decide, by decide +kernel⟩
theorem est28 : Est 28 4628574517030027264 4620934633071807167 8 := ⟨by kernel_rfl, fun u => by kernel_rfl, fun u => by kernel_rfl, by decide, by decide +kernel⟩
theorem est29 : Est 29 4628855992006737920 4621104097893844623 8 := ⟨by kernel_rfl, fun u => by kernel_rfl, fun u => by kernel_rfl, by decide, by decide +kernel⟩
theorem est30 : Est 30 4629137466983448576 4621273562715882079 9 := ⟨by kernel_rfl, fun u => by kernel_rfl, fun u => by kernel_rfl, by decide, by decide +kernel⟩
theorem est31 : Est 31 4629418941960159232 4621443027537919535 9 := ⟨by kernel_rfl, fun u => by kernel_rfl, fun u => by kernel_rfl, by decide, by decide +kernel⟩
theorem est32 : Est 32 4629700416936869888 4621612492359956991 9 := ⟨by kernel_rfl, fun u => by kernel_rfl, fun u => by kernel_rfl, by decide, by decide +kernel⟩
theorem est33 : Est 33 4629841154425225216 4621781957181994447 9 := ⟨by kernel_rfl, fun u => by kernel_rfl, fun u => by kernel_rfl, by decide, by decide +kernel⟩
theorem est34 : Est 34 4629981891913580544 4621951422004031903 10 := ⟨by kernel_rfl, fun u => by kernel_rfl, fun u => by kernel_rfl, by decide, by decide +kernel⟩
theorem est35 : Est 35 4630122629401935872 4622120886826069359 10 := ⟨by kernel_rfl, fun u => by kernel_rfl, fun u => by kernel_rfl, by decide, by decide +kernel⟩
theorem est36 : Est 36 4630263366890291200 4622290351648106815 10 := ⟨by kernel_rfl, fun u => by kernel_rfl, fun u => by kernel_rfl, by decide, by decide +kernel⟩
theorem est37 : Est 37 4630404104378646528 4622459816470144271 11 := ⟨by kernel_rfl, fun u => by kernel_rfl, fun u => by kernel_rfl, by decide, by decide +kernel⟩
theorem est38 : Est 38 4630544841867001856 4622629281292181727 11 := ⟨by kernel_rfl, fun u => by kernel_rfl, fun u => by kernel_rfl, by decide, by decide +kernel⟩
theorem est39 : Est 39 4630685579355357184 4622798746114219183 11 := ⟨by kernel_rfl, fun u => by kernel_rfl, fun u => by kernel_rfl, by decide, by decide +kernel⟩
theorem est40 : Est 40 4630826316843712512 4622968210936256639 12 := ⟨by kernel_rfl, fun u => by kernel_rfl, fun u => by kernel_rfl, by decide, by decide +kernel⟩
theorem est41 : Est 41 4630967054332067840 4623137675758294095 12 := ⟨by kernel_rfl, fun u => by kernel_rfl, fun u => by kernel_rfl, by decide, by decide +kernel⟩
theorem est42 : Est 42 4631107791820423168 4623307140580331551 12 := ⟨by kernel_rfl, fun u => by kernel_rfl, fun u => by kernel_rfl, by decide, by decide +kernel⟩
theorem est43 : Est 43 4631248529308778496 4623476605402369007 12 := ⟨by kernel_rfl, fun u => by kernel_rfl, fun u => by kernel_rfl, by decide, by decide +kernel⟩
theorem est44 : Est 44 4631389266797133824 4623646070224406463 13 := ⟨by kernel_rfl, fun u => by kernel_rfl, fun u => by kernel_rfl, by decide, by decide +kernel⟩
theorem est45 : Est 45 4631530004285489152 4623815535046443919 13 := ⟨by kernel_rfl, fun u => by kernel_rfl, fun u => by kernel_rfl, by decide, by decide +kernel⟩
theorem est46 : Est 46 4631670741773844480 4623984999868481375 13 := ⟨by kernel_rfl, fun u => by kernel_rfl, fun u => by kernel_rfl, by decide, by decide +kernel⟩
theorem est47 : Est 47 4631811479262199808 4624154464690518831 14 := ⟨by kernel_rfl, fun u => by kernel_rfl, fun u => by kernel_rfl, by decide, by decide +kernel⟩
theorem est48 : Est 48 4631952216750555136 4624323929512556287 14 := ⟨by kernel_rfl, fun u => by kernel_rfl, fun u => by kernel_rfl, by decide, by decide +kernel⟩
theorem est49 : Est 49 4632092954238910464 4624493394334593743 14 := ⟨by kernel_rfl, fun u => by kernel_rfl, fun u => by kernel_rfl, by decide, by decide +kernel⟩
theorem est50 : Est 50 4632233691727265792 4624662859156631199 15 := ⟨by kernel_rfl, fun u => by kernel_rfl, fun u => by kernel_rfl, by decide, by decide +kernel⟩
theorem est51 : Est 51 4632374429215621120 4624832323978668655 15 := ⟨by kernel_rfl, fun u => by kernel_rfl, fun u => by kernel_rfl, by decide, by decide +kernel⟩
theorem est52 : Est 52 4632515166703976448 4625001788800706111 15 := ⟨by kernel_rfl, fun u => by kernel_rfl, fun u => by kernel_rfl, by decide, by decide +kernel⟩
theorem est53 : Est 53 4632655904192331776 4625171253622743567 15 := ⟨by kernel_rfl, fun u => by kernel_rfl, fun u => by kernel_rfl, by decide, by decide +kernel⟩
theorem est54 : Est 54 4632796641680687104 4625268767877140207 16 := ⟨by kernel_rfl, fun u => by kernel_rfl, fun u => by kernel_rfl, by decide, by decide +kernel⟩
theorem est55 : Est 55 4632937379169042432 4625353500288158935 16 := ⟨by kernel_rfl, fun u => by kernel_rfl, fun u => by kernel_rfl, by decide, by decide +kernel⟩
theorem est56 : Est 56 4633078116657397760 4625438232699177663 16 := ⟨by kernel_rfl, fun u => by kernel_rfl, fun u => by kernel_rfl, by decide, by decide +kernel⟩
theorem est57 : Est 57 4633218854145753088 4625522965110196391 17 := ⟨by kernel_rfl, fun u => by kernel_rfl, fun u => by kernel_rfl, by decide, by decide +kernel⟩
theorem est58 : Est 58 4633359591634108416 4625607697521215119 17 := ⟨by kernel_rfl, fun u => by kernel_rfl, fun u => by kernel_rfl, by decide, by decide +kernel⟩
theorem est59 : Est 59 4633500329122463744 4625692429932233847 17 := ⟨by kernel_rfl, fun u => by kernel_rfl, fun u => by kernel_rfl, by decide, by decide +kernel⟩
theorem est60 : Est 60 4633641066610819072 4625777162343252575 18 := ⟨by kernel_rfl, fun u => by kernel_rfl, fun u => by kernel_rfl, by decide, by decide +kernel⟩
theorem est61 : Est 61 4633781804099174400 4625861894754271303 18 := ⟨by kernel_rfl, fun u => by kernel_rfl, fun u => by kernel_rfl, by decide, by decide +kernel⟩
theorem est62 : Est 62 4633922541587529728 4625946627165290031 18 := ⟨by kernel_rfl, fun u => by kernel_rfl, fun u => by kernel_rfl, by decide, by decide +kernel⟩
theorem est63 : Est 63 4634063279075885056 4626031359576308759 18 := ⟨by kernel_rfl, fun u => by kernel_rfl, fun u => by kernel_rfl, by decide, by decide +kernel⟩
theorem est64 : Est 64 4634204016564240384 4626116091987327487 19 := ⟨by kernel_rfl, fun u => by kernel_rfl, fun u => by kernel_rfl, by decide, by decide +kernel⟩
theorem est65 : Est 65 4634274385308418048 4626200824398346215 19 := ⟨by kernel_rfl, fun u => by kernel_rfl, fun u => by kernel_rfl, by decide, by decide +kernel⟩
theorem est66 : Est 66 4634344754052595712 4626285556809364943 19 := ⟨by kernel_rfl, fun u => by kernel_rfl, fun u => by kernel_rfl, by decide, by decide +kernel⟩
theorem est67 : Est 67 4634415122796773376 4626370289220383671 20 := ⟨by kernel_rfl, fun u => by kernel_rfl, fun u => by kernel_rfl, by decide, by decide +kernel⟩
theorem est68 : Est 68 4634485491540951040 4626455021631402399 20 := ⟨by kernel_rfl, fun u => by kernel_rfl, fun u => by kernel_rfl, by decide, by decide +kernel⟩
theorem est69 : Est 69 4634555860285128704 4626539754042421127 20 := ⟨by kernel_rfl, fun u => by kernel_rfl, fun u => by kernel_rfl, by decide, by decide +kernel⟩
theorem est70 : Est 70 4634626229029306368 4626624486453439855 21 := ⟨by kernel_rfl, fun u => by kernel_rfl, fun u => by kernel_rfl, by decide, by decide +kernel⟩
theorem est71 : Est 71 4634696597773484032 4626709218864458583 21 := ⟨by kernel_rfl, fun u => by kernel_rfl, fun u => by kernel_rfl, by decide, by decide +kernel⟩
theorem est72 : Est 72 4634766966517661696 4626793951275477311 21 := ⟨by kernel_rfl, fun u => by kernel_rfl, fun u => by kernel_rfl, by decide, by decide +kernel⟩
theorem est73 : Est 73 4634837335261839360 4626878683686496039 21 := ⟨by kernel_rfl, fun u => by kernel_rfl, fun u => by kernel_rfl, by decide, by decide +kernel⟩
theorem est74 : Est 74 4634907704006017024 4626963416097514767 22 := ⟨by kernel_rfl, fun u => by kernel_rfl, fun u => by kernel_rfl, by decide, by decide +kernel⟩
theorem est75 : Est 75 4634978072750194688 4627048148508533495 22 := ⟨by kernel_rfl, fun u => by kernel_rfl, fun u => by kernel_rfl, by decide, by decide +kernel⟩
theorem est76 : Est 76 4635048441494372352 4627132880919552223 22 := ⟨by kernel_rfl, fun u => by kernel_rfl, fun u => by kernel_rfl, by decide, by decide +kernel⟩
theorem est77 : Est 77 4635118810238550016 4627217613330570951 23 := ⟨by kernel_rfl, fun u => by kernel_rfl, fun u => by kernel_rfl, by decide, by decide +kernel⟩
theorem est78 : Est 78 4635189178982727680 4627302345741589679 23 := ⟨by kernel_rfl, fun u => by kernel_rfl, fun u => by kernel_rfl, by decide, by decide +kernel⟩
theorem est79 : Est 79 4635259547726905344 4627387078152608407 23 := ⟨by kernel_rfl, fun u => by kernel_rfl, fun u => by kernel_rfl, by decide, by decide +kernel⟩
theorem est80 : Est 80 4635329916471083008 4627471810563627135 24 := ⟨by kernel_rfl, fun u => by kernel_rfl, fun u => by kernel_rfl, by decide, by decide +kernel⟩
theorem est81 : Est 81 4635400285215260672 4627556542974645863 24 := ⟨by kernel_rfl, fun u => by kernel_rfl, fun u => by kernel_rfl, by decide, by decide +kernel⟩
theorem est82 : Est 82 4635470653959438336 4627641275385664591 24 := ⟨by kernel_rfl, fun u => by kernel_rfl, fun u => by kernel_rfl, by decide, by decide +kernel⟩
theorem est83 : Est 83 4635541022703616000 4627726007796683319 24 := ⟨by kernel_rfl, fun u => by kernel_rfl, fun u => by kernel_rfl, by decide, by decide +kernel⟩
theorem est84 : Est 84 4635611391447793664 4627810740207702047 25 := ⟨by kernel_rfl, fun u => by kernel_rfl, fun u => by kernel_rfl, by decide, by decide +kernel⟩
theorem est85 : Est 85 4635681760191971328 4627895472618720775 25 := ⟨by kernel_rfl, fun u => by kernel_rfl, fun u => by kernel_rfl, by decide, by decide +kernel⟩
theorem est86 : Est 86 4635752128936148992 4627980205029739503 25 := ⟨by kernel_rfl, fun u => by kernel_rfl, fun u => by kernel_rfl, by decide, by decide +kernel⟩
theorem est87 : Est 87 4635822497680326656 4628064937440758231 26 := ⟨by kernel_rfl, fun u => by kernel_rfl, fun u => by kernel_rfl, by decide, by decide +kernel⟩
theorem est88 : Est 88 4635892866424504320 4628149669851776959 26 := ⟨by kernel_rfl, fun u => by kernel_rfl, fun u => by kernel_rfl, by decide, by decide +kernel⟩
theorem est89 : Est 89 4635963235168681984 4628234402262795687 26 := ⟨by kernel_rfl, fun u => by kernel_rfl, fun u => by kernel_rfl, by decide, by decide +kernel⟩
theorem est90 : Est 90 4636033603912859648 4628319134673814415 27 := ⟨by kernel_rfl, fun u => by kernel_rfl, fun u => by kernel_rfl, by decide, by decide +kernel⟩
theorem est91 : Est 91 4636103972657037312 4628403867084833143 27 := ⟨by kernel_rfl, fun u => by kernel_rfl, fun u => by kernel_rfl, by decide, by decide +kernel⟩
theorem est92 : Est 92 4636174341401214976 4628488599495851871 27 := ⟨by kernel_rfl, fun u => by kernel_rfl, fun u => by kernel_rfl, by decide, by decide +kernel⟩
theorem est93 : Est 93 4636244710145392640 4628573331906870599 27 := ⟨by kernel_rfl, fun u => by kernel_rfl, fun u => by kernel_rfl, by decide, by decide +kernel⟩
theorem est94 : Est 94 4636315078889570304 4628658064317889327 28 := ⟨by kernel_rfl, fun u => by kernel_rfl, fun u => by kernel_rfl, by decide, by decide +kernel⟩
theorem est95 : Est 95 4636385447633747968 4628742796728908055 28 := ⟨by kernel_rfl, fun u => by kernel_rfl, fun u => by kernel_rfl, by decide, by decide +kernel⟩
theorem est96 : Est 96 4636455816377925632 4628827529139926783 28 := ⟨by kernel_rfl, fun u => by kernel_rfl, fun u => by kernel_rfl, by decide, by decide +kernel⟩
theorem est97 : Est 97 4636526185122103296 4628912261550945511 29 := ⟨by kernel_rfl, fun u => by kernel_rfl, fun u => by kernel_rfl, by decide, by decide +kernel⟩
theorem est98 : Est 98 4636596553866280960 4628996993961964239 29 := ⟨by kernel_rfl, fun u => by kernel_rfl, fun u => by kernel_rfl, by decide, by decide +kernel⟩
theorem est99 : Est 99 4636666922610458624 4629081726372982967 29 := ⟨by kernel_rfl, fun u => by kernel_rfl, fun u => by kernel_rfl, by decide, by decide +kernel⟩
theorem est100 : Est 100 4636737291354636288 4629166458784001695 30 := ⟨by kernel_rfl, fun u => by kernel_rfl, fun u => by kernel_rfl, by decide, by decide +kernel⟩
theorem est101 : Est 101 4636807660098813952 4629251191195020423 30 := ⟨by kernel_rfl, fun u => by kernel_rfl, fun u => by kernel_rfl, by decide, by decide +kernel⟩
theorem est102 : Est 102 4636878028842991616 4629335923606039151 30 := ⟨by kernel_rfl, fun u => by kernel_rfl, fun u => by kernel_rfl, by decide, by decide +kernel⟩
theorem est103 : Est 103 4636948397587169280 4629420656017057879 31 := ⟨by kernel_rfl, fun u => by kernel_rfl, fun u => by kernel_rfl, by decide, by decide +kernel⟩
theorem est104 : Est 104 4637018766331346944 4629505388428076607 31 := ⟨by kernel_rfl, fun u => by kernel_rfl, fun u => by kernel_rfl, by decide, by decide +kernel⟩
theorem est105 : Est 105 4637089135075524608 4629590120839095335 31 := ⟨by kernel_rfl, fun u => by kernel_rfl, fun u => by kernel_rfl, by decide, by decide +kernel⟩
theorem est106 : Est 106 4637159503819702272 4629674853250114063 31 := ⟨by kernel_rfl, fun u => by kernel_rfl, fun u => by kernel_rfl, by decide, by decide +kernel⟩
theorem est107 : Est 107 4637229872563879936 4629730001299001339 32 := ⟨by kernel_rfl, fun u => by kernel_rfl, fun u => by kernel_rfl, by decide, by decide +kernel⟩
theorem est108 : Est 108 4637300241308057600 4629772367504510703 32 := ⟨by kernel_rfl, fun u => by kernel_rfl, fun u => by kernel_rfl, by decide, by decide +kernel⟩
theorem est109 : Est 109 4637370610052235264 4629814733710020067 32 := ⟨by kernel_rfl, fun u => by kernel_rfl, fun u => by kernel_rfl, by decide, by decide +kernel⟩
theorem est110 : Est 110 4637440978796412928 4629857099915529431 33 := ⟨by kernel_rfl, fun u => by kernel_rfl, fun u => by kernel_rfl, by decide, by decide +kernel⟩
theorem est111 : Est 111 4637511347540590592 4629899466121038795 33 := ⟨by kernel_rfl, fun u => by kernel_rfl, fun u => by kernel_rfl, by decide, by decide +kernel⟩
theorem est112 : Est 112 4637581716284768256 4629941832326548159 33 := ⟨by kernel_rfl, fun u => by kernel_rfl, fun u => by kernel_rfl, by decide, by decide +kernel⟩
theorem est113 : Est 113 4637652085028945920 4629984198532057523 34 := ⟨by kernel_rfl, fun u => by kernel_rfl, fun u => by kernel_rfl, by decide, by decide +kernel⟩
theorem est114 : Est 114 4637722453773123584 4630026564737566887 34 := ⟨by kernel_rfl, fun u => by kernel_rfl, fun u => by kernel_rfl, by decide, by decide +kernel⟩
theorem est115 : Est 115 4637792822517301248 4630068930943076251 34 := ⟨by kernel_rfl, fun u => by kernel_rfl, fun u => by kernel_rfl, by decide, by decide +kernel⟩
theorem est116 : Est 116 4637863191261478912 4630111297148585615 34 := ⟨by kernel_rfl, fun u => by kernel_rfl, fun u => by kernel_rfl, by decide, by decide +kernel⟩
theorem est117 : Est 117 4637933560005656576 4630153663354094979 35 := ⟨by kernel_rfl, fun u => by kernel_rfl, fun u => by kernel_rfl, by decide, by decide +kernel⟩
theorem est118 : Est 118 4638003928749834240 4630196029559604343 35 := ⟨by kernel_rfl, fun u => by kernel_rfl, fun u => by kernel_rfl, by decide, by decide +kernel⟩
theorem est119 : Est 119 4638074297494011904 4630238395765113707 35 := ⟨by kernel_rfl, fun u => by kernel_rfl, fun u => by kernel_rfl, by decide, by decide +kernel⟩
theorem est120 : Est 120 4638144666238189568 4630280761970623071 36 := ⟨by kernel_rfl, fun u => by kernel_rfl, fun u => by kernel_rfl, by decide, by decide +kernel⟩
theorem est121 : Est 121 4638215034982367232 4630323128176132435 36 := ⟨by kernel_rfl, fun u => by kernel_rfl, fun u => by kernel_rfl, by decide, by decide +kernel⟩
theorem est122 : Est 122 4638285403726544896 4630365494381641799 36 := ⟨by kernel_rfl, fun u => by kernel_rfl, fun u => by kernel_rfl, by decide, by decide +kernel⟩
theorem est123 : Est 123 4638355772470722560 4630407860587151163 37 := ⟨by kernel_rfl, fun u => by kernel_rfl, fun u => by kernel_rfl, by decide, by decide +kernel⟩
theorem est124 : Est 124 4638426141214900224 4630450226792660527 37 := ⟨by kernel_rfl, fun u => by kernel_rfl, fun u => by kernel_rfl, by decide, by decide +kernel⟩
theorem est125 : Est 125 4638496509959077888 4630492592998169891 37 := ⟨by kernel_rfl, fun u => by kernel_rfl, fun u => by kernel_rfl, by decide, by decide +kernel⟩
theorem est126 : Est 126 4638566878703255552 4630534959203679255 37 := ⟨by kernel_rfl, fun u => by kernel_rfl, fun u => by kernel_rfl, by decide, by decide +kernel⟩
theorem est127 : Est 127 4638637247447433216 4630577325409188619 38 := ⟨by kernel_rfl, fun u => by kernel_rfl, fun u => by kernel_rfl, by decide, by decide +kernel⟩
theorem est128 : Est 128 4638707616191610880 4630619691614697983 38 := ⟨by kernel_rfl, fun u => by kernel_rfl, fun u => by kernel_rfl, by decide, by decide +kernel⟩
theorem est129 : Est 129 4638742800563699712 4630662057820207347 38 := ⟨by kernel_rfl, fun u => by kernel_rfl, fun u => by kernel_rfl, by decide, by decide +kernel⟩
theorem est130 : Est 130 4638777984935788544 4630704424025716711 39 := ⟨by kernel_rfl, fun u => by kernel_rfl, fun u => by kernel_rfl, by decide, by decide +kernel⟩
theorem est131 : Est 131 4638813169307877376 4630746790231226075 39 := ⟨by kernel_rfl, fun u => by kernel_rfl, fun u => by kernel_rfl, by decide, by decide +kernel⟩
theorem est132 : Est 132 4638848353679966208 4630789156436735439 39 := ⟨by kernel_rfl, fun u => by kernel_rfl, fun u => by kernel_rfl, by decide, by decide +kernel⟩
theorem est133 : Est 133 4638883538052055040 4630831522642244803 40 := ⟨by kernel_rfl, fun u => by kernel_rfl, fun u => by kernel_rfl, by decide, by decide +kernel⟩
theorem est134 : Est 134 4638918722424143872 4630873888847754167 40 := ⟨by kernel_rfl, fun u => by kernel_rfl, fun u => by kernel_rfl, by decide, by decide +kernel⟩
theorem est135 : Est 135 4638953906796232704 4630916255053263531 40 := ⟨by kernel_rfl, fun u => by kernel_rfl, fun u => by kernel_rfl, by decide, by decide +kernel⟩
theorem est136 : Est 136 4638989091168321536 4630958621258772895 40 := ⟨by kernel_rfl, fun u => by kernel_rfl, fun u => by kernel_rfl, by decide, by decide +kernel⟩
theorem est137 : Est 137 4639024275540410368 4631000987464282259 41 := ⟨by kernel_rfl, fun u => by kernel_rfl, fun u => by kernel_rfl, by decide, by decide +kernel⟩
theorem est138 : Est 138 4639059459912499200 4631043353669791623 41 := ⟨by kernel_rfl, fun u => by kernel_rfl, fun u => by kernel_rfl, by decide, by decide +kernel⟩
theorem est139 : Est 139 4639094644284588032 4631085719875300987 41 := ⟨by kernel_rfl, fun u => by kernel_rfl, fun u => by kernel_rfl, by decide, by decide +kernel⟩
theorem est140 : Est 140 4639129828656676864 4631128086080810351 42 := ⟨by kernel_rfl, fun u => by kernel_rfl, fun u => by kernel_rfl, by decide, by decide +kernel⟩
theorem est141 : Est 141 4639165013028765696 4631170452286319715 42 := ⟨by kernel_rfl, fun u => by kernel_rfl, fun u => by kernel_rfl, by decide, by decide +kernel⟩
theorem est142 : Est 142 4639200197400854528 4631212818491829079 42 := ⟨by kernel_rfl, fun u => by kernel_rfl, fun u => by kernel_rfl, by decide, by decide +kernel⟩
theorem est143 : Est 143 4639235381772943360 4631255184697338443 43 := ⟨by kernel_rfl, fun u => by kernel_rfl, fun u => by kernel_rfl, by decide, by decide +kernel⟩
theorem est144 : Est 144 4639270566145032192 4631297550902847807 43 := ⟨by kernel_rfl, fun u => by kernel_rfl, fun u => by kernel_rfl, by decide, by decide +kernel⟩
theorem est145 : Est 145 4639305750517121024 4631339917108357171 43 := ⟨by kernel_rfl, fun u => by kernel_rfl, fun u => by kernel_rfl, by decide, by decide +kernel⟩
theorem est146 : Est 146 4639340934889209856 4631382283313866535 43 := ⟨by kernel_rfl, fun u => by kernel_rfl, fun u => by kernel_rfl, by decide, by decide +kernel⟩
theorem est147 : Est 147 4639376119261298688 4631424649519375899 44 := ⟨by kernel_rfl, fun u => by kernel_rfl, fun u => by kernel_rfl, by decide, by decide +kernel⟩
theorem est148 : Est 148 4639411303633387520 4631467015724885263 44 := ⟨by kernel_rfl, fun u => by kernel_rfl, fun u => by kernel_rfl, by decide, by decide +kernel⟩
theorem est149 : Est 149 4639446488005476352 4631509381930394627 44 := ⟨by kernel_rfl, fun u => by kernel_rfl, fun u => by kernel_rfl, by decide, by decide +kernel⟩
theorem est150 : Est 150 4639481672377565184 4631551748135903991 45 := ⟨by kernel_rfl, fun u => by kernel_rfl, fun u => by kernel_rfl, by decide, by decide +kernel⟩
theorem est151 : Est 151 4639516856749654016 4631594114341413355 45 := ⟨by kernel_rfl, fun u => by kernel_rfl, fun u => by kernel_rfl, by decide, by decide +kernel⟩
theorem est152 : Est 152 4639552041121742848 4631636480546922719 45 := ⟨by kernel_rfl, fun u => by kernel_rfl, fun u => by kernel_rfl, by decide, by decide +kernel⟩
theorem est153 : Est 153 4639587225493831680 4631678846752432083 46 := ⟨by kernel_rfl, fun u => by kernel_rfl, fun u => by kernel_rfl, by decide, by decide +kernel⟩
theorem est154 : Est 154 4639622409865920512 4631721212957941447 46 := ⟨by kernel_rfl, fun u => by kernel_rfl, fun u => by kernel_rfl, by decide, by decide +kernel⟩
theorem est155 : Est 155 4639657594238009344 4631763579163450811 46 := ⟨by kernel_rfl, fun u => by kernel_rfl, fun u => by kernel_rfl, by decide, by decide +kernel⟩
theorem est156 : Est 156 4639692778610098176 4631805945368960175 46 := ⟨by kernel_rfl, fun u => by kernel_rfl, fun u => by kernel_rfl, by decide, by decide +kernel⟩
theorem est157 : Est 157 4639727962982187008 4631848311574469539 47 := ⟨by kernel_rfl, fun u => by kernel_rfl, fun u => by kernel_rfl, by decide, by decide +kernel⟩
theorem est158 : Est 158 4639763147354275840 4631890677779978903 47 := ⟨by kernel_rfl, fun u => by kernel_rfl, fun u => by kernel_rfl, by decide, by decide +kernel⟩
theorem est159 : Est 159 4639798331726364672 4631933043985488267 47 := ⟨by kernel_rfl, fun u => by kernel_rfl, fun u => by kernel_rfl, by decide, by decide +kernel⟩
theorem est160 : Est 160 4639833516098453504 4631975410190997631 48 := ⟨by kernel_rfl, fun u => by kernel_rfl, fun u => by kernel_rfl, by decide, by decide +kernel⟩
theorem est161 : Est 161 4639868700470542336 4632017776396506995 48 := ⟨by kernel_rfl, fun u => by kernel_rfl, fun u => by kernel_rfl, by decide, by decide +kernel⟩
theorem est162 : Est 162 4639903884842631168 4632060142602016359 48 := ⟨by kernel_rfl, fun u => by kernel_rfl, fun u => by kernel_rfl, by decide, by decide +kernel⟩
theorem est163 : Est 163 4639939069214720000 4632102508807525723 49 := ⟨by kernel_rfl, fun u => by kernel_rfl, fun u => by kernel_rfl, by decide, by decide +kernel⟩
theorem est164 : Est 164 4639974253586808832 4632144875013035087 49 := ⟨by kernel_rfl, fun u => by kernel_rfl, fun u => by kernel_rfl, by decide, by decide +kernel⟩
theorem est165 : Est 165 4640009437958897664 4632187241218544451 49 := ⟨by kernel_rfl, fun u => by kernel_rfl, fun u => by kernel_rfl, by decide, by decide +kernel⟩
theorem est166 : Est 166 4640044622330986496 4632229607424053815 49 := ⟨by kernel_rfl, fun u => by kernel_rfl, fun u => by kernel_rfl, by decide, by decide +kernel⟩
theorem est167 : Est 167 4640079806703075328 4632271973629563179 50 := ⟨by kernel_rfl, fun u => by kernel_rfl, fun u => by kernel_rfl, by decide, by decide +kernel⟩
theorem est168 : Est 168 4640114991075164160 4632314339835072543 50 := ⟨by kernel_rfl, fun u => by kernel_rfl, fun u => by kernel_rfl, by decide, by decide +kernel⟩
theorem est169 : Est 169 4640150175447252992 4632356706040581907 50 := ⟨by kernel_rfl, fun u => by kernel_rfl, fun u => by kernel_rfl, by decide, by decide +kernel⟩
theorem est170 : Est 170 4640185359819341824 4632399072246091271 51 := ⟨by kernel_rfl, fun u => by kernel_rfl, fun u => by kernel_rfl, by decide, by decide +kernel⟩
theorem est171 : Est 171 4640220544191430656 4632441438451600635 51 := ⟨by kernel_rfl, fun u => by kernel_rfl, fun u => by kernel_rfl, by decide, by decide +kernel⟩
theorem est172 : Est 172 4640255728563519488 4632483804657109999 51 := ⟨by kernel_rfl, fun u => by kernel_rfl, fun u => by kernel_rfl, by decide, by decide +kernel⟩
theorem est173 : Est 173 4640290912935608320 4632526170862619363 52 := ⟨by kernel_rfl, fun u => by kernel_rfl, fun u => by kernel_rfl, by decide, by decide +kernel⟩
theorem est174 : Est 174 4640326097307697152 4632568537068128727 52 := ⟨by kernel_rfl, fun u => by kernel_rfl, fun u => by kernel_rfl, by decide, by decide +kernel⟩
theorem est175 : Est 175 4640361281679785984 4632610903273638091 52 := ⟨by kernel_rfl, fun u => by kernel_rfl, fun u => by kernel_rfl, by decide, by decide +kernel⟩
theorem est176 : Est 176 4640396466051874816 4632653269479147455 52 := ⟨by kernel_rfl, fun u => by kernel_rfl, fun u => by kernel_rfl, by decide, by decide +kernel⟩
theorem est177 : Est 177 4640431650423963648 4632695635684656819 53 := ⟨by kernel_rfl, fun u => by kernel_rfl, fun u => by kernel_rfl, by decide, by decide +kernel⟩
theorem est178 : Est 178 4640466834796052480 4632738001890166183 53 := ⟨by kernel_rfl, fun u => by kernel_rfl, fun u => by kernel_rfl, by decide, by decide +kernel⟩
theorem est179 : Est 179 4640502019168141312 4632780368095675547 53 := ⟨by kernel_rfl, fun u => by kernel_rfl, fun u => by kernel_rfl, by decide, by decide +kernel⟩
theorem est180 : Est 180 4640537203540230144 4632822734301184911 54 := ⟨by kernel_rfl, fun u => by kernel_rfl, fun u => by kernel_rfl, by decide, by decide +kernel⟩
theorem est181 : Est 181 4640572387912318976 4632865100506694275 54 := ⟨by kernel_rfl, fun u => by kernel_rfl, fun u => by kernel_rfl, by decide, by decide +kernel⟩
theorem est182 : Est 182 4640607572284407808 4632907466712203639 54 := ⟨by kernel_rfl, fun u => by kernel_rfl, fun u => by kernel_rfl, by decide, by decide +kernel⟩
theorem est183 : Est 183 4640642756656496640 4632949832917713003 55 := ⟨by kernel_rfl, fun u => by kernel_rfl, fun u => by kernel_rfl, by decide, by decide +kernel⟩
theorem est184 : Est 184 4640677941028585472 4632992199123222367 55 := ⟨by kernel_rfl, fun u => by kernel_rfl, fun u => by kernel_rfl, by decide, by decide +kernel⟩
theorem est185 : Est 185 4640713125400674304 4633034565328731731 55 := ⟨by kernel_rfl, fun u => by kernel_rfl, fun u => by kernel_rfl, by decide, by decide +kernel⟩
theorem est186 : Est 186 4640748309772763136 4633076931534241095 55 := ⟨by kernel_rfl, fun u => by kernel_rfl, fun u => by kernel_rfl, by decide, by decide +kernel⟩
theorem est187 : Est 187 4640783494144851968 4633119297739750459 56 := ⟨by kernel_rfl, fun u => by kernel_rfl, fun u => by kernel_rfl, by decide, by decide +kernel⟩
theorem est188 : Est 188 4640818678516940800 4633161663945259823 56 := ⟨by kernel_rfl, fun u => by kernel_rfl, fun u => by kernel_rfl, by decide, by decide +kernel⟩
theorem est189 : Est 189 4640853862889029632 4633204030150769187 56 := ⟨by kernel_rfl, fun u => by kernel_rfl, fun u => by kernel_rfl, by decide, by decide +kernel⟩
theorem est190 : Est 190 4640889047261118464 4633246396356278551 57 := ⟨by kernel_rfl, fun u => by kernel_rfl, fun u => by kernel_rfl, by decide, by decide +kernel⟩
theorem est191 : Est 191 4640924231633207296 4633288762561787915 57 := ⟨by kernel_rfl, fun u => by kernel_rfl, fun u => by kernel_rfl, by decide, by decide +kernel⟩
theorem est192 : Est 192 4640959416005296128 4633331128767297279 57 := ⟨by kernel_rfl, fun u => by kernel_rfl, fun u => by kernel_rfl, by decide, by decide +kernel⟩
theorem est_all (L : Nat) (h0 : 1 ≤ L) (h1 : L ≤ 192) : ∃ f q N, Est L f q N := by
  rcases Nat.lt_or_ge L 97 with h | h
  · rcases Nat.lt_or_ge L 49 with h | h
    · rcases Nat.lt_or_ge L 25 with h | h
      · rcases Nat.lt_or_ge L 13 with h | h
        · rcases Nat.lt_or_ge L 7 with h | h
          · rcases Nat.lt_or_ge L 4 with h | h
            · rcases Nat.lt_or_ge L 3 with h | h
              · rcases Nat.lt_or_ge L 2 with h | h
                · obtain rfl : L = 1 := by omega
                  exact ⟨_, _, _, est1⟩
                · obtain rfl : L = 2 := by omega
                  exact ⟨_, _, _, est2⟩
              · obtain rfl : L = 3 := by omega
                exact ⟨_, _, _, est3⟩
            · rcases Nat.lt_or_ge L 6 with h | h
              · rcases Nat.lt_or_ge L 5 with h | h
                · obtain rfl : L = 4 := by omega
                  exact ⟨_, _, _, est4⟩
                · obtain rfl : L = 5 := by omega
                  exact ⟨_, _, _, est5⟩
              · obtain rfl : L = 6 := by omega
                exact ⟨_, _, _, est6⟩
          · rcases Nat.lt_or_ge L 10 with h | h
            · rcases Nat.lt_or_ge L 9 with h | h
              · rcases Nat.lt_or_ge L 8 with h | h
                · obtain rfl : L = 7 := by omega
                  exact ⟨_, _, _, est7⟩
                · obtain rfl : L = 8 := by omega
                  exact ⟨_, _, _, est8⟩
              · obtain rfl : L = 9 := by omega
                exact ⟨_, _, _, est9⟩
            · rcases Nat.lt_or_ge L 12 with h | h
              · rcases Nat.lt_or_ge L 11 with h | h
                · obtain rfl : L = 10 := by omega
                  exact ⟨_, _, _, est10⟩
                · obtain rfl : L = 11 := by omega
                  exact ⟨_, _, _, est11⟩
              · obtain rfl : L = 12 := by omega
                exact ⟨_, _, _, est12⟩
        · rcases Nat.lt_or_ge L 19 with h | h
          · rcases Nat.lt_or_ge L 16 with h | h
            · rcases Nat.lt_or_ge L 15 with h | h
              · rcases Nat.lt_or_ge L 14 with h | h
                · obtain rfl : L = 13 := by omega
                  exact ⟨_, _, _, est13⟩
                · obtain rfl : L = 14 := by omega
                  exact ⟨_, _, _, est14⟩
              · obtain rfl : L = 15 := by omega
                exact ⟨_, _, _, est15⟩
            · rcases Nat.lt_or_ge L 18 with h | h
              · rcases Nat.lt_or_ge L 17 with h | h
                · obtain rfl : L = 16 := by omega
                  exact ⟨_, _, _, est16⟩
                · obtain rfl : L = 17 := by omega
                  exact ⟨_, _, _, est17⟩
              · obtain rfl : L = 18 := by omega
                exact ⟨_, _, _, est18⟩
          · rcases Nat.lt_or_ge L 22 with h | h
            · rcases Nat.lt_or_ge L 21 with h | h
              · rcases Nat.lt_or_ge L 20 with h | h
                · obtain rfl : L = 19 := by omega
                  exact ⟨_, _, _, est19⟩
                · obtain rfl : L = 20 := by omega
                  exact ⟨_, _, _, est20⟩
              · obtain rfl : L = 21 := by omega
                exact ⟨_, _, _, est21⟩
            · rcases Nat.lt_or_ge L 24 with h | h
              · rcases Nat.lt_or_ge L 23 with h | h
                · obtain rfl : L = 22 := by omega
                  exact ⟨_, _, _, est22⟩
                · obtain rfl : L = 23 := by omega
                  exact ⟨_, _, _, est23⟩
              · obtain rfl : L = 24 := by omega
                exact ⟨_, _, _, est24⟩
      · rcases Nat.lt_or_ge L 37 with h | h
        · rcases Nat.lt_or_ge L 31 with h | h
          · rcases Nat.lt_or_ge L 28 with h | h
            · rcases Nat.lt_or_ge L 27 with h | h
              · rcases Nat.lt_or_ge L 26 with h | h
                · obtain rfl : L = 25 := by omega
                  exact ⟨_, _, _, est25⟩
                · obtain rfl : L = 26 := by omega
                  exact ⟨_, _, _, est26⟩
              · obtain rfl : L = 27 := by omega
                exact ⟨_, _, _, est27⟩
            · rcases Nat.lt_or_ge L 30 with h | h
              · rcases Nat.lt_or_ge L 29 with h | h
                · obtain rfl : L = 28 := by omega
                  exact ⟨_, _, _, est28⟩
                · obtain rfl : L = 29 := by omega
                  exact ⟨_, _, _, est29⟩
              · obtain rfl : L = 30 := by omega
                exact ⟨_, _, _, est30⟩
          · rcases Nat.lt_or_ge L 34 with h | h
            · rcases Nat.lt_or_ge L 33 with h | h
              · rcases Nat.lt_or_ge L 32 with h | h
                · obtain rfl : L = 31 := by omega
                  exact ⟨_, _, _, est31⟩
                · obtain rfl : L = 32 := by omega
                  exact ⟨_, _, _, est32⟩
              · obtain rfl : L = 33 := by omega
                exact ⟨_, _, _, est33⟩
            · rcases Nat.lt_or_ge L 36 with h | h
              · rcases Nat.lt_or_ge L 35 with h | h
                · obtain rfl : L = 34 := by omega
                  exact ⟨_, _, _, est34⟩
                · obtain rfl : L = 35 := by omega
                  exact ⟨_, _, _, est35⟩
              · obtain rfl : L = 36 := by omega
                exact ⟨_, _, _, est36⟩
        · rcases Nat.lt_or_ge L 43 with h | h
          · rcases Nat.lt_or_ge L 40 with h | h
            · rcases Nat.lt_or_ge L 39 with h | h
              · rcases Nat.lt_or_ge L 38 with h | h
                · obtain rfl : L = 37 := by omega
                  exact ⟨_, _, _, est37⟩
                · obtain rfl : L = 38 := by omega
                  exact ⟨_, _, _, est38⟩
              · obtain rfl : L = 39 := by omega
                exact ⟨_, _, _, est39⟩
            · rcases Nat.lt_or_ge L 42 with h | h
              · rcases Nat.lt_or_ge L 41 with h | h
                · obtain rfl : L = 40 := by omega
                  exact ⟨_, _, _, est40⟩
                · obtain rfl : L = 41 := by omega
                  exact ⟨_, _, _, est41⟩
              · obtain rfl : L = 42 := by omega
                exact ⟨_, _, _, est42⟩
          · rcases Nat.lt_or_ge L 46 with h | h
            · rcases Nat.lt_or_ge L 45 with h | h
              · rcases Nat.lt_or_ge L 44 with h | h
                · obtain rfl : L = 43 := by omega
                  exact ⟨_, _, _, est43⟩
                · obtain rfl : L = 44 := by omega
                  exact ⟨_, _, _, est44⟩
              · obtain rfl : L = 45 := by omega
                exact ⟨_, _, _, est45⟩
            · rcases Nat.lt_or_ge L 48 with h | h
              · rcases Nat.lt_or_ge L 47 with h | h
                · obtain rfl : L = 46 := by omega
                  exact ⟨_, _, _, est46⟩
                · obtain rfl : L = 47 := by omega
                  exact ⟨_, _, _, est47⟩
              · obtain rfl : L = 48 := by omega
                exact ⟨_, _, _, est48⟩
    · rcases Nat.lt_or_ge L 73 with h | h
      · rcases Nat.lt_or_ge L 61 with h | h
        · rcases Nat.lt_or_ge L 55 with h | h
          · rcases Nat.lt_or_ge L 52 with h | h
            · rcases Nat.lt_or_ge L 51 with h | h
              · rcases Nat.lt_or_ge L 50 with h | h
                · obtain rfl : L = 49 := by omega
                  exact ⟨_, _, _, est49⟩
                · obtain rfl : L = 50 := by omega
                  exact ⟨_, _, _, est50⟩
              · obtain rfl : L = 51 := by omega
                exact ⟨_, _, _, est51⟩
            · rcases Nat.lt_or_ge L 54 with h | h
              · rcases Nat.lt_or_ge L 53 with h | h
                · obtain rfl : L = 52 := by omega
                  exact ⟨_, _, _, est52⟩
                · obtain rfl : L = 53 := by omega
                  exact ⟨_, _, _, est53⟩
              · obtain rfl : L = 54 := by omega
                exact ⟨_, _, _, est54⟩
          · rcases Nat.lt_or_ge L 58 with h | h
            · rcases Nat.lt_or_ge L 57 with h | h
              · rcases Nat.lt_or_ge L 56 with h | h
                · obtain rfl : L = 55 := by omega
                  exact ⟨_, _, _, est55⟩
                · obtain rfl : L = 56 := by omega
                  exact ⟨_, _, _, est56⟩
              · obtain rfl : L = 57 := by omega
                exact ⟨_, _, _, est57⟩
            · rcases Nat.lt_or_ge L 60 with h | h
              · rcases Nat.lt_or_ge L 59 with h | h
                · obtain rfl : L = 58 := by omega
                  exact ⟨_, _, _, est58⟩
                · obtain rfl : L = 59 := by omega
                  exact ⟨_, _, _, est59⟩
              · obtain rfl : L = 60 := by omega
                exact ⟨_, _, _, est60⟩
        · rcases Nat.lt_or_ge L 67 with h | h
          · rcases Nat.lt_or_ge L 64 with h | h
            · rcases Nat.lt_or_ge L 63 with h | h
              · rcases Nat.lt_or_ge L 62 with h | h
                · obtain rfl : L = 61 := by omega
                  exact ⟨_, _, _, est61⟩
                · obtain rfl : L = 62 := by omega
                  exact ⟨_, _, _, est62⟩
              · obtain rfl : L = 63 := by omega
                exact ⟨_, _, _, est63⟩
            · rcases Nat.lt_or_ge L 66 with h | h
              · rcases Nat.lt_or_ge L 65 with h | h
                · obtain rfl : L = 64 := by omega
                  exact ⟨_, _, _, est64⟩
                · obtain rfl : L = 65 := by omega
                  exact ⟨_, _, _, est65⟩
              · obtain rfl : L = 66 := by omega
                exact ⟨_, _, _, est66⟩
          · rcases Nat.lt_or_ge L 70 with h | h
            · rcases Nat.lt_or_ge L 69 with h | h
              · rcases Nat.lt_or_ge L 68 with h | h
                · obtain rfl : L = 67 := by omega
                  exact ⟨_, _, _, est67⟩
                · obtain rfl : L = 68 := by omega
                  exact ⟨_, _, _, est68⟩
              · obtain rfl : L = 69 := by omega
                exact ⟨_, _, _, est69⟩
            · rcases Nat.lt_or_ge L 72 with h | h
              · rcases Nat.lt_or_ge L 71 with h | h
                · obtain rfl : L = 70 := by omega
                  exact ⟨_, _, _, est70⟩
                · obtain rfl : L = 71 := by omega
                  exact ⟨_, _, _, est71⟩
              · obtain rfl : L = 72 := by omega
                exact ⟨_, _, _, est72⟩
      · rcases Nat.lt_or_ge L 85 with h | h
        · rcases Nat.lt_or_ge L 79 with h | h
          · rcases Nat.lt_or_ge L 76 with h | h
            · rcases Nat.lt_or_ge L 75 with h | h
              · rcases Nat.lt_or_ge L 74 with h | h
                · obtain rfl : L = 73 := by omega
                  exact ⟨_, _, _, est73⟩
                · obtain rfl : L = 74 := by omega
                  exact ⟨_, _, _, est74⟩
              · obtain rfl : L = 75 := by omega
                exact ⟨_, _, _, est75⟩
            · rcases Nat.lt_or_ge L 78 with h | h
              · rcases Nat.lt_or_ge L 77 with h | h
                · obtain rfl : L = 76 := by omega
                  exact ⟨_, _, _, est76⟩
                · obtain rfl : L = 77 := by omega
                  exact ⟨_, _, _, est77⟩
              · obtain rfl : L = 78 := by omega
                exact ⟨_, _, _, est78⟩
          · rcases Nat.lt_or_ge L 82 with h | h
            · rcases Nat.lt_or_ge L 81 with h | h
              · rcases Nat.lt_or_ge L 80 with h | h
                · obtain rfl : L = 79 := by omega
                  exact ⟨_, _, _, est79⟩
                · obtain rfl : L = 80 := by omega
                  exact ⟨_, _, _, est80⟩
              · obtain rfl : L = 81 := by omega
                exact ⟨_, _, _, est81⟩
            · rcases Nat.lt_or_ge L 84 with h | h
              · rcases Nat.lt_or_ge L 83 with h | h
                · obtain rfl : L = 82 := by omega
                  exact ⟨_, _, _, est82⟩
                · obtain rfl : L = 83 := by omega
                  exact ⟨_, _, _, est83⟩
              · obtain rfl : L = 84 := by omega
                exact ⟨_, _, _, est84⟩
        · rcases Nat.lt_or_ge L 91 with h | h
          · rcases Nat.lt_or_ge L 88 with h | h
            · rcases Nat.lt_or_ge L 87 with h | h
              · rcases Nat.lt_or_ge L 86 with h | h
                · obtain rfl : L = 85 := by omega
                  exact ⟨_, _, _, est85⟩
                · obtain rfl : L = 86 := by omega
                  exact ⟨_, _, _, est86⟩
              · obtain rfl : L = 87 := by omega
                exact ⟨_, _, _, est87⟩
            · rcases Nat.lt_or_ge L 90 with h | h
              · rcases Nat.lt_or_ge L 89 with h | h
                · obtain rfl : L = 88 := by omega
                  exact ⟨_, _, _, est88⟩
                · obtain rfl : L = 89 := by omega
                  exact ⟨_, _, _, est89⟩
              · obtain rfl : L = 90 := by omega
                exact ⟨_, _, _, est90⟩
          · rcases Nat.lt_or_ge L 94 with h | h
            · rcases Nat.lt_or_ge L 93 with h | h
              · rcases Nat.lt_or_ge L 92 with h | h
                · obtain rfl : L = 91 := by omega
                  exact ⟨_, _, _, est91⟩
                · obtain rfl : L = 92 := by omega
                  exact ⟨_, _, _, est92⟩
              · obtain rfl : L = 93 := by omega
                exact ⟨_, _, _, est93⟩
            · rcases Nat.lt_or_ge L 96 with h | h
              · rcases Nat.lt_or_ge L 95 with h | h
                · obtain rfl : L = 94 := by omega
                  exact ⟨_, _, _, est94⟩
                · obtain rfl : L = 95 := by omega
                  exact ⟨_, _, _, est95⟩
              · obtain rfl : L = 96 := by omega
                exact ⟨_, _, _, est96⟩
  · rcases Nat.lt_or_ge L 145 with h | h
    · rcases Nat.lt_or_ge L 121 with h | h
      · rcases Nat.lt_or_ge L 109 with h | h
        · rcases Nat.lt_or_ge L 103 with h | h
          · rcases Nat.lt_or_ge L 100 with h | h
            · rcases Nat.lt_or_ge L 99 with h | h
              · rcases Nat.lt_or_ge L 98 with h | h
                · obtain rfl : L = 97 := by omega
                  exact ⟨_, _, _, est97⟩
                · obtain rfl : L = 98 := by omega
                  exact ⟨_, _, _, est98⟩
              · obtain rfl : L = 99 := by omega
                exact ⟨_, _, _, est99⟩
            · rcases Nat.lt_or_ge L 102 with h | h
              · rcases Nat.lt_or_ge L 101 with h | h
                · obtain rfl : L = 100 := by omega
                  exact ⟨_, _, _, est100⟩
                · obtain rfl : L = 101 := by omega
                  exact ⟨_, _, _, est101⟩
              · obtain rfl : L = 102 := by omega
                exact ⟨_, _, _, est102⟩
          · rcases Nat.lt_or_ge L 106 with h | h
            · rcases Nat.lt_or_ge L 105 with h | h
              · rcases Nat.lt_or_ge L 104 with h | h
                · obtain rfl : L = 103 := by omega
                  exact ⟨_, _, _, est103⟩
                · obtain rfl : L = 104 := by omega
                  exact ⟨_, _, _, est104⟩
              · obtain rfl : L = 105 := by omega
                exact ⟨_, _, _, est105⟩
            · rcases Nat.lt_or_ge L 108 with h | h
              · rcases Nat.lt_or_ge L 107 with h | h
                · obtain rfl : L = 106 := by omega
                  exact ⟨_, _, _, est106⟩
                · obtain rfl : L = 107 := by omega
                  exact ⟨_, _, _, est107⟩
              · obtain rfl : L = 108 := by omega
                exact ⟨_, _, _, est108⟩
        · rcases Nat.lt_or_ge L 115 with h | h
          · rcases Nat.lt_or_ge L 112 with h | h
            · rcases Nat.lt_or_ge L 111 with h | h
              · rcases Nat.lt_or_ge L 110 with h | h
                · obtain rfl : L = 109 := by omega
                  exact ⟨_, _, _, est109⟩
                · obtain rfl : L = 110 := by omega
                  exact ⟨_, _, _, est110⟩
              · obtain rfl : L = 111 := by omega
                exact ⟨_, _, _, est111⟩
            · rcases Nat.lt_or_ge L 114 with h | h
              · rcases Nat.lt_or_ge L 113 with h | h
                · obtain rfl : L = 112 := by omega
                  exact ⟨_, _, _, est112⟩
                · obtain rfl : L = 113 := by omega
                  exact ⟨_, _, _, est113⟩
              · obtain rfl : L = 114 := by omega
                exact ⟨_, _, _, est114⟩
          · rcases Nat.lt_or_ge L 118 with h | h
            · rcases Nat.lt_or_ge L 117 with h | h
              · rcases Nat.lt_or_ge L 116 with h | h
                · obtain rfl : L = 115 := by omega
                  exact ⟨_, _, _, est115⟩
                · obtain rfl : L = 116 := by omega
                  exact ⟨_, _, _, est116⟩
              · obtain rfl : L = 117 := by omega
                exact ⟨_, _, _, est117⟩
            · rcases Nat.lt_or_ge L 120 with h | h
              · rcases Nat.lt_or_ge L 119 with h | h
                · obtain rfl : L = 118 := by omega
                  exact ⟨_, _, _, est118⟩
                · obtain rfl : L = 119 := by omega
                  exact ⟨_, _, _, est119⟩
              · obtain rfl : L = 120 := by omega
                exact ⟨_, _, _, est120⟩
      · rcases Nat.lt_or_ge L 133 with h | h
        · rcases Nat.lt_or_ge L 127 with h | h
          · rcases Nat.lt_or_ge L 124 with h | h
            · rcases Nat.lt_or_ge L 123 with h | h
              · rcases Nat.lt_or_ge L 122 with h | h
                · obtain rfl : L = 121 := by omega
                  exact ⟨_, _, _, est121⟩
                · obtain rfl : L = 122 := by omega
                  exact ⟨_, _, _, est122⟩
              · obtain rfl : L = 123 := by omega
                exact ⟨_, _, _, est123⟩
            · rcases Nat.lt_or_ge L 126 with h | h
              · rcases Nat.lt_or_ge L 125 with h | h
                · obtain rfl : L = 124 := by omega
                  exact ⟨_, _, _, est124⟩
                · obtain rfl : L = 125 := by omega
                  exact ⟨_, _, _, est125⟩
              · obtain rfl : L = 126 := by omega
                exact ⟨_, _, _, est126⟩
          · rcases Nat.lt_or_ge L 130 with h | h
            · rcases Nat.lt_or_ge L 129 with h | h
              · rcases Nat.lt_or_ge L 128 with h | h
                · obtain rfl : L = 127 := by omega
                  exact ⟨_, _, _, est127⟩
                · obtain rfl : L = 128 := by omega
                  exact ⟨_, _, _, est128⟩
              · obtain rfl : L = 129 := by omega
                exact ⟨_, _, _, est129⟩
            · rcases Nat.lt_or_ge L 132 with h | h
              · rcases Nat.lt_or_ge L 131 with h | h
                · obtain rfl : L = 130 := by omega
                  exact ⟨_, _, _, est130⟩
                · obtain rfl : L = 131 := by omega
                  exact ⟨_, _, _, est131⟩
              · obtain rfl : L = 132 := by omega
                exact ⟨_, _, _, est132⟩
        · rcases Nat.lt_or_ge L 139 with h | h
          · rcases Nat.lt_or_ge L 136 with h | h
            · rcases Nat.lt_or_ge L 135 with h | h
              · rcases Nat.lt_or_ge L 134 with h | h
                · obtain rfl : L = 133 := by omega
                  exact ⟨_, _, _, est133⟩
                · obtain rfl : L = 134 := by omega
                  exact ⟨_, _, _, est134⟩
              · obtain rfl : L = 135 := by omega
                exact ⟨_, _, _, est135⟩
            · rcases Nat.lt_or_ge L 138 with h | h
              · rcases Nat.lt_or_ge L 137 with h | h
                · obtain rfl : L = 136 := by omega
                  exact ⟨_, _, _, est136⟩
                · obtain rfl : L = 137 := by omega
                  exact ⟨_, _, _, est137⟩
              · obtain rfl : L = 138 := by omega
                exact ⟨_, _, _, est138⟩
          · rcases Nat.lt_or_ge L 142 with h | h
            · rcases Nat.lt_or_ge L 141 with h | h
              · rcases Nat.lt_or_ge L 140 with h | h
                · obtain rfl : L = 139 := by omega
                  exact ⟨_, _, _, est139⟩
                · obtain rfl : L = 140 := by omega
                  exact ⟨_, _, _, est140⟩
              · obtain rfl : L = 141 := by omega
                exact ⟨_, _, _, est141⟩
            · rcases Nat.lt_or_ge L 144 with h | h
              · rcases Nat.lt_or_ge L 143 with h | h
                · obtain rfl : L = 142 := by omega
                  exact ⟨_, _, _, est142⟩
                · obtain rfl : L = 143 := by omega
                  exact ⟨_, _, _, est143⟩
              · obtain rfl : L = 144 := by omega
                exact ⟨_, _, _, est144⟩
    · rcases Nat.lt_or_ge L 169 with h | h
      · rcases Nat.lt_or_ge L 157 with h | h
        · rcases Nat.lt_or_ge L 151 with h | h
          · rcases Nat.lt_or_ge L 148 with h | h
            · rcases Nat.lt_or_ge L 147 with h | h
              · rcases Nat.lt_or_ge L 146 with h | h
                · obtain rfl : L = 145 := by omega
                  exact ⟨_, _, _, est145⟩
                · obtain rfl : L = 146 := by omega
                  exact ⟨_, _, _, est146⟩
              · obtain rfl : L = 147 := by omega
                exact ⟨_, _, _, est147⟩
            · rcases Nat.lt_or_ge L 150 with h | h
              · rcases Nat.lt_or_ge L 149 with h | h
                · obtain rfl : L = 148 := by omega
                  exact ⟨_, _, _, est148⟩
                · obtain rfl : L = 149 := by omega
                  exact ⟨_, _, _, est149⟩
              · obtain rfl : L = 150 := by omega
                exact ⟨_, _, _, est150⟩
          · rcases Nat.lt_or_ge L 154 with h | h
            · rcases Nat.lt_or_ge L 153 with h | h
              · rcases Nat.lt_or_ge L 152 with h | h
                · obtain rfl : L = 151 := by omega
                  exact ⟨_, _, _, est151⟩
                · obtain rfl : L = 152 := by omega
                  exact ⟨_, _, _, est152⟩
              · obtain rfl : L = 153 := by omega
                exact ⟨_, _, _, est153⟩
            · rcases Nat.lt_or_ge L 156 with h | h
              · rcases Nat.lt_or_ge L 155 with h | h
                · obtain rfl : L = 154 := by omega
                  exact ⟨_, _, _, est154⟩
                · obtain rfl : L = 155 := by omega
                  exact ⟨_, _, _, est155⟩
              · obtain rfl : L = 156 := by omega
                exact ⟨_, _, _, est156⟩
        · rcases Nat.lt_or_ge L 163 with h | h
          · rcases Nat.lt_or_ge L 160 with h | h
            · rcases Nat.lt_or_ge L 159 with h | h
              · rcases Nat.lt_or_ge L 158 with h | h
                · obtain rfl : L = 157 := by omega
                  exact ⟨_, _, _, est157⟩
                · obtain rfl : L = 158 := by omega
                  exact ⟨_, _, _, est158⟩
              · obtain rfl : L = 159 := by omega
                exact ⟨_, _, _, est159⟩
            · rcases Nat.lt_or_ge L 162 with h | h
              · rcases Nat.lt_or_ge L 161 with h | h
                · obtain rfl : L = 160 := by omega
                  exact ⟨_, _, _, est160⟩
                · obtain rfl : L = 161 := by omega
                  exact ⟨_, _, _, est161⟩
              · obtain rfl : L = 162 := by omega
                exact ⟨_, _, _, est162⟩
          · rcases Nat.lt_or_ge L 166 with h | h
            · rcases Nat.lt_or_ge L 165 with h | h
              · rcases Nat.lt_or_ge L 164 with h | h
                · obtain rfl : L = 163 := by omega
                  exact ⟨_, _, _, est163⟩
                · obtain rfl : L = 164 := by omega
                  exact ⟨_, _, _, est164⟩
              · obtain rfl : L = 165 := by omega
                exact ⟨_, _, _, est165⟩
            · rcases Nat.lt_or_ge L 168 with h | h
              · rcases Nat.lt_or_ge L 167 with h | h
                · obtain rfl : L = 166 := by omega
                  exact ⟨_, _, _, est166⟩
                · obtain rfl : L = 167 := by omega
                  exact ⟨_, _, _, est167⟩
              · obtain rfl : L = 168 := by omega
                exact ⟨_, _, _, est168⟩
      · rcases Nat.lt_or_ge L 181 with h | h
        · rcases Nat.lt_or_ge L 175 with h | h
          · rcases Nat.lt_or_ge L 172 with h | h
            · rcases Nat.lt_or_ge L 171 with h | h
              · rcases Nat.lt_or_ge L 170 with h | h
                · obtain rfl : L = 169 := by omega
                  exact ⟨_, _, _, est169⟩
                · obtain rfl : L = 170 := by omega
                  exact ⟨_, _, _, est170⟩
              · obtain rfl : L = 171 := by omega
                exact ⟨_, _, _, est171⟩
            · rcases Nat.lt_or_ge L 174 with h | h
              · rcases Nat.lt_or_ge L 173 with h | h
                · obtain rfl : L = 172 := by omega
                  exact ⟨_, _, _, est172⟩
                · obtain rfl : L = 173 := by omega
                  exact ⟨_, _, _, est173⟩
              · obtain rfl : L = 174 := by omega
                exact ⟨_, _, _, est174⟩
          · rcases Nat.lt_or_ge L 178 with h | h
            · rcases Nat.lt_or_ge L 177 with h | h
              · rcases Nat.lt_or_ge L 176 with h | h
                · obtain rfl : L = 175 := by omega
                  exact ⟨_, _, _, est175⟩
                · obtain rfl : L = 176 := by omega
                  exact ⟨_, _, _, est176⟩
              · obtain rfl : L = 177 := by omega
                exact ⟨_, _, _, est177⟩
            · rcases Nat.lt_or_ge L 180 with h | h
              · rcases Nat.lt_or_ge L 179 with h | h
                · obtain rfl : L = 178 := by omega
                  exact ⟨_, _, _, est178⟩
                · obtain rfl : L = 179 := by omega
                  exact ⟨_, _, _, est179⟩
              · obtain rfl : L = 180 := by omega
                exact ⟨_, _, _, est180⟩
        · rcases Nat.lt_or_ge L 187 with h | h
          · rcases Nat.lt_or_ge L 184 with h | h
            · rcases Nat.lt_or_ge L 183 with h | h
              · rcases Nat.lt_or_ge L 182 with h | h
                · obtain rfl : L = 181 := by omega
                  exact ⟨_, _, _, est181⟩
                · obtain rfl : L = 182 := by omega
                  exact ⟨_, _, _, est182⟩
              · obtain rfl : L = 183 := by omega
                exact ⟨_, _, _, est183⟩
            · rcases Nat.lt_or_ge L 186 with h | h
              · rcases Nat.lt_or_ge L 185 with h | h
                · obtain rfl : L = 184 := by omega
                  exact ⟨_, _, _, est184⟩
                · obtain rfl : L = 185 := by omega
                  exact ⟨_, _, _, est185⟩
              · obtain rfl : L = 186 := by omega
                exact ⟨_, _, _, est186⟩
          · rcases Nat.lt_or_ge L 190 with h | h
            · rcases Nat.lt_or_ge L 189 with h | h
              · rcases Nat.lt_or_ge L 188 with h | h
                · obtain rfl : L = 187 := by omega
                  exact ⟨_, _, _, est187⟩
                · obtain rfl : L = 188 := by omega
                  exact ⟨_, _, _, est188⟩
              · obtain rfl : L = 189 := by omega
                exact ⟨_, _, _, est189⟩
            · rcases Nat.lt_or_ge L 192 with h | h
              · rcases Nat.lt_or_ge L 191 with h | h
                · obtain rfl : L = 190 := by omega
                  exact ⟨_, _, _, est190⟩
                · obtain rfl : L = 191 := by omega
                  exact ⟨_, _, _, est191⟩
              · obtain rfl : L = 192 := by omega
                exact ⟨_, _, _, est192⟩
end Go.Proofs.YtdfcomilhjoooaaGreatDoor.Flo
