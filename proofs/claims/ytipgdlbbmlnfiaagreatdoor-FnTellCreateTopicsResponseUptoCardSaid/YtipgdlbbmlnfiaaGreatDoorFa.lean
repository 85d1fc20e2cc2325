/- Facts of the program by computation. No statement of the seat stands here. -/
import Derived.Test.YtipgdlbbmlnfiaaGreatDoorL3
import Derived.Test.YtipgdlbbmlnfiaaGreatDoorRows
import Derived.KernelRfl
namespace Go.Proofs.YtipgdlbbmlnfiaaGreatDoor
open Go Go.Mk
theorem mixed:Tryz.prog.follows .mixedOrders=true:=Tryz.checked.mixed
theorem aA9:aBA Tryz.prog 22=some 5:=by kernel_rfl
theorem aDQ:aCm Tryz.prog 5=some (false,1):=by kernel_rfl
theorem aNF:(Tryz.prog.underlying 5).isSome=true:=by kernel_rfl
theorem aXX:aH0 Tryz.prog 95=some .u16:=by kernel_rfl
theorem aNJ:aH0 Tryz.prog 64=some .u32:=by kernel_rfl
theorem aHE:aH0 Tryz.prog 104=some .u64:=by kernel_rfl
theorem aAV:aAC Tryz.prog 142 0=some 0:=by kernel_rfl
theorem aBy:aCm Tryz.prog 22=some (false,1):=by kernel_rfl
theorem aEc:aAC Tryz.prog 142 1=some 1:=by kernel_rfl
theorem aHp:aCm Tryz.prog 4=some (false,1):=by kernel_rfl
theorem aSc:aCm Tryz.prog 183=some (true,0):=by kernel_rfl
theorem bAk:cb0 Tryz.prog 146=true:=by kernel_rfl
theorem aQY:(Tryz.prog.underlying 64).isSome=true:=by kernel_rfl
theorem aYY:aH0 Tryz.prog 21=some .i32:=by kernel_rfl
theorem aXV:cb0 Tryz.prog 144=true:=by kernel_rfl
theorem aV4:(Tryz.prog.underlying 95).isSome=true:=by kernel_rfl
theorem aSU:aH0 Tryz.prog 46=some .i16:=by kernel_rfl
theorem bAX:cb0 Tryz.prog 179=true:=by kernel_rfl
theorem aZF:cb0 Tryz.prog 155=true:=by kernel_rfl
theorem aTx:(Tryz.prog.underlying 104).isSome=true:=by kernel_rfl
theorem aKJ:aH0 Tryz.prog 2=some .i64:=by kernel_rfl
theorem bBV:aCm Tryz.prog 55=some (false,1):=by kernel_rfl
theorem aLp:aIj Tryz.prog 22=true:=by kernel_rfl
theorem aS5:aLG Tryz.prog 9=true:=by kernel_rfl
theorem aPD:cb0 Tryz.prog 106=true:=by kernel_rfl
theorem aI7:(Tryz.prog.underlying 21).isSome=true:=by kernel_rfl
theorem aTb:aH0 Tryz.prog 3=some .i64:=by kernel_rfl
theorem aSN:cb0 Tryz.prog 95=true:=by kernel_rfl
theorem aKQ:(Tryz.prog.underlying 46).isSome=true:=by kernel_rfl
theorem aJ5:cb0 Tryz.prog 110=true:=by kernel_rfl
theorem bCe:aBB Tryz.prog 9=some (.string .empty):=by kernel_rfl
theorem aVe:aCm Tryz.prog 9=some (false,1):=by kernel_rfl
theorem bAB:cb0 Tryz.prog 147=true:=by kernel_rfl
theorem aJ7:cb0 Tryz.prog 108=true:=by kernel_rfl
theorem aXH:aH0 Tryz.prog 163=some .i8:=by kernel_rfl
theorem aJo:aAC Tryz.prog 84 0=some 0:=by kernel_rfl
theorem aPQ:aCm Tryz.prog 82=some (false,1):=by kernel_rfl
theorem bB7:aQB Tryz.prog 82=true:=by kernel_rfl
theorem aSJ:aPw Tryz.prog 82=some (64,22):=by kernel_rfl
theorem bAc:aBB Tryz.prog 84=some (.agg #[.map none]):=by kernel_rfl
theorem aX3:aCm Tryz.prog 84=some (true,1):=by kernel_rfl
theorem aQh:cb0 Tryz.prog 109=true:=by kernel_rfl
theorem aXx:aBB Tryz.prog 137=some (.agg #[.int .u8 0,.int .u8 0,.int .u8 0,.int .u8 0,.int .u8 0,.int .u8 0,.int .u8 0,.int .u8 0,.int .u8 0,.int .u8 0,.int .u8 0,.int .u8 0,.int .u8 0,.int .u8 0,.int .u8 0,.int .u8 0]):=by kernel_rfl
theorem aUk:aCm Tryz.prog 137=some (true,16):=by kernel_rfl
theorem bAe:aSF Tryz.prog 137=some (16,5):=by kernel_rfl
theorem bA1:(Tryz.prog.info? 5).map (·.size)=some 1:=by kernel_rfl
theorem aON:aAC Tryz.prog 66 1=some 1:=by kernel_rfl
theorem aE0:aBA Tryz.prog 24=some 66:=by kernel_rfl
theorem aGA:aCm Tryz.prog 66=some (true,2):=by kernel_rfl
theorem aPR:aBB Tryz.prog 66=some (.agg #[.int .u32 0,.slice none 0 0]):=by kernel_rfl
theorem bBo:cb0 Tryz.prog 61=true:=by kernel_rfl
theorem aDw:aAC Tryz.prog 26 1=some 1:=by kernel_rfl
theorem aDB:aAC Tryz.prog 26 3=some 3:=by kernel_rfl
theorem aIw:aCm Tryz.prog 23=some (false,1):=by kernel_rfl
theorem aGn:aBA Tryz.prog 23=some 26:=by kernel_rfl
theorem aGC:aAC Tryz.prog 26 4=some 4:=by kernel_rfl
theorem aL7:aCm Tryz.prog 24=some (false,1):=by kernel_rfl
theorem bBu:cb0 Tryz.prog 25=true:=by kernel_rfl
theorem aLn:aBB Tryz.prog 26=some (.agg #[.int .i64 0,.slice none 0 0,.bool false,.slice none 0 0,.slice none 0 0]):=by kernel_rfl
theorem aBF:aCm Tryz.prog 26=some (true,5):=by kernel_rfl
theorem aQd:aI5 Tryz.prog 26=true:=by kernel_rfl
theorem aYJ:aAC Tryz.prog 51 1=some 1:=by kernel_rfl
theorem aF6:aCm Tryz.prog 3=some (false,1):=by kernel_rfl
theorem aTu:aAC Tryz.prog 51 2=some 2:=by kernel_rfl
theorem aIY:aAC Tryz.prog 26 2=some 2:=by kernel_rfl
theorem aEA:aAC Tryz.prog 51 3=some 3:=by kernel_rfl
theorem aKe:aBA Tryz.prog 29=some 51:=by kernel_rfl
theorem aDq:aCm Tryz.prog 51=some (true,8):=by kernel_rfl
theorem aBm:aBB Tryz.prog 51=some (.agg #[.int .i64 0,.int .i64 0,.int .i64 0,.int .i64 0,.int .i64 0,.int .i64 0,.int .i64 0,.slice none 0 0]):=by kernel_rfl
theorem aIx:aAC Tryz.prog 51 4=some 4:=by kernel_rfl
theorem aVd:(Tryz.prog.underlying 3).isSome=true:=by kernel_rfl
theorem aZD:(Tryz.prog.underlying 2).isSome=true:=by kernel_rfl
theorem bA4:aH0 Tryz.prog 5=some .u8:=by kernel_rfl
theorem aEZ:aGN Tryz.prog 22=some (5,1,1):=by kernel_rfl
theorem aWB:aBB Tryz.prog 5=some (.int .u8 0):=by kernel_rfl
theorem aTp:cb0 Tryz.prog 72=true:=by kernel_rfl
theorem aPb:cb0 Tryz.prog 73=true:=by kernel_rfl
theorem aZH:cb0 Tryz.prog 71=true:=by kernel_rfl
theorem aJi:aAC Tryz.prog 66 0=some 0:=by kernel_rfl
theorem aLv:aCm Tryz.prog 64=some (false,1):=by kernel_rfl
theorem aXQ:aI5 Tryz.prog 66=true:=by kernel_rfl
theorem aWM:aGN Tryz.prog 24=some (66,2,32):=by kernel_rfl
theorem aHm:aAC Tryz.prog 26 0=some 0:=by kernel_rfl
theorem aOX:aCm Tryz.prog 2=some (false,1):=by kernel_rfl
theorem aSE:cb0 Tryz.prog 41=true:=by kernel_rfl
theorem aT8:cb0 Tryz.prog 118=true:=by kernel_rfl
theorem aWx:cb0 Tryz.prog 33=true:=by kernel_rfl
theorem aVa:cb0 Tryz.prog 74=true:=by kernel_rfl
theorem bAE:cb0 Tryz.prog 75=true:=by kernel_rfl
theorem aDD:aAC Tryz.prog 51 0=some 0:=by kernel_rfl
theorem aYC:cb0 Tryz.prog 76=true:=by kernel_rfl
theorem aQl:aAC Tryz.prog 51 6=some 6:=by kernel_rfl
theorem aFv:aAC Tryz.prog 51 7=some 7:=by kernel_rfl
theorem aIH:aCm Tryz.prog 29=some (false,1):=by kernel_rfl
theorem aT7:cb0 Tryz.prog 119=true:=by kernel_rfl
theorem aMZ:aAC Tryz.prog 51 5=some 5:=by kernel_rfl
theorem aQz:cb0 Tryz.prog 34=true:=by kernel_rfl
theorem aTO:cb0 Tryz.prog 36=true:=by kernel_rfl
theorem aW1:cb0 Tryz.prog 39=true:=by kernel_rfl
theorem aPY:cb0 Tryz.prog 40=true:=by kernel_rfl
theorem bAi:cb0 Tryz.prog 35=true:=by kernel_rfl
theorem aZS:cb0 Tryz.prog 70=true:=by kernel_rfl
theorem aNv:aAC Tryz.prog 31 0=some 0:=by kernel_rfl
theorem aO5:aAC Tryz.prog 31 1=some 1:=by kernel_rfl
theorem aXp:(Tryz.prog.underlying 163).isSome=true:=by kernel_rfl
theorem aY2:aAC Tryz.prog 37 0=some 0:=by kernel_rfl
theorem aY6:aAC Tryz.prog 37 1=some 1:=by kernel_rfl
theorem aY8:aAC Tryz.prog 37 2=some 2:=by kernel_rfl
theorem aZx:aFh Tryz.prog 26 0=some (0,1):=by kernel_rfl
theorem aYN:aFh Tryz.prog 26 1=some (1,1):=by kernel_rfl
theorem aY4:aFh Tryz.prog 26 2=some (2,1):=by kernel_rfl
theorem aX1:aAC Tryz.prog 37 3=some 3:=by kernel_rfl
theorem bBi:aCm Tryz.prog 34=some (false,1):=by kernel_rfl
theorem bAW:aBA Tryz.prog 34=some 37:=by kernel_rfl
theorem aFJ:aCm Tryz.prog 37=some (true,5):=by kernel_rfl
theorem aJ3:aBB Tryz.prog 37=some (.agg #[.int .i64 0,.slice none 0 0,.bool false,.slice none 0 0,.slice none 0 0]):=by kernel_rfl
theorem aTM:cb0 Tryz.prog 15=true:=by kernel_rfl
theorem aVB:aGN Tryz.prog 23=some (26,5,88):=by kernel_rfl
theorem aX5:aAC Tryz.prog 37 4=some 4:=by kernel_rfl
theorem bBx:aCm Tryz.prog 35=some (false,1):=by kernel_rfl
theorem aUr:aBA Tryz.prog 35=some 69:=by kernel_rfl
theorem aU1:aCm Tryz.prog 69=some (true,2):=by kernel_rfl
theorem bBO:aBB Tryz.prog 69=some (.agg #[.int .u32 0,.slice none 0 0]):=by kernel_rfl
theorem aRa:aAC Tryz.prog 69 0=some 0:=by kernel_rfl
theorem aZq:aAC Tryz.prog 69 1=some 1:=by kernel_rfl
theorem aYB:aFh Tryz.prog 66 0=some (0,1):=by kernel_rfl
theorem aYU:aFh Tryz.prog 66 1=some (1,1):=by kernel_rfl
theorem bA5:aOA Tryz.prog 4=true:=by kernel_rfl
theorem aQu:cb0 Tryz.prog 38=true:=by kernel_rfl
theorem aW7:cb0 Tryz.prog 77=true:=by kernel_rfl
theorem aTh:cb0 Tryz.prog 13=true:=by kernel_rfl
theorem aYZ:cb0 Tryz.prog 37=true:=by kernel_rfl
theorem aI6:aGN Tryz.prog 29=some (51,8,80):=by kernel_rfl
theorem aQ8:aFh Tryz.prog 26 3=some (3,1):=by kernel_rfl
theorem aZl:aFh Tryz.prog 37 0=some (0,1):=by kernel_rfl
theorem aRn:aI5 Tryz.prog 37=true:=by kernel_rfl
theorem aXt:aQU Tryz.prog 122=true:=by kernel_rfl
theorem aYt:aFh Tryz.prog 37 2=some (2,1):=by kernel_rfl
theorem aZd:aFh Tryz.prog 37 1=some (1,1):=by kernel_rfl
theorem aAZ:aFh Tryz.prog 51 0=some (0,1):=by kernel_rfl
theorem aAY:aFh Tryz.prog 51 2=some (2,1):=by kernel_rfl
theorem aA2:aFh Tryz.prog 51 3=some (3,1):=by kernel_rfl
theorem aA1:aFh Tryz.prog 51 4=some (4,1):=by kernel_rfl
theorem aBo:aI5 Tryz.prog 51=true:=by kernel_rfl
theorem bBU:cb0 Tryz.prog 63=true:=by kernel_rfl
theorem aHY:aFh Tryz.prog 51 6=some (6,1):=by kernel_rfl
theorem aG7:aFh Tryz.prog 51 7=some (7,1):=by kernel_rfl
theorem aGy:aFh Tryz.prog 51 1=some (1,1):=by kernel_rfl
theorem aMa:aBB Tryz.prog 31=some (.agg #[.slice none 0 0,.int .i64 0]):=by kernel_rfl
theorem bBr:cb0 Tryz.prog 28=true:=by kernel_rfl
theorem bB0:cb0 Tryz.prog 29=true:=by kernel_rfl
theorem aOw:aFh Tryz.prog 31 1=some (1,1):=by kernel_rfl
theorem aO1:aFh Tryz.prog 31 0=some (0,1):=by kernel_rfl
theorem aRt:aI5 Tryz.prog 31=true:=by kernel_rfl
theorem aIq:aCm Tryz.prog 31=some (true,2):=by kernel_rfl
theorem aYg:cb0 Tryz.prog 62=true:=by kernel_rfl
theorem aXb:cb0 Tryz.prog 96=true:=by kernel_rfl
theorem aWi:cb0 Tryz.prog 97=true:=by kernel_rfl
theorem aVA:cb0 Tryz.prog 98=true:=by kernel_rfl
theorem aW4:cb0 Tryz.prog 99=true:=by kernel_rfl
theorem aZ2:cb0 Tryz.prog 100=true:=by kernel_rfl
theorem aRJ:cb0 Tryz.prog 103=true:=by kernel_rfl
theorem aR0:cb0 Tryz.prog 104=true:=by kernel_rfl
theorem bAf:cb0 Tryz.prog 105=true:=by kernel_rfl
theorem aRB:cb0 Tryz.prog 107=true:=by kernel_rfl
theorem bAm:cb0 Tryz.prog 111=true:=by kernel_rfl
theorem aSb:cb0 Tryz.prog 112=true:=by kernel_rfl
theorem aRv:cb0 Tryz.prog 130=true:=by kernel_rfl
theorem aRe:cb0 Tryz.prog 131=true:=by kernel_rfl
theorem aRO:cb0 Tryz.prog 133=true:=by kernel_rfl
theorem aSs:cb0 Tryz.prog 135=true:=by kernel_rfl
theorem aSe:cb0 Tryz.prog 140=true:=by kernel_rfl
theorem aRL:cb0 Tryz.prog 141=true:=by kernel_rfl
theorem bBR:cb0 Tryz.prog 64=true:=by kernel_rfl
theorem aZ4:aBB Tryz.prog 86=some (.agg #[.int .i16 0,.int .i16 0,.slice none 0 0,.slice none 0 0,.map none]):=by kernel_rfl
theorem bBD:cb0 Tryz.prog 79=true:=by kernel_rfl
theorem bBQ:cb0 Tryz.prog 44=true:=by kernel_rfl
theorem bBv:cb0 Tryz.prog 45=true:=by kernel_rfl
theorem aYs:cb0 Tryz.prog 78=true:=by kernel_rfl
theorem bAd:cb0 Tryz.prog 120=true:=by kernel_rfl
theorem bAR:cb0 Tryz.prog 121=true:=by kernel_rfl
theorem bAr:cb0 Tryz.prog 122=true:=by kernel_rfl
theorem bBp:cb0 Tryz.prog 80=true:=by kernel_rfl
theorem aXw:aBB Tryz.prog 113=some (.agg #[.int .i16 0,.int .i16 0,.slice none 0 0,.slice none 0 0,.map none]):=by kernel_rfl
theorem aZR:cb0 Tryz.prog 126=true:=by kernel_rfl
theorem bB5:cb0 Tryz.prog 85=true:=by kernel_rfl
theorem aNo:aFh Tryz.prog 51 5=some (5,1):=by kernel_rfl
theorem bBk:cb0 Tryz.prog 51=true:=by kernel_rfl
theorem aPi:aAC Tryz.prog 125 2=some 2:=by kernel_rfl
theorem aIe:aCm Tryz.prog 21=some (false,1):=by kernel_rfl
theorem aPc:aAC Tryz.prog 125 3=some 3:=by kernel_rfl
theorem aR4:aAC Tryz.prog 171 2=some 2:=by kernel_rfl
theorem aZt:cb0 Tryz.prog 84=true:=by kernel_rfl
theorem aZP:cb0 Tryz.prog 127=true:=by kernel_rfl
theorem bAD:cb0 Tryz.prog 128=true:=by kernel_rfl
theorem aZK:cb0 Tryz.prog 129=true:=by kernel_rfl
theorem bBN:cb0 Tryz.prog 86=true:=by kernel_rfl
theorem aXq:aBB Tryz.prog 125=some (.agg #[.int .i16 0,.pointer none,.int .i32 0,.int .i32 0,.slice none 0 0,.map none]):=by kernel_rfl
theorem bBX:cb0 Tryz.prog 91=true:=by kernel_rfl
theorem bB9:cb0 Tryz.prog 57=true:=by kernel_rfl
theorem aSn:aAC Tryz.prog 140 5=some 20:=by kernel_rfl
theorem aR1:aAC Tryz.prog 140 6=some 21:=by kernel_rfl
theorem aMb:aCm Tryz.prog 46=some (false,1):=by kernel_rfl
theorem aSk:aAC Tryz.prog 179 3=some 3:=by kernel_rfl
theorem aXC:aCm Tryz.prog 163=some (false,1):=by kernel_rfl
theorem aYS:cb0 Tryz.prog 90=true:=by kernel_rfl
theorem aZX:cb0 Tryz.prog 138=true:=by kernel_rfl
theorem aZ7:cb0 Tryz.prog 139=true:=by kernel_rfl
theorem bBg:cb0 Tryz.prog 92=true:=by kernel_rfl
theorem aXm:aBB Tryz.prog 134=some (.agg #[.int .i16 0,.int .i32 0,.slice none 0 0,.map none]):=by kernel_rfl
theorem aRH:aBA Tryz.prog 157=some 64:=by kernel_rfl
theorem aQc:aCm Tryz.prog 157=some (false,1):=by kernel_rfl
theorem bAw:aBB Tryz.prog 157=some (.slice none 0 0):=by kernel_rfl
theorem bBm:aBB Tryz.prog 64=some (.int .u32 0):=by kernel_rfl
theorem aUp:aGN Tryz.prog 157=some (64,1,4):=by kernel_rfl
theorem bAI:cb0 Tryz.prog 117=true:=by kernel_rfl
theorem aZQ:cb0 Tryz.prog 116=true:=by kernel_rfl
theorem aKi:cb0 Tryz.prog 67=true:=by kernel_rfl
theorem aWY:aAC Tryz.prog 149 0=some 0:=by kernel_rfl
theorem aXf:aAC Tryz.prog 149 1=some 1:=by kernel_rfl
theorem aVG:aAC Tryz.prog 149 2=some 2:=by kernel_rfl
theorem aWw:aAC Tryz.prog 149 3=some 3:=by kernel_rfl
theorem aKw:cb0 Tryz.prog 69=true:=by kernel_rfl
theorem bAs:cb0 Tryz.prog 148=true:=by kernel_rfl
theorem aXc:aAC Tryz.prog 149 4=some 4:=by kernel_rfl
theorem aZk:aAC Tryz.prog 92 0=some 0:=by kernel_rfl
theorem aOD:aAC Tryz.prog 92 1=some 1:=by kernel_rfl
theorem aWN:aCm Tryz.prog 90=some (false,1):=by kernel_rfl
theorem aWr:aBA Tryz.prog 90=some 149:=by kernel_rfl
theorem aVf:aBB Tryz.prog 4=some (.bool false):=by kernel_rfl
theorem aXA:aCm Tryz.prog 149=some (true,5):=by kernel_rfl
theorem aXR:cb0 Tryz.prog 113=true:=by kernel_rfl
theorem bAQ:cb0 Tryz.prog 114=true:=by kernel_rfl
theorem aYn:aAC Tryz.prog 92 2=some 2:=by kernel_rfl
theorem aYO:aAC Tryz.prog 97 0=some 0:=by kernel_rfl
theorem aYa:aAC Tryz.prog 97 1=some 1:=by kernel_rfl
theorem aYu:aAC Tryz.prog 97 2=some 2:=by kernel_rfl
theorem aZJ:aCm Tryz.prog 95=some (false,1):=by kernel_rfl
theorem bAt:cb0 Tryz.prog 115=true:=by kernel_rfl
theorem aZu:aAC Tryz.prog 97 3=some 3:=by kernel_rfl
theorem aZm:aAC Tryz.prog 86 1=some 1:=by kernel_rfl
theorem aOH:aAC Tryz.prog 86 2=some 2:=by kernel_rfl
theorem aVI:aCm Tryz.prog 80=some (false,1):=by kernel_rfl
theorem aVD:aBA Tryz.prog 80=some 92:=by kernel_rfl
theorem bAO:aCm Tryz.prog 92=some (true,3):=by kernel_rfl
theorem bAY:cb0 Tryz.prog 65=true:=by kernel_rfl
theorem aOV:aAC Tryz.prog 86 3=some 3:=by kernel_rfl
theorem aWo:aCm Tryz.prog 81=some (false,1):=by kernel_rfl
theorem aWA:aBA Tryz.prog 81=some 97:=by kernel_rfl
theorem aZ3:aCm Tryz.prog 97=some (true,4):=by kernel_rfl
theorem bAJ:cb0 Tryz.prog 66=true:=by kernel_rfl
theorem bBf:cb0 Tryz.prog 68=true:=by kernel_rfl
theorem aY3:aAC Tryz.prog 86 4=some 4:=by kernel_rfl
theorem aYk:aAC Tryz.prog 86 0=some 0:=by kernel_rfl
theorem aZN:cb0 Tryz.prog 26=true:=by kernel_rfl
theorem bBF:cb0 Tryz.prog 27=true:=by kernel_rfl
theorem bBT:cb0 Tryz.prog 30=true:=by kernel_rfl
theorem bB6:cb0 Tryz.prog 31=true:=by kernel_rfl
theorem bBq:cb0 Tryz.prog 32=true:=by kernel_rfl
theorem bA8:cb0 Tryz.prog 7=true:=by kernel_rfl
theorem bCk:cb0 Tryz.prog 8=true:=by kernel_rfl
theorem bCl:cb0 Tryz.prog 9=true:=by kernel_rfl
theorem aWk:cb0 Tryz.prog 10=true:=by kernel_rfl
theorem aWS:cb0 Tryz.prog 12=true:=by kernel_rfl
theorem bBn:cb0 Tryz.prog 11=true:=by kernel_rfl
theorem aV9:cb0 Tryz.prog 14=true:=by kernel_rfl
theorem aVj:aAC Tryz.prog 165 0=some 0:=by kernel_rfl
theorem aVF:aAC Tryz.prog 165 1=some 1:=by kernel_rfl
theorem aWd:aAC Tryz.prog 165 2=some 2:=by kernel_rfl
theorem aVq:aAC Tryz.prog 165 3=some 3:=by kernel_rfl
theorem bAq:cb0 Tryz.prog 154=true:=by kernel_rfl
theorem aWU:aAC Tryz.prog 165 4=some 4:=by kernel_rfl
theorem aWO:aAC Tryz.prog 118 0=some 0:=by kernel_rfl
theorem aMc:aAC Tryz.prog 118 1=some 1:=by kernel_rfl
theorem aR9:aCm Tryz.prog 116=some (false,1):=by kernel_rfl
theorem aRN:aBA Tryz.prog 116=some 165:=by kernel_rfl
theorem aXO:aCm Tryz.prog 165=some (true,5):=by kernel_rfl
theorem aXW:cb0 Tryz.prog 123=true:=by kernel_rfl
theorem aZ6:cb0 Tryz.prog 124=true:=by kernel_rfl
theorem aV6:aAC Tryz.prog 118 2=some 2:=by kernel_rfl
theorem aW6:aAC Tryz.prog 121 0=some 0:=by kernel_rfl
theorem aWK:aAC Tryz.prog 121 1=some 1:=by kernel_rfl
theorem aWf:aAC Tryz.prog 121 2=some 2:=by kernel_rfl
theorem bAV:cb0 Tryz.prog 125=true:=by kernel_rfl
theorem aWP:aAC Tryz.prog 121 3=some 3:=by kernel_rfl
theorem aVX:aAC Tryz.prog 113 1=some 1:=by kernel_rfl
theorem aMp:aAC Tryz.prog 113 2=some 2:=by kernel_rfl
theorem aRI:aCm Tryz.prog 110=some (false,1):=by kernel_rfl
theorem aRY:aBA Tryz.prog 110=some 118:=by kernel_rfl
theorem aXS:aCm Tryz.prog 118=some (true,3):=by kernel_rfl
theorem bAL:cb0 Tryz.prog 81=true:=by kernel_rfl
theorem aMn:aAC Tryz.prog 113 3=some 3:=by kernel_rfl
theorem aSq:aCm Tryz.prog 111=some (false,1):=by kernel_rfl
theorem aR2:aBA Tryz.prog 111=some 121:=by kernel_rfl
theorem aXv:aCm Tryz.prog 121=some (true,4):=by kernel_rfl
theorem bAT:cb0 Tryz.prog 82=true:=by kernel_rfl
theorem bB3:cb0 Tryz.prog 83=true:=by kernel_rfl
theorem aV7:aAC Tryz.prog 113 4=some 4:=by kernel_rfl
theorem aWb:aAC Tryz.prog 113 0=some 0:=by kernel_rfl
theorem bAa:cb0 Tryz.prog 42=true:=by kernel_rfl
theorem bBG:cb0 Tryz.prog 43=true:=by kernel_rfl
theorem bB4:cb0 Tryz.prog 46=true:=by kernel_rfl
theorem bCc:cb0 Tryz.prog 47=true:=by kernel_rfl
theorem bBK:cb0 Tryz.prog 48=true:=by kernel_rfl
theorem bBb:cb0 Tryz.prog 16=true:=by kernel_rfl
theorem bBM:cb0 Tryz.prog 17=true:=by kernel_rfl
theorem bBP:cb0 Tryz.prog 18=true:=by kernel_rfl
theorem aVZ:aAC Tryz.prog 169 0=some 0:=by kernel_rfl
theorem aVC:aAC Tryz.prog 169 1=some 1:=by kernel_rfl
theorem bAj:cb0 Tryz.prog 180=true:=by kernel_rfl
theorem aWJ:aAC Tryz.prog 169 2=some 2:=by kernel_rfl
theorem aW3:aAC Tryz.prog 171 0=some 0:=by kernel_rfl
theorem aW5:aAC Tryz.prog 171 1=some 1:=by kernel_rfl
theorem bAx:cb0 Tryz.prog 156=true:=by kernel_rfl
theorem aWv:aAC Tryz.prog 171 3=some 5:=by kernel_rfl
theorem aWC:aAC Tryz.prog 171 4=some 6:=by kernel_rfl
theorem aXh:aSF Tryz.prog 137=some (16,5):=by kernel_rfl
theorem bAK:cb0 Tryz.prog 157=true:=by kernel_rfl
theorem aV3:aAC Tryz.prog 171 5=some 22:=by kernel_rfl
theorem aVV:aAC Tryz.prog 131 0=some 0:=by kernel_rfl
theorem aMj:aAC Tryz.prog 131 1=some 1:=by kernel_rfl
theorem aSf:aCm Tryz.prog 129=some (false,1):=by kernel_rfl
theorem aRp:aBA Tryz.prog 129=some 171:=by kernel_rfl
theorem aXK:aCm Tryz.prog 171=some (true,23):=by kernel_rfl
theorem aXi:cb0 Tryz.prog 136=true:=by kernel_rfl
theorem aZV:cb0 Tryz.prog 137=true:=by kernel_rfl
theorem aWT:aAC Tryz.prog 131 2=some 2:=by kernel_rfl
theorem aVx:aAC Tryz.prog 125 1=some 1:=by kernel_rfl
theorem aTC:aCm Tryz.prog 122=some (false,1):=by kernel_rfl
theorem aZo:cb0 Tryz.prog 87=true:=by kernel_rfl
theorem aMu:aAC Tryz.prog 125 4=some 4:=by kernel_rfl
theorem aSj:aCm Tryz.prog 123=some (false,1):=by kernel_rfl
theorem aSv:aBA Tryz.prog 123=some 131:=by kernel_rfl
theorem aXN:aCm Tryz.prog 131=some (true,3):=by kernel_rfl
theorem bAo:cb0 Tryz.prog 88=true:=by kernel_rfl
theorem bBj:cb0 Tryz.prog 89=true:=by kernel_rfl
theorem aWD:aAC Tryz.prog 125 5=some 5:=by kernel_rfl
theorem aVJ:aAC Tryz.prog 125 0=some 0:=by kernel_rfl
theorem bAA:cb0 Tryz.prog 49=true:=by kernel_rfl
theorem bBw:cb0 Tryz.prog 50=true:=by kernel_rfl
theorem bBB:cb0 Tryz.prog 52=true:=by kernel_rfl
theorem bBZ:cb0 Tryz.prog 53=true:=by kernel_rfl
theorem bCd:cb0 Tryz.prog 54=true:=by kernel_rfl
theorem bBL:cb0 Tryz.prog 19=true:=by kernel_rfl
theorem bBE:cb0 Tryz.prog 20=true:=by kernel_rfl
theorem bB8:cb0 Tryz.prog 21=true:=by kernel_rfl
theorem aVO:aAC Tryz.prog 179 0=some 0:=by kernel_rfl
theorem aVH:aAC Tryz.prog 179 1=some 1:=by kernel_rfl
theorem aVE:aAC Tryz.prog 179 2=some 2:=by kernel_rfl
theorem aXP:cb0 Tryz.prog 158=true:=by kernel_rfl
theorem aVw:aAC Tryz.prog 179 4=some 4:=by kernel_rfl
theorem aZ0:cb0 Tryz.prog 159=true:=by kernel_rfl
theorem aVK:aAC Tryz.prog 179 5=some 5:=by kernel_rfl
theorem aWz:aAC Tryz.prog 140 0=some 0:=by kernel_rfl
theorem aWy:aAC Tryz.prog 140 1=some 1:=by kernel_rfl
theorem aVt:aAC Tryz.prog 140 2=some 17:=by kernel_rfl
theorem aVu:aAC Tryz.prog 140 3=some 18:=by kernel_rfl
theorem aVL:aAC Tryz.prog 140 4=some 19:=by kernel_rfl
theorem aMo:aAC Tryz.prog 140 7=some 22:=by kernel_rfl
theorem aR6:aCm Tryz.prog 138=some (false,1):=by kernel_rfl
theorem aRS:aBA Tryz.prog 138=some 179:=by kernel_rfl
theorem aXs:aCm Tryz.prog 179=some (true,6):=by kernel_rfl
theorem aXg:cb0 Tryz.prog 142=true:=by kernel_rfl
theorem bAG:cb0 Tryz.prog 143=true:=by kernel_rfl
theorem aVs:aAC Tryz.prog 140 8=some 23:=by kernel_rfl
theorem aVY:aAC Tryz.prog 134 1=some 1:=by kernel_rfl
theorem aMs:aAC Tryz.prog 134 2=some 2:=by kernel_rfl
theorem aSw:aCm Tryz.prog 132=some (false,1):=by kernel_rfl
theorem aRR:aBA Tryz.prog 132=some 140:=by kernel_rfl
theorem aXG:aCm Tryz.prog 140=some (true,24):=by kernel_rfl
theorem bAy:cb0 Tryz.prog 93=true:=by kernel_rfl
theorem bB1:cb0 Tryz.prog 94=true:=by kernel_rfl
theorem aVR:aAC Tryz.prog 134 3=some 3:=by kernel_rfl
theorem aW2:aAC Tryz.prog 134 0=some 0:=by kernel_rfl
theorem aZZ:cb0 Tryz.prog 55=true:=by kernel_rfl
theorem bBJ:cb0 Tryz.prog 56=true:=by kernel_rfl
theorem bBY:cb0 Tryz.prog 58=true:=by kernel_rfl
theorem bBW:cb0 Tryz.prog 59=true:=by kernel_rfl
theorem bBI:cb0 Tryz.prog 60=true:=by kernel_rfl
theorem bBH:cb0 Tryz.prog 22=true:=by kernel_rfl
theorem bBe:cb0 Tryz.prog 23=true:=by kernel_rfl
theorem bBa:cb0 Tryz.prog 24=true:=by kernel_rfl
end Go.Proofs.YtipgdlbbmlnfiaaGreatDoor
