/- Walks of functions that the seat's laws reach. -/
import Derived.Test.YtipgdlbbmlnfiaaGreatDoorL3
import Derived.Test.YtipgdlbbmlnfiaaGreatDoorRows
import Derived.Test.YtipgdlbbmlnfiaaGreatDoorFa
namespace Go.Proofs.YtipgdlbbmlnfiaaGreatDoor
open Go Go.Mk
def aAg:List Fld:=[.mk 3 0 (-1) (-1) (-1) 0 0 [],.mk 2 0 (-1) (-1) (-1) 0 0 [],.mk 3 0 (-1) (-1) (-1) 0 0 [],.mk 3 0 (-1) (-1) (-1) 0 0 []]
def aAp:List Fld:=[.mk 8 0 (-1) (-1) (-1) 0 0 [],.mk 11 0 (-1) (-1) (-1) 0 10 aAg]
def aAi:List Fld:=[.mk 3 1 (-1) (-1) (-1) 0 0 [],.mk 8 1 (-1) (-1) (-1) 0 0 [],.mk 5 1 (-1) (-1) (-1) 0 0 []]
def aAa:List Fld:=[.mk 2 0 (-1) (-1) (-1) 0 0 [],.mk 11 0 (-1) (-1) (-1) 0 10 aAp,.mk 11 0 (-1) (-1) 0 0 10 aAi]
def aAj:List Fld:=[.mk 3 0 (-1) (-1) (-1) 0 0 [],.mk 2 0 (-1) (-1) (-1) 0 0 [],.mk 3 0 (-1) (-1) (-1) 0 0 [],.mk 3 0 (-1) (-1) (-1) 0 0 []]
def aAs:List Fld:=[.mk 8 0 (-1) (-1) (-1) 0 0 [],.mk 11 0 (-1) (-1) (-1) 0 10 aAj]
def aAl:List Fld:=[.mk 3 1 (-1) (-1) (-1) 0 0 [],.mk 8 1 (-1) (-1) (-1) 0 0 [],.mk 5 1 (-1) (-1) (-1) 0 0 []]
def aAc:List Fld:=[.mk 2 0 (-1) (-1) (-1) 0 0 [],.mk 11 0 (-1) (-1) (-1) 0 10 aAs,.mk 11 0 (-1) (-1) 0 0 10 aAl]
def aAf:List Fld:=[.mk 4 0 (-1) (-1) (-1) 0 0 [],.mk 3 0 (-1) (-1) (-1) 0 0 []]
def aAn:List Fld:=[.mk 3 0 (-1) (-1) (-1) 0 0 [],.mk 3 0 (-1) (-1) (-1) 0 0 [],.mk 10 0 (-1) (-1) (-1) 0 0 aAf,.mk 4 0 (-1) (-1) (-1) 0 0 [],.mk 7 0 (-1) (-1) 0 0 0 []]
def aAv:List Fld:=[.mk 8 0 (-1) (-1) (-1) 0 0 [],.mk 11 0 (-1) (-1) (-1) 0 10 aAn]
def aAd:List Fld:=[.mk 8 0 (-1) 0 0 0 0 [],.mk 3 0 (-1) (-1) (-1) (-1) 0 [],.mk 3 0 (-1) (-1) (-1) 2147483647 0 [],.mk 11 0 (-1) (-1) (-1) 0 10 aAv]
def aAr:List Fld:=[.mk 8 0 (-1) (-1) (-1) 0 0 [],.mk 8 0 (-1) 0 (-1) 0 0 [],.mk 0 0 (-1) (-1) (-1) 0 0 [],.mk 1 0 (-1) (-1) (-1) (-1) 0 [],.mk 0 0 (-1) (-1) (-1) 0 0 []]
def aAw:List Fld:=[.mk 8 0 (-1) (-1) (-1) 0 0 [],.mk 7 7 (-1) (-1) (-1) 0 0 [],.mk 2 0 (-1) (-1) (-1) 0 0 [],.mk 8 1 (-1) 1 (-1) 0 0 [],.mk 2 0 (-1) (-1) 0 0 0 [],.mk 3 5 (-1) (-1) (-1) (-1) 0 [],.mk 2 5 (-1) (-1) (-1) (-1) 0 [],.mk 11 5 (-1) 5 (-1) 0 10 aAr]
def aAe:List Fld:=[.mk 3 2 (-1) (-1) (-1) 0 0 [],.mk 11 0 (-1) (-1) (-1) 0 10 aAw]
end Go.Proofs.YtipgdlbbmlnfiaaGreatDoor
