import PyProof.Rows.All
import Wide.All
import OpenK.KSplit
import OpenK.KNot
import OpenK.KApp
import KE.KPop
import KE.KListMore
import KE.RegKMod
import KE.KDictOf
import KE.KDictMeth
import KE.KEqSeq
import KE.KSlice
import KE.GnPush
import KE.KSorted
import KE.KJoinElse
import KE.RegTryLedger
import KE.KTops
import KE.RegKSuper
import KE.KSort
import KE.KDictLoop
import KE.RegLcTurns
import KE.RegLcAnyAll
import KE.KCat
import KE.KTemps
import KE.KTup
import KE.KxMul
import KE.KxSplit
import KE.KxIndex
import KE.KxText
import KE.KCells
import KE.KPassesOwn
import KE.RegKIsNot
import KE.KTempsTwo
import KE.KSetInts
import KE.KSortedL
import KE.KxBytes
import KE.KClos
import KE.KNestStore
import KE.KOwnIter
import KE.KStopIter
import KE.RegKBase
import KE.KDictOne
import KE.RegKMathG
import KE.KDictAny
import KE.RegKCallOwn
import KE.KSliceW
import KE.KxDecode
import KE.RegKMathGB
import KE.KLam
import KE.KDictBranch
import KE.KTree
import KE.KTreeB
import KE.KNestM
import KE.KDflt
import KE.KOwnIterCall
import KE.KSortedM
import KE.KTurns
import KE.KEqText
import KE.KxLen
import KE.RegKMathGC
import KE.KIsClose
import KE.KEqDict
import KE.KDisp
import KE.KDictAnyGet
import KE.KDictObj
import KE.KSetIn
import KE.KRevSl
import KE.KEqDeep
import KE.KAnyBase
import KE.KBoundM
import KE.KWhile
import KE.KRevIter
import KE.KCount
import KE.KTreeR
import KE.KxStill
import KE.KFinally
import KE.KTopLam
import KE.KWithOwn
import KE.KCases
import KE.KOpsOwn
import KE.KDictNew
import KE.KDictList
import KE.KDictIter
import KE.RegKUnpackStar
import KE.KSortAsk
import KE.KWhileD
import KE.KLcTest
import KE.KSumEnd
import KE.KPopAny
import KE.KGrown
import KE.KItemAt
import KE.KTextLit
import KE.KTupDict
import KE.KFmtOwn
import KE.KUnrMore
import KE.KMinKey
import KE.KTurnsDict
import KE.KExtendNil
import KE.KMethU
import KE.BytesMul
import KE.KCompFold
import KE.KDictSum
import KE.KDictName
import KE.KDictSym
import KE.KTurnsAny
import KE.KDictAnyTail
import KE.RegKStar
import KE.RegKParD
import KE.RegKTupTruth
import KE.RegKTupSum
import KE.KCallJoin
import KE.KMethJoin
import KE.KPathRangeEnd
import KE.KStateW
import KE.RegKParC
import KE.KxWritten
import KE.KxAdd
import KE.KxAffix
import KE.KxField
import KE.RegKIsAll
import KE.RegKMatchCls
import KE.KLcPair
import KE.RegKTryDeep
import KE.KJoinL
import KE.RegKNeg
import KE.KxPercentT
import KE.KBytesCut
import KE.KCellOne
import KE.KCompIf
import KE.KMenu
import KE.KxFormat
import KE.KTypeName
import KE.KCompText
import KE.BytesMulAny
import KE.KDictSymLen
import KE.KSortTup
import KE.KPairAssign
import KE.KTypeOf
import KE.KFinEnd
import KE.KMulAny
import KE.KBytesMenu
import KE.KTextDict
import KE.KPathShort
import KE.KSplitRange
import KE.KKinds
import KE.KxPart
import KE.KRangeItem
import KE.KDictLetter
import KE.KRangeNest
import KE.KSetAt
import KE.KWords
import KE.KxTruthy
import KE.KPairRows
import KE.KBytesMore
import KE.RegKStateDown
import KE.KItemsList
import KE.KRangePlain
import KE.KStateGiven
import KE.KBitsMul
import KE.KTextTable
import KE.KForList
import KE.KIdxIf
import KE.KAssignIn
import KE.KFirstTurn
import KE.KOwnRange
import KE.KLooksOwn
import KE.KDictWord
import KE.KStrOpen
import KE.KTurnsGround
import KE.KListEnd
import KE.KSearch
import KE.KFinFacts
import KE.RegKTryOn
import KE.KCenter
import KE.KStrWords
import KE.KStateTextK
import KE.KBools
import KE.KStateWGiven
import KE.KData
import KE.KCallTup
import KE.KTreeD
import KE.KTreeF
import KE.KEndWord
import KE.KStateBytes
import KE.KRangeEnd
import KE.KOf
import KE.KRepItem
import KE.KListLetter
import KE.KSliceSign
import KE.KCallBy
import KE.KToBytes
import KE.KPathText
import KE.KMinBuiltin
import KE.KFromBytes
import KE.KEqDat
import KE.KBytesUnr
import KE.KIsBytes
import KE.KCallRec
import KE.KEndW
import KE.RegLGe
import KE.RegLGeC
import Wide.FinOn
import Wide.FinOn
import Lean
import PySem.Challenge.RW_im0037_01
open PySem PySem.W PyProof.Rows
set_option compiler.extract_closed false
set_option Elab.async false
set_option maxRecDepth 100000
namespace Mine
section
local macro_rules | `(tactic| o_head $_) => `(tactic| assumption)
set_option maxHeartbeats 8000000 in
theorem hd (h : PySem.Challenge.rw_im0037_01.row.Holds) : PySem.Challenge.rw_im0037_01.row.Holds := by
  k_head
end
noncomputable def hdV : Program := { PySem.Challenge.rw_im0037_01.row.toRowW.prog with main := { PySem.Challenge.rw_im0037_01.row.toRowW.prog.main with body := (PySem.Challenge.rw_im0037_01.row.toRowW.prog.main.body.eraseIdx 11).eraseIdx 1 } }

theorem top_off : True := by
  w_top off
  trivial
theorem xE0A2 {p1 p2 : Prop} {G : Prop} (h : p1 ∧ p2) (f : p1 → p2 → G) : G :=
  f h.1 h.2
theorem xE0A3 {p1 p2 p3 : Prop} {G : Prop} (h : p1 ∧ p2 ∧ p3) (f : p1 → p2 → p3 → G) : G :=
  f h.1 h.2.1 h.2.2
theorem xE0A4 {p1 p2 p3 p4 : Prop} {G : Prop} (h : p1 ∧ p2 ∧ p3 ∧ p4) (f : p1 → p2 → p3 → p4 → G) : G :=
  f h.1 h.2.1 h.2.2.1 h.2.2.2
theorem xE0A5 {p1 p2 p3 p4 p5 : Prop} {G : Prop} (h : p1 ∧ p2 ∧ p3 ∧ p4 ∧ p5) (f : p1 → p2 → p3 → p4 → p5 → G) : G :=
  f h.1 h.2.1 h.2.2.1 h.2.2.2.1 h.2.2.2.2
theorem xE0A6 {p1 p2 p3 p4 p5 p6 : Prop} {G : Prop} (h : p1 ∧ p2 ∧ p3 ∧ p4 ∧ p5 ∧ p6) (f : p1 → p2 → p3 → p4 → p5 → p6 → G) : G :=
  f h.1 h.2.1 h.2.2.1 h.2.2.2.1 h.2.2.2.2.1 h.2.2.2.2.2
theorem xE0A7 {p1 p2 p3 p4 p5 p6 p7 : Prop} {G : Prop} (h : p1 ∧ p2 ∧ p3 ∧ p4 ∧ p5 ∧ p6 ∧ p7) (f : p1 → p2 → p3 → p4 → p5 → p6 → p7 → G) : G :=
  f h.1 h.2.1 h.2.2.1 h.2.2.2.1 h.2.2.2.2.1 h.2.2.2.2.2.1 h.2.2.2.2.2.2
theorem xE0A8 {p1 p2 p3 p4 p5 p6 p7 p8 : Prop} {G : Prop} (h : p1 ∧ p2 ∧ p3 ∧ p4 ∧ p5 ∧ p6 ∧ p7 ∧ p8) (f : p1 → p2 → p3 → p4 → p5 → p6 → p7 → p8 → G) : G :=
  f h.1 h.2.1 h.2.2.1 h.2.2.2.1 h.2.2.2.2.1 h.2.2.2.2.2.1 h.2.2.2.2.2.2.1 h.2.2.2.2.2.2.2
theorem xE1A1 {A : Sort _} {p1 : A → Prop} {G : Prop} (h : ∃ a, p1 a) (f : ∀ a, p1 a → G) : G :=
  Exists.elim h fun a q1 => f a q1
theorem xE1A2 {A : Sort _} {p1 p2 : A → Prop} {G : Prop} (h : ∃ a, p1 a ∧ p2 a) (f : ∀ a, p1 a → p2 a → G) : G :=
  Exists.elim h fun a q1 => f a q1.1 q1.2
theorem xE1A3 {A : Sort _} {p1 p2 p3 : A → Prop} {G : Prop} (h : ∃ a, p1 a ∧ p2 a ∧ p3 a) (f : ∀ a, p1 a → p2 a → p3 a → G) : G :=
  Exists.elim h fun a q1 => f a q1.1 q1.2.1 q1.2.2
theorem xE1A4 {A : Sort _} {p1 p2 p3 p4 : A → Prop} {G : Prop} (h : ∃ a, p1 a ∧ p2 a ∧ p3 a ∧ p4 a) (f : ∀ a, p1 a → p2 a → p3 a → p4 a → G) : G :=
  Exists.elim h fun a q1 => f a q1.1 q1.2.1 q1.2.2.1 q1.2.2.2
theorem xE1A5 {A : Sort _} {p1 p2 p3 p4 p5 : A → Prop} {G : Prop} (h : ∃ a, p1 a ∧ p2 a ∧ p3 a ∧ p4 a ∧ p5 a) (f : ∀ a, p1 a → p2 a → p3 a → p4 a → p5 a → G) : G :=
  Exists.elim h fun a q1 => f a q1.1 q1.2.1 q1.2.2.1 q1.2.2.2.1 q1.2.2.2.2
theorem xE1A6 {A : Sort _} {p1 p2 p3 p4 p5 p6 : A → Prop} {G : Prop} (h : ∃ a, p1 a ∧ p2 a ∧ p3 a ∧ p4 a ∧ p5 a ∧ p6 a) (f : ∀ a, p1 a → p2 a → p3 a → p4 a → p5 a → p6 a → G) : G :=
  Exists.elim h fun a q1 => f a q1.1 q1.2.1 q1.2.2.1 q1.2.2.2.1 q1.2.2.2.2.1 q1.2.2.2.2.2
theorem xE2A1 {A : Sort _} {B : Sort _} {p1 : A → B → Prop} {G : Prop} (h : ∃ a b, p1 a b) (f : ∀ a b, p1 a b → G) : G :=
  Exists.elim h fun a q1 => Exists.elim q1 fun b q2 => f a b q2
theorem xE2A2 {A : Sort _} {B : Sort _} {p1 p2 : A → B → Prop} {G : Prop} (h : ∃ a b, p1 a b ∧ p2 a b) (f : ∀ a b, p1 a b → p2 a b → G) : G :=
  Exists.elim h fun a q1 => Exists.elim q1 fun b q2 => f a b q2.1 q2.2
theorem xE2A3 {A : Sort _} {B : Sort _} {p1 p2 p3 : A → B → Prop} {G : Prop} (h : ∃ a b, p1 a b ∧ p2 a b ∧ p3 a b) (f : ∀ a b, p1 a b → p2 a b → p3 a b → G) : G :=
  Exists.elim h fun a q1 => Exists.elim q1 fun b q2 => f a b q2.1 q2.2.1 q2.2.2
theorem xE2A4 {A : Sort _} {B : Sort _} {p1 p2 p3 p4 : A → B → Prop} {G : Prop} (h : ∃ a b, p1 a b ∧ p2 a b ∧ p3 a b ∧ p4 a b) (f : ∀ a b, p1 a b → p2 a b → p3 a b → p4 a b → G) : G :=
  Exists.elim h fun a q1 => Exists.elim q1 fun b q2 => f a b q2.1 q2.2.1 q2.2.2.1 q2.2.2.2
theorem xE2A5 {A : Sort _} {B : Sort _} {p1 p2 p3 p4 p5 : A → B → Prop} {G : Prop} (h : ∃ a b, p1 a b ∧ p2 a b ∧ p3 a b ∧ p4 a b ∧ p5 a b) (f : ∀ a b, p1 a b → p2 a b → p3 a b → p4 a b → p5 a b → G) : G :=
  Exists.elim h fun a q1 => Exists.elim q1 fun b q2 => f a b q2.1 q2.2.1 q2.2.2.1 q2.2.2.2.1 q2.2.2.2.2
theorem xE2A7 {A : Sort _} {B : Sort _} {p1 p2 p3 p4 p5 p6 p7 : A → B → Prop} {G : Prop} (h : ∃ a b, p1 a b ∧ p2 a b ∧ p3 a b ∧ p4 a b ∧ p5 a b ∧ p6 a b ∧ p7 a b) (f : ∀ a b, p1 a b → p2 a b → p3 a b → p4 a b → p5 a b → p6 a b → p7 a b → G) : G :=
  Exists.elim h fun a q1 => Exists.elim q1 fun b q2 => f a b q2.1 q2.2.1 q2.2.2.1 q2.2.2.2.1 q2.2.2.2.2.1 q2.2.2.2.2.2.1 q2.2.2.2.2.2.2
theorem xE2A9 {A : Sort _} {B : Sort _} {p1 p2 p3 p4 p5 p6 p7 p8 p9 : A → B → Prop} {G : Prop} (h : ∃ a b, p1 a b ∧ p2 a b ∧ p3 a b ∧ p4 a b ∧ p5 a b ∧ p6 a b ∧ p7 a b ∧ p8 a b ∧ p9 a b) (f : ∀ a b, p1 a b → p2 a b → p3 a b → p4 a b → p5 a b → p6 a b → p7 a b → p8 a b → p9 a b → G) : G :=
  Exists.elim h fun a q1 => Exists.elim q1 fun b q2 => f a b q2.1 q2.2.1 q2.2.2.1 q2.2.2.2.1 q2.2.2.2.2.1 q2.2.2.2.2.2.1 q2.2.2.2.2.2.2.1 q2.2.2.2.2.2.2.2.1 q2.2.2.2.2.2.2.2.2
theorem xE3A2 {A : Sort _} {B : Sort _} {C : Sort _} {p1 p2 : A → B → C → Prop} {G : Prop} (h : ∃ a b c, p1 a b c ∧ p2 a b c) (f : ∀ a b c, p1 a b c → p2 a b c → G) : G :=
  Exists.elim h fun a q1 => Exists.elim q1 fun b q2 => Exists.elim q2 fun c q3 => f a b c q3.1 q3.2
theorem xE3A3 {A : Sort _} {B : Sort _} {C : Sort _} {p1 p2 p3 : A → B → C → Prop} {G : Prop} (h : ∃ a b c, p1 a b c ∧ p2 a b c ∧ p3 a b c) (f : ∀ a b c, p1 a b c → p2 a b c → p3 a b c → G) : G :=
  Exists.elim h fun a q1 => Exists.elim q1 fun b q2 => Exists.elim q2 fun c q3 => f a b c q3.1 q3.2.1 q3.2.2
theorem xE3A4 {A : Sort _} {B : Sort _} {C : Sort _} {p1 p2 p3 p4 : A → B → C → Prop} {G : Prop} (h : ∃ a b c, p1 a b c ∧ p2 a b c ∧ p3 a b c ∧ p4 a b c) (f : ∀ a b c, p1 a b c → p2 a b c → p3 a b c → p4 a b c → G) : G :=
  Exists.elim h fun a q1 => Exists.elim q1 fun b q2 => Exists.elim q2 fun c q3 => f a b c q3.1 q3.2.1 q3.2.2.1 q3.2.2.2
theorem xE3A5 {A : Sort _} {B : Sort _} {C : Sort _} {p1 p2 p3 p4 p5 : A → B → C → Prop} {G : Prop} (h : ∃ a b c, p1 a b c ∧ p2 a b c ∧ p3 a b c ∧ p4 a b c ∧ p5 a b c) (f : ∀ a b c, p1 a b c → p2 a b c → p3 a b c → p4 a b c → p5 a b c → G) : G :=
  Exists.elim h fun a q1 => Exists.elim q1 fun b q2 => Exists.elim q2 fun c q3 => f a b c q3.1 q3.2.1 q3.2.2.1 q3.2.2.2.1 q3.2.2.2.2
theorem xE3A7 {A : Sort _} {B : Sort _} {C : Sort _} {p1 p2 p3 p4 p5 p6 p7 : A → B → C → Prop} {G : Prop} (h : ∃ a b c, p1 a b c ∧ p2 a b c ∧ p3 a b c ∧ p4 a b c ∧ p5 a b c ∧ p6 a b c ∧ p7 a b c) (f : ∀ a b c, p1 a b c → p2 a b c → p3 a b c → p4 a b c → p5 a b c → p6 a b c → p7 a b c → G) : G :=
  Exists.elim h fun a q1 => Exists.elim q1 fun b q2 => Exists.elim q2 fun c q3 => f a b c q3.1 q3.2.1 q3.2.2.1 q3.2.2.2.1 q3.2.2.2.2.1 q3.2.2.2.2.2.1 q3.2.2.2.2.2.2
theorem xE3A8 {A : Sort _} {B : Sort _} {C : Sort _} {p1 p2 p3 p4 p5 p6 p7 p8 : A → B → C → Prop} {G : Prop} (h : ∃ a b c, p1 a b c ∧ p2 a b c ∧ p3 a b c ∧ p4 a b c ∧ p5 a b c ∧ p6 a b c ∧ p7 a b c ∧ p8 a b c) (f : ∀ a b c, p1 a b c → p2 a b c → p3 a b c → p4 a b c → p5 a b c → p6 a b c → p7 a b c → p8 a b c → G) : G :=
  Exists.elim h fun a q1 => Exists.elim q1 fun b q2 => Exists.elim q2 fun c q3 => f a b c q3.1 q3.2.1 q3.2.2.1 q3.2.2.2.1 q3.2.2.2.2.1 q3.2.2.2.2.2.1 q3.2.2.2.2.2.2.1 q3.2.2.2.2.2.2.2
theorem xE3A10 {A : Sort _} {B : Sort _} {C : Sort _} {p1 p2 p3 p4 p5 p6 p7 p8 p9 p10 : A → B → C → Prop} {G : Prop} (h : ∃ a b c, p1 a b c ∧ p2 a b c ∧ p3 a b c ∧ p4 a b c ∧ p5 a b c ∧ p6 a b c ∧ p7 a b c ∧ p8 a b c ∧ p9 a b c ∧ p10 a b c) (f : ∀ a b c, p1 a b c → p2 a b c → p3 a b c → p4 a b c → p5 a b c → p6 a b c → p7 a b c → p8 a b c → p9 a b c → p10 a b c → G) : G :=
  Exists.elim h fun a q1 => Exists.elim q1 fun b q2 => Exists.elim q2 fun c q3 => f a b c q3.1 q3.2.1 q3.2.2.1 q3.2.2.2.1 q3.2.2.2.2.1 q3.2.2.2.2.2.1 q3.2.2.2.2.2.2.1 q3.2.2.2.2.2.2.2.1 q3.2.2.2.2.2.2.2.2.1 q3.2.2.2.2.2.2.2.2.2
theorem xE3A12 {A : Sort _} {B : Sort _} {C : Sort _} {p1 p2 p3 p4 p5 p6 p7 p8 p9 p10 p11 p12 : A → B → C → Prop} {G : Prop} (h : ∃ a b c, p1 a b c ∧ p2 a b c ∧ p3 a b c ∧ p4 a b c ∧ p5 a b c ∧ p6 a b c ∧ p7 a b c ∧ p8 a b c ∧ p9 a b c ∧ p10 a b c ∧ p11 a b c ∧ p12 a b c) (f : ∀ a b c, p1 a b c → p2 a b c → p3 a b c → p4 a b c → p5 a b c → p6 a b c → p7 a b c → p8 a b c → p9 a b c → p10 a b c → p11 a b c → p12 a b c → G) : G :=
  Exists.elim h fun a q1 => Exists.elim q1 fun b q2 => Exists.elim q2 fun c q3 => f a b c q3.1 q3.2.1 q3.2.2.1 q3.2.2.2.1 q3.2.2.2.2.1 q3.2.2.2.2.2.1 q3.2.2.2.2.2.2.1 q3.2.2.2.2.2.2.2.1 q3.2.2.2.2.2.2.2.2.1 q3.2.2.2.2.2.2.2.2.2.1 q3.2.2.2.2.2.2.2.2.2.2.1 q3.2.2.2.2.2.2.2.2.2.2.2
theorem xE4A2 {A : Sort _} {B : Sort _} {C : Sort _} {D : Sort _} {p1 p2 : A → B → C → D → Prop} {G : Prop} (h : ∃ a b c d, p1 a b c d ∧ p2 a b c d) (f : ∀ a b c d, p1 a b c d → p2 a b c d → G) : G :=
  Exists.elim h fun a q1 => Exists.elim q1 fun b q2 => Exists.elim q2 fun c q3 => Exists.elim q3 fun d q4 => f a b c d q4.1 q4.2
theorem xE4A4 {A : Sort _} {B : Sort _} {C : Sort _} {D : Sort _} {p1 p2 p3 p4 : A → B → C → D → Prop} {G : Prop} (h : ∃ a b c d, p1 a b c d ∧ p2 a b c d ∧ p3 a b c d ∧ p4 a b c d) (f : ∀ a b c d, p1 a b c d → p2 a b c d → p3 a b c d → p4 a b c d → G) : G :=
  Exists.elim h fun a q1 => Exists.elim q1 fun b q2 => Exists.elim q2 fun c q3 => Exists.elim q3 fun d q4 => f a b c d q4.1 q4.2.1 q4.2.2.1 q4.2.2.2
theorem xE4A5 {A : Sort _} {B : Sort _} {C : Sort _} {D : Sort _} {p1 p2 p3 p4 p5 : A → B → C → D → Prop} {G : Prop} (h : ∃ a b c d, p1 a b c d ∧ p2 a b c d ∧ p3 a b c d ∧ p4 a b c d ∧ p5 a b c d) (f : ∀ a b c d, p1 a b c d → p2 a b c d → p3 a b c d → p4 a b c d → p5 a b c d → G) : G :=
  Exists.elim h fun a q1 => Exists.elim q1 fun b q2 => Exists.elim q2 fun c q3 => Exists.elim q3 fun d q4 => f a b c d q4.1 q4.2.1 q4.2.2.1 q4.2.2.2.1 q4.2.2.2.2
theorem xE4A6 {A : Sort _} {B : Sort _} {C : Sort _} {D : Sort _} {p1 p2 p3 p4 p5 p6 : A → B → C → D → Prop} {G : Prop} (h : ∃ a b c d, p1 a b c d ∧ p2 a b c d ∧ p3 a b c d ∧ p4 a b c d ∧ p5 a b c d ∧ p6 a b c d) (f : ∀ a b c d, p1 a b c d → p2 a b c d → p3 a b c d → p4 a b c d → p5 a b c d → p6 a b c d → G) : G :=
  Exists.elim h fun a q1 => Exists.elim q1 fun b q2 => Exists.elim q2 fun c q3 => Exists.elim q3 fun d q4 => f a b c d q4.1 q4.2.1 q4.2.2.1 q4.2.2.2.1 q4.2.2.2.2.1 q4.2.2.2.2.2
theorem xE4A12 {A : Sort _} {B : Sort _} {C : Sort _} {D : Sort _} {p1 p2 p3 p4 p5 p6 p7 p8 p9 p10 p11 p12 : A → B → C → D → Prop} {G : Prop} (h : ∃ a b c d, p1 a b c d ∧ p2 a b c d ∧ p3 a b c d ∧ p4 a b c d ∧ p5 a b c d ∧ p6 a b c d ∧ p7 a b c d ∧ p8 a b c d ∧ p9 a b c d ∧ p10 a b c d ∧ p11 a b c d ∧ p12 a b c d) (f : ∀ a b c d, p1 a b c d → p2 a b c d → p3 a b c d → p4 a b c d → p5 a b c d → p6 a b c d → p7 a b c d → p8 a b c d → p9 a b c d → p10 a b c d → p11 a b c d → p12 a b c d → G) : G :=
  Exists.elim h fun a q1 => Exists.elim q1 fun b q2 => Exists.elim q2 fun c q3 => Exists.elim q3 fun d q4 => f a b c d q4.1 q4.2.1 q4.2.2.1 q4.2.2.2.1 q4.2.2.2.2.1 q4.2.2.2.2.2.1 q4.2.2.2.2.2.2.1 q4.2.2.2.2.2.2.2.1 q4.2.2.2.2.2.2.2.2.1 q4.2.2.2.2.2.2.2.2.2.1 q4.2.2.2.2.2.2.2.2.2.2.1 q4.2.2.2.2.2.2.2.2.2.2.2
theorem xE5A2 {A : Sort _} {B : Sort _} {C : Sort _} {D : Sort _} {E : Sort _} {p1 p2 : A → B → C → D → E → Prop} {G : Prop} (h : ∃ a b c d e, p1 a b c d e ∧ p2 a b c d e) (f : ∀ a b c d e, p1 a b c d e → p2 a b c d e → G) : G :=
  Exists.elim h fun a q1 => Exists.elim q1 fun b q2 => Exists.elim q2 fun c q3 => Exists.elim q3 fun d q4 => Exists.elim q4 fun e q5 => f a b c d e q5.1 q5.2
theorem xE5A4 {A : Sort _} {B : Sort _} {C : Sort _} {D : Sort _} {E : Sort _} {p1 p2 p3 p4 : A → B → C → D → E → Prop} {G : Prop} (h : ∃ a b c d e, p1 a b c d e ∧ p2 a b c d e ∧ p3 a b c d e ∧ p4 a b c d e) (f : ∀ a b c d e, p1 a b c d e → p2 a b c d e → p3 a b c d e → p4 a b c d e → G) : G :=
  Exists.elim h fun a q1 => Exists.elim q1 fun b q2 => Exists.elim q2 fun c q3 => Exists.elim q3 fun d q4 => Exists.elim q4 fun e q5 => f a b c d e q5.1 q5.2.1 q5.2.2.1 q5.2.2.2
theorem xE5A5 {A : Sort _} {B : Sort _} {C : Sort _} {D : Sort _} {E : Sort _} {p1 p2 p3 p4 p5 : A → B → C → D → E → Prop} {G : Prop} (h : ∃ a b c d e, p1 a b c d e ∧ p2 a b c d e ∧ p3 a b c d e ∧ p4 a b c d e ∧ p5 a b c d e) (f : ∀ a b c d e, p1 a b c d e → p2 a b c d e → p3 a b c d e → p4 a b c d e → p5 a b c d e → G) : G :=
  Exists.elim h fun a q1 => Exists.elim q1 fun b q2 => Exists.elim q2 fun c q3 => Exists.elim q3 fun d q4 => Exists.elim q4 fun e q5 => f a b c d e q5.1 q5.2.1 q5.2.2.1 q5.2.2.2.1 q5.2.2.2.2
theorem xE5A6 {A : Sort _} {B : Sort _} {C : Sort _} {D : Sort _} {E : Sort _} {p1 p2 p3 p4 p5 p6 : A → B → C → D → E → Prop} {G : Prop} (h : ∃ a b c d e, p1 a b c d e ∧ p2 a b c d e ∧ p3 a b c d e ∧ p4 a b c d e ∧ p5 a b c d e ∧ p6 a b c d e) (f : ∀ a b c d e, p1 a b c d e → p2 a b c d e → p3 a b c d e → p4 a b c d e → p5 a b c d e → p6 a b c d e → G) : G :=
  Exists.elim h fun a q1 => Exists.elim q1 fun b q2 => Exists.elim q2 fun c q3 => Exists.elim q3 fun d q4 => Exists.elim q4 fun e q5 => f a b c d e q5.1 q5.2.1 q5.2.2.1 q5.2.2.2.1 q5.2.2.2.2.1 q5.2.2.2.2.2
theorem xE5A9 {A : Sort _} {B : Sort _} {C : Sort _} {D : Sort _} {E : Sort _} {p1 p2 p3 p4 p5 p6 p7 p8 p9 : A → B → C → D → E → Prop} {G : Prop} (h : ∃ a b c d e, p1 a b c d e ∧ p2 a b c d e ∧ p3 a b c d e ∧ p4 a b c d e ∧ p5 a b c d e ∧ p6 a b c d e ∧ p7 a b c d e ∧ p8 a b c d e ∧ p9 a b c d e) (f : ∀ a b c d e, p1 a b c d e → p2 a b c d e → p3 a b c d e → p4 a b c d e → p5 a b c d e → p6 a b c d e → p7 a b c d e → p8 a b c d e → p9 a b c d e → G) : G :=
  Exists.elim h fun a q1 => Exists.elim q1 fun b q2 => Exists.elim q2 fun c q3 => Exists.elim q3 fun d q4 => Exists.elim q4 fun e q5 => f a b c d e q5.1 q5.2.1 q5.2.2.1 q5.2.2.2.1 q5.2.2.2.2.1 q5.2.2.2.2.2.1 q5.2.2.2.2.2.2.1 q5.2.2.2.2.2.2.2.1 q5.2.2.2.2.2.2.2.2
theorem xE5A14 {A : Sort _} {B : Sort _} {C : Sort _} {D : Sort _} {E : Sort _} {p1 p2 p3 p4 p5 p6 p7 p8 p9 p10 p11 p12 p13 p14 : A → B → C → D → E → Prop} {G : Prop} (h : ∃ a b c d e, p1 a b c d e ∧ p2 a b c d e ∧ p3 a b c d e ∧ p4 a b c d e ∧ p5 a b c d e ∧ p6 a b c d e ∧ p7 a b c d e ∧ p8 a b c d e ∧ p9 a b c d e ∧ p10 a b c d e ∧ p11 a b c d e ∧ p12 a b c d e ∧ p13 a b c d e ∧ p14 a b c d e) (f : ∀ a b c d e, p1 a b c d e → p2 a b c d e → p3 a b c d e → p4 a b c d e → p5 a b c d e → p6 a b c d e → p7 a b c d e → p8 a b c d e → p9 a b c d e → p10 a b c d e → p11 a b c d e → p12 a b c d e → p13 a b c d e → p14 a b c d e → G) : G :=
  Exists.elim h fun a q1 => Exists.elim q1 fun b q2 => Exists.elim q2 fun c q3 => Exists.elim q3 fun d q4 => Exists.elim q4 fun e q5 => f a b c d e q5.1 q5.2.1 q5.2.2.1 q5.2.2.2.1 q5.2.2.2.2.1 q5.2.2.2.2.2.1 q5.2.2.2.2.2.2.1 q5.2.2.2.2.2.2.2.1 q5.2.2.2.2.2.2.2.2.1 q5.2.2.2.2.2.2.2.2.2.1 q5.2.2.2.2.2.2.2.2.2.2.1 q5.2.2.2.2.2.2.2.2.2.2.2.1 q5.2.2.2.2.2.2.2.2.2.2.2.2.1 q5.2.2.2.2.2.2.2.2.2.2.2.2.2
theorem xE6A6 {A : Sort _} {B : Sort _} {C : Sort _} {D : Sort _} {E : Sort _} {I : Sort _} {p1 p2 p3 p4 p5 p6 : A → B → C → D → E → I → Prop} {G : Prop} (h : ∃ a b c d e i, p1 a b c d e i ∧ p2 a b c d e i ∧ p3 a b c d e i ∧ p4 a b c d e i ∧ p5 a b c d e i ∧ p6 a b c d e i) (f : ∀ a b c d e i, p1 a b c d e i → p2 a b c d e i → p3 a b c d e i → p4 a b c d e i → p5 a b c d e i → p6 a b c d e i → G) : G :=
  Exists.elim h fun a q1 => Exists.elim q1 fun b q2 => Exists.elim q2 fun c q3 => Exists.elim q3 fun d q4 => Exists.elim q4 fun e q5 => Exists.elim q5 fun i q6 => f a b c d e i q6.1 q6.2.1 q6.2.2.1 q6.2.2.2.1 q6.2.2.2.2.1 q6.2.2.2.2.2
theorem xE6A7 {A : Sort _} {B : Sort _} {C : Sort _} {D : Sort _} {E : Sort _} {I : Sort _} {p1 p2 p3 p4 p5 p6 p7 : A → B → C → D → E → I → Prop} {G : Prop} (h : ∃ a b c d e i, p1 a b c d e i ∧ p2 a b c d e i ∧ p3 a b c d e i ∧ p4 a b c d e i ∧ p5 a b c d e i ∧ p6 a b c d e i ∧ p7 a b c d e i) (f : ∀ a b c d e i, p1 a b c d e i → p2 a b c d e i → p3 a b c d e i → p4 a b c d e i → p5 a b c d e i → p6 a b c d e i → p7 a b c d e i → G) : G :=
  Exists.elim h fun a q1 => Exists.elim q1 fun b q2 => Exists.elim q2 fun c q3 => Exists.elim q3 fun d q4 => Exists.elim q4 fun e q5 => Exists.elim q5 fun i q6 => f a b c d e i q6.1 q6.2.1 q6.2.2.1 q6.2.2.2.1 q6.2.2.2.2.1 q6.2.2.2.2.2.1 q6.2.2.2.2.2.2
theorem xE6A10 {A : Sort _} {B : Sort _} {C : Sort _} {D : Sort _} {E : Sort _} {I : Sort _} {p1 p2 p3 p4 p5 p6 p7 p8 p9 p10 : A → B → C → D → E → I → Prop} {G : Prop} (h : ∃ a b c d e i, p1 a b c d e i ∧ p2 a b c d e i ∧ p3 a b c d e i ∧ p4 a b c d e i ∧ p5 a b c d e i ∧ p6 a b c d e i ∧ p7 a b c d e i ∧ p8 a b c d e i ∧ p9 a b c d e i ∧ p10 a b c d e i) (f : ∀ a b c d e i, p1 a b c d e i → p2 a b c d e i → p3 a b c d e i → p4 a b c d e i → p5 a b c d e i → p6 a b c d e i → p7 a b c d e i → p8 a b c d e i → p9 a b c d e i → p10 a b c d e i → G) : G :=
  Exists.elim h fun a q1 => Exists.elim q1 fun b q2 => Exists.elim q2 fun c q3 => Exists.elim q3 fun d q4 => Exists.elim q4 fun e q5 => Exists.elim q5 fun i q6 => f a b c d e i q6.1 q6.2.1 q6.2.2.1 q6.2.2.2.1 q6.2.2.2.2.1 q6.2.2.2.2.2.1 q6.2.2.2.2.2.2.1 q6.2.2.2.2.2.2.2.1 q6.2.2.2.2.2.2.2.2.1 q6.2.2.2.2.2.2.2.2.2
theorem xE7A6 {A : Sort _} {B : Sort _} {C : Sort _} {D : Sort _} {E : Sort _} {I : Sort _} {J : Sort _} {p1 p2 p3 p4 p5 p6 : A → B → C → D → E → I → J → Prop} {G : Prop} (h : ∃ a b c d e i j, p1 a b c d e i j ∧ p2 a b c d e i j ∧ p3 a b c d e i j ∧ p4 a b c d e i j ∧ p5 a b c d e i j ∧ p6 a b c d e i j) (f : ∀ a b c d e i j, p1 a b c d e i j → p2 a b c d e i j → p3 a b c d e i j → p4 a b c d e i j → p5 a b c d e i j → p6 a b c d e i j → G) : G :=
  Exists.elim h fun a q1 => Exists.elim q1 fun b q2 => Exists.elim q2 fun c q3 => Exists.elim q3 fun d q4 => Exists.elim q4 fun e q5 => Exists.elim q5 fun i q6 => Exists.elim q6 fun j q7 => f a b c d e i j q7.1 q7.2.1 q7.2.2.1 q7.2.2.2.1 q7.2.2.2.2.1 q7.2.2.2.2.2
theorem xE8A1 {A : Sort _} {B : Sort _} {C : Sort _} {D : Sort _} {E : Sort _} {I : Sort _} {J : Sort _} {K : Sort _} {p1 : A → B → C → D → E → I → J → K → Prop} {G : Prop} (h : ∃ a b c d e i j k, p1 a b c d e i j k) (f : ∀ a b c d e i j k, p1 a b c d e i j k → G) : G :=
  Exists.elim h fun a q1 => Exists.elim q1 fun b q2 => Exists.elim q2 fun c q3 => Exists.elim q3 fun d q4 => Exists.elim q4 fun e q5 => Exists.elim q5 fun i q6 => Exists.elim q6 fun j q7 => Exists.elim q7 fun k q8 => f a b c d e i j k q8
theorem xE8A11 {A : Sort _} {B : Sort _} {C : Sort _} {D : Sort _} {E : Sort _} {I : Sort _} {J : Sort _} {K : Sort _} {p1 p2 p3 p4 p5 p6 p7 p8 p9 p10 p11 : A → B → C → D → E → I → J → K → Prop} {G : Prop} (h : ∃ a b c d e i j k, p1 a b c d e i j k ∧ p2 a b c d e i j k ∧ p3 a b c d e i j k ∧ p4 a b c d e i j k ∧ p5 a b c d e i j k ∧ p6 a b c d e i j k ∧ p7 a b c d e i j k ∧ p8 a b c d e i j k ∧ p9 a b c d e i j k ∧ p10 a b c d e i j k ∧ p11 a b c d e i j k) (f : ∀ a b c d e i j k, p1 a b c d e i j k → p2 a b c d e i j k → p3 a b c d e i j k → p4 a b c d e i j k → p5 a b c d e i j k → p6 a b c d e i j k → p7 a b c d e i j k → p8 a b c d e i j k → p9 a b c d e i j k → p10 a b c d e i j k → p11 a b c d e i j k → G) : G :=
  Exists.elim h fun a q1 => Exists.elim q1 fun b q2 => Exists.elim q2 fun c q3 => Exists.elim q3 fun d q4 => Exists.elim q4 fun e q5 => Exists.elim q5 fun i q6 => Exists.elim q6 fun j q7 => Exists.elim q7 fun k q8 => f a b c d e i j k q8.1 q8.2.1 q8.2.2.1 q8.2.2.2.1 q8.2.2.2.2.1 q8.2.2.2.2.2.1 q8.2.2.2.2.2.2.1 q8.2.2.2.2.2.2.2.1 q8.2.2.2.2.2.2.2.2.1 q8.2.2.2.2.2.2.2.2.2.1 q8.2.2.2.2.2.2.2.2.2.2
theorem xO2 {p1 p2 G : Prop} (h : p1 ∨ p2) (f1 : p1 → G) (f2 : p2 → G) : G :=
  h.elim f1 f2
theorem xO3 {p1 p2 p3 G : Prop} (h : p1 ∨ p2 ∨ p3) (f1 : p1 → G) (f2 : p2 → G) (f3 : p3 → G) : G :=
  h.elim f1 (fun h => h.elim f2 f3)
theorem xO4 {p1 p2 p3 p4 G : Prop} (h : p1 ∨ p2 ∨ p3 ∨ p4) (f1 : p1 → G) (f2 : p2 → G) (f3 : p3 → G) (f4 : p4 → G) : G :=
  h.elim f1 (fun h => h.elim f2 (fun h => h.elim f3 f4))
theorem xO5 {p1 p2 p3 p4 p5 G : Prop} (h : p1 ∨ p2 ∨ p3 ∨ p4 ∨ p5) (f1 : p1 → G) (f2 : p2 → G) (f3 : p3 → G) (f4 : p4 → G) (f5 : p5 → G) : G :=
  h.elim f1 (fun h => h.elim f2 (fun h => h.elim f3 (fun h => h.elim f4 f5)))
theorem xO6 {p1 p2 p3 p4 p5 p6 G : Prop} (h : p1 ∨ p2 ∨ p3 ∨ p4 ∨ p5 ∨ p6) (f1 : p1 → G) (f2 : p2 → G) (f3 : p3 → G) (f4 : p4 → G) (f5 : p5 → G) (f6 : p6 → G) : G :=
  h.elim f1 (fun h => h.elim f2 (fun h => h.elim f3 (fun h => h.elim f4 (fun h => h.elim f5 f6))))
theorem xO8 {p1 p2 p3 p4 p5 p6 p7 p8 G : Prop} (h : p1 ∨ p2 ∨ p3 ∨ p4 ∨ p5 ∨ p6 ∨ p7 ∨ p8) (f1 : p1 → G) (f2 : p2 → G) (f3 : p3 → G) (f4 : p4 → G) (f5 : p5 → G) (f6 : p6 → G) (f7 : p7 → G) (f8 : p8 → G) : G :=
  h.elim f1 (fun h => h.elim f2 (fun h => h.elim f3 (fun h => h.elim f4 (fun h => h.elim f5 (fun h => h.elim f6 (fun h => h.elim f7 f8))))))
theorem xO10 {p1 p2 p3 p4 p5 p6 p7 p8 p9 p10 G : Prop} (h : p1 ∨ p2 ∨ p3 ∨ p4 ∨ p5 ∨ p6 ∨ p7 ∨ p8 ∨ p9 ∨ p10) (f1 : p1 → G) (f2 : p2 → G) (f3 : p3 → G) (f4 : p4 → G) (f5 : p5 → G) (f6 : p6 → G) (f7 : p7 → G) (f8 : p8 → G) (f9 : p9 → G) (f10 : p10 → G) : G :=
  h.elim f1 (fun h => h.elim f2 (fun h => h.elim f3 (fun h => h.elim f4 (fun h => h.elim f5 (fun h => h.elim f6 (fun h => h.elim f7 (fun h => h.elim f8 (fun h => h.elim f9 f10))))))))
theorem yE0A2 {p1 p2 : Prop} (h1 : p1) (h2 : p2) : p1 ∧ p2 := ⟨h1, h2⟩
theorem yE0A3 {p1 p2 p3 : Prop} (h1 : p1) (h2 : p2) (h3 : p3) : p1 ∧ p2 ∧ p3 := ⟨h1, h2, h3⟩
theorem yE0A4 {p1 p2 p3 p4 : Prop} (h1 : p1) (h2 : p2) (h3 : p3) (h4 : p4) : p1 ∧ p2 ∧ p3 ∧ p4 := ⟨h1, h2, h3, h4⟩
theorem yE0A7 {p1 p2 p3 p4 p5 p6 p7 : Prop} (h1 : p1) (h2 : p2) (h3 : p3) (h4 : p4) (h5 : p5) (h6 : p6) (h7 : p7) : p1 ∧ p2 ∧ p3 ∧ p4 ∧ p5 ∧ p6 ∧ p7 := ⟨h1, h2, h3, h4, h5, h6, h7⟩
theorem yE1A1 {A : Sort _} {p1 : A → Prop} (a : A) (h1 : p1 a) : ∃ a, p1 a := ⟨a, h1⟩
theorem yE1A2 {A : Sort _} {p1 p2 : A → Prop} (a : A) (h1 : p1 a) (h2 : p2 a) : ∃ a, p1 a ∧ p2 a := ⟨a, h1, h2⟩
theorem yE1A3 {A : Sort _} {p1 p2 p3 : A → Prop} (a : A) (h1 : p1 a) (h2 : p2 a) (h3 : p3 a) : ∃ a, p1 a ∧ p2 a ∧ p3 a := ⟨a, h1, h2, h3⟩
theorem yE1A4 {A : Sort _} {p1 p2 p3 p4 : A → Prop} (a : A) (h1 : p1 a) (h2 : p2 a) (h3 : p3 a) (h4 : p4 a) : ∃ a, p1 a ∧ p2 a ∧ p3 a ∧ p4 a := ⟨a, h1, h2, h3, h4⟩
theorem yE2A2 {A : Sort _} {B : Sort _} {p1 p2 : A → B → Prop} (a : A) (b : B) (h1 : p1 a b) (h2 : p2 a b) : ∃ a b, p1 a b ∧ p2 a b := ⟨a, b, h1, h2⟩
theorem yE2A3 {A : Sort _} {B : Sort _} {p1 p2 p3 : A → B → Prop} (a : A) (b : B) (h1 : p1 a b) (h2 : p2 a b) (h3 : p3 a b) : ∃ a b, p1 a b ∧ p2 a b ∧ p3 a b := ⟨a, b, h1, h2, h3⟩
theorem yE2A4 {A : Sort _} {B : Sort _} {p1 p2 p3 p4 : A → B → Prop} (a : A) (b : B) (h1 : p1 a b) (h2 : p2 a b) (h3 : p3 a b) (h4 : p4 a b) : ∃ a b, p1 a b ∧ p2 a b ∧ p3 a b ∧ p4 a b := ⟨a, b, h1, h2, h3, h4⟩
theorem yE2A5 {A : Sort _} {B : Sort _} {p1 p2 p3 p4 p5 : A → B → Prop} (a : A) (b : B) (h1 : p1 a b) (h2 : p2 a b) (h3 : p3 a b) (h4 : p4 a b) (h5 : p5 a b) : ∃ a b, p1 a b ∧ p2 a b ∧ p3 a b ∧ p4 a b ∧ p5 a b := ⟨a, b, h1, h2, h3, h4, h5⟩
theorem yE2A9 {A : Sort _} {B : Sort _} {p1 p2 p3 p4 p5 p6 p7 p8 p9 : A → B → Prop} (a : A) (b : B) (h1 : p1 a b) (h2 : p2 a b) (h3 : p3 a b) (h4 : p4 a b) (h5 : p5 a b) (h6 : p6 a b) (h7 : p7 a b) (h8 : p8 a b) (h9 : p9 a b) : ∃ a b, p1 a b ∧ p2 a b ∧ p3 a b ∧ p4 a b ∧ p5 a b ∧ p6 a b ∧ p7 a b ∧ p8 a b ∧ p9 a b := ⟨a, b, h1, h2, h3, h4, h5, h6, h7, h8, h9⟩
theorem yE3A2 {A : Sort _} {B : Sort _} {C : Sort _} {p1 p2 : A → B → C → Prop} (a : A) (b : B) (c : C) (h1 : p1 a b c) (h2 : p2 a b c) : ∃ a b c, p1 a b c ∧ p2 a b c := ⟨a, b, c, h1, h2⟩
theorem yE3A3 {A : Sort _} {B : Sort _} {C : Sort _} {p1 p2 p3 : A → B → C → Prop} (a : A) (b : B) (c : C) (h1 : p1 a b c) (h2 : p2 a b c) (h3 : p3 a b c) : ∃ a b c, p1 a b c ∧ p2 a b c ∧ p3 a b c := ⟨a, b, c, h1, h2, h3⟩
theorem yE3A4 {A : Sort _} {B : Sort _} {C : Sort _} {p1 p2 p3 p4 : A → B → C → Prop} (a : A) (b : B) (c : C) (h1 : p1 a b c) (h2 : p2 a b c) (h3 : p3 a b c) (h4 : p4 a b c) : ∃ a b c, p1 a b c ∧ p2 a b c ∧ p3 a b c ∧ p4 a b c := ⟨a, b, c, h1, h2, h3, h4⟩
theorem yE3A5 {A : Sort _} {B : Sort _} {C : Sort _} {p1 p2 p3 p4 p5 : A → B → C → Prop} (a : A) (b : B) (c : C) (h1 : p1 a b c) (h2 : p2 a b c) (h3 : p3 a b c) (h4 : p4 a b c) (h5 : p5 a b c) : ∃ a b c, p1 a b c ∧ p2 a b c ∧ p3 a b c ∧ p4 a b c ∧ p5 a b c := ⟨a, b, c, h1, h2, h3, h4, h5⟩
theorem yE3A6 {A : Sort _} {B : Sort _} {C : Sort _} {p1 p2 p3 p4 p5 p6 : A → B → C → Prop} (a : A) (b : B) (c : C) (h1 : p1 a b c) (h2 : p2 a b c) (h3 : p3 a b c) (h4 : p4 a b c) (h5 : p5 a b c) (h6 : p6 a b c) : ∃ a b c, p1 a b c ∧ p2 a b c ∧ p3 a b c ∧ p4 a b c ∧ p5 a b c ∧ p6 a b c := ⟨a, b, c, h1, h2, h3, h4, h5, h6⟩
theorem yE3A7 {A : Sort _} {B : Sort _} {C : Sort _} {p1 p2 p3 p4 p5 p6 p7 : A → B → C → Prop} (a : A) (b : B) (c : C) (h1 : p1 a b c) (h2 : p2 a b c) (h3 : p3 a b c) (h4 : p4 a b c) (h5 : p5 a b c) (h6 : p6 a b c) (h7 : p7 a b c) : ∃ a b c, p1 a b c ∧ p2 a b c ∧ p3 a b c ∧ p4 a b c ∧ p5 a b c ∧ p6 a b c ∧ p7 a b c := ⟨a, b, c, h1, h2, h3, h4, h5, h6, h7⟩
theorem yE3A10 {A : Sort _} {B : Sort _} {C : Sort _} {p1 p2 p3 p4 p5 p6 p7 p8 p9 p10 : A → B → C → Prop} (a : A) (b : B) (c : C) (h1 : p1 a b c) (h2 : p2 a b c) (h3 : p3 a b c) (h4 : p4 a b c) (h5 : p5 a b c) (h6 : p6 a b c) (h7 : p7 a b c) (h8 : p8 a b c) (h9 : p9 a b c) (h10 : p10 a b c) : ∃ a b c, p1 a b c ∧ p2 a b c ∧ p3 a b c ∧ p4 a b c ∧ p5 a b c ∧ p6 a b c ∧ p7 a b c ∧ p8 a b c ∧ p9 a b c ∧ p10 a b c := ⟨a, b, c, h1, h2, h3, h4, h5, h6, h7, h8, h9, h10⟩
theorem yE3A12 {A : Sort _} {B : Sort _} {C : Sort _} {p1 p2 p3 p4 p5 p6 p7 p8 p9 p10 p11 p12 : A → B → C → Prop} (a : A) (b : B) (c : C) (h1 : p1 a b c) (h2 : p2 a b c) (h3 : p3 a b c) (h4 : p4 a b c) (h5 : p5 a b c) (h6 : p6 a b c) (h7 : p7 a b c) (h8 : p8 a b c) (h9 : p9 a b c) (h10 : p10 a b c) (h11 : p11 a b c) (h12 : p12 a b c) : ∃ a b c, p1 a b c ∧ p2 a b c ∧ p3 a b c ∧ p4 a b c ∧ p5 a b c ∧ p6 a b c ∧ p7 a b c ∧ p8 a b c ∧ p9 a b c ∧ p10 a b c ∧ p11 a b c ∧ p12 a b c := ⟨a, b, c, h1, h2, h3, h4, h5, h6, h7, h8, h9, h10, h11, h12⟩
theorem yE4A2 {A : Sort _} {B : Sort _} {C : Sort _} {D : Sort _} {p1 p2 : A → B → C → D → Prop} (a : A) (b : B) (c : C) (d : D) (h1 : p1 a b c d) (h2 : p2 a b c d) : ∃ a b c d, p1 a b c d ∧ p2 a b c d := ⟨a, b, c, d, h1, h2⟩
theorem yE4A4 {A : Sort _} {B : Sort _} {C : Sort _} {D : Sort _} {p1 p2 p3 p4 : A → B → C → D → Prop} (a : A) (b : B) (c : C) (d : D) (h1 : p1 a b c d) (h2 : p2 a b c d) (h3 : p3 a b c d) (h4 : p4 a b c d) : ∃ a b c d, p1 a b c d ∧ p2 a b c d ∧ p3 a b c d ∧ p4 a b c d := ⟨a, b, c, d, h1, h2, h3, h4⟩
theorem yE4A5 {A : Sort _} {B : Sort _} {C : Sort _} {D : Sort _} {p1 p2 p3 p4 p5 : A → B → C → D → Prop} (a : A) (b : B) (c : C) (d : D) (h1 : p1 a b c d) (h2 : p2 a b c d) (h3 : p3 a b c d) (h4 : p4 a b c d) (h5 : p5 a b c d) : ∃ a b c d, p1 a b c d ∧ p2 a b c d ∧ p3 a b c d ∧ p4 a b c d ∧ p5 a b c d := ⟨a, b, c, d, h1, h2, h3, h4, h5⟩
theorem yE4A6 {A : Sort _} {B : Sort _} {C : Sort _} {D : Sort _} {p1 p2 p3 p4 p5 p6 : A → B → C → D → Prop} (a : A) (b : B) (c : C) (d : D) (h1 : p1 a b c d) (h2 : p2 a b c d) (h3 : p3 a b c d) (h4 : p4 a b c d) (h5 : p5 a b c d) (h6 : p6 a b c d) : ∃ a b c d, p1 a b c d ∧ p2 a b c d ∧ p3 a b c d ∧ p4 a b c d ∧ p5 a b c d ∧ p6 a b c d := ⟨a, b, c, d, h1, h2, h3, h4, h5, h6⟩
theorem yE4A7 {A : Sort _} {B : Sort _} {C : Sort _} {D : Sort _} {p1 p2 p3 p4 p5 p6 p7 : A → B → C → D → Prop} (a : A) (b : B) (c : C) (d : D) (h1 : p1 a b c d) (h2 : p2 a b c d) (h3 : p3 a b c d) (h4 : p4 a b c d) (h5 : p5 a b c d) (h6 : p6 a b c d) (h7 : p7 a b c d) : ∃ a b c d, p1 a b c d ∧ p2 a b c d ∧ p3 a b c d ∧ p4 a b c d ∧ p5 a b c d ∧ p6 a b c d ∧ p7 a b c d := ⟨a, b, c, d, h1, h2, h3, h4, h5, h6, h7⟩
theorem yE5A6 {A : Sort _} {B : Sort _} {C : Sort _} {D : Sort _} {E : Sort _} {p1 p2 p3 p4 p5 p6 : A → B → C → D → E → Prop} (a : A) (b : B) (c : C) (d : D) (e : E) (h1 : p1 a b c d e) (h2 : p2 a b c d e) (h3 : p3 a b c d e) (h4 : p4 a b c d e) (h5 : p5 a b c d e) (h6 : p6 a b c d e) : ∃ a b c d e, p1 a b c d e ∧ p2 a b c d e ∧ p3 a b c d e ∧ p4 a b c d e ∧ p5 a b c d e ∧ p6 a b c d e := ⟨a, b, c, d, e, h1, h2, h3, h4, h5, h6⟩
theorem yE5A8 {A : Sort _} {B : Sort _} {C : Sort _} {D : Sort _} {E : Sort _} {p1 p2 p3 p4 p5 p6 p7 p8 : A → B → C → D → E → Prop} (a : A) (b : B) (c : C) (d : D) (e : E) (h1 : p1 a b c d e) (h2 : p2 a b c d e) (h3 : p3 a b c d e) (h4 : p4 a b c d e) (h5 : p5 a b c d e) (h6 : p6 a b c d e) (h7 : p7 a b c d e) (h8 : p8 a b c d e) : ∃ a b c d e, p1 a b c d e ∧ p2 a b c d e ∧ p3 a b c d e ∧ p4 a b c d e ∧ p5 a b c d e ∧ p6 a b c d e ∧ p7 a b c d e ∧ p8 a b c d e := ⟨a, b, c, d, e, h1, h2, h3, h4, h5, h6, h7, h8⟩
theorem yE5A9 {A : Sort _} {B : Sort _} {C : Sort _} {D : Sort _} {E : Sort _} {p1 p2 p3 p4 p5 p6 p7 p8 p9 : A → B → C → D → E → Prop} (a : A) (b : B) (c : C) (d : D) (e : E) (h1 : p1 a b c d e) (h2 : p2 a b c d e) (h3 : p3 a b c d e) (h4 : p4 a b c d e) (h5 : p5 a b c d e) (h6 : p6 a b c d e) (h7 : p7 a b c d e) (h8 : p8 a b c d e) (h9 : p9 a b c d e) : ∃ a b c d e, p1 a b c d e ∧ p2 a b c d e ∧ p3 a b c d e ∧ p4 a b c d e ∧ p5 a b c d e ∧ p6 a b c d e ∧ p7 a b c d e ∧ p8 a b c d e ∧ p9 a b c d e := ⟨a, b, c, d, e, h1, h2, h3, h4, h5, h6, h7, h8, h9⟩
theorem yE5A14 {A : Sort _} {B : Sort _} {C : Sort _} {D : Sort _} {E : Sort _} {p1 p2 p3 p4 p5 p6 p7 p8 p9 p10 p11 p12 p13 p14 : A → B → C → D → E → Prop} (a : A) (b : B) (c : C) (d : D) (e : E) (h1 : p1 a b c d e) (h2 : p2 a b c d e) (h3 : p3 a b c d e) (h4 : p4 a b c d e) (h5 : p5 a b c d e) (h6 : p6 a b c d e) (h7 : p7 a b c d e) (h8 : p8 a b c d e) (h9 : p9 a b c d e) (h10 : p10 a b c d e) (h11 : p11 a b c d e) (h12 : p12 a b c d e) (h13 : p13 a b c d e) (h14 : p14 a b c d e) : ∃ a b c d e, p1 a b c d e ∧ p2 a b c d e ∧ p3 a b c d e ∧ p4 a b c d e ∧ p5 a b c d e ∧ p6 a b c d e ∧ p7 a b c d e ∧ p8 a b c d e ∧ p9 a b c d e ∧ p10 a b c d e ∧ p11 a b c d e ∧ p12 a b c d e ∧ p13 a b c d e ∧ p14 a b c d e := ⟨a, b, c, d, e, h1, h2, h3, h4, h5, h6, h7, h8, h9, h10, h11, h12, h13, h14⟩
theorem yE6A7 {A : Sort _} {B : Sort _} {C : Sort _} {D : Sort _} {E : Sort _} {I : Sort _} {p1 p2 p3 p4 p5 p6 p7 : A → B → C → D → E → I → Prop} (a : A) (b : B) (c : C) (d : D) (e : E) (i : I) (h1 : p1 a b c d e i) (h2 : p2 a b c d e i) (h3 : p3 a b c d e i) (h4 : p4 a b c d e i) (h5 : p5 a b c d e i) (h6 : p6 a b c d e i) (h7 : p7 a b c d e i) : ∃ a b c d e i, p1 a b c d e i ∧ p2 a b c d e i ∧ p3 a b c d e i ∧ p4 a b c d e i ∧ p5 a b c d e i ∧ p6 a b c d e i ∧ p7 a b c d e i := ⟨a, b, c, d, e, i, h1, h2, h3, h4, h5, h6, h7⟩
theorem yE7A6 {A : Sort _} {B : Sort _} {C : Sort _} {D : Sort _} {E : Sort _} {I : Sort _} {J : Sort _} {p1 p2 p3 p4 p5 p6 : A → B → C → D → E → I → J → Prop} (a : A) (b : B) (c : C) (d : D) (e : E) (i : I) (j : J) (h1 : p1 a b c d e i j) (h2 : p2 a b c d e i j) (h3 : p3 a b c d e i j) (h4 : p4 a b c d e i j) (h5 : p5 a b c d e i j) (h6 : p6 a b c d e i j) : ∃ a b c d e i j, p1 a b c d e i j ∧ p2 a b c d e i j ∧ p3 a b c d e i j ∧ p4 a b c d e i j ∧ p5 a b c d e i j ∧ p6 a b c d e i j := ⟨a, b, c, d, e, i, j, h1, h2, h3, h4, h5, h6⟩
theorem yE8A11 {A : Sort _} {B : Sort _} {C : Sort _} {D : Sort _} {E : Sort _} {I : Sort _} {J : Sort _} {K : Sort _} {p1 p2 p3 p4 p5 p6 p7 p8 p9 p10 p11 : A → B → C → D → E → I → J → K → Prop} (a : A) (b : B) (c : C) (d : D) (e : E) (i : I) (j : J) (k : K) (h1 : p1 a b c d e i j k) (h2 : p2 a b c d e i j k) (h3 : p3 a b c d e i j k) (h4 : p4 a b c d e i j k) (h5 : p5 a b c d e i j k) (h6 : p6 a b c d e i j k) (h7 : p7 a b c d e i j k) (h8 : p8 a b c d e i j k) (h9 : p9 a b c d e i j k) (h10 : p10 a b c d e i j k) (h11 : p11 a b c d e i j k) : ∃ a b c d e i j k, p1 a b c d e i j k ∧ p2 a b c d e i j k ∧ p3 a b c d e i j k ∧ p4 a b c d e i j k ∧ p5 a b c d e i j k ∧ p6 a b c d e i j k ∧ p7 a b c d e i j k ∧ p8 a b c d e i j k ∧ p9 a b c d e i j k ∧ p10 a b c d e i j k ∧ p11 a b c d e i j k := ⟨a, b, c, d, e, i, j, k, h1, h2, h3, h4, h5, h6, h7, h8, h9, h10, h11⟩

/- cheap ways to close small orders of numbers, tried ahead of omega (row "o" of mk.py) -/
theorem oA {a k K : Nat} (h : a ≤ k) (z : Nat.ble k K = true) : a ≤ K := Nat.le_trans h (Nat.le_of_ble_eq_true z)
theorem oB {a k K : Nat} (h : a < k) (z : Nat.ble k (K + 1) = true) : a ≤ K := Nat.le_of_lt_succ (Nat.lt_of_lt_of_le h (Nat.le_of_ble_eq_true z))
theorem oE {a b k K : Nat} (e : a = b) (h : b ≤ k) (z : Nat.ble k K = true) : a ≤ K := e ▸ oA h z
theorem oF {a b k K : Nat} (e : a = b) (h : b < k) (z : Nat.ble k (K + 1) = true) : a ≤ K := e ▸ oB h z
theorem oG {a k K : Nat} (e : a = k) (z : Nat.ble k K = true) : a ≤ K := e ▸ Nat.le_of_ble_eq_true z
theorem oH {a b k K : Nat} (h : a ≤ b) (h2 : b ≤ k) (z : Nat.ble k K = true) : a ≤ K := Nat.le_trans h (oA h2 z)
theorem oI {a b k K : Nat} (h : a < b) (h2 : b ≤ k) (z : Nat.ble k (K + 1) = true) : a ≤ K := oB (Nat.lt_of_lt_of_le h h2) z
theorem oS {a k K : Nat} (h : a ≤ k) (z : Nat.ble (k + 1) K = true) : a + 1 ≤ K := oA (Nat.succ_le_succ h) z
theorem oSE {a b k K : Nat} (e : a = b) (h : b ≤ k) (z : Nat.ble (k + 1) K = true) : a + 1 ≤ K := e ▸ oS h z
theorem oQ {a b k K : Nat} (e : a = b) (e2 : b = k) (z : Nat.ble k K = true) : a ≤ K := oG (e.trans e2) z
theorem oQ3 {a b k c K : Nat} (e : a = b) (e2 : b = c) (h : c ≤ k) (z : Nat.ble k K = true) : a ≤ K := oE (e.trans e2) h z
theorem pA {a k K : Nat} (h : a ≤ k) (z : Nat.ble (k + 1) K = true) : a < K := oS h z
theorem pB {a k K : Nat} (h : a < k) (z : Nat.ble k K = true) : a < K := oA h z
theorem pE {a b k K : Nat} (e : a = b) (h : b ≤ k) (z : Nat.ble (k + 1) K = true) : a < K := e ▸ pA h z
theorem pF {a b k K : Nat} (e : a = b) (h : b < k) (z : Nat.ble k K = true) : a < K := e ▸ pB h z
theorem pG {a k K : Nat} (e : a = k) (z : Nat.ble (k + 1) K = true) : a < K := e ▸ Nat.le_of_ble_eq_true z
theorem pH {a b k K : Nat} (h : a ≤ b) (h2 : b ≤ k) (z : Nat.ble (k + 1) K = true) : a < K := pA (Nat.le_trans h h2) z
theorem pI {a b k K : Nat} (h : a < b) (h2 : b ≤ k) (z : Nat.ble k K = true) : a < K := oA (Nat.le_trans h h2) z
theorem pS {a k K : Nat} (h : a ≤ k) (z : Nat.ble (k + 2) K = true) : a + 1 < K := pA (Nat.succ_le_succ h) z
theorem pSE {a b k K : Nat} (e : a = b) (h : b ≤ k) (z : Nat.ble (k + 2) K = true) : a + 1 < K := e ▸ pS h z
theorem oJ {B i : Nat} : B + i ≤ B + (i + 1) := Nat.le_succ _
theorem oK {B i : Nat} : 1 ≤ B + (i + 1) := Nat.succ_le_succ (Nat.zero_le _)
theorem oL {a b : Nat} (h : a < b) : a + 1 ≤ b := h
theorem oM {a b : Nat} (e : a = b) : b ≤ a := Nat.le_of_eq e.symm
theorem oZ {n : Nat} : 0 + n = n := Nat.zero_add n
theorem pZ {n : Nat} (h : ¬n = 0) : 0 < n := Nat.pos_of_ne_zero h
theorem iA {n k : Nat} (h : n ≤ k) (z : Nat.ble k 4611686018427387903 = true) : (n : Int) < 2 ^ 63 := by have := Nat.le_of_ble_eq_true z; omega
theorem iB {n k : Nat} (h : n < k) (z : Nat.ble k 4611686018427387903 = true) : (n : Int) < 2 ^ 63 := iA (Nat.le_of_lt h) z
theorem iE {n b k : Nat} (e : n = b) (h : b ≤ k) (z : Nat.ble k 4611686018427387903 = true) : (n : Int) < 2 ^ 63 := e ▸ iA h z
theorem jA {n k : Nat} (h : n ≤ k) (z : Nat.ble k 4611686018427387903 = true) : (n : Int) < 2 ^ 62 := by have := Nat.le_of_ble_eq_true z; omega
theorem jB {n k : Nat} (h : n < k) (z : Nat.ble k 4611686018427387903 = true) : (n : Int) < 2 ^ 62 := jA (Nat.le_of_lt h) z
theorem jE {n b k : Nat} (e : n = b) (h : b ≤ k) (z : Nat.ble k 4611686018427387903 = true) : (n : Int) < 2 ^ 62 := e ▸ jA h z
theorem iM {n : Nat} : -2 ^ 63 ≤ (n : Int) := by omega
theorem jM {n : Nat} : -2 ^ 62 ≤ (n : Int) := by omega
theorem iP {n : Nat} (h : 0 < n) : (0 : Int) < n := by omega
theorem iS {n : Nat} : ((n + 1 : Nat) : Int) = n + 1 := rfl
theorem iZ {n : Nat} : (n : Int) - 0 = n := by omega
theorem iD {i : Nat} (h : 0 < i) : ((i - 1 : Nat) : Int) = i - 1 := by omega
theorem iV {n : Nat} : -(n : Int) ≤ 0 := by omega
theorem qA {a i : Nat} (h : i < a) : a - (i + 1) < a - i := Nat.sub_lt_sub_left h (Nat.lt_succ_self i)
theorem qB {i n : Nat} (h : i ≤ n) (z : 0 < i) : i - 1 < n := Nat.lt_of_lt_of_le (Nat.sub_lt z Nat.one_pos) h
theorem qC {i n : Nat} (h : i ≤ n) : i - 1 < n + 1 := Nat.lt_succ_of_le (Nat.le_trans (Nat.sub_le i 1) h)
theorem qD {i : Nat} (z : 0 < i) : i - 1 < i := Nat.sub_lt z Nat.one_pos
theorem qE {i n : Nat} (e : i = n) : n + 1 ≤ i + 1 := e ▸ Nat.le_refl _
theorem qF {i n : Nat} (h : i < n) : i + 1 < n + 1 := Nat.succ_lt_succ h
theorem qG {i n : Nat} (h : ¬i < n) : n ≤ i := Nat.le_of_not_lt h
theorem qH {i n : Nat} (e : i = n) : n + 1 = i + 1 := e ▸ rfl
theorem rA {i k : Nat} (h : i ≤ k) (z : Nat.ble k 4611686018427387903 = true) : (i : Int) + 1 < 2 ^ 63 := by have := Nat.le_of_ble_eq_true z; omega
theorem rE {i b k : Nat} (e : i = b) (h : b ≤ k) (z : Nat.ble k 4611686018427387903 = true) : (i : Int) + 1 < 2 ^ 63 := e ▸ rA h z
theorem rF {i b k : Nat} (e : i < b) (h : b ≤ k) (z : Nat.ble k 4611686018427387903 = true) : (i : Int) + 1 < 2 ^ 63 := rA (Nat.le_trans (Nat.le_of_lt e) h) z
theorem iI {n b k : Nat} (e : n < b) (h : b ≤ k) (z : Nat.ble k 4611686018427387903 = true) : (n : Int) < 2 ^ 63 := iA (Nat.le_trans (Nat.le_of_lt e) h) z
theorem rM {i : Nat} : -2 ^ 63 ≤ (i : Int) + 1 := by omega
theorem rN {i : Nat} : -2 ^ 63 ≤ (i : Int) - 1 := by omega
theorem rT {i n : Nat} (h : i ≤ n) {k : Nat} (h2 : n ≤ k) (z : Nat.ble k 4611686018427387903 = true) : (i : Int) - 1 < 2 ^ 63 := by have := rA (Nat.le_trans h h2) z; omega
theorem oT {a b k K : Nat} (e : a = b) (h : b ≤ k + K) : a ≤ k + K := e ▸ h
theorem wC {i n b k K : Nat} (e : n = b) (h : b ≤ k) (z : Nat.ble k K = true) : min i (n - 0) ≤ K := Nat.le_trans (Nat.min_le_right _ _) (oE e h z)
theorem wD {i a b k K : Nat} (h : i ≤ a) (e : a = b) (h2 : b ≤ k) (z : Nat.ble (k + 1) K = true) : i - 1 < K := pA (Nat.le_trans (Nat.sub_le i 1) (Nat.le_trans h (e ▸ h2))) z
theorem wE {i a b : Nat} (h : i ≤ a) (e : a = b) (p : 0 < i) : i - 1 < b := qB (e ▸ h) p
theorem wF {i a b c : Nat} (h : i < c) (e : c = b + 1) (e2 : a = b) : i ≤ a := by rw [e2]; rw [e] at h; exact Nat.le_of_lt_succ h
theorem wG {a c d k K : Nat} (e : a = c) (h : c ≤ d) (h2 : d ≤ k) (z : Nat.ble k K = true) : a ≤ K := oE e (Nat.le_trans h h2) z
theorem wH {a k K : Nat} (e : K = k) (z : Nat.ble (a + 1) k = true) : a < K := e ▸ Nat.le_of_ble_eq_true z
theorem wI {a c n k K : Nat} (h : a ≤ c * n) (h2 : n ≤ k) (z : Nat.ble (c * k) K = true) : a ≤ K := oA (Nat.le_trans h (Nat.mul_le_mul_left c h2)) z
theorem wJ {a b k : Nat} (e : a = b + k) : b ≤ a := e ▸ Nat.le_add_right b k
theorem wK {a b : Nat} (e : a = b + 1) : 0 < a := e ▸ Nat.succ_pos b
theorem yA {i n : Nat} (h : i ≤ n) : min i (n - 0) + (0 + 1) + min (n - i) (n - i) = n + 1 := by
  rw [Nat.min_self, Nat.sub_zero, Nat.min_eq_left h, Nat.zero_add, Nat.add_right_comm, Nat.add_sub_cancel' h]
theorem yB {i n : Nat} (h : i ≤ n) : min i n + (n - i + 1) = n + 1 := by
  rw [Nat.min_eq_left h, ← Nat.add_assoc, Nat.add_sub_cancel' h]
theorem wA {i n b k K : Nat} (hi : i ≤ n) (e : n = b) (h : b ≤ k) (z : Nat.ble (k + 1) K = true) : min i (n - 0) + (0 + 1) + min (n - i) (n - i) ≤ K := (yA hi).symm ▸ oSE e h z
theorem wB {i a n k K : Nat} (hi : i ≤ a) (e : a = n) (h : n ≤ k) (z : Nat.ble (k + 1) K = true) : min i n + (n - i + 1) ≤ K := (yB (e ▸ hi)).symm ▸ oS h z
theorem yC {J i n c k K : Nat} (h : J ≤ c * (min i (n - 0) + (0 + 1) + min (n - i) (n - i))) (hi : i ≤ n) (hn : n ≤ k) (z : Nat.ble (c * (k + 1)) K = true) : J ≤ K := wI (n := n + 1) ((yA hi) ▸ h) (Nat.succ_le_succ hn) z
theorem yD {i n : Nat} (h : i < n) : min 1 (n - i) = 1 := Nat.min_eq_left (Nat.sub_pos_of_lt h)
theorem yE {a b p q r s f : Nat} (h : a ≤ b) : p + (q + (r + (s + (a + f)))) ≤ p + (q + (r + (s + (b + f)))) := Nat.add_le_add_left (Nat.add_le_add_left (Nat.add_le_add_left (Nat.add_le_add_left (Nat.add_le_add_right h _) _) _) _) _
theorem yF {n : Nat} (h : ¬(0 : Int) < n) : (0 : Int) = n := by omega
theorem yS {a b : Nat} (h : a + 2 < b) : b - a = b - a - 3 + 1 + 1 + 1 := (Nat.sub_add_cancel (Nat.le_sub_of_add_le' (show a + 3 ≤ b from h))).symm
theorem yT {p n : Nat} (h : p ≤ n) : min ((p : Int) + 1) (n : Int) = ((p + min 1 (n - p) : Nat) : Int) := by
  rcases Nat.lt_or_eq_of_le h with h1 | rfl
  · rw [yD h1]; exact Int.min_eq_left (Int.ofNat_le.mpr h1)
  · rw [Nat.sub_self]; exact Int.min_eq_right (Int.le_add_one (Int.le_refl _))
theorem xA {a c i : Nat} (h : a ≤ c + i) : a ≤ c + (i + 1) := Nat.le_succ_of_le h
theorem xB {a c i : Nat} (h : a ≤ c + i) : a + 1 ≤ c + (i + 1) := Nat.succ_le_succ h
theorem xC {l B i b n k K : Nat} (h : l ≤ B + i) (hB : B ≤ b) (hi : i < n) (hn : n ≤ k) (z : Nat.ble (b + k) K = true) : l ≤ K := oA (Nat.le_trans h (Nat.add_le_add hB (Nat.le_trans (Nat.le_of_lt hi) hn))) z
theorem xD {l m B i b n k K : Nat} (h : l ≤ m + 1 + i) (hm : m ≤ B) (hB : B ≤ b) (hi : i < n) (hn : n ≤ k) (z : Nat.ble (b + 1 + k) K = true) : l ≤ K := oA (Nat.le_trans h (Nat.add_le_add (Nat.succ_le_succ (Nat.le_trans hm hB)) (Nat.le_trans (Nat.le_of_lt hi) hn))) z
theorem xE {a b c k K : Nat} (e : a = b + c) (h : b ≤ k) (z : Nat.ble (k + c) K = true) : a ≤ K := e ▸ oA (Nat.add_le_add_right h c) z
theorem xF {a B c : Nat} (h : a ≤ B) : a + 1 ≤ B + (c + 1) := Nat.succ_le_succ (Nat.le_trans h (Nat.le_add_right B c))
theorem xG {a B c : Nat} (h : a ≤ B) : a ≤ B + c := Nat.le_trans h (Nat.le_add_right B c)
theorem xH {B k c : Nat} (h : k ≤ c) : B + k ≤ B + c := Nat.add_le_add_left h B
theorem xI {p x c K : Nat} {a b d : Nat} (hp : p ≤ a) (hx : x ≤ b) (hc : c ≤ d) (z : Nat.ble (0 + 1000 * a + b + d) K = true) : 0 + 1000 * p + x + c ≤ K := oA (Nat.add_le_add (Nat.add_le_add (Nat.add_le_add_left (Nat.mul_le_mul_left 1000 hp) 0) hx) hc) z
theorem xJ {p x K : Nat} {a b : Nat} (hp : p ≤ a) (hx : x ≤ b) (z : Nat.ble (0 + 1000 * a + b) K = true) : 0 + 1000 * p + x ≤ K := oA (Nat.add_le_add (Nat.add_le_add_left (Nat.mul_le_mul_left 1000 hp) 0) hx) z
theorem xK {p K : Nat} {a : Nat} (hp : p ≤ a) (z : Nat.ble (0 + 1000 * a) K = true) : 0 + 1000 * p ≤ K := oA (Nat.add_le_add_left (Nat.mul_le_mul_left 1000 hp) 0) z
theorem xL {a b c : Nat} (h : a + c < b) : a ≤ b := Nat.le_trans (Nat.le_add_right a c) (Nat.le_of_lt h)
theorem zA {i n j : Nat} (h : i ≤ n) (h2 : j < i) : j < min i n := by rw [Nat.min_eq_left h]; exact h2
theorem zB {i r : Nat} : i + 1 + r = i + (r + 1) := Nat.succ_add_eq_add_succ i r
theorem uA {i n : Nat} : min i (n - 0) + (0 + 1) + min (n - i) (n - i) ≤ n + 1 := by
  rcases Nat.le_total i n with h | h
  · exact Nat.le_of_eq (yA h)
  · rw [Nat.sub_zero, Nat.min_eq_right h, Nat.sub_eq_zero_of_le h]; exact Nat.le_refl _
theorem uB {J i n c k K : Nat} (h : J ≤ c * (min i (n - 0) + (0 + 1) + min (n - i) (n - i))) (hn : n ≤ k) (z : Nat.ble (c * (k + 1)) K = true) : J ≤ K := wI (Nat.le_trans h (Nat.mul_le_mul_left c uA)) (Nat.succ_le_succ hn) z
theorem uC {i a n : Nat} (e : n = a + 2 - i) (h : i ≤ a) : a + 2 - (i + 1) < n := e ▸ qA (Nat.lt_succ_of_le (Nat.le_succ_of_le h))
theorem uD {a n : Nat} (e : n = a + 2 - 0) : a + 2 - (0 + 1) < n := uC e (Nat.zero_le _)
theorem uE {i n : Nat} (h : i < n) : n + 1 - (i + 1) < n + 1 - i := qA (Nat.lt_succ_of_lt h)
theorem uF {c n a K : Nat} (h : n ≤ K) : min c (n - a) ≤ K := Nat.le_trans (Nat.min_le_right _ _) (Nat.le_trans (Nat.sub_le _ _) h)
theorem uG {n : Nat} : (-1 + ((n : Int) + 2)) = ((n + 1 : Nat) : Int) := by omega
theorem uH {n : Nat} : (-2 + ((n : Int) + 2)) = (n : Int) := by omega
theorem uI {n : Nat} : (-1 + ((n : Int) + 1)) = (n : Int) := by omega
theorem uJ {n : Nat} : (-1 + ((n : Int) + 2)).toNat - n = 1 := by rw [uG]; exact Nat.add_sub_cancel_left ..
theorem uK {n : Nat} : (-2 + ((n : Int) + 2)).toNat - n = 0 := by rw [uH]; exact Nat.sub_self n
theorem uL {n : Nat} : (-1 + ((n : Int) + 1)).toNat - n = 0 := by rw [uI]; exact Nat.sub_self n
theorem uM {n : Nat} : n ≤ (-2 + ((n : Int) + 2)).toNat := by rw [uH]; exact Nat.le_refl n
theorem uN {n : Nat} : n ≤ (-1 + ((n : Int) + 2)).toNat := by rw [uG]; exact Nat.le_succ n
theorem uO {n : Nat} : n ≤ (-1 + ((n : Int) + 1)).toNat := by rw [uI]; exact Nat.le_refl n
theorem uP {a k : Nat} : ((a : Int) + (k : Int) * 1).toNat = a + k := by rw [Int.mul_one]; rfl
theorem uQ {k : Nat} : (((k + 1 : Nat) : Int) - 1).toNat = k := by rw [show ((k + 1 : Nat) : Int) = (k : Int) + 1 from rfl, Int.add_sub_cancel]; rfl
theorem uR {a c : Nat} : (((a + c : Nat) : Int) - (a : Int) - 1 + 1).toNat = c := by rw [show ((a + c : Nat) : Int) = (a : Int) + c from rfl, Int.sub_add_cancel, Int.add_comm, Int.add_sub_cancel]; rfl
theorem uS {p n : Nat} (h : p ≤ n) : min (p : Int) (n : Int) = ((0 + p : Nat) : Int) := by rw [Nat.zero_add]; exact Int.min_eq_left (Int.ofNat_le.mpr h)
theorem uT {i : Nat} (h : 0 < i) : (i : Int) - 1 = ((i - 1 : Nat) : Int) := (iD h).symm
theorem uU {i n : Nat} (h : i < min i n + (n - i)) : i ≤ n := by
  rcases Nat.le_total i n with h1 | h1
  · exact h1
  · rw [Nat.min_eq_right h1, Nat.sub_eq_zero_of_le h1] at h; exact Nat.le_of_lt h
theorem uV {i k n : Nat} (e : i + (k + 1) = n) : i + 1 + k = n := zB.trans e
theorem uW {i n : Nat} (h : i ≤ n + 1) (e : ¬i = n + 1) : i ≤ n := Nat.le_of_lt_succ (Nat.lt_of_le_of_ne h e)
theorem uX {a i n k K : Nat} (h : a ≤ i) (h2 : i < n) (h3 : n ≤ k) (z : Nat.ble k K = true) : a ≤ K := oA (Nat.le_trans (Nat.le_trans h (Nat.le_of_lt h2)) h3) z
theorem uY {j b r : Nat} (e : b = r) (h : j < r) : j < b := e ▸ h
theorem uZ {a m k B c d : Nat} (h : a ≤ m + 1 + k) (hm : m ≤ B) (hk : k ≤ c) (z : Nat.ble (1 + c) d = true) : a ≤ B + d := Nat.le_trans h (Nat.le_trans (Nat.add_le_add (Nat.add_le_add_right hm 1) hk) (Nat.add_assoc B 1 c ▸ Nat.add_le_add_left (Nat.le_of_ble_eq_true z) B))
theorem vC {a b c d K : Nat} (h : a ≤ c) (h2 : b ≤ d) (z : Nat.ble (c + d) K = true) : a + b ≤ K := oA (Nat.add_le_add h h2) z
theorem vD {i n j : Nat} (h : i ≤ j) : min i n ≤ j + 1 := Nat.le_trans (Nat.min_le_left _ _) (Nat.le_succ_of_le h)
theorem vE {k n : Nat} (h : k < n + 1) (h2 : ¬k < n) : k = n := Nat.le_antisymm (Nat.le_of_lt_succ h) (Nat.le_of_not_lt h2)
theorem vF {z : Int} (h : 0 ≤ z) : z = ((z.toNat : Nat) : Int) := (Int.toNat_of_nonneg h).symm
theorem vG {a c K k : Nat} (e : K = k) (h : a ≤ c) (z : Nat.ble (c + (0 + 1 + 1) + 1) k = true) : a + (0 + 1 + 1) < K := e ▸ oA (Nat.succ_le_succ (Nat.add_le_add_right h _)) z
theorem vH {k n : Nat} (h : k + 1 ≤ n) : k < n := h
theorem vI {i : Nat} : 40 + 10 * i ≤ 40 + 10 * (i + 1) := Nat.add_le_add_left (Nat.mul_le_mul_left 10 (Nat.le_succ i)) 40
theorem vJ {i : Nat} : 40 + 10 * i + 10 ≤ 40 + 10 * (i + 1) := Nat.le_of_eq (Nat.add_assoc ..)
theorem vK {j k n : Nat} (h : k ≤ n) (h2 : (j : Int) < (k : Int)) : j < min k n := zA h (Int.ofNat_lt.mp h2)
theorem vL {N r K : Nat} (h : N + 1000 * (r + 1) ≤ K) : N + 1000 + 1000 * r ≤ K := by rw [Nat.add_right_comm, Nat.add_assoc]; exact h
theorem vM {a b : Nat} (e : b = a) : ((a + 1 : Nat) : Int) = (b : Int) + 1 := e ▸ rfl
theorem vN {n a b c d K : Nat} {P : Prop} (hh : n ≤ a + b ∧ P) (h : a ≤ c) (e : b = d) (z : Nat.ble (c + d) K = true) : n ≤ K := oA (Nat.le_trans hh.1 (Nat.add_le_add h (Nat.le_of_eq e))) z
theorem vO {n m a b c p q r K : Nat} {P R : Prop} (hh : n ≤ m + c ∧ P) (h2 : m ≤ a + b ∧ R) (h : a ≤ p) (e : b = q) (hc : c ≤ r) (z : Nat.ble (p + q + r) K = true) : n ≤ K := oA (Nat.le_trans hh.1 (Nat.add_le_add (Nat.le_trans h2.1 (Nat.add_le_add h (Nat.le_of_eq e))) hc)) z
theorem vP {a b i n k K : Nat} (e : a = b) (h : b ≤ min i n) (hn : n ≤ k) (z : Nat.ble k K = true) : a ≤ K := oE e (Nat.le_trans h (Nat.le_trans (Nat.min_le_right _ _) hn)) z
theorem vQ {a s t B : Nat} (h : s ≤ t) (h2 : a ≤ B) : a + s ≤ t + B := Nat.add_comm a s ▸ Nat.add_le_add h h2
theorem vR {a b c p q r K : Nat} (h1 : a ≤ p) (h2 : b ≤ q) (h3 : c ≤ r) (z : Nat.ble (0 + p + 1 + q + 17 + r + 2) K = true) : 0 + a + 1 + b + 17 + c + 2 ≤ K := oA (Nat.add_le_add_right (Nat.add_le_add (Nat.add_le_add_right (Nat.add_le_add (Nat.add_le_add_right (Nat.add_le_add_left h1 0) 1) h2) 17) h3) 2) z
theorem vS {i n : Nat} (h : i < n) : (0 : Int) < (n : Int) - (i : Int) := Int.sub_pos_of_lt (Int.ofNat_lt.mpr h)
theorem vT {i n : Nat} : i + 1 + n ≤ i + (n + 1) := Nat.le_of_eq zB

theorem rows_on : True := by
  k_with_none
  k_with "o" => (first | (with_reducible first | assumption | (show (_ : Nat) ≤ _; first | exact Nat.le_of_ble_eq_true rfl | exact Nat.zero_le _ | exact Nat.le_of_lt ‹_› | exact Nat.le_of_eq ‹_› | exact oM ‹_› | exact oL ‹_› | exact oJ | exact oK | exact qE ‹_› | exact qG ‹_› | exact oS ‹_› rfl | exact oSE ‹_› ‹_› rfl | exact oA ‹_› rfl | exact oB ‹_› rfl | exact oG ‹_› rfl | exact oE ‹_› ‹_› rfl | exact oF ‹_› ‹_› rfl | exact oH ‹_› ‹_› rfl | exact oI ‹_› ‹_› rfl | exact oQ ‹_› ‹_› rfl | exact oQ3 ‹_› ‹_› ‹_› rfl | exact xE ‹_› ‹_› rfl | exact xA ‹_› | exact xB ‹_› | exact xH ‹_› | exact xF ‹_› | exact xG ‹_› | exact xL ‹_› | exact xC ‹_› ‹_› ‹_› ‹_› rfl | exact xD ‹_› ‹_› ‹_› ‹_› ‹_› rfl | exact xK ‹_› rfl | exact xJ ‹_› ‹_› rfl | exact xI ‹_› ‹_› ‹_› rfl | exact wA ‹_› ‹_› ‹_› rfl | exact wB ‹_› ‹_› ‹_› rfl | exact yC ‹_› ‹_› ‹_› rfl | exact yE ‹_› | exact uB ‹_› ‹_› rfl | exact uF ‹_› | exact uM | exact uN | exact uO | exact uU ‹_› | exact uW ‹_› ‹_› | exact uX ‹_› ‹_› ‹_› rfl | exact uZ ‹_› ‹_› ‹_› rfl | exact vC ‹_› ‹_› rfl | exact vD ‹_› | exact vI | exact vJ | exact vL ‹_› | exact vN ‹_› ‹_› ‹_› rfl | exact vO ‹_› ‹_› ‹_› ‹_› ‹_› rfl | exact vP ‹_› ‹_› ‹_› rfl | exact vQ ‹_› ‹_› | exact vR ‹_› ‹_› ‹_› rfl | exact vT | exact Nat.min_le_left _ _ | exact Nat.le_trans ‹_› ‹_› | exact Nat.le_add_left _ _ | exact wC ‹_› ‹_› rfl | exact wI ‹_› ‹_› rfl | exact wG ‹_› ‹_› ‹_› rfl | exact wF ‹_› ‹_› ‹_›) | (show (_ : Nat) < _; first | exact Nat.le_of_ble_eq_true rfl | exact Nat.lt_succ_self _ | exact pA ‹_› rfl | exact pB ‹_› rfl | exact pG ‹_› rfl | exact pE ‹_› ‹_› rfl | exact pF ‹_› ‹_› rfl | exact pH ‹_› ‹_› rfl | exact pI ‹_› ‹_› rfl | exact pS ‹_› rfl | exact pSE ‹_› ‹_› rfl | exact qA ‹_› | exact qD ‹_› | exact qB ‹_› ‹_› | exact qC ‹_› | exact Nat.lt_of_le_of_ne ‹_› ‹_› | exact uC ‹_› ‹_› | exact uD ‹_› | exact uE ‹_› | exact uY ‹_› ‹_› | exact vG ‹_› ‹_› rfl | exact vH ‹_› | exact vK ‹_› ‹_› | exact qF ‹_› | exact zA ‹_› ‹_› | exact wK ‹_› | exact wH ‹_› rfl | exact wD ‹_› ‹_› ‹_› rfl | exact wE ‹_› ‹_› ‹_›) | (show (_ : Nat) = _; first | exact yA ‹_› | exact yB ‹_› | exact yD ‹_› | exact yS ‹_› | exact Nat.sub_add_comm ‹_› | exact Nat.add_sub_cancel' ‹_› | exact uV ‹_› | exact uJ | exact uK | exact uL | exact uP | exact uQ | exact uR | exact vE ‹_› ‹_› | exact zB | exact oZ) | (show ((_ : Nat) : Int) < 2 ^ 63; first | exact iA ‹_› rfl | exact iB ‹_› rfl | exact iE ‹_› ‹_› rfl | exact iI ‹_› ‹_› rfl) | (show ((_ : Nat) : Int) < 2 ^ 62; first | exact jA ‹_› rfl | exact jB ‹_› rfl | exact jE ‹_› ‹_› rfl) | (show ((_ : Nat) : Int) + 1 < 2 ^ 63; first | exact rA ‹_› rfl | exact rE ‹_› ‹_› rfl | exact rF ‹_› ‹_› rfl) | exact rT ‹_› ‹_› rfl | exact rM | exact rN | exact Int.natCast_nonneg _ | exact iM | exact jM | exact iP ‹_› | exact uS ‹_› | exact uT ‹_› | exact vF ‹_› | exact vM ‹_› | exact vS ‹_› | exact yF ‹_› | exact yT ‹_› | exact iS | exact iZ | exact iD ‹_› | exact iV) | omega)
  k_with "a" => (with_reducible assumption)
  trivial
noncomputable abbrev Led := List (Addr × Obj)
noncomputable abbrev Ard (dp un : Nat) (cn : Str) (cs : Scope) (L a : Addr) (ccd : Value) (cl : List (Str × Addr)) (outer : List Env) : Around :=
  { handled := none, depth := dp, frames := some (envX cn cs L a ccd cl :: outer), guards := some [], units := un }

noncomputable abbrev LOOSE : List Str := looseW hdV [Str.ofString "Production", Str.ofString "Grammar", Str.ofString "_law_SYMBOLS", Str.ofString "_law_TAILS"]
noncomputable def Does (prog : Program) (w : World) (dp un : Nat) (f : Addr) (args : List Value) (news : Led) (Post : Value → Led → Prop) : Prop :=
  ∀ (mean : ExcName → Option Value) (mg mb : Str → Option Value) (cn : Str) (cs : Scope) (a : Addr) (ccd : Value) (cl : List (Str × Addr)) (outer : List Env) (A₀ : Around) (base h₀ : Heap) (L : Addr) (m : Str → Option Value) (s : Shared)
    (Q E : Value → Shared → Prop),
    Below A₀ base outer h₀ → Fr h₀ L s.heap m → (hd.heap_1 w.params).In h₀ → News h₀ L s.heap news → Top hdV LOOSE mean mg mb h₀ → cs.kind = .function →
    (∀ r news' h' tk', Fr h₀ L h' m → News h₀ L h' news' → Post r news' → Q r { s with heap := h', toks := tk' }) →
    wpAny (model prog w) (Ard dp un cn cs L a ccd cl outer) (call (.ref f) args) Q E s

theorem around_up {α : Type} {M : Model} {A A' : Around} {t : Sem α} {Q : α → Shared → Prop} {E : Value → Shared → Prop} {s : Shared} (h : wpAny M A' t Q E s)
    (hh : A.handled = A'.handled) (hd : A.depth ≤ A'.depth) (hf : A'.frames = A.frames) (hg : A'.guards = A.guards) (hu : A.units ≤ A'.units) : wpAny M A t Q E s :=
  fun Γ p g => h Γ p ⟨g.1.trans hh, Nat.le_trans g.2.1 hd, fun l e => g.2.2.1 l (hf ▸ e), fun l e => g.2.2.2.1 l (hg ▸ e), Nat.le_trans g.2.2.2.2 hu⟩

noncomputable abbrev ent (w : World) (x : String) (t : Tok) (v : Value) : DictEntry := ⟨PyData.keyHash w.params (Str.ofString x), .str (Str.ofString x) t, v⟩
noncomputable abbrev tupO (vs : List Value) (n : Nat) : Obj := { cls := .type "tuple", data := .seq vs.toArray n }
noncomputable abbrev strV (l : List (Str × Tok)) : List Value := l.map fun p => .str p.1 p.2

noncomputable def dotV (its : List (Str × Tok)) (i : Nat) (y : Value) : List Value := (strV its).take i ++ y :: (strV its).drop i
theorem strV_length (its : List (Str × Tok)) : (strV its).length = its.length := List.length_map ..
theorem dotV_length {its : List (Str × Tok)} {i : Nat} {y : Value} (hi : i ≤ its.length) : (dotV its i y).length = its.length + 1 := by
  unfold dotV
  rw [List.length_append, List.length_cons, List.length_take, List.length_drop, strV_length]
  k_extra "o"
theorem dotV_before {its : List (Str × Tok)} {i j : Nat} {y : Value} (hi : i ≤ its.length) (hj : j < i) : (dotV its i y)[j]? = (strV its)[j]? := by
  unfold dotV
  rw [List.getElem?_append_left (by rw [List.length_take, strV_length]; k_extra "o"), List.getElem?_take_of_lt hj]
theorem dotV_at {its : List (Str × Tok)} {i : Nat} {y : Value} (hi : i ≤ its.length) : (dotV its i y)[i]? = some y := by
  unfold dotV
  rw [List.getElem?_append_right (by rw [List.length_take, strV_length]; k_extra "o"), List.length_take, strV_length, Nat.min_eq_left hi, Nat.sub_self]
  rfl
theorem dotV_behind {its : List (Str × Tok)} {i j : Nat} {y : Value} (hi : i ≤ its.length) (hj : i ≤ j) : (dotV its i y)[j + 1]? = (strV its)[j]? := by
  unfold dotV
  rw [List.getElem?_append_right (by rw [List.length_take, strV_length]; k_extra "o"), List.length_take, strV_length, Nat.min_eq_left hi, show j + 1 - i = (j - i) + 1 by k_extra "o", List.getElem?_cons_succ, List.getElem?_drop]
  congr 1; k_extra "o"
theorem ins_strV {its : List (Str × Tok)} {i : Nat} {y : Value} (hi : i ≤ its.length) : kl_ins (strV its).toArray.toList (i : Int) y = dotV its i y := by
  have e : min i its.length = i := Nat.min_eq_left hi
  have hn : ¬ (i : Int) < 0 := by k_extra "o"
  unfold kl_ins dotV
  rw [if_neg hn, Int.toNat_natCast]
  show (strV its).take (min i (strV its).length) ++ y :: (strV its).drop (min i (strV its).length) = _
  rw [strV_length, e]
theorem len_strV_small {its : List (Str × Tok)} (h : its.length ≤ 8) : (strV its).toArray.toList.length ≤ sizeLine := by
  rw [sizeLine_eq]; simp; k_extra "o"
theorem fits_small {i : Nat} (h : i ≤ 8) : Builtin.List.listFitsIndex (i : Int) = true := by
  unfold Builtin.List.listFitsIndex
  simp
  k_extra "o"
theorem size_dotV {its : List (Str × Tok)} {i : Nat} {y : Value} (hi : i ≤ its.length) (h : its.length ≤ 8) : (dotV its i y).toArray.size ≤ 16384 := by
  rw [List.size_toArray, dotV_length hi]; k_extra "o"
section
variable {prog : Program} {w : World} {A : Around} {E : Value → Shared → Prop} {s : Shared} {h₀ : Heap} {L t : Addr} {news : Led} {vs : List Value} {n k : Nat} {Q : Value → Shared → Prop}
theorem len_tup_led (N : News h₀ L s.heap news) (hm : (t, tupO vs n) ∈ news) (e : vs.length = k) (hk : k < 1000) (h : Q (.int (k : Int) (s.toks + 1)) { s with toks := s.toks + 1 + 1 }) : wpAny (model prog w) A (call (.builtin "len") [.ref t]) Q E s := by
  subst e
  exact len_tuple (N.isTup hm) (by rw [List.size_toArray]; k_extra "o") (by rw [List.size_toArray]; exact h)
end

noncomputable def over (l : List (Str × Option Value)) (m : Str → Option Value) : Str → Option Value := match l with
  | [] => m
  | p :: r => fun z => if z = p.1 then p.2 else over r m z
theorem over_eq {m : Str → Option Value} : ∀ (l : List (Str × Option Value)), (∀ p ∈ l, m p.1 = p.2) → over l m = m
  | [], _ => rfl
  | p :: r, h => by
    funext z
    show (if z = p.1 then p.2 else over r m z) = m z
    rw [over_eq r fun q hq => h q (.tail _ hq)]
    by_cases e : z = p.1
    · rw [if_pos e, e]; exact (h p (.head _)).symm
    · rw [if_neg e]
structure PR where
  p : Addr
  dp : Addr
  tup : Addr
  us : Addr
  name : Str
  its : List (Str × Tok)
  uv : List (Str × Tok)
  un : Nat
  num : Int
  prec : Value
  tk : Nat → Tok
noncomputable abbrev PR.syms (x : PR) : List Str := x.its.map (·.1)
noncomputable abbrev prodD (w : World) (x : PR) (v1 v2 : Value) (st : Str) : Obj := dictOf [ent w "name" (x.tk 0) (.str x.name (x.tk 1)), ent w "prod" (x.tk 2) (.ref x.tup), ent w "number" (x.tk 3) (.int x.num (x.tk 4)), ent w "func" (x.tk 5) .none, ent w "callable" (x.tk 6) .none,
  ent w "file" (x.tk 7) (.str (Str.ofString "") (x.tk 8)), ent w "line" (x.tk 9) (.int 0 (x.tk 10)), ent w "prec" (x.tk 11) x.prec, ent w "len" (x.tk 12) (.int (x.its.length : Int) (x.tk 13)), ent w "usyms" (x.tk 14) (.ref x.us), ent w "lr_items" (x.tk 15) v1, ent w "lr_next" (x.tk 16) v2,
  ent w "str" (x.tk 17) (.str st (x.tk 18))] 13
structure GA where
  g : Addr
  dg : Addr
  lp : Addr
  pn : Addr
  pm : Addr
  te : Addr
  nt : Addr
  fi : Addr
  fo : Addr
  pc : Addr
  up : Addr
  st : Value
  tk : Nat → Tok
noncomputable abbrev gramD (w : World) (G : GA) : Obj := dictOf [ent w "Productions" (G.tk 0) (.ref G.lp), ent w "Prodnames" (G.tk 1) (.ref G.pn), ent w "Prodmap" (G.tk 2) (.ref G.pm), ent w "Terminals" (G.tk 3) (.ref G.te), ent w "Nonterminals" (G.tk 4) (.ref G.nt), ent w "First" (G.tk 5) (.ref G.fi),
  ent w "Follow" (G.tk 6) (.ref G.fo), ent w "Precedence" (G.tk 7) (.ref G.pc), ent w "UsedPrecedence" (G.tk 8) (.ref G.up), ent w "Start" (G.tk 9) G.st] 10
section
variable {prog : Program} {w : World} {A₀ A : Around} {s : Shared} {h₀ : Heap} {L : Addr} {m : Str → Option Value} {env : Env} {news : Led} {K : Frag} {p : Program} {loose : List Str} {mean : ExcName → Option Value} {mg mb : Str → Option Value}
  {R : Result → Shared → Prop} {name qual : Str} {params : Arguments} {body : List Stmt} {scope : Scope} {dV kV doc pm cdv ct oc : Value} {an od : Option Addr} {osl : Array (Option Value)} {f : Addr} {args : Args} {binds : List (Str × Value)}
theorem code0 (B : Below A₀ h₀ [] h₀) (F : Fr h₀ L s.heap m) (X₀ : K.In h₀) (N : News h₀ L s.heap news) (T : Top p loose mean mg mb h₀) (hA : A.frames = some [env]) (hf : env.frame = some L) (hke : env.scope.kind = .function)
    (ho : K.lookup f = some ⟨oc, od, .func (fnOf name qual params body scope dV kV doc pm an cdv ct), osl⟩) (hcd : codeIn K cdv qual = true) (hroom : A.depth < recursionLimit)
    (hbind : BindsTo s (fnOf name qual params body scope dV kV doc pm an cdv ct) args binds) (hloc : ∀ y ∈ binds, scope.names.lookup y.1 = some .local)
    (h : ∀ g L' h₁, Fr h₀ L g m → Fr g L' h₁ (fun y => binds.reverse.lookup y) → News g L' h₁ news → Below A h₀ [env] g → K.In g → Top p loose mean mg mb g → KtsDicts ([env].filterMap (·.frame)) g →
      wpAny (model prog w) (A.deeper (envOf qual scope L' f cdv)) (execs body (envOf qual scope L' f cdv))
        (fun fl s' => LeaveS0 ([env].filterMap (·.frame)) h₀ L m g R (match fl with | .ret v => v | _ => .none) s')
        (fun e s' => wpAny (model prog w) (A.deeper (envOf qual scope L' f cdv)) (leaving (envOf qual scope L' f cdv) e) (fun _ s'' => R (.error e) s'') (fun e' s'' => R (.error e') s'') s')
        { s with heap := h₁, toks := s.toks + binds.length })
    (hco : scope.isCoroutine = false) (hgen : scope.isGenerator = false) (hk : scope.kind = .function)
    (hcell : ∀ x ∈ scope.names, x.2 ≠ .cell) : codeAny (model prog w) A (.call (.ref f) args) R s := by
  refine xE0A4 (groundX (R := R) B F N hA hf hke) fun G B' st _ => ?_
  have Xs := X₀.keeps F.keep
  refine PySem.codeAny_call_def (fd := fnOf name qual params body scope dV kV doc pm an cdv ct) (body := body) (binds := binds) hroom (Xs _ _ ho) rfl (T.nolimit.keeps F.keep) (codeRec_of Xs hcd) rfl hbind hcell hloc (fun h₁ hns up => ?_) hco hgen hk
  refine xE3A4 (G.ns) fun oL es ep gL dL kL fL => ?_
  have fr : ∀ b, b ∈ [env].filterMap (·.frame) → b = L := fun b hb => by
    simp only [List.filterMap_cons, hf, List.filterMap_nil, List.mem_singleton] at hb
    exact hb
  refine wpAny_mono (h _ s.heap.objs.size h₁ G ⟨hns, fun b o e => up b o (of_hideAll _ e), Nat.le_of_eq (hideAll_size _ _)⟩
    (fun q hq => ⟨up _ _ (N q hq).1, Nat.ne_of_lt (Heap.lt_size (N q hq).1), hideAll_none _ (List.mem_map_of_mem hq)⟩) B' (X₀.keeps st) (T.keeps st)
    (fun b hb => by rw [fr b hb]; exact (yE3A2 oL es ep gL dL))) (fun fl s' hl => ?_) fun _ _ y => y
  refine xE4A4 hl ?_; (try clear hl); intro g' L' m' news' T' F' N' k
  refine xE1A1 (T'.up gL) fun sl hs => ?_
  have nL : h₀.get? L = none := Heap.get?_none_of_le F.above
  refine k ⟨⟨_, es, ep, F'.keep _ _ hs, dL, kL, fL⟩, fun b o e => ?_, F.above⟩ fun q hq => ⟨(N' q hq).1, fun e => ?_, ?_⟩
  · refine F'.keep b o (T'.other b o (st b o e) fun hb => ?_)
    rw [fr b hb, nL] at e
    cases e
  · have z := (N' q hq).2.2
    rw [e, hs] at z
    cases z
  · cases e : h₀.get? q.1 with
    | none => rfl
    | some o =>
      refine xE1A1 (T'.up (st _ _ e)) fun sl' hs' => ?_
      have z := (N' q hq).2.2
      rw [hs'] at z
      cases z
end
noncomputable def Does0 (prog : Program) (w : World) (dp un : Nat) (f : Addr) (args : List Value) (news : Led) (Post : Value → Led → Prop) : Prop :=
  ∀ (mean : ExcName → Option Value) (mg mb : Str → Option Value) (cn : Str) (cs : Scope) (a : Addr) (ccd : Value) (cl : List (Str × Addr)) (A₀ : Around) (h₀ : Heap) (L : Addr) (m : Str → Option Value) (s : Shared)
    (Q E : Value → Shared → Prop),
    Below A₀ h₀ [] h₀ → Fr h₀ L s.heap m → (hd.heap_1 w.params).In h₀ → News h₀ L s.heap news → Top hdV LOOSE mean mg mb h₀ → cs.kind = .function →
    (∀ r news' h' tk', Fr h₀ L h' m → News h₀ L h' news' → Post r news' → Q r { s with heap := h', toks := tk' }) →
    wpAny (model prog w) (Ard dp un cn cs L a ccd cl []) (call (.ref f) args) Q E s
structure IT where
  a : Addr
  d : Addr
  t : Addr
  la : Addr
  al : Addr
  lo : Obj
  bef : Value
  ex : Led
  tk : Nat → Tok
noncomputable abbrev itemE (w : World) (x : PR) (i : Nat) (y : IT) : List DictEntry := [ent w "name" (y.tk 0) (.str x.name (x.tk 1)), ent w "prod" (y.tk 1) (.ref y.t), ent w "number" (y.tk 2) (.int x.num (x.tk 4)), ent w "lr_index" (y.tk 3) (.int (i : Int) (y.tk 4)), ent w "lookaheads" (y.tk 5) (.ref y.la),
  ent w "len" (y.tk 6) (.int ((x.its.length + 1 : Nat) : Int) (y.tk 7)), ent w "usyms" (y.tk 8) (.ref x.us), ent w "lr_after" (y.tk 9) (.ref y.al), ent w "lr_before" (y.tk 10) y.bef]
noncomputable abbrev openL (w : World) (x : PR) (i : Nat) (y : IT) (r : Led) : Led := (y.d, dictOf (itemE w x i y) 9) :: (y.a, instObj 135 y.d) :: (y.t, tupO (dotV x.its i (.str (Str.ofString ".") (y.tk 12))) 0) :: (y.la, y.lo) :: r
noncomputable abbrev closeL (w : World) (x : PR) (i : Nat) (y : IT) (nx : Value) (r : Led) : Led := (y.d, dictOf (itemE w x i y ++ [ent w "lr_next" (y.tk 11) nx]) 10) :: (y.a, instObj 135 y.d) :: (y.t, tupO (dotV x.its i (.str (Str.ofString ".") (y.tk 12))) 0) :: (y.la, y.lo) :: r
noncomputable def headRef (nx : Value) (r : List IT) : Value := match r with | [] => nx | z :: _ => .ref z.a
noncomputable def chainL (w : World) (x : PR) (nx : Value) : Nat → List IT → Led
  | _, [] => []
  | i, y :: r => closeL w x i y (headRef nx r) (y.ex ++ chainL w x nx (i + 1) r)
theorem chainL_snoc (w : World) (x : PR) (nx : Value) (y : IT) : ∀ (i : Nat) (zs : List IT), chainL w x nx i (zs ++ [y]) = chainL w x (.ref y.a) i zs ++ closeL w x (i + zs.length) y nx y.ex
  | i, [] => by simp [chainL, headRef]
  | i, z :: r => by
    have ih := chainL_snoc w x nx y (i + 1) r
    have e : headRef nx (r ++ [y]) = headRef (.ref y.a) r := by cases r <;> rfl
    have e2 : i + 1 + r.length = i + (z :: r).length := by simp; k_extra "o"
    rw [List.cons_append, chainL, ih, chainL, e, e2]
    simp
noncomputable def stOf (x : PR) : Str := x.name ++ Str.ofString " -> " ++ (if x.syms = [] then Str.ofString "<empty>" else Str.join (Str.ofString " ") x.syms)
noncomputable abbrev prL (w : World) (x : PR) (v1 v2 : Value) (r : Led) : Led := (x.dp, prodD w x v1 v2 (stOf x)) :: (x.p, instObj 100 x.dp) :: (x.tup, tupO (strV x.its) 0) :: (x.us, listOf (strV x.uv).toArray x.un) :: r
noncomputable def looseL (w : World) : List (PR × Value × Value) → Led
  | [] => []
  | y :: r => prL w y.1 y.2.1 y.2.2 (looseL w r)
theorem looseL_append (w : World) : ∀ a b, looseL w (a ++ b) = looseL w a ++ looseL w b
  | [], _ => rfl
  | y :: r, b => by simp [looseL, looseL_append w r b]
structure BR where
  x : PR
  li : Addr
  lk : Nat
  ys : List IT
noncomputable def BR.v1 (b : BR) : Value := .ref b.li
noncomputable def BR.v2 (b : BR) : Value := match b.ys with | [] => .none | y :: _ => .ref y.a
noncomputable abbrev itsOf (ys : List IT) : Array Value := (ys.map fun y => Value.ref y.a).toArray
noncomputable def builtL (w : World) : List BR → Led
  | [] => []
  | b :: r => prL w b.x b.v1 b.v2 ((b.li, listOf (itsOf b.ys) b.lk) :: (chainL w b.x .none 0 b.ys ++ builtL w r))
theorem builtL_append (w : World) : ∀ a b, builtL w (a ++ b) = builtL w a ++ builtL w b
  | [], _ => rfl
  | y :: r, b => by simp [builtL, builtL_append w r b]

noncomputable def cntOne (k : Nat) (a : Addr) : Nat := if a = k then 1 else 0
theorem cntOne_pos {k : Nat} {a : Addr} (h : a = k) : cntOne k a = 1 := if_pos h
theorem cntOne_neg {k : Nat} {a : Addr} (h : ¬ a = k) : cntOne k a = 0 := if_neg h
noncomputable def cnt (k : Nat) : Led → Nat
  | [] => 0
  | p :: r => cntOne k p.1 + cnt k r
theorem cnt_append (k : Nat) : ∀ a b, cnt k (a ++ b) = cnt k a + cnt k b
  | [], _ => by simp [cnt]
  | p :: r, b => by simp [cnt, cnt_append k r b, Nat.add_assoc]
noncomputable def Sep (l : Led) : Prop := ∀ k, cnt k l ≤ 1
theorem cnt_pos {k : Nat} : ∀ {l : Led}, (∃ q ∈ l, q.1 = k) → 1 ≤ cnt k l
  | [], h => by refine xE1A2 h ?_; (try clear h); intro q hq _; cases hq
  | p :: r, ⟨q, hq, e⟩ => by
    unfold cnt
    rcases List.mem_cons.mp hq with rfl | hq
    · rw [cntOne_pos e]; k_extra "o"
    · have := cnt_pos ⟨q, hq, e⟩
      k_extra "o"
theorem cnt_zero {k : Nat} {l : Led} (h : ∀ q ∈ l, q.1 ≠ k) : cnt k l = 0 := by
  induction l with
  | nil => rfl
  | cons p r ih =>
    unfold cnt
    rw [cntOne_neg (h p (.head _)), ih fun q hq => h q (.tail _ hq)]
theorem Sep.cons {p : Addr × Obj} {l : Led} (h : ∀ q ∈ l, q.1 ≠ p.1) (s : Sep l) : Sep (p :: l) := fun k => by
  unfold cnt
  have := s k
  by_cases e : p.1 = k
  · subst e
    rw [cntOne_pos rfl, cnt_zero h]; k_extra "o"
  · rw [cntOne_neg e]; k_extra "o"
theorem Sep.tail {p : Addr × Obj} {l : Led} (s : Sep (p :: l)) : Sep l := fun k => by
  have := s k
  unfold cnt at this
  k_extra "o"
theorem Sep.ne {p : Addr × Obj} {l : Led} (s : Sep (p :: l)) : ∀ q ∈ l, q.1 ≠ p.1 := fun q hq e => by
  have h := s p.1
  unfold cnt at h
  have := cnt_pos ⟨q, hq, e⟩
  rw [cntOne_pos rfl] at h
  k_extra "o"
theorem Sep.sub {a b : Led} (s : Sep a) (h : ∀ k, cnt k b ≤ cnt k a) : Sep b := fun k => Nat.le_trans (h k) (s k)
theorem Sep.nil : Sep [] := fun _ => Nat.zero_le _
noncomputable def NeA (a b : Addr) : Prop := a ≠ b
noncomputable def AllNe (d : Nat) : Led → Prop
  | [] => True
  | p :: r => NeA p.1 d ∧ AllNe d r
theorem allNe_of {d : Addr} : ∀ {l : Led}, (∀ p ∈ l, p.1 ≠ d) → AllNe d l
  | [], _ => trivial
  | p :: _, h => ⟨h p (.head _), allNe_of fun q hq => h q (.tail _ hq)⟩
theorem AllNe.to {d : Addr} : ∀ {l : Led}, AllNe d l → ∀ p ∈ l, p.1 ≠ d
  | [], _, _, h => nomatch h
  | p :: _, ⟨h, _⟩, q, hq => by
    rcases List.mem_cons.mp hq with rfl | hq
    · exact h
    · exact AllNe.to (by assumption) q hq
theorem Sep.put {a : Addr} {o : Obj} {l : Led} (h : ∀ q ∈ l, q.1 ≠ a) (s : Sep l) : Sep ((a, o) :: l) := Sep.cons h s
theorem Sep.chg2 {a b : Addr} {o o' p p' : Obj} {l : Led} (s : Sep ((a, o) :: (b, p) :: l)) : Sep ((a, o') :: (b, p') :: l) := s
theorem Sep.chg6 {a b c : Addr} {o o' p p' q q' : Obj} {e1 e2 e3 : Addr × Obj} {l : Led} (s : Sep ((a, o) :: (b, p) :: e1 :: e2 :: e3 :: (c, q) :: l)) : Sep ((a, o') :: (b, p') :: e1 :: e2 :: e3 :: (c, q') :: l) := s

inductive LT where
  | n
  | c (i : Nat) (t : LT)
  | l (j : Nat)
  | a (x y : LT)
noncomputable def nthE : List (Addr × Obj) → Nat → Addr × Obj
  | [], _ => (0, { cls := .none })
  | e :: _, 0 => e
  | _ :: r, i + 1 => nthE r i
noncomputable def nthL : List Led → Nat → Led
  | [], _ => []
  | e :: _, 0 => e
  | _ :: r, i + 1 => nthL r i
noncomputable def LT.den (es : List (Addr × Obj)) (ls : List Led) : LT → Led
  | .n => []
  | .c i t => nthE es i :: den es ls t
  | .l j => nthL ls j
  | .a x y => den es ls x ++ den es ls y
noncomputable def LT.flat : LT → List (Nat × Bool)
  | .n => []
  | .c i t => (i, true) :: flat t
  | .l j => [(j, false)]
  | .a x y => flat x ++ flat y
noncomputable def pieceE (es : List (Addr × Obj)) (ls : List Led) (p : Nat × Bool) : Led := match p.2 with | true => [nthE es p.1] | false => nthL ls p.1
noncomputable def subm : List (Nat × Bool) → List (Nat × Bool) → Bool
  | [], _ => true
  | x :: r, m => m.elem x && subm r (m.erase x)
theorem den_mem {es : List (Addr × Obj)} {ls : List Led} {q : Addr × Obj} : ∀ {t : LT}, q ∈ t.den es ls ↔ ∃ p ∈ t.flat, q ∈ pieceE es ls p
  | .n => ⟨fun h => (nomatch h), fun ⟨_, h, _⟩ => (nomatch h)⟩
  | .c i t => by
    refine ⟨fun h => ?_, fun ⟨p, hp, hq⟩ => ?_⟩
    · rcases List.mem_cons.mp h with h | h
      · exact ⟨(i, true), .head _, by rw [h]; exact .head _⟩
      · refine xE1A2 (den_mem.mp h) fun p hp hq => ?_
        exact ⟨p, .tail _ hp, hq⟩
    · rcases List.mem_cons.mp hp with rfl | hp
      · rw [List.mem_singleton.mp hq]; exact .head _
      · exact .tail _ (den_mem.mpr ⟨p, hp, hq⟩)
  | .l j => Iff.intro (fun h => ⟨(j, false), .head _, h⟩) (fun ⟨_, hp, hq⟩ => by rw [List.mem_singleton.mp hp] at hq; exact hq)
  | .a x y => by
    refine ⟨fun h => ?_, fun ⟨p, hp, hq⟩ => ?_⟩
    · rcases List.mem_append.mp h with h | h
      · refine xE1A2 (den_mem.mp h) fun p hp hq => ?_
        exact ⟨p, List.mem_append_left _ hp, hq⟩
      · refine xE1A2 (den_mem.mp h) fun p hp hq => ?_
        exact ⟨p, List.mem_append_right _ hp, hq⟩
    · rcases List.mem_append.mp hp with hp | hp
      · exact List.mem_append_left _ (den_mem.mpr ⟨p, hp, hq⟩)
      · exact List.mem_append_right _ (den_mem.mpr ⟨p, hp, hq⟩)
noncomputable def cntF (k : Nat) (es : List (Addr × Obj)) (ls : List Led) : List (Nat × Bool) → Nat
  | [] => 0
  | p :: r => cnt k (pieceE es ls p) + cntF k es ls r
theorem cntF_append {k : Nat} {es : List (Addr × Obj)} {ls : List Led} : ∀ (a b : List (Nat × Bool)), cntF k es ls (a ++ b) = cntF k es ls a + cntF k es ls b
  | [], _ => (Nat.zero_add _).symm
  | p :: r, b => by
    show _ + cntF k es ls (r ++ b) = _ + _ + _
    rw [cntF_append r b, Nat.add_assoc]
theorem den_cnt {k : Nat} {es : List (Addr × Obj)} {ls : List Led} : ∀ t : LT, cnt k (t.den es ls) = cntF k es ls t.flat
  | .n => rfl
  | .c i t => by
    show cntOne k _ + cnt k (t.den es ls) = cntOne k _ + 0 + cntF k es ls t.flat
    rw [den_cnt t, Nat.add_zero]
  | .l j => (Nat.add_zero _).symm
  | .a x y => by
    show cnt k (x.den es ls ++ y.den es ls) = cntF k es ls (x.flat ++ y.flat)
    rw [cnt_append, den_cnt x, den_cnt y, cntF_append]
theorem cntF_erase {k : Nat} {es : List (Addr × Obj)} {ls : List Led} {x : Nat × Bool} : ∀ {m : List (Nat × Bool)}, x ∈ m → cntF k es ls m = cnt k (pieceE es ls x) + cntF k es ls (m.erase x)
  | [], h => nomatch h
  | y :: r, h => by
    by_cases e : y = x
    · subst e
      rw [List.erase_cons_head]
      rfl
    · have hr : x ∈ r := (List.mem_cons.mp h).resolve_left fun q => e q.symm
      rw [List.erase_cons_tail (by simpa using e)]
      show _ + cntF k es ls r = _ + (_ + _)
      rw [cntF_erase hr, Nat.add_left_comm]
theorem subm_mem : ∀ {a b : List (Nat × Bool)}, subm a b = true → ∀ x ∈ a, x ∈ b
  | [], _, _, _, h => nomatch h
  | y :: r, b, h, x, hx => by
    have h := (Bool.and_eq_true _ _ ▸ h : b.elem y = true ∧ subm r (b.erase y) = true)
    rcases List.mem_cons.mp hx with rfl | hx
    · exact List.elem_iff.mp h.1
    · exact List.mem_of_mem_erase (subm_mem h.2 x hx)
theorem subm_cnt {k : Nat} {es : List (Addr × Obj)} {ls : List Led} : ∀ {a b : List (Nat × Bool)}, subm a b = true → cntF k es ls a ≤ cntF k es ls b
  | [], _, _ => Nat.zero_le _
  | y :: r, b, h => by
    have h := (Bool.and_eq_true _ _ ▸ h : b.elem y = true ∧ subm r (b.erase y) = true)
    rw [cntF_erase (List.elem_iff.mp h.1)]
    exact Nat.add_le_add_left (subm_cnt h.2) _
theorem nthE_fst {es es' : List (Addr × Obj)} (e : es.map (·.1) = es'.map (·.1)) : ∀ i, (nthE es i).1 = (nthE es' i).1 := by
  induction es generalizing es' with
  | nil => cases es' with
    | nil => exact fun _ => rfl
    | cons => cases e
  | cons p r ih => cases es' with
    | nil => cases e
    | cons p' r' =>
      refine xE0A2 (List.cons.inj e) fun e1 e2 => ?_
      intro i
      cases i with
      | zero => exact e1
      | succ i => exact ih e2 i
theorem cntF_fst {k : Nat} {es es' : List (Addr × Obj)} {ls : List Led} (e : es.map (·.1) = es'.map (·.1)) : ∀ l, cntF k es ls l = cntF k es' ls l
  | [] => rfl
  | (i, true) :: r => by
    show cntOne k (nthE es i).1 + 0 + _ = cntOne k (nthE es' i).1 + 0 + _
    rw [nthE_fst e, cntF_fst e r]
  | (i, false) :: r => by
    show cnt k (nthL ls i) + _ = cnt k (nthL ls i) + _
    rw [cntF_fst e r]
theorem ledIn (es : List (Addr × Obj)) (ls : List Led) (b a : LT) (h : subm b.flat a.flat = true) : ∀ q ∈ b.den es ls, q ∈ a.den es ls := fun _ hq =>
  let ⟨p, hp, hq⟩ := den_mem.mp hq
  den_mem.mpr ⟨p, subm_mem h p hp, hq⟩
theorem ledCnt (es : List (Addr × Obj)) (ls : List Led) (b a : LT) (h : subm b.flat a.flat = true) (k : Nat) : cnt k (b.den es ls) ≤ cnt k (a.den es ls) := by
  rw [den_cnt, den_cnt]
  exact subm_cnt h
theorem ledSep (es : List (Addr × Obj)) (ls : List Led) (b a : LT) (h : subm b.flat a.flat = true) (S : Sep (a.den es ls)) : Sep (b.den es ls) := S.sub (ledCnt es ls b a h)
theorem ledSep2 (es es' : List (Addr × Obj)) (ls : List Led) (b a : LT) (h : subm b.flat a.flat = true) (e : es'.map (·.1) = es.map (·.1)) (S : Sep (a.den es ls)) : Sep (b.den es' ls) := S.sub fun k => by
  rw [den_cnt, den_cnt, cntF_fst e]
  exact subm_cnt h
theorem ledCnt2 (es es' : List (Addr × Obj)) (ls : List Led) (b a : LT) (h : subm b.flat a.flat = true) (e : es'.map (·.1) = es.map (·.1)) (k : Nat) : cnt k (b.den es' ls) ≤ cnt k (a.den es ls) := by
  rw [den_cnt, den_cnt, cntF_fst e]
  exact subm_cnt h
noncomputable def LT.subst (s : LT) : LT → LT
  | .n => .n
  | .c i t => .c i (LT.subst s t)
  | .l 0 => s
  | .l (j + 1) => .l (j + 1)
  | .a x y => .a (LT.subst s x) (LT.subst s y)
theorem den_subst {es : List (Addr × Obj)} {ls : List Led} {s : LT} (e : nthL ls 0 = s.den es ls) : ∀ b : LT, (LT.subst s b).den es ls = b.den es ls
  | .n => rfl
  | .c i t => congrArg (nthE es i :: ·) (den_subst e t)
  | .l 0 => e.symm
  | .l (j + 1) => rfl
  | .a x y => by
    show (LT.subst s x).den es ls ++ (LT.subst s y).den es ls = x.den es ls ++ y.den es ls
    rw [den_subst e x, den_subst e y]
theorem ledIn1 (es : List (Addr × Obj)) (ls : List Led) (s b a : LT) (h : subm (LT.subst s b).flat a.flat = true) (e : nthL ls 0 = s.den es ls) : ∀ q ∈ b.den es ls, q ∈ a.den es ls := by
  rw [← den_subst e b]
  exact ledIn es ls _ a h
theorem ledCnt1 (es es' : List (Addr × Obj)) (ls : List Led) (s b a : LT) (h : subm (LT.subst s b).flat a.flat = true) (e' : es'.map (·.1) = es.map (·.1)) (e : nthL ls 0 = s.den es' ls) (k : Nat) : cnt k (b.den es' ls) ≤ cnt k (a.den es ls) := by
  rw [← den_subst e b]
  exact ledCnt2 es es' ls _ a h e' k

structure Gd (w : World) (mean : ExcName → Option Value) (mg mb : Str → Option Value) (A : Around) (h₀ : Heap) (ce : Env) (g₀ g : Heap) : Prop where
  T : KtsTurn ([ce].filterMap (·.frame)) g₀ g
  B : Below A h₀ [ce] g
  X : (hd.heap_1 w.params).In g
  P : Top hdV LOOSE mean mg mb g
  D : KtsDicts ([ce].filterMap (·.frame)) g
noncomputable def AtS (w : World) (mean : ExcName → Option Value) (mg mb : Str → Option Value) (A : Around) (h₀ : Heap) (ce : Env) (g₀ : Heap) (L : Addr) (s : Shared) (m : Str → Option Value) (nws : Led) (s' : Shared) : Prop :=
  ∃ g h tk, s' = { s with heap := h, toks := tk } ∧ Gd w mean mg mb A h₀ ce g₀ g ∧ Fr g L h m ∧ News g L h nws
theorem AtS.intro {w : World} {mean : ExcName → Option Value} {mg mb : Str → Option Value} {A : Around} {h₀ : Heap} {ce : Env} {g₀ g : Heap} {L : Addr} {s : Shared} {m : Str → Option Value} {nws : Led} {h : Heap} {tk : Tok}
    (T : KtsTurn ([ce].filterMap (·.frame)) g₀ g) (B : Below A h₀ [ce] g) (X : (hd.heap_1 w.params).In g) (P : Top hdV LOOSE mean mg mb g) (D : KtsDicts ([ce].filterMap (·.frame)) g) (F : Fr g L h m) (N : News g L h nws) :
    AtS w mean mg mb A h₀ ce g₀ L s m nws { s with heap := h, toks := tk } := ⟨g, h, tk, rfl, ⟨T, B, X, P, D⟩, F, N⟩
section
variable {prog : Program} {w : World} {mean : ExcName → Option Value} {mg mb : Str → Option Value} {Ac A : Around} {h₀ : Heap} {ce : Env} {g₀ : Heap} {s : Shared} {env : Env} {Q : Flow → Shared → Prop}

noncomputable def WhileS (w : World) (mean : ExcName → Option Value) (mg mb : Str → Option Value) (Ac : Around) (h₀ : Heap) (ce : Env) (g₀ : Heap) (L : Addr) (s : Shared) (J : Nat → (Str → Option Value) → Led → Prop) (Q : Flow → Shared → Prop) (n : Nat) (f : Flow) (s₃ : Shared) : Prop :=
  match f with
  | .next | .cont => ∃ n' m' nws', n' < n ∧ AtS w mean mg mb Ac h₀ ce g₀ L s m' nws' s₃ ∧ J n' m' nws'
  | .brk => Q .next s₃
  | .ret v => Q (.ret v) s₃
theorem while_S {test : Expr} {body : List Stmt} {pos : Pos} {m : Str → Option Value} {nws : Led} {n₀ : Nat} (J : Nat → (Str → Option Value) → Led → Prop) (st : AtS w mean mg mb Ac h₀ ce g₀ env.locals s m nws s) (hJ : J n₀ m nws)
    (turn : ∀ n g m₁ nws₁ h tk, Gd w mean mg mb Ac h₀ ce g₀ g → Fr g env.locals h m₁ → News g env.locals h nws₁ → J n m₁ nws₁ →
      wpAny (model prog w) A (isTrue test env (eval test env)) (fun b s₂ => if b = true then wpAny (model prog w) A (execs body env) (WhileS w mean mg mb Ac h₀ ce g₀ env.locals s J Q n) (fun _ _ => False) s₂ else Q .next s₂) (fun _ _ => False) { s with heap := h, toks := tk }) :
    wpAny (model prog w) A (exec (.While test body [] pos) env) Q (fun _ _ => False) s := by
  refine wpAny_While (codeAny_whileLoop (fun n s' => ∃ m nws, AtS w mean mg mb Ac h₀ ce g₀ env.locals s m nws s' ∧ J n m nws) ?_ n₀ ⟨m, nws, st, hJ⟩)
  intro n s' z1q; refine xE2A2 z1q ?_; (try clear z1q); intro m₁ nws₁ z2q hJ'; refine xE3A4 z2q ?_; (try clear z2q); intro g h tk z3q G F N; obtain rfl := z3q
  refine wpAny_mono (turn n g m₁ nws₁ h tk G F N hJ') (fun b s₂ h₂ => ?_) fun _ _ e => e.elim
  cases b with
  | false =>
    simp only [Bool.false_eq_true, if_false] at h₂ ⊢
    exact wpAny_execs_nil h₂
  | true =>
    simp only [if_true] at h₂ ⊢
    refine wpAny_mono h₂ (fun f s₃ h₃ => ?_) fun _ _ e => e.elim
    cases f with
    | next =>
      refine xE3A3 h₃ ?_; (try clear h₃); intro n' m' nws' hn hA hJ
      exact (yE1A2 n' hn (yE2A2 m' nws' hA hJ))
    | cont =>
      refine xE3A3 h₃ ?_; (try clear h₃); intro n' m' nws' hn hA hJ
      exact (yE1A2 n' hn (yE2A2 m' nws' hA hJ))
    | brk => exact h₃
    | ret v => exact h₃

noncomputable def ForS (w : World) (mean : ExcName → Option Value) (mg mb : Str → Option Value) (Ac : Around) (h₀ : Heap) (ce : Env) (g₀ : Heap) (L : Addr) (s : Shared) (lp : Addr × Obj) (I : Addr) (it : Obj) (J : (Str → Option Value) → Led → Prop) (Q : Flow → Shared → Prop) (f : Flow) (s₃ : Shared) : Prop :=
  match f with
  | .next | .cont => ∃ m' nws', AtS w mean mg mb Ac h₀ ce g₀ L s m' ((I, it) :: nws') s₃ ∧ (∀ p ∈ nws', p.1 ≠ I) ∧ lp ∈ nws' ∧ J m' nws'
  | .brk => Q .next s₃
  | .ret v => Q (.ret v) s₃
theorem for_S {x : Str} {px : Pos} {body : List Stmt} {ax : Addr} {k : Nat} {xs : List Value} {m : Str → Option Value} {nws : Led} (J : Nat → (Str → Option Value) → Led → Prop)
    (hx : env.kindOf x = some .local) (hp : (env.scope.kind == .class || (env.scope.kind == .module && env.locals != env.globals)) = false) (hh : A.handled = none)
    (st : AtS w mean mg mb Ac h₀ ce g₀ env.locals s m nws s) (hm : (ax, listOf xs.toArray k) ∈ nws) (hJ : J 0 m nws)
    (turn : ∀ i v I it g m₁ nws₁ h tk, xs[i]? = some v → Gd w mean mg mb Ac h₀ ce g₀ g → J i m₁ nws₁ → it.cls = .type "list_iterator" → (ax, listOf xs.toArray k) ∈ nws₁ → (∀ p ∈ nws₁, p.1 ≠ I) → Fr g env.locals h (fun y => if y = x then some v else m₁ y) → News g env.locals h ((I, it) :: nws₁) →
      wpAny (model prog w) A (execs body env) (ForS w mean mg mb Ac h₀ ce g₀ env.locals s (ax, listOf xs.toArray k) I it (J (i + 1)) Q) (fun _ _ => False) { s with heap := h, toks := tk })
    (done : ∀ g m₁ nws₁ h tk, Gd w mean mg mb Ac h₀ ce g₀ g → J xs.length m₁ nws₁ → Fr g env.locals h m₁ → News g env.locals h nws₁ → Q .next { s with heap := h, toks := tk }) :
    wpAny (model prog w) A (pyIter (.ref ax)) (fun it s₂ => codeAny (model prog w) A (.forLoop (.Name x px) it body [] env) (fun r s' => match r with | .ok f => Q f s' | .error e => cameBackBy (model prog w) A env (fun _ _ => False) e s') s₂) (fun _ _ => False) s := by
  refine xE3A4 st ?_; (try clear st); intro g h tk e G F N
  have hls : s.heap.IsList ax xs.toArray := by rw [e]; exact N.isList hm
  have hs : s.heap = h := by rw [e]
  refine wpAny_pyIter_list hls ?_
  have hI : ∀ p ∈ nws, p.1 ≠ s.heap.objs.size := fun p hp q => by
    have z := Heap.lt_size (N p hp).1
    rw [q, hs] at z
    exact Nat.lt_irrefl _ z
  have hIm : ∀ {o : Obj}, h.get? s.heap.objs.size = some o → False := fun z => by
    have z' := Heap.lt_size z
    rw [hs] at z'
    exact Nat.lt_irrefl _ z'
  have hIL : s.heap.objs.size ≠ env.locals := fun q => by
    refine xE3A2 (F.ns) fun oL _ _ z _ => ?_
    rw [← q] at z
    exact hIm z
  have hIg : g.get? s.heap.objs.size = none := by
    cases q : g.get? s.heap.objs.size with
    | none => rfl
    | some o => exact (hIm (F.keep _ _ q)).elim
  generalize hIe : s.heap.objs.size = I at hI hIL hIg hIm
  refine codeAny_forLoop (fun n s' => ∃ i it m nws g, n = xs.length - i ∧ i ≤ xs.length ∧ (∃ h tk, s' = { s with heap := h, toks := tk } ∧ Gd w mean mg mb Ac h₀ ce g₀ g ∧ Fr g env.locals h m ∧ News g env.locals h ((I, it) :: nws) ∧ h.IsListIter I ax i) ∧ (∀ p ∈ nws, p.1 ≠ I) ∧ (ax, listOf xs.toArray k) ∈ nws ∧ J i m nws) ?_ xs.length
    ⟨0, { cls := .type "list_iterator", data := .fields #[.ref ax, .int 0 0] }, m, nws, g, rfl, Nat.zero_le _, ⟨s.heap.push { cls := .type "list_iterator", data := .fields #[.ref ax, .int 0 0] }, s.toks, rfl, G, ?_, ?_, ?_⟩, hI, hm, hJ⟩
  · intro n s' z4q; refine xE5A6 z4q ?_; (try clear z4q); intro i it m₁ nws₁ g₁ z5q hi z6q hoff hmem hJ₁; obtain rfl := z5q; refine xE2A5 z6q ?_; (try clear z6q); intro h₁ tk₁ z7q G₁ F₁ N₁ hit; obtain rfl := z7q
    have hl₁ : h₁.IsList ax xs.toArray := News.isList N₁ (.tail _ hmem)
    have hg₁ : g₁.get? I = none := (N₁ (I, it) (.head _)).2.2
    have up : ∀ {h₂ : Heap}, Heap.ExtBut I h₁ h₂ → Fr g₁ env.locals h₂ m₁ := fun z =>
      ⟨F₁.ns.at' fun o e => z _ _ (Ne.symm hIL) e, fun b o e => z b o (fun q => by rw [q, hg₁] at e; cases e) (F₁.keep b o e), F₁.above⟩
    have upN : ∀ {h₂ : Heap}, Heap.ExtBut I h₁ h₂ → News g₁ env.locals h₂ nws₁ := fun z p hp =>
      ⟨z _ _ (hoff p hp) (N₁ p (.tail _ hp)).1, (N₁ p (.tail _ hp)).2⟩
    by_cases hlt : i < xs.length
    · have hxi : xs[i]? = some xs[i] := List.getElem?_eq_getElem hlt
      refine wpAny_pyNext_list_item hit hl₁ (x := xs[i]) (by rw [List.getElem?_toArray]; exact hxi) fun h₂ hit₂ hs₂ => ?_
      have F₂ := up hs₂.extBut
      have N₂ := upN hs₂.extBut
      have hit₂' := hit₂
      refine xE1A3 hit₂' ?_; (try clear hit₂'); intro o₂ ho₂ hc₂ hd₂
      refine wpAny_assign_Name (wpAny_storeName_local hx F₂.ns (fun h₃ hn₃ hs₃ => ?_) hp)
      have F₃ := F₂.set hn₃ hs₃
      have N₃ : News g₁ env.locals h₃ ((I, o₂) :: nws₁) := News.set (N := fun p hp => by
        rcases List.mem_cons.mp hp with rfl | hp
        · exact ⟨ho₂, hIL, hg₁⟩
        · exact N₂ p hp) hs₃
      refine wpAny_mono (turn i _ I o₂ g₁ m₁ nws₁ h₃ _ hxi G₁ hJ₁ hc₂ hmem hoff F₃ N₃) (fun f s₃ h₃' => ?_) fun _ _ e => e.elim
      have fin : (∃ m' nws', AtS w mean mg mb Ac h₀ ce g₀ env.locals s m' ((I, o₂) :: nws') s₃ ∧ (∀ p ∈ nws', p.1 ≠ I) ∧ (ax, listOf xs.toArray k) ∈ nws' ∧ J (i + 1) m' nws') → ∃ n', n' < xs.length - i ∧ ∃ i it m nws g, n' = xs.length - i ∧ i ≤ xs.length ∧ (∃ h tk, s₃ = { s with heap := h, toks := tk } ∧ Gd w mean mg mb Ac h₀ ce g₀ g ∧ Fr g env.locals h m ∧ News g env.locals h ((I, it) :: nws) ∧ h.IsListIter I ax i) ∧ (∀ p ∈ nws, p.1 ≠ I) ∧ (ax, listOf xs.toArray k) ∈ nws ∧ J i m nws := by
        intro z8q; refine xE2A4 z8q ?_; (try clear z8q); intro m' nws' z9q ho' hm' hJ'; refine xE3A4 z9q ?_; (try clear z9q); intro g' h' tk' e' G' F' N'
        exact (yE1A2 (xs.length - (i + 1)) (by k_extra "o") (yE5A6 (i + 1) o₂ m' nws' g' rfl hlt ⟨h', tk', e', G', F', N', ⟨o₂, (N' (I, o₂) (.head _)).1, hc₂, hd₂⟩⟩ ho' hm' hJ'))
      cases f with
      | next => exact fin h₃'
      | cont => exact fin h₃'
      | brk => exact h₃'
      | ret v => exact h₃'
    · obtain rfl : i = xs.length := Nat.le_antisymm hi (Nat.not_lt.mp hlt)
      refine wpAny_pyNext_list_end hh hit hl₁ (by simp) fun h₂ hs₂ => ?_
      exact wpAny_execs_nil (done g₁ m₁ nws₁ h₂ _ G₁ hJ₁ (up hs₂) (upN hs₂))
  · have up : ∀ b o, h.get? b = some o → (s.heap.push ({ cls := .type "list_iterator", data := .fields #[.ref ax, .int 0 0] } : Obj)).get? b = some o := fun b o z => Heap.get?_push_of_some _ (by rw [hs]; exact z)
    exact F.keeps up
  · intro p hp
    rcases List.mem_cons.mp hp with rfl | hp
    · refine ⟨?_, hIL, hIg⟩
      rw [← hIe]
      exact Heap.get?_push_size _ rfl
    · exact ⟨Heap.get?_push_of_some _ (by rw [hs]; exact (N p hp).1), (N p hp).2⟩
  · exact (yE1A2 _ (by rw [← hIe]; exact Heap.get?_push_size _ rfl) ⟨rfl, rfl⟩)
end
noncomputable def Halt (P : Prop) : Prop := P
theorem halt {P : Prop} (h : Halt P) : P := h
theorem over1 {m : Str → Option Value} {x : Str} {v : Option Value} (h : m x = v) : m = fun z => if z = x then v else m z := (over_eq [(x, v)] (by intro p hp; rw [List.mem_singleton.mp hp]; exact h)).symm
noncomputable def OvOK (m : Str → Option Value) : List (Str × Option Value) → Prop
  | [] => True
  | p :: r => m p.1 = p.2 ∧ OvOK m r
theorem OvOK.all {m : Str → Option Value} : ∀ {l : List (Str × Option Value)}, OvOK m l → ∀ p ∈ l, m p.1 = p.2
  | [], _, _, h => nomatch h
  | p :: _, ⟨h, _⟩, q, hq => by
    rcases List.mem_cons.mp hq with rfl | hq
    · exact h
    · exact OvOK.all (by assumption) q hq
theorem overF {g h : Heap} {L : Addr} {m : Str → Option Value} {l : List (Str × Option Value)} (F : Fr g L h m) (o : OvOK m l) : Fr g L h (over l m) := by rw [over_eq l o.all]; exact F
noncomputable def afterAt (kv : Str → List Value) (x : PR) (i : Nat) : List Value := match x.its[i]? with | none => [] | some s => kv s.1
structure ItOK (prog : Program) (w : World) (kv : Str → List Value) (x : PR) (fx : Led) (i : Nat) (y : IT) : Prop where
  bef : 0 < i → (strV x.its)[i - 1]? = some y.bef
  aft : ∃ n, (y.al, listOf (afterAt kv x i).toArray n) ∈ y.ex ++ fx
  los : y.lo.IsDictOf (PySem.strKind prog w) []
  loi : y.lo.IsDictOf (PySem.intKind prog w) []
  lol : (y.la == sysModules) = false
noncomputable abbrev S_ (s : String) : Str := Str.ofString s
noncomputable abbrev blM (G : GA) (x : PR) (last : Value) (i : Nat) (ti : Tok) (li : Addr) : List (Str × Option Value) :=
  [(S_ "self", some (.ref G.g)), (S_ "p", some (.ref x.p)), (S_ "lastlri", some last), (S_ "i", some (.int (i : Int) ti)), (S_ "lr_items", some (.ref li))]
noncomputable def BLJ (prog : Program) (w : World) (G : GA) (kv : Str → List Value) (fx : Led) (x : PR) (R : Led) (n : Nat) (m : Str → Option Value) (nws : Led) : Prop :=
  ∃ (i : Nat) (ti : Tok) (ys : List IT) (li : Addr) (lk : Nat), n = x.its.length + 2 - i ∧ i ≤ x.its.length + 1 ∧ ys.length = i ∧ Sep nws ∧ (∀ j y, ys[j]? = some y → ItOK prog w kv x fx j y) ∧
    ((ys = [] ∧ OvOK m (blM G x (.ref x.p) i ti li) ∧ ∃ v1 v2, nws = (li, listOf #[] lk) :: prL w x v1 v2 R) ∨
     (∃ zs y v1, ys = zs ++ [y] ∧ OvOK m (blM G x (.ref y.a) i ti li) ∧ nws = (li, listOf (itsOf ys) lk) :: openL w x zs.length y (prL w x v1 (headRef .none ys) (y.ex ++ chainL w x (.ref y.a) 0 zs ++ R))))
noncomputable def tkOf (l : List Tok) (k : Nat) : Tok := l.getD k 0
theorem lt_same {d : Addr} : ∀ {l l' : Led}, AllLt d l → l.map (·.1) = l'.map (·.1) → ∀ q ∈ l', q.1 ≠ d
  | [], [], _, _, _, hq => nomatch hq
  | [], _ :: _, _, e, _, _ => nomatch e
  | _ :: _, [], _, e, _, _ => nomatch e
  | p :: l, p' :: l', h, e, q, hq => by
    injection e with e1 e2
    rcases List.mem_cons.mp hq with rfl | hq
    · exact fun e3 => absurd h.1 (by rw [show p.1 = q.1 from e1, e3]; exact Nat.lt_irrefl _)
    · exact lt_same h.2 e2 q hq
section
variable {prog : Program} {w : World} {G : GA} {kv : Str → List Value} {fx : Led} {x : PR} {R : Led} {n i : Nat} {m : Str → Option Value} {g h : Heap} {L : Addr} {t la D a d al li : Addr} {lo od : Obj} {bef : Value} {ex : Led} {lk : Nat} {v1 : Value} {ti : Tok}
  {t0 t1 t2 t3 t4 t5 t6 t7 t8 t9 t10 t12 : Tok}
noncomputable abbrev newE (w : World) (x : PR) (i : Nat) (t la al : Addr) (bef : Value) (t0 t1 t2 t3 t4 t5 t6 t7 t8 t9 t10 : Tok) : List DictEntry := [ent w "name" t0 (.str x.name (x.tk 1)), ent w "prod" t1 (.ref t), ent w "number" t2 (.int x.num (x.tk 4)), ent w "lr_index" t3 (.int (i : Int) t4), ent w "lookaheads" t5 (.ref la),
  ent w "len" t6 (.int ((x.its.length + 1 : Nat) : Int) t7), ent w "usyms" t8 (.ref x.us), ent w "lr_after" t9 (.ref al), ent w "lr_before" t10 bef]
theorem blJ_first (F : Fr g L h m) (hi : i = 0) (hn : n = x.its.length + 2 - i)
    (N : News g L h (ex ++ (t, tupO (dotV x.its i (.str (Str.ofString ".") t12)) 0) :: (la, lo) :: (D, od) :: (a, instObj 135 d) :: (d, dictOf (newE w x i t la al bef t0 t1 t2 t3 t4 t5 t6 t7 t8 t9 t10) 9) :: (li, listOf #[.ref a] lk) :: prL w x v1 (.ref a) R))
    (hsep : Sep (ex ++ (t, tupO (dotV x.its i (.str (Str.ofString ".") t12)) 0) :: (la, lo) :: (D, od) :: (a, instObj 135 d) :: (d, dictOf (newE w x i t la al bef t0 t1 t2 t3 t4 t5 t6 t7 t8 t9 t10) 9) :: (li, listOf #[.ref a] lk) :: prL w x v1 (.ref a) R))
    (hm : OvOK m (blM G x (.ref a) (i + 1) ti li)) (haft : ∃ n, (al, listOf (afterAt kv x i).toArray n) ∈ ex ++ fx)
    (los : lo.IsDictOf (PySem.strKind prog w) []) (loi : lo.IsDictOf (PySem.intKind prog w) []) (lol : (la == sysModules) = false) :
    ∃ n' nws', n' < n ∧ News g L h nws' ∧ BLJ prog w G kv fx x R n' m nws' := by
  subst hi
  refine ⟨x.its.length + 2 - (0 + 1), (li, listOf (itsOf [IT.mk a d t la al lo bef ex (tkOf [t0, t1, t2, t3, t4, t5, t6, t7, t8, t9, t10, 0, t12])]) lk) :: openL w x 0 (IT.mk a d t la al lo bef ex (tkOf [t0, t1, t2, t3, t4, t5, t6, t7, t8, t9, t10, 0, t12])) (prL w x v1 (.ref a) (ex ++ [] ++ R)), by k_extra "o", News.perm N ?_,
    0 + 1, ti, [IT.mk a d t la al lo bef ex (tkOf [t0, t1, t2, t3, t4, t5, t6, t7, t8, t9, t10, 0, t12])], li, lk, rfl, by k_extra "o", rfl, ?_, ?_, .inr ⟨[], _, v1, rfl, hm, rfl⟩⟩
  · exact ledIn [_, _, _, _, _, _, _, _, _, _] [_, _] (.c 5 <| .c 4 <| .c 3 <| .c 0 <| .c 1 <| .c 6 <| .c 7 <| .c 8 <| .c 9 <| .a (.a (.l 0) <| .n) <| .l 1) (.a (.l 0) <| .c 0 <| .c 1 <| .c 2 <| .c 3 <| .c 4 <| .c 5 <| .c 6 <| .c 7 <| .c 8 <| .c 9 <| .l 1) rfl
  · (exact ledSep [_, _, _, _, _, _, _, _, _, _] [_, _] (.c 5 <| .c 4 <| .c 3 <| .c 0 <| .c 1 <| .c 6 <| .c 7 <| .c 8 <| .c 9 <| .a (.a (.l 0) <| .n) <| .l 1) (.a (.l 0) <| .c 0 <| .c 1 <| .c 2 <| .c 3 <| .c 4 <| .c 5 <| .c 6 <| .c 7 <| .c 8 <| .c 9 <| .l 1) rfl hsep)
  · intro j y hy
    cases j with
    | zero =>
      cases hy
      exact ⟨fun h => absurd h (by k_extra "o"), haft, los, loi, lol⟩
    | succ j => cases hy
theorem blJ_firstR {REST : Led} (hS : (x.us, listOf (strV x.uv).toArray x.un) :: R = REST) (F : Fr g L h m) (hi : i = 0) (hn : n = x.its.length + 2 - i)
    (N : News g L h (ex ++ (t, tupO (dotV x.its i (.str (Str.ofString ".") t12)) 0) :: (la, lo) :: (D, od) :: (a, instObj 135 d) :: (d, dictOf (newE w x i t la al bef t0 t1 t2 t3 t4 t5 t6 t7 t8 t9 t10) 9) :: (li, listOf #[.ref a] lk) :: (x.dp, prodD w x v1 (.ref a) (stOf x)) :: (x.p, instObj 100 x.dp) :: (x.tup, tupO (strV x.its) 0) :: REST))
    (hsep : Sep (ex ++ (t, tupO (dotV x.its i (.str (Str.ofString ".") t12)) 0) :: (la, lo) :: (D, od) :: (a, instObj 135 d) :: (d, dictOf (newE w x i t la al bef t0 t1 t2 t3 t4 t5 t6 t7 t8 t9 t10) 9) :: (li, listOf #[.ref a] lk) :: (x.dp, prodD w x v1 (.ref a) (stOf x)) :: (x.p, instObj 100 x.dp) :: (x.tup, tupO (strV x.its) 0) :: REST))
    (hm : OvOK m (blM G x (.ref a) (i + 1) ti li)) (haft : ∃ n, (al, listOf (afterAt kv x i).toArray n) ∈ ex ++ fx)
    (los : lo.IsDictOf (PySem.strKind prog w) []) (loi : lo.IsDictOf (PySem.intKind prog w) []) (lol : (la == sysModules) = false) :
    ∃ n' nws', n' < n ∧ News g L h nws' ∧ BLJ prog w G kv fx x R n' m nws' := by
  subst hS
  exact blJ_first F hi hn N hsep hm haft los loi lol
end
noncomputable def IT.set (y : IT) (t : Tok) : IT := { y with tk := fun k => if k = 11 then t else y.tk k }
theorem itsOf_snoc (ys : List IT) (y : IT) : itsOf (ys ++ [y]) = (itsOf ys).push (.ref y.a) := by simp [itsOf]
theorem headRef_snoc (nx : Value) (zs : List IT) (y : IT) (r : List IT) : headRef nx (zs ++ y :: r) = headRef (.ref y.a) zs := by cases zs <;> rfl
section
variable {prog : Program} {w : World} {G : GA} {kv : Str → List Value} {fx : Led} {x : PR} {R : Led} {n i : Nat} {m : Str → Option Value} {g h : Heap} {L : Addr} {t la D a d al li : Addr} {lo od : Obj} {bef : Value} {ex : Led} {lk lk' : Nat} {v1 : Value} {ti : Tok}
  {t0 t1 t2 t3 t4 t5 t6 t7 t8 t9 t10 t11 t12 : Tok} {zs : List IT} {yp : IT}
theorem blJ_next (F : Fr g L h m) (hys : (zs ++ [yp]).length = i) (hi : i ≤ x.its.length) (hn : n = x.its.length + 2 - i) (hok : ∀ j y, (zs ++ [yp])[j]? = some y → ItOK prog w kv x fx j y)
    (N : News g L h (ex ++ (t, tupO (dotV x.its i (.str (Str.ofString ".") t12)) 0) :: (la, lo) :: (D, od) :: (a, instObj 135 d) :: (d, dictOf (newE w x i t la al bef t0 t1 t2 t3 t4 t5 t6 t7 t8 t9 t10) 9) :: (li, listOf ((itsOf (zs ++ [yp])).push (.ref a)) lk) ::
      closeL w x zs.length yp' (.ref a) (prL w x v1 (headRef .none (zs ++ [yp])) (yp.ex ++ chainL w x (.ref yp.a) 0 zs ++ R)))) (hy' : yp' = yp.set t11)
    (hsep : Sep (ex ++ (t, tupO (dotV x.its i (.str (Str.ofString ".") t12)) 0) :: (la, lo) :: (D, od) :: (a, instObj 135 d) :: (d, dictOf (newE w x i t la al bef t0 t1 t2 t3 t4 t5 t6 t7 t8 t9 t10) 9) ::  (li, listOf ((itsOf (zs ++ [yp])).push (.ref a)) lk) ::
      closeL w x zs.length yp' (.ref a) (prL w x v1 (headRef .none (zs ++ [yp])) (yp.ex ++ chainL w x (.ref yp.a) 0 zs ++ R))))
    (hm : OvOK m (blM G x (.ref a) (i + 1) ti li)) (hbef : (strV x.its)[i - 1]? = some bef) (haft : ∃ n, (al, listOf (afterAt kv x i).toArray n) ∈ ex ++ fx)
    (los : lo.IsDictOf (PySem.strKind prog w) []) (loi : lo.IsDictOf (PySem.intKind prog w) []) (lol : (la == sysModules) = false) :
    ∃ n' nws', n' < n ∧ News g L h nws' ∧ BLJ prog w G kv fx x R n' m nws' := by
  have ea : yp'.a = yp.a := by rw [hy']; rfl
  have ex' : yp'.ex = yp.ex := by rw [hy']; rfl
  have hok' : ∀ j y, (zs ++ [yp'])[j]? = some y → ItOK prog w kv x fx j y := fun j y hy => by
    rw [List.getElem?_append] at hy
    split at hy
    · exact hok j y (by rw [List.getElem?_append_left (by assumption)]; exact hy)
    · cases e : j - zs.length with
      | zero =>
        rw [e] at hy
        cases hy
        have z := hok j yp (by rw [List.getElem?_append_right (by k_extra "o"), e]; rfl)
        subst hy'
        exact ⟨z.bef, z.aft, z.los, z.loi, z.lol⟩
      | succ k => rw [e] at hy; cases hy
  have hl : (zs ++ [yp']).length = i := by rw [← hys]; simp
  have hl' : zs.length + 1 = i := by rw [← hys]; simp
  have hch : chainL w x (.ref a) 0 (zs ++ [yp']) = chainL w x (.ref yp.a) 0 zs ++ closeL w x zs.length yp' (.ref a) yp.ex := by rw [chainL_snoc, ea, ex', Nat.zero_add]
  have hh : headRef .none ((zs ++ [yp']) ++ [IT.mk a d t la al lo bef ex (tkOf [t0, t1, t2, t3, t4, t5, t6, t7, t8, t9, t10, 0, t12])]) = headRef .none (zs ++ [yp]) := by
    rw [List.append_assoc, List.cons_append, headRef_snoc, headRef_snoc, ea]
  have hia : itsOf (zs ++ [yp']) = itsOf (zs ++ [yp]) := by simp [itsOf, ea]
  refine ⟨x.its.length + 2 - (i + 1), (li, listOf (itsOf ((zs ++ [yp']) ++ [IT.mk a d t la al lo bef ex (tkOf [t0, t1, t2, t3, t4, t5, t6, t7, t8, t9, t10, 0, t12])])) lk) :: openL w x (zs ++ [yp']).length (IT.mk a d t la al lo bef ex (tkOf [t0, t1, t2, t3, t4, t5, t6, t7, t8, t9, t10, 0, t12])) (prL w x v1 (headRef .none ((zs ++ [yp']) ++ [IT.mk a d t la al lo bef ex (tkOf [t0, t1, t2, t3, t4, t5, t6, t7, t8, t9, t10, 0, t12])])) (ex ++ chainL w x (.ref a) 0 (zs ++ [yp']) ++ R)), by k_extra "o", News.perm N ?_,
    i + 1, ti, (zs ++ [yp']) ++ [IT.mk a d t la al lo bef ex (tkOf [t0, t1, t2, t3, t4, t5, t6, t7, t8, t9, t10, 0, t12])], li, lk, rfl, by k_extra "o", by rw [List.length_append, hl]; rfl, ?_, ?_, .inr ⟨zs ++ [yp'], _, v1, rfl, hm, rfl⟩⟩
  · rw [hh, hch, itsOf_snoc, hia, hl]
    exact ledIn [_, _, _, _, _, _, _, _, _, _, _, _, _, _] [_, _, _, _] (.c 5 <| .c 4 <| .c 3 <| .c 0 <| .c 1 <| .c 10 <| .c 11 <| .c 12 <| .c 13 <| .a (.a (.l 0) <| .a (.l 2) <| .c 6 <| .c 7 <| .c 8 <| .c 9 <| .l 1) <| .l 3) (.a (.l 0) <| .c 0 <| .c 1 <| .c 2 <| .c 3 <| .c 4 <| .c 5 <| .c 6 <| .c 7 <| .c 8 <| .c 9 <| .c 10 <| .c 11 <| .c 12 <| .c 13 <| .a (.a (.l 1) <| .l 2) <| .l 3) rfl
  · rw [hh, hch, itsOf_snoc, hia, hl]
    (exact ledSep [_, _, _, _, _, _, _, _, _, _, _, _, _, _] [_, _, _, _] (.c 5 <| .c 4 <| .c 3 <| .c 0 <| .c 1 <| .c 10 <| .c 11 <| .c 12 <| .c 13 <| .a (.a (.l 0) <| .a (.l 2) <| .c 6 <| .c 7 <| .c 8 <| .c 9 <| .l 1) <| .l 3) (.a (.l 0) <| .c 0 <| .c 1 <| .c 2 <| .c 3 <| .c 4 <| .c 5 <| .c 6 <| .c 7 <| .c 8 <| .c 9 <| .c 10 <| .c 11 <| .c 12 <| .c 13 <| .a (.a (.l 1) <| .l 2) <| .l 3) rfl hsep)
  · intro j y hy
    rw [List.getElem?_append] at hy
    split at hy
    · exact hok' j y hy
    · cases e : j - (zs ++ [yp']).length with
      | zero =>
        rw [e] at hy
        cases hy
        have hj : j = i := by k_extra "o"
        subst hj
        exact ⟨fun _ => hbef, haft, los, loi, lol⟩
      | succ k => rw [e] at hy; cases hy
theorem blJ_nextR {REST : Led} (hS : (x.us, listOf (strV x.uv).toArray x.un) :: (yp.ex ++ chainL w x (.ref yp.a) 0 zs ++ R) = REST) (F : Fr g L h m) (hys : (zs ++ [yp]).length = i) (hi : i ≤ x.its.length) (hn : n = x.its.length + 2 - i) (hok : ∀ j y, (zs ++ [yp])[j]? = some y → ItOK prog w kv x fx j y)
    (N : News g L h (ex ++ (t, tupO (dotV x.its i (.str (Str.ofString ".") t12)) 0) :: (la, lo) :: (D, od) :: (a, instObj 135 d) :: (d, dictOf (newE w x i t la al bef t0 t1 t2 t3 t4 t5 t6 t7 t8 t9 t10) 9) :: (li, listOf ((itsOf (zs ++ [yp])).push (.ref a)) lk) ::
      closeL w x zs.length yp' (.ref a) ((x.dp, prodD w x v1 (headRef .none (zs ++ [yp])) (stOf x)) :: (x.p, instObj 100 x.dp) :: (x.tup, tupO (strV x.its) 0) :: REST))) (hy' : yp' = yp.set t11)
    (hsep : Sep (ex ++ (t, tupO (dotV x.its i (.str (Str.ofString ".") t12)) 0) :: (la, lo) :: (D, od) :: (a, instObj 135 d) :: (d, dictOf (newE w x i t la al bef t0 t1 t2 t3 t4 t5 t6 t7 t8 t9 t10) 9) ::  (li, listOf ((itsOf (zs ++ [yp])).push (.ref a)) lk) ::
      closeL w x zs.length yp' (.ref a) ((x.dp, prodD w x v1 (headRef .none (zs ++ [yp])) (stOf x)) :: (x.p, instObj 100 x.dp) :: (x.tup, tupO (strV x.its) 0) :: REST)))
    (hm : OvOK m (blM G x (.ref a) (i + 1) ti li)) (hbef : (strV x.its)[i - 1]? = some bef) (haft : ∃ n, (al, listOf (afterAt kv x i).toArray n) ∈ ex ++ fx)
    (los : lo.IsDictOf (PySem.strKind prog w) []) (loi : lo.IsDictOf (PySem.intKind prog w) []) (lol : (la == sysModules) = false) :
    ∃ n' nws', n' < n ∧ News g L h nws' ∧ BLJ prog w G kv fx x R n' m nws' := by
  subst hS
  exact blJ_next F hys hi hn hok N hy' hsep hm hbef haft los loi lol
end
section
variable {prog : Program} {w : World} {kv : Str → List Value} {fx : Led} {x : PR} {g h : Heap} {L I : Addr} {it : Obj} {li : Addr} {lk : Nat} {t11 : Tok} {zs : List IT} {yp yp' : IT} {bs : List BR} {rest : List (PR × Value × Value)}
theorem blJ_exit (N : News g L h ((li, listOf (itsOf (zs ++ [yp])) lk) :: closeL w x zs.length yp' .none (prL w x (.ref li) (headRef .none (zs ++ [yp])) (yp.ex ++ chainL w x (.ref yp.a) 0 zs ++ (I, it) :: (fx ++ builtL w bs ++ looseL w rest))))) (hy' : yp' = yp.set t11)
    (hsep : Sep ((li, listOf (itsOf (zs ++ [yp])) lk) :: closeL w x zs.length yp' .none (prL w x (.ref li) (headRef .none (zs ++ [yp])) (yp.ex ++ chainL w x (.ref yp.a) 0 zs ++ (I, it) :: (fx ++ builtL w bs ++ looseL w rest)))))
    (hok : ∀ j y, (zs ++ [yp])[j]? = some y → ItOK prog w kv x fx j y) :
    ∃ b : BR, b.x = x ∧ b.ys.length = (zs ++ [yp]).length ∧ (∀ j y, b.ys[j]? = some y → ItOK prog w kv x fx j y) ∧ News g L h ((I, it) :: (fx ++ builtL w (bs ++ [b]) ++ looseL w rest)) ∧ Sep ((I, it) :: (fx ++ builtL w (bs ++ [b]) ++ looseL w rest)) := by
  have ea : yp'.a = yp.a := by rw [hy']; rfl
  have ex' : yp'.ex = yp.ex := by rw [hy']; rfl
  have hok' : ∀ j y, (zs ++ [yp'])[j]? = some y → ItOK prog w kv x fx j y := fun j y hy => by
    rw [List.getElem?_append] at hy
    split at hy
    · exact hok j y (by rw [List.getElem?_append_left (by assumption)]; exact hy)
    · cases e : j - zs.length with
      | zero =>
        rw [e] at hy
        cases hy
        have z := hok j yp (by rw [List.getElem?_append_right (by k_extra "o"), e]; rfl)
        subst hy'
        exact ⟨z.bef, z.aft, z.los, z.loi, z.lol⟩
      | succ k => rw [e] at hy; cases hy
  have hch : chainL w x .none 0 (zs ++ [yp']) = chainL w x (.ref yp.a) 0 zs ++ closeL w x zs.length yp' .none yp.ex := by rw [chainL_snoc, ea, ex', Nat.zero_add]
  have hia : itsOf (zs ++ [yp']) = itsOf (zs ++ [yp]) := by simp [itsOf, ea]
  have hv2 : BR.v2 ⟨x, li, lk, zs ++ [yp']⟩ = headRef .none (zs ++ [yp]) := by
    cases zs with
    | nil => show Value.ref yp'.a = Value.ref yp.a; rw [ea]
    | cons z r => rfl
  have hB : builtL w [⟨x, li, lk, zs ++ [yp']⟩] = prL w x (.ref li) (headRef .none (zs ++ [yp])) ((li, listOf (itsOf (zs ++ [yp])) lk) :: (chainL w x (.ref yp.a) 0 zs ++ closeL w x zs.length yp' .none yp.ex ++ [])) := by
    simp only [builtL, hv2, hia, hch]; rfl
  refine (yE1A4 ⟨x, li, lk, zs ++ [yp']⟩ rfl (by simp) hok' ⟨News.perm N ?_, ?_⟩)
  · rw [builtL_append, hB]
    exact ledIn [_, _, _, _, _, _, _, _, _, _] [_, _, _, _, _] (.c 9 <| .a (.a (.l 2) <| .a (.l 3) <| .c 5 <| .c 6 <| .c 7 <| .c 8 <| .c 0 <| .a (.a (.l 1) <| .c 1 <| .c 2 <| .c 3 <| .c 4 <| .l 0) <| .n) <| .l 4) (.c 0 <| .c 1 <| .c 2 <| .c 3 <| .c 4 <| .c 5 <| .c 6 <| .c 7 <| .c 8 <| .a (.a (.l 0) <| .l 1) <| .c 9 <| .a (.a (.l 2) <| .l 3) <| .l 4) rfl
  · rw [builtL_append, hB]
    exact ledSep [_, _, _, _, _, _, _, _, _, _] [_, _, _, _, _] (.c 9 <| .a (.a (.l 2) <| .a (.l 3) <| .c 5 <| .c 6 <| .c 7 <| .c 8 <| .c 0 <| .a (.a (.l 1) <| .c 1 <| .c 2 <| .c 3 <| .c 4 <| .l 0) <| .n) <| .l 4) (.c 0 <| .c 1 <| .c 2 <| .c 3 <| .c 4 <| .c 5 <| .c 6 <| .c 7 <| .c 8 <| .a (.a (.l 0) <| .l 1) <| .c 9 <| .a (.a (.l 2) <| .l 3) <| .l 4) rfl hsep
end
noncomputable def Pick (vs : List Value) (k : Int) (x : Value) : Prop := (-(2 ^ 63) ≤ k ∧ k < 2 ^ 63) ∧ ∃ j, seqIndex? k vs.length = some j ∧ vs[j]? = some x
noncomputable def NoPick (vs : List Value) (k : Int) : Prop := (-(2 ^ 63) ≤ k ∧ k < 2 ^ 63) ∧ seqIndex? k vs.length = none
section
variable {prog : Program} {w : World} {A : Around} {E : Value → Shared → Prop} {s : Shared} {h₀ : Heap} {L t : Addr} {news : Led} {vs : List Value} {n : Nat} {Q : Value → Shared → Prop}
theorem item_pick {value slice : Expr} {k : Int} {u : Tok} {x : Value} (N : News h₀ L s.heap news) (hm : (t, tupO vs n) ∈ news) (hx : Pick vs k x) (h : Q x s)
    (hs : subscripted slice false (.ref t) (.int k u) = operate [.ref t, .int k u] (getItem (.ref t) (.int k u)) := by with_unfolding_all rfl) :
    wpAny (model prog w) A (subscriptTail value slice (.ref t) (.int k u)) Q E s := by
  refine xE0A2 hx ?_; (try clear hx); intro z10q z11q; refine xE1A2 z11q ?_; (try clear z11q); intro j hj hx; refine xE0A2 z10q ?_; (try clear z10q); intro hlo hhi
  exact item_tupleT (N.isTup hm) hlo hhi hj hx h hs
end
section
variable {prog : Program} {w : World} {A : Around} {E : Value → Shared → Prop} {s : Shared} {h₀ : Heap} {L t : Addr} {m : Str → Option Value} {news : Led} {n : Nat} {Q : Value → Shared → Prop} {its : List (Str × Tok)}
theorem list_strs (F : Fr h₀ L s.heap m) (N : News h₀ L s.heap news) (hm : (t, tupO (strV its) n) ∈ news) (hz : its.length ≤ 100)
    (h : ∀ D c h', Fr h₀ L h' m → News h₀ L h' ((D, listOf (strV its).toArray c) :: news) → (∀ q ∈ news, q.1 < D) → Q (.ref D) { s with heap := h' }) : wpAny (model prog w) A (call (.type "list") [.ref t]) Q E s :=
  list_copyKT F N (N.isTup hm) (fun D c h' F' N' l1 => h D c h' F' N' l1) (by rw [sizeLine_eq]; simp; k_extra "o")
end
open PySem.Calls in
section
variable {prog : Program} {w : World} {A : Around} {E : Value → Shared → Prop} {s : Shared}
theorem getItem_tuple_out {t : Addr} {items : Array Value} {k : Int} {u : Tok} {Q : Value → Shared → Prop} (hA : A.handled = none) (ht : IsTup s.heap t items)
    (hlo : -(2 ^ 63) ≤ k) (hhi : k < 2 ^ 63) (hj : seqIndex? k items.size = none) (hE : ∀ h' tk e, Heap.NewExc s.heap h' e "IndexError" → E (.ref e) { s with heap := h', toks := tk }) : wpAny (model prog w) A (getItem (.ref t) (.int k u)) Q E s := by
  unfold getItem
  try with_reducible refine wpAny_holding ?_
  first | refine wpAny_bind (wpAny_pure ?_) | skip
  refine wpAny_bind (wpAny_sequenceKey ht.typeIs (by decide) ?_)
  refine wpAny_bind (wpAny_callSpecial?_slot (name := Str.ofString "__getitem__") ht.typeIs slot_tuple_getitem
    (wpAny_call_entry slot_tuple_getitem ht.typeIs entry_tuple_getitem ?_ (args_tuple_getitem _ _)))
  show wpAny _ _ (Builtin.Tuple.tupleItemsOf (.ref t) >>= _) _ _ s
  refine wpAny_bind (tupleItemsOf_ ht ?_)
  refine wpAny_bind (wpAny_typeOf (typeIs_int s k u) ?_)
  rw [if_neg (by decide)]
  refine wpAny_bind (wpAny_specialOf (T := "int") (typeIs_int s k u) int_index ?_)
  rw [if_neg (by simp)]
  refine wpAny_bind (wpAny_of_eq (a := k) rfl ?_)
  rw [if_neg (by simp only [Bool.or_eq_true, decide_eq_true_eq]; k_extra "o")]
  simp only [hj, Option.bind_none]
  first
    | exact wpAny_bind (wpAny_rule (by exact_raiseError plainExc_IndexError hA hE))
    | exact wpAny_bind (wpAny_rule (wpAny_bind (by exact_raiseError plainExc_IndexError hA hE)))
    | exact wpAny_bind (wpAny_bind (wpAny_rule (by exact_raiseError plainExc_IndexError hA hE)))
    | exact wpAny_rule (by exact_raiseError plainExc_IndexError hA hE)
variable {h₀ : Heap} {L t : Addr} {news : Led} {vs : List Value} {n : Nat} {Q : Value → Shared → Prop} {K : Type} [DecidableEq K] {knd : KeyKind prog w K} {d : Addr} {o : Obj} {kvs : List (K × Value)} {key v : Value} {kx : K}
theorem item_nopick {value slice : Expr} {k : Int} {u : Tok} (hA : A.handled = none) (N : News h₀ L s.heap news) (hm : (t, tupO vs n) ∈ news) (hx : NoPick vs k) (hE : ∀ h' tk e, Heap.NewExc s.heap h' e "IndexError" → E (.ref e) { s with heap := h', toks := tk })
    (hs : subscripted slice false (.ref t) (.int k u) = operate [.ref t, .int k u] (getItem (.ref t) (.int k u)) := by with_unfolding_all rfl) :
    wpAny (model prog w) A (subscriptTail value slice (.ref t) (.int k u)) Q E s := by
  refine xE0A2 hx ?_; (try clear hx); intro z12q hj; refine xE0A2 z12q ?_; (try clear z12q); intro hlo hhi
  exact tail_any (N.isTup hm).typeIs slot_tuple_getitem.lookup (getItem_tuple_out hA (N.isTup hm) hlo hhi (by simpa using hj) hE) hs
theorem dict_missing {value slice : Expr} (N : News h₀ L s.heap news) (hp : (d, o) ∈ news) (hd : o.IsDictOf knd kvs) (lo : (d == sysModules) = false) (hh : A.handled = none) (hkey : knd.is kx key = true) (hl : valueAt kvs kx = none)
    (h : ∀ h' e, Heap.NewExc s.heap h' e "KeyError" → E (.ref e) { s with heap := h', toks := s.toks + 1 })
    (hs : subscripted slice false (.ref d) key = operate [.ref d, key] (getItem (.ref d) key) := by with_unfolding_all rfl) (hg : ∀ r, letTemporaryGo value (.ref d) r = pure () := by intro _; with_unfolding_all rfl) :
    wpAny (model prog w) A (subscriptTail value slice (.ref d) key) Q E s :=
  have hD := kda_dict N hp hd
  subscriptTail_builtin hD.typeIs slot_dict_getitem.lookup (wpAny_getItem_missing_of hkey lo hh hD.mapOf hl h) hs hg
end
noncomputable def PickDot (its : List (Str × Tok)) (i : Nat) (k : Int) (v : Value) : Prop := ∀ y, Pick (dotV its i y) k v
theorem PickDot.at {its : List (Str × Tok)} {i : Nat} {k : Int} {v y : Value} (h : PickDot its i k v) : Pick (dotV its i y) k v := h y
noncomputable def NoPickDot (its : List (Str × Tok)) (i : Nat) (k : Int) : Prop := ∀ y, NoPick (dotV its i y) k
theorem NoPickDot.at {its : List (Str × Tok)} {i : Nat} {k : Int} {y : Value} (h : NoPickDot its i k) : NoPick (dotV its i y) k := h y
theorem seqIndex_nat {n j : Nat} (h : j < n) : seqIndex? (j : Int) n = some j := by
  unfold seqIndex?
  have : ¬ (j : Int) < 0 := by k_extra "o"
  simp [this]
  k_extra "o"
theorem seqIndex_nat_out {n j : Nat} (h : n ≤ j) : seqIndex? (j : Int) n = none := by
  unfold seqIndex?
  have : ¬ (j : Int) < 0 := by k_extra "o"
  simp [this]
  k_extra "o"
theorem pickDot_next {its : List (Str × Tok)} {i : Nat} {s : Str} {t : Tok} (h : its[i]? = some (s, t)) (hl : its.length ≤ 3) : PickDot its i ((i : Int) + 1) (.str s t) := fun y => by
  have hi : i < its.length := (List.getElem?_eq_some_iff.mp h).1
  refine (yE0A2 ⟨by k_extra "o", by k_extra "o"⟩ (yE1A1 (i + 1) ⟨?_, ?_⟩))
  · rw [dotV_length (by k_extra "o")]
    exact seqIndex_nat (j := i + 1) (by k_extra "o")
  · rw [dotV_behind (by k_extra "o") (Nat.le_refl _), List.getElem?_map, h]; rfl
theorem noPickDot_next {its : List (Str × Tok)} {i : Nat} (h : i = its.length) (hl : its.length ≤ 3) : NoPickDot its i ((i : Int) + 1) := fun y => by
  refine ⟨⟨by k_extra "o", by k_extra "o"⟩, ?_⟩
  rw [dotV_length (by k_extra "o")]
  exact seqIndex_nat_out (j := i + 1) (by k_extra "o")
theorem pickDot_prev {its : List (Str × Tok)} {i : Nat} (hi : i ≤ its.length) (hl : its.length ≤ 3) (h0 : 0 < i) : ∃ v, (strV its)[i - 1]? = some v ∧ PickDot its i ((i : Int) - 1) v := by
  have h1 : i - 1 < (strV its).length := by rw [strV_length]; k_extra "o"
  refine ⟨_, List.getElem?_eq_getElem h1, fun y => ⟨⟨by k_extra "o", by k_extra "o"⟩, i - 1, ?_, ?_⟩⟩
  · rw [dotV_length (by k_extra "o"), show ((i : Int) - 1) = ((i - 1 : Nat) : Int) by k_extra "o"]
    exact seqIndex_nat (by k_extra "o")
  · rw [dotV_before hi (by k_extra "o")]
    exact List.getElem?_eq_getElem h1
noncomputable def PickAny (its : List (Str × Tok)) (i : Nat) (k : Int) : Prop := ∀ y, ∃ v, Pick (dotV its i y) k v
theorem pickAny_last {its : List (Str × Tok)} {i : Nat} (hi : i = 0) (hl : its.length ≤ 3) : PickAny its i ((i : Int) - 1) := fun y => by
  subst hi
  have h1 : its.length < (dotV its 0 y).length := by rw [dotV_length (by k_extra "o")]; k_extra "o"
  refine (yE1A2 ((dotV its 0 y)[its.length]) ⟨by k_extra "o", by k_extra "o"⟩ (yE1A1 (its.length) ⟨?_, List.getElem?_eq_getElem h1⟩))
  rw [dotV_length (by k_extra "o")]
  have := seqIndex_nat (Nat.lt_succ_self its.length)
  unfold seqIndex? at this ⊢
  rw [if_neg (Int.not_lt.mpr (Int.natCast_nonneg _))] at this
  rw [if_pos (show ((0 : Nat) : Int) - 1 < 0 by decide), show ((0 : Nat) : Int) - 1 + ((its.length + 1 : Nat) : Int) = (its.length : Int) from uI]
  exact this
section
variable {prog : Program} {w : World} {A : Around} {E : Value → Shared → Prop} {s : Shared} {h₀ : Heap} {L t : Addr} {news : Led} {n : Nat} {Q : Value → Shared → Prop}
theorem item_pickAny {value slice : Expr} {k : Int} {u : Tok} {its : List (Str × Tok)} {i : Nat} {y : Value} (N : News h₀ L s.heap news) (hm : (t, tupO (dotV its i y) n) ∈ news) (hx : PickAny its i k) (h : ∀ v, Q v s)
    (hs : subscripted slice false (.ref t) (.int k u) = operate [.ref t, .int k u] (getItem (.ref t) (.int k u)) := by with_unfolding_all rfl) :
    wpAny (model prog w) A (subscriptTail value slice (.ref t) (.int k u)) Q E s := by
  refine xE1A1 (hx y) fun v hv => ?_
  exact item_pick N hm hv (h v) hs
end
theorem WhileS.nextOf {w : World} {mean : ExcName → Option Value} {mg mb : Str → Option Value} {A : Around} {h₀ : Heap} {ce : Env} {g₀ g : Heap} {L : Addr} {s : Shared} {m : Str → Option Value} {h : Heap} {tk : Tok} {J : Nat → (Str → Option Value) → Led → Prop} {Q : Flow → Shared → Prop} {n : Nat}
    (T : KtsTurn ([ce].filterMap (·.frame)) g₀ g) (B : Below A h₀ [ce] g) (X : (hd.heap_1 w.params).In g) (P : Top hdV LOOSE mean mg mb g) (D : KtsDicts ([ce].filterMap (·.frame)) g) (F : Fr g L h m)
    (K : ∃ n' nws', n' < n ∧ News g L h nws' ∧ J n' m nws') : WhileS w mean mg mb A h₀ ce g₀ L s J Q n .next { s with heap := h, toks := tk } := by
  refine xE2A3 K ?_; (try clear K); intro n' nws' hlt N' J'
  exact (yE3A3 n' m nws' hlt (AtS.intro T B X P D F N') J')
inductive PosA (a : Addr) : Led → Prop
  | head {o : Obj} {l : Led} : PosA a ((a, o) :: l)
  | tail {p : Addr × Obj} {l : Led} : PosA a l → PosA a (p :: l)
inductive Suf (r : Led) : Led → Prop
  | refl : Suf r r
  | tail {p : Addr × Obj} {l : Led} : Suf r l → Suf r (p :: l)
theorem PosA.lt {a d : Addr} : ∀ {l : Led}, PosA a l → AllLt d l → @LT.lt Nat _ a d
  | _, .head, h => h.1
  | _, .tail p, h => p.lt h.2
theorem PosA.nea {a d : Addr} : ∀ {l : Led}, PosA a l → AllNe d l → @Ne Nat a d
  | _, .head, h => h.1
  | _, .tail p, h => p.nea h.2
theorem lt_pos {a d : Addr} {l : Led} (h : AllLt d l) (p : PosA a l) : @Ne Nat a d := Nat.ne_of_lt (p.lt h)
theorem lt_pos' {a d : Addr} {l : Led} (h : AllLt d l) (p : PosA a l) : @Ne Nat d a := Nat.ne_of_gt (p.lt h)
theorem lt_up {a d x : Addr} {l : Led} (hx : @LT.lt Nat _ d x) (h : AllLt d l) (p : PosA a l) : @Ne Nat a x := Nat.ne_of_lt (Nat.lt_trans (p.lt h) hx)
theorem lt_up' {a d x : Addr} {l : Led} (hx : @LT.lt Nat _ d x) (h : AllLt d l) (p : PosA a l) : @Ne Nat x a := Nat.ne_of_gt (Nat.lt_trans (p.lt h) hx)
theorem ne_pos {a d : Addr} {l : Led} (h : AllNe d l) (p : PosA a l) : @Ne Nat a d := p.nea h
theorem ne_pos' {a d : Addr} {l : Led} (h : AllNe d l) (p : PosA a l) : @Ne Nat d a := (p.nea h).symm
theorem Suf.lt {d : Addr} {r : Led} : ∀ {l : Led}, Suf r l → AllLt d l → AllLt d r
  | _, .refl, h => h
  | _, .tail p, h => p.lt h.2
theorem Suf.nea {d : Addr} {r : Led} : ∀ {l : Led}, Suf r l → AllNe d l → AllNe d r
  | _, .refl, h => h
  | _, .tail p, h => p.nea h.2
theorem lt_suf {d : Addr} {l r : Led} (h : AllLt d l) (p : Suf r l) : ∀ q ∈ r, q.1 ≠ d := tbn_neAll (p.lt h)
theorem ne_suf {d : Addr} {l r : Led} (h : AllNe d l) (p : Suf r l) : ∀ q ∈ r, q.1 ≠ d := AllNe.to (p.nea h)
theorem allLt_up {d d' : Addr} : ∀ {l : Led}, AllLt d l → @LT.lt Nat _ d d' → AllLt d' l
  | [], _, _ => trivial
  | _ :: _, ⟨h, r⟩, hd => ⟨Nat.lt_trans h hd, allLt_up r hd⟩
theorem lt_sufU {d x : Addr} {l r : Led} (hx : @LT.lt Nat _ d x) (h : AllLt d l) (p : Suf r l) : ∀ q ∈ r, q.1 ≠ x := tbn_neAll (allLt_up (p.lt h) hx)
theorem NeA.to {a b : Addr} (h : NeA a b) : @Ne Nat a b := h
theorem NeA.to' {a b : Addr} (h : NeA b a) : @Ne Nat a b := Ne.symm h
noncomputable def StopHere : Prop := True
theorem stopHere : StopHere := trivial

open PySem.Calls in
section
structure BornExc (h h' : Heap) (e : Addr) (cls : Value) : Prop where
  keeps : ∀ b o, h.get? b = some o → h'.get? b = some o
  new : h.get? e = none
  there : ∃ ob vs a0, h'.get? e = some ob ∧ ob.cls = cls ∧ ob.data = .fields vs ∧ vs[1]? = some .none ∧ vs[0]? = some a0
theorem BornExc.ofNew {h h' : Heap} {e : Addr} {X : String} (x : Heap.NewExc h h' e X) : BornExc h h' e (.type X) :=
  ⟨x.keeps, x.new, let ⟨ob, t, a, b, c⟩ := x.there; ⟨ob, _, t, a, b, c, rfl, rfl⟩⟩
theorem BornExc.ofMade {h h' : Heap} {e : Addr} {cls : Value} {vs : List Value} (x : Heap.MadeExcOf h h' e cls vs) : BornExc h h' e cls :=
  ⟨x.keeps, x.new, let ⟨t, a, _⟩ := x.there; ⟨_, _, .ref t, a, rfl, rfl, rfl, rfl⟩⟩
noncomputable def RaisedH (base g G : Heap) (l : List Env) (e : Addr) (cls : Value) (news : Led) (h : Heap) : Prop :=
  ∃ B a0, base.StaysIn B ∧ (∀ b o, G.get? b = some o → b ∉ l.filterMap (·.frame) → B.get? b = some o) ∧ (∀ q ∈ news, B.get? q.1 = some q.2 ∧ g.get? q.1 = none ∧ base.get? q.1 = none) ∧ Heap.FlyingW B l e cls a0 h
theorem RaisedH.keeps {base g G h h' : Heap} {l : List Env} {e : Addr} {cls : Value} {news : Led} (R : RaisedH base g G l e cls news h) (k : ∀ b o, h.get? b = some o → h'.get? b = some o) : RaisedH base g G l e cls news h' := by
  refine xE2A4 R ?_; (try clear R); intro B a0 hB hBG hl hfl
  exact (yE2A4 B a0 hB hBG hl (flying_keeps hfl k))
theorem RaisedH.ty {M : Model} {base g G h : Heap} {l : List Env} {e : Addr} {cls : Value} {news : Led} (R : RaisedH base g G l e cls news h) : Looks M h (typeOf (.ref e)) cls := by
  refine xE2A4 R ?_; (try clear R); intro B a0 hB hBG hl hfl
  refine xE1A2 (hfl.there) fun ob hob hc => ?_
  subst hc
  exact (Looks.ld hob).andThen .now
variable {prog : Program} {w : World} {A₀ : Around} {E : Value → Shared → Prop} {s' : Shared} {base g g₀ G : Heap} {outer : List Env} {L a e t : Addr} {m : Str → Option Value} {name : Str} {scope : Scope} {cd cls : Value}
  {vs : List Value} {n : Str} {b₀ : Stmt} {suite : List Stmt} {pos : Pos} {rest hs : List ExceptHandler} {Q : Flow → Shared → Prop} {news : Led} {KF : Frag} {tt : Expr} {nm : Option Str} {body : List Stmt}
  {p : Program} {loose : List Str} {mean : ExcName → Option Value} {mg mb : Str → Option Value}
theorem note_here (K : Below A₀ base outer g) (hx : BornExc G s'.heap e cls) (F : Fr g L G m) (N : News g L G news)
    (k : ∀ h', RaisedH base g G (envOf name scope L a cd :: outer) e cls news h' → G.UpToSlots h' → wpAny (model prog w) (A₀.deeper (envOf name scope L a cd)) (handleBy (.ref e) (envOf name scope L a cd) hs) Q E { s' with heap := h' }) (hk : scope.kind = .function := by rfl) :
    wpAny (model prog w) (A₀.deeper (envOf name scope L a cd)) (noteFrame (.ref e) (envOf name scope L a cd))
      (fun _ s₂ => wpAny (model prog w) (A₀.deeper (envOf name scope L a cd)) (setFlight (.ref e) none) (fun _ s₃ =>
        wpAny (model prog w) (A₀.deeper (envOf name scope L a cd)) (handleBy (.ref e) (envOf name scope L a cd) hs) Q E s₃) E s₂) E s' := by
  have K' := K.push (name := name) (a := a) (cd := cd) F hk
  have hin : ∀ env ∈ (envOf name scope L a cd :: outer), ∀ b, env.frame = some b → b ∈ (envOf name scope L a cd :: outer).filterMap (·.frame) := fun env he b hb => List.mem_filterMap.mpr ⟨env, he, hb⟩
  have st : base.StaysIn (hideAll G ((envOf name scope L a cd :: outer).filterMap (·.frame))) := fun b o q => hideAll_get _ (K'.stays b o q) fun hm => by
    rw [(K'.frames.mem hm).1] at q; cases q
  have sg : ∀ b o, G.get? b = some o → b ∉ (envOf name scope L a cd :: outer).filterMap (·.frame) → (hideAll G ((envOf name scope L a cd :: outer).filterMap (·.frame))).get? b = some o := fun b o q nm => hideAll_get _ q nm
  have hl : ∀ q ∈ news, (hideAll G ((envOf name scope L a cd :: outer).filterMap (·.frame))).get? q.1 = some q.2 ∧ g.get? q.1 = none ∧ base.get? q.1 = none := fun q hq => by
    refine ⟨hideAll_get _ (N q hq).1 fun hm => ?_, (N q hq).2.2, fresh_of_stays K.stays (N q hq).2.2⟩
    refine xE1A2 (List.mem_filterMap.mp hm) fun env he hf => ?_
    rcases List.mem_cons.mp he with rfl | he
    · exact (N q hq).2.1 (Option.some.inj hf).symm
    · refine xE1A2 ((K.frames.mem (List.mem_filterMap.mpr ⟨env, he, hf⟩)).2) fun o ho _ => ?_
      rw [(N q hq).2.2] at ho; cases ho
  refine xE3A5 (hx.there) fun ob vs tp he hcls hd hv1 hv0 => ?_
  have hen : (hideAll G ((envOf name scope L a cd :: outer).filterMap (·.frame))).get? e = none := by
    cases q : (hideAll G ((envOf name scope L a cd :: outer).filterMap (·.frame))).get? e with
    | none => rfl
    | some o => have := of_hideAll _ q; rw [hx.new] at this; cases this
  unfold noteFrame
  simp only [show (envOf name scope L a cd).frame = some L from rfl]
  refine wpAny_bind (wpAny_field he hd hv1 ?_)
  rw [if_neg (by decide)]
  refine wpAny_newEntryW (base := hideAll G ((envOf name scope L a cd :: outer).filterMap (·.frame))) (Around.frames_deeper K.stack) ((funFrames_hide K'.frames hin).of_keeps fun b o hb _ => ⟨o, hx.keeps b o hb, rfl⟩) rfl he (fun b o hb => hx.keeps b o (of_hideAll _ hb)) hen hd (Array.getElem?_eq_some_iff.mp hv1).1 hv0 fun h' hL => ?_
  refine xE0A4 hL ?_; (try clear hL); intro k1 k2 k3 k4
  exact k h' ⟨_, tp, st, sg, hl, k1, hen, k2, by rw [← hcls]; exact k3⟩ ((Heap.UpToSlots.of_keeps hx.keeps).trans k4)
theorem pass_H (R : RaisedH base g G (envOf name scope L a cd :: outer) e cls news s'.heap) (F : Fr g L G m) (K : Below A₀ base outer g) (hsm : G.UpToSlots s'.heap) (XB : KF.In base) (TB : Top p loose mean mg mb base)
    (T : KtsTest prog w KF p loose mg mb name scope L a cd cls tt false)
    (k : ∀ h', RaisedH base g G (envOf name scope L a cd :: outer) e cls news h' → G.UpToSlots h' → wpAny (model prog w) (A₀.deeper (envOf name scope L a cd)) (handleBy (.ref e) (envOf name scope L a cd) rest) Q E { s' with heap := h' }) :
    wpAny (model prog w) (A₀.deeper (envOf name scope L a cd)) (handleBy (.ref e) (envOf name scope L a cd) (.ExceptHandler (some tt) nm body pos :: rest)) Q E s' := by
  have R' := R
  refine xE2A4 R' ?_; (try clear R'); intro B a0 hB hBG hl hfl
  refine xE1A3 (kts_ground K F hBG hfl.1 hsm) fun g₅ T₅ F₅ K₅ => ?_
  refine wpAny_handleBy_cons (codeAny_handlers_test (T _ _ _ _ g₅ e m F₅ (XB.keeps K₅.stays) (topRead_of (TB.keeps K₅.stays)) R.ty fun h' kp => ?_)) (by intro q; cases q)
  exact k h' (R.keeps kp) (hsm.trans (Heap.UpToSlots.of_keeps kp))
theorem hit_H0 (R : RaisedH base g G (envOf name scope L a cd :: outer) e cls news s'.heap) (F : Fr g L G m) (K : Below A₀ base outer g) (hsm : G.UpToSlots s'.heap) (XB : KF.In base) (TB : Top p loose mean mg mb base)
    (D : KtsDicts (outer.filterMap (·.frame)) g) (T0 : KtsTurn (outer.filterMap (·.frame)) g₀ g) (T : KtsTest prog w KF p loose mg mb name scope L a cd cls tt true)
    (k : ∀ h' g', KtsTurn (outer.filterMap (·.frame)) g₀ g' → Fr g' L h' m → News g' L h' news → Below A₀ base outer g' → KF.In g' → Top p loose mean mg mb g' → KtsDicts (outer.filterMap (·.frame)) g' →
      wpAny (model prog w) ((A₀.deeper (envOf name scope L a cd)).mark (some (.ref e))) (execs (b₀ :: suite) (envOf name scope L a cd)) Q E { s' with heap := h' })
    (hE : PassesOwnAt (model prog w) ((A₀.deeper (envOf name scope L a cd)).mark (some (.ref e))) (A₀.deeper (envOf name scope L a cd)) (envOf name scope L a cd) E := by passes_own) :
    wpAny (model prog w) (A₀.deeper (envOf name scope L a cd)) (handleBy (.ref e) (envOf name scope L a cd) (.ExceptHandler (some tt) none (b₀ :: suite) pos :: rest)) Q E s' := by
  have R' := R
  refine xE2A4 R' ?_; (try clear R'); intro B₁ a1 _ hBG₁ _ hfl₁
  refine xE1A3 (kts_ground K F hBG₁ hfl₁.1 hsm) fun g₅ T₅ F₅ K₅ => ?_
  refine wpAny_handleBy_cons (codeAny_handlers_test (T _ _ _ _ g₅ e m F₅ (XB.keeps K₅.stays) (topRead_of (TB.keeps K₅.stays)) R.ty fun h₅ kp => ?_)) (by intro q; cases q)
  have hsm₅ : G.UpToSlots h₅ := hsm.trans (Heap.UpToSlots.of_keeps kp)
  refine xE2A4 (R.keeps kp) fun B a0 hB hBG hl hheld => ?_
  have hL : B.get? L = none := by
    refine xE0A3 (hheld.2.2.1) fun _ z1q _ => ?_; refine xE2A3 z1q ?_; (try clear z1q); intro L' _ hf hn' _
    obtain rfl : L = L' := Option.some.inj hf
    exact hn'
  refine codeAny_handlers_suite ?_
  refine lands_againW hheld fun h₆ hfl₆ hsm₆ => ?_
  refine xE1A3 (kts_ground K F hBG hfl₆.1 (hsm₅.trans hsm₆)) fun g₆ T₆ F₆ K₆ => ?_
  have Nl : News g₆ L h₆ news := fun q hq => ⟨hfl₆.1 _ _ (hl q hq).1, (fun z => by have := (hl q hq).1; rw [z, hL] at this; cases this), T₆.none_ _ (hl q hq).2.1⟩
  have X₆ : KF.In g₆ := XB.keeps K₆.stays
  have P₆ : Top p loose mean mg mb g₆ := TB.keeps K₆.stays
  have D₆ : KtsDicts (outer.filterMap (·.frame)) g₆ := D.turn T₆
  exact wpAny_passesOwnAt hE (k h₆ g₆ (T0.trans T₆) F₆ Nl K₆ X₆ P₆ D₆)
theorem here_hit {st : Shared} (K : Below A₀ base outer g) (hx : BornExc G st.heap e cls) (F : Fr g L G m) (N : News g L G news) (XB : KF.In base) (TB : Top p loose mean mg mb base)
    (D : KtsDicts (outer.filterMap (·.frame)) g) (T0 : KtsTurn (outer.filterMap (·.frame)) g₀ g) (T : KtsTest prog w KF p loose mg mb name scope L a cd cls tt true)
    (k : ∀ h' g', KtsTurn (outer.filterMap (·.frame)) g₀ g' → Fr g' L h' m → News g' L h' news → Below A₀ base outer g' → KF.In g' → Top p loose mean mg mb g' → KtsDicts (outer.filterMap (·.frame)) g' →
      wpAny (model prog w) ((A₀.deeper (envOf name scope L a cd)).mark (some (.ref e))) (execs (b₀ :: suite) (envOf name scope L a cd)) Q E { st with heap := h' })
    (hk : scope.kind = .function := by rfl)
    (hE : PassesOwnAt (model prog w) ((A₀.deeper (envOf name scope L a cd)).mark (some (.ref e))) (A₀.deeper (envOf name scope L a cd)) (envOf name scope L a cd) E := by passes_own) :
    wpAny (model prog w) (A₀.deeper (envOf name scope L a cd)) (noteFrame (.ref e) (envOf name scope L a cd))
      (fun _ s₂ => wpAny (model prog w) (A₀.deeper (envOf name scope L a cd)) (setFlight (.ref e) none) (fun _ s₃ =>
        wpAny (model prog w) (A₀.deeper (envOf name scope L a cd)) (handleBy (.ref e) (envOf name scope L a cd) (.ExceptHandler (some tt) none (b₀ :: suite) pos :: rest)) Q E s₃) E s₂) E st :=
  note_here K hx F N (fun h' R U => hit_H0 R F K U XB TB D T0 T (fun h₂ g₂ => k h₂ g₂) hE) hk
end

section
open LCg
variable {prog : Program} {w : World} {A : Around} {E : Value → Shared → Prop} {s : Shared} {h₀ : Heap} {L : Addr} {m : Str → Option Value} {env : Env}
noncomputable def TextSrc (prog : Program) (w : World) (A : Around) (h₀ : Heap) (L : Addr) (m : Str → Option Value) (env : Env) (elt : Expr) (x : Str) (scope : Scope) (cl : List (Str × Addr)) (Fin : Shared → List Value → Led → Prop) (xv : Value) (s₁ : Shared) : Prop :=
  ∃ y t news, xv = .str y t ∧ A.handled = none ∧ Fr h₀ L s₁.heap m ∧ News h₀ L s₁.heap news ∧ y.cps.all (· < 128) = true ∧ y.cps.size ≤ sizeLine ∧
    ∀ s₂ : Shared, (∃ h, s₂ = { s₁ with heap := h }) → CompRest prog w A h₀ L m env elt x scope cl s₂ (fun _ => True) (SignAt y) (Fin s₂) y.cps.size 0 [] news
theorem str_st {I : Addr} {y : Str} {t : Tok} {ty : String} : ∀ i (h h' : Heap) (o : Obj) (nw : Led), h.IsStrIter I ty y t i → h.get? I = some o → h'.get? I = some o → (∀ b o, h₀.get? b = some o → h'.get? b = some o) → News h₀ L h' nw → True → h'.IsStrIter I ty y t i :=
  fun i h h' o nw st e e' _ _ _ => by
    refine xE1A2 st ?_; (try clear st); intro o' q r
    rw [e] at q; cases q
    exact ⟨o, e', r⟩
theorem ListComp_T {elt iter : Expr} {x : Str} {px : Pos} {scope : Scope} {cl : List (Str × Addr)} {pos : Pos} {Q : Value → Shared → Prop} (F₀ : Fr h₀ L s.heap m)
    (hclos : closureFor scope env = pure cl) (hcell : ∀ y ∈ scope.names, y.2 ≠ .cell) (hkind : scope.kind = .function)
    (hnames : ∀ y ∈ scope.names, y.2 = .local → scope.names.lookup y.1 = some .local) (hx : scope.names.lookup x = some .local)
    (h : wpAny (model prog w) A (eval iter env) (TextSrc prog w A h₀ L m env elt x scope cl (fun s₂ => FinE h₀ L m s₂ Q)) E s)
    (hs : ∀ x, foldedSetIterable iter env x = pure x := by intro _; rfl) :
    wpAny (model prog w) A (eval (.ListComp elt [⟨.Name x px, iter, [], 0⟩] scope pos) env) Q E s := by
  rw [eval_ListComp]
  refine wpAny_comprehension_free (use := none) rfl hs hclos hkind hnames (wpAny_mono h (fun xv s₁ h₁ => ?_) fun _ _ e => e)
  refine xE3A7 h₁ ?_; (try clear h₁); intro y t news z1q hh F N ha hsz R; obtain rfl := z1q
  have up : ∀ b o, s₁.heap.get? b = some o → (s₁.heap.push { cls := .type "str_ascii_iterator", data := .fields #[.str y t, .int 0 0] }).get? b = some o := fun b o e => Heap.get?_push_of_some _ e
  refine wpAny_pyIter_ascii ha ?_
  refine block_U (Walks.strAscii hh s₁.heap.objs.size y t) hsz (fun i h st => by refine xE1A2 st ?_; (try clear st); intro o e _; exact ⟨o, e⟩) str_st hcell hkind hx ⟨_, Heap.get?_push_size _ rfl, rfl, rfl⟩ (fun b hb => ?_)
    (F.keeps up) (N.grown up) (Nat.ne_of_lt F.ns.lt) (next_is_new F) (fun p hp => Nat.ne_of_lt (Heap.lt_size (N p hp).1)) trivial (R _ ⟨_, rfl⟩) ?_
  · rw [List.mem_singleton.mp hb]
    show s₁.heap.objs.size < (s₁.heap.push _).objs.size
    rw [Heap.size_push]; exact Nat.lt_succ_self _
  · intro D C h tk m' ys news' F' N' o1 hn hC₀ hD₀ hCL hDL hCD offC fin
    refine ⟨m', hn, fun h'' hs'' => fin D h'' tk (F'.change hs'' hCL hC₀) (fun p hp => ?_) o1⟩
    refine ⟨hs''.extBut _ _ ?_ (N' p hp).1, (N' p hp).2⟩
    rcases List.mem_cons.mp hp with rfl | hp
    · exact Ne.symm hCD
    · exact offC p hp
end
section
open LCg LSm
variable {prog : Program} {w : World} {A : Around} {h₀ : Heap} {L : Addr} {m : Str → Option Value} {env : Env} {elt : Expr} {x : Str} {scope : Scope} {cl : List (Str × Addr)} {s : Shared} {S : Led → Prop} {P : Nat → Value → Prop} {Fin : List Value → Led → Prop} {n : Nat} {news : Led}
theorem boolsAre_snoc {b : Bool} : ∀ {vs : List Value} {bs : List Bool}, BoolsAre vs bs → BoolsAre (vs ++ [.bool b]) (bs ++ [b])
  | _, _, .nil => .cons _ .nil
  | _, _, .cons c h => .cons c (boolsAre_snoc h)
theorem CompRest_bools (g : Nat → Bool) (hS : S news)
    (turn : ∀ i v I oI C oC D ys m₂ h tk (E' : Value → Shared → Prop), i < n → P i v → NsObj oC m₂ → m₂ x = some v → Fr h₀ L h m → News h₀ L h ((I, oI) :: (C, oC) :: (D, lst ys) :: news) → Off3 I C D news → ((@Ne Nat I C) ∧ (@Ne Nat I D) ∧ (@Ne Nat C D)) →
      wpAny (model prog w) A (eval elt (compEnvC scope cl C env)) (fun y s₂ => y = .bool (g i) ∧ ∃ h' tk', s₂ = { s with heap := h', toks := tk' } ∧ Fr h₀ L h' m ∧ News h₀ L h' ((I, oI) :: (C, oC) :: (D, lst ys) :: news)) E' { s with heap := h, toks := tk })
    (fin : ∀ ys, BoolsAre ys ((List.range n).map g) → Fin ys news) : CompRest prog w A h₀ L m env elt x scope cl s S P Fin n 0 [] news := by
  have ind : ∀ k i ys, i + k = n → BoolsAre ys ((List.range i).map g) → CompRest prog w A h₀ L m env elt x scope cl s S P Fin k i ys news := by
    intro k
    induction k with
    | zero =>
      intro i ys hi hb
      obtain rfl : i = n := by k_extra "o"
      exact CompRest.zero (fin ys hb)
    | succ k ih =>
      intro i ys hi hb
      refine CompRest.succ fun v I oI C oC D m₂ h tk E' hP hC hx F N off ne => ?_
      refine wpAny_mono (turn i v I oI C oC D ys m₂ h tk E' (by k_extra "o") hP hC hx F N off ne) (fun y s₂ hy => ?_) fun _ _ e => e
      refine xE0A2 hy ?_; (try clear hy); intro z2q z4q; refine xE2A3 z4q ?_; (try clear z4q); intro h' tk' z3q F' N'; obtain rfl := z2q; obtain rfl := z3q
      exact CompEnd.intro (s₁ := { s with heap := h, toks := tk }) F' N' news (fun p hp => hp) off hS (ih (i + 1) _ (by k_extra "o") (by rw [List.range_succ, List.map_append]; exact boolsAre_snoc hb))
  exact ind n 0 [] (by k_extra "o") .nil
end

section
variable {prog : Program} {w : World} {A : Around} {E : Value → Shared → Prop} {s : Shared} {env : Env} {g : Heap} {Q : Flow → Shared → Prop}
noncomputable def EnumS (g : Heap) (L : Addr) (s : Shared) (e I : Addr) (oe oI : Obj) (ax : Addr) (n : Nat) (J : (Str → Option Value) → List Value → Nat → Led → Prop) (Q : Flow → Shared → Prop) (f : Flow) (s₃ : Shared) : Prop :=
  match f with
  | .next | .cont => ∃ m' nws' vs' k' h' tk', s₃ = { s with heap := h', toks := tk' } ∧ Fr g L h' m' ∧ News g L h' ((e, oe) :: (I, oI) :: nws') ∧ (∀ p ∈ nws', p.1 ≠ I ∧ p.1 ≠ e) ∧ (ax, listOf vs'.toArray k') ∈ nws' ∧ vs'.length = n ∧ J m' vs' k' nws'
  | .brk => Q .next s₃
  | .ret v => Q (.ret v) s₃
noncomputable abbrev enumO (I : Addr) (i : Int) (old : Value) : Obj := { cls := .type "enumerate", dict := none, data := .fields #[.none, .bool false, .ref I, rawInt i, .none, old], slots := #[] }
theorem for_enum {xi xv : Str} {pi pv pt : Pos} {x1 : Nat} {body : List Stmt} {ax : Addr} {k n : Nat} {vs : List Value} {m : Str → Option Value} {nws : Led} (J : Nat → (Str → Option Value) → List Value → Nat → Led → Prop)
    (hxi : env.kindOf xi = some .local) (hxv : env.kindOf xv = some .local) (hp : (env.scope.kind == .class || (env.scope.kind == .module && env.locals != env.globals)) = false) (hh : A.handled = none)
    (F : Fr g env.locals s.heap m) (N : News g env.locals s.heap nws) (hm : (ax, listOf vs.toArray k) ∈ nws) (hn : vs.length = n) (hJ : J 0 m vs k nws)
    (turn : ∀ i v vs k t I e oI oe m₁ nws₁ h tk, vs[i]? = some v → vs.length = n → J i m₁ vs k nws₁ → (ax, listOf vs.toArray k) ∈ nws₁ → (∀ p ∈ nws₁, p.1 ≠ I ∧ p.1 ≠ e) → e ≠ I →
      Fr g env.locals h (fun y => if y = xv then some v else if y = xi then some (.int (i : Int) t) else m₁ y) → News g env.locals h ((e, oe) :: (I, oI) :: nws₁) →
      wpAny (model prog w) A (execs body env) (EnumS g env.locals s e I oe oI ax n (J (i + 1)) Q) (notedBy (model prog w) A env (cameBackBy (model prog w) A env E)) { s with heap := h, toks := tk })
    (done : ∀ m₁ vs k nws₁ h tk, J n m₁ vs k nws₁ → vs.length = n → (ax, listOf vs.toArray k) ∈ nws₁ → Fr g env.locals h m₁ → News g env.locals h nws₁ → Q .next { s with heap := h, toks := tk }) :
    wpAny (model prog w) A (call (.type "enumerate") [.ref ax]) (fun x s₁ => wpAny (model prog w) A (pyIter x) (fun it s₂ => codeAny (model prog w) A (.forLoop (.Tuple [.Name xi pi, .Name xv pv] x1 pt) it body [] env) (fun r s' => match r with | .ok f => Q f s' | .error e => cameBackBy (model prog w) A env E e s') s₂) E s₁) E s := by
  have hls : s.heap.IsList ax vs.toArray := N.isList hm
  refine call_enumerate_list hls fun h₁ he hit hsz hk₁ => ?_
  refine wpAny_pyIter_enum he ?_
  have hI : s.heap.objs.size ≠ env.locals := fun q => Nat.lt_irrefl _ (q ▸ F.ns.lt : s.heap.objs.size < s.heap.objs.size)
  have hE : s.heap.objs.size + 1 ≠ env.locals := fun q => by
    have := F.ns.lt
    rw [← q] at this
    exact Nat.not_lt.mpr (Nat.le_succ _) this
  have newer : ∀ b, s.heap.objs.size ≤ b → g.get? b = none := fun b hb => by
    cases q : g.get? b with
    | none => rfl
    | some o => exact absurd (Heap.lt_size (F.keep _ _ q)) (Nat.not_lt.mpr hb)
  have hIg := newer _ (Nat.le_refl s.heap.objs.size)
  have hEg : g.get? (s.heap.objs.size + 1) = none := newer _ (Nat.le_succ s.heap.objs.size)
  have offI : ∀ p ∈ nws, p.1 ≠ s.heap.objs.size ∧ p.1 ≠ s.heap.objs.size + 1 := fun p hp => by
    have := Heap.lt_size (N p hp).1
    exact ⟨Nat.ne_of_lt this, Nat.ne_of_lt (Nat.lt_succ_of_lt this)⟩
  have hei : s.heap.objs.size + 1 ≠ s.heap.objs.size := Nat.succ_ne_self _
  generalize s.heap.objs.size = I at he hit hI hE hIg hEg offI hei
  generalize I + 1 = e at he hE hEg offI hei
  refine codeAny_forLoop_any (fun q s' => ∃ i old m₁ nws₁ vs k h tk, q = n - i ∧ i ≤ n ∧ s' = { s with heap := h, toks := tk } ∧ Fr g env.locals h m₁ ∧ News g env.locals h nws₁ ∧ IsEnum h e I ((i : Nat) : Int) old ∧ h.IsListIter I ax i ∧ (∀ p ∈ nws₁, p.1 ≠ I ∧ p.1 ≠ e) ∧ (ax, listOf vs.toArray k) ∈ nws₁ ∧ vs.length = n ∧ J i m₁ vs k nws₁) ?_ n
    ⟨0, .none, m, nws, vs, k, h₁, s.toks, rfl, Nat.zero_le _, rfl, F.keeps hk₁, N.grown hk₁, he, hit, offI, hm, hn, hJ⟩
  clear he hit hm hJ hls hk₁ offI hn vs k
  intro q s' z1q; refine xE8A11 z1q ?_; (try clear z1q); intro i old m₁ nws₁ vs k H tk z2q hi z3q F₁ N₁ he' hit' off hm hn hJ; obtain rfl := z2q; obtain rfl := z3q
  have hl' : H.IsList ax vs.toArray := N₁.isList hm
  have hae : ax ≠ I ∧ ax ≠ e := off _ hm
  cases hv : vs[i]? with
  | none =>
    have hsz : i = n := Nat.le_antisymm hi (by rw [← hn]; simpa using hv)
    subst hsz
    refine wpAny_pyNext_enum_end hh he' hit' hl' (by simpa using hv) fun h₁ he₁ => wpAny_execs_nil ?_
    exact done m₁ vs k nws₁ h₁ tk hJ hn hm ⟨F₁.ns.at' fun o x => he₁ _ o (Ne.symm hI) x, fun b o x => he₁ b o (fun z => by rw [z, hIg] at x; cases x) (F₁.keep b o x), F₁.above⟩ fun p hp => ⟨he₁ _ _ (off p hp).1 (N₁ p hp).1, (N₁ p hp).2⟩
  | some v =>
    have hlt : i < n := by rw [← hn]; exact (List.getElem?_eq_some_iff.mp hv).1
    have heH : e < H.objs.size := Heap.lt_size he'
    have hLH : env.locals < H.objs.size := F₁.ns.lt
    refine xE1A3 (id hit') fun oi hoi hoic hoid => ?_
    have hiH : I < H.objs.size := Heap.lt_size hoi
    refine wpAny_pyNext_enum_item he' hit' hl' (by simpa using hv) hei fun h₁ heo hit₁ ht₁ hz₁ hk₁ => ?_
    refine wpAny_letOwnedTupleGo_enum heo fun h₂ he₂ hs₂ => ?_
    replace hs₂ : Heap.SameBut e h₁ h₂ := hs₂
    have ht₂ : h₂.IsTuple H.objs.size #[.int i tk, v] := ⟨_, (hs₂.2 _ (Nat.ne_of_gt heH)).trans ht₁, rfl, _, rfl⟩
    have hz₂ : h₂.objs.size = H.objs.size + 1 := hs₂.1.trans hz₁
    refine wpAny_assign_Tuple hh ht₂ rfl rfl fun h₃ hx₃ => ?_
    replace hx₃ : Heap.ExtBut h₂.objs.size h₂ h₃ := hx₃
    have old₃ : ∀ b o, b < H.objs.size → h₂.get? b = some o → h₃.get? b = some o := fun b o hb x => hx₃ b o (by rw [hz₂]; exact Nat.ne_of_lt (Nat.lt_succ_of_lt hb)) x
    have keep₃ : ∀ b o, b ≠ e → b ≠ I → H.get? b = some o → h₃.get? b = some o := fun b o z1 z2 x => old₃ b o (Heap.lt_size x) (hs₂.extBut b o z1 (hk₁ b o z1 z2 x))
    have F₃ : Fr g env.locals h₃ m₁ := ⟨F₁.ns.at' fun o x => keep₃ _ o (Ne.symm hE) (Ne.symm hI) x, fun b o x => keep₃ b o (fun z => by rw [z, hEg] at x; cases x) (fun z => by rw [z, hIg] at x; cases x) (F₁.keep b o x), F₁.above⟩
    have N₃ : News g env.locals h₃ nws₁ := fun p hp => ⟨keep₃ _ _ (off p hp).2 (off p hp).1 (N₁ p hp).1, (N₁ p hp).2⟩
    have e₃ : IsEnum h₃ e I ((i : Int) + 1) v := old₃ _ _ heH he₂
    refine xE1A3 (((hit₁.extBut hs₂.extBut (Ne.symm hei)).at fun o x => old₃ I o hiH x : h₃.IsListIter I ax (i + 1))) fun oJ hoJ hoJc hoJd => ?_
    have M₃ : News g env.locals h₃ ((e, enumO I ((i : Int) + 1) v) :: (I, oJ) :: nws₁) := fun p hp => by
      rcases List.mem_cons.mp hp with rfl | hp
      · exact ⟨e₃, hE, hEg⟩
      · rcases List.mem_cons.mp hp with rfl | hp
        · exact ⟨hoJ, hI, hIg⟩
        · exact N₃ p hp
    show wpAny _ A (do holding [v] (assign (.Name xi pi) env (.int i tk)); do holding [] (assign (.Name xv pv) env v); pure ()) _ _ _
    refine wpAny_bind (wpAny_holding (wpAny_assign_Name (wpAny_storeName_local hxi F₃.ns (fun h₄ hn₄ hs₄ => ?_) hp)))
    have F₄ := F₃.set hn₄ hs₄
    have N₄ := News.set (N := M₃) hs₄
    refine wpAny_bind (wpAny_holding (wpAny_assign_Name (wpAny_storeName_local hxv F₄.ns (fun h₅ hn₅ hs₅ => wpAny_pure ?_) hp)))
    have F₅ := F₄.set hn₅ hs₅
    have N₅ := News.set (N := N₄) hs₅
    refine wpAny_mono (turn i v vs k tk I e oJ (enumO I ((i : Int) + 1) v) m₁ nws₁ h₅ _ hv hn hJ hm off hei F₅ N₅) (fun f s₃ h₆ => ?_) fun _ _ x => x
    have fin : (∃ m' nws' vs' k' h' tk', s₃ = { s with heap := h', toks := tk' } ∧ Fr g env.locals h' m' ∧ News g env.locals h' ((e, enumO I ((i : Int) + 1) v) :: (I, oJ) :: nws') ∧ (∀ p ∈ nws', p.1 ≠ I ∧ p.1 ≠ e) ∧ (ax, listOf vs'.toArray k') ∈ nws' ∧ vs'.length = n ∧ J (i + 1) m' vs' k' nws') → ∃ q, q < n - i ∧ ∃ i old m₁ nws₁ vs k h tk, q = n - i ∧ i ≤ n ∧ s₃ = { s with heap := h, toks := tk } ∧ Fr g env.locals h m₁ ∧ News g env.locals h nws₁ ∧ IsEnum h e I ((i : Nat) : Int) old ∧ h.IsListIter I ax i ∧ (∀ p ∈ nws₁, p.1 ≠ I ∧ p.1 ≠ e) ∧ (ax, listOf vs.toArray k) ∈ nws₁ ∧ vs.length = n ∧ J i m₁ vs k nws₁ := by
      intro z4q; refine xE6A7 z4q ?_; (try clear z4q); intro m' nws' vs' k' h' tk' e' F' N' o' hm' hl' hJ'
      refine (yE1A2 (n - (i + 1)) (by k_extra "o") (yE8A11 (i + 1) v m' nws' vs' k' h' tk' rfl hlt e' F' (News.tail' (News.tail' N')) ?_ ⟨oJ, (N' (I, oJ) (.tail _ (.head _))).1, hoJc, hoJd⟩ o' hm' hl' hJ'))
      exact (N' (e, enumO I ((i : Int) + 1) v) (.head _)).1
    cases f with
    | next => exact fin h₆
    | cont => exact fin h₆
    | brk => exact h₆
    | ret v => exact h₆
end
section
variable {prog : Program} {w : World} {A : Around} {E : Value → Shared → Prop} {s : Shared} {h₀ : Heap} {L D : Addr} {m : Str → Option Value} {news news' : Led} {vs : List Value} {n i : Nat} {v : Value} {k : Int} {u : Tok} {Q : Unit → Shared → Prop}
theorem list_store (F : Fr h₀ L s.heap m) (N : News h₀ L s.heap news) (U : Upd D (listOf vs.toArray n) (listOf (vs.set i v).toArray n) news news') (hk : k = (i : Int)) (hi : i < vs.length) (hs : vs.length ≤ 1000)
    (h : ∀ h', Fr h₀ L h' m → News h₀ L h' news' → Q () { s with heap := h' }) : wpAny (model prog w) A (PySem.setItem (.ref D) (.int k u) v) Q E s := by
  refine xE2A4 (U.split) fun pre post z5q z6q a b => ?_; obtain rfl := z5q; obtain rfl := z6q
  have z := N (D, listOf vs.toArray n) (List.mem_append.mpr (.inr (.head _)))
  subst hk
  refine ki_setAt z.1 (by k_extra "o") (by k_extra "o") (by simp; k_extra "o") (h _ (F.change (Heap.SameBut.update ..) z.2.1 z.2.2) (ki_turn _ N a b ?_ ?_))
  · show vs.toArray.setIfInBounds (i : Int).toNat v = (vs.set i v).toArray
    apply Array.toList_inj.mp
    simp
  · simp
end

noncomputable abbrev DL : Type := List (Str × Addr × List Value × Nat)
noncomputable def dlL : DL → Led
  | [] => []
  | e :: r => (e.2.1, listOf e.2.2.1.toArray e.2.2.2) :: dlL r
noncomputable def dlKV (d : DL) : List (Str × Value) := d.map fun e => (e.1, .ref e.2.1)
theorem dlL_append : ∀ a b, dlL (a ++ b) = dlL a ++ dlL b
  | [], _ => rfl
  | e :: r, b => by simp [dlL, dlL_append r b]
noncomputable def dlHas (d : DL) (k : Str) : Bool := d.any fun e => e.1 == k
theorem dlKV_none {d : DL} {k : Str} (h : ∀ e ∈ d, e.1 ≠ k) : valueAt (dlKV d) k = none := by
  induction d with
  | nil => rfl
  | cons e r ih =>
    have h1 := h e (.head _)
    have ih := ih fun e he => h e (.tail _ he)
    unfold valueAt at ih ⊢
    unfold dlKV at ih ⊢
    rw [List.map_cons, List.find?_cons_of_neg (by simpa using h1)]
    exact ih
theorem dlKV_some {a b : DL} {k : Str} {e : Addr × List Value × Nat} (h : ∀ e ∈ a, e.1 ≠ k) : valueAt (dlKV (a ++ (k, e) :: b)) k = some (.ref e.1) := by
  induction a with
  | nil =>
    unfold valueAt dlKV
    rw [List.nil_append, List.map_cons, List.find?_cons_of_pos (by simp)]
    rfl
  | cons x r ih =>
    have h1 := h x (.head _)
    have ih := ih fun e he => h e (.tail _ he)
    unfold valueAt at ih ⊢
    unfold dlKV at ih ⊢
    rw [List.cons_append, List.map_cons, List.find?_cons_of_neg (by simpa using h1)]
    exact ih
theorem dl_split {d : DL} {k : Str} : (∀ e ∈ d, e.1 ≠ k) ∨ ∃ a e b, d = a ++ (k, e) :: b ∧ ∀ e ∈ a, e.1 ≠ k := by
  induction d with
  | nil => exact .inl fun _ h => nomatch h
  | cons x r ih =>
    by_cases e : x.1 = k
    · exact .inr ⟨[], x.2, r, by rw [← e]; rfl, fun _ h => nomatch h⟩
    · focus (refine xO2 (ih) ?_ ?_; (try clear ih); intro h; rotate_left 1; (try clear ih); intro w1q; refine xE3A2 w1q ?_; (try clear w1q); intro a y b h1 h2; rotate_left 1)
      · exact .inl fun z hz => by
          rcases List.mem_cons.mp hz with rfl | hz
          · exact e
          · exact h z hz
      · exact .inr ⟨x :: a, y, b, by rw [h1]; rfl, fun z hz => by
          rcases List.mem_cons.mp hz with rfl | hz
          · exact e
          · exact h2 z hz⟩
theorem dl_split3 {d : DL} {k : Str} : (∀ e ∈ d, e.1 ≠ k) ∨ ∃ a e l n b, d = a ++ (k, e, l, n) :: b ∧ ∀ e ∈ a, e.1 ≠ k :=
  dl_split.imp id fun ⟨a, (e, l, n), b, h1, h2⟩ => ⟨a, e, l, n, b, h1, h2⟩
theorem map_pair {o : Option (Str × Tok)} {f : Str × Tok → Value} {v : Value} (h : o.map f = some v) : ∃ x t, o = some (x, t) ∧ f (x, t) = v :=
  let ⟨p, h1, h2⟩ := Option.map_eq_some_iff.mp h
  ⟨p.1, p.2, h1, h2⟩
theorem map_cons_pair {l : List (Str × Tok)} {a : Str} {as : List Str} (h : l.map (·.1) = a :: as) : ∃ x t s, l = (x, t) :: s ∧ x = a ∧ s.map (·.1) = as :=
  let ⟨p, s, h1, h2, h3⟩ := List.map_eq_cons_iff.mp h
  ⟨p.1, p.2, s, h1, h2, h3⟩
theorem stored_new {kvs : List (Str × Value)} {k : Str} {v : Value} (h : ∀ e ∈ kvs, e.1 ≠ k) : stored kvs k v = kvs ++ [(k, v)] := by
  unfold stored
  rw [if_neg]
  intro q
  refine xE1A2 (List.any_eq_true.mp q) fun e he hk => ?_
  exact h e he (by simpa using hk)
theorem dl_stored {d : DL} {k : Str} {a : Addr} {l : List Value} {n : Nat} (h : ∀ e ∈ d, e.1 ≠ k) : stored (dlKV d) k (.ref a) = dlKV (d ++ [(k, a, l, n)]) := by
  rw [stored_new (fun e he => by
    refine xE1A2 (List.mem_map.mp he) fun y hy z1q => ?_; obtain rfl := z1q
    exact h y hy)]
  simp [dlKV]
section
open LCg LSm
variable {prog : Program} {w : World} {A : Around} {h₀ : Heap} {L : Addr} {m : Str → Option Value} {env : Env} {elt : Expr} {x : Str} {scope : Scope} {cl : List (Str × Addr)} {s : Shared} {S : Led → Prop} {P : Nat → Value → Prop} {Fin : List Value → Led → Prop} {news : Led} {n : Nat}
theorem CompRest_strs (its : List (Str × Tok)) (f : Str → Str) (hn : n = its.length) (hP : ∀ i v, P i v → (strV its)[i]? = some v) (hS : S news)
    (turn : ∀ (i : Nat) (p : Str × Tok) I oI C oC D ys m₂ h tk (E' : Value → Shared → Prop), its[i]? = some p → NsObj oC m₂ → m₂ x = some (.str p.1 p.2) → Fr h₀ L h m → News h₀ L h ((I, oI) :: (C, oC) :: (D, lst ys) :: news) → Off3 I C D news → ((@Ne Nat I C) ∧ (@Ne Nat I D) ∧ (@Ne Nat C D)) →
      wpAny (model prog w) A (eval elt (compEnvC scope cl C env)) (fun y s₂ => (∃ t, y = .str (f p.1) t) ∧ ∃ h' tk', s₂ = { s with heap := h', toks := tk' } ∧ Fr h₀ L h' m ∧ News h₀ L h' ((I, oI) :: (C, oC) :: (D, lst ys) :: news)) E' { s with heap := h, toks := tk })
    (fin : ∀ its' : List (Str × Tok), its'.map (·.1) = its.map (fun p => f p.1) → Fin (strV its') news) : CompRest prog w A h₀ L m env elt x scope cl s S P Fin n 0 [] news := by
  subst hn
  have ind : ∀ k i (its' : List (Str × Tok)), i + k = its.length → its'.map (·.1) = (its.take i).map (fun p => f p.1) → CompRest prog w A h₀ L m env elt x scope cl s S P Fin k i (strV its') news := by
    intro k
    induction k with
    | zero =>
      intro i its' hi hb
      obtain rfl : i = its.length := by k_extra "o"
      rw [List.take_length] at hb
      exact CompRest.zero (fin its' hb)
    | succ k ih =>
      intro i its' hi hb
      refine CompRest.succ fun v I oI C oC D m₂ h tk E' hPv hC hx F N off ne => ?_
      have hv := hP i v hPv
      have hlt : i < its.length := by k_extra "o"
      have hp : its[i]? = some its[i] := List.getElem?_eq_getElem hlt
      rw [List.getElem?_map, hp] at hv
      cases hv
      refine wpAny_mono (turn i its[i] I oI C oC D (strV its') m₂ h tk E' hp hC hx F N off ne) (fun y s₂ hy => ?_) fun _ _ e => e
      refine xE0A2 hy ?_; (try clear hy); intro z2q z4q; refine xE2A3 z4q ?_; (try clear z4q); intro h' tk' z3q F' N'; refine xE1A1 z2q ?_; (try clear z2q); intro t z5q; obtain rfl := z5q; obtain rfl := z3q
      refine CompEnd.intro (s₁ := { s with heap := h, toks := tk }) F' N' news (fun p hp => hp) off hS ?_
      have := ih (i + 1) (its' ++ [(f its[i].1, t)]) (by k_extra "o") (by rw [List.take_succ_eq_append_getElem hlt, List.map_append, List.map_append, hb]; rfl)
      simpa [strV] using this
  exact ind its.length 0 [] (by k_extra "o") rfl
end
theorem size_strV {its : List (Str × Tok)} (h : its.length ≤ 8) : (strV its).toArray.size ≤ 16384 := by
  rw [List.size_toArray, strV_length]; k_extra "o"
theorem strsAre_strV : ∀ its : List (Str × Tok), StrsAre (strV its) (its.map (·.1))
  | [] => .nil
  | p :: r => .cons _ _ (strsAre_strV r)
section
variable {prog : Program} {w : World} {A : Around} {E : Value → Shared → Prop} {s : Shared} {h₀ : Heap} {L a b : Addr} {m : Str → Option Value} {news : Led} {n n' : Nat} {Q : Value → Shared → Prop} {its jts : List (Str × Tok)} {k : Str} {t : Tok}
theorem notin_strs (N : News h₀ L s.heap news) (hm : (a, listOf (strV its).toArray n) ∈ news) (h : Q (.bool (!((its.map (·.1)).any (· == k)))) s) : wpAny (model prog w) A (compareOp .NotIn (.str k t) (.ref a)) Q E s :=
  notin_list_strs (N.isList hm) (strsAre_strV its) h
theorem in_strs (N : News h₀ L s.heap news) (hm : (a, listOf (strV its).toArray n) ∈ news) (h : Q (.bool ((its.map (·.1)).any (· == k))) s) : wpAny (model prog w) A (compareOp .In (.str k t) (.ref a)) Q E s :=
  in_list_strs (N.isList hm) (strsAre_strV its) h
theorem add_strs (F : Fr h₀ L s.heap m) (N : News h₀ L s.heap news) (ha : (a, listOf (strV its).toArray n) ∈ news) (hb : (b, listOf (strV jts).toArray n') ∈ news) (hz : its.length + jts.length ≤ 100)
    (h : ∀ D h', Fr h₀ L h' m → News h₀ L h' ((D, listOf (strV (its ++ jts)).toArray 0) :: news) → (∀ p ∈ news, p.1 < D) → Q (.ref D) { s with heap := h' }) : wpAny (model prog w) A (binaryOp .Add (.ref a) (.ref b)) Q E s :=
  kmk_add_lit (zs := strV (its ++ jts)) F N (N.isList ha) (N.isList hb) (by simp [strV]) h (by rw [sizeLine_eq]; simp; k_extra "o")
end
theorem datAll_strV (news : Led) : ∀ its : List (Str × Tok), DatAll news (strV its) (its.map fun p => Dat.str p.1)
  | [] => .nil
  | p :: r => .cons (.str _ _) (datAll_strV news r)
noncomputable def rowD (h : Str) (l : List Str) : Dat := .tuple [.str h, .tuple (l.map Dat.str)]
theorem cut_bool {M : Model} {A : Around} {E : Value → Shared → Prop} {s : Shared} {t : Sem Value} {Q : Value → Shared → Prop} {g : Heap} {L : Addr} {m : Str → Option Value} {nws : Led} (_F : Fr g L s.heap m) (_N : News g L s.heap nws) (b : Bool)
    (h1 : wpAny M A t (fun v s' => v = .bool b ∧ ∃ h' tk', s' = { s with heap := h', toks := tk' } ∧ Fr g L h' m ∧ News g L h' nws) E s)
    (h2 : ∀ h' tk', Fr g L h' m → News g L h' nws → Q (.bool b) { s with heap := h', toks := tk' }) : wpAny M A t Q E s :=
  wpAny_mono h1 (fun v s' ⟨hv, h', tk', e, F', N'⟩ => by subst hv; subst e; exact h2 h' tk' F' N') fun _ _ e => e

structure GM where
  lpv : List Value
  nlp : Nat
  pn : DL
  pno : Obj
  pm : List (Str × Value)
  pmo : Obj
  te : DL
  teo : Obj
  nt : DL
  nto : Obj
  upo : Obj
noncomputable abbrev gmL (w : World) (G : GA) (M : GM) (r : Led) : Led :=
  (G.te, M.teo) :: (G.nt, M.nto) :: (G.up, M.upo) :: (G.lp, listOf M.lpv.toArray M.nlp) :: (G.pm, M.pmo) :: (G.pn, M.pno) :: (G.g, instObj 283 G.dg) :: (G.dg, gramD w G) :: r
noncomputable def DoesS (prog : Program) (w : World) (dp un : Nat) (f : Addr) (args : List Value) (cls : Value) (news : Led) (Post : Value → Led → Prop) (PostE : Led → Prop) : Prop :=
  ∀ (mean : ExcName → Option Value) (mg mb : Str → Option Value) (cn : Str) (cs : Scope) (a : Addr) (ccd : Value) (ce : Env) (A₀ : Around) (h₀ g₀ g : Heap) (L : Addr) (m : Str → Option Value) (s : Shared)
    (Q E : Value → Shared → Prop),
    Gd w mean mg mb A₀ h₀ ce g₀ g → (hd.heap_1 w.params).In h₀ → Top hdV LOOSE mean mg mb h₀ → Fr g L s.heap m → News g L s.heap news → cs.kind = .function →
    (∀ g' r news' h' tk', Gd w mean mg mb A₀ h₀ ce g₀ g' → Fr g' L h' m → News g' L h' news' → Post r news' → Q r { s with heap := h', toks := tk' }) →
    (∀ G e news' h' tk', Fr g L G m → RaisedSN h₀ G (envOf cn cs L a ccd :: [ce]) e cls news' h' → G.UpToSlots h' → PostE news' → E (.ref e) { s with heap := h', toks := tk' }) →
    wpAny (model prog w) { handled := none, depth := dp, frames := some (envOf cn cs L a ccd :: [ce]), guards := some [], units := un } (call (.ref f) args) Q E s
noncomputable abbrev S10 : List Str := [S_ "a", S_ "A", S_ "S", S_ "'.'", S_ "B", S_ "D", S_ "error", S_ "'ab'", S_ "%prec", S_ "b"]
noncomputable def nrm (x : Str) : Str := if x = S_ "'.'" then S_ "." else x
noncomputable abbrev TK : List Str := [S_ "a", S_ "b", S_ "error"]
noncomputable def TeOK (te : DL) : Prop := te.map (·.1) = TK ∨ te.map (·.1) = TK ++ [S_ "."]
theorem valueAt_isSome (d : DL) (k : Str) : (valueAt (dlKV d) k).isSome = (d.map (·.1)).any (· == k) := by
  induction d with
  | nil => rfl
  | cons e r ih =>
    unfold valueAt dlKV at ih ⊢
    by_cases h : e.1 = k
    · rw [List.map_cons, List.find?_cons_of_pos (by simpa using h), List.map_cons, List.any_cons, beq_iff_eq.mpr h]; rfl
    · rw [List.map_cons, List.find?_cons_of_neg (by simpa using h), List.map_cons, List.any_cons, beq_eq_false_iff_ne.mpr h, Bool.false_or]; exact ih
theorem nrm_set {l xs : List Str} {i : Nat} {x : Str} (h : l = (xs.take i).map nrm ++ xs.drop i) (hx : xs[i]? = some x) : l.set i (nrm x) = (xs.take (i + 1)).map nrm ++ xs.drop (i + 1) := by
  refine xE1A1 (List.getElem?_eq_some_iff.mp hx) fun hi hx => ?_
  have hl : ((xs.take i).map nrm).length = i := by rw [List.length_map, List.length_take]; k_extra "o"
  rw [h, List.set_append_right _ _ (by k_extra "o"), hl, Nat.sub_self, List.drop_eq_getElem_cons hi, List.set_cons_zero, List.take_succ_eq_append_getElem hi, List.map_append, hx]
  simp
theorem nrm_keep {l xs : List Str} {i : Nat} {x : Str} (h : l = (xs.take i).map nrm ++ xs.drop i) (hx : xs[i]? = some x) (hn : nrm x = x) : l = (xs.take (i + 1)).map nrm ++ xs.drop (i + 1) := by
  rw [← nrm_set h hx, hn]
  refine xE1A1 (List.getElem?_eq_some_iff.mp hx) fun hi hx => ?_
  have hl : ((xs.take i).map nrm).length = i := by rw [List.length_map, List.length_take]; k_extra "o"
  rw [h, List.set_append_right _ _ (by k_extra "o"), hl, Nat.sub_self, List.drop_eq_getElem_cons hi, List.set_cons_zero, hx]
theorem nrm_at {l xs : List Str} {i : Nat} {x : Str} (h : l = (xs.take i).map nrm ++ xs.drop i) (hx : l[i]? = some x) : xs[i]? = some x := by
  have hil : i ≤ xs.length := by
    have := (List.getElem?_eq_some_iff.mp hx).1
    rw [h, List.length_append, List.length_map, List.length_take, List.length_drop] at this
    k_extra "o"
  have hl : ((xs.take i).map nrm).length = i := by rw [List.length_map, List.length_take]; k_extra "o"
  rw [h, List.getElem?_append_right (by k_extra "o"), hl, Nat.sub_self, List.getElem?_drop] at hx
  simpa using hx
theorem dlL_snoc (d : DL) (e : Str × Addr × List Value × Nat) : dlL (d ++ [e]) = dlL d ++ [(e.2.1, listOf e.2.2.1.toArray e.2.2.2)] := by rw [dlL_append]; rfl
noncomputable abbrev stL (w : World) (G : GA) (M : GM) (pco : Obj) (pt : Addr) (ptv : List Value) (npt : Nat) (R : Led) : Led :=
  gmL w G M ((G.pc, pco) :: (pt, tupO ptv npt) :: (dlL M.te ++ (dlL M.nt ++ (dlL M.pn ++ R))))
theorem in_strB {prog : Program} {w : World} {A : Around} {E : Value → Shared → Prop} {s : Shared} {x y : Str} {t u : Tok} {Q : Value → Shared → Prop} (b : Bool) (hb : (!(Builtin.Str.occurrences x y 0 x.length 1).isEmpty) = b) (h : Q (.bool b) s) : wpAny (model prog w) A (compareOp .In (.str y u) (.str x t)) Q E s :=
  PyProof.Rows.in_str (by rw [hb]; exact h)
theorem slice_strB {prog : Program} {w : World} {A : Around} {E : Value → Shared → Prop} {s : Shared} {h₀ : Heap} {L : Addr} {m : Str → Option Value} {news : Led} {value slice : Expr} {x : Str} {t : Tok} {Q : Value → Shared → Prop} {i j : Int} {ui uj : Tok} (y : Str) (hy : Txt.slice x (some i) (some j) = y) (hI : Fr h₀ L s.heap m) (hN : News h₀ L s.heap news)
    (h : ∀ h' t' k, Fr h₀ L h' m → News h₀ L h' news → Q (.str y t') { s with heap := h', toks := k })
    (hs : subscripted slice false (.str x t) (.ref s.heap.objs.size) = operate [.ref s.heap.objs.size, .str x t] (getItem (.str x t) (.ref s.heap.objs.size)) := by with_unfolding_all rfl)
    (ht : ∀ r, letTemporaryGo value (.str x t) r = pure () := by intro _; with_unfolding_all rfl) (hsz : x.length ≤ sizeLine := by size_fits) :
    wpAny (model prog w) A (subscriptTail value slice (.str x t) (.ref s.heap.objs.size)) Q E { s with heap := s.heap.push { cls := .type "slice", data := .fields #[.int i ui, .int j uj, .none] } } :=
  slice_strN_ss hI hN (fun h' t' k F' N' => by rw [hy]; exact h h' t' k F' N') hs ht hsz
theorem strV_set (its : List (Str × Tok)) (i : Nat) (x : Str) (t : Tok) : (strV its).set i (.str x t) = strV (its.set i (x, t)) := (List.map_set (f := fun p : Str × Tok => Value.str p.1 p.2) (l := its) (i := i) (a := (x, t))).symm
theorem cnt_same (k : Nat) : ∀ {l l' : Led}, l.map (·.1) = l'.map (·.1) → cnt k l = cnt k l'
  | [], [], _ => rfl
  | [], _ :: _, h => by cases h
  | _ :: _, [], h => by cases h
  | p :: r, q :: r', h => by
    simp only [List.map_cons, List.cons.injEq] at h
    unfold cnt
    rw [h.1, cnt_same k h.2]
theorem sep_same {l l' : Led} (h : l.map (·.1) = l'.map (·.1)) (S : Sep l) : Sep l' := fun k => by rw [← cnt_same k h]; exact S k
theorem off_same {l l' : Led} {I e : Addr} (h : l.map (·.1) = l'.map (·.1)) (S : ∀ p ∈ l, p.1 ≠ I ∧ p.1 ≠ e) : ∀ p ∈ l', p.1 ≠ I ∧ p.1 ≠ e := fun p hp => by
  have : p.1 ∈ l.map (·.1) := h ▸ List.mem_map_of_mem hp
  refine xE1A2 (List.mem_map.mp this) fun q hq e => ?_
  rw [← e]
  exact S q hq
theorem enum_dot {w : World} {G : GA} {M : GM} {pco : Obj} {pt : Addr} {ptv : List Value} {npt k : Nat} {R : Led} {e I D sy : Addr} {oe oI teo' teo'' : Obj} {its its2 : List (Str × Tok)} {te' : DL} {g h : Heap} {L : Addr} {x : Str}
    (N : News g L h ((D, listOf (List.toArray []) 0) :: (e, oe) :: (I, oI) :: (sy, listOf (strV its2).toArray k) :: stL w G { M with te := te', teo := teo'' } pco pt ptv npt R))
    (hfr : ∀ q ∈ ((e, oe) :: (I, oI) :: (sy, listOf (strV its).toArray k) :: stL w G { M with te := te', teo := teo' } pco pt ptv npt R), q.1 ≠ D)
    (hoff : ∀ p ∈ ((sy, listOf (strV its).toArray k) :: stL w G { M with te := te', teo := teo' } pco pt ptv npt R), p.1 ≠ I ∧ p.1 ≠ e)
    (hsep : Sep ((sy, listOf (strV its).toArray k) :: stL w G { M with te := te', teo := teo' } pco pt ptv npt R)) :
    News g L h ((e, oe) :: (I, oI) :: (sy, listOf (strV its2).toArray k) :: stL w G { M with te := te' ++ [(x, D, [], 0)], teo := teo'' } pco pt ptv npt R) ∧
    (∀ p ∈ ((sy, listOf (strV its2).toArray k) :: stL w G { M with te := te' ++ [(x, D, [], 0)], teo := teo'' } pco pt ptv npt R), p.1 ≠ I ∧ p.1 ≠ e) ∧
    Sep ((sy, listOf (strV its2).toArray k) :: stL w G { M with te := te' ++ [(x, D, [], 0)], teo := teo'' } pco pt ptv npt R) := by
  have hoff2 := off_same (l' := (sy, listOf (strV its2).toArray k) :: stL w G { M with te := te', teo := teo'' } pco pt ptv npt R) (by rfl) hoff
  have hsep2 := sep_same (l' := (sy, listOf (strV its2).toArray k) :: stL w G { M with te := te', teo := teo'' } pco pt ptv npt R) (by rfl) hsep
  have hf2 : ∀ q ∈ ((sy, listOf (strV its2).toArray k) :: stL w G { M with te := te', teo := teo'' } pco pt ptv npt R), q.1 ≠ D := fun q hq => by
    have : q.1 ∈ ((sy, listOf (strV its).toArray k) :: stL w G { M with te := te', teo := teo' } pco pt ptv npt R).map (·.1) := (List.mem_map_of_mem (f := (·.1)) hq : q.1 ∈ ((sy, listOf (strV its2).toArray k) :: stL w G { M with te := te', teo := teo'' } pco pt ptv npt R).map (·.1))
    refine xE1A2 (List.mem_map.mp this) fun r hr e => ?_
    rw [← e]
    exact hfr r (.tail _ (.tail _ hr))
  have sub : ∀ p ∈ ((sy, listOf (strV its2).toArray k) :: stL w G { M with te := te' ++ [(x, D, [], 0)], teo := teo'' } pco pt ptv npt R), p = (D, listOf (List.toArray []) 0) ∨ p ∈ ((sy, listOf (strV its2).toArray k) :: stL w G { M with te := te', teo := teo'' } pco pt ptv npt R) := fun p hp => by
    exact List.mem_cons.mp (ledIn1 [_, _, _, _, _, _, _, _, _, _, _, _] [_, _, _, _, _] (.a (.l 1) <| .c 0 <| .n) (.c 1 <| .c 2 <| .c 3 <| .c 4 <| .c 5 <| .c 6 <| .c 7 <| .c 8 <| .c 9 <| .c 10 <| .c 11 <| .a (.l 0) <| .a (.l 2) <| .a (.l 3) <| .l 4) (.c 0 <| .c 1 <| .c 2 <| .c 3 <| .c 4 <| .c 5 <| .c 6 <| .c 7 <| .c 8 <| .c 9 <| .c 10 <| .c 11 <| .a (.l 1) <| .a (.l 2) <| .a (.l 3) <| .l 4) rfl (dlL_snoc ..) _ hp)
  refine ⟨News.perm N fun p hp => ?_, fun p hp => ?_, ?_⟩
  · rcases List.mem_cons.mp hp with rfl | hp
    · exact .tail _ (.head _)
    · rcases List.mem_cons.mp hp with rfl | hp
      · exact .tail _ (.tail _ (.head _))
      · rcases sub p hp with rfl | h
        · exact .head _
        · exact .tail _ (.tail _ (.tail _ h))
  · rcases sub p hp with rfl | h
    · exact ⟨(hfr (I, oI) (.tail _ (.head _))).symm, (hfr (e, oe) (.head _)).symm⟩
    · exact hoff2 p h
  · refine Sep.sub (Sep.cons (p := (D, listOf (List.toArray []) 0)) hf2 hsep2) fun k => ?_
    exact ledCnt1 [_, _, _, _, _, _, _, _, _, _, _, _] [_, _, _, _, _, _, _, _, _, _, _, _] [_, _, _, _, _] (.a (.l 1) <| .c 0 <| .n) (.c 1 <| .c 2 <| .c 3 <| .c 4 <| .c 5 <| .c 6 <| .c 7 <| .c 8 <| .c 9 <| .c 10 <| .c 11 <| .a (.l 0) <| .a (.l 2) <| .a (.l 3) <| .l 4) (.c 0 <| .c 1 <| .c 2 <| .c 3 <| .c 4 <| .c 5 <| .c 6 <| .c 7 <| .c 8 <| .c 9 <| .c 10 <| .c 11 <| .a (.l 1) <| .a (.l 2) <| .a (.l 3) <| .l 4) rfl rfl (dlL_snoc ..) k
noncomputable def UpOK (prog : Program) (w : World) (o : Obj) : Prop := ∃ S n, o.SetObjOf (PySem.strKind prog w) S n ∧ n ≤ 1 ∧ (S (Str.ofString "a") = false → n = 0)
noncomputable def szL (B : Nat) (d : DL) : Prop := ∀ e ∈ d, e.2.2.1.length ≤ B
structure MOK (prog : Program) (w : World) (B : Nat) (M : GM) : Prop where
  te : M.teo.IsDictOf (PySem.strKind prog w) (dlKV M.te)
  nt : M.nto.IsDictOf (PySem.strKind prog w) (dlKV M.nt)
  pn : M.pno.IsDictOf (PySem.strKind prog w) (dlKV M.pn)
  pm : M.pmo.IsDictOf (PySem.strKind prog w) M.pm
  tk : TeOK M.te
  up : UpOK prog w M.upo
  st : szL B M.te
  sn : szL B M.nt
  sp : szL B M.pn
  ln : M.nt.length ≤ B
  lp : M.pn.length ≤ B
  lm : M.pm.length ≤ B
  ll : M.lpv.length ≤ B
noncomputable def AddE (prog : Program) (w : World) (G : GA) (B : Nat) (M : GM) (pco : Obj) (pt : Addr) (ptv : List Value) (npt : Nat) (R : Led) (nws : Led) : Prop :=
  ∃ te' teo' upo', MOK prog w B { M with te := te', teo := teo', upo := upo' } ∧ (∀ q ∈ stL w G { M with te := te', teo := teo', upo := upo' } pco pt ptv npt R, q ∈ nws) ∧ Sep (stL w G { M with te := te', teo := teo', upo := upo' } pco pt ptv npt R)
theorem noab_step {xs : List Str} {i : Nat} {x z : Str} (h : ∀ y ∈ xs.take i, y ≠ z) (hx : xs[i]? = some x) (hn : x ≠ z) : ∀ y ∈ xs.take (i + 1), y ≠ z := by
  refine xE1A1 (List.getElem?_eq_some_iff.mp hx) fun hi hx => ?_
  rw [List.take_succ_eq_append_getElem hi]
  intro y hy
  rcases List.mem_append.mp hy with hy | hy
  · exact h y hy
  · rw [List.mem_singleton.mp hy, hx]; exact hn
noncomputable abbrev S8 : List Str := [S_ "a", S_ "A", S_ "S", S_ "'.'", S_ "B", S_ "D", S_ "error", S_ "'ab'"]
noncomputable def Tl4 (t : List Str) : Prop := t = [] ∨ t = [S_ "%prec", S_ "a"] ∨ t = [S_ "%prec"] ∨ t = [S_ "%prec", S_ "b"]
noncomputable def rowT (h : Str) (l : List Str) : Str := Str.empty ++ h ++ Str.ofString " -> " ++ (PyData.list (l.map PyData.str)).shown
noncomputable def BadRow (M : GM) (h : Str) (base tail : List Str) : Prop := S_ "'ab'" ∈ base ∨ tail = [S_ "%prec"] ∨ tail = [S_ "%prec", S_ "b"] ∨ (valueAt M.pm (rowT h (base.map nrm))).isSome = true

section
open PyProof.Rows PySem.Calls Builtin Builtin.Str
theorem under_str {prog : Program} {w : World} {A : Around} {E : Value → Shared → Prop} {s : Shared} {b : Nat} {x : Str} {t : Tok} {Q : Value → Shared → Prop} (hx : (reprText x).length ≤ sizeLine) (h : Q (.str (reprText x) s.toks) { s with toks := s.toks + 1 }) :
    wpAny (model prog w) A (pyReprObjUnder b (.str x t)) Q E s := by
  have hT := typeIs_str s x t
  unfold pyReprObjUnder pyReprObjBy
  simp only [cRoomFor, show ([Value.str x t].any Value.onHeap) = false from rfl, Bool.false_eq_true, if_false, pure_bind]
  refine wpAny_bind (wpAny_specialOf (name := Str.ofString "__repr__") hT F.slot_str_repr.lookup ?_)
  refine wpAny_bind (wpAny_callSpecialIfBoundBy?_slotG (name := Str.ofString "__repr__") hT F.slot_str_repr.toG ?_)
  simp only [show reprUnder? (.builtin "str.__repr__") = none from by decide +kernel]
  refine call_gives F.slot_str_repr hT F.entry_str_repr (F.args_str_repr_1 _) (gives_str_repr x t) ⟨hx, ?_⟩
  exact wpAny_bind (wpAny_isInstance (T := "str") (b := true) rfl isSubtype_str_str (wpAny_pure h))
noncomputable abbrev PSt : Type := List Value × Writer × List Nat
theorem span_lit {lit rest : List Nat} (h : ∀ c ∈ lit, c ≠ 37) (hr : rest = [] ∨ ∃ r, rest = 37 :: r) : (lit ++ rest).span (· != 37) = (lit, rest) := by
  have e1 : (lit ++ rest).takeWhile (· != 37) = lit := by
    induction lit with
    | nil => rcases hr with rfl | ⟨r, rfl⟩ <;> simp
    | cons c l ih =>
      have hc := h c (.head _)
      rw [List.cons_append, List.takeWhile_cons_of_pos (by simpa using hc), ih fun d hd => h d (.tail _ hd)]
  have e2 : (lit ++ rest).dropWhile (· != 37) = rest := by
    induction lit with
    | nil => rcases hr with rfl | ⟨r, rfl⟩ <;> simp
    | cons c l ih =>
      have hc := h c (.head _)
      rw [List.cons_append, List.dropWhile_cons_of_pos (by simpa using hc)]
      refine ih (fun d hd => h d (.tail _ hd)) ?_
      rw [List.cons_append, List.takeWhile_cons_of_pos (by simpa using hc)] at e1
      exact (List.cons.inj e1).2
  have e3 : ∀ (p : Nat → Bool) (l acc : List Nat), List.span.loop p l acc = (acc.reverse ++ l.takeWhile p, l.dropWhile p) := by
    intro p l
    induction l with
    | nil => intro acc; simp [List.span.loop]
    | cons c l ih =>
      intro acc
      unfold List.span.loop
      cases hc : p c
      · simp [List.takeWhile_cons, List.dropWhile_cons, hc]
      · simp [List.takeWhile_cons, List.dropWhile_cons, hc, ih]
  unfold List.span
  rw [e3, e1, e2]
  rfl
structure PTurn (prog : Program) (w : World) (X : Str) (f : Nat → PSt → Sem (ForInStep PSt)) : Prop where
  nil : ∀ (A : Around) (E : Value → Shared → Prop) (s : Shared) (k : Nat) (p : List Value) (wr : Writer) (T : Str) (N : Nat) (Q : ForInStep PSt → Shared → Prop), KPc.Good wr T N → N ≤ 16777216 → Q (.done (p, wr, [])) s → wpAny (model prog w) A (f k (p, wr, [])) Q E s
  lit : ∀ (A : Around) (E : Value → Shared → Prop) (s : Shared) (k : Nat) (p : List Value) (wr : Writer) (T : Str) (N : Nat) (Q : ForInStep PSt → Shared → Prop) (l rest : List Nat), KPc.Good wr T N → N ≤ 16777216 → l ≠ [] → l.length ≠ X.length → (∀ c ∈ l, c ≠ 37) → (rest = [] ∨ ∃ r, rest = 37 :: r) →
    (∀ wr', KPc.Good wr' (T ++ ⟨l.toArray⟩) (N + l.length) → Q (.yield (p, wr', rest)) s) → wpAny (model prog w) A (f k (p, wr, l ++ rest)) Q E s
  pp : ∀ (A : Around) (E : Value → Shared → Prop) (s : Shared) (k : Nat) (p : List Value) (wr : Writer) (T : Str) (N : Nat) (Q : ForInStep PSt → Shared → Prop) (rest : List Nat), KPc.Good wr T N → N ≤ 16777216 →
    (∀ wr', KPc.Good wr' (T ++ Str.ofString "%") (N + 1) → Q (.yield (p, wr', rest)) s) → wpAny (model prog w) A (f k (p, wr, 37 :: 37 :: rest)) Q E s
  st : ∀ (A : Around) (E : Value → Shared → Prop) (s : Shared) (k : Nat) (v : Value) (more : List Value) (wr : Writer) (T : Str) (N : Nat) (Q : ForInStep PSt → Shared → Prop) (rest : List Nat), KPc.Good wr T N → N ≤ 16777216 →
    wpAny (model prog w) A (strOf v) (fun o s' => ∃ x u, o = .str x u ∧ ∀ wr', KPc.Good wr' (T ++ x) (N + x.length) → Q (.yield (more, wr', rest)) s') E s → wpAny (model prog w) A (f k (v :: more, wr, 37 :: 115 :: rest)) Q E s
  rp : ∀ (A : Around) (E : Value → Shared → Prop) (s : Shared) (k : Nat) (x : Str) (u : Tok) (more : List Value) (wr : Writer) (T : Str) (N : Nat) (Q : ForInStep PSt → Shared → Prop) (rest : List Nat), KPc.Good wr T N → N ≤ 16777216 → (reprText x).length ≤ sizeLine →
    (∀ tk wr', KPc.Good wr' (T ++ reprText x) (N + (reprText x).length) → Q (.yield (more, wr', rest)) { s with toks := tk }) → wpAny (model prog w) A (f k (.str x u :: more, wr, 37 :: 114 :: rest)) Q E s
  it : ∀ (A : Around) (E : Value → Shared → Prop) (s : Shared) (k : Nat) (n : Int) (u : Tok) (more : List Value) (wr : Writer) (T : Str) (N : Nat) (Q : ForInStep PSt → Shared → Prop) (rest : List Nat), KPc.Good wr T N → N ≤ 16777216 → 0 ≤ n → n < 10 ^ 10 →
    (∀ tk wr', KPc.Good wr' (T ++ Str.ofString (toString n)) (N + 10) → Q (.yield (more, wr', rest)) { s with toks := tk }) → wpAny (model prog w) A (f k (.int n u :: more, wr, 37 :: 100 :: rest)) Q E s
theorem eta_str (x : Str) : (⟨x.cps.toList.toArray⟩ : Str) = x := congrArg PySem.Str.mk (Array.toArray_toList ..)
theorem obj_ite {c : Prop} [Decidable c] {x : Str} {u : Tok} : KPc.Obj (if c then some (Value.str x u) else none) x := by
  split
  · exact KPc.obj_some rfl
  · exact KPc.obj_none rfl
theorem forIn_via {prog : Program} {w : World} {X : Str} {f : Nat → PSt → Sem (ForInStep PSt)} {A : Around} {E : Value → Shared → Prop} {s : Shared} {l : List Nat} {st : PSt} {Q : PSt → Shared → Prop} (hp : PTurn prog w X f) (h : ∀ f, PTurn prog w X f → wpAny (model prog w) A (forIn l st f) Q E s) : wpAny (model prog w) A (forIn l st f) Q E s := h f hp
theorem wpAny_rfl {α : Type} {M : Model} {A : Around} {t t' : Sem α} {Q : α → Shared → Prop} {E : Value → Shared → Prop} {s : Shared} (h : wpAny M A t' Q E s) (e : t = t') : wpAny M A t Q E s := e ▸ h
noncomputable def pfEnd (wr : Writer) (more : List Value) (rest : List Nat) (c : Nat) (r : List Nat × Option Value × Bool) : Sem (ForInStep PSt) :=
  match percentField { type := c } r.2.2 r.1 with
  | none => pure (.yield (more, wr.add ⟨r.1.toArray⟩ (if rest.isEmpty then r.2.1 else none), rest))
  | some laid => pure (.yield (more, wr.add ⟨laid.toArray⟩, rest))
theorem pfEnd_ok {M : Model} {A : Around} {Q : ForInStep PSt → Shared → Prop} {E : Value → Shared → Prop} {s : Shared} {wr : Writer} {more : List Value} {rest : List Nat} {c : Nat} {text : List Nat} {obj : Option Value} {numeric : Bool} (h : Q (.yield (more, wr.add ⟨text.toArray⟩ (if rest.isEmpty then obj else none), rest)) s) : wpAny M A (pfEnd wr more rest c (text, obj, numeric)) Q E s := by
  have e : percentField { type := c } numeric text = none := rfl
  unfold pfEnd
  simp only [e]
  exact wpAny_pure h
noncomputable def pfText (o : Value) : Sem (List Nat × Option Value × Bool) := asStr? o >>= fun x => match x with
  | some s => pure (s.cps.toList, some o, false)
  | _ => unsupported "internal:str.__mod__"
noncomputable def pfInt (c : Nat) (i : Int) : Sem (List Nat × Option Value × Bool) := mkInt (i.natAbs : Int) >>= fun o => call (.builtin "int.__repr__") [o] >>= fun r => asStr? r >>= fun x => match x with
  | some d => pure d.cps.toList >>= fun digits => pure (percentInt { type := c } (decide (i < 0)) digits, none, true)
  | _ => unsupported "internal:str.__mod__" >>= fun digits => pure (percentInt { type := c } (decide (i < 0)) digits, none, true)
set_option maxHeartbeats 4000000 in
theorem pf_turns (prog : Program) (w : World) (X : Str) (t : Tok) (b : Addr) (A : Around) (E : Value → Shared → Prop) (s : Shared) (vs : List Value) (Q : PySem.Fin → Shared → Prop) (ht : IsTup s.heap b vs.toArray)
    (h : ∀ f wr, PTurn prog w X f → KPc.Good wr Str.empty 0 → wpAny (model prog w) A (forIn (List.range' 0 X.length 1) (vs, wr, X.cps.toList) f) (fun r s' => r.1 = [] ∧ ∃ T N, KPc.Good r.2.1 T N ∧ N ≤ 16777216 ∧ ∀ t k, Q (.done (.ret (.str T t))) { s' with toks := k }) E s) :
    wpAny (model prog w) A (percentFormat (.str X t) X (.ref b)) Q E s := by
  refine xE1A3 ht ?_; (try clear ht); intro kptO kptG kptC z1q; refine xE1A1 z1q ?_; (try clear z1q); intro kptN kptD
  unfold Builtin.Str.percentFormat
  refine wpAny_bind (wpAny_isInstance (T := "tuple") ⟨kptO, kptG, kptC⟩ KPt.sub_tt ?_)
  refine wpAny_bind (KPt.asStr_ref kptG kptD ?_)
  refine wpAny_bind (KPt.fills_ref ⟨kptO, kptG, kptC⟩ ?_)
  intro bb
  kpc_if
  refine wpAny_bind (wpAny_seqItems kptG kptD ?_)
  refine wpAny_bind (wpAny_pure ?_)
  refine wpAny_bind ?_
  rw [KPc.range_list]
  refine KPc.start ?_
  intro wr gw
  refine forIn_via ?hp fun f hf => wpAny_mono (h f wr hf gw) (fun r s' hr => ?fin) fun _ _ e => e
  case fin =>
    obtain ⟨p, wr', r⟩ := r
    refine xE0A2 hr ?_; (try clear hr); intro hp0 z2q; refine xE2A3 z2q ?_; (try clear z2q); intro T N g hN hq
    dsimp only at hp0
    subst hp0
    exact KPc.finish_ok g hN rfl hq
  case hp =>
    refine ⟨?_, ?_, ?_, ?_, ?_, ?_⟩
    · intro A E s k p wr T N Q g hN hq
      refine wpAny_ite (KPc.ite_no (KPc.short_good g hN) ?_)
      exact wpAny_rfl (wpAny_pure hq) (by kernel_rfl)
    · intro A E s k p wr T N Q l rest g hN hl hlX h37 hr hq
      refine xE2A1 (List.exists_cons_of_ne_nil hl) fun c l z3q => ?_; obtain rfl := z3q
      refine wpAny_ite (KPc.ite_no (KPc.short_good g hN) ?_)
      kpc_if
      rw [show List.span (fun x => x != 37) (p, wr, c :: l ++ rest).snd.snd = (c :: l, rest) from span_lit h37 hr]
      exact wpAny_rfl (wpAny_pure (hq (wr.add ⟨(c :: l).toArray⟩ (if ((c :: l).length == X.length) = true then some (Value.str X t) else none)) (KPc.good_add g (KPc.obj_none (if_neg (by simpa using hlX)))))) (by kernel_rfl)
    · intro A E s k p wr T N Q rest g hN hq
      refine wpAny_ite (KPc.ite_no (KPc.short_good g hN) ?_)
      exact wpAny_rfl (wpAny_pure (hq (wr.add (Str.ofString "%")) (KPc.good_add g (KPc.obj_none rfl)))) (by kernel_rfl)
    · intro A E s k v more wr T N Q rest g hN hq
      refine wpAny_ite (KPc.ite_no (KPc.short_good g hN) ?_)
      refine wpAny_rfl (t' := holding [v] (strOf v >>= pfText) >>= pfEnd wr more rest 115) ?_ (by kernel_rfl)
      refine wpAny_bind (wpAny_holding ?_)
      refine wpAny_bind (wpAny_mono hq (fun o s' ho => ?_) fun _ _ e => e)
      refine xE2A2 ho ?_; (try clear ho); intro x u z4q ho; obtain rfl := z4q
      refine wpAny_bind (wpAny_of_eq (a := some _) rfl ?_)
      refine wpAny_pure ?_
      refine pfEnd_ok (ho _ ?_)
      rw [eta_str]
      exact KPc.good_add g obj_ite
    · intro A E s k x u more wr T N Q rest g hN hx hq
      refine wpAny_ite (KPc.ite_no (KPc.short_good g hN) ?_)
      refine wpAny_rfl (t' := holding [.str x u] (pyReprObjUnder wr.total (.str x u) >>= pfText) >>= pfEnd wr more rest 114) ?_ (by kernel_rfl)
      refine wpAny_bind (wpAny_holding ?_)
      refine wpAny_bind (under_str hx ?_)
      refine wpAny_bind (wpAny_of_eq (a := some _) rfl ?_)
      refine wpAny_pure ?_
      refine pfEnd_ok (hq _ _ ?_)
      rw [eta_str]
      exact KPc.good_add g obj_ite
    · intro A E s k n u more wr T N Q rest g hN h0 h1 hq
      refine wpAny_ite (KPc.ite_no (KPc.short_good g hN) ?_)
      refine wpAny_rfl (t' := holding [.int n u] (percentIntOf 100 (.int n u) >>= pfInt 100) >>= pfEnd wr more rest 100) ?_ (by kernel_rfl)
      refine wpAny_bind (wpAny_holding ?_)
      have hsh : n.natAbs.log2 < 1920 := shown (N := 2 ^ 1920) (by k_extra "o") (by k_extra "o") (Int.le_refl _)
      refine wpAny_bind (wpAny_of_eq (a := n) rfl ?_)
      refine wpAny_bind (wpAny_mkInt ?_)
      refine wpAny_bind (call_gives F.slot_int_repr (typeIs_int _ _ _) F.entry_int_repr (F.args_int_repr_1 _) (gives_int_repr _ _ (KPt.hd2 hsh)) ⟨int_text_fits (KPt.hd2 hsh), ?_⟩)
      refine wpAny_bind (wpAny_of_eq (a := some _) rfl ?_)
      refine wpAny_bind (wpAny_pure ?_)
      refine wpAny_pure ?_
      refine pfEnd_ok (hq _ _ ?_)
      rw [KPc.int_text _ rfl (.inl rfl) rfl h0, eta_str, show ((n.natAbs : Nat) : Int) = n from Int.natAbs_of_nonneg h0]
      exact KPc.good_mono (KPc.good_add g (KPc.obj_none (ite_self _))) (Nat.add_le_add_left (toString_length_le h0 (by decide) h1) _)
inductive Pc where
  | lit (l : List Nat)
  | pp
  | st (x : Str) (u : Tok)
  | rp (x : Str) (u : Tok)
  | it (n : Int) (u : Tok)
noncomputable def Pc.chars : Pc → List Nat | .lit l => l | .pp => [37, 37] | .st .. => [37, 115] | .rp .. => [37, 114] | .it .. => [37, 100]
noncomputable def Pc.vals : Pc → List Value | .lit _ => [] | .pp => [] | .st x u => [.str x u] | .rp x u => [.str x u] | .it n u => [.int n u]
noncomputable def Pc.text : Pc → Str | .lit l => ⟨l.toArray⟩ | .pp => Str.ofString "%" | .st x _ => x | .rp x _ => reprText x | .it n _ => Str.ofString (toString n)
noncomputable def Pc.Ok (X : Str) : Pc → List Pc → Prop
  | .lit l, r => l ≠ [] ∧ l.length ≠ X.length ∧ l.length ≤ 1000 ∧ (∀ c ∈ l, c ≠ 37) ∧ (match r with | .lit _ :: _ => False | _ => True)
  | .pp, _ => True
  | .st x _, _ => x.length ≤ 1000
  | .rp x _, _ => (reprText x).length ≤ 1000
  | .it n _, _ => 0 ≤ n ∧ n < 10 ^ 10
noncomputable def pcsOk (X : Str) : List Pc → Prop
  | [] => True
  | p :: r => p.Ok X r ∧ pcsOk X r
noncomputable def pcsText (T : Str) : List Pc → Str
  | [] => T
  | p :: r => pcsText (T ++ p.text) r
theorem pcs_head {X : Str} {r : List Pc} (h : match r with | .lit _ :: _ => False | _ => True) : r.flatMap Pc.chars = [] ∨ ∃ q, r.flatMap Pc.chars = 37 :: q := by
  cases r with
  | nil => exact .inl rfl
  | cons p r =>
    cases p with
    | lit l => exact h.elim
    | pp => exact .inr ⟨_, rfl⟩
    | st x u => exact .inr ⟨_, rfl⟩
    | rp x u => exact .inr ⟨_, rfl⟩
    | it n u => exact .inr ⟨_, rfl⟩
theorem run_pcs {prog : Program} {w : World} {X : Str} {f : Nat → PSt → Sem (ForInStep PSt)} {A : Around} {E : Value → Shared → Prop} {Q : PSt → Shared → Prop} (hf : PTurn prog w X f) : ∀ (ps : List Pc) (l : List Nat) (wr : Writer) (T : Str) (N : Nat) (s : Shared), ps.length ≤ l.length → pcsOk X ps → KPc.Good wr T N → N + 1000 * ps.length ≤ 16777216 →
    (∀ wr' N' tk, KPc.Good wr' (pcsText T ps) N' → N' ≤ 16777216 → Q ([], wr', []) { s with toks := tk }) → wpAny (model prog w) A (forIn l (ps.flatMap Pc.vals, wr, ps.flatMap Pc.chars) f) Q E s
  | [], l, wr, T, N, s, _, _, g, hN, hq => by
    cases l with
    | nil => exact wpAny_pure (hq wr N s.toks g (by simpa using hN))
    | cons k l =>
      refine KPc.turn (hf.nil _ _ _ _ _ _ T N _ g (by simpa using hN) ?_)
      exact hq wr N s.toks g (by simpa using hN)
  | p :: r, [], _, _, _, _, hl, _, _, _, _ => by simp at hl
  | p :: r, k :: l, wr, T, N, s, hl, hok, g, hN, hq => by
    refine xE0A2 hok ?_; (try clear hok); intro h1 h2
    simp only [List.length_cons] at hl hN
    have hN0 : N ≤ 16777216 := by k_extra "o"
    have go : ∀ (s' : Shared) wr', (∃ tk, s' = { s with toks := tk }) → KPc.Good wr' (T ++ p.text) (N + 1000) → wpAny (model prog w) A (forIn l (r.flatMap Pc.vals, wr', r.flatMap Pc.chars) f) Q E s' := fun s' wr' hs g' => by
      refine xE1A1 hs ?_; (try clear hs); intro tk z5q; obtain rfl := z5q
      exact run_pcs hf r l wr' (T ++ p.text) (N + 1000) { s with toks := tk } (by k_extra "o") h2 g' (by k_extra "o") fun wr'' N' tk' => hq wr'' N' tk'
    refine KPc.turn ?_
    cases p with
    | lit c =>
      refine xE0A5 h1 ?_; (try clear h1); intro a1 a2 a3 a4 a5
      exact hf.lit _ _ _ _ _ _ T N _ c _ g hN0 a1 a2 a4 (pcs_head (X := X) a5) fun wr' g' => go s wr' ⟨_, rfl⟩ (KPc.good_mono g' (Nat.add_le_add_left a3 _))
    | pp => exact hf.pp _ _ _ _ _ _ T N _ _ g hN0 fun wr' g' => go s wr' ⟨_, rfl⟩ (KPc.good_mono g' (Nat.add_le_add_left (by decide) _))
    | st x u => exact hf.st _ _ _ _ _ _ _ T N _ _ g hN0 (wpAny_of_eq (KPc.strOf_str x u) ⟨x, u, rfl, fun wr' g' => go s wr' ⟨_, rfl⟩ (KPc.good_mono g' (Nat.add_le_add_left h1 _))⟩)
    | rp x u => exact hf.rp _ _ _ _ _ _ _ _ T N _ _ g hN0 (by rw [sizeLine_eq]; exact Nat.le_trans h1 (by decide)) fun tk wr' g' => go _ wr' ⟨tk, rfl⟩ (KPc.good_mono g' (Nat.add_le_add_left h1 _))
    | it n u => exact hf.it _ _ _ _ _ _ _ _ T N _ _ g hN0 h1.1 h1.2 fun tk wr' g' => go _ wr' ⟨tk, rfl⟩ (KPc.good_mono g' (Nat.add_le_add_left (by decide) _))
theorem mod_pcs {prog : Program} {w : World} {A : Around} {E : Value → Shared → Prop} {s : Shared} {X : Str} {t : Tok} {Q : Value → Shared → Prop} {b L : Addr} {n : Nat} {h₀ : Heap} {news : Led} {vs : List Value} (ps : List Pc) (N : News h₀ L s.heap news) (hb : (b, tupO vs n) ∈ news)
    (hv : vs = ps.flatMap Pc.vals) (hX : X.cps.toList = ps.flatMap Pc.chars) (hok : pcsOk X ps) (hl : ps.length ≤ 1000) (hlen : ps.length ≤ X.length)
    (h : ∀ t' k, Q (.str (pcsText Str.empty ps) t') { s with toks := k }) : wpAny (model prog w) A (binaryOp .Mod (.str X t) (.ref b)) Q E s := by
  refine KPt.mod_tuple (T := pcsText Str.empty ps) N hb rfl ?_ h
  refine KPt.meets_tup fun prog w A s Q E ht hq => ?_
  rw [KPt.entry_is_r]
  refine pf_turns prog w X t b A E s vs Q ht fun f wr hf g => ?_
  rw [hX, hv]
  refine run_pcs hf ps _ wr _ 0 s (by rw [List.length_range']; exact hlen) hok g (by k_extra "o") fun wr' N' tk g' hN' => ⟨rfl, _, N', g', hN', fun t k => hq t k⟩
end

section
open Builtin.Str
noncomputable def sL (x : String) : List Nat := (Str.ofString x).cps.toList
theorem mod_F1 {prog : Program} {w : World} {A : Around} {E : Value → Shared → Prop} {s : Shared} {t : Tok} {Q : Value → Shared → Prop} {b L : Addr} {n : Nat} {h₀ : Heap} {news : Led} {x0 : Str} {n1 : Int} {x2 : Str} {t0 t1 t2 : Tok} (N : News h₀ L s.heap news) (hb : (b, tupO [.str x0 t0, .int n1 t1, .str x2 t2] n) ∈ news) (h0 : x0.length ≤ 1000) (h1 : 0 ≤ n1 ∧ n1 < 10 ^ 10) (h2 : (reprText x2).length ≤ 1000)
    (h : ∀ t' k, Q (.str (pcsText Str.empty [.st x0 t0, .lit (sL ":"), .it n1 t1, .lit (sL ": Illegal rule name "), .rp x2 t2, .lit (sL ". Already defined as a token")]) t') { s with toks := k }) : wpAny (model prog w) A (binaryOp .Mod (.str (Str.ofString "%s:%d: Illegal rule name %r. Already defined as a token") t) (.ref b)) Q E s := by
  refine mod_pcs [.st x0 t0, .lit (sL ":"), .it n1 t1, .lit (sL ": Illegal rule name "), .rp x2 t2, .lit (sL ". Already defined as a token")] N hb rfl ?_ ⟨h0, ⟨by decide +kernel, by decide +kernel, by decide +kernel, by decide +kernel, trivial⟩, h1, ⟨by decide +kernel, by decide +kernel, by decide +kernel, by decide +kernel, trivial⟩, h2, ⟨by decide +kernel, by decide +kernel, by decide +kernel, by decide +kernel, trivial⟩, trivial⟩ (Nat.le_of_ble_eq_true rfl) ?_ h
  · simp only [List.flatMap_cons, List.flatMap_nil, Pc.chars]
    decide +kernel
  · simp only [List.length_cons, List.length_nil]
    decide +kernel
theorem mod_F3 {prog : Program} {w : World} {A : Around} {E : Value → Shared → Prop} {s : Shared} {t : Tok} {Q : Value → Shared → Prop} {b L : Addr} {n : Nat} {h₀ : Heap} {news : Led} {x0 : Str} {n1 : Int} {x2 : Str} {t0 t1 t2 : Tok} (N : News h₀ L s.heap news) (hb : (b, tupO [.str x0 t0, .int n1 t1, .str x2 t2] n) ∈ news) (h0 : x0.length ≤ 1000) (h1 : 0 ≤ n1 ∧ n1 < 10 ^ 10) (h2 : (reprText x2).length ≤ 1000)
    (h : ∀ t' k, Q (.str (pcsText Str.empty [.st x0 t0, .lit (sL ":"), .it n1 t1, .lit (sL ": Illegal rule name "), .rp x2 t2]) t') { s with toks := k }) : wpAny (model prog w) A (binaryOp .Mod (.str (Str.ofString "%s:%d: Illegal rule name %r") t) (.ref b)) Q E s := by
  refine mod_pcs [.st x0 t0, .lit (sL ":"), .it n1 t1, .lit (sL ": Illegal rule name "), .rp x2 t2] N hb rfl ?_ ⟨h0, ⟨by decide +kernel, by decide +kernel, by decide +kernel, by decide +kernel, trivial⟩, h1, ⟨by decide +kernel, by decide +kernel, by decide +kernel, by decide +kernel, trivial⟩, h2, trivial⟩ (Nat.le_of_ble_eq_true rfl) ?_ h
  · simp only [List.flatMap_cons, List.flatMap_nil, Pc.chars]
    decide +kernel
  · simp only [List.length_cons, List.length_nil]
    decide +kernel
theorem mod_F4 {prog : Program} {w : World} {A : Around} {E : Value → Shared → Prop} {s : Shared} {t : Tok} {Q : Value → Shared → Prop} {b L : Addr} {n : Nat} {h₀ : Heap} {news : Led} {x0 : Str} {n1 : Int} {x2 : Str} {x3 : Str} {t0 t1 t2 t3 : Tok} (N : News h₀ L s.heap news) (hb : (b, tupO [.str x0 t0, .int n1 t1, .str x2 t2, .str x3 t3] n) ∈ news) (h0 : x0.length ≤ 1000) (h1 : 0 ≤ n1 ∧ n1 < 10 ^ 10) (h2 : x2.length ≤ 1000) (h3 : (reprText x3).length ≤ 1000)
    (h : ∀ t' k, Q (.str (pcsText Str.empty [.st x0 t0, .lit (sL ":"), .it n1 t1, .lit (sL ": Literal token "), .st x2 t2, .lit (sL " in rule "), .rp x3 t3, .lit (sL " may only be a single character")]) t') { s with toks := k }) : wpAny (model prog w) A (binaryOp .Mod (.str (Str.ofString "%s:%d: Literal token %s in rule %r may only be a single character") t) (.ref b)) Q E s := by
  refine mod_pcs [.st x0 t0, .lit (sL ":"), .it n1 t1, .lit (sL ": Literal token "), .st x2 t2, .lit (sL " in rule "), .rp x3 t3, .lit (sL " may only be a single character")] N hb rfl ?_ ⟨h0, ⟨by decide +kernel, by decide +kernel, by decide +kernel, by decide +kernel, trivial⟩, h1, ⟨by decide +kernel, by decide +kernel, by decide +kernel, by decide +kernel, trivial⟩, h2, ⟨by decide +kernel, by decide +kernel, by decide +kernel, by decide +kernel, trivial⟩, h3, ⟨by decide +kernel, by decide +kernel, by decide +kernel, by decide +kernel, trivial⟩, trivial⟩ (Nat.le_of_ble_eq_true rfl) ?_ h
  · simp only [List.flatMap_cons, List.flatMap_nil, Pc.chars]
    decide +kernel
  · simp only [List.length_cons, List.length_nil]
    decide +kernel
theorem mod_F6 {prog : Program} {w : World} {A : Around} {E : Value → Shared → Prop} {s : Shared} {t : Tok} {Q : Value → Shared → Prop} {b L : Addr} {n : Nat} {h₀ : Heap} {news : Led} {x0 : Str} {n1 : Int} {t0 t1 : Tok} (N : News h₀ L s.heap news) (hb : (b, tupO [.str x0 t0, .int n1 t1] n) ∈ news) (h0 : x0.length ≤ 1000) (h1 : 0 ≤ n1 ∧ n1 < 10 ^ 10)
    (h : ∀ t' k, Q (.str (pcsText Str.empty [.st x0 t0, .lit (sL ":"), .it n1 t1, .lit (sL ": Syntax error. Nothing follows "), .pp, .lit (sL "prec")]) t') { s with toks := k }) : wpAny (model prog w) A (binaryOp .Mod (.str (Str.ofString "%s:%d: Syntax error. Nothing follows %%prec") t) (.ref b)) Q E s := by
  refine mod_pcs [.st x0 t0, .lit (sL ":"), .it n1 t1, .lit (sL ": Syntax error. Nothing follows "), .pp, .lit (sL "prec")] N hb rfl ?_ ⟨h0, ⟨by decide +kernel, by decide +kernel, by decide +kernel, by decide +kernel, trivial⟩, h1, ⟨by decide +kernel, by decide +kernel, by decide +kernel, by decide +kernel, trivial⟩, trivial, ⟨by decide +kernel, by decide +kernel, by decide +kernel, by decide +kernel, trivial⟩, trivial⟩ (Nat.le_of_ble_eq_true rfl) ?_ h
  · simp only [List.flatMap_cons, List.flatMap_nil, Pc.chars]
    decide +kernel
  · simp only [List.length_cons, List.length_nil]
    decide +kernel
theorem mod_F8 {prog : Program} {w : World} {A : Around} {E : Value → Shared → Prop} {s : Shared} {t : Tok} {Q : Value → Shared → Prop} {b L : Addr} {n : Nat} {h₀ : Heap} {news : Led} {x0 : Str} {n1 : Int} {x2 : Str} {t0 t1 t2 : Tok} (N : News h₀ L s.heap news) (hb : (b, tupO [.str x0 t0, .int n1 t1, .str x2 t2] n) ∈ news) (h0 : x0.length ≤ 1000) (h1 : 0 ≤ n1 ∧ n1 < 10 ^ 10) (h2 : (reprText x2).length ≤ 1000)
    (h : ∀ t' k, Q (.str (pcsText Str.empty [.st x0 t0, .lit (sL ":"), .it n1 t1, .lit (sL ": Nothing known about the precedence of "), .rp x2 t2]) t') { s with toks := k }) : wpAny (model prog w) A (binaryOp .Mod (.str (Str.ofString "%s:%d: Nothing known about the precedence of %r") t) (.ref b)) Q E s := by
  refine mod_pcs [.st x0 t0, .lit (sL ":"), .it n1 t1, .lit (sL ": Nothing known about the precedence of "), .rp x2 t2] N hb rfl ?_ ⟨h0, ⟨by decide +kernel, by decide +kernel, by decide +kernel, by decide +kernel, trivial⟩, h1, ⟨by decide +kernel, by decide +kernel, by decide +kernel, by decide +kernel, trivial⟩, h2, trivial⟩ (Nat.le_of_ble_eq_true rfl) ?_ h
  · simp only [List.flatMap_cons, List.flatMap_nil, Pc.chars]
    decide +kernel
  · simp only [List.length_cons, List.length_nil]
    decide +kernel
theorem mod_P1 {prog : Program} {w : World} {A : Around} {E : Value → Shared → Prop} {s : Shared} {t : Tok} {Q : Value → Shared → Prop} {b L : Addr} {n : Nat} {h₀ : Heap} {news : Led} {x0 : Str} {x1 : Str} {t0 t1 : Tok} (N : News h₀ L s.heap news) (hb : (b, tupO [.str x0 t0, .str x1 t1] n) ∈ news) (h0 : x0.length ≤ 1000) (h1 : x1.length ≤ 1000)
    (h : ∀ t' k, Q (.str (pcsText Str.empty [.st x0 t0, .lit (sL " -> "), .st x1 t1]) t') { s with toks := k }) : wpAny (model prog w) A (binaryOp .Mod (.str (Str.ofString "%s -> %s") t) (.ref b)) Q E s := by
  refine mod_pcs [.st x0 t0, .lit (sL " -> "), .st x1 t1] N hb rfl ?_ ⟨h0, ⟨by decide +kernel, by decide +kernel, by decide +kernel, by decide +kernel, trivial⟩, h1, trivial⟩ (Nat.le_of_ble_eq_true rfl) ?_ h
  · simp only [List.flatMap_cons, List.flatMap_nil, Pc.chars]
    decide +kernel
  · simp only [List.length_cons, List.length_nil]
    decide +kernel
theorem mod_F10 {prog : Program} {w : World} {A : Around} {E : Value → Shared → Prop} {s : Shared} {t : Tok} {Q : Value → Shared → Prop} {b L : Addr} {n : Nat} {h₀ : Heap} {news : Led} {x0 : Str} {n1 : Int} {t0 t1 : Tok} (N : News h₀ L s.heap news) (hb : (b, tupO [.str x0 t0, .int n1 t1] n) ∈ news) (h0 : x0.length ≤ 1000) (h1 : 0 ≤ n1 ∧ n1 < 10 ^ 10)
    (h : ∀ t' k, Q (.str (pcsText Str.empty [.lit (sL "Previous definition at "), .st x0 t0, .lit (sL ":"), .it n1 t1]) t') { s with toks := k }) : wpAny (model prog w) A (binaryOp .Mod (.str (Str.ofString "Previous definition at %s:%d") t) (.ref b)) Q E s := by
  refine mod_pcs [.lit (sL "Previous definition at "), .st x0 t0, .lit (sL ":"), .it n1 t1] N hb rfl ?_ ⟨⟨by decide +kernel, by decide +kernel, by decide +kernel, by decide +kernel, trivial⟩, h0, ⟨by decide +kernel, by decide +kernel, by decide +kernel, by decide +kernel, trivial⟩, h1, trivial⟩ (Nat.le_of_ble_eq_true rfl) ?_ h
  · simp only [List.flatMap_cons, List.flatMap_nil, Pc.chars]
    decide +kernel
  · simp only [List.length_cons, List.length_nil]
    decide +kernel
end


open PySem.Calls in
section
theorem setFlight_held {M : Model} {A : Around} {E : Value → Shared → Prop} {s : Shared} {base : Heap} {l : List Env} {e L : Addr} {cls a0 : Value} {Q : Unit → Shared → Prop} (R : Heap.HeldW base l e cls a0 L s.heap)
    (h : ∀ h', Heap.HeldW base l e cls a0 L h' → s.heap.UpToSlots h' → Q () { s with heap := h' }) : wpAny M A (setFlight (.ref e) (some L)) Q E s := by
  refine xE0A4 R ?_; (try clear R); intro hkb hen hl z1q; refine xE5A9 z1q ?_; (try clear z1q); intro oe vs T oT ts he hcls hd h1 hnT hTe hT hdT h3
  have hsz3 : 3 < ts.size := (Array.getElem?_eq_some_iff.mp h3).1
  have other : ∀ b, b ≠ T → (s.heap.update T (Obj.mapFields (·.setIfInBounds 3 ((some L).elim Value.none fun f => rawInt f)))).get? b = s.heap.get? b :=
    fun b hb => Heap.get?_update_other _ _ (Ne.symm hb)
  have noRecord : ∀ b o, s.heap.get? b = some o → (∀ vs, o.data ≠ .fields vs) → b ≠ T := fun b o hb hnf q => by
    rw [q, hT] at hb; injection hb with hb; subst hb; exact hnf ts hdT
  unfold setFlight
  refine wpAny_bind (wpAny_field he hd h1 ?_)
  rw [if_pos (show (Value.ref T != Value.none) = true from by simp)]
  refine wpAny_setField hT hdT hsz3 (h _ ⟨fun b o hbo => (other b fun q => by rw [q, hnT] at hbo; cases hbo).trans (hkb b o hbo), hen,
    hl.of_keeps fun b o hb hnf => ⟨o, (other b (noRecord b o hb hnf)).trans hb, rfl⟩, ?_⟩ fun b o hb hnf => ⟨o.slots, (other b (noRecord b o hb hnf)).trans hb⟩)
  exact (yE5A9 oe vs T _ _ ((other e (Ne.symm hTe)).trans he) hcls hd h1 hnT hTe (Heap.get?_update_self _ hT (Obj.isFreed_of_fields (Obj.data_mapFields hdT _))) (Obj.data_mapFields hdT _) (by simp [hsz3]))
theorem back_held {M : Model} {A : Around} {E : Value → Shared → Prop} {s : Shared} {base : Heap} {l : List Env} {e L : Addr} {cls a0 : Value} {env : Env} (hf : env.frame = some L) (R : Heap.HeldW base l e cls a0 L s.heap)
    (h : ∀ h', Heap.HeldW base l e cls a0 L h' → s.heap.UpToSlots h' → E (.ref e) { s with heap := h' }) : cameBackBy M A env E (.ref e) s := by
  have R' := R
  refine xE0A4 R' ?_; (try clear R'); intro hkb hen hl z2q; refine xE5A9 z2q ?_; (try clear z2q); intro oe vs T oT ts he hcls hd h1 hnT hTe hT hdT h3
  unfold cameBackBy
  refine wpAny_bind (wpAny_field he hd h1 ?_)
  rw [if_neg (show ¬ ((Value.ref T == Value.none) = true) from by simp), hf]
  first
    | exact wpAny_bind (wpAny_pure (setFlight_held R h))
    | exact setFlight_held R h
variable {prog : Program} {w : World} {A₀ : Around} {s' : Shared} {base g G : Heap} {outer : List Env} {L a e : Addr} {m : Str → Option Value} {name : Str} {scope : Scope} {cd cls : Value}
  {pos : Pos} {Q : Flow → Shared → Prop} {news : Led} {KF : Frag} {tt : Expr} {nm : Option Str} {body : List Stmt}
  {p : Program} {loose : List Str} {mean : ExcName → Option Value} {mg mb : Str → Option Value} {R' : Value → Shared → Prop}
theorem thro {st : Shared} (K : Below A₀ base outer g) (hx : BornExc G st.heap e cls) (F : Fr g L G m) (N : News g L G news) (XB : KF.In base) (TB : Top p loose mean mg mb base)
    (T : KtsTest prog w KF p loose mg mb name scope L a cd cls tt false)
    (k : ∀ h', RaisedSN base g outer e cls news h' → g.UpToSlots h' → R' (.ref e) { st with heap := h' }) (hk : scope.kind = .function := by rfl) :
    wpAny (model prog w) (A₀.deeper (envOf name scope L a cd)) (noteFrame (.ref e) (envOf name scope L a cd))
      (fun _ s₂ => wpAny (model prog w) (A₀.deeper (envOf name scope L a cd)) (setFlight (.ref e) none) (fun _ s₃ =>
        wpAny (model prog w) (A₀.deeper (envOf name scope L a cd)) (handleBy (.ref e) (envOf name scope L a cd) [.ExceptHandler (some tt) nm body pos]) Q
          (notedBy (model prog w) (A₀.deeper (envOf name scope L a cd)) (envOf name scope L a cd) (cameBackBy (model prog w) (A₀.deeper (envOf name scope L a cd)) (envOf name scope L a cd)
            (fun e s' => wpAny (model prog w) (A₀.deeper (envOf name scope L a cd)) (leaving (envOf name scope L a cd) e) (fun _ s'' => R' e s'') (fun e' s'' => R' e' s'') s'))) s₃)
          (notedBy (model prog w) (A₀.deeper (envOf name scope L a cd)) (envOf name scope L a cd) (cameBackBy (model prog w) (A₀.deeper (envOf name scope L a cd)) (envOf name scope L a cd)
            (fun e s' => wpAny (model prog w) (A₀.deeper (envOf name scope L a cd)) (leaving (envOf name scope L a cd) e) (fun _ s'' => R' e s'') (fun e' s'' => R' e' s'') s'))) s₂)
          (notedBy (model prog w) (A₀.deeper (envOf name scope L a cd)) (envOf name scope L a cd) (cameBackBy (model prog w) (A₀.deeper (envOf name scope L a cd)) (envOf name scope L a cd)
            (fun e s' => wpAny (model prog w) (A₀.deeper (envOf name scope L a cd)) (leaving (envOf name scope L a cd) e) (fun _ s'' => R' e s'') (fun e' s'' => R' e' s'') s'))) st := by
  refine note_here K hx F N (fun h₁ R₁ U₁ => ?_) hk
  refine pass_H R₁ F K U₁ XB TB T fun h₂ R₂ U₂ => ?_
  refine xE2A4 R₂ ?_; (try clear R₂); intro B a0 hB hBG hl hfl
  refine xE0A4 (id hfl) fun _ _ _ z3q => ?_; refine xE5A5 z3q ?_; (try clear z3q); intro oe ws Tb oT ts he hc hd h1 _
  refine wpAny_handleBy_nil ?_
  unfold PySem.passOn
  refine wpAny_bind (wpAny_field he hd h1 ?_)
  rw [if_neg (show ¬ ((Value.ref Tb == Value.none) = true) from by simp)]
  have fin : ∀ h₃, Heap.HeldW B (envOf name scope L a cd :: outer) e cls a0 L h₃ → h₂.UpToSlots h₃ → wpAny (model prog w) (A₀.deeper (envOf name scope L a cd)) (noteFrame (.ref e) (envOf name scope L a cd)) (fun _ s'' => cameBackBy (model prog w) (A₀.deeper (envOf name scope L a cd)) (envOf name scope L a cd)
            (fun e s' => wpAny (model prog w) (A₀.deeper (envOf name scope L a cd)) (leaving (envOf name scope L a cd) e) (fun _ s'' => R' e s'') (fun e' s'' => R' e' s'') s') (.ref e) s'') (cameBackBy (model prog w) (A₀.deeper (envOf name scope L a cd)) (envOf name scope L a cd)
            (fun e s' => wpAny (model prog w) (A₀.deeper (envOf name scope L a cd)) (leaving (envOf name scope L a cd) e) (fun _ s'' => R' e s'') (fun e' s'' => R' e' s'') s')) { st with heap := h₃ } := fun h₃ hh hs => by
    refine wpAny_noteFrame_againW rfl hh.2.2.2 ?_
    refine back_held rfl hh fun h₄ hh₄ hs₄ => ?_
    unfold leaving
    refine wpAny_bind (wpAny_noteFrame_againW rfl hh₄.2.2.2 ?_)
    refine wpAny_landsW hh₄ fun h₅ hfl₅ hs₅ => ?_
    refine xE0A4 hfl₅ ?_; (try clear hfl₅); intro k1 k2 z4q k4; refine xE0A3 z4q ?_; (try clear z4q); intro _ _ k3
    refine k h₅ ⟨B, a0, hB, fun b o q nm => hBG b o (F.keep b o q) (fun hm => ?_), fun q hq => hl q hq, ⟨k1, k2, k3, k4⟩⟩ ((Heap.UpToSlots.of_keeps F.keep).trans (U₂.trans (hs.trans (hs₄.trans hs₅))))
    rcases kts_mem hm with z | z
    · rw [z, kts_self F] at q
      cases q
    · exact nm z
  first
    | exact wpAny_bind (wpAny_pure (wpAny_bind (setFlight_onW hfl fun h' hh hs => wpAny_throw (fin h' hh hs))))
    | exact wpAny_bind (setFlight_onW hfl fun h' hh hs => wpAny_throw (fin h' hh hs))
end

section
open PySem.F
variable {prog : Program} {w : World} {A : Around} {E : Value → Shared → Prop} {s : Shared}
theorem list3 {α : Type} {motive : (l : List α) → l.length ≤ 3 → Prop} (h0 : motive [] (Nat.zero_le _)) (h1 : ∀ x, motive [x] (Nat.le_of_ble_eq_true rfl)) (h2 : ∀ x y, motive [x, y] (Nat.le_of_ble_eq_true rfl)) (h3 : ∀ x y z, motive [x, y, z] (Nat.le_of_ble_eq_true rfl)) : ∀ (l : List α) (h : l.length ≤ 3), motive l h
  | [], _ => h0
  | [x], _ => h1 x
  | [x, y], _ => h2 x y
  | [x, y, z], _ => h3 x y z
theorem delItem_two {l sl : Addr} {o : Obj} {vs pre : List Value} {a b : Value} {n : Nat} {vl : Value} {Q : Unit → Shared → Prop} (hl : s.heap.get? l = some o) (ho : o = listOf vs.toArray n) (hv : vs = pre ++ [a, b]) (hp : pre.length ≤ 3)
    (hs : s.heap.IsSliceOf sl vl .none .none) (pl : IsPart vl (some (-2)))
    (h : ∀ f : Array Value → Array Value, f vs.toArray = pre.toArray → Q () { s with heap := s.heap.update l (Obj.mapSeq f) }) : wpAny (model prog w) A (delItem (.ref l) (.ref sl)) Q E s := by
  refine xE1A3 (id hs) fun os hos hcs hds => ?_
  have hTs : s.TypeIs (.ref sl) "slice" := ⟨os, hos, hcs⟩
  have hTl : s.TypeIs (.ref l) "list" := ⟨o, hl, by rw [ho]⟩
  refine wpAny_delItem_slot hTl (by decide) F.slot_list_delitem (wpAny_call_entry F.slot_list_delitem hTl F.entry_list_delitem ?_ (F.args_list_delitem_2 _ _))
  show wpAny _ _ (Builtin.List.listSubscript? (.ref sl) >>= _) _ _ s
  refine wpAny_bind ?_
  unfold Builtin.List.listSubscript?
  refine wpAny_bind (wpAny_specialOf hTs slice_no_index ?_)
  simp only [Option.isNone_none, if_true]
  refine wpAny_pure ?_
  show wpAny _ _ (typeOf (.ref sl) >>= _) _ _ s
  refine wpAny_bind (wpAny_typeOf hTs ?_)
  rw [if_neg (by decide)]
  rw [listSliceParts_eq]
  refine wpAny_bind (wpAny_bind (wpAny_field hos hds (x := .none) rfl (wpAny_bind (wpAny_listPart .none ?_))))
  rw [if_neg (by exact Bool.false_ne_true)]
  refine wpAny_bind (wpAny_field hos hds (x := vl) rfl (wpAny_bind (wpAny_listPart pl ?_)))
  refine wpAny_bind (wpAny_field hos hds (x := .none) rfl (wpAny_bind (wpAny_listPart .none (wpAny_pure ?_))))
  refine wpAny_bind (m := Builtin.List.listItems (.ref l)) ?_
  unfold Builtin.List.listItems
  refine wpAny_bind (wpAny_seqItems (items := vs.toArray) (n := n) hl (by rw [ho]) (wpAny_pure ?_))
  refine wpAny_bind (wpAny_of_eq (sliceIndices_raw (some (-2)) none none vs.toArray.size (by simp)) ?_)
  refine wpAny_bind (wpAny_rule ?_)
  have hsz : vs.toArray.size ≤ sizeLine := by rw [sizeLine_eq, hv]; simp; k_extra "o"
  have hpz : pre.toArray.size ≤ sizeLine + 1 := by rw [sizeLine_eq]; simp; k_extra "o"
  refine wpAny_bind ?_
  show wpAny _ _ (updateSeq l _) _ _ _
  refine wpAny_updateSeq (xs := vs.toArray) (n := n) hl (by rw [ho]) (wpAny_bind (wpAny_letGo (wpAny_pure ⟨_, rfl, h _ ?_⟩))) hsz (Nat.le_trans (Nat.le_of_eq (congrArg Array.size (?_ : _ = pre.toArray))) hpz)
  all_goals
    clear hsz hpz h hTl hl
    subst hv
    induction pre, hp using list3 <;> kernel_rfl!
variable {h₀ : Heap} {L D : Addr} {m : Str → Option Value} {news news' : Led} {vs pre : List Value} {n : Nat} {a b : Value}
theorem list_del_two {ui : Tok} {Q : Unit → Shared → Prop} (F : Fr h₀ L s.heap m) (N : News h₀ L s.heap news) (U : Upd D (listOf vs.toArray n) (listOf pre.toArray (n + 1)) news news') (hv : vs = pre ++ [a, b]) (hp : pre.length ≤ 3)
    (h : ∀ h', Fr h₀ L h' m → News h₀ L h' news' → Q () { s with heap := h' }) : wpAny (model prog w) A (PySem.delItem (.ref D) (.ref s.heap.objs.size)) Q E { s with heap := s.heap.push { cls := .type "slice", data := .fields #[.int (-2) ui, .none, .none] } } := by
  have kp : ∀ b o, s.heap.get? b = some o → (s.heap.push { cls := .type "slice", data := .fields #[.int (-2) ui, .none, .none] }).get? b = some o := fun _ _ q => Heap.get?_push_of_some _ q
  have F1 := F.keeps kp
  have N1 := N.grown kp
  refine xE2A4 (U.split) fun pr post z1q z2q a1 b1 => ?_; obtain rfl := z1q; obtain rfl := z2q
  have z := N1 (D, listOf vs.toArray n) (List.mem_append.mpr (.inr (.head _)))
  refine delItem_two (s := { s with heap := s.heap.push { cls := .type "slice", data := .fields #[.int (-2) ui, .none, .none] } }) z.1 rfl hv hp (Heap.IsSliceOf.new ..) (.int _ _) fun f hf => h _ (F1.change (Heap.SameBut.update ..) z.2.1 z.2.2) (ki_turn _ N1 a1 b1 hf ?_)
  rw [if_neg]
  rw [hv]
  simp
noncomputable def PickL (vs : List Value) (k : Int) (x : Value) : Prop := (0 ≤ k ∧ k < 2 ^ 63 ∧ vs[k.toNat]? = some x) ∨ (k < 0 ∧ -(vs.length : Int) ≤ k ∧ -(2 ^ 63) ≤ k ∧ vs[(k + vs.length).toNat]? = some x)
theorem list_pick {value slice : Expr} {t : Addr} {k : Int} {u : Tok} {x : Value} {Q : Value → Shared → Prop} (N : News h₀ L s.heap news) (hm : (t, listOf vs.toArray n) ∈ news) (hx : PickL vs k x) (h : Q x s)
    (hs : subscripted slice false (.ref t) (.int k u) = operate [.ref t, .int k u] (getItem (.ref t) (.int k u)) := by with_unfolding_all rfl) (hg : ∀ r, letTemporaryGo value (.ref t) r = pure () := by intro _; with_unfolding_all rfl) :
    wpAny (model prog w) A (subscriptTail value slice (.ref t) (.int k u)) Q E s := by
  have hl := N.isList hm
  refine subscriptTail_builtin hl.typeIs PySem.slot_list_getitem.lookup ?_ hs hg
  focus (refine xO2 (hx) ?_ ?_; (try clear hx); intro w1q; refine xE0A3 w1q ?_; (try clear w1q); intro h0 h1 hx; rotate_left 1; (try clear hx); intro w2q; refine xE0A4 w2q ?_; (try clear w2q); intro h0 h1 h2 hx; rotate_left 1)
  · exact wpAny_getItem_list hl h0 h1 (by simpa using hx) h
  · exact wpAny_getItem_list_neg hl h0 (by simpa using h1) h2 (by simpa using hx) h
theorem pickL_last {pre : List Value} {a b : Value} : PickL (pre ++ [a, b]) (-1) b := by
  refine .inr ⟨by decide, by simp; k_extra "o", by decide, ?_⟩
  rw [List.length_append, List.getElem?_append_right (by simp; k_extra "o")]
  rw [show ((-1 : Int) + (pre.length + [a, b].length : Nat)).toNat - pre.length = 1 by simp; k_extra "o"]
  rfl
theorem pickL_last1 {pre : List Value} {a : Value} : PickL (pre ++ [a]) (-1) a := by
  refine .inr ⟨by decide, by simp; k_extra "o", by decide, ?_⟩
  rw [List.length_append, List.getElem?_append_right (by simp; k_extra "o")]
  rw [show ((-1 : Int) + (pre.length + [a].length : Nat)).toNat - pre.length = 0 by simp; k_extra "o"]
  rfl
theorem pickL_last2 {pre : List Value} {a b : Value} : PickL (pre ++ [a, b]) (-2) a := by
  refine .inr ⟨by decide, by simp; k_extra "o", by decide, ?_⟩
  rw [List.length_append, List.getElem?_append_right (by simp; k_extra "o")]
  rw [show ((-2 : Int) + (pre.length + [a, b].length : Nat)).toNat - pre.length = 0 by simp; k_extra "o"]
  rfl
theorem in_strsB {t : Tok} {its : List (Str × Tok)} {l : Addr} {k : Str} {n : Nat} {Q : Value → Shared → Prop} (c : Bool) (N : News h₀ L s.heap news) (hm : (l, listOf (strV its).toArray n) ∈ news) (hc : (its.map (·.1)).any (· == k) = c) (h : Q (.bool c) s) : wpAny (model prog w) A (compareOp .In (.str k t) (.ref l)) Q E s :=
  in_list_strs (N.isList hm) (strsAre_strV its) (by rw [hc]; exact h)
end
section
variable {M : Model} {A : Around} {E : Value → Shared → Prop} {s : Shared} {t : Sem Flow} {Q : Flow → Shared → Prop} {g : Heap} {L : Addr} {m : Str → Option Value}
noncomputable def CutS (g : Heap) (L : Addr) (s : Shared) (P : (Str → Option Value) → Led → Prop) (f : Flow) (s' : Shared) : Prop :=
  f = .next ∧ ∃ h' tk' m' nws', s' = { s with heap := h', toks := tk' } ∧ Fr g L h' m' ∧ News g L h' nws' ∧ P m' nws'
theorem cut_state (_F : Fr g L s.heap m) (P : (Str → Option Value) → Led → Prop) (h1 : wpAny M A t (CutS g L s P) E s)
    (h2 : ∀ h' tk' m' nws', Fr g L h' m' → News g L h' nws' → P m' nws' → Q .next { s with heap := h', toks := tk' }) : wpAny M A t Q E s :=
  wpAny_mono h1 (fun f s' ⟨hf, h', tk', m', nws', e, F', N', hp⟩ => by subst hf; subst e; exact h2 h' tk' m' nws' F' N' hp) fun _ _ e => e
end

section
open PySem.F
noncomputable def optIs : Option Str → Value → Bool
  | none, .none => true
  | some x, v => Value.isStrOf x v
  | none, _ => false
theorem optIs_none {v : Value} (h : optIs none v = true) : v = .none := by cases v <;> simp_all [optIs]
theorem pyHash_none {prog : Program} {w : World} {A : Around} {E : Value → Shared → Prop} {s : Shared} {Q : Int → Shared → Prop} (h : Q 0xFCA86420 { s with toks := s.toks + 1 }) : wpAny (model prog w) A (pyHash .none) Q E s := by
  have hT : s.TypeIs .none "NoneType" := rfl
  unfold pyHash
  have hv : [Value.none].any Value.onHeap = false := rfl
  refine wpAny_bind ?_
  rw [cRoomFor, if_neg (by rw [hv]; exact Bool.false_ne_true)]; refine wpAny_pure ?_
  refine wpAny_bind (wpAny_specialOf hT F.slot_NoneType_hash.lookup ?_)
  show wpAny _ _ (if (some (Value.builtin "NoneType.__hash__") == some Value.none) = true then _ else _) Q E s
  rw [if_neg (by rw [beq_builtin_none]; exact Bool.false_ne_true)]
  refine wpAny_bind (wpAny_specialOf hT F.slot_NoneType_hash.lookup ?_)
  show wpAny _ _ (callSpecialIfBoundUnlessNone? .none "__hash__" _ >>= _) Q E s
  refine wpAny_bind (wpAny_callSpecialIfBoundUnlessNone?_slot hT F.slot_NoneType_hash
    (wpAny_call_entry F.slot_NoneType_hash hT F.entry_NoneType_hash
      (show wpAny _ _ (do PySem.ret (← mkInt 0xFCA86420)) _ _ s from wpAny_ret_mkInt ?_) (F.args_NoneType_hash_1 _)))
  show wpAny _ _ (if (decide (-(2 : Int) ^ 63 ≤ 0xFCA86420) && decide ((0xFCA86420 : Int) < 2 ^ 63)) = true then _ else _) Q E _
  rw [if_pos (by decide)]
  exact wpAny_pure h
noncomputable def optKind (prog : Program) (w : World) : KeyKind prog w (Option Str) where
  is := optIs
  hash := fun k => match k with | none => 0xFCA86420 | some x => (strKind prog w).hash x
  inj := fun v a b ha hb => by
    cases a with
    | none =>
      cases b with
      | none => rfl
      | some y => rw [optIs_none ha] at hb; cases hb
    | some x =>
      cases b with
      | none => rw [optIs_none hb] at ha; cases ha
      | some y => rw [(strKind prog w).inj v x y ha hb]
  byValue := fun k v h => by
    cases k with
    | none => rw [optIs_none h]; rfl
    | some x => exact (strKind prog w).byValue x v h
  pyHash := fun {A E s k v Q} hv h => by
    cases k with
    | none => rw [optIs_none hv]; exact pyHash_none h
    | some x => exact (strKind prog w).pyHash hv h
  eqBool := fun {A E s a b u v Q} hu hv h => by
    cases a with
    | none =>
      rw [optIs_none hu]
      cases b with
      | none => rw [optIs_none hv]; exact SeqAt.EqAt.same _ prog w E Q (by simpa using h)
      | some y =>
        refine xE1A1 (Value.isStrOf_shape hv) fun t z1q => ?_; obtain rfl := z1q
        exact SeqAt.EqAt.none_str y t prog w E Q (by simpa using h)
    | some x =>
      cases b with
      | none =>
        rw [optIs_none hv]
        refine xE1A1 (Value.isStrOf_shape hu) fun t z2q => ?_; obtain rfl := z2q
        exact SeqAt.EqAt.str_none x t prog w E Q (by simpa using h)
      | some y => exact (strKind prog w).eqBool hu hv (by simpa using h)
  «strs» := fun k x t v h => by
    cases k with
    | none => cases (optIs_none h)
    | some y => exact (strKind prog w).strs y x t v h
theorem dictOf_opt {prog : Program} {w : World} {o : Obj} {kvs : List (Str × Value)} (h : o.IsDictOf (strKind prog w) kvs) : o.IsDictOf (optKind prog w) (kvs.map fun e => (some e.1, e.2)) := by
  refine xE2A5 h ?_; (try clear h); intro es ep hx hd hk hp hn
  refine (yE2A5 es ep hx hd (fun e he => ?_) ?_ ?_)
  · refine xE1A2 (hk e he) fun k h1 h2 => ?_
    exact ⟨some k, h1, h2⟩
  · clear hn hk hd
    generalize es.toList = l at hp
    induction hp with
    | nil => exact .nil
    | cons h1 h2 _ ih => exact .cons h1 h2 ih
  · rw [List.map_map]
    have e : ((fun e : Option Str × Value => e.1) ∘ fun e : Str × Value => (some e.1, e.2)) = some ∘ fun e : Str × Value => e.1 := rfl
    show (List.map ((fun e : Option Str × Value => e.1) ∘ fun e : Str × Value => (some e.1, e.2)) kvs).Nodup
    rw [e, ← List.map_map]
    exact List.Pairwise.map _ (fun a b hab hs => hab (Option.some.inj hs)) hn
theorem valueAt_opt_none (kvs : List (Str × Value)) : valueAt (kvs.map fun e => ((some e.1 : Option Str), e.2)) none = none := by
  unfold valueAt
  rw [Option.map_eq_none_iff, List.find?_eq_none]
  intro e he
  refine xE1A2 (List.mem_map.mp he) fun x _ z3q => ?_; obtain rfl := z3q
  simp
theorem get_none {prog : Program} {w : World} {A : Around} {E : Value → Shared → Prop} {s : Shared} {h₀ : Heap} {L d : Addr} {news : Led} {o : Obj} {kvs : List (Str × Value)} {dflt : Value} {Q : Value → Shared → Prop} (N : News h₀ L s.heap news) (hp : (d, o) ∈ news) (hd : o.IsDictOf (strKind prog w) kvs) (lo : (d == sysModules) = false)
    (h : Q dflt { s with toks := s.toks + 1 }) : wpAny (model prog w) A (call (.builtin "dict.get") [.ref d, .none, dflt]) Q E s :=
  kdg_get2 (knd := optKind prog w) (k := none) N hp (dictOf_opt hd) lo rfl none (valueAt_opt_none kvs) h
end

section
variable {prog : Program} {w : World} {A : Around} {E : Value → Shared → Prop} {s : Shared} {env : Env} {g : Heap} {Q : Flow → Shared → Prop}
noncomputable def WhileF (g : Heap) (L : Addr) (s : Shared) (J : Nat → (Str → Option Value) → Led → Prop) (Q : Flow → Shared → Prop) (n : Nat) (f : Flow) (s₃ : Shared) : Prop :=
  match f with
  | .next | .cont => ∃ n' m' nws' h' tk', n' < n ∧ s₃ = { s with heap := h', toks := tk' } ∧ Fr g L h' m' ∧ News g L h' nws' ∧ J n' m' nws'
  | .brk => Q .next s₃
  | .ret v => Q (.ret v) s₃
theorem while_F {test : Expr} {body : List Stmt} {pos : Pos} {m : Str → Option Value} {nws : Led} {n₀ : Nat} (J : Nat → (Str → Option Value) → Led → Prop) (F : Fr g env.locals s.heap m) (N : News g env.locals s.heap nws) (hJ : J n₀ m nws)
    (turn : ∀ n m₁ nws₁ h tk, Fr g env.locals h m₁ → News g env.locals h nws₁ → J n m₁ nws₁ →
      wpAny (model prog w) A (isTrue test env (eval test env)) (fun b s₂ => if b = true then wpAny (model prog w) A (execs body env) (WhileF g env.locals s J Q n) (fun _ _ => False) s₂ else Q .next s₂) (fun _ _ => False) { s with heap := h, toks := tk }) :
    wpAny (model prog w) A (exec (.While test body [] pos) env) Q E s := by
  refine wpAny_While (codeAny_whileLoop (fun n s' => ∃ m nws h tk, s' = { s with heap := h, toks := tk } ∧ Fr g env.locals h m ∧ News g env.locals h nws ∧ J n m nws) ?_ n₀ ⟨m, nws, s.heap, s.toks, rfl, F, N, hJ⟩)
  intro n s' z1q; refine xE4A4 z1q ?_; (try clear z1q); intro m₁ nws₁ h tk z2q F N hJ'; obtain rfl := z2q
  refine wpAny_mono (turn n m₁ nws₁ h tk F N hJ') (fun b s₂ h₂ => ?_) fun _ _ e => e.elim
  cases b with
  | false =>
    simp only [Bool.false_eq_true, if_false] at h₂ ⊢
    exact wpAny_execs_nil h₂
  | true =>
    simp only [if_true] at h₂ ⊢
    refine wpAny_mono h₂ (fun f s₃ h₃ => ?_) fun _ _ e => e.elim
    cases f with
    | next =>
      refine xE5A5 h₃ ?_; (try clear h₃); intro n' m' nws' h' tk' hn e F' N' hJ
      exact (yE1A2 n' hn (yE4A4 m' nws' h' tk' e F' N' hJ))
    | cont =>
      refine xE5A5 h₃ ?_; (try clear h₃); intro n' m' nws' h' tk' hn e F' N' hJ
      exact (yE1A2 n' hn (yE4A4 m' nws' h' tk' e F' N' hJ))
    | brk => exact h₃
    | ret v => exact h₃
noncomputable def ForF (g : Heap) (L : Addr) (s : Shared) (lp : Addr × Obj) (I : Addr) (it : Obj) (J : (Str → Option Value) → Led → Prop) (Q : Flow → Shared → Prop) (f : Flow) (s₃ : Shared) : Prop :=
  match f with
  | .next | .cont => ∃ m' nws' h' tk', s₃ = { s with heap := h', toks := tk' } ∧ Fr g L h' m' ∧ News g L h' ((I, it) :: nws') ∧ (∀ p ∈ nws', p.1 ≠ I) ∧ lp ∈ nws' ∧ J m' nws'
  | .brk => Q .next s₃
  | .ret v => Q (.ret v) s₃
theorem for_F {x : Str} {px : Pos} {body : List Stmt} {ax : Addr} {k : Nat} {xs : List Value} {m : Str → Option Value} {nws : Led} (J : Nat → (Str → Option Value) → Led → Prop)
    (hx : env.kindOf x = some .local) (hp : (env.scope.kind == .class || (env.scope.kind == .module && env.locals != env.globals)) = false) (hh : A.handled = none)
    (F : Fr g env.locals s.heap m) (N : News g env.locals s.heap nws) (hm : (ax, listOf xs.toArray k) ∈ nws) (hJ : J 0 m nws)
    (turn : ∀ i v I it m₁ nws₁ h tk, xs[i]? = some v → J i m₁ nws₁ → it.cls = .type "list_iterator" → (ax, listOf xs.toArray k) ∈ nws₁ → (∀ p ∈ nws₁, p.1 ≠ I) → Fr g env.locals h (fun y => if y = x then some v else m₁ y) → News g env.locals h ((I, it) :: nws₁) →
      wpAny (model prog w) A (execs body env) (ForF g env.locals s (ax, listOf xs.toArray k) I it (J (i + 1)) Q) (fun _ _ => False) { s with heap := h, toks := tk })
    (done : ∀ m₁ nws₁ h tk, J xs.length m₁ nws₁ → Fr g env.locals h m₁ → News g env.locals h nws₁ → Q .next { s with heap := h, toks := tk }) :
    wpAny (model prog w) A (pyIter (.ref ax)) (fun it s₂ => codeAny (model prog w) A (.forLoop (.Name x px) it body [] env) (fun r s' => match r with | .ok f => Q f s' | .error e => cameBackBy (model prog w) A env E e s') s₂) E s := by
  have hls : s.heap.IsList ax xs.toArray := N.isList hm
  refine wpAny_pyIter_list hls ?_
  have hI : ∀ p ∈ nws, p.1 ≠ s.heap.objs.size := fun p hp q => by
    have z := Heap.lt_size (N p hp).1
    rw [q] at z
    exact Nat.lt_irrefl _ z
  have hIm : ∀ {o : Obj}, s.heap.get? s.heap.objs.size = some o → False := fun z => Nat.lt_irrefl _ (Heap.lt_size z)
  have hIL : s.heap.objs.size ≠ env.locals := fun q => by
    refine xE3A2 (F.ns) fun oL _ _ z _ => ?_
    rw [← q] at z
    exact hIm z
  have hIg : g.get? s.heap.objs.size = none := by
    cases q : g.get? s.heap.objs.size with
    | none => rfl
    | some o => exact (hIm (F.keep _ _ q)).elim
  generalize hIe : s.heap.objs.size = I at hI hIL hIg hIm
  refine codeAny_forLoop (fun n s' => ∃ i it m nws, n = xs.length - i ∧ i ≤ xs.length ∧ (∃ h tk, s' = { s with heap := h, toks := tk } ∧ Fr g env.locals h m ∧ News g env.locals h ((I, it) :: nws) ∧ h.IsListIter I ax i) ∧ (∀ p ∈ nws, p.1 ≠ I) ∧ (ax, listOf xs.toArray k) ∈ nws ∧ J i m nws) ?_ xs.length
    ⟨0, { cls := .type "list_iterator", data := .fields #[.ref ax, .int 0 0] }, m, nws, rfl, Nat.zero_le _, ⟨s.heap.push { cls := .type "list_iterator", data := .fields #[.ref ax, .int 0 0] }, s.toks, rfl, ?_, ?_, ?_⟩, hI, hm, hJ⟩
  · intro n s' z3q; refine xE4A6 z3q ?_; (try clear z3q); intro i it m₁ nws₁ z4q hi z5q hoff hmem hJ₁; obtain rfl := z4q; refine xE2A4 z5q ?_; (try clear z5q); intro h₁ tk₁ z6q F₁ N₁ hit; obtain rfl := z6q
    have hl₁ : h₁.IsList ax xs.toArray := News.isList N₁ (.tail _ hmem)
    have hg₁ : g.get? I = none := (N₁ (I, it) (.head _)).2.2
    have up : ∀ {h₂ : Heap}, Heap.ExtBut I h₁ h₂ → Fr g env.locals h₂ m₁ := fun z =>
      ⟨F₁.ns.at' fun o e => z _ _ (Ne.symm hIL) e, fun b o e => z b o (fun q => by rw [q, hg₁] at e; cases e) (F₁.keep b o e), F₁.above⟩
    have upN : ∀ {h₂ : Heap}, Heap.ExtBut I h₁ h₂ → News g env.locals h₂ nws₁ := fun z p hp =>
      ⟨z _ _ (hoff p hp) (N₁ p (.tail _ hp)).1, (N₁ p (.tail _ hp)).2⟩
    by_cases hlt : i < xs.length
    · have hxi : xs[i]? = some xs[i] := List.getElem?_eq_getElem hlt
      refine wpAny_pyNext_list_item hit hl₁ (x := xs[i]) (by rw [List.getElem?_toArray]; exact hxi) fun h₂ hit₂ hs₂ => ?_
      have F₂ := up hs₂.extBut
      have N₂ := upN hs₂.extBut
      have hit₂' := hit₂
      refine xE1A3 hit₂' ?_; (try clear hit₂'); intro o₂ ho₂ hc₂ hd₂
      refine wpAny_assign_Name (wpAny_storeName_local hx F₂.ns (fun h₃ hn₃ hs₃ => ?_) hp)
      have F₃ := F₂.set hn₃ hs₃
      have N₃ : News g env.locals h₃ ((I, o₂) :: nws₁) := News.set (N := fun p hp => by
        rcases List.mem_cons.mp hp with rfl | hp
        · exact ⟨ho₂, hIL, hg₁⟩
        · exact N₂ p hp) hs₃
      refine wpAny_mono (turn i _ I o₂ m₁ nws₁ h₃ _ hxi hJ₁ hc₂ hmem hoff F₃ N₃) (fun f s₃ h₃' => ?_) fun _ _ e => e.elim
      have fin : (∃ m' nws' h' tk', s₃ = { s with heap := h', toks := tk' } ∧ Fr g env.locals h' m' ∧ News g env.locals h' ((I, o₂) :: nws') ∧ (∀ p ∈ nws', p.1 ≠ I) ∧ (ax, listOf xs.toArray k) ∈ nws' ∧ J (i + 1) m' nws') → ∃ n', n' < xs.length - i ∧ ∃ i it m nws, n' = xs.length - i ∧ i ≤ xs.length ∧ (∃ h tk, s₃ = { s with heap := h, toks := tk } ∧ Fr g env.locals h m ∧ News g env.locals h ((I, it) :: nws) ∧ h.IsListIter I ax i) ∧ (∀ p ∈ nws, p.1 ≠ I) ∧ (ax, listOf xs.toArray k) ∈ nws ∧ J i m nws := by
        intro z7q; refine xE4A6 z7q ?_; (try clear z7q); intro m' nws' h' tk' e' F' N' ho' hm' hJ'
        exact (yE1A2 (xs.length - (i + 1)) (by k_extra "o") (yE4A6 (i + 1) o₂ m' nws' rfl hlt ⟨h', tk', e', F', N', ⟨o₂, (N' (I, o₂) (.head _)).1, hc₂, hd₂⟩⟩ ho' hm' hJ'))
      cases f with
      | next => exact fin h₃'
      | cont => exact fin h₃'
      | brk => exact h₃'
      | ret v => exact h₃'
    · obtain rfl : i = xs.length := Nat.le_antisymm hi (Nat.not_lt.mp hlt)
      refine wpAny_pyNext_list_end hh hit hl₁ (by simp) fun h₂ hs₂ => ?_
      exact wpAny_execs_nil (done m₁ nws₁ h₂ _ hJ₁ (up hs₂) (upN hs₂))
  · exact F.keeps fun b o z => Heap.get?_push_of_some _ z
  · intro p hp
    rcases List.mem_cons.mp hp with rfl | hp
    · refine ⟨?_, hIL, hIg⟩
      rw [← hIe]
      exact Heap.get?_push_size _ rfl
    · exact ⟨Heap.get?_push_of_some _ (N p hp).1, (N p hp).2⟩
  · exact (yE1A2 _ (by rw [← hIe]; exact Heap.get?_push_size _ rfl) ⟨rfl, rfl⟩)
theorem for_T {x : Str} {px : Pos} {body : List Stmt} {ax : Addr} {k : Nat} {xs : List Value} {m : Str → Option Value} {nws : Led} (J : Nat → (Str → Option Value) → Led → Prop)
    (hx : env.kindOf x = some .local) (hp : (env.scope.kind == .class || (env.scope.kind == .module && env.locals != env.globals)) = false) (hh : A.handled = none)
    (F : Fr g env.locals s.heap m) (N : News g env.locals s.heap nws) (hm : (ax, tupO xs k) ∈ nws) (hJ : J 0 m nws)
    (turn : ∀ i v I it m₁ nws₁ h tk, xs[i]? = some v → J i m₁ nws₁ → it.cls = .type "tuple_iterator" → (ax, tupO xs k) ∈ nws₁ → (∀ p ∈ nws₁, p.1 ≠ I) → Fr g env.locals h (fun y => if y = x then some v else m₁ y) → News g env.locals h ((I, it) :: nws₁) →
      wpAny (model prog w) A (execs body env) (ForF g env.locals s (ax, tupO xs k) I it (J (i + 1)) Q) (fun _ _ => False) { s with heap := h, toks := tk })
    (done : ∀ m₁ nws₁ h tk, J xs.length m₁ nws₁ → Fr g env.locals h m₁ → News g env.locals h nws₁ → Q .next { s with heap := h, toks := tk }) :
    wpAny (model prog w) A (pyIter (.ref ax)) (fun it s₂ => codeAny (model prog w) A (.forLoop (.Name x px) it body [] env) (fun r s' => match r with | .ok f => Q f s' | .error e => cameBackBy (model prog w) A env E e s') s₂) E s := by
  have hls : s.heap.IsTuple ax xs.toArray := N.isTup hm
  refine wpAny_pyIter_tuple hls ?_
  have hI : ∀ p ∈ nws, p.1 ≠ s.heap.objs.size := fun p hp q => by
    have z := Heap.lt_size (N p hp).1
    rw [q] at z
    exact Nat.lt_irrefl _ z
  have hIm : ∀ {o : Obj}, s.heap.get? s.heap.objs.size = some o → False := fun z => Nat.lt_irrefl _ (Heap.lt_size z)
  have hIL : s.heap.objs.size ≠ env.locals := fun q => by
    refine xE3A2 (F.ns) fun oL _ _ z _ => ?_
    rw [← q] at z
    exact hIm z
  have hIg : g.get? s.heap.objs.size = none := by
    cases q : g.get? s.heap.objs.size with
    | none => rfl
    | some o => exact (hIm (F.keep _ _ q)).elim
  generalize hIe : s.heap.objs.size = I at hI hIL hIg hIm
  refine codeAny_forLoop (fun n s' => ∃ i it m nws, n = xs.length - i ∧ i ≤ xs.length ∧ (∃ h tk, s' = { s with heap := h, toks := tk } ∧ Fr g env.locals h m ∧ News g env.locals h ((I, it) :: nws) ∧ h.IsTupleIter I ax i) ∧ (∀ p ∈ nws, p.1 ≠ I) ∧ (ax, tupO xs k) ∈ nws ∧ J i m nws) ?_ xs.length
    ⟨0, { cls := .type "tuple_iterator", data := .fields #[.ref ax, .int 0 0] }, m, nws, rfl, Nat.zero_le _, ⟨s.heap.push { cls := .type "tuple_iterator", data := .fields #[.ref ax, .int 0 0] }, s.toks, rfl, ?_, ?_, ?_⟩, hI, hm, hJ⟩
  · intro n s' z8q; refine xE4A6 z8q ?_; (try clear z8q); intro i it m₁ nws₁ z9q hi z10q hoff hmem hJ₁; obtain rfl := z9q; refine xE2A4 z10q ?_; (try clear z10q); intro h₁ tk₁ z11q F₁ N₁ hit; obtain rfl := z11q
    have hl₁ : h₁.IsTuple ax xs.toArray := News.isTup N₁ (.tail _ hmem)
    have hg₁ : g.get? I = none := (N₁ (I, it) (.head _)).2.2
    have up : ∀ {h₂ : Heap}, Heap.ExtBut I h₁ h₂ → Fr g env.locals h₂ m₁ := fun z =>
      ⟨F₁.ns.at' fun o e => z _ _ (Ne.symm hIL) e, fun b o e => z b o (fun q => by rw [q, hg₁] at e; cases e) (F₁.keep b o e), F₁.above⟩
    have upN : ∀ {h₂ : Heap}, Heap.ExtBut I h₁ h₂ → News g env.locals h₂ nws₁ := fun z p hp =>
      ⟨z _ _ (hoff p hp) (N₁ p (.tail _ hp)).1, (N₁ p (.tail _ hp)).2⟩
    by_cases hlt : i < xs.length
    · have hxi : xs[i]? = some xs[i] := List.getElem?_eq_getElem hlt
      refine wpAny_pyNext_tuple_item hit hl₁ (x := xs[i]) (by rw [List.getElem?_toArray]; exact hxi) fun h₂ hit₂ hs₂ => ?_
      have F₂ := up hs₂.extBut
      have N₂ := upN hs₂.extBut
      have hit₂' := hit₂
      refine xE1A3 hit₂' ?_; (try clear hit₂'); intro o₂ ho₂ hc₂ hd₂
      refine wpAny_assign_Name (wpAny_storeName_local hx F₂.ns (fun h₃ hn₃ hs₃ => ?_) hp)
      have F₃ := F₂.set hn₃ hs₃
      have N₃ : News g env.locals h₃ ((I, o₂) :: nws₁) := News.set (N := fun p hp => by
        rcases List.mem_cons.mp hp with rfl | hp
        · exact ⟨ho₂, hIL, hg₁⟩
        · exact N₂ p hp) hs₃
      refine wpAny_mono (turn i _ I o₂ m₁ nws₁ h₃ _ hxi hJ₁ hc₂ hmem hoff F₃ N₃) (fun f s₃ h₃' => ?_) fun _ _ e => e.elim
      have fin : (∃ m' nws' h' tk', s₃ = { s with heap := h', toks := tk' } ∧ Fr g env.locals h' m' ∧ News g env.locals h' ((I, o₂) :: nws') ∧ (∀ p ∈ nws', p.1 ≠ I) ∧ (ax, tupO xs k) ∈ nws' ∧ J (i + 1) m' nws') → ∃ n', n' < xs.length - i ∧ ∃ i it m nws, n' = xs.length - i ∧ i ≤ xs.length ∧ (∃ h tk, s₃ = { s with heap := h, toks := tk } ∧ Fr g env.locals h m ∧ News g env.locals h ((I, it) :: nws) ∧ h.IsTupleIter I ax i) ∧ (∀ p ∈ nws, p.1 ≠ I) ∧ (ax, tupO xs k) ∈ nws ∧ J i m nws := by
        intro z12q; refine xE4A6 z12q ?_; (try clear z12q); intro m' nws' h' tk' e' F' N' ho' hm' hJ'
        exact (yE1A2 (xs.length - (i + 1)) (by k_extra "o") (yE4A6 (i + 1) o₂ m' nws' rfl hlt ⟨h', tk', e', F', N', ⟨o₂, (N' (I, o₂) (.head _)).1, hc₂, hd₂⟩⟩ ho' hm' hJ'))
      cases f with
      | next => exact fin h₃'
      | cont => exact fin h₃'
      | brk => exact h₃'
      | ret v => exact h₃'
    · obtain rfl : i = xs.length := Nat.le_antisymm hi (Nat.not_lt.mp hlt)
      refine wpAny_pyNext_tuple_end hh hit hl₁ (by simp) fun h₂ hs₂ => ?_
      exact wpAny_execs_nil (done m₁ nws₁ h₂ _ hJ₁ (up hs₂) (upN hs₂))
  · exact F.keeps fun b o z => Heap.get?_push_of_some _ z
  · intro p hp
    rcases List.mem_cons.mp hp with rfl | hp
    · refine ⟨?_, hIL, hIg⟩
      rw [← hIe]
      exact Heap.get?_push_size _ rfl
    · exact ⟨Heap.get?_push_of_some _ (N p hp).1, (N p hp).2⟩
  · exact (yE1A2 _ (by rw [← hIe]; exact Heap.get?_push_size _ rfl) ⟨rfl, rfl⟩)
end
section
variable {prog : Program} {w : World} {A : Around} {E : Value → Shared → Prop} {s : Shared} {h₀ : Heap} {L t : Addr} {news : Led} {vs : List Value} {n k : Nat} {Q : Value → Shared → Prop}
theorem len_lst (N : News h₀ L s.heap news) (hm : (t, listOf vs.toArray n) ∈ news) (e : vs.length = k) (hk : k < 1000) (h : Q (.int (k : Int) (s.toks + 1)) { s with toks := s.toks + 1 + 1 }) : wpAny (model prog w) A (call (.builtin "len") [.ref t]) Q E s := by
  subst e
  exact len_list (N.isList hm) (by rw [List.size_toArray]; k_extra "o") (by rw [List.size_toArray]; exact h)
end
section
variable {prog : Program} {w : World} {A : Around} {E : Value → Shared → Prop} {s : Shared} {h₀ : Heap} {L t : Addr} {news : Led} {x y : Value} {n : Nat} {Q : Bool → Shared → Prop}
theorem truthy_pair (N : News h₀ L s.heap news) (hm : (t, tupO [x, y] n) ∈ news) (h : Q true { s with toks := s.toks + 1 + 1 }) : wpAny (model prog w) A (truthy (.ref t)) Q E s :=
  truthy_tuple (N.isTup hm) (by simp) (by simpa using h)
end

section
open PyProof.Rows PySem.Calls Builtin Builtin.Str
theorem reads_strV {h : Heap} : ∀ its : List (Str × Tok), ReadsAll h (strV its) (its.map fun p => PyData.str p.1) []
  | [] => .nil
  | p :: r => .cons (.str _ _) (reads_strV r)
theorem showable_strs : ∀ l : List Str, PyData.showableAll (l.map PyData.str) = true
  | [] => rfl
  | x :: r => by
    have := showable_strs r
    simp only [List.map_cons, PyData.showableAll, PyData.showable, this, Bool.and_self]
theorem noDict_strs : ∀ l : List Str, PyData.hasDictAll (l.map PyData.str) = false
  | [] => rfl
  | x :: r => by
    have := noDict_strs r
    simp only [List.map_cons, PyData.hasDictAll, PyData.hasDict, this, Bool.or_self]
theorem depth_strs : ∀ l : List Str, PyData.depthAll (l.map PyData.str) = 0
  | [] => rfl
  | x :: r => by
    have := depth_strs r
    simp only [List.map_cons, PyData.depthAll, PyData.depth, this, Nat.max_self]
theorem conv_list {prog : Program} {w : World} {A : Around} {E : Value → Shared → Prop} {s : Shared} {Q : Value → Shared → Prop} {L l : Addr} {k : Nat} {h₀ : Heap} {m : Str → Option Value} {news : Led} {its : List (Str × Tok)} (FF : Fr h₀ L s.heap m) (N : News h₀ L s.heap news) (hl : (l, listOf (strV its).toArray k) ∈ news)
    (hz : (PyData.list ((its.map (·.1)).map PyData.str)).shown.length ≤ 1000) (hg : A.guards = some []) (hu : A.units ≤ 1000)
    (h : ∀ h' t' tk, Fr h₀ L h' m → News h₀ L h' news → Q (.str (PyData.list ((its.map (·.1)).map PyData.str)).shown t') { s with heap := h', toks := tk }) : wpAny (model prog w) A (convS (.ref l)) Q E s := by
  have hcl := cLine_is
  refine xE1A3 (N.isList hl) fun oo ho hc z1q => ?_; refine xE1A1 z1q ?_; (try clear z1q); intro no hd
  have R : Reads s.heap (.ref l) (PyData.list ((its.map (·.1)).map PyData.str)) [l] := by
    refine .list ho hc hd ?_
    rw [List.map_map]
    exact reads_strV its
  exact convS_of_reads R (by simp only [PyData.showable]; exact showable_strs _) (by simp only [PyData.hasDict]; rw [noDict_strs]; intro q; cases q) hg (by show A.units + (_ + 1) < cLine; simp only [PyData.depth, depth_strs]; k_extra "o") (fun _ _ q => q) (fun h' u tk hk => h h' u tk (FF.keeps hk) (N.grown hk)) (by rw [sizeLine_eq]; k_extra "o")
theorem shown_small {base : List Str} (h3 : base.length ≤ 3) (h8 : ∀ x ∈ base, x ∈ S8) : (PyData.list ((base.map nrm).map PyData.str)).shown.length ≤ 1000 := by
  have e0 : (PyData.list (([].map nrm).map PyData.str)).shown.length ≤ 1000 := by decide +kernel
  have e1 : ∀ a ∈ S8, (PyData.list (([a].map nrm).map PyData.str)).shown.length ≤ 1000 := by decide +kernel
  have e2 : ∀ a ∈ S8, ∀ b ∈ S8, (PyData.list (([a, b].map nrm).map PyData.str)).shown.length ≤ 1000 := by decide +kernel
  have e3 : ∀ a ∈ S8, ∀ b ∈ S8, ∀ c ∈ S8, (PyData.list (([a, b, c].map nrm).map PyData.str)).shown.length ≤ 1000 := by decide +kernel
  match base, h3, h8 with
  | [], _, _ => exact e0
  | [a], _, h => exact e1 a (h a (by simp))
  | [a, b], _, h => exact e2 a (h a (by simp)) b (h b (by simp))
  | [a, b, c], _, h => exact e3 a (h a (by simp)) b (h b (by simp)) c (h c (by simp))
end

section
variable {g h : Heap} {L : Addr}
theorem touch_fwd (P A B rest : Led) {x : Addr × Obj} (N : News g L h (P ++ ((A ++ x :: B) ++ rest))) : News g L h (x :: (P ++ ((A ++ B) ++ rest))) := News.perm N fun p hp => by
  exact ledIn [_] [_, _, _, _] (.c 0 <| .a (.l 0) <| .a (.a (.l 1) <| .l 2) <| .l 3) (.a (.l 0) <| .a (.a (.l 1) <| .c 0 <| .l 2) <| .l 3) rfl _ hp
theorem touch_back (P A B rest : Led) {x : Addr × Obj} (N : News g L h (x :: (P ++ ((A ++ B) ++ rest)))) : News g L h (P ++ ((A ++ x :: B) ++ rest)) := News.perm N fun p hp => by
  exact ledIn [_] [_, _, _, _] (.a (.l 0) <| .a (.a (.l 1) <| .c 0 <| .l 2) <| .l 3) (.c 0 <| .a (.l 0) <| .a (.a (.l 1) <| .l 2) <| .l 3) rfl _ hp
theorem touch_sepF (P A B rest : Led) {x y : Addr × Obj} (hxy : y.1 = x.1) (S : Sep (P ++ ((A ++ x :: B) ++ rest))) : Sep (y :: (P ++ ((A ++ B) ++ rest))) :=
  ledSep2 [_] [_] [_, _, _, _] (.c 0 <| .a (.l 0) <| .a (.a (.l 1) <| .l 2) <| .l 3) (.a (.l 0) <| .a (.a (.l 1) <| .c 0 <| .l 2) <| .l 3) rfl (by rw [List.map_cons, List.map_cons, hxy]) S
theorem touch_sepB (P A B rest : Led) {x y : Addr × Obj} (hxy : y.1 = x.1) (S : Sep (x :: (P ++ ((A ++ B) ++ rest)))) : Sep (P ++ ((A ++ y :: B) ++ rest)) :=
  ledSep2 [_] [_] [_, _, _, _] (.a (.l 0) <| .a (.a (.l 1) <| .c 0 <| .l 2) <| .l 3) (.c 0 <| .a (.l 0) <| .a (.a (.l 1) <| .l 2) <| .l 3) rfl (by rw [List.map_cons, List.map_cons, hxy]) S
end
noncomputable abbrev stP (w : World) (G : GA) (M : GM) (pco : Obj) (pt : Addr) (ptv : List Value) (npt : Nat) : Led := gmL w G M [(G.pc, pco), (pt, tupO ptv npt)]
theorem dlKV_set (a b : DL) (k : Str) (e : Addr) (l l' : List Value) (n n' : Nat) : dlKV (a ++ (k, e, l', n') :: b) = dlKV (a ++ (k, e, l, n) :: b) := by simp [dlKV]
theorem dlL_split (a b : DL) (k : Str) (e : Addr) (l : List Value) (n : Nat) : dlL (a ++ (k, e, l, n) :: b) = dlL a ++ (e, listOf l.toArray n) :: dlL b := by rw [dlL_append]; rfl
theorem szL_set {B : Nat} {a b : DL} {k : Str} {e : Addr} {l : List Value} {n n' : Nat} {v : Value} (h : szL B (a ++ (k, e, l, n) :: b)) : szL (B + 1) (a ++ (k, e, l ++ [v], n') :: b) := fun x hx => by
  rcases List.mem_append.mp hx with hx | hx
  · exact Nat.le_succ_of_le (h x (List.mem_append_left _ hx))
  · rcases List.mem_cons.mp hx with rfl | hx
    · have := h (k, e, l, n) (List.mem_append_right _ (.head _))
      simp at this ⊢; k_extra "o"
    · exact Nat.le_succ_of_le (h x (List.mem_append_right _ (.tail _ hx)))
theorem szL_up {B C : Nat} {d : DL} (h : szL B d) (hc : B ≤ C) : szL C d := fun x hx => Nat.le_trans (h x hx) hc
theorem szL_add {B : Nat} {d : DL} {k : Str} {e : Addr} {l : List Value} {n : Nat} (h : szL B d) (hl : l.length ≤ B) : szL B (d ++ [(k, e, l, n)]) := fun x hx => by
  rcases List.mem_append.mp hx with hx | hx
  · exact h x hx
  · rw [List.mem_singleton.mp hx]; exact hl
theorem teOK_set {a b : DL} {k : Str} {e e' : Addr × List Value × Nat} (h : TeOK (a ++ (k, e) :: b)) : TeOK (a ++ (k, e') :: b) := by
  unfold TeOK at h ⊢
  simpa using h
theorem valueAt_split {a b : DL} {k : Str} {e : Addr × List Value × Nat} (h : ∀ x ∈ a, x.1 ≠ k) : (valueAt (dlKV (a ++ (k, e) :: b)) k).isSome = true := by rw [dlKV_some h]; rfl
theorem valueAt_absent {d : DL} {k : Str} (h : ∀ x ∈ d, x.1 ≠ k) : (valueAt (dlKV d) k).isSome = false := by rw [dlKV_none h]; rfl
section
variable {g h : Heap} {L : Addr} {w : World} {G : GA} {M : GM} {pco so : Obj} {pt sy D : Addr} {ptv : List Value} {npt n : Nat} {R : Led} {x : Str} {l : List Value}
theorem nt_new_N (N : News g L h ((D, listOf l.toArray n) :: (sy, so) :: stL w G M pco pt ptv npt R)) : News g L h ((sy, so) :: stL w G { M with nt := M.nt ++ [(x, D, l, n)] } pco pt ptv npt R) := News.perm N fun p hp => by
  exact ledIn1 [_, _, _, _, _, _, _, _, _, _, _, _] [_, _, _, _, _] (.a (.l 2) <| .c 0 <| .n) (.c 1 <| .c 2 <| .c 3 <| .c 4 <| .c 5 <| .c 6 <| .c 7 <| .c 8 <| .c 9 <| .c 10 <| .c 11 <| .a (.l 1) <| .a (.l 0) <| .a (.l 3) <| .l 4) (.c 0 <| .c 1 <| .c 2 <| .c 3 <| .c 4 <| .c 5 <| .c 6 <| .c 7 <| .c 8 <| .c 9 <| .c 10 <| .c 11 <| .a (.l 1) <| .a (.l 2) <| .a (.l 3) <| .l 4) rfl (dlL_snoc ..) _ hp
theorem nt_new_S (hfr : ∀ q ∈ ((sy, so) :: stL w G M pco pt ptv npt R), q.1 ≠ D) (S : Sep ((sy, so) :: stL w G M pco pt ptv npt R)) : Sep ((sy, so) :: stL w G { M with nt := M.nt ++ [(x, D, l, n)] } pco pt ptv npt R) := by
  refine Sep.sub (Sep.cons (p := (D, listOf l.toArray n)) hfr S) fun k => ?_
  exact ledCnt1 [_, _, _, _, _, _, _, _, _, _, _, _] [_, _, _, _, _, _, _, _, _, _, _, _] [_, _, _, _, _] (.a (.l 2) <| .c 0 <| .n) (.c 1 <| .c 2 <| .c 3 <| .c 4 <| .c 5 <| .c 6 <| .c 7 <| .c 8 <| .c 9 <| .c 10 <| .c 11 <| .a (.l 1) <| .a (.l 0) <| .a (.l 3) <| .l 4) (.c 0 <| .c 1 <| .c 2 <| .c 3 <| .c 4 <| .c 5 <| .c 6 <| .c 7 <| .c 8 <| .c 9 <| .c 10 <| .c 11 <| .a (.l 1) <| .a (.l 2) <| .a (.l 3) <| .l 4) rfl rfl (dlL_snoc ..) k
end
theorem absent_ne {d : DL} {k : Str} (h : ∀ e ∈ d, e.1 ≠ k) : (valueAt (dlKV d) k).isSome = false := valueAt_absent h
theorem len_dlKV (d : DL) : (dlKV d).length = d.length := by simp [dlKV]
noncomputable def StopLen : Prop := True
theorem stopLen : StopLen := trivial
theorem valueAt_stored (kvs : List (Str × Value)) (k : Str) (v : Value) : valueAt (stored kvs k v) k = some v := by
  unfold valueAt stored
  split
  · rename_i h
    induction kvs with
    | nil => simp at h
    | cons e r ih =>
      by_cases he : e.1 = k
      · rw [List.map_cons, if_pos he, List.find?_cons_of_pos (by simpa using he)]; rfl
      · rw [List.map_cons, if_neg he, List.find?_cons_of_neg (by simpa using he)]
        refine ih ?_
        simpa [he] using h
  · rename_i h
    have hn : kvs.find? (fun kv => decide (kv.1 = k)) = none := by
      rw [List.find?_eq_none]
      intro e he q
      exact h (List.any_eq_true.mpr ⟨e, he, q⟩)
    rw [List.find?_append, hn, Option.none_or, List.find?_cons_of_pos (by simp)]; rfl
section
variable {g h : Heap} {L : Addr} {w : World} {G : GA} {M : GM} {pco so it : Obj} {pt sy D I : Addr} {ptv : List Value} {npt n : Nat} {R : Led} {x : Str} {l : List Value}
theorem nt_new_NI (N : News g L h ((D, listOf l.toArray n) :: (I, it) :: (sy, so) :: stL w G M pco pt ptv npt R)) : News g L h ((I, it) :: (sy, so) :: stL w G { M with nt := M.nt ++ [(x, D, l, n)] } pco pt ptv npt R) := News.perm N fun p hp => by
  exact ledIn1 [_, _, _, _, _, _, _, _, _, _, _, _, _] [_, _, _, _, _] (.a (.l 2) <| .c 0 <| .n) (.c 1 <| .c 2 <| .c 3 <| .c 4 <| .c 5 <| .c 6 <| .c 7 <| .c 8 <| .c 9 <| .c 10 <| .c 11 <| .c 12 <| .a (.l 1) <| .a (.l 0) <| .a (.l 3) <| .l 4) (.c 0 <| .c 1 <| .c 2 <| .c 3 <| .c 4 <| .c 5 <| .c 6 <| .c 7 <| .c 8 <| .c 9 <| .c 10 <| .c 11 <| .c 12 <| .a (.l 1) <| .a (.l 2) <| .a (.l 3) <| .l 4) rfl (dlL_snoc ..) _ hp
theorem nt_new_SI {y : Addr × Obj} (hfr : ∀ q ∈ (y :: (sy, so) :: stL w G M pco pt ptv npt R), q.1 ≠ D) (S : Sep (y :: (sy, so) :: stL w G M pco pt ptv npt R)) : Sep (y :: (sy, so) :: stL w G { M with nt := M.nt ++ [(x, D, l, n)] } pco pt ptv npt R) := by
  refine Sep.sub (Sep.cons (p := (D, listOf l.toArray n)) hfr S) fun k => ?_
  exact ledCnt1 [_, _, _, _, _, _, _, _, _, _, _, _, _] [_, _, _, _, _, _, _, _, _, _, _, _, _] [_, _, _, _, _] (.a (.l 2) <| .c 0 <| .n) (.c 1 <| .c 2 <| .c 3 <| .c 4 <| .c 5 <| .c 6 <| .c 7 <| .c 8 <| .c 9 <| .c 10 <| .c 11 <| .c 12 <| .a (.l 1) <| .a (.l 0) <| .a (.l 3) <| .l 4) (.c 0 <| .c 1 <| .c 2 <| .c 3 <| .c 4 <| .c 5 <| .c 6 <| .c 7 <| .c 8 <| .c 9 <| .c 10 <| .c 11 <| .c 12 <| .a (.l 1) <| .a (.l 2) <| .a (.l 3) <| .l 4) rfl rfl (dlL_snoc ..) k
end
theorem sepne_same {l l' : Led} {a : Addr} {o : Obj} (S : Sep ((a, o) :: l)) (h : l.map (·.1) = l'.map (·.1)) : ∀ p ∈ l', p.1 ≠ a := (sep_same (l' := (a, o) :: l') (by rw [List.map_cons, List.map_cons, h]) S).ne
theorem septail_same {l l' : Led} {a : Addr} {o : Obj} (S : Sep ((a, o) :: l)) (h : l.map (·.1) = l'.map (·.1)) : Sep l' := sep_same h S.tail
noncomputable def dedupS (l : List Str) : List Str := l.foldl (fun acc x => if acc.any (· == x) then acc else acc ++ [x]) []
theorem dedupS_snoc (l : List Str) (x : Str) : dedupS (l ++ [x]) = if (dedupS l).any (· == x) then dedupS l else dedupS l ++ [x] := by
  unfold dedupS
  rw [List.foldl_append]
  rfl
section
variable {prog : Program} {w : World} {A : Around} {E : Value → Shared → Prop} {s : Shared} {env : Env} {g : Heap} {Q : Flow → Shared → Prop}
theorem for_usyms {x : Str} {px : Pos} {body : List Stmt} {ax us : Addr} {k n0 : Nat} {its : List (Str × Tok)} {m : Str → Option Value} {REST : Led}
    (F : Fr g env.locals s.heap m) (N : News g env.locals s.heap ((us, listOf #[] n0) :: REST)) (hm : (ax, tupO (strV its) k) ∈ REST)
    (hx : env.kindOf x = some .local) (hp : (env.scope.kind == .class || (env.scope.kind == .module && env.locals != env.globals)) = false) (hh : A.handled = none)
    (turn : ∀ i y ty I it uv un h tk, its[i]? = some (y, ty) → uv.map (·.1) = dedupS ((its.map (·.1)).take i) → (∀ p ∈ ((us, listOf (strV uv).toArray un) :: REST), p.1 ≠ I) → Fr g env.locals h (fun z => if z = x then some (.str y ty) else m z) → News g env.locals h ((I, it) :: (us, listOf (strV uv).toArray un) :: REST) →
      wpAny (model prog w) A (execs body env) (ForF g env.locals s (ax, tupO (strV its) k) I it (fun m₂ nws => (∃ ov, m₂ = fun z => if z = x then ov else m z) ∧ ∃ uv un, nws = (us, listOf (strV uv).toArray un) :: REST ∧ uv.map (·.1) = dedupS ((its.map (·.1)).take (i + 1))) Q) (fun _ _ => False) { s with heap := h, toks := tk })
    (done : ∀ ov uv un h tk, uv.map (·.1) = dedupS (its.map (·.1)) → Fr g env.locals h (fun z => if z = x then ov else m z) → News g env.locals h ((us, listOf (strV uv).toArray un) :: REST) → Q .next { s with heap := h, toks := tk }) :
    wpAny (model prog w) A (pyIter (.ref ax)) (fun it s₂ => codeAny (model prog w) A (.forLoop (.Name x px) it body [] env) (fun r s' => match r with | .ok f => Q f s' | .error e => cameBackBy (model prog w) A env E e s') s₂) E s := by
  refine for_T (fun i m₂ nws => (∃ ov, m₂ = fun z => if z = x then ov else m z) ∧ ∃ uv un, nws = (us, listOf (strV uv).toArray un) :: REST ∧ uv.map (·.1) = dedupS ((its.map (·.1)).take i)) hx hp hh F N (.tail _ hm) ⟨⟨m x, funext fun z => ?_⟩, [], n0, rfl, rfl⟩ ?_ ?_
  · by_cases e : z = x
    · rw [if_pos e, e]
    · rw [if_neg e]
  · intro i v I it m₁ nws₁ h tk hv z1q hc hmem hoff F1 N1; refine xE0A2 z1q ?_; (try clear z1q); intro z2q z4q; refine xE2A2 z4q ?_; (try clear z4q); intro uv un z3q huv; refine xE1A1 z2q ?_; (try clear z2q); intro ov z5q; obtain rfl := z5q; obtain rfl := z3q
    rw [show strV its = its.map (fun p => Value.str p.1 p.2) from rfl, List.getElem?_map] at hv
    refine xE1A2 (Option.map_eq_some_iff.mp hv) fun z6q hy z7q => ?_; obtain ⟨y, ty⟩ := z6q; obtain rfl := z7q
    refine turn i y ty I it uv un h tk hy huv hoff ?_ N1
    have e : (fun z => if z = x then some (Value.str y ty) else (if z = x then ov else m z)) = fun z => if z = x then some (Value.str y ty) else m z := funext fun z => by
      by_cases h : z = x
      · rw [if_pos h, if_pos h]
      · rw [if_neg h, if_neg h, if_neg h]
    rw [← e]
    exact F1
  · intro m₁ nws₁ h tk z8q F1 N1; refine xE0A2 z8q ?_; (try clear z8q); intro z9q z11q; refine xE2A2 z11q ?_; (try clear z11q); intro uv un z10q huv; refine xE1A1 z9q ?_; (try clear z9q); intro ov z12q; obtain rfl := z12q; obtain rfl := z10q
    rw [strV_length, List.take_of_length_le (by rw [List.length_map]; exact Nat.le_refl _)] at huv
    exact done ov uv un h tk huv F1 N1
end
theorem take_step {its : List (Str × Tok)} {i : Nat} {y : Str} {ty : Tok} (hy : its[i]? = some (y, ty)) : (its.map (·.1)).take (i + 1) = (its.map (·.1)).take i ++ [y] := by
  rw [List.take_add_one, List.getElem?_map, hy]; rfl
theorem dedup_new {its uv : List (Str × Tok)} {i : Nat} {y : Str} {ty : Tok} (hy : its[i]? = some (y, ty)) (huv : uv.map (·.1) = dedupS ((its.map (·.1)).take i)) (h : (!(uv.map (·.1)).any (· == y)) = true) : (uv ++ [(y, ty)]).map (·.1) = dedupS ((its.map (·.1)).take (i + 1)) := by
  rw [take_step hy, dedupS_snoc, ← huv, if_neg (by intro q; rw [q] at h; cases h), List.map_append]; rfl
theorem dedup_old {its uv : List (Str × Tok)} {i : Nat} {y : Str} {ty : Tok} (hy : its[i]? = some (y, ty)) (huv : uv.map (·.1) = dedupS ((its.map (·.1)).take i)) (h : (!(uv.map (·.1)).any (· == y)) = false) : uv.map (·.1) = dedupS ((its.map (·.1)).take (i + 1)) := by
  rw [take_step hy, dedupS_snoc, ← huv, if_pos (by cases q : (uv.map (·.1)).any (· == y) with | true => rfl | false => rw [q] at h; cases h)]
theorem dedup_len (l : List Str) : (dedupS l).length ≤ l.length := by
  have : ∀ (l acc : List Str), (l.foldl (fun acc x => if acc.any (· == x) then acc else acc ++ [x]) acc).length ≤ acc.length + l.length := by
    intro l
    induction l with
    | nil => intro acc; simp
    | cons x r ih =>
      intro acc
      rw [List.foldl_cons]
      refine Nat.le_trans (ih _) ?_
      split
      · simp
      · simp; k_extra "o"
  simpa [dedupS] using this l []
section
variable {g : Heap} {L : Addr} {s : Shared} {Q : Flow → Shared → Prop} {m' : Str → Option Value} {nws' : Led} {h' : Heap} {tk' : Nat}
theorem EnumS.mk {e I ax : Addr} {oe oI : Obj} {n : Nat} {J : (Str → Option Value) → List Value → Nat → Led → Prop} {vs' : List Value} {k' : Nat} (F : Fr g L h' m') (N : News g L h' ((e, oe) :: (I, oI) :: nws')) (off : ∀ p ∈ nws', p.1 ≠ I ∧ p.1 ≠ e) (hm : (ax, listOf vs'.toArray k') ∈ nws') (hl : vs'.length = n) (hJ : J m' vs' k' nws') : EnumS g L s e I oe oI ax n J Q .next { s with heap := h', toks := tk' } := ⟨m', nws', vs', k', h', tk', rfl, F, N, off, hm, hl, hJ⟩
theorem EnumS.mkC {e I ax : Addr} {oe oI : Obj} {n : Nat} {J : (Str → Option Value) → List Value → Nat → Led → Prop} {vs' : List Value} {k' : Nat} (F : Fr g L h' m') (N : News g L h' ((e, oe) :: (I, oI) :: nws')) (off : ∀ p ∈ nws', p.1 ≠ I ∧ p.1 ≠ e) (hm : (ax, listOf vs'.toArray k') ∈ nws') (hl : vs'.length = n) (hJ : J m' vs' k' nws') : EnumS g L s e I oe oI ax n J Q .cont { s with heap := h', toks := tk' } := ⟨m', nws', vs', k', h', tk', rfl, F, N, off, hm, hl, hJ⟩
theorem ForF.mk {lp : Addr × Obj} {I : Addr} {it : Obj} {J : (Str → Option Value) → Led → Prop} (F : Fr g L h' m') (N : News g L h' ((I, it) :: nws')) (off : ∀ p ∈ nws', p.1 ≠ I) (hm : lp ∈ nws') (hJ : J m' nws') : ForF g L s lp I it J Q .next { s with heap := h', toks := tk' } := ⟨m', nws', h', tk', rfl, F, N, off, hm, hJ⟩
theorem CutS.mk {P : (Str → Option Value) → Led → Prop} (F : Fr g L h' m') (N : News g L h' nws') (hP : P m' nws') : CutS g L s P .next { s with heap := h', toks := tk' } := ⟨rfl, h', tk', m', nws', rfl, F, N, hP⟩
end
section
open LCg
variable {prog : Program} {w : World} {A : Around} {E : Value → Shared → Prop} {s : Shared} {K : Frag} {h₀ : Heap} {L ad : Addr} {m : Str → Option Value} {cn : Str} {cs : Scope} {ccd : Value} {cl : List (Str × Addr)}
theorem attr_own {x name : Str} {xp pos : Pos} {a C : Addr} {ox : Obj} {es : List DictEntry} {n : Nat} {v : Value} {attr : Option Value} {Q : Value → Shared → Prop} (F : Fr h₀ L s.heap m) (h0 : m x = some (.ref a)) (X₀ : K.In h₀) (I : InstAt s.heap a ox C (some (dictOf es n)))
    (hg : plainGet K C name = true) (hh : hasDictIn K C = true) (ha : findIn K (.ref C) name = some attr) (hn : noGet K attr = true) (hl : getL name es = some (some v)) (hv : handedIn v = true) (h : Q v { s with toks := s.toks + 1 })
    (hk : cs.kind = .function := by rfl) (hx : (envX cn cs L ad ccd cl).kindOf x = some .local := by rfl) (hd : (x == ("__debug__" : Str)) = false := by decide)
    (he : eval (.Attribute (.Name x xp) name pos) (envX cn cs L ad ccd cl) = (do
      let o ← eval (.Name x xp) (envX cn cs L ad ccd cl)
      standAt pos.atName
      let r ← holding [o] (getAttr o name true)
      letTemporaryGo (.Name x xp) o r
      pure r) := by with_unfolding_all rfl) : wpAny (model prog w) A (eval (.Attribute (.Name x xp) name pos) (envX cn cs L ad ccd cl)) Q E s :=
  Attribute_Name_ (nameX_L F h0 (get_own F X₀ I hg hh ha hn hl hv h) hk hx hd) he
end
theorem letF {g h : Heap} {L : Addr} {m : Str → Option Value} {P : Prop} (F : Fr g L h m) (k : let m1 := m; Fr g L h m1 → P) : P := k F
theorem onlyM {g h : Heap} {L : Addr} {m : Str → Option Value} {P : Prop} (_ : Fr g L h m) (k : False ∧ m = m) : P := k.1.elim
theorem execs_gen {M : Model} {A : Around} {ss : List Stmt} {env : Env} {Q : Flow → Shared → Prop} {E : Value → Shared → Prop} {h : Heap} {g d o} {t : Tok} (k : ∀ t', wpAny M A (execs ss env) Q E ⟨h, g, d, t', o⟩) : wpAny M A (execs ss env) Q E ⟨h, g, d, t, o⟩ := k t
theorem wp_gen {α : Type} {M : Model} {A : Around} {c : Sem α} {Q : α → Shared → Prop} {E : Value → Shared → Prop} {h : Heap} {g d o} {t : Tok} (k : ∀ t', wpAny M A c Q E ⟨h, g, d, t', o⟩) : wpAny M A c Q E ⟨h, g, d, t, o⟩ := k t
theorem set_genI {M : Model} {A : Around} {x : Addr} {y : Str} {n : Int} {u : Tok} {Q : Unit → Shared → Prop} {E : Value → Shared → Prop} {h : Heap} {g d o} {t : Tok} (k : ∀ u' t', wpAny M A (setAttr (.ref x) y (.int n u')) Q E ⟨h, g, d, t', o⟩) : wpAny M A (setAttr (.ref x) y (.int n u)) Q E ⟨h, g, d, t, o⟩ := k u t
theorem goalv {P : Prop} (h : let G := P; G) : P := h

local macro_rules | `(tactic| k_lt $h:ident) => `(tactic| replace $h := allLt_of $h)
local macro_rules | `(tactic| k_mem) => `(tactic| k_extra "cell_call")
local macro_rules | `(tactic| kqd_all) => `(tactic| exact datAll_strV _ _)
local macro_rules | `(tactic| k_all) => `(tactic| k_extra "tb_rel")
local macro_rules | `(tactic| k_upd) => `(tactic| k_extra "k_upd")
local macro_rules | `(tactic| k_updF) => `(tactic| k_extra "k_updF")
local macro_rules | `(tactic| walk_at $s:str) => `(tactic| k_extra $s)

theorem rows_on2 : True := by
  k_with_none
  k_with "o" => (first | (with_reducible first | assumption | (show (_ : Nat) ≤ _; first | exact Nat.le_of_ble_eq_true rfl | exact Nat.zero_le _ | exact Nat.le_of_lt ‹_› | exact Nat.le_of_eq ‹_› | exact oM ‹_› | exact oL ‹_› | exact oJ | exact oK | exact qE ‹_› | exact qG ‹_› | exact oS ‹_› rfl | exact oSE ‹_› ‹_› rfl | exact oA ‹_› rfl | exact oB ‹_› rfl | exact oG ‹_› rfl | exact oE ‹_› ‹_› rfl | exact oF ‹_› ‹_› rfl | exact oH ‹_› ‹_› rfl | exact oI ‹_› ‹_› rfl | exact oQ ‹_› ‹_› rfl | exact oQ3 ‹_› ‹_› ‹_› rfl | exact xE ‹_› ‹_› rfl | exact xA ‹_› | exact xB ‹_› | exact xH ‹_› | exact xF ‹_› | exact xG ‹_› | exact xL ‹_› | exact xC ‹_› ‹_› ‹_› ‹_› rfl | exact xD ‹_› ‹_› ‹_› ‹_› ‹_› rfl | exact xK ‹_› rfl | exact xJ ‹_› ‹_› rfl | exact xI ‹_› ‹_› ‹_› rfl | exact wA ‹_› ‹_› ‹_› rfl | exact wB ‹_› ‹_› ‹_› rfl | exact yC ‹_› ‹_› ‹_› rfl | exact yE ‹_› | exact uB ‹_› ‹_› rfl | exact uF ‹_› | exact uM | exact uN | exact uO | exact uU ‹_› | exact uW ‹_› ‹_› | exact uX ‹_› ‹_› ‹_› rfl | exact uZ ‹_› ‹_› ‹_› rfl | exact vC ‹_› ‹_› rfl | exact vD ‹_› | exact vI | exact vJ | exact vL ‹_› | exact vN ‹_› ‹_› ‹_› rfl | exact vO ‹_› ‹_› ‹_› ‹_› ‹_› rfl | exact vP ‹_› ‹_› ‹_› rfl | exact vQ ‹_› ‹_› | exact vR ‹_› ‹_› ‹_› rfl | exact vT | exact Nat.min_le_left _ _ | exact Nat.le_trans ‹_› ‹_› | exact Nat.le_add_left _ _ | exact wC ‹_› ‹_› rfl | exact wI ‹_› ‹_› rfl | exact wG ‹_› ‹_› ‹_› rfl | exact wF ‹_› ‹_› ‹_›) | (show (_ : Nat) < _; first | exact Nat.le_of_ble_eq_true rfl | exact Nat.lt_succ_self _ | exact pA ‹_› rfl | exact pB ‹_› rfl | exact pG ‹_› rfl | exact pE ‹_› ‹_› rfl | exact pF ‹_› ‹_› rfl | exact pH ‹_› ‹_› rfl | exact pI ‹_› ‹_› rfl | exact pS ‹_› rfl | exact pSE ‹_› ‹_› rfl | exact qA ‹_› | exact qD ‹_› | exact qB ‹_› ‹_› | exact qC ‹_› | exact Nat.lt_of_le_of_ne ‹_› ‹_› | exact uC ‹_› ‹_› | exact uD ‹_› | exact uE ‹_› | exact uY ‹_› ‹_› | exact vG ‹_› ‹_› rfl | exact vH ‹_› | exact vK ‹_› ‹_› | exact qF ‹_› | exact zA ‹_› ‹_› | exact wK ‹_› | exact wH ‹_› rfl | exact wD ‹_› ‹_› ‹_› rfl | exact wE ‹_› ‹_› ‹_›) | (show (_ : Nat) = _; first | exact yA ‹_› | exact yB ‹_› | exact yD ‹_› | exact yS ‹_› | exact Nat.sub_add_comm ‹_› | exact Nat.add_sub_cancel' ‹_› | exact uV ‹_› | exact uJ | exact uK | exact uL | exact uP | exact uQ | exact uR | exact vE ‹_› ‹_› | exact zB | exact oZ) | (show ((_ : Nat) : Int) < 2 ^ 63; first | exact iA ‹_› rfl | exact iB ‹_› rfl | exact iE ‹_› ‹_› rfl | exact iI ‹_› ‹_› rfl) | (show ((_ : Nat) : Int) < 2 ^ 62; first | exact jA ‹_› rfl | exact jB ‹_› rfl | exact jE ‹_› ‹_› rfl) | (show ((_ : Nat) : Int) + 1 < 2 ^ 63; first | exact rA ‹_› rfl | exact rE ‹_› ‹_› rfl | exact rF ‹_› ‹_› rfl) | exact rT ‹_› ‹_› rfl | exact rM | exact rN | exact Int.natCast_nonneg _ | exact iM | exact jM | exact iP ‹_› | exact uS ‹_› | exact uT ‹_› | exact vF ‹_› | exact vM ‹_› | exact vS ‹_› | exact yF ‹_› | exact yT ‹_› | exact iS | exact iZ | exact iD ‹_› | exact iV) | omega)
  k_with "a" => (with_reducible assumption)
  k_with "kxs_still" => (((try dsimp only); (try (refine execs_gen ?_; intro zqt9)); (try k_fold); (try k_extra "bits_by_make")))
  k_with "bits_by_make" => ((try (rename Fr _ _ _ _ => zqF9; (fail_if_success (refine onlyM zqF9 ?_; goal_lacks ite List.lookup)); refine letF zqF9 ?_; clear zqF9; intro zqm9 zqF9)))
  k_with "cell_call" => (first | k_extra "a" | (refine List.mem_cons_of_mem _ ?_; k_extra "cell_call"))
  k_with "tb_start" => ((refine neN ?_; (try dsimp only); first | exact NeA.to (by k_extra "a") | exact NeA.to' (by k_extra "a") | (refine' ne_pos (by k_extra "a") (by k_extra "po")  ) | (refine' ne_pos' (by k_extra "a") (by k_extra "po")  ) | (refine' lt_pos (by k_extra "a") (by k_extra "po")  ) | (refine' lt_pos' (by k_extra "a") (by k_extra "po")  ) | exact Nat.ne_of_lt (by k_extra "a") | exact Nat.ne_of_gt (by k_extra "a") | (refine' lt_up (by k_extra "a") (by k_extra "a") (by k_extra "po")  ) | (refine' lt_up' (by k_extra "a") (by k_extra "a") (by k_extra "po")  ) | omega))
  k_with "tb_rel" => (first | (tbn_letter; first | k_extra "a" | (refine' lt_suf (by k_extra "a") (by k_extra "su")  ) | (refine' ne_suf (by k_extra "a") (by k_extra "su")  ) | (refine' lt_sufU (by k_extra "a") (by k_extra "a") (by k_extra "su")  ) | (refine tbn_neAll ?_; tbn_find) | (refine' tbn_neAll (allLt_up (by tbn_find) (by k_extra "o"))  )) | exact List.forall_mem_nil _ | (refine' lt_suf (by k_extra "a") (by exact Suf.refl)  ) | (refine' ne_suf (by k_extra "a") (by exact Suf.refl)  ) | exact lt_same (by k_extra "a") (by rfl) | (refine List.forall_mem_cons.mpr ⟨?_, ?_⟩; (focus k_extra "tb_start"); k_extra "tb_rel"))
  k_with "k_upd" => (first | (refine Upd.head ?_; k_extra "tb_rel") | (apply Upd.tail; (focus k_extra "tb_start"); k_upd))
  k_with "k_updF" => (first | (refine UpdF.head ?_; k_extra "tb_rel") | (apply UpdF.tail; (focus k_extra "tb_start"); k_updF))
  k_with "execs cons" => ((k_extra "kxs_still"; refine wpAny_execs_cons ?_))
  k_with "po" => (first | exact PosA.head | (refine PosA.tail ?_; k_extra "po"))
  k_with "su" => (first | exact Suf.refl | (refine Suf.tail ?_; k_extra "su"))
  k_with "call builtin:list.insert" => ((k_here; k_dflt (refine' kl_insert (by k_asm) (by k_asm) (by exact fits_small (by k_extra "o")) (by exact ins_strV (by assumption)) (by k_upd) (by exact len_strV_small (by k_extra "o")) ?_  ); kl_rest))
  k_with "call type:tuple" => ((k_here; (with_reducible show wpAny _ _ (call (Value.type _) [Value.ref _]) _ _ _); k_dflt (refine' kde_tupleOf (by k_asm) (by k_asm) (by exact News.isList (by k_asm) (by k_mem)) (by exact size_dotV (by assumption) (by k_extra "o")) (by rfl) ?_; k_whole); intro zqD' zqh' zqF' zqN' zql1; (try k_lt zql1); (try k_sweep)))
  k_with "call builtin:len" => ((k_here; (with_reducible show wpAny _ _ (call (Value.builtin _) [Value.ref _]) _ _ _); k_dflt (refine' len_tup_led (by k_asm) (by k_mem) (by first | exact dotV_length (by assumption) | exact strV_length _) (by k_extra "o") ?_; k_whole)))
  k_with "enter0" => (k_dflt (refine' code0 (by k_asm) (by k_asm) (by k_asm) (by k_asm) (by k_asm) (by exact rfl) (by exact rfl) (by assumption) (by k_is) (by k_is) (by k_room) (by first | exact BindsTo.of_eq rfl | exact binds_K (by k_in) rfl (by k_is) rfl rfl rfl | fail "enter0") (by exact locs rfl) ?_ (by exact rfl) (by exact rfl) (by exact rfl) (by decide); k_whole; intro zqg' zqL' zqh' zqFG' zqF' zqN' zqB' zqX' zqT' zqD'; (try dsimp only); (try k_lift zqB'); (try k_fold)))
  k_with "call type:list" => ((k_here; (with_reducible show wpAny _ _ (call (Value.type _) [Value.ref _]) _ _ _); k_dflt (refine' list_strs (by k_asm) (by k_asm) (by k_mem) (by k_extra "o") ?_; k_whole); intro zqD' zqc' zqh' zqF' zqN' zql1; (try k_lt zql1); (try k_sweep)))
  k_with "subscriptTail" => ((k_here; (with_reducible show wpAny _ _ (subscriptTail _ _ (Value.ref _) (Value.int _ _)) _ _ _); k_dflt (refine' item_pickAny (by k_asm) (by k_mem) (by k_asm) ?_; k_whole); intro zqv'))
  k_with "subscriptTail" => ((k_here; (with_reducible show wpAny _ _ (subscriptTail _ _ (Value.ref _) (Value.int _ _)) _ _ _); k_dflt (refine' item_nopick (by rfl) (by k_asm) (by k_mem) (by first | k_asm | exact NoPickDot.at (by k_asm)) ?_; k_whole); intro zqh' zqtk' zqe' zqx'))
  k_with "subscriptTail" => ((k_here; (with_reducible show wpAny _ _ (subscriptTail _ _ (Value.ref _) (Value.int _ _)) _ _ _); k_dflt (refine' item_pick (by k_asm) (by k_mem) (by first | k_asm | exact PickDot.at (by k_asm)) ?_; k_whole)))
  k_with "subscriptTail" => ((k_here; (with_reducible show wpAny _ _ (subscriptTail _ _ (Value.ref _) (Value.str _ _)) _ _ _); k_dflt (refine' dict_missing (knd := PySem.strKind _ _) (by k_asm) (by k_mem) (by k_asm) (by k_asm) (by rfl) (strKind_is _ _ _ _) (by k_asm) ?_; k_whole); intro zqh' zqe' zqx'))
  k_with "subscriptTail" => ((k_here; (with_reducible show wpAny _ _ (subscriptTail _ _ (Value.ref _) (Value.str _ _)) _ _ _); k_dflt (refine' kda_item (knd := PySem.strKind _ _) (by k_asm) (by k_mem) (by k_asm) (strKind_is _ _ _ _) (by k_asm) ?_; k_whole)))
  k_with "noteFrame ref" => ((k_here; (rename Heap.NewExc _ _ _ _ => zqneX); k_dflt (refine' here_hit (by assumption) (BornExc.ofNew zqneX) (by assumption) (by assumption) (by assumption) (by assumption) (by assumption) (by first | assumption | exact KtsTurn.refl) (by kts_test) ?_ (by rfl) (by passes_own); k_whole); clear zqneX; intro zqh' zqg' zqT' zqF' zqN' zqK' zqX' zqP' zqD'; (try k_sweep)))
  k_with "call builtin:list.append" => ((k_here; (with_reducible show wpAny _ _ (call (Value.builtin _) [Value.ref _, _]) _ _ _); k_dflt (refine' append_K (by k_asm) (by k_asm) (by k_upd) ?_ (by k_extra "a"); k_whole); intro zqh' zqF' zqN'; (try k_sweep)))
  k_with "call type:tuple" => ((k_here; (with_reducible show wpAny _ _ (call (Value.type _) [Value.ref _]) _ _ _); k_dflt (refine' kde_tupleOf (by k_asm) (by k_asm) (by exact News.isList (by k_asm) (by k_mem)) (by exact size_strV (by k_extra "o")) (by rfl) ?_; k_whole); intro zqD' zqh' zqF' zqN' zql1; (try k_lt zql1); (try k_sweep)))
  k_with "compareOp NotIn str ref" => ((k_here; (with_reducible show wpAny _ _ (compareOp CmpOp.NotIn (Value.str _ _) (Value.ref _)) _ _ _); k_dflt (refine' notin_strs (by k_asm) (by k_mem) ?_; k_whole)))
  k_with "compareOp In str ref" => ((k_here; (with_reducible show wpAny _ _ (compareOp CmpOp.In (Value.str _ _) (Value.ref _)) _ _ _); k_dflt (refine' in_strs (by k_asm) (by k_mem) ?_; k_whole)))
  k_with "binaryOp Add ref ref" => ((k_here; (with_reducible show wpAny _ _ (binaryOp _ (Value.ref _) (Value.ref _)) _ _ _); k_dflt (refine' add_strs (by k_asm) (by k_asm) (by k_mem) (by k_mem) (by k_extra "o") ?_; k_whole); intro zqD' zqh' zqF' zqN' zql1; (try k_lt zql1); (try k_sweep)))
  k_with "compareOp In" => ((k_here; (with_reducible show wpAny _ _ (compareOp CmpOp.In (Value.ref _) (Value.ref _)) _ _ _); k_dflt (refine' kqd_isIn (by k_asm) (by k_mem) (by rfl) (by rfl) (by kqd_all) (fun _ h => h) (by kqd_in) (fun _ h => h) (by first | assumption | (intro zqz0 zqz1; simp only [List.mem_cons, List.not_mem_nil, or_false] at zqz1; rcases zqz1 with rfl | rfl <;> decide +kernel)) (by first | assumption | rfl | kernel_rfl!) (by ke_room) ?_; k_whole)))
  k_with "compareOp NotIn" => ((k_here; (with_reducible show wpAny _ _ (compareOp CmpOp.NotIn (Value.ref _) (Value.ref _)) _ _ _); k_dflt (refine' kqd_notIn (by k_asm) (by k_mem) (by rfl) (by rfl) (by first | assumption | kqd_all) (fun _ h => h) (by kqd_in) (fun _ h => h) (by first | assumption | (intro zqz0 zqz1; simp only [List.mem_cons, List.not_mem_nil, or_false] at zqz1; rcases zqz1 with rfl | rfl <;> decide +kernel)) (by first | assumption | rfl | kernel_rfl!) (by ke_room) ?_; k_whole)))
  k_with "compareOp In str str" => ((k_dflt (first | refine in_strB false (by decide +kernel) ?_ | refine in_strB true (by decide +kernel) ?_)))
  k_with "subscriptTail Name Slice str ref" => (((with_reducible show wpAny _ _ (subscriptTail _ (Expr.Slice (some _) (some _) none _) _ _) _ _ _); (with_reducible rename Fr _ _ _ _ => zqF'); (with_reducible rename News _ _ _ _ => zqN'); (first | refine slice_strB (hsz := ?hsz) (s := ⟨_, _, _, _, _⟩) (Str.ofString ".") (by decide +kernel) zqF' zqN' ?_ | refine slice_strB (hsz := ?hsz) (s := ⟨_, _, _, _, _⟩) (Str.ofString "ab") (by decide +kernel) zqF' zqN' ?_); (case hsz => size_fits); intro zqh' zqt' zqk' zqF' zqN'; (try dsimp only); (try k_sweep)))
  k_with "setAttr ref" => (((try dsimp only); (with_reducible show wpAny _ _ (setAttr (Value.ref _) _ (Value.int _ ((_ : Nat) + _))) _ _ (Shared.mk _ _ _ _ _)); refine set_genI ?_; intro zqu9 zqt9))
  k_with "setAttr ref" => (((try dsimp only); (with_reducible show wpAny _ _ (setAttr _ _ _) _ _ (Shared.mk _ _ _ ((_ : Nat) + _) _)); refine wp_gen ?_; intro zqt9))
  k_with "eval Attribute Name" => ((k_here; k_dflt (refine' attr_own (by k_asm) (by rfl) (by k_asm) (by k_inst) (by k_is) (by k_is) (by k_is) (by k_is) (by k_get) (by k_handed) ?_ (by rfl) (by rfl); k_whole)))
  trivial
section
open Builtin.Str
set_option maxHeartbeats 4000000 in
theorem rt_spec (prog : Program) (w : World) (sy te : Addr) (its : List (Str × Tok)) (n : Nat) (teo : Obj) (d : DL) (news : Led) (h5 : its.length ≤ 5) (m1 : (sy, listOf (strV its).toArray n) ∈ news) (m2 : (te, teo) ∈ news) (hd' : teo.IsDictOf (PySem.strKind prog w) (dlKV d)) (lo : (te == sysModules) = false) :
    Does prog w 400 400 146 [.ref sy, .ref te] news (fun r news' => news' = news ∧ (r = .none ∨ ∃ x ∈ its, r = .str x.1 x.2)) := by
  k_with_none
  k_with "o" => (first | (with_reducible first | assumption | (show (_ : Nat) ≤ _; first | exact Nat.le_of_ble_eq_true rfl | exact Nat.zero_le _ | exact Nat.le_of_lt ‹_› | exact Nat.le_of_eq ‹_› | exact oM ‹_› | exact oL ‹_› | exact oJ | exact oK | exact qE ‹_› | exact qG ‹_› | exact oS ‹_› rfl | exact oSE ‹_› ‹_› rfl | exact oA ‹_› rfl | exact oB ‹_› rfl | exact oG ‹_› rfl | exact oE ‹_› ‹_› rfl | exact oF ‹_› ‹_› rfl | exact oH ‹_› ‹_› rfl | exact oI ‹_› ‹_› rfl | exact oQ ‹_› ‹_› rfl | exact oQ3 ‹_› ‹_› ‹_› rfl | exact xE ‹_› ‹_› rfl | exact xA ‹_› | exact xB ‹_› | exact xH ‹_› | exact xF ‹_› | exact xG ‹_› | exact xL ‹_› | exact xC ‹_› ‹_› ‹_› ‹_› rfl | exact xD ‹_› ‹_› ‹_› ‹_› ‹_› rfl | exact xK ‹_› rfl | exact xJ ‹_› ‹_› rfl | exact xI ‹_› ‹_› ‹_› rfl | exact wA ‹_› ‹_› ‹_› rfl | exact wB ‹_› ‹_› ‹_› rfl | exact yC ‹_› ‹_› ‹_› rfl | exact yE ‹_› | exact uB ‹_› ‹_› rfl | exact uF ‹_› | exact uM | exact uN | exact uO | exact uU ‹_› | exact uW ‹_› ‹_› | exact uX ‹_› ‹_› ‹_› rfl | exact uZ ‹_› ‹_› ‹_› rfl | exact vC ‹_› ‹_› rfl | exact vD ‹_› | exact vI | exact vJ | exact vL ‹_› | exact vN ‹_› ‹_› ‹_› rfl | exact vO ‹_› ‹_› ‹_› ‹_› ‹_› rfl | exact vP ‹_› ‹_› ‹_› rfl | exact vQ ‹_› ‹_› | exact vR ‹_› ‹_› ‹_› rfl | exact vT | exact Nat.min_le_left _ _ | exact Nat.le_trans ‹_› ‹_› | exact Nat.le_add_left _ _ | exact wC ‹_› ‹_› rfl | exact wI ‹_› ‹_› rfl | exact wG ‹_› ‹_› ‹_› rfl | exact wF ‹_› ‹_› ‹_›) | (show (_ : Nat) < _; first | exact Nat.le_of_ble_eq_true rfl | exact Nat.lt_succ_self _ | exact pA ‹_› rfl | exact pB ‹_› rfl | exact pG ‹_› rfl | exact pE ‹_› ‹_› rfl | exact pF ‹_› ‹_› rfl | exact pH ‹_› ‹_› rfl | exact pI ‹_› ‹_› rfl | exact pS ‹_› rfl | exact pSE ‹_› ‹_› rfl | exact qA ‹_› | exact qD ‹_› | exact qB ‹_› ‹_› | exact qC ‹_› | exact Nat.lt_of_le_of_ne ‹_› ‹_› | exact uC ‹_› ‹_› | exact uD ‹_› | exact uE ‹_› | exact uY ‹_› ‹_› | exact vG ‹_› ‹_› rfl | exact vH ‹_› | exact vK ‹_› ‹_› | exact qF ‹_› | exact zA ‹_› ‹_› | exact wK ‹_› | exact wH ‹_› rfl | exact wD ‹_› ‹_› ‹_› rfl | exact wE ‹_› ‹_› ‹_›) | (show (_ : Nat) = _; first | exact yA ‹_› | exact yB ‹_› | exact yD ‹_› | exact yS ‹_› | exact Nat.sub_add_comm ‹_› | exact Nat.add_sub_cancel' ‹_› | exact uV ‹_› | exact uJ | exact uK | exact uL | exact uP | exact uQ | exact uR | exact vE ‹_› ‹_› | exact zB | exact oZ) | (show ((_ : Nat) : Int) < 2 ^ 63; first | exact iA ‹_› rfl | exact iB ‹_› rfl | exact iE ‹_› ‹_› rfl | exact iI ‹_› ‹_› rfl) | (show ((_ : Nat) : Int) < 2 ^ 62; first | exact jA ‹_› rfl | exact jB ‹_› rfl | exact jE ‹_› ‹_› rfl) | (show ((_ : Nat) : Int) + 1 < 2 ^ 63; first | exact rA ‹_› rfl | exact rE ‹_› ‹_› rfl | exact rF ‹_› ‹_› rfl) | exact rT ‹_› ‹_› rfl | exact rM | exact rN | exact Int.natCast_nonneg _ | exact iM | exact jM | exact iP ‹_› | exact uS ‹_› | exact uT ‹_› | exact vF ‹_› | exact vM ‹_› | exact vS ‹_› | exact yF ‹_› | exact yT ‹_› | exact iS | exact iZ | exact iD ‹_› | exact iV) | omega)
  k_with "a" => (with_reducible assumption)
  k_with "kxs_still" => (((try dsimp only); (try (refine execs_gen ?_; intro zqt9)); (try k_fold); (try k_extra "bits_by_make")))
  k_with "bits_by_make" => ((try (rename Fr _ _ _ _ => zqF9; (fail_if_success (refine onlyM zqF9 ?_; goal_lacks ite List.lookup)); refine letF zqF9 ?_; clear zqF9; intro zqm9 zqF9)))
  k_with "cell_call" => (first | k_extra "a" | (refine List.mem_cons_of_mem _ ?_; k_extra "cell_call"))
  k_with "tb_start" => ((refine neN ?_; (try dsimp only); first | exact NeA.to (by k_extra "a") | exact NeA.to' (by k_extra "a") | (refine' ne_pos (by k_extra "a") (by k_extra "po")  ) | (refine' ne_pos' (by k_extra "a") (by k_extra "po")  ) | (refine' lt_pos (by k_extra "a") (by k_extra "po")  ) | (refine' lt_pos' (by k_extra "a") (by k_extra "po")  ) | exact Nat.ne_of_lt (by k_extra "a") | exact Nat.ne_of_gt (by k_extra "a") | (refine' lt_up (by k_extra "a") (by k_extra "a") (by k_extra "po")  ) | (refine' lt_up' (by k_extra "a") (by k_extra "a") (by k_extra "po")  ) | omega))
  k_with "tb_rel" => (first | (tbn_letter; first | k_extra "a" | (refine' lt_suf (by k_extra "a") (by k_extra "su")  ) | (refine' ne_suf (by k_extra "a") (by k_extra "su")  ) | (refine' lt_sufU (by k_extra "a") (by k_extra "a") (by k_extra "su")  ) | (refine tbn_neAll ?_; tbn_find) | (refine' tbn_neAll (allLt_up (by tbn_find) (by k_extra "o"))  )) | exact List.forall_mem_nil _ | (refine' lt_suf (by k_extra "a") (by exact Suf.refl)  ) | (refine' ne_suf (by k_extra "a") (by exact Suf.refl)  ) | exact lt_same (by k_extra "a") (by rfl) | (refine List.forall_mem_cons.mpr ⟨?_, ?_⟩; (focus k_extra "tb_start"); k_extra "tb_rel"))
  k_with "k_upd" => (first | (refine Upd.head ?_; k_extra "tb_rel") | (apply Upd.tail; (focus k_extra "tb_start"); k_upd))
  k_with "k_updF" => (first | (refine UpdF.head ?_; k_extra "tb_rel") | (apply UpdF.tail; (focus k_extra "tb_start"); k_updF))
  k_with "execs cons" => ((k_extra "kxs_still"; refine wpAny_execs_cons ?_))
  k_with "po" => (first | exact PosA.head | (refine PosA.tail ?_; k_extra "po"))
  k_with "su" => (first | exact Suf.refl | (refine Suf.tail ?_; k_extra "su"))
  k_with "call builtin:len" => ((k_here; (with_reducible show wpAny _ _ (call (Value.builtin _) [Value.ref _]) _ _ _); k_dflt (refine' len_tup_led (by k_asm) (by k_mem) (by first | exact dotV_length (by assumption) | exact strV_length _) (by k_extra "o") ?_; k_whole)))
  k_with "enter0" => (k_dflt (refine' code0 (by k_asm) (by k_asm) (by k_asm) (by k_asm) (by k_asm) (by exact rfl) (by exact rfl) (by assumption) (by k_is) (by k_is) (by k_room) (by first | exact BindsTo.of_eq rfl | exact binds_K (by k_in) rfl (by k_is) rfl rfl rfl | fail "enter0") (by exact locs rfl) ?_ (by exact rfl) (by exact rfl) (by exact rfl) (by decide); k_whole; intro zqg' zqL' zqh' zqFG' zqF' zqN' zqB' zqX' zqT' zqD'; (try dsimp only); (try k_lift zqB'); (try k_fold)))
  k_with "subscriptTail" => ((k_here; (with_reducible show wpAny _ _ (subscriptTail _ _ (Value.ref _) (Value.int _ _)) _ _ _); k_dflt (refine' item_pickAny (by k_asm) (by k_mem) (by k_asm) ?_; k_whole); intro zqv'))
  k_with "subscriptTail" => ((k_here; (with_reducible show wpAny _ _ (subscriptTail _ _ (Value.ref _) (Value.int _ _)) _ _ _); k_dflt (refine' item_nopick (by rfl) (by k_asm) (by k_mem) (by first | k_asm | exact NoPickDot.at (by k_asm)) ?_; k_whole); intro zqh' zqtk' zqe' zqx'))
  k_with "subscriptTail" => ((k_here; (with_reducible show wpAny _ _ (subscriptTail _ _ (Value.ref _) (Value.int _ _)) _ _ _); k_dflt (refine' item_pick (by k_asm) (by k_mem) (by first | k_asm | exact PickDot.at (by k_asm)) ?_; k_whole)))
  k_with "subscriptTail" => ((k_here; (with_reducible show wpAny _ _ (subscriptTail _ _ (Value.ref _) (Value.str _ _)) _ _ _); k_dflt (refine' dict_missing (knd := PySem.strKind _ _) (by k_asm) (by k_mem) (by k_asm) (by k_asm) (by rfl) (strKind_is _ _ _ _) (by k_asm) ?_; k_whole); intro zqh' zqe' zqx'))
  k_with "subscriptTail" => ((k_here; (with_reducible show wpAny _ _ (subscriptTail _ _ (Value.ref _) (Value.str _ _)) _ _ _); k_dflt (refine' kda_item (knd := PySem.strKind _ _) (by k_asm) (by k_mem) (by k_asm) (strKind_is _ _ _ _) (by k_asm) ?_; k_whole)))
  k_with "compareOp In str ref" => ((k_here; (with_reducible show wpAny _ _ (compareOp CmpOp.In (Value.str _ _) (Value.ref _)) _ _ _); k_dflt (refine' in_strs (by k_asm) (by k_mem) ?_; k_whole)))
  k_with "compareOp In str ref" => ((k_here; (with_reducible show wpAny _ _ (compareOp CmpOp.In (Value.str _ _) (Value.ref _)) _ _ _); k_dflt (first | (refine' kda_in (knd := PySem.strKind _ _) (by k_asm) (by k_mem) (by k_asm) (by k_asm) (strKind_is _ _ _ _) false (by k_extra "a") ?_; k_whole) | (refine' kda_in (knd := PySem.strKind _ _) (by k_asm) (by k_mem) (by k_asm) (by k_asm) (strKind_is _ _ _ _) true (by k_extra "a") ?_; k_whole))))
  k_with "subscriptTail" => ((k_here; (with_reducible show wpAny _ _ (subscriptTail _ _ (Value.ref _) (Value.int _ _)) _ _ _); k_dflt (refine' list_pick (by k_asm) (by k_mem) (by k_extra "a") ?_; k_whole)))
  k_with "call builtin:len" => ((k_here; (with_reducible show wpAny _ _ (call (Value.builtin _) [Value.ref _]) _ _ _); k_dflt (refine' len_lst (by k_asm) (by k_mem) (by k_extra "a") (by k_extra "o") ?_; k_whole)))
  k_with "exec While" => (refine halt ?_)
  intro mean mg mb cn cs a ccd cl outer A₀ base h₀ L m s Q E B F X N T hk hret
  refine wpAny_call ?_
  k_dflt ktr_enter
  have hz : (strV its).length = its.length := strV_length its
  k_steps
  unfold Halt
  rename Fr _ _ _ _ => F1
  rename News _ _ _ _ => N1
  refine' while_F (n₀ := its.length) (fun k m nws => OvOK m [(S_ "symbols", some (.ref sy)), (S_ "terminals", some (.ref te))] ∧ (∃ ti, m (S_ "i") = some (.int ((k : Int) - 1) ti)) ∧ k ≤ its.length ∧ nws = news) ?F ?N ?hJ ?turn
  case F => exact F1
  case N => exact N1
  case hJ => exact (yE0A3 ⟨rfl, rfl, trivial⟩ ⟨_, rfl⟩ ⟨Nat.le_refl _, rfl⟩)
  case turn =>
    intro k m₁ nws₁ h tk F2 N2 z1q; refine xE0A4 z1q ?_; (try clear z1q); intro hov z2q hk z3q; refine xE1A1 z2q ?_; (try clear z2q); intro ti hi; obtain rfl := z3q
    clear F1 N1
    have F3 := overF (l := [(S_ "symbols", some (.ref sy)), (S_ "terminals", some (.ref te)), (S_ "i", some (.int ((k : Int) - 1) ti))]) F2 ⟨hov.1, hov.2.1, hi, trivial⟩
    dsimp only [over] at F3
    clear F2
    cases k with
    | zero =>
      k_steps
      rename Fr _ _ _ _ => F9
      rename News _ _ _ _ => N9
      exact hret _ _ _ _ F9 N9 ⟨rfl, .inl rfl⟩
    | succ k =>
      have hlt : k < its.length := by k_extra "o"
      have hp : its[k]? = some its[k] := List.getElem?_eq_getElem hlt
      have hpk : PickL (strV its) (((k + 1 : Nat) : Int) - 1) (.str its[k].1 its[k].2) := .inl ⟨by k_extra "o", by k_extra "o", by
        rw [show (((k + 1 : Nat) : Int) - 1).toNat = k by k_extra "o", List.getElem?_map, hp]; rfl⟩
      have hpm := List.mem_of_getElem? hp
      generalize hpx : its[k] = p at *
      obtain ⟨x, tx⟩ := p
      cases hb : (valueAt (dlKV d) x).isSome with
      | true =>
        k_steps
        repeat (dsimp only [WhileF]; k_steps)
        rename Fr _ _ _ _ => F9
        rename News _ _ _ _ => N9
        exact hret _ _ _ _ F9 N9 ⟨rfl, .inr ⟨_, hpm, rfl⟩⟩
      | false =>
        k_steps
        rename Fr _ _ _ _ => F9
        rename News _ _ _ _ => N9
        dsimp only [WhileF]
        exact (yE5A8 k _ _ _ _ (by k_extra "o") rfl F9 N9 ⟨rfl, rfl, trivial⟩ ⟨_, congrArg (fun z => some (Value.int z _)) (by k_extra "o")⟩ (by k_extra "o") rfl)
end
section
variable {prog : Program} {w : World} {mean : ExcName → Option Value} {mg mb : Str → Option Value} {cn : Str} {cs : Scope} {a : Addr} {ccd : Value} {outer : List Env} {A A₀ : Around} {base h₀ : Heap} {L : Addr} {m : Str → Option Value} {s : Shared} {Q E : Value → Shared → Prop} {news : Led}
theorem rt_call {sy te : Addr} {its : List (Str × Tok)} {n : Nat} {teo : Obj} {d : DL} (B : Below A₀ base outer h₀) (F : Fr h₀ L s.heap m) (X : (hd.heap_1 w.params).In h₀) (N : News h₀ L s.heap news) (T : Top hdV LOOSE mean mg mb h₀) (hfr : A.frames = some (envOf cn cs L a ccd :: outer)) (hh : A.handled = none) (hdp : A.depth ≤ 400) (hg : A.guards = some []) (hu : A.units ≤ 400) (hk : cs.kind = .function)
    (m1 : (sy, listOf (strV its).toArray n) ∈ news) (m2 : (te, teo) ∈ news) (hd' : teo.IsDictOf (PySem.strKind prog w) (dlKV d)) (lo : (te == sysModules) = false) (h5 : its.length ≤ 5)
    (h : ∀ r h' tk', Fr h₀ L h' m → News h₀ L h' news → (r = .none ∨ ∃ x t, r = .str x t) → Q r { s with heap := h', toks := tk' }) : wpAny (model prog w) A (call (.ref 146) [.ref sy, .ref te]) Q E s :=
  around_up (rt_spec prog w sy te its n teo d news h5 m1 m2 hd' lo mean mg mb cn cs a ccd [] outer A₀ base h₀ L m s Q E B F X N T hk (fun r news' h' tk' F' N' hp => by
    refine xE0A2 hp ?_; (try clear hp); intro z4q hp; obtain rfl := z4q
    exact h r h' tk' F' N' (hp.imp id fun ⟨x, _, e⟩ => ⟨_, _, e⟩))) hh hdp hfr.symm hg.symm hu
end

section
open LCg LSm
local macro_rules | `(tactic| lsm_bools) => `(tactic| assumption)
noncomputable abbrev IDENT : Str := Str.ofString "abcdefghijklmnopqrstuvwxyzABCDEFGHIJKLMNOPQRSTUVWXYZ0123456789_-"
noncomputable def idCh (c : Nat) : Bool := !(Builtin.Str.occurrences IDENT ⟨#[c]⟩ 0 IDENT.length 1).isEmpty
noncomputable def isId (x : Str) : Bool := (List.range x.cps.size).all fun i => idCh ((x.cps[i]?).getD 0)
set_option maxHeartbeats 4000000 in
theorem ident_spec (prog : Program) (w : World) (x : Str) (t : Tok) (news : Led) (ha : x.cps.all (· < 128) = true) (hsz : x.length ≤ 16) (h0 : 0 < x.length) :
    Does prog w 400 400 39 [.str x t] news (fun r news' => r = .bool (isId x) ∧ news' = news) := by
  k_with_none
  k_with "o" => (first | (with_reducible first | assumption | (show (_ : Nat) ≤ _; first | exact Nat.le_of_ble_eq_true rfl | exact Nat.zero_le _ | exact Nat.le_of_lt ‹_› | exact Nat.le_of_eq ‹_› | exact oM ‹_› | exact oL ‹_› | exact oJ | exact oK | exact qE ‹_› | exact qG ‹_› | exact oS ‹_› rfl | exact oSE ‹_› ‹_› rfl | exact oA ‹_› rfl | exact oB ‹_› rfl | exact oG ‹_› rfl | exact oE ‹_› ‹_› rfl | exact oF ‹_› ‹_› rfl | exact oH ‹_› ‹_› rfl | exact oI ‹_› ‹_› rfl | exact oQ ‹_› ‹_› rfl | exact oQ3 ‹_› ‹_› ‹_› rfl | exact xE ‹_› ‹_› rfl | exact xA ‹_› | exact xB ‹_› | exact xH ‹_› | exact xF ‹_› | exact xG ‹_› | exact xL ‹_› | exact xC ‹_› ‹_› ‹_› ‹_› rfl | exact xD ‹_› ‹_› ‹_› ‹_› ‹_› rfl | exact xK ‹_› rfl | exact xJ ‹_› ‹_› rfl | exact xI ‹_› ‹_› ‹_› rfl | exact wA ‹_› ‹_› ‹_› rfl | exact wB ‹_› ‹_› ‹_› rfl | exact yC ‹_› ‹_› ‹_› rfl | exact yE ‹_› | exact uB ‹_› ‹_› rfl | exact uF ‹_› | exact uM | exact uN | exact uO | exact uU ‹_› | exact uW ‹_› ‹_› | exact uX ‹_› ‹_› ‹_› rfl | exact uZ ‹_› ‹_› ‹_› rfl | exact vC ‹_› ‹_› rfl | exact vD ‹_› | exact vI | exact vJ | exact vL ‹_› | exact vN ‹_› ‹_› ‹_› rfl | exact vO ‹_› ‹_› ‹_› ‹_› ‹_› rfl | exact vP ‹_› ‹_› ‹_› rfl | exact vQ ‹_› ‹_› | exact vR ‹_› ‹_› ‹_› rfl | exact vT | exact Nat.min_le_left _ _ | exact Nat.le_trans ‹_› ‹_› | exact Nat.le_add_left _ _ | exact wC ‹_› ‹_› rfl | exact wI ‹_› ‹_› rfl | exact wG ‹_› ‹_› ‹_› rfl | exact wF ‹_› ‹_› ‹_›) | (show (_ : Nat) < _; first | exact Nat.le_of_ble_eq_true rfl | exact Nat.lt_succ_self _ | exact pA ‹_› rfl | exact pB ‹_› rfl | exact pG ‹_› rfl | exact pE ‹_› ‹_› rfl | exact pF ‹_› ‹_› rfl | exact pH ‹_› ‹_› rfl | exact pI ‹_› ‹_› rfl | exact pS ‹_› rfl | exact pSE ‹_› ‹_› rfl | exact qA ‹_› | exact qD ‹_› | exact qB ‹_› ‹_› | exact qC ‹_› | exact Nat.lt_of_le_of_ne ‹_› ‹_› | exact uC ‹_› ‹_› | exact uD ‹_› | exact uE ‹_› | exact uY ‹_› ‹_› | exact vG ‹_› ‹_› rfl | exact vH ‹_› | exact vK ‹_› ‹_› | exact qF ‹_› | exact zA ‹_› ‹_› | exact wK ‹_› | exact wH ‹_› rfl | exact wD ‹_› ‹_› ‹_› rfl | exact wE ‹_› ‹_› ‹_›) | (show (_ : Nat) = _; first | exact yA ‹_› | exact yB ‹_› | exact yD ‹_› | exact yS ‹_› | exact Nat.sub_add_comm ‹_› | exact Nat.add_sub_cancel' ‹_› | exact uV ‹_› | exact uJ | exact uK | exact uL | exact uP | exact uQ | exact uR | exact vE ‹_› ‹_› | exact zB | exact oZ) | (show ((_ : Nat) : Int) < 2 ^ 63; first | exact iA ‹_› rfl | exact iB ‹_› rfl | exact iE ‹_› ‹_› rfl | exact iI ‹_› ‹_› rfl) | (show ((_ : Nat) : Int) < 2 ^ 62; first | exact jA ‹_› rfl | exact jB ‹_› rfl | exact jE ‹_› ‹_› rfl) | (show ((_ : Nat) : Int) + 1 < 2 ^ 63; first | exact rA ‹_› rfl | exact rE ‹_› ‹_› rfl | exact rF ‹_› ‹_› rfl) | exact rT ‹_› ‹_› rfl | exact rM | exact rN | exact Int.natCast_nonneg _ | exact iM | exact jM | exact iP ‹_› | exact uS ‹_› | exact uT ‹_› | exact vF ‹_› | exact vM ‹_› | exact vS ‹_› | exact yF ‹_› | exact yT ‹_› | exact iS | exact iZ | exact iD ‹_› | exact iV) | omega)
  k_with "a" => (with_reducible assumption)
  k_with "kxs_still" => (((try dsimp only); (try (refine execs_gen ?_; intro zqt9)); (try k_fold); (try k_extra "bits_by_make")))
  k_with "bits_by_make" => ((try (rename Fr _ _ _ _ => zqF9; (fail_if_success (refine onlyM zqF9 ?_; goal_lacks ite List.lookup)); refine letF zqF9 ?_; clear zqF9; intro zqm9 zqF9)))
  k_with "cell_call" => (first | k_extra "a" | (refine List.mem_cons_of_mem _ ?_; k_extra "cell_call"))
  k_with "tb_start" => ((refine neN ?_; (try dsimp only); first | exact NeA.to (by k_extra "a") | exact NeA.to' (by k_extra "a") | (refine' ne_pos (by k_extra "a") (by k_extra "po")  ) | (refine' ne_pos' (by k_extra "a") (by k_extra "po")  ) | (refine' lt_pos (by k_extra "a") (by k_extra "po")  ) | (refine' lt_pos' (by k_extra "a") (by k_extra "po")  ) | exact Nat.ne_of_lt (by k_extra "a") | exact Nat.ne_of_gt (by k_extra "a") | (refine' lt_up (by k_extra "a") (by k_extra "a") (by k_extra "po")  ) | (refine' lt_up' (by k_extra "a") (by k_extra "a") (by k_extra "po")  ) | omega))
  k_with "tb_rel" => (first | (tbn_letter; first | k_extra "a" | (refine' lt_suf (by k_extra "a") (by k_extra "su")  ) | (refine' ne_suf (by k_extra "a") (by k_extra "su")  ) | (refine' lt_sufU (by k_extra "a") (by k_extra "a") (by k_extra "su")  ) | (refine tbn_neAll ?_; tbn_find) | (refine' tbn_neAll (allLt_up (by tbn_find) (by k_extra "o"))  )) | exact List.forall_mem_nil _ | (refine' lt_suf (by k_extra "a") (by exact Suf.refl)  ) | (refine' ne_suf (by k_extra "a") (by exact Suf.refl)  ) | exact lt_same (by k_extra "a") (by rfl) | (refine List.forall_mem_cons.mpr ⟨?_, ?_⟩; (focus k_extra "tb_start"); k_extra "tb_rel"))
  k_with "k_upd" => (first | (refine Upd.head ?_; k_extra "tb_rel") | (apply Upd.tail; (focus k_extra "tb_start"); k_upd))
  k_with "k_updF" => (first | (refine UpdF.head ?_; k_extra "tb_rel") | (apply UpdF.tail; (focus k_extra "tb_start"); k_updF))
  k_with "execs cons" => ((k_extra "kxs_still"; refine wpAny_execs_cons ?_))
  k_with "po" => (first | exact PosA.head | (refine PosA.tail ?_; k_extra "po"))
  k_with "su" => (first | exact Suf.refl | (refine Suf.tail ?_; k_extra "su"))
  k_with "call builtin:len" => ((k_here; (with_reducible show wpAny _ _ (call (Value.builtin _) [Value.ref _]) _ _ _); k_dflt (refine' len_tup_led (by k_asm) (by k_mem) (by first | exact dotV_length (by assumption) | exact strV_length _) (by k_extra "o") ?_; k_whole)))
  k_with "enter0" => (k_dflt (refine' code0 (by k_asm) (by k_asm) (by k_asm) (by k_asm) (by k_asm) (by exact rfl) (by exact rfl) (by assumption) (by k_is) (by k_is) (by k_room) (by first | exact BindsTo.of_eq rfl | exact binds_K (by k_in) rfl (by k_is) rfl rfl rfl | fail "enter0") (by exact locs rfl) ?_ (by exact rfl) (by exact rfl) (by exact rfl) (by decide); k_whole; intro zqg' zqL' zqh' zqFG' zqF' zqN' zqB' zqX' zqT' zqD'; (try dsimp only); (try k_lift zqB'); (try k_fold)))
  k_with "compareOp In str str" => ((k_dflt (first | refine in_strB false (by decide +kernel) ?_ | refine in_strB true (by decide +kernel) ?_)))
  k_with "eval ListComp" => ((k_here; k_dflt (refine ListComp_T (F₀ := by k_asm) (by with_unfolding_all rfl) (by decide) (by rfl) (by decide) (by rfl) ?_)))
  intro mean mg mb cn cs a ccd cl outer A₀ base h₀ L m s Q E B F X N T hk hret
  refine wpAny_call ?_
  k_dflt ktr_enter
  k_steps
  rename Fr _ _ _ _ => F1
  rename News _ _ _ _ => N1
  refine (yE3A7 x t news rfl rfl F1 N1 ha (Nat.le_trans hsz (by rw [sizeLine_eq]; decide)) ?_)
  intro s₂ z1q; refine xE1A1 z1q ?_; (try clear z1q); intro hp z2q; obtain rfl := z2q
  refine' CompRest_bools (fun i => idCh ((x.cps[i]?).getD 0)) trivial ?turn ?fin
  case turn =>
    intro i v I oI C oC D ys m₂ h tk E' hi hP hC hx F2 N2 off ne
    refine xE2A2 hP ?_; (try clear hP); intro c u hc z3q; obtain rfl := z3q
    k_steps
    · rw [hc]; rfl
    · assumption
    · assumption
  case fin =>
    intro ys hb D h tk F2 N2 off
    clear F1 N1
    dsimp only
    k_steps
    rename Fr _ _ _ _ => F9
    rename News _ _ _ _ => N9
    exact hret _ _ _ _ F9 (News.tail' N9) ⟨rfl, rfl⟩
end
theorem isId_S : isId (Str.ofString "S") = true := by decide +kernel
theorem isId_A : isId (Str.ofString "A") = true := by decide +kernel
theorem isId_B : isId (Str.ofString "B") = true := by decide +kernel
theorem isId_a : isId (Str.ofString "a") = true := by decide +kernel
theorem isId_b : isId (Str.ofString "b") = true := by decide +kernel
theorem isId_D : isId (Str.ofString "D") = true := by decide +kernel
theorem isId_error : isId (Str.ofString "error") = true := by decide +kernel
theorem isId_Bc : isId (Str.ofString "B c") = false := by decide +kernel
theorem isId_prec : isId (Str.ofString "%prec") = false := by decide +kernel
section
variable {prog : Program} {w : World} {mean : ExcName → Option Value} {mg mb : Str → Option Value} {cn : Str} {cs : Scope} {a : Addr} {ccd : Value} {outer : List Env} {A A₀ : Around} {base h₀ : Heap} {L : Addr} {m : Str → Option Value} {s : Shared} {Q E : Value → Shared → Prop} {x : Str} {t : Tok} {news : Led}
theorem ident_call (B : Below A₀ base outer h₀) (F : Fr h₀ L s.heap m) (X : (hd.heap_1 w.params).In h₀) (N : News h₀ L s.heap news) (T : Top hdV LOOSE mean mg mb h₀) (hfr : A.frames = some (envOf cn cs L a ccd :: outer)) (hh : A.handled = none) (hdp : A.depth ≤ 400) (hg : A.guards = some []) (hu : A.units ≤ 400) (hk : cs.kind = .function)
    (b : Bool) (hb : isId x = b) (ha : x.cps.all (· < 128) = true) (hsz : x.length ≤ 16) (h0 : 0 < x.length) (h : ∀ h' tk', Fr h₀ L h' m → News h₀ L h' news → Q (.bool b) { s with heap := h', toks := tk' }) : wpAny (model prog w) A (call (.ref 39) [.str x t]) Q E s :=
  around_up (ident_spec prog w x t news ha hsz h0 mean mg mb cn cs a ccd [] outer A₀ base h₀ L m s Q E B F X N T hk (fun r news' h' tk' F' N' hp => by
    refine xE0A2 hp ?_; (try clear hp); intro z4q z5q; obtain rfl := z4q; obtain rfl := z5q
    rw [hb]
    exact h h' tk' F' N')) hh hdp hfr.symm hg.symm hu
end

section
open Builtin.Str
variable {prog : Program} {w : World} {A : Around} {E : Value → Shared → Prop} {s : Shared} {h₀ : Heap} {L t : Addr} {news : Led} {its : List (Str × Tok)} {k : Nat}
theorem truthy_strV0 {Q : Bool → Shared → Prop} (b : Bool) (hb : its.isEmpty = b) (hl : its.length ≤ 100) (N : News h₀ L s.heap news) (hm : (t, tupO (strV its) k) ∈ news) (h : Q (!b) { s with toks := s.toks + 1 + 1 }) : wpAny (model prog w) A (truthy (.ref t)) Q E s := by
  refine truthy_tuple (N.isTup hm) (by rw [List.size_toArray, strV_length]; k_extra "o") ?_
  have e : (!(strV its).toArray.isEmpty) = !b := by
    rw [← hb]
    cases its <;> rfl
  rw [e]
  exact h
theorem truthy_strV {Q : Bool → Shared → Prop} (b c : Bool) (N : News h₀ L s.heap news) (hm : (t, tupO (strV its) k) ∈ news) (hc : its.isEmpty = c) (hbc : (!c) = b) (hl : its.length ≤ 100) (h : Q b { s with toks := s.toks + 1 + 1 }) : wpAny (model prog w) A (truthy (.ref t)) Q E s :=
  truthy_strV0 c hc hl N hm (by rw [hbc]; exact h)
theorem sum_le {B : Nat} : ∀ {l : List Nat}, (∀ x ∈ l, x ≤ B) → l.sum ≤ B * l.length
  | [], _ => Nat.zero_le _
  | a :: r, h => by
    have := sum_le (l := r) fun x hx => h x (.tail _ hx)
    have := h a (.head _)
    rw [List.sum_cons, List.length_cons, Nat.mul_add, Nat.mul_one]
    k_extra "o"
theorem join_strV {Q : Value → Shared → Prop} {x : Str} {u : Tok} (hx : x.length ≤ 16) (N : News h₀ L s.heap news) (hm : (t, tupO (strV its) k) ∈ news) (hl : its.length ≤ 8) (hB : ∀ y ∈ its.map (·.1), y.length ≤ 16)
    (h : ∀ t' k, Q (.str (Str.join x (its.map (·.1))) t') { s with toks := k }) : wpAny (model prog w) A (call (.builtin "str.join") [.str x u, .ref t]) Q E s := by
  refine join_tupleW (N.isTup hm) (strsAre_strV its) hx ?_ fun t' k' => ?_
  · have := sum_le (l := (its.map (·.1)).map (·.length)) (B := 16) fun z hz => by
      refine xE1A2 (List.mem_map.mp hz) fun y hy z1q => ?_; obtain rfl := z1q
      exact hB y hy
    rw [List.length_map, List.length_map] at this
    rw [List.length_map]
    k_extra "o"
  · show Q (.str (glued x _) t') _
    rw [StrLaws.glued_eq_join]
    exact h t' k'
theorem join_len {x : Str} {B : Nat} (hx : x.length ≤ B) : ∀ {l : List Str}, (∀ y ∈ l, y.length ≤ B) → (Str.join x l).length ≤ 2 * B * l.length
  | [], _ => Nat.zero_le _
  | [y], h => by
    have := h y (.head _)
    show y.length ≤ _
    simp; k_extra "o"
  | y :: z :: r, h => by
    have h1 := h y (.head _)
    have h2 := join_len hx (l := z :: r) fun q hq => h q (.tail _ hq)
    show (y ++ x ++ Str.join x (z :: r)).length ≤ _
    rw [Str.length_append, Str.length_append]
    have e : (y :: z :: r).length = (z :: r).length + 1 := rfl
    rw [e]
    rw [Nat.mul_add, Nat.mul_one]
    k_extra "o"
theorem st_empty {nm : Str} {its : List (Str × Tok)} (h : its.isEmpty = true) : nm ++ Str.ofString " -> <empty>" = nm ++ Str.ofString " -> " ++ (if its.map (·.1) = [] then Str.ofString "<empty>" else Str.join (Str.ofString " ") (its.map (·.1))) := by
  obtain rfl := List.isEmpty_iff.mp h
  rw [show (if ([] : List (Str × Tok)).map (·.1) = [] then Str.ofString "<empty>" else Str.join (Str.ofString " ") (([] : List (Str × Tok)).map (·.1))) = Str.ofString "<empty>" from rfl, Str.append_assoc]
  exact congrArg (nm ++ ·) (by decide +kernel : Str.ofString " -> <empty>" = Str.ofString " -> " ++ Str.ofString "<empty>")
theorem st_join {nm : Str} {its : List (Str × Tok)} (h : its.isEmpty = false) : Str.empty ++ nm ++ Str.ofString " -> " ++ Str.join (Str.ofString " ") (its.map (·.1)) = nm ++ Str.ofString " -> " ++ (if its.map (·.1) = [] then Str.ofString "<empty>" else Str.join (Str.ofString " ") (its.map (·.1))) := by
  have e : Str.empty ++ nm = nm := Str.ext' (by simp [Str.cps_append, Str.empty])
  rw [if_neg (by intro q; rw [List.map_eq_nil_iff.mp q] at h; cases h), e]
noncomputable def NewPR (w : World) (np : Nat) (nm : Str) (its : List (Str × Tok)) (prec : Value) (FX : Led) (r : Value) (nws : Led) : Prop :=
  ∃ (x : PR) (li : Addr), r = .ref x.p ∧ x.name = nm ∧ x.its = its ∧ x.num = (np : Int) ∧ x.prec = prec ∧ x.uv.map (·.1) = dedupS (its.map (·.1)) ∧ nws = prL w x (.ref li) .none ((li, listOf #[] 0) :: FX) ∧
    (∀ q ∈ FX, q.1 ≠ x.dp ∧ q.1 ≠ x.p ∧ q.1 ≠ x.tup ∧ q.1 ≠ x.us ∧ q.1 ≠ li) ∧ (Sep FX → Sep nws)
theorem pr_make {w : World} {g h : Heap} {L : Addr} {np : Nat} {nm st : Str} {its uv : List (Str × Tok)} {un : Nat} {prec : Value} {FX : Led} {li us D x d : Addr} {u0 u1 u2 u3 u4 u5 u6 u7 u8 u9 u10 u11 u12 u13 u14 u15 u16 u17 u18 : Tok}
    (N : News g L h ((li, listOf #[] 0) :: (us, listOf (strV uv).toArray un) :: (D, tupO (strV its) 0) :: (x, instObj 100 d) :: (d, dictOf [ent w "name" u0 (.str nm u1), ent w "prod" u2 (.ref D), ent w "number" u3 (.int (np : Int) u4), ent w "func" u5 .none, ent w "callable" u6 .none,
      ent w "file" u7 (.str (Str.ofString "") u8), ent w "line" u9 (.int 0 u10), ent w "prec" u11 prec, ent w "len" u12 (.int (its.length : Int) u13), ent w "usyms" u14 (.ref us), ent w "lr_items" u15 (.ref li), ent w "lr_next" u16 .none, ent w "str" u17 (.str st u18)] 13) :: FX))
    (hst : st = nm ++ Str.ofString " -> " ++ (if its.map (·.1) = [] then Str.ofString "<empty>" else Str.join (Str.ofString " ") (its.map (·.1)))) (huv : uv.map (·.1) = dedupS (its.map (·.1)))
    (l1 : ∀ p ∈ FX, p.1 < d) (l2 : d < x) (l3 : x < D ∧ d < D ∧ AllLt D FX) (l4 : D < us ∧ x < us ∧ d < us ∧ AllLt us FX) (l5 : us < li ∧ D < li ∧ x < li ∧ d < li ∧ AllLt li FX) :
    ∃ nws, News g L h nws ∧ NewPR w np nm its prec FX (.ref x) nws := by
  subst hst
  have a1 := l3.1
  have a2 := l3.2.1
  have a3 := l4.1
  have a4 := l4.2.1
  have a5 := l4.2.2.1
  have a6 := l5.1
  have a7 := l5.2.1
  have a8 := l5.2.2.1
  have a9 := l5.2.2.2.1
  have hne : ∀ q ∈ FX, q.1 ≠ d ∧ q.1 ≠ x ∧ q.1 ≠ D ∧ q.1 ≠ us ∧ q.1 ≠ li := fun q hq =>
    have b := l1 q hq
    ⟨Nat.ne_of_lt b, Nat.ne_of_lt (Nat.lt_trans b l2), Nat.ne_of_lt (Nat.lt_trans b a2), Nat.ne_of_lt (Nat.lt_trans b a5), Nat.ne_of_lt (Nat.lt_trans b a9)⟩
  refine (yE1A2 _ (News.perm N fun p hp => ?_) (yE2A9 ⟨x, d, D, us, nm, its, uv, un, (np : Int), prec, tkOf [u0, u1, u2, u3, u4, u5, u6, u7, u8, u9, u10, u11, u12, u13, u14, u15, u16, u17, u18]⟩ li rfl rfl rfl rfl rfl huv rfl hne (fun S => ?_)))
  · simp only [List.mem_cons] at hp ⊢
    focus (refine xO6 (hp) ?_ ?_ ?_ ?_ ?_ ?_; (try clear hp); intro h; rotate_left 1; (try clear hp); intro h; rotate_left 1; (try clear hp); intro h; rotate_left 1; (try clear hp); intro h; rotate_left 1; (try clear hp); intro h; rotate_left 1; (try clear hp); intro h; rotate_left 1)
    · exact .inr (.inr (.inr (.inr (.inl h))))
    · exact .inr (.inr (.inr (.inl h)))
    · exact .inr (.inr (.inl h))
    · exact .inr (.inl h)
    · exact .inl h
    · exact .inr (.inr (.inr (.inr (.inr h))))
  · refine Sep.cons (List.forall_mem_cons.mpr ⟨(Nat.ne_of_gt l2 : x ≠ d), List.forall_mem_cons.mpr ⟨(Nat.ne_of_gt a2 : D ≠ d), List.forall_mem_cons.mpr ⟨(Nat.ne_of_gt a5 : us ≠ d), List.forall_mem_cons.mpr ⟨(Nat.ne_of_gt a9 : li ≠ d), fun q hq => (hne q hq).1⟩⟩⟩⟩) ?_
    refine Sep.cons (List.forall_mem_cons.mpr ⟨(Nat.ne_of_gt a1 : D ≠ x), List.forall_mem_cons.mpr ⟨(Nat.ne_of_gt a4 : us ≠ x), List.forall_mem_cons.mpr ⟨(Nat.ne_of_gt a8 : li ≠ x), fun q hq => (hne q hq).2.1⟩⟩⟩) ?_
    refine Sep.cons (List.forall_mem_cons.mpr ⟨(Nat.ne_of_gt a3 : us ≠ D), List.forall_mem_cons.mpr ⟨(Nat.ne_of_gt a7 : li ≠ D), fun q hq => (hne q hq).2.2.1⟩⟩) ?_
    exact Sep.cons (List.forall_mem_cons.mpr ⟨(Nat.ne_of_gt a6 : li ≠ us), fun q hq => (hne q hq).2.2.2.1⟩) (Sep.cons (fun q hq => (hne q hq).2.2.2.2) S)
end
section
open Builtin.Str
theorem bind_at {K : Frag} {f : Addr} {oc oc' : Value} {od od' : Option Addr} {fd fd' : FuncData} {osl osl' : Array (Option Value)} {s : Shared} {args : Args} {binds : List (Str × Value)} (h1 : K.lookup f = some ⟨oc', od', .func fd', osl'⟩) (h2 : K.lookup f = some ⟨oc, od, .func fd, osl⟩) (h : BindsTo s fd' args binds) : BindsTo s fd args binds := by
  rw [h1] at h2
  cases h2
  exact h
theorem find_at {K : Frag} {v : Value} {n : Str} {f f' : Addr} (h1 : findIn K v n = some (some (.ref f'))) (h2 : findIn K v n = some (some (.ref f))) : f = f' := by
  rw [h1] at h2
  cases h2
  rfl
noncomputable def ProdArgs (w : World) (args : List Value) (np : Nat) (nm : Str) (t0 t1 : Tok) (sy : Addr) (prec : Value) (t2 t3 : Tok) : Prop :=
  ∀ (x fI : Addr) (s : Shared) (oc : Value) (od : Option Addr) (fd : FuncData) (osl : Array (Option Value)), findIn (hd.heap_1 w.params) (.ref 100) "__init__" = some (some (.ref fI)) → (hd.heap_1 w.params).lookup fI = some ⟨oc, od, .func fd, osl⟩ → (hd.heap_1 w.params).In s.heap →
    BindsTo s fd ⟨.ref x :: args, []⟩ [(Str.ofString "self", .ref x), (Str.ofString "number", .int (np : Int) t0), (Str.ofString "name", .str nm t1), (Str.ofString "prod", .ref sy), (Str.ofString "precedence", prec), (Str.ofString "func", .none), (Str.ofString "file", .str (Str.ofString "") t2), (Str.ofString "line", .int 0 t3)]
set_option maxHeartbeats 4000000 in
theorem prod_G (prog : Program) (w : World) (np : Nat) (nm : Str) (its : List (Str × Tok)) (sy : Addr) (n' : Nat) (prec : Value) (t0 t1 t2 t3 : Tok) (FX : Led) (hs : (sy, listOf (strV its).toArray n') ∈ FX) (hi3 : its.length ≤ 3) (hB : ∀ y ∈ its.map (·.1), y.length ≤ 16) (hnm : nm.length ≤ 16) (args : List Value) (hbd : ProdArgs w args np nm t0 t1 sy prec t2 t3) :
    Does prog w 400 400 100 args FX (fun r news' => NewPR w np nm its prec FX r news') := by
  k_with_none
  k_with "o" => (first | (with_reducible first | assumption | (show (_ : Nat) ≤ _; first | exact Nat.le_of_ble_eq_true rfl | exact Nat.zero_le _ | exact Nat.le_of_lt ‹_› | exact Nat.le_of_eq ‹_› | exact oM ‹_› | exact oL ‹_› | exact oJ | exact oK | exact qE ‹_› | exact qG ‹_› | exact oS ‹_› rfl | exact oSE ‹_› ‹_› rfl | exact oA ‹_› rfl | exact oB ‹_› rfl | exact oG ‹_› rfl | exact oE ‹_› ‹_› rfl | exact oF ‹_› ‹_› rfl | exact oH ‹_› ‹_› rfl | exact oI ‹_› ‹_› rfl | exact oQ ‹_› ‹_› rfl | exact oQ3 ‹_› ‹_› ‹_› rfl | exact xE ‹_› ‹_› rfl | exact xA ‹_› | exact xB ‹_› | exact xH ‹_› | exact xF ‹_› | exact xG ‹_› | exact xL ‹_› | exact xC ‹_› ‹_› ‹_› ‹_› rfl | exact xD ‹_› ‹_› ‹_› ‹_› ‹_› rfl | exact xK ‹_› rfl | exact xJ ‹_› ‹_› rfl | exact xI ‹_› ‹_› ‹_› rfl | exact wA ‹_› ‹_› ‹_› rfl | exact wB ‹_› ‹_› ‹_› rfl | exact yC ‹_› ‹_› ‹_› rfl | exact yE ‹_› | exact uB ‹_› ‹_› rfl | exact uF ‹_› | exact uM | exact uN | exact uO | exact uU ‹_› | exact uW ‹_› ‹_› | exact uX ‹_› ‹_› ‹_› rfl | exact uZ ‹_› ‹_› ‹_› rfl | exact vC ‹_› ‹_› rfl | exact vD ‹_› | exact vI | exact vJ | exact vL ‹_› | exact vN ‹_› ‹_› ‹_› rfl | exact vO ‹_› ‹_› ‹_› ‹_› ‹_› rfl | exact vP ‹_› ‹_› ‹_› rfl | exact vQ ‹_› ‹_› | exact vR ‹_› ‹_› ‹_› rfl | exact vT | exact Nat.min_le_left _ _ | exact Nat.le_trans ‹_› ‹_› | exact Nat.le_add_left _ _ | exact wC ‹_› ‹_› rfl | exact wI ‹_› ‹_› rfl | exact wG ‹_› ‹_› ‹_› rfl | exact wF ‹_› ‹_› ‹_›) | (show (_ : Nat) < _; first | exact Nat.le_of_ble_eq_true rfl | exact Nat.lt_succ_self _ | exact pA ‹_› rfl | exact pB ‹_› rfl | exact pG ‹_› rfl | exact pE ‹_› ‹_› rfl | exact pF ‹_› ‹_› rfl | exact pH ‹_› ‹_› rfl | exact pI ‹_› ‹_› rfl | exact pS ‹_› rfl | exact pSE ‹_› ‹_› rfl | exact qA ‹_› | exact qD ‹_› | exact qB ‹_› ‹_› | exact qC ‹_› | exact Nat.lt_of_le_of_ne ‹_› ‹_› | exact uC ‹_› ‹_› | exact uD ‹_› | exact uE ‹_› | exact uY ‹_› ‹_› | exact vG ‹_› ‹_› rfl | exact vH ‹_› | exact vK ‹_› ‹_› | exact qF ‹_› | exact zA ‹_› ‹_› | exact wK ‹_› | exact wH ‹_› rfl | exact wD ‹_› ‹_› ‹_› rfl | exact wE ‹_› ‹_› ‹_›) | (show (_ : Nat) = _; first | exact yA ‹_› | exact yB ‹_› | exact yD ‹_› | exact yS ‹_› | exact Nat.sub_add_comm ‹_› | exact Nat.add_sub_cancel' ‹_› | exact uV ‹_› | exact uJ | exact uK | exact uL | exact uP | exact uQ | exact uR | exact vE ‹_› ‹_› | exact zB | exact oZ) | (show ((_ : Nat) : Int) < 2 ^ 63; first | exact iA ‹_› rfl | exact iB ‹_› rfl | exact iE ‹_› ‹_› rfl | exact iI ‹_› ‹_› rfl) | (show ((_ : Nat) : Int) < 2 ^ 62; first | exact jA ‹_› rfl | exact jB ‹_› rfl | exact jE ‹_› ‹_› rfl) | (show ((_ : Nat) : Int) + 1 < 2 ^ 63; first | exact rA ‹_› rfl | exact rE ‹_› ‹_› rfl | exact rF ‹_› ‹_› rfl) | exact rT ‹_› ‹_› rfl | exact rM | exact rN | exact Int.natCast_nonneg _ | exact iM | exact jM | exact iP ‹_› | exact uS ‹_› | exact uT ‹_› | exact vF ‹_› | exact vM ‹_› | exact vS ‹_› | exact yF ‹_› | exact yT ‹_› | exact iS | exact iZ | exact iD ‹_› | exact iV) | omega)
  k_with "a" => (with_reducible assumption)
  k_with "kxs_still" => (((try dsimp only); (try (refine execs_gen ?_; intro zqt9)); (try k_fold); (try k_extra "bits_by_make")))
  k_with "bits_by_make" => ((try (rename Fr _ _ _ _ => zqF9; (fail_if_success (refine onlyM zqF9 ?_; goal_lacks ite List.lookup)); refine letF zqF9 ?_; clear zqF9; intro zqm9 zqF9)))
  k_with "cell_call" => (first | k_extra "a" | (refine List.mem_cons_of_mem _ ?_; k_extra "cell_call"))
  k_with "tb_start" => ((refine neN ?_; (try dsimp only); first | exact NeA.to (by k_extra "a") | exact NeA.to' (by k_extra "a") | (refine' ne_pos (by k_extra "a") (by k_extra "po")  ) | (refine' ne_pos' (by k_extra "a") (by k_extra "po")  ) | (refine' lt_pos (by k_extra "a") (by k_extra "po")  ) | (refine' lt_pos' (by k_extra "a") (by k_extra "po")  ) | exact Nat.ne_of_lt (by k_extra "a") | exact Nat.ne_of_gt (by k_extra "a") | (refine' lt_up (by k_extra "a") (by k_extra "a") (by k_extra "po")  ) | (refine' lt_up' (by k_extra "a") (by k_extra "a") (by k_extra "po")  ) | omega))
  k_with "tb_rel" => (first | (tbn_letter; first | k_extra "a" | (refine' lt_suf (by k_extra "a") (by k_extra "su")  ) | (refine' ne_suf (by k_extra "a") (by k_extra "su")  ) | (refine' lt_sufU (by k_extra "a") (by k_extra "a") (by k_extra "su")  ) | (refine tbn_neAll ?_; tbn_find) | (refine' tbn_neAll (allLt_up (by tbn_find) (by k_extra "o"))  )) | exact List.forall_mem_nil _ | (refine' lt_suf (by k_extra "a") (by exact Suf.refl)  ) | (refine' ne_suf (by k_extra "a") (by exact Suf.refl)  ) | exact lt_same (by k_extra "a") (by rfl) | (refine List.forall_mem_cons.mpr ⟨?_, ?_⟩; (focus k_extra "tb_start"); k_extra "tb_rel"))
  k_with "k_upd" => (first | (refine Upd.head ?_; k_extra "tb_rel") | (apply Upd.tail; (focus k_extra "tb_start"); k_upd))
  k_with "k_updF" => (first | (refine UpdF.head ?_; k_extra "tb_rel") | (apply UpdF.tail; (focus k_extra "tb_start"); k_updF))
  k_with "execs cons" => ((k_extra "kxs_still"; refine wpAny_execs_cons ?_))
  k_with "po" => (first | exact PosA.head | (refine PosA.tail ?_; k_extra "po"))
  k_with "su" => (first | exact Suf.refl | (refine Suf.tail ?_; k_extra "su"))
  k_with "call type:tuple" => ((k_here; (with_reducible show wpAny _ _ (call (Value.type _) [Value.ref _]) _ _ _); k_dflt (refine' kde_tupleOf (by k_asm) (by k_asm) (by exact News.isList (by k_asm) (by k_mem)) (by exact size_dotV (by assumption) (by k_extra "o")) (by rfl) ?_; k_whole); intro zqD' zqh' zqF' zqN' zql1; (try k_lt zql1); (try k_sweep)))
  k_with "call builtin:len" => ((k_here; (with_reducible show wpAny _ _ (call (Value.builtin _) [Value.ref _]) _ _ _); k_dflt (refine' len_tup_led (by k_asm) (by k_mem) (by first | exact dotV_length (by assumption) | exact strV_length _) (by k_extra "o") ?_; k_whole)))
  k_with "enter0" => (k_dflt (refine' code0 (by k_asm) (by k_asm) (by k_asm) (by k_asm) (by k_asm) (by exact rfl) (by exact rfl) (by assumption) (by k_is) (by k_is) (by k_room) (by first | exact BindsTo.of_eq rfl | exact binds_K (by k_in) rfl (by k_is) rfl rfl rfl | fail "enter0") (by exact locs rfl) ?_ (by exact rfl) (by exact rfl) (by exact rfl) (by decide); k_whole; intro zqg' zqL' zqh' zqFG' zqF' zqN' zqB' zqX' zqT' zqD'; (try dsimp only); (try k_lift zqB'); (try k_fold)))
  k_with "call builtin:list.append" => ((k_here; (with_reducible show wpAny _ _ (call (Value.builtin _) [Value.ref _, _]) _ _ _); k_dflt (refine' append_K (by k_asm) (by k_asm) (by k_upd) ?_ (by k_extra "a"); k_whole); intro zqh' zqF' zqN'; (try k_sweep)))
  k_with "call type:tuple" => ((k_here; (with_reducible show wpAny _ _ (call (Value.type _) [Value.ref _]) _ _ _); k_dflt (refine' kde_tupleOf (by k_asm) (by k_asm) (by exact News.isList (by k_asm) (by k_mem)) (by exact size_strV (by k_extra "o")) (by rfl) ?_; k_whole); intro zqD' zqh' zqF' zqN' zql1; (try k_lt zql1); (try k_sweep)))
  k_with "compareOp NotIn str ref" => ((k_here; (with_reducible show wpAny _ _ (compareOp CmpOp.NotIn (Value.str _ _) (Value.ref _)) _ _ _); k_dflt (refine' notin_strs (by k_asm) (by k_mem) ?_; k_whole)))
  k_with "setAttr ref" => (((try dsimp only); (with_reducible show wpAny _ _ (setAttr (Value.ref _) _ (Value.int _ ((_ : Nat) + _))) _ _ (Shared.mk _ _ _ _ _)); refine set_genI ?_; intro zqu9 zqt9))
  k_with "setAttr ref" => (((try dsimp only); (with_reducible show wpAny _ _ (setAttr _ _ _) _ _ (Shared.mk _ _ _ ((_ : Nat) + _) _)); refine wp_gen ?_; intro zqt9))
  k_with "eval Attribute Name" => ((k_here; k_dflt (refine' attr_own (by k_asm) (by rfl) (by k_asm) (by k_inst) (by k_is) (by k_is) (by k_is) (by k_is) (by k_get) (by k_handed) ?_ (by rfl) (by rfl); k_whole)))
  k_with "exec For Name Attribute cons nil" => (with_unfolding_all refine wpAny_For ?_)
  k_with "truthy ref" => ((k_here; (with_reducible show wpAny _ _ (truthy (Value.ref _)) _ _ _); k_dflt (first | (refine' truthy_strV false true (by k_asm) (by k_mem) (by k_extra "a") rfl (by k_extra "o") ?_; k_whole) | (refine' truthy_strV true false (by k_asm) (by k_mem) (by k_extra "a") rfl (by k_extra "o") ?_; k_whole))))
  k_with "call builtin:str.join" => ((k_here; (with_reducible show wpAny _ _ (call (Value.builtin _) [Value.str _ _, Value.ref _]) _ _ _); k_dflt (refine' join_strV (by decide +kernel) (by k_asm) (by k_mem) (by k_extra "o") (by k_extra "a") ?_; k_whole); intro zqt' zqk'; (try dsimp only); (try k_sweep)))
  intro mean mg mb cn cs a ccd cl outer A₀ base h₀ L m s Q E B F X N T hk hret
  have hj : (Str.join (Str.ofString " ") (its.map (·.1))).length ≤ 2 * 16 * (its.map (·.1)).length := join_len (by decide +kernel) hB
  rw [List.length_map] at hj
  have hj2 : (Str.join (Str.ofString " ") (its.map (·.1))).length ≤ 1000 := by k_extra "o"
  have hnm2 : nm.length ≤ 1000 := by k_extra "o"
  have z2q : ∃ b, its.isEmpty = b := ⟨_, rfl⟩; refine xE1A1 z2q ?_; (try clear z2q); intro be hbe
  refine' call_cls ?k1 ?k2 ?k3 ?k4 ?k5 ?k6 ?_
  case k1 => k_asm
  case k2 => k_asm
  case k3 => k_asm
  case k4 => k_is
  case k5 => k_is
  case k6 => k_is
  intro x' d' h' F' N' l1 l2
  (try k_lt l1)
  (try k_lt2 l2)
  k_dflt (refine' code_def ?k1 ?k2 ?k3 ?k4 ?k5 ?kA ?kF ?kK ?k6 ?k7 ?k8 ?k9 ?kB ?_ ?c2 ?c3 ?c4 ?c5; (case kA => exact rfl); (case kF => exact rfl); (case kK => assumption); (case k1 => k_asm); (case k2 => k_asm); (case k3 => k_asm); (case k4 => k_asm); (case k5 => k_asm); (case k6 => k_is); (case k7 => k_is); (case k8 => k_room); (case k9 => exact hbd _ _ _ _ _ _ _ (by k_is) (by k_is) (by k_in)); (case c5 => decide); (case kB => exact locs rfl); (case c2 => exact rfl); (case c3 => exact rfl); (case c4 => exact rfl); k_whole; intro g' L' h' FG' F' N' B' X' T'; (try dsimp only); (try k_fold))
  k_steps
  rename Fr _ _ _ _ => F30
  rename News _ _ _ _ => N30
  refine' for_usyms (its := its) F30 N30 ?hmu ?hxu ?hpu ?hhu ?turnu ?doneu
  case hmu => k_mem
  case hxu => rfl
  case hpu => rfl
  case hhu => rfl
  case turnu =>
    clear F30 N30
    intro i y ty I it uv un h9 tk9 hy huv hoffu F31 N31
    have q1 := allNe_of hoffu
    have huvl : uv.length ≤ 3 := by
      have h1 := congrArg List.length huv
      have h2 := dedup_len ((its.map (·.1)).take i)
      rw [List.length_map] at h1
      rw [List.length_take, List.length_map] at h2
      k_extra "o"
    have hzu : (strV uv).toArray.size ≤ sizeLine := by rw [sizeLine_eq, List.size_toArray, strV_length]; k_extra "o"
    k_steps
    · rename Fr _ _ _ _ => F39
      rename News _ _ _ _ => N39
      rename List.any _ _ = true => hb
      dsimp only [ForF]
      exact (yE4A7 _ _ _ _ rfl F39 N39 hoffu (.tail _ (.head _)) ⟨_, rfl⟩ (yE2A2 uv _ rfl (dedup_old hy huv (by rw [hb]; rfl))))
    · rename Fr _ _ _ _ => F39
      rename News _ _ _ _ => N39
      rename List.any _ _ = false => hb
      rw [List.push_toArray, show strV uv ++ [Value.str y ty] = strV (uv ++ [(y, ty)]) by simp [strV]] at N39
      dsimp only [ForF]
      exact ⟨_, _, _, _, rfl, F39, N39, (fun p hp => by
        rcases List.mem_cons.mp hp with rfl | hp
        · exact hoffu (_, listOf (strV uv).toArray un) (.head _)
        · exact hoffu p (.tail _ hp)), .tail _ (.head _), ⟨_, rfl⟩, uv ++ [(y, ty)], _, rfl, dedup_new hy huv (by rw [hb]; rfl)⟩
  case doneu =>
    clear F30 N30
    intro ov uv un h9 tk9 huv F31 N31
    cases be with
    | true =>
      k_steps
      rename Fr _ _ _ _ => F9
      rename News _ _ _ _ => N9
      refine xE1A2 (pr_make N9 (st_empty hbe) huv (tb_ltOf l1) l2 (by assumption) (by assumption) (by assumption)) fun nws N10 hp => ?_
      exact hret _ _ _ _ F9 N10 hp
    | false =>
      k_steps
      rename Fr _ _ _ _ => F9
      rename News _ _ _ _ => N9
      refine xE1A2 (pr_make N9 (st_join hbe) huv (tb_ltOf l1) l2 (by assumption) (by assumption) (by assumption)) fun nws N10 hp => ?_
      exact hret _ _ _ _ F9 N10 hp
theorem prod_spec (prog : Program) (w : World) (np : Nat) (nm : Str) (its : List (Str × Tok)) (sy : Addr) (n' : Nat) (prec : Value) (t0 t1 t2 t3 : Tok) (FX : Led) (hs : (sy, listOf (strV its).toArray n') ∈ FX) (hi3 : its.length ≤ 3) (hB : ∀ y ∈ its.map (·.1), y.length ≤ 16) (hnm : nm.length ≤ 16) :
    Does prog w 400 400 100 [.int (np : Int) t0, .str nm t1, .ref sy, prec, .none, .str (Str.ofString "") t2, .int 0 t3] FX (fun r news' => NewPR w np nm its prec FX r news') := by
  refine prod_G prog w np nm its sy n' prec t0 t1 t2 t3 FX hs hi3 hB hnm _ fun x fI s oc od fd osl hf hl X => ?_
  have hq := find_at (K := hd.heap_1 w.params) (by k_is) hf
  subst hq
  exact bind_at (by k_is) hl (binds_K X rfl (by k_is) rfl rfl rfl)
end
section
variable {prog : Program} {w : World} {mean : ExcName → Option Value} {mg mb : Str → Option Value} {cn : Str} {cs : Scope} {a : Addr} {ccd : Value} {outer : List Env} {A A₀ : Around} {base h₀ : Heap} {L : Addr} {m : Str → Option Value} {s : Shared} {Q E : Value → Shared → Prop} {news : Led}
theorem prod_call {np : Nat} {nm : Str} {its : List (Str × Tok)} {sy : Addr} {n' : Nat} {prec : Value} {t0 t1 t2 t3 : Tok} (B : Below A₀ base outer h₀) (F : Fr h₀ L s.heap m) (X : (hd.heap_1 w.params).In h₀) (N : News h₀ L s.heap news) (T : Top hdV LOOSE mean mg mb h₀) (hfr : A.frames = some (envOf cn cs L a ccd :: outer)) (hh : A.handled = none) (hdp : A.depth ≤ 400) (hg : A.guards = some []) (hu : A.units ≤ 400) (hk : cs.kind = .function)
    (m1 : (sy, listOf (strV its).toArray n') ∈ news) (hi3 : its.length ≤ 3) (hB : ∀ y ∈ its.map (·.1), y.length ≤ 16) (hnm : nm.length ≤ 16)
    (h : ∀ r news' h' tk', Fr h₀ L h' m → News h₀ L h' news' → NewPR w np nm its prec news r news' → Q r { s with heap := h', toks := tk' }) : wpAny (model prog w) A (call (.ref 100) [.int (np : Int) t0, .str nm t1, .ref sy, prec, .none, .str (Str.ofString "") t2, .int 0 t3]) Q E s :=
  around_up (prod_spec prog w np nm its sy n' prec t0 t1 t2 t3 news m1 hi3 hB hnm mean mg mb cn cs a ccd [] outer A₀ base h₀ L m s Q E B F X N T hk h) hh hdp hfr.symm hg.symm hu
end

noncomputable def dlGet (d : DL) (k : Str) : List Value := match d.find? (fun e => e.1 == k) with | some e => e.2.2.1 | none => []
theorem dlGet_none {d : DL} {k : Str} (h : ∀ e ∈ d, e.1 ≠ k) : dlGet d k = [] := by
  unfold dlGet
  rw [List.find?_eq_none.mpr (fun e he => by simpa using h e he)]
theorem dlGet_at {a b : DL} {k : Str} {e : Addr} {l : List Value} {n : Nat} (h : ∀ x ∈ a, x.1 ≠ k) : dlGet (a ++ (k, e, l, n) :: b) k = l := by
  unfold dlGet
  rw [List.find?_append, List.find?_eq_none.mpr (fun e he => by simpa using h e he), Option.none_or, List.find?_cons_of_pos (by simp)]
theorem dlGet_off {a b : DL} {k s : Str} {e e' : Addr × List Value × Nat} (h : s ≠ k) : dlGet (a ++ (k, e) :: b) s = dlGet (a ++ (k, e') :: b) s := by
  unfold dlGet
  rw [List.find?_append, List.find?_append, List.find?_cons_of_neg (by simpa using Ne.symm h), List.find?_cons_of_neg (by simpa using Ne.symm h)]
theorem dlGet_new {d : DL} {k : Str} {D : Addr} {l : List Value} {n : Nat} (h : ∀ e ∈ d, e.1 ≠ k) (s : Str) : dlGet (d ++ [(k, D, l, n)]) s = if s = k then dlGet d s ++ l else dlGet d s := by
  by_cases e : s = k
  · subst e
    rw [if_pos rfl, dlGet_at h, dlGet_none h, List.nil_append]
  · rw [if_neg e]
    unfold dlGet
    rw [List.find?_append, List.find?_cons_of_neg (by simpa using Ne.symm e), List.find?_nil, Option.or_none]
theorem dlGet_set {a b : DL} {k : Str} {D : Addr} {l : List Value} {n n' : Nat} {v : Value} (h : ∀ x ∈ a, x.1 ≠ k) (s : Str) : dlGet (a ++ (k, D, l ++ [v], n') :: b) s = if s = k then dlGet (a ++ (k, D, l, n) :: b) s ++ [v] else dlGet (a ++ (k, D, l, n) :: b) s := by
  by_cases e : s = k
  · subst e
    rw [if_pos rfl, dlGet_at h, dlGet_at h]
  · rw [if_neg e]
    exact dlGet_off e
theorem dl_has (d : DL) (s : Str) : (valueAt (dlKV d) s = none ∧ dlGet d s = []) ∨ ∃ al n, valueAt (dlKV d) s = some (.ref al) ∧ (al, listOf (dlGet d s).toArray n) ∈ dlL d := by
  focus (refine xO2 (dl_split3 (d := d) (k := s)) ?_ ?_; intro h; rotate_left 1; intro w1q; refine xE5A2 w1q ?_; (try clear w1q); intro a e l n b w2q ha; obtain rfl := w2q; rotate_left 1)
  · exact .inl ⟨dlKV_none h, dlGet_none h⟩
  · refine .inr ⟨e, n, dlKV_some ha, ?_⟩
    rw [dlGet_at ha, dlL_split]
    exact List.mem_append_right _ (.head _)
theorem stored_absent {kvs : List (Str × Value)} {k : Str} {v : Value} (h : (valueAt kvs k).isSome = false) : stored kvs k v = kvs ++ [(k, v)] := by
  unfold stored
  rw [if_neg]
  intro q
  refine xE1A2 (List.any_eq_true.mp q) fun e he q => ?_
  unfold valueAt at h
  have : kvs.find? (fun kv => decide (kv.1 = k)) = none := by
    cases z : kvs.find? (fun kv => decide (kv.1 = k)) with
    | none => rfl
    | some x => rw [z] at h; cases h
  exact absurd q (List.find?_eq_none.mp this e he)
noncomputable def AddOK (prog : Program) (w : World) (G : GA) (B : Nat) (M : GM) (pco : Obj) (pt : Addr) (ptv : List Value) (npt : Nat) (R : Led) (hd' : Str) (base tail : List Str) (nws : Led) : Prop :=
  S_ "'ab'" ∉ base ∧ (tail = [] ∨ tail = [S_ "%prec", S_ "a"]) ∧ (valueAt M.pm (rowT hd' (base.map nrm))).isSome = false ∧
  ∃ (M' : GM) (x : PR) (li : Addr), x.name = hd' ∧ x.syms = base.map nrm ∧ x.num = (M.lpv.length : Int) ∧ x.uv.map (·.1) = dedupS x.syms ∧ M'.lpv = M.lpv ++ [.ref x.p] ∧ M'.pm = M.pm ++ [(rowT hd' (base.map nrm), .ref x.p)] ∧
    (∀ s, dlGet M'.pn s = if s = hd' then dlGet M.pn s ++ [.ref x.p] else dlGet M.pn s) ∧ hd' ∈ M'.nt.map (·.1) ∧ (∀ k ∈ M.nt.map (·.1), k ∈ M'.nt.map (·.1)) ∧ MOK prog w (B + 10) M' ∧
    (∀ q ∈ stL w G M' pco pt ptv npt (prL w x (.ref li) .none R), q ∈ nws) ∧ Sep (stL w G M' pco pt ptv npt (prL w x (.ref li) .none R))
section
variable {w : World} {G : GA} {M : GM} {pco so lo v2 : Obj} {pt sy D li : Addr} {ptv : List Value} {npt n : Nat} {R : Led} {k : Str} {l : List Value} {x : PR}
theorem addok_old (S : Sep (prL w x (.ref li) .none ((li, lo) :: (sy, so) :: stL w G M pco pt ptv npt R))) :
    (∀ q ∈ stL w G M pco pt ptv npt (prL w x (.ref li) .none R), q ∈ prL w x (.ref li) .none ((li, lo) :: (sy, so) :: stL w G M pco pt ptv npt R)) ∧ Sep (stL w G M pco pt ptv npt (prL w x (.ref li) .none R)) := by
  refine ⟨fun p hp => ?_, Sep.sub S fun k => ?_⟩
  · exact ledIn [_, _, _, _, _, _, _, _, _, _, _, _, _, _, _, _] [_, _, _, _] (.c 6 <| .c 7 <| .c 8 <| .c 9 <| .c 10 <| .c 11 <| .c 12 <| .c 13 <| .c 14 <| .c 15 <| .a (.l 0) <| .a (.l 1) <| .a (.l 2) <| .c 0 <| .c 1 <| .c 2 <| .c 3 <| .l 3) (.c 0 <| .c 1 <| .c 2 <| .c 3 <| .c 4 <| .c 5 <| .c 6 <| .c 7 <| .c 8 <| .c 9 <| .c 10 <| .c 11 <| .c 12 <| .c 13 <| .c 14 <| .c 15 <| .a (.l 0) <| .a (.l 1) <| .a (.l 2) <| .l 3) rfl _ hp
  · exact ledCnt [_, _, _, _, _, _, _, _, _, _, _, _, _, _, _, _] [_, _, _, _] (.c 6 <| .c 7 <| .c 8 <| .c 9 <| .c 10 <| .c 11 <| .c 12 <| .c 13 <| .c 14 <| .c 15 <| .a (.l 0) <| .a (.l 1) <| .a (.l 2) <| .c 0 <| .c 1 <| .c 2 <| .c 3 <| .l 3) (.c 0 <| .c 1 <| .c 2 <| .c 3 <| .c 4 <| .c 5 <| .c 6 <| .c 7 <| .c 8 <| .c 9 <| .c 10 <| .c 11 <| .c 12 <| .c 13 <| .c 14 <| .c 15 <| .a (.l 0) <| .a (.l 1) <| .a (.l 2) <| .l 3) rfl k
theorem addok_new (S : Sep (prL w x (.ref li) .none ((li, lo) :: (sy, so) :: stL w G M pco pt ptv npt R))) (hfr : ∀ q ∈ prL w x (.ref li) .none ((li, lo) :: (sy, so) :: stL w G M pco pt ptv npt R), q.1 ≠ D) :
    (∀ q ∈ stL w G { M with pn := M.pn ++ [(k, D, l, n)] } pco pt ptv npt (prL w x (.ref li) .none R), q ∈ (D, listOf l.toArray n) :: prL w x (.ref li) .none ((li, lo) :: (sy, so) :: stL w G M pco pt ptv npt R)) ∧
    Sep (stL w G { M with pn := M.pn ++ [(k, D, l, n)] } pco pt ptv npt (prL w x (.ref li) .none R)) := by
  refine ⟨fun p hp => ?_, Sep.sub (Sep.cons (p := (D, listOf l.toArray n)) hfr S) fun k => ?_⟩
  · exact ledIn1 [_, _, _, _, _, _, _, _, _, _, _, _, _, _, _, _, _] [_, _, _, _, _] (.a (.l 3) <| .c 0 <| .n) (.c 7 <| .c 8 <| .c 9 <| .c 10 <| .c 11 <| .c 12 <| .c 13 <| .c 14 <| .c 15 <| .c 16 <| .a (.l 1) <| .a (.l 2) <| .a (.l 0) <| .c 1 <| .c 2 <| .c 3 <| .c 4 <| .l 4) (.c 0 <| .c 1 <| .c 2 <| .c 3 <| .c 4 <| .c 5 <| .c 6 <| .c 7 <| .c 8 <| .c 9 <| .c 10 <| .c 11 <| .c 12 <| .c 13 <| .c 14 <| .c 15 <| .c 16 <| .a (.l 1) <| .a (.l 2) <| .a (.l 3) <| .l 4) rfl (dlL_snoc ..) _ hp
  · exact ledCnt1 [_, _, _, _, _, _, _, _, _, _, _, _, _, _, _, _, _] [_, _, _, _, _, _, _, _, _, _, _, _, _, _, _, _, _] [_, _, _, _, _] (.a (.l 3) <| .c 0 <| .n) (.c 7 <| .c 8 <| .c 9 <| .c 10 <| .c 11 <| .c 12 <| .c 13 <| .c 14 <| .c 15 <| .c 16 <| .a (.l 1) <| .a (.l 2) <| .a (.l 0) <| .c 1 <| .c 2 <| .c 3 <| .c 4 <| .l 4) (.c 0 <| .c 1 <| .c 2 <| .c 3 <| .c 4 <| .c 5 <| .c 6 <| .c 7 <| .c 8 <| .c 9 <| .c 10 <| .c 11 <| .c 12 <| .c 13 <| .c 14 <| .c 15 <| .c 16 <| .a (.l 1) <| .a (.l 2) <| .a (.l 3) <| .l 4) rfl rfl (dlL_snoc ..) k
end
section
variable {g h : Heap} {L : Addr}
theorem touch2_fwd (P T1 T2 A B rest : Led) {x : Addr × Obj} (N : News g L h (P ++ (T1 ++ (T2 ++ ((A ++ x :: B) ++ rest))))) : News g L h (x :: (P ++ (T1 ++ (T2 ++ ((A ++ B) ++ rest))))) := News.perm N fun p hp => by
  exact ledIn [_] [_, _, _, _, _, _] (.c 0 <| .a (.l 0) <| .a (.l 1) <| .a (.l 2) <| .a (.a (.l 3) <| .l 4) <| .l 5) (.a (.l 0) <| .a (.l 1) <| .a (.l 2) <| .a (.a (.l 3) <| .c 0 <| .l 4) <| .l 5) rfl _ hp
theorem touch2_back (P T1 T2 A B rest : Led) {x : Addr × Obj} (N : News g L h (x :: (P ++ (T1 ++ (T2 ++ ((A ++ B) ++ rest)))))) : News g L h (P ++ (T1 ++ (T2 ++ ((A ++ x :: B) ++ rest)))) := News.perm N fun p hp => by
  exact ledIn [_] [_, _, _, _, _, _] (.a (.l 0) <| .a (.l 1) <| .a (.l 2) <| .a (.a (.l 3) <| .c 0 <| .l 4) <| .l 5) (.c 0 <| .a (.l 0) <| .a (.l 1) <| .a (.l 2) <| .a (.a (.l 3) <| .l 4) <| .l 5) rfl _ hp
theorem touch2_sepF (P T1 T2 A B rest : Led) {x y : Addr × Obj} (hxy : y.1 = x.1) (S : Sep (P ++ (T1 ++ (T2 ++ ((A ++ x :: B) ++ rest))))) : Sep (y :: (P ++ (T1 ++ (T2 ++ ((A ++ B) ++ rest))))) :=
  ledSep2 [_] [_] [_, _, _, _, _, _] (.c 0 <| .a (.l 0) <| .a (.l 1) <| .a (.l 2) <| .a (.a (.l 3) <| .l 4) <| .l 5) (.a (.l 0) <| .a (.l 1) <| .a (.l 2) <| .a (.a (.l 3) <| .c 0 <| .l 4) <| .l 5) rfl (by rw [List.map_cons, List.map_cons, hxy]) S
theorem touch2_sepB (P T1 T2 A B rest : Led) {x y : Addr × Obj} (hxy : y.1 = x.1) (S : Sep (x :: (P ++ (T1 ++ (T2 ++ ((A ++ B) ++ rest)))))) : Sep (P ++ (T1 ++ (T2 ++ ((A ++ y :: B) ++ rest)))) :=
  ledSep2 [_] [_] [_, _, _, _, _, _] (.a (.l 0) <| .a (.l 1) <| .a (.l 2) <| .a (.a (.l 3) <| .c 0 <| .l 4) <| .l 5) (.c 0 <| .a (.l 0) <| .a (.l 1) <| .a (.l 2) <| .a (.a (.l 3) <| .l 4) <| .l 5) rfl (by rw [List.map_cons, List.map_cons, hxy]) S
end
theorem szL_any {B C : Nat} {d : DL} (h : szL B d) (hc : B ≤ C) : szL C d := szL_up h hc
section
variable {prog : Program} {w : World} {G : GA} {B k : Nat} {M : GM} {pco so lo teo nto upo pmo pno : Obj} {pt sy D li : Addr} {ptv : List Value} {npt n : Nat} {R : Led} {hd' row : Str} {base tail : List Str} {te5 nt5 : DL} {x : PR} {its : List (Str × Tok)}
theorem addok_pack_new (S : Sep (prL w x (.ref li) .none ((li, lo) :: (sy, so) :: stL w G { M with te := te5, teo := teo, nt := nt5, nto := nto, upo := upo } pco pt ptv npt R)))
    (hfr : ∀ q ∈ prL w x (.ref li) .none ((li, lo) :: (sy, so) :: stL w G { M with lpv := M.lpv ++ [.ref x.p], nlp := M.nlp + 1, pmo := pmo, te := te5, teo := teo, nt := nt5, nto := nto, upo := upo } pco pt ptv npt R), q.1 ≠ D)
    (habp : ∀ e ∈ M.pn, e.1 ≠ hd') (oPn : pno.IsDictOf (PySem.strKind prog w) (stored (dlKV M.pn) hd' (.ref D))) (oPm : pmo.IsDictOf (PySem.strKind prog w) (stored M.pm row (.ref x.p))) (hrow : rowT hd' (base.map nrm) = row) (hdup : (valueAt M.pm row).isSome = false)
    (hnoab : S_ "'ab'" ∉ base) (htl : tail = [] ∨ tail = [S_ "%prec", S_ "a"]) (hx1 : x.name = hd') (hx2 : x.its = its) (hits : its.map (·.1) = base.map nrm) (hx3 : x.num = (M.lpv.length : Int)) (hx5 : x.uv.map (·.1) = dedupS (its.map (·.1)))
    (kN5 : hd' ∈ nt5.map (·.1)) (kO5 : ∀ k ∈ M.nt.map (·.1), k ∈ nt5.map (·.1)) (hM : MOK prog w B M) (kT5 : TeOK te5) (oT5 : teo.IsDictOf (PySem.strKind prog w) (dlKV te5)) (sT5 : szL (B + k) te5) (hk : k ≤ 3)
    (oN5 : nto.IsDictOf (PySem.strKind prog w) (dlKV nt5)) (sN5 : szL (B + k) nt5) (lN5 : nt5.length ≤ M.nt.length + 1 + k) (hup : UpOK prog w upo) :
    AddOK prog w G B M pco pt ptv npt R hd' base tail ((D, listOf #[.ref x.p] 0) :: prL w x (.ref li) .none ((li, lo) :: (sy, so) :: stL w G { M with lpv := M.lpv ++ [.ref x.p], nlp := M.nlp + 1, pmo := pmo, te := te5, teo := teo, nt := nt5, nto := nto, upo := upo, pno := pno } pco pt ptv npt R)) := by
  subst hx1 hx2 hrow
  rw [dl_stored (l := [.ref x.p]) (n := 0) habp] at oPn
  rw [stored_absent hdup] at oPm
  have S7 : Sep (prL w x (.ref li) .none ((li, lo) :: (sy, so) :: stL w G { M with lpv := M.lpv ++ [.ref x.p], nlp := M.nlp + 1, pm := M.pm ++ [(rowT x.name (base.map nrm), .ref x.p)], pmo := pmo, te := te5, teo := teo, nt := nt5, nto := nto, upo := upo, pno := pno } pco pt ptv npt R)) := sep_same (by rfl) S
  have hf7 : ∀ q ∈ prL w x (.ref li) .none ((li, lo) :: (sy, so) :: stL w G { M with lpv := M.lpv ++ [.ref x.p], nlp := M.nlp + 1, pm := M.pm ++ [(rowT x.name (base.map nrm), .ref x.p)], pmo := pmo, te := te5, teo := teo, nt := nt5, nto := nto, upo := upo, pno := pno } pco pt ptv npt R), q.1 ≠ D := fun q hq => by
    have z : q.1 ∈ (prL w x (.ref li) .none ((li, lo) :: (sy, so) :: stL w G { M with lpv := M.lpv ++ [.ref x.p], nlp := M.nlp + 1, pmo := pmo, te := te5, teo := teo, nt := nt5, nto := nto, upo := upo } pco pt ptv npt R)).map (·.1) := (List.mem_map_of_mem (f := (·.1)) hq : q.1 ∈ (prL w x (.ref li) .none ((li, lo) :: (sy, so) :: stL w G { M with lpv := M.lpv ++ [.ref x.p], nlp := M.nlp + 1, pm := M.pm ++ [(rowT x.name (base.map nrm), .ref x.p)], pmo := pmo, te := te5, teo := teo, nt := nt5, nto := nto, upo := upo, pno := pno } pco pt ptv npt R)).map (·.1))
    refine xE1A2 (List.mem_map.mp z) fun r hr e => ?_
    rw [← e]
    exact hfr r hr
  refine xE0A2 (addok_new (k := x.name) (l := [Value.ref x.p]) (n := 0) S7 hf7) fun A9 S9 => ?_
  refine (yE0A4 hnoab htl hdup (yE3A12 _ x li rfl hits hx3 hx5 rfl rfl (dlGet_new habp) kN5 kO5 ⟨oT5, oN5, oPn, oPm, kT5, hup, szL_up sT5 (by k_extra "o"), szL_up sN5 (by k_extra "o"), szL_add (szL_up hM.sp (by k_extra "o")) (by simp), ?_, ?_, ?_, ?_⟩ A9 S9))
  · have := hM.ln
    show nt5.length ≤ _
    k_extra "o"
  · have := hM.lp
    show (M.pn ++ _).length ≤ _
    rw [List.length_append, List.length_singleton]
    k_extra "o"
  · have := hM.lm
    show (M.pm ++ _).length ≤ _
    rw [List.length_append, List.length_singleton]
    k_extra "o"
  · have := hM.ll
    show (M.lpv ++ _).length ≤ _
    rw [List.length_append, List.length_singleton]
    k_extra "o"
theorem addok_pack_old {da db : DL} {e : Addr} {l : List Value} {n : Nat} (hpn : M.pn = da ++ (hd', e, l, n) :: db) (hda : ∀ y ∈ da, y.1 ≠ hd')
    (S : Sep (prL w x (.ref li) .none ((li, lo) :: (sy, so) :: stL w G { M with te := te5, teo := teo, nt := nt5, nto := nto, upo := upo, pn := da ++ (hd', e, l ++ [.ref x.p], n + 1) :: db } pco pt ptv npt R)))
    (oPm : pmo.IsDictOf (PySem.strKind prog w) (stored M.pm row (.ref x.p))) (hrow : rowT hd' (base.map nrm) = row) (hdup : (valueAt M.pm row).isSome = false)
    (hnoab : S_ "'ab'" ∉ base) (htl : tail = [] ∨ tail = [S_ "%prec", S_ "a"]) (hx1 : x.name = hd') (hx2 : x.its = its) (hits : its.map (·.1) = base.map nrm) (hx3 : x.num = (M.lpv.length : Int)) (hx5 : x.uv.map (·.1) = dedupS (its.map (·.1)))
    (kN5 : hd' ∈ nt5.map (·.1)) (kO5 : ∀ k ∈ M.nt.map (·.1), k ∈ nt5.map (·.1)) (hM : MOK prog w B M) (kT5 : TeOK te5) (oT5 : teo.IsDictOf (PySem.strKind prog w) (dlKV te5)) (sT5 : szL (B + k) te5) (hk : k ≤ 3)
    (oN5 : nto.IsDictOf (PySem.strKind prog w) (dlKV nt5)) (sN5 : szL (B + k) nt5) (lN5 : nt5.length ≤ M.nt.length + 1 + k) (hup : UpOK prog w upo) (nws : Led)
    (hsub : ∀ q ∈ prL w x (.ref li) .none ((li, lo) :: (sy, so) :: stL w G { M with lpv := M.lpv ++ [.ref x.p], nlp := M.nlp + 1, pmo := pmo, te := te5, teo := teo, nt := nt5, nto := nto, upo := upo, pn := da ++ (hd', e, l ++ [.ref x.p], n + 1) :: db } pco pt ptv npt R), q ∈ nws) :
    AddOK prog w G B M pco pt ptv npt R hd' base tail nws := by
  subst hx1 hx2 hrow
  rw [stored_absent hdup] at oPm
  have S7 : Sep (prL w x (.ref li) .none ((li, lo) :: (sy, so) :: stL w G { M with lpv := M.lpv ++ [.ref x.p], nlp := M.nlp + 1, pm := M.pm ++ [(rowT x.name (base.map nrm), .ref x.p)], pmo := pmo, te := te5, teo := teo, nt := nt5, nto := nto, upo := upo, pn := da ++ (x.name, e, l ++ [.ref x.p], n + 1) :: db } pco pt ptv npt R)) := sep_same (by rfl) S
  refine xE0A2 (addok_old S7) fun A9 S9 => ?_
  have hsp := hM.sp
  have hpnD := hM.pn
  rw [hpn] at hsp hpnD
  refine (yE0A4 hnoab htl hdup (yE3A12 _ x li rfl hits hx3 hx5 rfl rfl (by rw [hpn]; exact dlGet_set hda) kN5 kO5 ⟨oT5, oN5, (by rw [← dlKV_set da db x.name e l _ n _] at hpnD; exact hpnD), oPm, kT5, hup, szL_up sT5 (by k_extra "o"), szL_up sN5 (by k_extra "o"), szL_up (szL_set hsp) (by k_extra "o"), ?_, ?_, ?_, ?_⟩ (fun q hq => hsub q (A9 q hq)) S9))
  · have := hM.ln
    show nt5.length ≤ _
    k_extra "o"
  · have := hM.lp
    rw [hpn] at this
    show (da ++ _ :: db).length ≤ _
    simp only [List.length_append, List.length_cons] at this ⊢
    k_extra "o"
  · have := hM.lm
    show (M.pm ++ _).length ≤ _
    rw [List.length_append, List.length_singleton]
    k_extra "o"
  · have := hM.ll
    show (M.lpv ++ _).length ≤ _
    rw [List.length_append, List.length_singleton]
    k_extra "o"
end

section
open Builtin.Str
set_option maxHeartbeats 4000000 in
theorem str_spec (prog : Program) (w : World) (x : PR) (v1 v2 : Value) (st : Str) (FX : Led) (h1 : (x.p, instObj 100 x.dp) ∈ FX) (h2 : (x.dp, prodD w x v1 v2 st) ∈ FX) :
    Does prog w 400 400 69 [.ref x.p] FX (fun r nws => nws = FX ∧ ∃ u, r = .str st u) := by
  k_with_none
  k_with "o" => (first | (with_reducible first | assumption | (show (_ : Nat) ≤ _; first | exact Nat.le_of_ble_eq_true rfl | exact Nat.zero_le _ | exact Nat.le_of_lt ‹_› | exact Nat.le_of_eq ‹_› | exact oM ‹_› | exact oL ‹_› | exact oJ | exact oK | exact qE ‹_› | exact qG ‹_› | exact oS ‹_› rfl | exact oSE ‹_› ‹_› rfl | exact oA ‹_› rfl | exact oB ‹_› rfl | exact oG ‹_› rfl | exact oE ‹_› ‹_› rfl | exact oF ‹_› ‹_› rfl | exact oH ‹_› ‹_› rfl | exact oI ‹_› ‹_› rfl | exact oQ ‹_› ‹_› rfl | exact oQ3 ‹_› ‹_› ‹_› rfl | exact xE ‹_› ‹_› rfl | exact xA ‹_› | exact xB ‹_› | exact xH ‹_› | exact xF ‹_› | exact xG ‹_› | exact xL ‹_› | exact xC ‹_› ‹_› ‹_› ‹_› rfl | exact xD ‹_› ‹_› ‹_› ‹_› ‹_› rfl | exact xK ‹_› rfl | exact xJ ‹_› ‹_› rfl | exact xI ‹_› ‹_› ‹_› rfl | exact wA ‹_› ‹_› ‹_› rfl | exact wB ‹_› ‹_› ‹_› rfl | exact yC ‹_› ‹_› ‹_› rfl | exact yE ‹_› | exact uB ‹_› ‹_› rfl | exact uF ‹_› | exact uM | exact uN | exact uO | exact uU ‹_› | exact uW ‹_› ‹_› | exact uX ‹_› ‹_› ‹_› rfl | exact uZ ‹_› ‹_› ‹_› rfl | exact vC ‹_› ‹_› rfl | exact vD ‹_› | exact vI | exact vJ | exact vL ‹_› | exact vN ‹_› ‹_› ‹_› rfl | exact vO ‹_› ‹_› ‹_› ‹_› ‹_› rfl | exact vP ‹_› ‹_› ‹_› rfl | exact vQ ‹_› ‹_› | exact vR ‹_› ‹_› ‹_› rfl | exact vT | exact Nat.min_le_left _ _ | exact Nat.le_trans ‹_› ‹_› | exact Nat.le_add_left _ _ | exact wC ‹_› ‹_› rfl | exact wI ‹_› ‹_› rfl | exact wG ‹_› ‹_› ‹_› rfl | exact wF ‹_› ‹_› ‹_›) | (show (_ : Nat) < _; first | exact Nat.le_of_ble_eq_true rfl | exact Nat.lt_succ_self _ | exact pA ‹_› rfl | exact pB ‹_› rfl | exact pG ‹_› rfl | exact pE ‹_› ‹_› rfl | exact pF ‹_› ‹_› rfl | exact pH ‹_› ‹_› rfl | exact pI ‹_› ‹_› rfl | exact pS ‹_› rfl | exact pSE ‹_› ‹_› rfl | exact qA ‹_› | exact qD ‹_› | exact qB ‹_› ‹_› | exact qC ‹_› | exact Nat.lt_of_le_of_ne ‹_› ‹_› | exact uC ‹_› ‹_› | exact uD ‹_› | exact uE ‹_› | exact uY ‹_› ‹_› | exact vG ‹_› ‹_› rfl | exact vH ‹_› | exact vK ‹_› ‹_› | exact qF ‹_› | exact zA ‹_› ‹_› | exact wK ‹_› | exact wH ‹_› rfl | exact wD ‹_› ‹_› ‹_› rfl | exact wE ‹_› ‹_› ‹_›) | (show (_ : Nat) = _; first | exact yA ‹_› | exact yB ‹_› | exact yD ‹_› | exact yS ‹_› | exact Nat.sub_add_comm ‹_› | exact Nat.add_sub_cancel' ‹_› | exact uV ‹_› | exact uJ | exact uK | exact uL | exact uP | exact uQ | exact uR | exact vE ‹_› ‹_› | exact zB | exact oZ) | (show ((_ : Nat) : Int) < 2 ^ 63; first | exact iA ‹_› rfl | exact iB ‹_› rfl | exact iE ‹_› ‹_› rfl | exact iI ‹_› ‹_› rfl) | (show ((_ : Nat) : Int) < 2 ^ 62; first | exact jA ‹_› rfl | exact jB ‹_› rfl | exact jE ‹_› ‹_› rfl) | (show ((_ : Nat) : Int) + 1 < 2 ^ 63; first | exact rA ‹_› rfl | exact rE ‹_› ‹_› rfl | exact rF ‹_› ‹_› rfl) | exact rT ‹_› ‹_› rfl | exact rM | exact rN | exact Int.natCast_nonneg _ | exact iM | exact jM | exact iP ‹_› | exact uS ‹_› | exact uT ‹_› | exact vF ‹_› | exact vM ‹_› | exact vS ‹_› | exact yF ‹_› | exact yT ‹_› | exact iS | exact iZ | exact iD ‹_› | exact iV) | omega)
  k_with "a" => (with_reducible assumption)
  k_with "kxs_still" => (((try dsimp only); (try (refine execs_gen ?_; intro zqt9)); (try k_fold); (try k_extra "bits_by_make")))
  k_with "bits_by_make" => ((try (rename Fr _ _ _ _ => zqF9; (fail_if_success (refine onlyM zqF9 ?_; goal_lacks ite List.lookup)); refine letF zqF9 ?_; clear zqF9; intro zqm9 zqF9)))
  k_with "cell_call" => (first | k_extra "a" | (refine List.mem_cons_of_mem _ ?_; k_extra "cell_call"))
  k_with "tb_start" => ((refine neN ?_; (try dsimp only); first | exact NeA.to (by k_extra "a") | exact NeA.to' (by k_extra "a") | (refine' ne_pos (by k_extra "a") (by k_extra "po")  ) | (refine' ne_pos' (by k_extra "a") (by k_extra "po")  ) | (refine' lt_pos (by k_extra "a") (by k_extra "po")  ) | (refine' lt_pos' (by k_extra "a") (by k_extra "po")  ) | exact Nat.ne_of_lt (by k_extra "a") | exact Nat.ne_of_gt (by k_extra "a") | (refine' lt_up (by k_extra "a") (by k_extra "a") (by k_extra "po")  ) | (refine' lt_up' (by k_extra "a") (by k_extra "a") (by k_extra "po")  ) | omega))
  k_with "tb_rel" => (first | (tbn_letter; first | k_extra "a" | (refine' lt_suf (by k_extra "a") (by k_extra "su")  ) | (refine' ne_suf (by k_extra "a") (by k_extra "su")  ) | (refine' lt_sufU (by k_extra "a") (by k_extra "a") (by k_extra "su")  ) | (refine tbn_neAll ?_; tbn_find) | (refine' tbn_neAll (allLt_up (by tbn_find) (by k_extra "o"))  )) | exact List.forall_mem_nil _ | (refine' lt_suf (by k_extra "a") (by exact Suf.refl)  ) | (refine' ne_suf (by k_extra "a") (by exact Suf.refl)  ) | exact lt_same (by k_extra "a") (by rfl) | (refine List.forall_mem_cons.mpr ⟨?_, ?_⟩; (focus k_extra "tb_start"); k_extra "tb_rel"))
  k_with "k_upd" => (first | (refine Upd.head ?_; k_extra "tb_rel") | (apply Upd.tail; (focus k_extra "tb_start"); k_upd))
  k_with "k_updF" => (first | (refine UpdF.head ?_; k_extra "tb_rel") | (apply UpdF.tail; (focus k_extra "tb_start"); k_updF))
  k_with "execs cons" => ((k_extra "kxs_still"; refine wpAny_execs_cons ?_))
  k_with "po" => (first | exact PosA.head | (refine PosA.tail ?_; k_extra "po"))
  k_with "su" => (first | exact Suf.refl | (refine Suf.tail ?_; k_extra "su"))
  k_with "enter0" => (k_dflt (refine' code0 (by k_asm) (by k_asm) (by k_asm) (by k_asm) (by k_asm) (by exact rfl) (by exact rfl) (by assumption) (by k_is) (by k_is) (by k_room) (by first | exact BindsTo.of_eq rfl | exact binds_K (by k_in) rfl (by k_is) rfl rfl rfl | fail "enter0") (by exact locs rfl) ?_ (by exact rfl) (by exact rfl) (by exact rfl) (by decide); k_whole; intro zqg' zqL' zqh' zqFG' zqF' zqN' zqB' zqX' zqT' zqD'; (try dsimp only); (try k_lift zqB'); (try k_fold)))
  k_with "eval Attribute Name" => ((k_here; k_dflt (refine' attr_own (by k_asm) (by rfl) (by k_asm) (by k_inst) (by k_is) (by k_is) (by k_is) (by k_is) (by k_get) (by k_handed) ?_ (by rfl) (by rfl); k_whole)))
  intro mean mg mb cn cs a ccd cl outer A₀ base h₀ L m s Q E B F X N T hk hret
  refine wpAny_call ?_
  k_dflt ktr_enter
  k_steps
  rename Fr _ _ _ _ => F9
  rename News _ _ _ _ => N9
  exact hret _ _ _ _ F9 N9 ⟨rfl, _, rfl⟩
end
section
open Builtin Builtin.Str PyProof.Rows PySem.Calls
variable {prog : Program} {w : World} {mean : ExcName → Option Value} {mg mb : Str → Option Value} {cn : Str} {cs : Scope} {a : Addr} {ccd : Value} {outer : List Env} {A A₀ : Around} {base h₀ : Heap} {L : Addr} {m : Str → Option Value} {s : Shared} {Q E : Value → Shared → Prop} {news : Led}
theorem strOf_rule {x : PR} {v1 v2 : Value} {st : Str} (B : Below A₀ base outer h₀) (F : Fr h₀ L s.heap m) (X : (hd.heap_1 w.params).In h₀) (N : News h₀ L s.heap news) (T : Top hdV LOOSE mean mg mb h₀) (hfr : A.frames = some (envOf cn cs L a ccd :: outer)) (hh : A.handled = none) (hdp : A.depth ≤ 400) (hg : A.guards = some []) (hu : A.units ≤ 400) (hk : cs.kind = .function)
    (h1 : (x.p, instObj 100 x.dp) ∈ news) (h2 : (x.dp, prodD w x v1 v2 st) ∈ news)
    (h : ∀ u h' tk', Fr h₀ L h' m → News h₀ L h' news → Q (.str st u) { s with heap := h', toks := tk' }) : wpAny (model prog w) A (Builtin.Str.strOf (.ref x.p)) Q E s := by
  have hcl := cLine_is
  refine kso_strOf (K := hd.heap_1 w.params) (C := 100) (f := 69) (by k_extra "o") (X.keeps F.keep) (InstAt.of_news N h1 h2) (by k_is) (by k_is) ?_
  refine around_up (str_spec prog w x v1 v2 st news h1 h2 mean mg mb cn cs a ccd [] outer A₀ base h₀ L m s (StrBack Q) E B F X N T hk fun r news' h' tk' F' N' hp => ?_) hh hdp hfr.symm hg.symm hu
  refine xE0A2 hp ?_; (try clear hp); intro z1q z3q; refine xE1A1 z3q ?_; (try clear z3q); intro u z2q; obtain rfl := z1q; obtain rfl := z2q
  exact h u h' tk' F' N'
theorem run_pre {X : Str} {f : Nat → PSt → Sem (ForInStep PSt)} {A : Around} {E : Value → Shared → Prop} {Q : PSt → Shared → Prop} (hf : PTurn prog w X f) {vs2 : List Value} {rest : List Nat} (hr : ∃ q, rest = 37 :: q) : ∀ (ps : List Pc) (l : List Nat) (wr : Writer) (T : Str) (N : Nat) (s : Shared), ps.length ≤ l.length → pcsOk X ps → KPc.Good wr T N → N + 1000 * ps.length ≤ 16777216 →
    (∀ wr' tk, KPc.Good wr' (pcsText T ps) (N + 1000 * ps.length) → wpAny (model prog w) A (forIn (l.drop ps.length) (vs2, wr', rest) f) Q E { s with toks := tk }) → wpAny (model prog w) A (forIn l (ps.flatMap Pc.vals ++ vs2, wr, ps.flatMap Pc.chars ++ rest) f) Q E s
  | [], l, wr, T, N, s, _, _, g, hN, hq => hq wr s.toks g
  | p :: r, [], _, _, _, _, hl, _, _, _, _ => by simp at hl
  | p :: r, k :: l, wr, T, N, s, hl, hok, g, hN, hq => by
    refine xE0A2 hok ?_; (try clear hok); intro h1 h2
    simp only [List.length_cons] at hl hN hq
    have hN0 : N ≤ 16777216 := by k_extra "o"
    have go : ∀ (s' : Shared) wr', (∃ tk, s' = { s with toks := tk }) → KPc.Good wr' (T ++ p.text) (N + 1000) → wpAny (model prog w) A (forIn l (r.flatMap Pc.vals ++ vs2, wr', r.flatMap Pc.chars ++ rest) f) Q E s' := fun s' wr' hs g' => by
      refine xE1A1 hs ?_; (try clear hs); intro tk z4q; obtain rfl := z4q
      refine run_pre hf hr r l wr' (T ++ p.text) (N + 1000) { s with toks := tk } (by k_extra "o") h2 g' (by k_extra "o") fun wr'' tk' g'' => ?_
      have z := hq wr'' tk' (by rw [show N + 1000 * (r.length + 1) = N + 1000 + 1000 * r.length by k_extra "o"]; exact g'')
      rwa [List.drop_succ_cons] at z
    have head : r.flatMap Pc.chars ++ rest = [] ∨ ∃ q, r.flatMap Pc.chars ++ rest = 37 :: q ∨ ∃ c l, r = .lit c :: l := by
      cases r with
      | nil => refine xE1A1 hr ?_; (try clear hr); intro q z5q; obtain rfl := z5q; exact .inr ⟨q, .inl rfl⟩
      | cons p r => cases p with
        | lit l => exact .inr ⟨[], .inr ⟨_, _, rfl⟩⟩
        | pp => exact .inr ⟨_, .inl rfl⟩
        | st x u => exact .inr ⟨_, .inl rfl⟩
        | rp x u => exact .inr ⟨_, .inl rfl⟩
        | it n u => exact .inr ⟨_, .inl rfl⟩
    rw [List.flatMap_cons, List.flatMap_cons, List.append_assoc, List.append_assoc]
    refine KPc.turn ?_
    cases p with
    | lit c =>
      refine xE0A5 h1 ?_; (try clear h1); intro a1 a2 a3 a4 a5
      refine hf.lit _ _ _ _ _ _ T N _ c _ g hN0 a1 a2 a4 ?_ fun wr' g' => go s wr' ⟨_, rfl⟩ (KPc.good_mono g' (Nat.add_le_add_left a3 _))
      rcases head with h | ⟨q, h | ⟨c, l, rfl⟩⟩
      · exact .inl h
      · exact .inr ⟨q, h⟩
      · exact a5.elim
    | pp => exact hf.pp _ _ _ _ _ _ T N _ _ g hN0 fun wr' g' => go s wr' ⟨_, rfl⟩ (KPc.good_mono g' (Nat.add_le_add_left (by decide) _))
    | st x u => exact hf.st _ _ _ _ _ _ _ T N _ _ g hN0 (wpAny_of_eq (KPc.strOf_str x u) ⟨x, u, rfl, fun wr' g' => go s wr' ⟨_, rfl⟩ (KPc.good_mono g' (Nat.add_le_add_left h1 _))⟩)
    | rp x u => exact hf.rp _ _ _ _ _ _ _ _ T N _ _ g hN0 (by rw [sizeLine_eq]; exact Nat.le_trans h1 (by decide)) fun tk wr' g' => go _ wr' ⟨tk, rfl⟩ (KPc.good_mono g' (Nat.add_le_add_left h1 _))
    | it n u => exact hf.it _ _ _ _ _ _ _ _ T N _ _ g hN0 h1.1 h1.2 fun tk wr' g' => go _ wr' ⟨tk, rfl⟩ (KPc.good_mono g' (Nat.add_le_add_left (by decide) _))
theorem mod_own {X : Str} {t : Tok} {b : Addr} {n : Nat} {vs : List Value} {v : Value} (ps : List Pc) (c : List Nat) (N : News h₀ L s.heap news) (hb : (b, tupO vs n) ∈ news)
    (hv : vs = ps.flatMap Pc.vals ++ [v]) (hX : X.cps.toList = ps.flatMap Pc.chars ++ (37 :: 115 :: c)) (hok : pcsOk X ps) (hl : ps.length ≤ 1000) (hlen : ps.length + 2 < X.length) (hc : c ≠ [] ∧ c.length ≠ X.length ∧ c.length ≤ 1000 ∧ ∀ x ∈ c, x ≠ 37)
    (hs : ∀ tk, wpAny (model prog w) A.in1 (strOf v) (fun o s' => ∃ x u, o = .str x u ∧ x.length ≤ 1000 ∧ ∀ t' k, Q (.str (pcsText Str.empty ps ++ x ++ ⟨c.toArray⟩) t') { s' with toks := k }) E { s with toks := tk }) :
    wpAny (model prog w) A (binaryOp .Mod (.str X t) (.ref b)) Q E s := by
  have ht : IsTup s.heap b vs.toArray := N.isTup hb
  have hT : s.TypeIs (.ref b) "tuple" := by
    refine xE1A3 ht ?_; (try clear ht); intro o ho hc _
    exact ⟨o, ho, hc⟩
  refine KPt.bin_left (T := "str") (U := "tuple") (op := .Mod) (by decide) (typeIs_str s X t) hT F.fills_str_mod KPt.fills_tuple F.slot_str_mod ?_
  refine wpAny_call (codeAny_call_builtin F.slot_str_mod.plain F.entry_str_mod (F.slot_str_mod.check _ _ _ _ _ _ _ _ (typeIs_str _ _ _) (F.args_str_mod_2 _ _) ?_))
  rw [KPt.entry_is_r]
  refine pf_turns prog w X t b _ _ s vs _ ht fun f wr hf g => ?_
  rw [hX, hv]
  refine run_pre hf ⟨_, rfl⟩ ps _ wr _ 0 s (by rw [List.length_range']; k_extra "o") hok g (by k_extra "o") fun wr' tk g' => ?_
  rw [List.drop_range', Nat.mul_one, show X.length - ps.length = (X.length - ps.length - 3) + 1 + 1 + 1 by k_extra "o", List.range'_succ, List.range'_succ, List.range'_succ]
  refine KPc.turn (hf.st _ _ _ _ _ _ _ _ _ _ _ g' (by k_extra "o") (wpAny_mono (hs tk) ?_ fun _ _ y => y))
  intro o s' z6q; refine xE2A3 z6q ?_; (try clear z6q); intro x u z7q hx hq; obtain rfl := z7q
  refine (yE2A2 x u rfl (fun wr2 g2 => KPc.turn ?_))
  refine xE0A4 hc ?_; (try clear hc); intro c1 c2 c3 c4
  rw [show c = c ++ [] from (List.append_nil c).symm]
  refine hf.lit _ _ _ _ _ _ _ _ _ c [] g2 (by k_extra "o") c1 c2 c4 (.inl rfl) fun wr3 g3 => KPc.turn ?_
  refine hf.nil _ _ _ _ _ _ _ _ _ g3 (by k_extra "o") ?_
  refine (yE0A2 rfl (yE2A3 _ _ g3 (by k_extra "o") (fun t k => ⟨(fun e => nomatch e), ?_⟩)))
  exact hq t k
theorem mod_F9 {x : PR} {v1 v2 : Value} {st x0 : Str} {n1 : Int} {t t0 t1 : Tok} {b : Addr} {n : Nat} (B : Below A₀ base outer h₀) (F : Fr h₀ L s.heap m) (X : (hd.heap_1 w.params).In h₀) (N : News h₀ L s.heap news) (T : Top hdV LOOSE mean mg mb h₀) (hfr : A.frames = some (envOf cn cs L a ccd :: outer)) (hh : A.handled = none) (hdp : A.depth ≤ 400) (hg : A.guards = some []) (hu : A.units ≤ 390) (hk : cs.kind = .function)
    (hb : (b, tupO [.str x0 t0, .int n1 t1, .ref x.p] n) ∈ news) (h1 : (x.p, instObj 100 x.dp) ∈ news) (h2 : (x.dp, prodD w x v1 v2 st) ∈ news) (hst : st.length ≤ 1000) (hx0 : x0.length ≤ 1000) (hn1 : 0 ≤ n1 ∧ n1 < 10 ^ 10)
    (h : ∀ y t' h' tk', Fr h₀ L h' m → News h₀ L h' news → y.length ≤ 4000 → Q (.str y t') { s with heap := h', toks := tk' }) : wpAny (model prog w) A (binaryOp .Mod (.str (Str.ofString "%s:%d: Duplicate rule %s. ") t) (.ref b)) Q E s := by
  refine mod_own [.st x0 t0, .lit (sL ":"), .it n1 t1, .lit (sL ": Duplicate rule ")] (sL ". ") N hb rfl ?_ ⟨hx0, ⟨by decide +kernel, by decide +kernel, by decide +kernel, by decide +kernel, trivial⟩, hn1, ⟨by decide +kernel, by decide +kernel, by decide +kernel, by decide +kernel, trivial⟩, trivial⟩ (Nat.le_of_ble_eq_true rfl) ?_ ⟨by decide +kernel, by decide +kernel, by decide +kernel, by decide +kernel⟩ fun tk => ?_
  · simp only [List.flatMap_cons, List.flatMap_nil, Pc.chars]
    decide +kernel
  · simp only [List.length_cons, List.length_nil]
    decide +kernel
  · refine strOf_rule (s := { s with toks := tk }) B F X N T hfr hh hdp hg (by rw [units_in1]; k_extra "o") hk h1 h2 fun u h' tk' F' N' => ⟨st, u, rfl, hst, fun t' k => h _ t' h' k F' N' ?_⟩
    have e1 : (Str.ofString (toString n1)).length ≤ 10 := toString_length_le hn1.1 (by decide) hn1.2
    have e2 : (⟨(sL ":").toArray⟩ : Str).length = 1 := by decide +kernel
    have e3 : (⟨(sL ": Duplicate rule ").toArray⟩ : Str).length = 17 := by decide +kernel
    have e4 : (⟨(sL ". ").toArray⟩ : Str).length = 2 := by decide +kernel
    have e5 : Str.empty.length = 0 := rfl
    simp only [pcsText, Pc.text, Str.length_append, e2, e3, e4, e5]
    k_extra "o"
end

noncomputable abbrev H3 : List Str := [S_ "S", S_ "A", S_ "B"]
noncomputable abbrev N7 : List Str := [S_ "a", S_ "A", S_ "S", S_ ".", S_ "B", S_ "D", S_ "error"]
noncomputable def quoted : List Nat → Bool → List Nat → List (List Nat)
  | [], _, _ => []
  | c :: r, q, acc => if c = 39 then (if q then acc.reverse :: quoted r false [] else quoted r true []) else quoted r q (if q then c :: acc else acc)
theorem shown_dec {l : List Str} (h3 : l.length ≤ 3) (h7 : ∀ x ∈ l, x ∈ N7) : quoted (PyData.list (l.map PyData.str)).shown.cps.toList false [] = l.map (·.cps.toList) := by
  have e0 : quoted (PyData.list (([] : List Str).map PyData.str)).shown.cps.toList false [] = ([] : List Str).map (·.cps.toList) := by decide +kernel
  have e1 : ∀ a ∈ N7, quoted (PyData.list ([a].map PyData.str)).shown.cps.toList false [] = [a].map (·.cps.toList) := by decide +kernel
  have e2 : ∀ a ∈ N7, ∀ b ∈ N7, quoted (PyData.list ([a, b].map PyData.str)).shown.cps.toList false [] = [a, b].map (·.cps.toList) := by decide +kernel
  have e3 : ∀ a ∈ N7, ∀ b ∈ N7, ∀ c ∈ N7, quoted (PyData.list ([a, b, c].map PyData.str)).shown.cps.toList false [] = [a, b, c].map (·.cps.toList) := by decide +kernel
  match l, h3, h7 with
  | [], _, _ => exact e0
  | [a], _, h => exact e1 a (h a (by simp))
  | [a, b], _, h => exact e2 a (h a (by simp)) b (h b (by simp))
  | [a, b, c], _, h => exact e3 a (h a (by simp)) b (h b (by simp)) c (h c (by simp))
  | _ :: _ :: _ :: _ :: _, h, _ => simp at h
theorem cps_inj : ∀ {l l' : List Str}, l.map (·.cps.toList) = l'.map (·.cps.toList) → l = l'
  | [], [], _ => rfl
  | [], _ :: _, h => by cases h
  | _ :: _, [], h => by cases h
  | a :: r, b :: r', h => by
    simp only [List.map_cons, List.cons.injEq] at h
    rw [cps_inj h.2, Str.ext' (Array.toList_inj.mp h.1)]
theorem rowT_cps (h : Str) (l : List Str) : (rowT h l).cps.toList = h.cps.toList ++ ((Str.ofString " -> ").cps.toList ++ (PyData.list (l.map PyData.str)).shown.cps.toList) := by
  unfold rowT
  simp only [Str.cps_append, Array.toList_append, List.append_assoc]
  rfl
theorem rowT_inj {h h' : Str} {l l' : List Str} (hh : h ∈ H3) (hh' : h' ∈ H3) (a3 : l.length ≤ 3) (a7 : ∀ x ∈ l, x ∈ N7) (b3 : l'.length ≤ 3) (b7 : ∀ x ∈ l', x ∈ N7) (e : rowT h l = rowT h' l') : h = h' ∧ l = l' := by
  have e := congrArg (fun x : Str => x.cps.toList) e
  rw [rowT_cps, rowT_cps] at e
  have hlen : h.cps.toList.length = h'.cps.toList.length := by
    simp only [H3, List.mem_cons, List.not_mem_nil, or_false] at hh hh'
    rcases hh with rfl | rfl | rfl <;> rcases hh' with rfl | rfl | rfl <;> decide +kernel
  refine xE0A2 (List.append_inj e hlen) fun e1 e2 => ?_
  refine ⟨Str.ext' (Array.toList_inj.mp e1), cps_inj ?_⟩
  have e3 := List.append_cancel_left e2
  rw [← shown_dec a3 a7, ← shown_dec b3 b7, e3]
structure RW where
  ra : Addr
  ta : Addr
  name : Str
  its : List (Str × Tok)
  tn : Tok
  n1 : Nat
  n2 : Nat
noncomputable abbrev RW.syms (r : RW) : List Str := r.its.map (·.1)
noncomputable def rowsL : List RW → Led
  | [] => []
  | r :: q => (r.ra, tupO [.str r.name r.tn, .ref r.ta] r.n1) :: (r.ta, tupO (strV r.its) r.n2) :: rowsL q
theorem rowsL_append : ∀ a b, rowsL (a ++ b) = rowsL a ++ rowsL b
  | [], _ => rfl
  | r :: q, b => by simp [rowsL, rowsL_append q b]
theorem row_in {news : Led} (r : RW) (h1 : (r.ra, tupO [.str r.name r.tn, .ref r.ta] r.n1) ∈ news) (h2 : (r.ta, tupO (strV r.its) r.n2) ∈ news) : DatIn news (.ref r.ra) (rowD r.name r.syms) := by
  refine .tuple h1 (.cons (.str _ _) (.cons (.tuple h2 ?_) .nil))
  have := datAll_strV news r.its
  rwa [show (r.its.map fun p => Dat.str p.1) = r.syms.map Dat.str by simp] at this
theorem rows_all {news : Led} : ∀ (rws : List RW), (∀ q ∈ rowsL rws, q ∈ news) → DatAll news (rws.map fun r => .ref r.ra) (rws.map fun r => rowD r.name r.syms)
  | [], _ => .nil
  | r :: q, h => .cons (row_in r (h _ (.head _)) (h _ (.tail _ (.head _)))) (rows_all q fun x hx => h x (.tail _ (.tail _ hx)))
theorem rowD_inj {h h' : Str} {l l' : List Str} (e : rowD h l = rowD h' l') : h = h' ∧ l = l' := by
  unfold rowD at e
  simp only [Dat.tuple.injEq, List.cons.injEq, Dat.str.injEq, and_true] at e
  refine ⟨e.1, ?_⟩
  have : ∀ {l l' : List Str}, l.map Dat.str = l'.map Dat.str → l = l' := by
    intro l
    induction l with
    | nil => intro l' h; cases l' <;> first | rfl | cases h
    | cons a r ih =>
      intro l' h
      cases l' with
      | nil => cases h
      | cons b r' =>
        simp only [List.map_cons, List.cons.injEq, Dat.str.injEq] at h
        rw [h.1, ih h.2]
  exact this e.2

section
variable {prog : Program} {w : World} {A : Around} {E : Value → Shared → Prop} {s : Shared} {h₀ : Heap} {L d : Addr} {o : Obj} {news : Led} {K : Type} [DecidableEq K] {knd : PySem.KeyKind prog w K} {kvs : List (K × Value)} {key : Value} {kx : K} {Q : Value → Shared → Prop}
theorem getItem_missing (N : News h₀ L s.heap news) (hp : (d, o) ∈ news) (hd : o.IsDictOf knd kvs) (lo : (d == sysModules) = false) (hh : A.handled = none) (hkey : knd.is kx key = true) (hl : valueAt kvs kx = none)
    (h : ∀ h' e, Heap.NewExc s.heap h' e "KeyError" → E (.ref e) { s with heap := h', toks := s.toks + 1 }) : wpAny (model prog w) A (getItem (.ref d) key) Q E s :=
  wpAny_getItem_missing_of hkey lo hh (kda_dict N hp hd).mapOf hl h
end
theorem valueAt_mem {kvs : List (Str × Value)} {k : Str} {v : Value} (h : valueAt kvs k = some v) : ∃ e ∈ kvs, e.2 = v := by
  unfold valueAt at h
  refine xE1A2 (Option.map_eq_some_iff.mp h) fun e he z1q => ?_; obtain rfl := z1q
  exact ⟨e, List.mem_of_find?_eq_some he, rfl⟩
section
open Builtin.Str
noncomputable def Ord (x : Str) : Prop := isId x = true ∧ x.cps.all (· < 128) = true ∧ x.length ≤ 16 ∧ 0 < x.length ∧ (!(Builtin.Str.occurrences (Str.ofString "'\"") (Txt.item x 0) 0 (Str.ofString "'\"").length 1).isEmpty) = false ∧ nrm x = x ∧ x ≠ S_ "'ab'"
theorem sym10 {x : Str} (h : x ∈ S10) : Ord x ∨ x = S_ "'.'" ∨ x = S_ "'ab'" ∨ x = S_ "%prec" := by
  simp only [S10, List.mem_cons, List.not_mem_nil, or_false] at h
  focus (refine xO10 (h) ?_ ?_ ?_ ?_ ?_ ?_ ?_ ?_ ?_ ?_; (try clear h); intro w1q; obtain rfl := w1q; rotate_left 1; (try clear h); intro w2q; obtain rfl := w2q; rotate_left 1; (try clear h); intro w3q; obtain rfl := w3q; rotate_left 1; (try clear h); intro h; rotate_left 1; (try clear h); intro w4q; obtain rfl := w4q; rotate_left 1; (try clear h); intro w5q; obtain rfl := w5q; rotate_left 1; (try clear h); intro w6q; obtain rfl := w6q; rotate_left 1; (try clear h); intro h; rotate_left 1; (try clear h); intro h; rotate_left 1; (try clear h); intro w7q; obtain rfl := w7q; rotate_left 1)
  · exact .inl ⟨isId_a, by decide +kernel, by decide +kernel, by decide +kernel, by decide +kernel, by decide +kernel, by decide +kernel⟩
  · exact .inl ⟨isId_A, by decide +kernel, by decide +kernel, by decide +kernel, by decide +kernel, by decide +kernel, by decide +kernel⟩
  · exact .inl ⟨isId_S, by decide +kernel, by decide +kernel, by decide +kernel, by decide +kernel, by decide +kernel, by decide +kernel⟩
  · exact .inr (.inl h)
  · exact .inl ⟨isId_B, by decide +kernel, by decide +kernel, by decide +kernel, by decide +kernel, by decide +kernel, by decide +kernel⟩
  · exact .inl ⟨isId_D, by decide +kernel, by decide +kernel, by decide +kernel, by decide +kernel, by decide +kernel, by decide +kernel⟩
  · exact .inl ⟨isId_error, by decide +kernel, by decide +kernel, by decide +kernel, by decide +kernel, by decide +kernel, by decide +kernel⟩
  · exact .inr (.inr (.inl h))
  · exact .inr (.inr (.inr h))
  · exact .inl ⟨isId_b, by decide +kernel, by decide +kernel, by decide +kernel, by decide +kernel, by decide +kernel, by decide +kernel⟩
noncomputable def EnJ (prog : Program) (w : World) (G : GA) (B : Nat) (M : GM) (sy pt : Addr) (npt : Nat) (hd' : Str) (th : Tok) (syms : List (Str × Tok)) (pco : Obj) (pv1 pv2 : Value) (R : Led) (i : Nat) (m : Str → Option Value) (vs : List Value) (k : Nat) (nws : Led) : Prop := (∃ tf tl, OvOK m [(S_ "self", some (.ref G.g)), (S_ "prodname", some (.str hd' th)), (S_ "syms", some (.ref sy)), (S_ "func", some .none), (S_ "file", some (.str (Str.ofString "") tf)), (S_ "line", some (.int 0 tl))]) ∧ ∃ (sy' : List (Str × Tok)) (te' : DL) (teo' : Obj), vs = strV sy' ∧ sy'.map (·.1) = ((syms.map (·.1)).take i).map nrm ++ (syms.map (·.1)).drop i ∧ teo'.IsDictOf (PySem.strKind prog w) (dlKV te') ∧ TeOK te' ∧ szL B te' ∧ (∀ x ∈ (syms.map (·.1)).take i, x ≠ S_ "'ab'") ∧ nws = (sy, listOf (strV sy').toArray k) :: stL w G { M with te := te', teo := teo' } pco pt [pv1, pv2] npt R ∧ Sep nws
theorem EnJ.mk {prog : Program} {w : World} {G : GA} {B : Nat} {M : GM} {sy pt : Addr} {npt : Nat} {hd' : Str} {th : Tok} {syms : List (Str × Tok)} {pco : Obj} {pv1 pv2 : Value} {R : Led} {i : Nat} {m : Str → Option Value} {vs : List Value} {k : Nat} {nws : Led} {tf tl : Tok} {sy' : List (Str × Tok)} {te' : DL} {teo' : Obj} (h : OvOK m [(S_ "self", some (.ref G.g)), (S_ "prodname", some (.str hd' th)), (S_ "syms", some (.ref sy)), (S_ "func", some .none), (S_ "file", some (.str (Str.ofString "") tf)), (S_ "line", some (.int 0 tl))]) (h0 : vs = strV sy') (h1 : sy'.map (·.1) = ((syms.map (·.1)).take i).map nrm ++ (syms.map (·.1)).drop i) (h2 : teo'.IsDictOf (PySem.strKind prog w) (dlKV te')) (h3 : TeOK te') (h4 : szL B te') (h5 : (∀ x ∈ (syms.map (·.1)).take i, x ≠ S_ "'ab'")) (h6 : nws = (sy, listOf (strV sy').toArray k) :: stL w G { M with te := te', teo := teo' } pco pt [pv1, pv2] npt R) (h7 : Sep nws) : EnJ prog w G B M sy pt npt hd' th syms pco pv1 pv2 R i m vs k nws := ⟨⟨tf, tl, h⟩, sy', te', teo', h0, h1, h2, h3, h4, h5, h6, h7⟩
noncomputable def CuJ (prog : Program) (w : World) (G : GA) (M : GM) (sy pt : Addr) (npt : Nat) (hd' : Str) (th : Tok) (pco : Obj) (pv1 pv2 : Value) (te' : DL) (teo' : Obj) (TAIL : Led) (base tail : List Str) (tf tl : Tok) (m : Str → Option Value) (nws : Led) : Prop := (∃ v, OvOK m [(S_ "self", some (.ref G.g)), (S_ "prodname", some (.str hd' th)), (S_ "syms", some (.ref sy)), (S_ "func", some .none), (S_ "file", some (.str (Str.ofString "") tf)), (S_ "line", some (.int 0 tl)), (S_ "prodprec", some v)]) ∧ ∃ its upo' n', nws = (sy, listOf (strV its).toArray n') :: gmL w G { M with te := te', teo := teo', upo := upo' } ((G.pc, pco) :: (pt, tupO [pv1, pv2] npt) :: TAIL) ∧ its.map (·.1) = base.map nrm ∧ UpOK prog w upo' ∧ (tail = [] ∨ tail = [S_ "%prec", S_ "a"])
theorem CuJ.mk {prog : Program} {w : World} {G : GA} {M : GM} {sy pt : Addr} {npt : Nat} {hd' : Str} {th : Tok} {pco : Obj} {pv1 pv2 : Value} {te' : DL} {teo' : Obj} {TAIL : Led} {base tail : List Str} {tf tl : Tok} {m : Str → Option Value} {nws : Led} {v : Value} {its : List (Str × Tok)} {upo' : Obj} {n' : Nat} (h : OvOK m [(S_ "self", some (.ref G.g)), (S_ "prodname", some (.str hd' th)), (S_ "syms", some (.ref sy)), (S_ "func", some .none), (S_ "file", some (.str (Str.ofString "") tf)), (S_ "line", some (.int 0 tl)), (S_ "prodprec", some v)]) (h0 : nws = (sy, listOf (strV its).toArray n') :: gmL w G { M with te := te', teo := teo', upo := upo' } ((G.pc, pco) :: (pt, tupO [pv1, pv2] npt) :: TAIL)) (h1 : its.map (·.1) = base.map nrm) (h2 : UpOK prog w upo') (h3 : (tail = [] ∨ tail = [S_ "%prec", S_ "a"])) : CuJ prog w G M sy pt npt hd' th pco pv1 pv2 te' teo' TAIL base tail tf tl m nws := ⟨⟨v, h⟩, its, upo', n', h0, h1, h2, h3⟩
noncomputable def CnJ (prog : Program) (w : World) (G : GA) (B : Nat) (M : GM) (sy pt : Addr) (npt : Nat) (hd' : Str) (th : Tok) (pco : Obj) (pv1 pv2 : Value) (R : Led) (te' : DL) (teo' upo' : Obj) (its : List (Str × Tok)) (n' : Nat) (tf tl : Tok) (v : Value) (row : Str) (np : Nat) (m : Str → Option Value) (nws : Led) : Prop := (∃ tm tp, OvOK m [(S_ "self", some (.ref G.g)), (S_ "prodname", some (.str hd' th)), (S_ "syms", some (.ref sy)), (S_ "func", some .none), (S_ "file", some (.str (Str.ofString "") tf)), (S_ "line", some (.int 0 tl)), (S_ "prodprec", some v), (S_ "map", some (.str row tm)), (S_ "pnumber", some (.int (np : Int) tp))]) ∧ ∃ nt' nto', nws = (sy, listOf (strV its).toArray n') :: stL w G { M with te := te', teo := teo', upo := upo', nt := nt', nto := nto' } pco pt [pv1, pv2] npt R ∧ nto'.IsDictOf (PySem.strKind prog w) (dlKV nt') ∧ szL B nt' ∧ nt'.length ≤ M.nt.length + 1 ∧ (hd' ∈ nt'.map (·.1)) ∧ (∀ k ∈ M.nt.map (·.1), k ∈ nt'.map (·.1)) ∧ Sep nws
theorem CnJ.mk {prog : Program} {w : World} {G : GA} {B : Nat} {M : GM} {sy pt : Addr} {npt : Nat} {hd' : Str} {th : Tok} {pco : Obj} {pv1 pv2 : Value} {R : Led} {te' : DL} {teo' upo' : Obj} {its : List (Str × Tok)} {n' : Nat} {tf tl : Tok} {v : Value} {row : Str} {np : Nat} {m : Str → Option Value} {nws : Led} {tm tp : Tok} {nt' : DL} {nto' : Obj} (h : OvOK m [(S_ "self", some (.ref G.g)), (S_ "prodname", some (.str hd' th)), (S_ "syms", some (.ref sy)), (S_ "func", some .none), (S_ "file", some (.str (Str.ofString "") tf)), (S_ "line", some (.int 0 tl)), (S_ "prodprec", some v), (S_ "map", some (.str row tm)), (S_ "pnumber", some (.int (np : Int) tp))]) (h0 : nws = (sy, listOf (strV its).toArray n') :: stL w G { M with te := te', teo := teo', upo := upo', nt := nt', nto := nto' } pco pt [pv1, pv2] npt R) (h1 : nto'.IsDictOf (PySem.strKind prog w) (dlKV nt')) (h2 : szL B nt') (h3 : nt'.length ≤ M.nt.length + 1) (h4 : (hd' ∈ nt'.map (·.1))) (h5 : (∀ k ∈ M.nt.map (·.1), k ∈ nt'.map (·.1))) (h6 : Sep nws) : CnJ prog w G B M sy pt npt hd' th pco pv1 pv2 R te' teo' upo' its n' tf tl v row np m nws := ⟨⟨tm, tp, h⟩, nt', nto', h0, h1, h2, h3, h4, h5, h6⟩
noncomputable def PnJ (prog : Program) (w : World) (G : GA) (B : Nat) (M : GM) (sy pt : Addr) (npt : Nat) (hd' : Str) (th : Tok) (pco : Obj) (pv1 pv2 : Value) (R : Led) (teo' upo' : Obj) (its : List (Str × Tok)) (n' : Nat) (tf tl : Tok) (v : Value) (row : Str) (np : Nat) (i : Nat) (m : Str → Option Value) (nws : Led) : Prop := (∃ tm tp, OvOK m [(S_ "self", some (.ref G.g)), (S_ "prodname", some (.str hd' th)), (S_ "syms", some (.ref sy)), (S_ "func", some .none), (S_ "file", some (.str (Str.ofString "") tf)), (S_ "line", some (.int 0 tl)), (S_ "prodprec", some v), (S_ "map", some (.str row tm)), (S_ "pnumber", some (.int (np : Int) tp))]) ∧ ∃ te2 nt2 nto2, nws = (sy, listOf (strV its).toArray n') :: stL w G { M with te := te2, teo := teo', upo := upo', nt := nt2, nto := nto2 } pco pt [pv1, pv2] npt R ∧ TeOK te2 ∧ teo'.IsDictOf (PySem.strKind prog w) (dlKV te2) ∧ szL (B + i) te2 ∧ nto2.IsDictOf (PySem.strKind prog w) (dlKV nt2) ∧ szL (B + i) nt2 ∧ nt2.length ≤ M.nt.length + 1 + i ∧ (hd' ∈ nt2.map (·.1)) ∧ (∀ k ∈ M.nt.map (·.1), k ∈ nt2.map (·.1)) ∧ Sep nws
theorem PnJ.mk {prog : Program} {w : World} {G : GA} {B : Nat} {M : GM} {sy pt : Addr} {npt : Nat} {hd' : Str} {th : Tok} {pco : Obj} {pv1 pv2 : Value} {R : Led} {teo' upo' : Obj} {its : List (Str × Tok)} {n' : Nat} {tf tl : Tok} {v : Value} {row : Str} {np : Nat} {i : Nat} {m : Str → Option Value} {nws : Led} {tm tp : Tok} {te2 nt2 : DL} {nto2 : Obj} (h : OvOK m [(S_ "self", some (.ref G.g)), (S_ "prodname", some (.str hd' th)), (S_ "syms", some (.ref sy)), (S_ "func", some .none), (S_ "file", some (.str (Str.ofString "") tf)), (S_ "line", some (.int 0 tl)), (S_ "prodprec", some v), (S_ "map", some (.str row tm)), (S_ "pnumber", some (.int (np : Int) tp))]) (h0 : nws = (sy, listOf (strV its).toArray n') :: stL w G { M with te := te2, teo := teo', upo := upo', nt := nt2, nto := nto2 } pco pt [pv1, pv2] npt R) (h1 : TeOK te2) (h2 : teo'.IsDictOf (PySem.strKind prog w) (dlKV te2)) (h3 : szL (B + i) te2) (h4 : nto2.IsDictOf (PySem.strKind prog w) (dlKV nt2)) (h5 : szL (B + i) nt2) (h6 : nt2.length ≤ M.nt.length + 1 + i) (h7 : (hd' ∈ nt2.map (·.1))) (h8 : (∀ k ∈ M.nt.map (·.1), k ∈ nt2.map (·.1))) (h9 : Sep nws) : PnJ prog w G B M sy pt npt hd' th pco pv1 pv2 R teo' upo' its n' tf tl v row np i m nws := ⟨⟨tm, tp, h⟩, te2, nt2, nto2, h0, h1, h2, h3, h4, h5, h6, h7, h8, h9⟩
set_option maxHeartbeats 20000000 in
theorem addp_spec (prog : Program) (w : World) (G : GA) (B : Nat) (M : GM) (sy pt : Addr) (npt n2 : Nat) (hd' : Str) (th : Tok) (syms : List (Str × Tok)) (pco : Obj) (pv1 pv2 : Value) (R : Led)
    (base tail : List Str) (hbt : syms.map (·.1) = base ++ tail) (hb3 : base.length ≤ 3) (hb8 : ∀ x ∈ base, x ∈ S8) (ht4 : Tl4 tail) (hte : (valueAt (dlKV M.te) hd').isSome = false) (he : (hd' == Str.ofString "error") = false) (hid : isId hd' = true) (had : hd'.cps.all (· < 128) = true) (hdl : hd'.length ≤ 16) (hd0 : 0 < hd'.length) (hrl : (reprText hd').length ≤ 1000)
    (hM : MOK prog w B M) (hB : B ≤ 500) (loT : (G.te == sysModules) = false) (loN : (G.nt == sysModules) = false) (loP : (G.pn == sysModules) = false) (loM : (G.pm == sysModules) = false) (loC : (G.pc == sysModules) = false)
    (hpc : pco.IsDictOf (PySem.strKind prog w) [(Str.ofString "a", .ref pt)])
    (hpm : ∀ e ∈ M.pm, ∃ (x : PR) (v1 v2 : Value), e.2 = .ref x.p ∧ (x.p, instObj 100 x.dp) ∈ R ∧ (x.dp, prodD w x v1 v2 (stOf x)) ∈ R ∧ (stOf x).length ≤ 1000)
    (hsep : Sep ((sy, listOf (strV syms).toArray n2) :: stL w G M pco pt [pv1, pv2] npt R)) :
    DoesS prog w 330 110 201 [.ref G.g, .str hd' th, .ref sy] (.ref 156) ((sy, listOf (strV syms).toArray n2) :: stL w G M pco pt [pv1, pv2] npt R) (fun r nws => AddOK prog w G B M pco pt [pv1, pv2] npt R hd' base tail nws) (fun nws => AddE prog w G B M pco pt [pv1, pv2] npt R nws ∧ BadRow M hd' base tail) := by
  k_with_none
  k_with "o" => (first | (with_reducible first | assumption | (show (_ : Nat) ≤ _; first | exact Nat.le_of_ble_eq_true rfl | exact Nat.zero_le _ | exact Nat.le_of_lt ‹_› | exact Nat.le_of_eq ‹_› | exact oM ‹_› | exact oL ‹_› | exact oJ | exact oK | exact qE ‹_› | exact qG ‹_› | exact oS ‹_› rfl | exact oSE ‹_› ‹_› rfl | exact oA ‹_› rfl | exact oB ‹_› rfl | exact oG ‹_› rfl | exact oE ‹_› ‹_› rfl | exact oF ‹_› ‹_› rfl | exact oH ‹_› ‹_› rfl | exact oI ‹_› ‹_› rfl | exact oQ ‹_› ‹_› rfl | exact oQ3 ‹_› ‹_› ‹_› rfl | exact xE ‹_› ‹_› rfl | exact xA ‹_› | exact xB ‹_› | exact xH ‹_› | exact xF ‹_› | exact xG ‹_› | exact xL ‹_› | exact xC ‹_› ‹_› ‹_› ‹_› rfl | exact xD ‹_› ‹_› ‹_› ‹_› ‹_› rfl | exact xK ‹_› rfl | exact xJ ‹_› ‹_› rfl | exact xI ‹_› ‹_› ‹_› rfl | exact wA ‹_› ‹_› ‹_› rfl | exact wB ‹_› ‹_› ‹_› rfl | exact yC ‹_› ‹_› ‹_› rfl | exact yE ‹_› | exact uB ‹_› ‹_› rfl | exact uF ‹_› | exact uM | exact uN | exact uO | exact uU ‹_› | exact uW ‹_› ‹_› | exact uX ‹_› ‹_› ‹_› rfl | exact uZ ‹_› ‹_› ‹_› rfl | exact vC ‹_› ‹_› rfl | exact vD ‹_› | exact vI | exact vJ | exact vL ‹_› | exact vN ‹_› ‹_› ‹_› rfl | exact vO ‹_› ‹_› ‹_› ‹_› ‹_› rfl | exact vP ‹_› ‹_› ‹_› rfl | exact vQ ‹_› ‹_› | exact vR ‹_› ‹_› ‹_› rfl | exact vT | exact Nat.min_le_left _ _ | exact Nat.le_trans ‹_› ‹_› | exact Nat.le_add_left _ _ | exact wC ‹_› ‹_› rfl | exact wI ‹_› ‹_› rfl | exact wG ‹_› ‹_› ‹_› rfl | exact wF ‹_› ‹_› ‹_›) | (show (_ : Nat) < _; first | exact Nat.le_of_ble_eq_true rfl | exact Nat.lt_succ_self _ | exact pA ‹_› rfl | exact pB ‹_› rfl | exact pG ‹_› rfl | exact pE ‹_› ‹_› rfl | exact pF ‹_› ‹_› rfl | exact pH ‹_› ‹_› rfl | exact pI ‹_› ‹_› rfl | exact pS ‹_› rfl | exact pSE ‹_› ‹_› rfl | exact qA ‹_› | exact qD ‹_› | exact qB ‹_› ‹_› | exact qC ‹_› | exact Nat.lt_of_le_of_ne ‹_› ‹_› | exact uC ‹_› ‹_› | exact uD ‹_› | exact uE ‹_› | exact uY ‹_› ‹_› | exact vG ‹_› ‹_› rfl | exact vH ‹_› | exact vK ‹_› ‹_› | exact qF ‹_› | exact zA ‹_› ‹_› | exact wK ‹_› | exact wH ‹_› rfl | exact wD ‹_› ‹_› ‹_› rfl | exact wE ‹_› ‹_› ‹_›) | (show (_ : Nat) = _; first | exact yA ‹_› | exact yB ‹_› | exact yD ‹_› | exact yS ‹_› | exact Nat.sub_add_comm ‹_› | exact Nat.add_sub_cancel' ‹_› | exact uV ‹_› | exact uJ | exact uK | exact uL | exact uP | exact uQ | exact uR | exact vE ‹_› ‹_› | exact zB | exact oZ) | (show ((_ : Nat) : Int) < 2 ^ 63; first | exact iA ‹_› rfl | exact iB ‹_› rfl | exact iE ‹_› ‹_› rfl | exact iI ‹_› ‹_› rfl) | (show ((_ : Nat) : Int) < 2 ^ 62; first | exact jA ‹_› rfl | exact jB ‹_› rfl | exact jE ‹_› ‹_› rfl) | (show ((_ : Nat) : Int) + 1 < 2 ^ 63; first | exact rA ‹_› rfl | exact rE ‹_› ‹_› rfl | exact rF ‹_› ‹_› rfl) | exact rT ‹_› ‹_› rfl | exact rM | exact rN | exact Int.natCast_nonneg _ | exact iM | exact jM | exact iP ‹_› | exact uS ‹_› | exact uT ‹_› | exact vF ‹_› | exact vM ‹_› | exact vS ‹_› | exact yF ‹_› | exact yT ‹_› | exact iS | exact iZ | exact iD ‹_› | exact iV) | omega)
  k_with "a" => (with_reducible assumption)
  k_with "kxs_still" => (((try dsimp only); (try (refine execs_gen ?_; intro zqt9)); (try k_fold); (try k_extra "bits_by_make")))
  k_with "bits_by_make" => ((try (rename Fr _ _ _ _ => zqF9; (fail_if_success (refine onlyM zqF9 ?_; goal_lacks ite List.lookup)); refine letF zqF9 ?_; clear zqF9; intro zqm9 zqF9)))
  k_with "cell_call" => (first | k_extra "a" | (refine List.mem_cons_of_mem _ ?_; k_extra "cell_call"))
  k_with "tb_start" => ((refine neN ?_; (try dsimp only); first | exact NeA.to (by k_extra "a") | exact NeA.to' (by k_extra "a") | (refine' ne_pos (by k_extra "a") (by k_extra "po")  ) | (refine' ne_pos' (by k_extra "a") (by k_extra "po")  ) | (refine' lt_pos (by k_extra "a") (by k_extra "po")  ) | (refine' lt_pos' (by k_extra "a") (by k_extra "po")  ) | exact Nat.ne_of_lt (by k_extra "a") | exact Nat.ne_of_gt (by k_extra "a") | (refine' lt_up (by k_extra "a") (by k_extra "a") (by k_extra "po")  ) | (refine' lt_up' (by k_extra "a") (by k_extra "a") (by k_extra "po")  ) | omega))
  k_with "tb_rel" => (first | (tbn_letter; first | k_extra "a" | (refine' lt_suf (by k_extra "a") (by k_extra "su")  ) | (refine' ne_suf (by k_extra "a") (by k_extra "su")  ) | (refine' lt_sufU (by k_extra "a") (by k_extra "a") (by k_extra "su")  ) | (refine tbn_neAll ?_; tbn_find) | (refine' tbn_neAll (allLt_up (by tbn_find) (by k_extra "o"))  )) | exact List.forall_mem_nil _ | (refine' lt_suf (by k_extra "a") (by exact Suf.refl)  ) | (refine' ne_suf (by k_extra "a") (by exact Suf.refl)  ) | exact lt_same (by k_extra "a") (by rfl) | (refine List.forall_mem_cons.mpr ⟨?_, ?_⟩; (focus k_extra "tb_start"); k_extra "tb_rel"))
  k_with "k_upd" => (first | (refine Upd.head ?_; k_extra "tb_rel") | (apply Upd.tail; (focus k_extra "tb_start"); k_upd))
  k_with "k_updF" => (first | (refine UpdF.head ?_; k_extra "tb_rel") | (apply UpdF.tail; (focus k_extra "tb_start"); k_updF))
  k_with "execs cons" => ((k_extra "kxs_still"; refine wpAny_execs_cons ?_))
  k_with "po" => (first | exact PosA.head | (refine PosA.tail ?_; k_extra "po"))
  k_with "su" => (first | exact Suf.refl | (refine Suf.tail ?_; k_extra "su"))
  k_with "call builtin:len" => ((k_here; (with_reducible show wpAny _ _ (call (Value.builtin _) [Value.ref _]) _ _ _); k_dflt (refine' len_tup_led (by k_asm) (by k_mem) (by first | exact dotV_length (by assumption) | exact strV_length _) (by k_extra "o") ?_; k_whole)))
  k_with "enter0" => (k_dflt (refine' code0 (by k_asm) (by k_asm) (by k_asm) (by k_asm) (by k_asm) (by exact rfl) (by exact rfl) (by assumption) (by k_is) (by k_is) (by k_room) (by first | exact BindsTo.of_eq rfl | exact binds_K (by k_in) rfl (by k_is) rfl rfl rfl | fail "enter0") (by exact locs rfl) ?_ (by exact rfl) (by exact rfl) (by exact rfl) (by decide); k_whole; intro zqg' zqL' zqh' zqFG' zqF' zqN' zqB' zqX' zqT' zqD'; (try dsimp only); (try k_lift zqB'); (try k_fold)))
  k_with "subscriptTail" => ((k_here; (with_reducible show wpAny _ _ (subscriptTail _ _ (Value.ref _) (Value.int _ _)) _ _ _); k_dflt (refine' item_pickAny (by k_asm) (by k_mem) (by k_asm) ?_; k_whole); intro zqv'))
  k_with "subscriptTail" => ((k_here; (with_reducible show wpAny _ _ (subscriptTail _ _ (Value.ref _) (Value.int _ _)) _ _ _); k_dflt (refine' item_nopick (by rfl) (by k_asm) (by k_mem) (by first | k_asm | exact NoPickDot.at (by k_asm)) ?_; k_whole); intro zqh' zqtk' zqe' zqx'))
  k_with "subscriptTail" => ((k_here; (with_reducible show wpAny _ _ (subscriptTail _ _ (Value.ref _) (Value.int _ _)) _ _ _); k_dflt (refine' item_pick (by k_asm) (by k_mem) (by first | k_asm | exact PickDot.at (by k_asm)) ?_; k_whole)))
  k_with "subscriptTail" => ((k_here; (with_reducible show wpAny _ _ (subscriptTail _ _ (Value.ref _) (Value.str _ _)) _ _ _); k_dflt (refine' dict_missing (knd := PySem.strKind _ _) (by k_asm) (by k_mem) (by k_asm) (by k_asm) (by rfl) (strKind_is _ _ _ _) (by k_asm) ?_; k_whole); intro zqh' zqe' zqx'))
  k_with "subscriptTail" => ((k_here; (with_reducible show wpAny _ _ (subscriptTail _ _ (Value.ref _) (Value.str _ _)) _ _ _); k_dflt (refine' kda_item (knd := PySem.strKind _ _) (by k_asm) (by k_mem) (by k_asm) (strKind_is _ _ _ _) (by k_asm) ?_; k_whole)))
  k_with "noteFrame ref" => ((k_here; (rename Heap.NewExc _ _ _ _ => zqneX); k_dflt (refine' here_hit (by assumption) (BornExc.ofNew zqneX) (by assumption) (by assumption) (by assumption) (by assumption) (by assumption) (by first | assumption | exact KtsTurn.refl) (by kts_test) ?_ (by rfl) (by passes_own); k_whole); clear zqneX; intro zqh' zqg' zqT' zqF' zqN' zqK' zqX' zqP' zqD'; (try k_sweep)))
  k_with "call builtin:list.append" => ((k_here; (with_reducible show wpAny _ _ (call (Value.builtin _) [Value.ref _, _]) _ _ _); k_dflt (refine' append_K (by k_asm) (by k_asm) (by k_upd) ?_ (by k_extra "a"); k_whole); intro zqh' zqF' zqN'; (try k_sweep)))
  k_with "compareOp NotIn str ref" => ((k_here; (with_reducible show wpAny _ _ (compareOp CmpOp.NotIn (Value.str _ _) (Value.ref _)) _ _ _); k_dflt (refine' notin_strs (by k_asm) (by k_mem) ?_; k_whole)))
  k_with "compareOp In str ref" => ((k_here; (with_reducible show wpAny _ _ (compareOp CmpOp.In (Value.str _ _) (Value.ref _)) _ _ _); k_dflt (refine' in_strs (by k_asm) (by k_mem) ?_; k_whole)))
  k_with "compareOp In str str" => ((k_dflt (first | refine in_strB false (by decide +kernel) ?_ | refine in_strB true (by decide +kernel) ?_)))
  k_with "subscriptTail Name Slice str ref" => (((with_reducible show wpAny _ _ (subscriptTail _ (Expr.Slice (some _) (some _) none _) _ _) _ _ _); (with_reducible rename Fr _ _ _ _ => zqF'); (with_reducible rename News _ _ _ _ => zqN'); (first | refine slice_strB (hsz := ?hsz) (s := ⟨_, _, _, _, _⟩) (Str.ofString ".") (by decide +kernel) zqF' zqN' ?_ | refine slice_strB (hsz := ?hsz) (s := ⟨_, _, _, _, _⟩) (Str.ofString "ab") (by decide +kernel) zqF' zqN' ?_); (case hsz => size_fits); intro zqh' zqt' zqk' zqF' zqN'; (try dsimp only); (try k_sweep)))
  k_with "eval Attribute Name" => ((k_here; k_dflt (refine' attr_own (by k_asm) (by rfl) (by k_asm) (by k_inst) (by k_is) (by k_is) (by k_is) (by k_is) (by k_get) (by k_handed) ?_ (by rfl) (by rfl); k_whole)))
  k_with "compareOp In str ref" => ((k_here; (with_reducible show wpAny _ _ (compareOp CmpOp.In (Value.str _ _) (Value.ref _)) _ _ _); k_dflt (first | (refine' kda_in (knd := PySem.strKind _ _) (by k_asm) (by k_mem) (by k_asm) (by k_asm) (strKind_is _ _ _ _) false (by k_extra "a") ?_; k_whole) | (refine' kda_in (knd := PySem.strKind _ _) (by k_asm) (by k_mem) (by k_asm) (by k_asm) (strKind_is _ _ _ _) true (by k_extra "a") ?_; k_whole))))
  k_with "call ref" => ((k_here; (with_reducible show wpAny _ _ (call (Value.ref 39) [Value.str _ _]) _ _ _); k_dflt (refine' ident_call (by k_asm) (by k_asm) (by k_asm) (by k_asm) (by k_asm) (by exact rfl) (by exact rfl) (by exact Nat.le_of_ble_eq_true rfl) (by exact rfl) (by exact Nat.le_of_ble_eq_true rfl) (by exact rfl) _ (by with_reducible first | assumption | exact isId_a | exact isId_A | exact isId_S | exact isId_B | exact isId_D | exact isId_error | exact isId_b | exact isId_Bc | exact isId_prec) (by first | assumption | decide +kernel) (by first | assumption | decide +kernel) (by first | assumption | decide +kernel) ?_; k_whole); intro zqh' zqtk' zqF' zqN'; (try k_sweep)))
  k_with "exec For Tuple Call cons nil" => (with_unfolding_all refine wpAny_For ?_)
  k_with "binaryOp Mod str ref" => ((k_here; (with_reducible show wpAny _ _ (binaryOp Operator.Mod (Value.str (Str.ofString "%s:%d: Illegal rule name %r. Already defined as a token") _) (Value.ref _)) _ _ _); k_dflt (refine' mod_F1 (by k_asm) (by k_mem) (by first | k_extra "a" | decide +kernel | k_extra "o") (by first | k_extra "a" | decide +kernel | k_extra "o") (by first | k_extra "a" | decide +kernel | k_extra "o") ?_  ); intro zqt' zqk'; (try dsimp only); (try k_sweep)))
  k_with "binaryOp Mod str ref" => ((k_here; (with_reducible show wpAny _ _ (binaryOp Operator.Mod (Value.str (Str.ofString "%s:%d: Illegal rule name %r") _) (Value.ref _)) _ _ _); k_dflt (refine' mod_F3 (by k_asm) (by k_mem) (by first | k_extra "a" | decide +kernel | k_extra "o") (by first | k_extra "a" | decide +kernel | k_extra "o") (by first | k_extra "a" | decide +kernel | k_extra "o") ?_  ); intro zqt' zqk'; (try dsimp only); (try k_sweep)))
  k_with "binaryOp Mod str ref" => ((k_here; (with_reducible show wpAny _ _ (binaryOp Operator.Mod (Value.str (Str.ofString "%s:%d: Literal token %s in rule %r may only be a single character") _) (Value.ref _)) _ _ _); k_dflt (refine' mod_F4 (by k_asm) (by k_mem) (by first | k_extra "a" | decide +kernel | k_extra "o") (by first | k_extra "a" | decide +kernel | k_extra "o") (by first | k_extra "a" | decide +kernel | k_extra "o") (by first | k_extra "a" | decide +kernel | k_extra "o") ?_  ); intro zqt' zqk'; (try dsimp only); (try k_sweep)))
  k_with "binaryOp Mod str ref" => ((k_here; (with_reducible show wpAny _ _ (binaryOp Operator.Mod (Value.str (Str.ofString "%s:%d: Syntax error. Nothing follows %%prec") _) (Value.ref _)) _ _ _); k_dflt (refine' mod_F6 (by k_asm) (by k_mem) (by first | k_extra "a" | decide +kernel | k_extra "o") (by first | k_extra "a" | decide +kernel | k_extra "o") ?_  ); intro zqt' zqk'; (try dsimp only); (try k_sweep)))
  k_with "binaryOp Mod str ref" => ((k_here; (with_reducible show wpAny _ _ (binaryOp Operator.Mod (Value.str (Str.ofString "%s:%d: Nothing known about the precedence of %r") _) (Value.ref _)) _ _ _); k_dflt (refine' mod_F8 (by k_asm) (by k_mem) (by first | k_extra "a" | decide +kernel | k_extra "o") (by first | k_extra "a" | decide +kernel | k_extra "o") (by first | k_extra "a" | decide +kernel | k_extra "o") ?_  ); intro zqt' zqk'; (try dsimp only); (try k_sweep)))
  k_with "binaryOp Mod str ref" => ((k_here; (with_reducible show wpAny _ _ (binaryOp Operator.Mod (Value.str (Str.ofString "%s -> %s") _) (Value.ref _)) _ _ _); k_dflt (refine' mod_P1 (by k_asm) (by k_mem) (by first | k_extra "a" | decide +kernel | k_extra "o") (by first | k_extra "a" | decide +kernel | k_extra "o") ?_  ); intro zqt' zqk'; (try dsimp only); (try k_sweep)))
  k_with "binaryOp Mod str ref" => ((k_here; (with_reducible show wpAny _ _ (binaryOp Operator.Mod (Value.str (Str.ofString "Previous definition at %s:%d") _) (Value.ref _)) _ _ _); k_dflt (refine' mod_F10 (by k_asm) (by k_mem) (by first | k_extra "a" | decide +kernel | k_extra "o") (by first | k_extra "a" | decide +kernel | k_extra "o") ?_  ); intro zqt' zqk'; (try dsimp only); (try k_sweep)))
  k_with "binaryOp Mod str ref" => ((k_here; (with_reducible show wpAny _ _ (binaryOp Operator.Mod (Value.str (Str.ofString "%s:%d: Duplicate rule %s. ") _) (Value.ref _)) _ _ _); k_dflt (refine' mod_F9 (by k_asm) (by k_asm) (by k_asm) (by k_asm) (by k_asm) (by exact rfl) (by exact rfl) (by exact Nat.le_of_ble_eq_true rfl) (by exact rfl) (by exact Nat.le_of_ble_eq_true rfl) (by exact rfl) (by k_mem) (by k_mem) (by k_mem) (by k_extra "a") (by decide +kernel) (by decide +kernel) ?_; k_whole); intro zqy' zqt' zqh' zqtk' zqF' zqN' zqhy'; (try dsimp only); (try k_sweep)))
  k_with "convS ref" => ((k_here; k_dflt (refine' conv_list (by k_asm) (by k_asm) (by k_mem) (by k_extra "a") (by exact rfl) (by exact Nat.le_of_ble_eq_true rfl) ?_; k_whole); intro zqh' zqt' zqk' zqF' zqN'; (try dsimp only); (try k_sweep)))
  k_with "compareOp NotIn str ref" => ((k_here; (with_reducible show wpAny _ _ (compareOp CmpOp.NotIn (Value.str _ _) (Value.ref _)) _ _ _); k_dflt (first | (refine' kdg_notin (knd := PySem.strKind _ _) (by k_asm) (by k_mem) (by k_asm) (by k_asm) (strKind_is _ _ _ _) false (by k_extra "a") ?_; k_whole) | (refine' kdg_notin (knd := PySem.strKind _ _) (by k_asm) (by k_mem) (by k_asm) (by k_asm) (strKind_is _ _ _ _) true (by k_extra "a") ?_; k_whole))))
  k_with "setItem ref str" => ((k_here; (with_reducible show wpAny _ _ (PySem.setItem (Value.ref _) (Value.str _ _) _) _ _ _); k_dflt (refine' kda_set (knd := PySem.strKind _ _) (by k_asm) (by k_asm) (by k_updF) (by k_asm) (strKind_is _ _ _ _) (by k_extra "a") ?_; k_whole); intro zqh' zqo' zqF' zqN' zqhd'; (try dsimp only at zqN'); (try k_sweep)))
  k_with "setItem ref int" => ((k_here; (with_reducible show wpAny _ _ (PySem.setItem (Value.ref _) (Value.int _ _) _) _ _ _); k_dflt (refine' list_store (by k_asm) (by k_asm) (by k_upd) (by exact rfl) (by k_extra "a") (by k_extra "a") ?_; k_whole); intro zqh' zqF' zqN'; (try k_sweep)))
  k_with "exec If" => (((with_reducible rename StopHere => zqstopX); clear zqstopX; refine halt ?_))
  k_with "subscriptTail" => ((k_here; (with_reducible show wpAny _ _ (subscriptTail _ _ (Value.ref _) (Value.int _ _)) _ _ _); k_dflt (refine' list_pick (by k_asm) (by k_mem) (by k_extra "a") ?_; k_whole)))
  k_with "subscriptTail Name UnaryOp ref int" => ((k_here; (with_reducible show wpAny _ _ (subscriptTail _ _ (Value.ref _) (Value.int _ _)) _ _ _); k_dflt (refine' list_pick (by k_asm) (by k_mem) (by k_extra "a") ?_; k_whole)))
  k_with "compareOp In str ref" => ((k_here; (with_reducible show wpAny _ _ (compareOp CmpOp.In (Value.str _ _) (Value.ref _)) _ _ _); k_dflt (first | (refine' in_strsB false (by k_asm) (by k_mem) (by k_extra "a") ?_; k_whole) | (refine' in_strsB true (by k_asm) (by k_mem) (by k_extra "a") ?_; k_whole))))
  k_with "truthy ref" => ((k_here; (with_reducible show wpAny _ _ (truthy (Value.ref _)) _ _ _); k_dflt (refine' truthy_pair (by k_asm) (by k_mem) ?_; k_whole)))
  k_with "call builtin:len" => ((k_here; (with_reducible show wpAny _ _ (call (Value.builtin _) [Value.ref _]) _ _ _); k_dflt (refine' len_lst (by k_asm) (by k_mem) (by k_extra "a") (by k_extra "o") ?_; k_whole)))
  k_with "call builtin:len" => (((with_reducible rename StopLen => zqstopX); clear zqstopX; refine halt ?_))
  k_with "exec For Name Attribute cons nil" => (with_unfolding_all refine wpAny_For ?_)
  k_with "exec For Name Name cons nil" => (with_unfolding_all refine wpAny_For ?_)
  k_with "getItem ref str" => ((k_here; k_dflt (refine' kdt_getItem (knd := PySem.strKind _ _) (by k_asm) (by k_mem) (by k_asm) (strKind_is _ _ _ _) (by first | k_extra "a" | exact valueAt_stored _ _ _) ?_; k_whole)))
  k_with "delItem ref ref" => ((k_here; k_dflt (refine' list_del_two (by k_asm) (by k_asm) (by k_upd) (by k_extra "a") (by k_extra "a") ?_; k_whole); intro zqh' zqF' zqN'; (try k_sweep)))
  k_with "call builtin:dict.get" => ((k_here; k_dflt (first | (refine' get_none (by k_asm) (by k_mem) (by k_asm) (by k_asm) ?_; k_whole) | (refine' kdg_get1 (knd := PySem.strKind _ _) (by k_asm) (by k_mem) (by k_asm) (by k_asm) (strKind_is _ _ _ _) (some _) (by k_extra "a") ?_; k_whole) | (refine' kdg_get1 (knd := PySem.strKind _ _) (by k_asm) (by k_mem) (by k_asm) (by k_asm) (strKind_is _ _ _ _) none (by k_extra "a") ?_; k_whole) | (refine' kdg_get2 (knd := PySem.strKind _ _) (by k_asm) (by k_mem) (by k_asm) (by k_asm) (strKind_is _ _ _ _) _ rfl ?_; k_whole)); (try dsimp only [Option.getD])))
  k_with "getMethod ref" => ((k_here; (with_reducible show wpAny _ _ (getMethod (Value.ref _) (Str.ofString "get") _) _ _ _); k_dflt (refine' kdg_method (knd := PySem.strKind _ _) (by k_asm) (by k_mem) (by k_asm) ?_; k_whole)))
  k_with "call ref" => ((k_here; (with_reducible show wpAny _ _ (call (Value.ref 146) [Value.ref _, Value.ref _]) _ _ _); k_dflt (refine' rt_call (by k_asm) (by k_asm) (by k_asm) (by k_asm) (by k_asm) (by exact rfl) (by exact rfl) (by exact Nat.le_of_ble_eq_true rfl) (by exact rfl) (by exact Nat.le_of_ble_eq_true rfl) (by exact rfl) (by k_mem) (by k_mem) (by k_asm) (by k_asm) (by k_extra "a") ?_; k_whole); intro zqr' zqh' zqtk' zqF' zqN' zqhr'; ((rcases zqhr' with hq' | ⟨x', t', hq'⟩) <;> (subst hq'; (try k_sweep)))))
  k_with "call ref" => ((k_here; (with_reducible show wpAny _ _ (call (Value.ref 100) [Value.int _ _, Value.str _ _, Value.ref _, _, _, _, _]) _ _ _); k_dflt (refine' prod_call (by k_asm) (by k_asm) (by k_asm) (by k_asm) (by k_asm) (by exact rfl) (by exact rfl) (by exact Nat.le_of_ble_eq_true rfl) (by exact rfl) (by exact Nat.le_of_ble_eq_true rfl) (by exact rfl) (by k_mem) (by k_extra "a") (by k_extra "a") (by k_extra "a") ?_; k_whole); intro zqr' zqnws' zqh' zqtk' zqF' zqN' zqhp'; refine halt ?_))
  k_with "compareOp NotIn str ref" => (((with_reducible rename StopHere => zqstopX); clear zqstopX; refine halt ?_))
  k_with "noteFrame ref" => (((fail_if_success (rename Heap.NewExc _ _ _ _ => zqhx9)); (rename Heap.MadeExcOf _ _ _ _ _ => zqhx9); refine halt ?_))
  k_with "getItem ref str" => ((k_here; k_dflt (refine' getItem_missing (knd := PySem.strKind _ _) (by k_asm) (by k_mem) (by k_asm) (by k_asm) (by rfl) (strKind_is _ _ _ _) (by k_extra "a") ?_; k_whole); intro zqh' zqe' zqx'))
  k_with "subscriptTail" => (((with_reducible show wpAny _ _ (subscriptTail _ _ (Value.str _ _) (Value.int _ _)) _ _ _); k_dflt (refine' item_str (by exact rfl) (by k_extra "o") (by k_extra "o") ?_  ); intro _))
  k_with "compareOp In str str" => ((k_dflt (refine in_strB false (by k_extra "a") ?_)))
  have h10 : ∀ x ∈ syms.map (·.1), x ∈ S10 := fun x hx => by
    rw [hbt] at hx
    rcases List.mem_append.mp hx with hx | hx
    · have := hb8 x hx
      simp only [S8, List.mem_cons, List.not_mem_nil, or_false] at this ⊢
      rcases this with h | h | h | h | h | h | h | h <;> simp only [h, true_or, or_true]
    · rcases ht4 with rfl | rfl | rfl | rfl <;> simp only [List.mem_cons, List.not_mem_nil, or_false] at hx ⊢
      all_goals rcases hx with rfl | rfl <;> simp
  have h4 : syms.length ≤ 5 := by
    have := congrArg List.length hbt
    rw [List.length_map, List.length_append] at this
    rcases ht4 with rfl | rfl | rfl | rfl <;> simp at this <;> k_extra "o"
  intro mean mg mb cn cs a ccd ce A₀ h₀ g₀ g L m s Q E Gg X₀ T₀ F N hk hret herr
  obtain ⟨csk, csn, csg, csc, csm⟩ := cs
  dsimp only at hk
  subst hk
  obtain ⟨gT, gB, gX, gP, gD⟩ := Gg
  have oTe := hM.te
  refine wpAny_call ?_
  k_dflt kts_go
  dsimp only [stL, gmL] at *
  k_steps
  rename Fr _ _ _ _ => F1
  rename News _ _ _ _ => N1
  refine' for_enum (n := syms.length) (EnJ prog w G B M sy pt npt hd' th syms pco pv1 pv2 R) ?hxi ?hxv ?hp ?hh F1 N1 ?hm ?hn ?hJ ?turn ?done
  case hxi => rfl
  case hxv => rfl
  case hp => rfl
  case hh => rfl
  case hm => exact .head _
  case hn => exact strV_length _
  case hJ => exact EnJ.mk (sy' := syms) (te' := M.te) (teo' := M.teo) ⟨rfl, rfl, rfl, rfl, rfl, rfl, trivial⟩ rfl (by simp) hM.te hM.tk hM.st (fun _ h => nomatch h) rfl hsep
  case turn =>
    intro i v vs k t I e oI oe m₁ nws₁ h tk hv hvl z2q hmem hoff hei F2 N2; refine xE0A2 z2q ?_; (try clear z2q); intro z3q z6q; refine xE3A8 z6q ?_; (try clear z6q); intro sy' te' teo' z4q hsy oTe' kTe' sTe' hab z5q hsep'; refine xE2A1 z3q ?_; (try clear z3q); intro tf tl hov; obtain rfl := z4q; obtain rfl := z5q
    clear F1 N1 hmem
    have F3 := overF (l := [(S_ "n", some (.int (i : Int) t)), (S_ "s", some v), (S_ "self", some (.ref G.g)), (S_ "prodname", some (.str hd' th)), (S_ "syms", some (.ref sy)), (S_ "func", some .none), (S_ "file", some (.str (Str.ofString "") tf)), (S_ "line", some (.int 0 tl))]) F2 ⟨rfl, rfl, hov.1, hov.2.1, hov.2.2.1, hov.2.2.2.1, hov.2.2.2.2.1, hov.2.2.2.2.2.1, trivial⟩
    dsimp only [over] at F3
    clear F2
    dsimp only [stL, gmL] at N2 hsep' hoff
    have z7q : ∃ TAIL, dlL te' ++ (dlL M.nt ++ (dlL M.pn ++ R)) = TAIL := ⟨_, rfl⟩; refine xE1A1 z7q ?_; (try clear z7q); intro TAIL hT
    rw [hT] at N2 hsep' hoff
    have r1 : ∀ q ∈ TAIL, q.1 ≠ sy := fun q hq => hsep'.ne q (by repeat (first | exact hq | apply List.Mem.tail))
    have r2 : ∀ q ∈ TAIL, q.1 ≠ G.te := fun q hq => hsep'.tail.ne q (by repeat (first | exact hq | apply List.Mem.tail))
    have n1 := allNe_of hsep'.ne
    have n2 := allNe_of hsep'.tail.ne
    have n3 := allNe_of fun p hp => (hoff p hp).1
    have n4 := allNe_of fun p hp => (hoff p hp).2
    rw [show strV sy' = sy'.map (fun p => Value.str p.1 p.2) from rfl, List.getElem?_map] at hv
    refine xE2A2 (map_pair hv) fun x tx hx z8q => ?_; obtain rfl := z8q
    have hx' : (syms.map (·.1))[i]? = some x := nrm_at hsy (by rw [List.getElem?_map, hx]; rfl)
    have hx10 := h10 x (List.mem_of_getElem? hx')
    have hil : i < sy'.length := (List.getElem?_eq_some_iff.mp hx).1
    have hsl : sy'.length ≤ 5 := by rw [strV_length] at hvl; k_extra "o"
    focus (refine xO4 (sym10 hx10) ?_ ?_ ?_ ?_; intro w8q; refine xE0A7 w8q ?_; (try clear w8q); intro o1 o2 o3 o4 o5 o6 o7; rotate_left 1; intro w9q; obtain rfl := w9q; rotate_left 1; intro w10q; obtain rfl := w10q; rotate_left 1; intro w11q; obtain rfl := w11q; rotate_left 1)
    · dsimp only [S_] at F3
      k_steps
      rename Fr _ _ _ _ => F9
      rename News _ _ _ _ => N9
      rw [← hT] at N9 hoff hsep'
      exact EnumS.mk F9 N9 hoff (.head _) hvl (EnJ.mk (tf := tf) (tl := tl) ⟨rfl, rfl, rfl, rfl, rfl, rfl, trivial⟩ rfl (nrm_keep hsy hx' o6) oTe' kTe' sTe' (noab_step hab hx' o7) rfl hsep')
    · dsimp only [S_] at F3
      have hiv : i < (strV sy').length := by rw [strV_length]; exact hil
      have hsv : (strV sy').length ≤ 1000 := by rw [strV_length]; k_extra "o"
      have hzT : (dlKV te').length ≤ sizeLine := by
        rw [sizeLine_eq]; unfold dlKV
        rcases kTe' with h | h
        · have := congrArg List.length h; simp at this ⊢; k_extra "o"
        · have := congrArg List.length h; simp at this ⊢; k_extra "o"
      have stopX := stopHere
      k_steps
      unfold Halt
      rcases kTe' with hk | hk
      · have hdot : (valueAt (dlKV te') (Str.ofString ".")).isSome = false := by rw [valueAt_isSome, hk]; decide +kernel
        k_steps
        rename Fr _ _ _ _ => F9
        rename News _ _ _ _ => N9
        rename Obj.IsDictOf _ _ (stored _ _ _) => hD9
        rename AllLt _ ((e, _) :: _) => l9
        have hfr : ∀ q ∈ ((e, oe) :: (I, oI) :: (sy, listOf (strV sy').toArray k) :: gmL w G { M with te := te', teo := teo' } ((G.pc, pco) :: (pt, tupO [pv1, pv2] npt) :: TAIL)), q.1 ≠ _ := tbn_neAll l9
        rw [strV_set, ← hT] at N9
        rw [← hT] at hoff hsep' hfr
        rw [dl_stored (l := []) (n := 0) (fun e he q => by
          have : e.1 ∈ te'.map (·.1) := List.mem_map_of_mem he
          rw [hk, q] at this
          revert this
          decide +kernel)] at hD9
        refine xE0A3 (enum_dot (x := Str.ofString ".") N9 hfr hoff hsep') fun N10 off10 sep10 => ?_
        exact EnumS.mkC F9 N10 off10 (.head _) (by rw [strV_length, List.length_set, ← strV_length]; exact hvl) (EnJ.mk (tf := tf) (tl := tl) ⟨rfl, rfl, rfl, rfl, rfl, rfl, trivial⟩ rfl (by rw [List.map_set]; exact nrm_set hsy hx') hD9 (.inr (by rw [List.map_append, hk]; rfl)) (fun e he => (List.mem_append.mp he).elim (sTe' e) fun h => by rw [List.mem_singleton.mp h]; exact Nat.zero_le _) (noab_step hab hx' (by decide +kernel)) rfl sep10)
      · have hdot : (valueAt (dlKV te') (Str.ofString ".")).isSome = true := by rw [valueAt_isSome, hk]; decide +kernel
        k_steps
        rename Fr _ _ _ _ => F9
        rename News _ _ _ _ => N9
        rw [strV_set, ← hT] at N9
        rw [← hT] at hoff hsep'
        exact EnumS.mkC F9 N9 (off_same (by rfl) hoff) (.head _) (by rw [strV_length, List.length_set, ← strV_length]; exact hvl) (EnJ.mk (tf := tf) (tl := tl) ⟨rfl, rfl, rfl, rfl, rfl, rfl, trivial⟩ rfl (by rw [List.map_set]; exact nrm_set hsy hx') oTe' (.inr hk) sTe' (noab_step hab hx' (by decide +kernel)) rfl (sep_same (by rfl) hsep'))
    · dsimp only [S_] at F3
      k_steps
      unfold Halt
      rename Heap.MadeExcOf _ _ _ _ _ => hx9
      rename Fr _ _ _ _ => F9
      rename News _ _ _ _ => N9
      rename Fr g L _ m => FG9
      refine thro (KF := hd.heap_1 w.params) (by assumption) (BornExc.ofMade hx9) F9 N9 X₀ T₀ (by kts_test) fun h' R9 U9 => ?_
      refine herr _ _ _ _ _ FG9 R9 U9 ⟨⟨te', teo', M.upo, { hM with te := oTe', tk := kTe', st := sTe' }, fun q hq => ?_, (by rw [← hT] at hsep'; exact hsep'.tail)⟩, .inl ?_⟩
      · rw [← hT]
        repeat (first | exact hq | apply List.mem_cons_of_mem)
      · have hm9 := List.mem_of_getElem? hx'
        rw [hbt] at hm9
        rcases List.mem_append.mp hm9 with h | h
        · exact h
        · focus (refine xO4 (ht4) ?_ ?_ ?_ ?_; (try clear ht4); intro w12q; obtain rfl := w12q; rotate_left 1; (try clear ht4); intro w13q; obtain rfl := w13q; rotate_left 1; (try clear ht4); intro w14q; obtain rfl := w14q; rotate_left 1; (try clear ht4); intro w15q; obtain rfl := w15q; rotate_left 1)
          all_goals exact absurd h (by decide +kernel)
    · dsimp only [S_] at F3
      k_steps
      rename Fr _ _ _ _ => F9
      rename News _ _ _ _ => N9
      rw [← hT] at N9 hoff hsep'
      exact EnumS.mk F9 N9 hoff (.head _) hvl (EnJ.mk (tf := tf) (tl := tl) ⟨rfl, rfl, rfl, rfl, rfl, rfl, trivial⟩ rfl (nrm_keep hsy hx' (by decide +kernel)) oTe' kTe' sTe' (noab_step hab hx' (by decide +kernel)) rfl hsep')
  case done =>
    intro m₁ vs k nws₁ h tk z9q hvl hmem F2 N2; refine xE0A2 z9q ?_; (try clear z9q); intro z10q z13q; refine xE3A8 z13q ?_; (try clear z13q); intro sy' te' teo' z11q hsy oTe' kTe' sTe' hab z12q hsep'; refine xE2A1 z10q ?_; (try clear z10q); intro tf tl hov; obtain rfl := z11q; obtain rfl := z12q
    clear F1 N1 hmem
    have F3 := overF (l := [(S_ "self", some (.ref G.g)), (S_ "prodname", some (.str hd' th)), (S_ "syms", some (.ref sy)), (S_ "func", some .none), (S_ "file", some (.str (Str.ofString "") tf)), (S_ "line", some (.int 0 tl))]) F2 hov
    dsimp only [over] at F3
    clear F2
    dsimp only [stL, gmL] at N2 hsep'
    rw [List.take_of_length_le (by rw [List.length_map]; exact Nat.le_refl _), List.drop_of_length_le (by rw [List.length_map]; exact Nat.le_refl _), List.append_nil, hbt, List.map_append] at hsy
    rw [List.take_of_length_le (by rw [List.length_map]; exact Nat.le_refl _), hbt] at hab
    refine xE2A3 (List.map_eq_append_iff.mp hsy) fun s1 s2 z14q hs1 hs2 => ?_; obtain rfl := z14q
    have hs2' : s2.map (·.1) = tail := by
      rw [hs2]
      rcases ht4 with rfl | rfl | rfl | rfl <;> decide +kernel
    have z15q : ∃ TAIL, dlL te' ++ (dlL M.nt ++ (dlL M.pn ++ R)) = TAIL := ⟨_, rfl⟩; refine xE1A1 z15q ?_; (try clear z15q); intro TAIL hT
    rw [hT] at N2 hsep'
    have r1 : ∀ q ∈ TAIL, q.1 ≠ sy := fun q hq => hsep'.ne q (by repeat (first | exact hq | apply List.Mem.tail))
    have r2 : ∀ q ∈ TAIL, q.1 ≠ G.up := fun q hq => hsep'.tail.tail.tail.ne q (by repeat (first | exact hq | apply List.Mem.tail))
    have r3 : ∀ q ∈ TAIL, q.1 ≠ G.nt := fun q hq => hsep'.tail.tail.ne q (by repeat (first | exact hq | apply List.Mem.tail))
    have n1 := allNe_of hsep'.ne
    have n2 := allNe_of hsep'.tail.ne
    have n3 := allNe_of hsep'.tail.tail.ne
    have n4 := allNe_of hsep'.tail.tail.tail.ne
    have hs1l : s1.length ≤ 3 := by
      have := congrArg List.length hs1
      rw [List.length_map, List.length_map] at this
      k_extra "o"
    have stopX := stopHere
    k_steps
    unfold Halt
    rename Fr _ _ _ _ => F4
    rename News _ _ _ _ => N4
    refine xE2A3 (hM.up) fun S nS hS hS1 hS0 => ?_
    refine' cut_state F4 (CuJ prog w G M sy pt npt hd' th pco pv1 pv2 te' teo' TAIL base tail tf tl) ?cut ?rest
    case cut =>
      focus (refine xO4 (ht4) ?_ ?_ ?_ ?_; (try clear ht4); intro w16q; obtain rfl := w16q; rotate_left 1; (try clear ht4); intro w17q; obtain rfl := w17q; rotate_left 1; (try clear ht4); intro w18q; obtain rfl := w18q; rotate_left 1; (try clear ht4); intro w19q; obtain rfl := w19q; rotate_left 1)
      · obtain rfl : s2 = [] := List.map_eq_nil_iff.mp hs2'
        simp only [List.append_nil] at *
        have hin : (s1.map fun p : Str × Tok => p.1).any (fun y => y == Str.ofString "%prec") = false := by
          rw [hs1]
          rw [List.any_eq_false]
          intro y hy
          refine xE1A2 (List.mem_map.mp hy) fun z hz z16q => ?_; obtain rfl := z16q
          have := hb8 z hz
          simp only [S8, S_, List.mem_cons, List.not_mem_nil, or_false] at this
          rcases this with rfl | rfl | rfl | rfl | rfl | rfl | rfl | rfl <;> decide +kernel
        have h5 : s1.length ≤ 5 := by k_extra "o"
        k_steps
        all_goals
          rename Fr _ _ _ _ => F9
          rename News _ _ _ _ => N9
          exact CutS.mk F9 (News.tail' N9) (CuJ.mk (its := s1) (n' := k) ⟨rfl, rfl, rfl, rfl, rfl, rfl, rfl, trivial⟩ rfl hs1 ⟨S, nS, hS, hS1, hS0⟩ (by first | exact .inl rfl | trivial))
      · refine xE3A3 (map_cons_pair hs2') fun x1 t1 s3 z17q hx1 h3 => ?_; obtain rfl := z17q
        refine xE3A3 (map_cons_pair h3) fun x2 t2 s4 z18q hx2 h4' => ?_; obtain rfl := z18q
        subst hx1 hx2
        obtain rfl : s4 = [] := List.map_eq_nil_iff.mp h4'
        dsimp only [S_] at *
        have hin : ((s1 ++ [(Str.ofString "%prec", t1), (Str.ofString "a", t2)]).map fun p : Str × Tok => p.1).any (fun y => y == Str.ofString "%prec") = true := by simp
        have hv : strV (s1 ++ [(Str.ofString "%prec", t1), (Str.ofString "a", t2)]) = strV s1 ++ [.str (Str.ofString "%prec") t1, .str (Str.ofString "a") t2] := by simp [strV]
        have hp1 : PickL (strV (s1 ++ [(Str.ofString "%prec", t1), (Str.ofString "a", t2)])) (-1) (.str (Str.ofString "a") t2) := by rw [hv]; exact pickL_last
        have hp2 : PickL (strV (s1 ++ [(Str.ofString "%prec", t1), (Str.ofString "a", t2)])) (-2) (.str (Str.ofString "%prec") t1) := by rw [hv]; exact pickL_last2
        have hs1v : (strV s1).length ≤ 3 := by rw [strV_length]; exact hs1l
        have hga : valueAt [(Str.ofString "a", Value.ref pt)] (Str.ofString "a") = some (.ref pt) := rfl
        k_steps
        rename Fr _ _ _ _ => F9
        rename News _ _ _ _ => N9
        rename Obj.SetObjOf _ _ _ _ => S9
        refine CutS.mk F9 N9 (CuJ.mk (its := s1) (n' := k + 1) ⟨rfl, rfl, rfl, rfl, rfl, rfl, rfl, trivial⟩ rfl hs1 ⟨_, _, S9, ?_, ?_⟩ (by first | exact .inr rfl | trivial))
        · split
          · exact hS1
          · rename ¬ (_ = true) => hq
            rw [hS0 (by simpa using hq)]
            exact Nat.le_refl _
        · intro hq
          simp at hq
      · refine xE3A3 (map_cons_pair hs2') fun x1 t1 s3 z19q hx1 h3 => ?_; obtain rfl := z19q
        subst hx1
        obtain rfl : s3 = [] := List.map_eq_nil_iff.mp h3
        dsimp only [S_] at *
        have hin : ((s1 ++ [(Str.ofString "%prec", t1)]).map fun p : Str × Tok => p.1).any (fun y => y == Str.ofString "%prec") = true := by simp
        have hp1 : PickL (strV (s1 ++ [(Str.ofString "%prec", t1)])) (-1) (.str (Str.ofString "%prec") t1) := by
          rw [show strV (s1 ++ [(Str.ofString "%prec", t1)]) = strV s1 ++ [.str (Str.ofString "%prec") t1] by simp [strV]]; exact pickL_last1
        k_steps
        rename Fr g L _ m => FG9
        rename RaisedS _ _ _ _ _ _ _ _ _ => R9
        refine herr _ _ _ _ _ FG9 R9.toSN (by assumption) ⟨⟨te', teo', M.upo, { hM with te := oTe', tk := kTe', st := sTe' }, fun q hq => ?_, (by rw [← hT] at hsep'; exact hsep'.tail)⟩, .inr (.inl rfl)⟩
        rw [← hT]
        repeat (first | exact hq | apply List.mem_cons_of_mem)
      · refine xE3A3 (map_cons_pair hs2') fun x1 t1 s3 z20q hx1 h3 => ?_; obtain rfl := z20q
        refine xE3A3 (map_cons_pair h3) fun x2 t2 s4 z21q hx2 h4' => ?_; obtain rfl := z21q
        subst hx1 hx2
        obtain rfl : s4 = [] := List.map_eq_nil_iff.mp h4'
        dsimp only [S_] at *
        have hin : ((s1 ++ [(Str.ofString "%prec", t1), (Str.ofString "b", t2)]).map fun p : Str × Tok => p.1).any (fun y => y == Str.ofString "%prec") = true := by simp
        have hv : strV (s1 ++ [(Str.ofString "%prec", t1), (Str.ofString "b", t2)]) = strV s1 ++ [.str (Str.ofString "%prec") t1, .str (Str.ofString "b") t2] := by simp [strV]
        have hp1 : PickL (strV (s1 ++ [(Str.ofString "%prec", t1), (Str.ofString "b", t2)])) (-1) (.str (Str.ofString "b") t2) := by rw [hv]; exact pickL_last
        have hp2 : PickL (strV (s1 ++ [(Str.ofString "%prec", t1), (Str.ofString "b", t2)])) (-2) (.str (Str.ofString "%prec") t1) := by rw [hv]; exact pickL_last2
        have hrb : (reprText (Str.ofString "b")).length ≤ 1000 := by decide +kernel
        have hgb : valueAt [(Str.ofString "a", Value.ref pt)] (Str.ofString "b") = none := by
          unfold valueAt
          rw [List.find?_cons_of_neg (by show ¬ (decide (Str.ofString "a" = Str.ofString "b") = true); decide +kernel)]
          rfl
        k_steps
        rename Fr g L _ m => FG9
        rename RaisedS _ _ _ _ _ _ _ _ _ => R9
        refine herr _ _ _ _ _ FG9 R9.toSN (by assumption) ⟨⟨te', teo', M.upo, { hM with te := oTe', tk := kTe', st := sTe' }, fun q hq => ?_, (by rw [← hT] at hsep'; exact hsep'.tail)⟩, .inr (.inr (.inl rfl))⟩
        rw [← hT]
        repeat (first | exact hq | apply List.mem_cons_of_mem)
    case rest =>
      intro h2 tk2 m₂ nws₂ F5 N5 z22q; refine xE0A2 z22q ?_; (try clear z22q); intro z23q z24q; refine xE3A4 z24q ?_; (try clear z24q); intro its upo' n' hnws hits hup' htl; refine xE1A1 z23q ?_; (try clear z23q); intro v hov5
      subst hnws
      clear F4 N4
      have F6 := overF (l := [(S_ "self", some (.ref G.g)), (S_ "prodname", some (.str hd' th)), (S_ "syms", some (.ref sy)), (S_ "func", some .none), (S_ "file", some (.str (Str.ofString "") tf)), (S_ "line", some (.int 0 tl)), (S_ "prodprec", some v)]) F5 hov5
      dsimp only [over, S_] at F6
      clear F5
      dsimp only [gmL] at N5
      have hzrow : (PyData.list ((its.map (·.1)).map PyData.str)).shown.length ≤ 1000 := by rw [hits]; exact shown_small hb3 hb8
      have hxl : hd'.length ≤ 1000 := by k_extra "o"
      have oPm := hM.pm
      cases hdup : (valueAt M.pm (rowT hd' (its.map (·.1)))).isSome with
      | true =>
        have hdup2 : (valueAt M.pm (Str.empty ++ hd' ++ Str.ofString " -> " ++ (PyData.list ((its.map (·.1)).map PyData.str)).shown)).isSome = true := hdup
        refine xE1A1 (Option.isSome_iff_exists.mp hdup2) fun vv hvv => ?_
        refine xE1A2 (valueAt_mem hvv) fun ee hee z25q => ?_; obtain rfl := z25q
        refine xE3A4 (hpm ee hee) fun x v1 v2 hxe hx1 hx2 hx3 => ?_
        rw [hxe] at hvv
        have hxm1 : (x.p, instObj 100 x.dp) ∈ TAIL := by rw [← hT]; simp [hx1]
        have hxm2 : (x.dp, prodD w x v1 v2 (stOf x)) ∈ TAIL := by rw [← hT]; simp only [List.mem_append, hx2, or_true]
        k_steps
        rename Fr g L _ m => FG9
        rename RaisedS _ _ _ _ _ _ _ _ _ => R9
        rw [← hT] at hsep'
        refine herr _ _ _ _ _ FG9 R9.toSN (by assumption) ⟨⟨te', teo', upo', { hM with te := oTe', tk := kTe', st := sTe', up := hup' }, fun q hq => ?_, sep_same (by rfl) hsep'.tail⟩, .inr (.inr (.inr (by rw [← hits]; exact hdup)))⟩
        rw [← hT]
        repeat (first | exact hq | apply List.mem_cons_of_mem)
      | false =>
        have hdup2 : (valueAt M.pm (Str.empty ++ hd' ++ Str.ofString " -> " ++ (PyData.list ((its.map (·.1)).map PyData.str)).shown)).isSome = false := hdup
        have z26q : ∃ np, M.lpv.length = np := ⟨_, rfl⟩; refine xE1A1 z26q ?_; (try clear z26q); intro np hnp
        have hnp5 : np ≤ 500 := by rw [← hnp]; exact Nat.le_trans hM.ll hB
        have oNt := hM.nt
        have hzN : (dlKV M.nt).length ≤ sizeLine := by rw [len_dlKV, sizeLine_eq]; have := hM.ln; k_extra "o"
        have stopX := stopLen
        k_steps
        unfold Halt
        have stopX := stopHere
        k_steps
        unfold Halt
        rename Fr _ _ _ _ => F7
        rename News _ _ _ _ => N7
        dsimp +zetaDelta only at F7
        generalize hrow : Str.empty ++ hd' ++ Str.ofString " -> " ++ (PyData.list ((its.map (·.1)).map PyData.str)).shown = row at F7 hdup2
        refine' cut_state F7 (CnJ prog w G B M sy pt npt hd' th pco pv1 pv2 R te' teo' upo' its n' tf tl v row np) ?cutN ?restN
        case cutN =>
          focus (refine xO2 (dl_split (d := M.nt) (k := hd')) ?_ ?_; intro hab2; rotate_left 1; intro w20q; refine xE3A2 w20q ?_; (try clear w20q); intro da de db hde hda; rotate_left 1)
          · have hn0 := valueAt_absent hab2
            k_steps
            rename Fr _ _ _ _ => F9
            rename News _ _ _ _ => N9
            rename Obj.IsDictOf _ _ (stored _ _ _) => hD9
            rename AllLt _ ((sy, _) :: _) => l9
            have hfr : ∀ q ∈ ((sy, listOf (strV its).toArray n') :: gmL w G { M with te := te', teo := teo', upo := upo' } ((G.pc, pco) :: (pt, tupO [pv1, pv2] npt) :: TAIL)), q.1 ≠ _ := tbn_neAll l9
            rw [← hT] at N9 hsep' hfr
            rw [dl_stored (l := []) (n := 0) hab2] at hD9
            have S9 : Sep ((sy, listOf (strV its).toArray n') :: stL w G { M with te := te', teo := teo', upo := upo' } pco pt [pv1, pv2] npt R) := sep_same (by rfl) hsep'
            have S10 := nt_new_S (x := hd') (l := []) (n := 0) hfr S9
            exact CutS.mk F9 (nt_new_N (x := hd') (l := []) (n := 0) (M := { M with te := te', teo := teo', upo := upo', nto := _ }) N9) (CnJ.mk ⟨rfl, rfl, rfl, rfl, rfl, rfl, rfl, rfl, rfl, trivial⟩ rfl hD9 (szL_add hM.sn (Nat.zero_le _)) (by simp) (by simp) (fun k hk => by rw [List.map_append]; exact List.mem_append_left _ hk) (sep_same (by rfl) S10))
          · have hn1 : (valueAt (dlKV M.nt) hd').isSome = true := by rw [hde]; exact valueAt_split hda
            k_steps
            rename Fr _ _ _ _ => F9
            rename News _ _ _ _ => N9
            rw [← hT] at N9 hsep'
            exact CutS.mk F9 N9 (CnJ.mk (nt' := M.nt) (nto' := M.nto) ⟨rfl, rfl, rfl, rfl, rfl, rfl, rfl, rfl, rfl, trivial⟩ rfl hM.nt hM.sn (Nat.le_succ _) (by rw [hde]; simp) (fun _ h => h) (sep_same (by rfl) hsep'))
        case restN =>
          intro h3 tk3 m₃ nws₃ F8 N8 z27q; refine xE0A2 z27q ?_; (try clear z27q); intro z28q z29q; refine xE2A7 z29q ?_; (try clear z29q); intro nt' nto' hnws8 oNt8 sNt8 lNt8 kNt8 kNo8 S8'; refine xE2A1 z28q ?_; (try clear z28q); intro tm tp hov8
          subst hnws8
          clear F7 N7
          have F10 := overF (l := [(S_ "self", some (.ref G.g)), (S_ "prodname", some (.str hd' th)), (S_ "syms", some (.ref sy)), (S_ "func", some .none), (S_ "file", some (.str (Str.ofString "") tf)), (S_ "line", some (.int 0 tl)), (S_ "prodprec", some v), (S_ "map", some (.str row tm)), (S_ "pnumber", some (.int (np : Int) tp))]) F8 hov8
          dsimp only [over, S_] at F10
          clear F8
          k_steps
          rename Fr _ _ _ _ => F11
          refine' for_F (PnJ prog w G B M sy pt npt hd' th pco pv1 pv2 R teo' upo' its n' tf tl v row np) ?hx ?hp ?hh F11 N8 ?hm ?hJ ?turn ?done
          case hx => rfl
          case hp => rfl
          case hh => rfl
          case hm => exact .head _
          case hJ => exact PnJ.mk (te2 := te') (nt2 := nt') (nto2 := nto') ⟨rfl, rfl, rfl, rfl, rfl, rfl, rfl, rfl, rfl, trivial⟩ rfl kTe' oTe' sTe' oNt8 sNt8 lNt8 kNt8 kNo8 S8'
          case turn =>
            intro i v2 I it m₄ nws₄ h4 tk4 hv2 z30q hic hmem2 hoff2 F12 N12; refine xE0A2 z30q ?_; (try clear z30q); intro z31q z33q; refine xE3A10 z33q ?_; (try clear z33q); intro te2 nt2 nto2 z32q kT2 oT2 sT2 oN2 sN2 lN2 kN2 kO2 S2; refine xE2A1 z31q ?_; (try clear z31q); intro tm2 tp2 hov2; obtain rfl := z32q
            clear F11 N8
            have F13 := overF (l := [(S_ "t", some v2), (S_ "self", some (.ref G.g)), (S_ "prodname", some (.str hd' th)), (S_ "syms", some (.ref sy)), (S_ "func", some .none), (S_ "file", some (.str (Str.ofString "") tf)), (S_ "line", some (.int 0 tl)), (S_ "prodprec", some v), (S_ "map", some (.str row tm2)), (S_ "pnumber", some (.int (np : Int) tp2))]) F12 ⟨rfl, hov2.1, hov2.2.1, hov2.2.2.1, hov2.2.2.2.1, hov2.2.2.2.2.1, hov2.2.2.2.2.2.1, hov2.2.2.2.2.2.2.1, hov2.2.2.2.2.2.2.2.1, hov2.2.2.2.2.2.2.2.2.1, trivial⟩
            dsimp only [over, S_] at F13
            clear F12
            rw [show strV its = its.map (fun p => Value.str p.1 p.2) from rfl, List.getElem?_map] at hv2
            refine xE2A2 (map_pair hv2) fun x tx hx z34q => ?_; obtain rfl := z34q
            have hil : i < its.length := (List.getElem?_eq_some_iff.mp hx).1
            have hi5 : its.length ≤ 3 := by
              have := congrArg List.length hits
              rw [List.length_map, List.length_map] at this
              k_extra "o"
            have SI := Sep.cons (p := (I, it)) hoff2 S2
            focus (refine xO2 (dl_split3 (d := te2) (k := x)) ?_ ?_; intro habt; rotate_left 1; intro w21q; refine xE5A2 w21q ?_; (try clear w21q); intro da e l n db w22q hda; obtain rfl := w22q; rotate_left 1)
            · have hn0 := valueAt_absent habt
              focus (refine xO2 (dl_split3 (d := nt2) (k := x)) ?_ ?_; intro habn; rotate_left 1; intro w23q; refine xE5A2 w23q ?_; (try clear w23q); intro da e l n db w24q hda; obtain rfl := w24q; rotate_left 1)
              · have hm0 := valueAt_absent habn
                have hz0 : (List.toArray ([] : List Value)).size ≤ sizeLine := Nat.zero_le _
                have hzN2 : (dlKV nt2).length ≤ sizeLine := by rw [len_dlKV, sizeLine_eq]; have := hM.ln; k_extra "o"
                dsimp only [stL, gmL] at N12 S2 hoff2 SI
                have z35q : ∃ T, dlL te2 ++ (dlL nt2 ++ (dlL M.pn ++ R)) = T := ⟨_, rfl⟩; refine xE1A1 z35q ?_; (try clear z35q); intro TAIL2 hT2
                rw [hT2] at N12 S2 hoff2 SI
                have q1 := allNe_of hoff2
                have q2 : ∀ q ∈ TAIL2, q.1 ≠ G.nt := fun q hq => S2.tail.tail.ne q (by repeat (first | exact hq | apply List.Mem.tail))
                dsimp only at F13
                k_steps
                rename Fr _ _ _ _ => F19
                rename News _ _ _ _ => N19
                rename Obj.IsDictOf _ _ (stored _ _ _) => hD9
                rename AllLt _ ((I, _) :: _) => l9
                have hfr : ∀ q ∈ ((I, it) :: (sy, listOf (strV its).toArray n') :: gmL w G { M with te := te2, teo := teo', upo := upo', nt := nt2, nto := nto2 } ((G.pc, pco) :: (pt, tupO [pv1, pv2] npt) :: TAIL2)), q.1 ≠ _ := tbn_neAll l9
                rw [← hT2] at N19 hfr SI
                rw [List.push_toArray] at N19
                rw [dl_stored (l := [Value.int (np : Int) tp2]) (n := 0 + 1) habn] at hD9
                have N20 := nt_new_NI (x := x) (M := { M with te := te2, teo := teo', upo := upo', nt := nt2, nto := _ }) N19
                have S20 := nt_new_SI (x := x) (l := [Value.int (np : Int) tp2]) (n := 0 + 1) (M := { M with te := te2, teo := teo', upo := upo', nt := nt2, nto := nto2 }) hfr SI
                exact ForF.mk F19 N20 (sepne_same S20 (by rfl)) (.head _) (PnJ.mk (te2 := te2) (nt2 := nt2 ++ [(x, _, [Value.int (np : Int) tp2], 0 + 1)]) ⟨rfl, rfl, rfl, rfl, rfl, rfl, rfl, rfl, rfl, trivial⟩ rfl kT2 oT2 (szL_up sT2 (by k_extra "o")) hD9 (szL_add (szL_up sN2 (by k_extra "o")) (by simp; k_extra "o")) (by simp; k_extra "o") (by rw [List.map_append]; exact List.mem_append_left _ kN2) (fun k hk => by rw [List.map_append]; exact List.mem_append_left _ (kO2 k hk)) (septail_same S20 (by rfl)))
              · have hm1 := valueAt_split (b := db) (e := (e, l, n)) hda
                have hm2 := dlKV_some (b := db) (e := (e, l, n)) hda
                dsimp only at hm2 F13
                have hl5 : l.length ≤ B + i := sN2 (x, e, l, n) (by simp)
                have hsz : l.toArray.size ≤ sizeLine := by rw [sizeLine_eq, List.size_toArray]; k_extra "o"
                have N13 := touch_fwd ((I, it) :: (sy, listOf (strV its).toArray n') :: (stP w G { M with te := te2, teo := teo', upo := upo', nt := da ++ (x, e, l, n) :: db, nto := nto2 } pco pt [pv1, pv2] npt ++ dlL te2)) (dlL da) (dlL db) (dlL M.pn ++ R) (x := (e, listOf l.toArray n)) (by rw [← dlL_split]; exact N12)
                have S13 := touch_sepF ((I, it) :: (sy, listOf (strV its).toArray n') :: (stP w G { M with te := te2, teo := teo', upo := upo', nt := da ++ (x, e, l, n) :: db, nto := nto2 } pco pt [pv1, pv2] npt ++ dlL te2)) (dlL da) (dlL db) (dlL M.pn ++ R) (x := (e, listOf l.toArray n)) (y := (e, listOf l.toArray n)) rfl (by rw [← dlL_split]; exact SI)
                clear N12
                dsimp only [stP, gmL, List.cons_append, List.nil_append] at N13 S13
                have z36q : ∃ T, dlL te2 ++ ((dlL da ++ dlL db) ++ (dlL M.pn ++ R)) = T := ⟨_, rfl⟩; refine xE1A1 z36q ?_; (try clear z36q); intro TAIL2 hT2
                rw [hT2] at N13 S13
                have q1 := allNe_of S13.ne
                have q2 : ∀ q ∈ TAIL2, q.1 ≠ e := fun q hq => S13.ne q (by repeat (first | exact hq | apply List.Mem.tail))
                k_steps
                rename Fr _ _ _ _ => F19
                rename News _ _ _ _ => N19
                rw [List.push_toArray, ← hT2] at N19
                rw [← hT2] at S13
                have N20 := touch_back ((I, it) :: (sy, listOf (strV its).toArray n') :: (stP w G { M with te := te2, teo := teo', upo := upo', nt := da ++ (x, e, l, n) :: db, nto := nto2 } pco pt [pv1, pv2] npt ++ dlL te2)) (dlL da) (dlL db) (dlL M.pn ++ R) (x := (e, listOf (l ++ [Value.int (np : Int) tp2]).toArray (n + 1))) N19
                have S20 := touch_sepB ((I, it) :: (sy, listOf (strV its).toArray n') :: (stP w G { M with te := te2, teo := teo', upo := upo', nt := da ++ (x, e, l, n) :: db, nto := nto2 } pco pt [pv1, pv2] npt ++ dlL te2)) (dlL da) (dlL db) (dlL M.pn ++ R) (x := (e, listOf l.toArray n)) (y := (e, listOf (l ++ [Value.int (np : Int) tp2]).toArray (n + 1))) rfl S13
                rw [← dlL_split da db x e (l ++ [Value.int (np : Int) tp2]) (n + 1)] at N20 S20
                exact ForF.mk F19 N20 S20.ne (.head _) (PnJ.mk (te2 := te2) (nt2 := da ++ (x, e, l ++ [Value.int (np : Int) tp2], n + 1) :: db) (nto2 := nto2) ⟨rfl, rfl, rfl, rfl, rfl, rfl, rfl, rfl, rfl, trivial⟩ rfl kT2 oT2 (szL_up sT2 (by k_extra "o")) (by rw [dlKV_set da db x e l _ n _]; exact oN2) (szL_set sN2) (by have := lN2; simp at this ⊢; k_extra "o") (by simpa using kN2) (fun k hk => by simpa using kO2 k hk) S20.tail)
            · have hn1 := valueAt_split (b := db) (e := (e, l, n)) hda
              have hn2 := dlKV_some (b := db) (e := (e, l, n)) hda
              dsimp only at hn2 F13
              have hl5 : l.length ≤ B + i := sT2 (x, e, l, n) (by simp)
              have hsz : l.toArray.size ≤ sizeLine := by rw [sizeLine_eq, List.size_toArray]; k_extra "o"
              have N13 := touch_fwd ((I, it) :: (sy, listOf (strV its).toArray n') :: stP w G { M with te := da ++ (x, e, l, n) :: db, teo := teo', upo := upo', nt := nt2, nto := nto2 } pco pt [pv1, pv2] npt) (dlL da) (dlL db) (dlL nt2 ++ (dlL M.pn ++ R)) (x := (e, listOf l.toArray n)) (by rw [← dlL_split]; exact N12)
              have S13 := touch_sepF ((I, it) :: (sy, listOf (strV its).toArray n') :: stP w G { M with te := da ++ (x, e, l, n) :: db, teo := teo', upo := upo', nt := nt2, nto := nto2 } pco pt [pv1, pv2] npt) (dlL da) (dlL db) (dlL nt2 ++ (dlL M.pn ++ R)) (x := (e, listOf l.toArray n)) (y := (e, listOf l.toArray n)) rfl (by rw [← dlL_split]; exact SI)
              clear N12
              dsimp only [stP, gmL, List.cons_append, List.nil_append] at N13 S13
              have z37q : ∃ T, (dlL da ++ dlL db) ++ (dlL nt2 ++ (dlL M.pn ++ R)) = T := ⟨_, rfl⟩; refine xE1A1 z37q ?_; (try clear z37q); intro TAIL2 hT2
              rw [hT2] at N13 S13
              have q1 := allNe_of S13.ne
              have q2 : ∀ q ∈ TAIL2, q.1 ≠ e := fun q hq => S13.ne q (by repeat (first | exact hq | apply List.Mem.tail))
              k_steps
              rename Fr _ _ _ _ => F19
              rename News _ _ _ _ => N19
              rw [List.push_toArray, ← hT2] at N19
              rw [← hT2] at S13
              have N20 := touch_back ((I, it) :: (sy, listOf (strV its).toArray n') :: stP w G { M with te := da ++ (x, e, l, n) :: db, teo := teo', upo := upo', nt := nt2, nto := nto2 } pco pt [pv1, pv2] npt) (dlL da) (dlL db) (dlL nt2 ++ (dlL M.pn ++ R)) (x := (e, listOf (l ++ [Value.int (np : Int) tp2]).toArray (n + 1))) N19
              have S20 := touch_sepB ((I, it) :: (sy, listOf (strV its).toArray n') :: stP w G { M with te := da ++ (x, e, l, n) :: db, teo := teo', upo := upo', nt := nt2, nto := nto2 } pco pt [pv1, pv2] npt) (dlL da) (dlL db) (dlL nt2 ++ (dlL M.pn ++ R)) (x := (e, listOf l.toArray n)) (y := (e, listOf (l ++ [Value.int (np : Int) tp2]).toArray (n + 1))) rfl S13
              rw [← dlL_split da db x e (l ++ [Value.int (np : Int) tp2]) (n + 1)] at N20 S20
              exact ForF.mk F19 N20 S20.ne (.head _) (PnJ.mk (te2 := da ++ (x, e, l ++ [Value.int (np : Int) tp2], n + 1) :: db) (nt2 := nt2) (nto2 := nto2) ⟨rfl, rfl, rfl, rfl, rfl, rfl, rfl, rfl, rfl, trivial⟩ rfl (teOK_set kT2) (by rw [dlKV_set da db x e l _ n _]; exact oT2) (szL_set sT2) oN2 (szL_up sN2 (by k_extra "o")) (by k_extra "o") kN2 kO2 S20.tail)
          case done =>
            intro m₅ nws₅ h5 tk5 z38q F20 N20; refine xE0A2 z38q ?_; (try clear z38q); intro z39q z41q; refine xE3A10 z41q ?_; (try clear z41q); intro te5 nt5 nto5 z40q kT5 oT5 sT5 oN5 sN5 lN5 kN5 kO5 S5; refine xE2A1 z39q ?_; (try clear z39q); intro tm5 tp5 hov5'; obtain rfl := z40q
            clear F11 N8
            have F21 := overF (l := [(S_ "self", some (.ref G.g)), (S_ "prodname", some (.str hd' th)), (S_ "syms", some (.ref sy)), (S_ "func", some .none), (S_ "file", some (.str (Str.ofString "") tf)), (S_ "line", some (.int 0 tl)), (S_ "prodprec", some v), (S_ "map", some (.str row tm5)), (S_ "pnumber", some (.int (np : Int) tp5))]) F20 hov5'
            dsimp only [over, S_] at F21
            clear F20
            dsimp only [stL, gmL] at N20 S5
            have z42q : ∃ T, dlL te5 ++ (dlL nt5 ++ (dlL M.pn ++ R)) = T := ⟨_, rfl⟩; refine xE1A1 z42q ?_; (try clear z42q); intro TAIL5 hT5
            rw [hT5] at N20 S5
            have hi3 : its.length ≤ 3 := by
              have := congrArg List.length hits
              rw [List.length_map, List.length_map] at this
              k_extra "o"
            have hB16 : ∀ y ∈ its.map (·.1), y.length ≤ 16 := by
              rw [hits]
              intro y hy
              refine xE1A2 (List.mem_map.mp hy) fun z hz z43q => ?_; obtain rfl := z43q
              have := hb8 z hz
              simp only [S8, S_, List.mem_cons, List.not_mem_nil, or_false] at this
              rcases this with rfl | rfl | rfl | rfl | rfl | rfl | rfl | rfl <;> decide +kernel
            k_steps
            unfold Halt
            rename NewPR _ _ _ _ _ _ _ _ => hpr
            refine xE2A9 hpr ?_; (try clear hpr); intro x li hr hx1 hx2 hx3 hx4 hx5 hnw hfx hsp
            subst hr hnw
            have S6 := hsp S5
            clear N20
            rename News _ _ _ _ => N21
            have p1 := allNe_of S6.ne
            have p2 := allNe_of S6.tail.ne
            have p3 := allNe_of S6.tail.tail.ne
            have p4 := allNe_of S6.tail.tail.tail.ne
            have p5 := allNe_of S6.tail.tail.tail.tail.ne
            have p6 := allNe_of S5.ne
            have p7 := allNe_of S5.tail.ne
            have p8 := allNe_of S5.tail.tail.ne
            have p9 := allNe_of S5.tail.tail.tail.ne
            have p10 := allNe_of S5.tail.tail.tail.tail.ne
            have p11 := allNe_of S5.tail.tail.tail.tail.tail.ne
            have p12 := allNe_of S5.tail.tail.tail.tail.tail.tail.ne
            have rL : ∀ q ∈ TAIL5, q.1 ≠ G.lp := fun q hq => S5.tail.tail.tail.tail.ne q (by repeat (first | exact hq | apply List.Mem.tail))
            have rM : ∀ q ∈ TAIL5, q.1 ≠ G.pm := fun q hq => S5.tail.tail.tail.tail.tail.ne q (by repeat (first | exact hq | apply List.Mem.tail))
            have rP : ∀ q ∈ TAIL5, q.1 ≠ G.pn := fun q hq => S5.tail.tail.tail.tail.tail.tail.ne q (by repeat (first | exact hq | apply List.Mem.tail))
            have hzL : M.lpv.toArray.size ≤ sizeLine := by rw [sizeLine_eq, List.size_toArray]; have := hM.ll; k_extra "o"
            have hzM : M.pm.length ≤ sizeLine := by rw [sizeLine_eq]; have := hM.lm; k_extra "o"
            have hzP : (dlKV M.pn).length ≤ sizeLine := by rw [len_dlKV, sizeLine_eq]; have := hM.lp; k_extra "o"
            have oPn := hM.pn
            have hnoab : S_ "'ab'" ∉ base := fun h => hab _ (List.mem_append_left _ h) rfl
            have hrow2 : rowT hd' (base.map nrm) = row := by rw [← hrow, ← hits]; rfl
            have hx3' : x.num = (M.lpv.length : Int) := by rw [hx3, hnp]
            have hk3 : (strV its).length ≤ 3 := by rw [strV_length]; exact hi3
            focus (refine xO2 (dl_split3 (d := M.pn) (k := hd')) ?_ ?_; intro habp; rotate_left 1; intro w25q; refine xE5A2 w25q ?_; (try clear w25q); intro da e l n db hpn hda; rotate_left 1)
            · have hv0 : valueAt (dlKV M.pn) hd' = none := dlKV_none habp
              k_steps
              rename Fr _ _ _ _ => F99
              rename News _ _ _ _ => N99
              rename Obj.IsDictOf _ _ (stored (dlKV _) _ _) => oPn9
              rename Obj.IsDictOf _ _ (stored _ row _) => oPm9
              rename AllLt _ ((x.dp, _) :: _) => l9
              rw [← hT5] at N99 S6 l9
              rw [List.push_toArray] at N99
              refine hret _ _ _ _ _ ⟨by assumption, by assumption, by assumption, by assumption, by assumption⟩ F99 N99 ?_
              refine addok_pack_new S6 ?_ habp oPn9 oPm9 hrow2 hdup2 hnoab htl hx1 hx2 hits hx3' hx5 kN5 kO5 hM kT5 oT5 sT5 hk3 oN5 sN5 lN5 hup'
              exact tbn_neAll l9
            · have hv1 : valueAt (dlKV M.pn) hd' = some (.ref e) := by rw [hpn]; exact dlKV_some (e := (e, l, n)) hda
              have hl5 : l.length ≤ B := by have := hM.sp; rw [hpn] at this; exact this (hd', e, l, n) (by simp)
              have hsz : l.toArray.size ≤ sizeLine := by rw [sizeLine_eq, List.size_toArray]; k_extra "o"
              rw [← hT5] at N21 S6
              rw [hpn, dlL_split] at N21 S6
              have N22 := touch2_fwd (prL w x (.ref li) .none ((li, listOf #[] 0) :: (sy, listOf (strV its).toArray n') :: stP w G { M with te := te5, teo := teo', upo := upo', nt := nt5, nto := nto5 } pco pt [pv1, pv2] npt)) (dlL te5) (dlL nt5) (dlL da) (dlL db) R (x := (e, listOf l.toArray n)) N21
              have S22 := touch2_sepF (prL w x (.ref li) .none ((li, listOf #[] 0) :: (sy, listOf (strV its).toArray n') :: stP w G { M with te := te5, teo := teo', upo := upo', nt := nt5, nto := nto5 } pco pt [pv1, pv2] npt)) (dlL te5) (dlL nt5) (dlL da) (dlL db) R (x := (e, listOf l.toArray n)) (y := (e, listOf l.toArray n)) rfl S6
              clear N21
              dsimp only [stP, gmL, List.cons_append, List.nil_append] at N22 S22
              have z44q : ∃ T, dlL te5 ++ (dlL nt5 ++ ((dlL da ++ dlL db) ++ R)) = T := ⟨_, rfl⟩; refine xE1A1 z44q ?_; (try clear z44q); intro TAIL6 hT6
              rw [hT6] at N22 S22
              have q1 := allNe_of S22.ne
              have q2 : ∀ q ∈ TAIL6, q.1 ≠ e := fun q hq => S22.ne q (by repeat (first | exact hq | apply List.Mem.tail))
              have q3 : ∀ q ∈ TAIL6, q.1 ≠ G.lp := fun q hq => S22.tail.tail.tail.tail.tail.tail.tail.tail.tail.tail.ne q (by repeat (first | exact hq | apply List.Mem.tail))
              have q4 : ∀ q ∈ TAIL6, q.1 ≠ G.pm := fun q hq => S22.tail.tail.tail.tail.tail.tail.tail.tail.tail.tail.tail.ne q (by repeat (first | exact hq | apply List.Mem.tail))
              k_steps
              rename Fr _ _ _ _ => F99
              rename News _ _ _ _ => N99
              rename Obj.IsDictOf _ _ (stored _ row _) => oPm9
              rename Obj => po9
              rw [← hT6] at N99 S22
              simp only [List.push_toArray] at N99
              have N23 := touch2_back (prL w x (.ref li) .none ((li, listOf #[] 0) :: (sy, listOf (strV its).toArray n') :: stP w G { M with lpv := M.lpv ++ [.ref x.p], nlp := M.nlp + 1, pmo := po9, te := te5, teo := teo', upo := upo', nt := nt5, nto := nto5 } pco pt [pv1, pv2] npt)) (dlL te5) (dlL nt5) (dlL da) (dlL db) R (x := (e, listOf (l ++ [Value.ref x.p]).toArray (n + 1))) N99
              have S23 := touch2_sepB (prL w x (.ref li) .none ((li, listOf #[] 0) :: (sy, listOf (strV its).toArray n') :: stP w G { M with te := te5, teo := teo', upo := upo', nt := nt5, nto := nto5 } pco pt [pv1, pv2] npt)) (dlL te5) (dlL nt5) (dlL da) (dlL db) R (x := (e, listOf l.toArray n)) (y := (e, listOf (l ++ [Value.ref x.p]).toArray (n + 1))) rfl S22
              rw [← dlL_split da db hd' e (l ++ [Value.ref x.p]) (n + 1)] at N23 S23
              refine hret _ _ _ _ _ ⟨gT, gB, gX, gP, gD⟩ F99 N23 ?_
              exact addok_pack_old hpn hda S23 oPm9 hrow2 hdup2 hnoab htl hx1 hx2 hits hx3' hx5 kN5 kO5 hM kT5 oT5 sT5 hk3 oN5 sN5 lN5 hup' _ fun q hq => hq
end

section
open Builtin.Str
set_option maxHeartbeats 4000000 in
theorem addb_spec (prog : Program) (w : World) (G : GA) (B : Nat) (M : GM) (sy pt : Addr) (npt n2 : Nat) (hd' : Str) (th : Tok) (syms : List (Str × Tok)) (pco : Obj) (pv1 pv2 : Value) (R : Led)
    (hbad : hd' = S_ "b" ∨ hd' = S_ "error" ∨ hd' = S_ "B c") (hM : MOK prog w B M) (loT : (G.te == sysModules) = false)
    (hsep : Sep ((sy, listOf (strV syms).toArray n2) :: stL w G M pco pt [pv1, pv2] npt R)) :
    DoesS prog w 330 110 201 [.ref G.g, .str hd' th, .ref sy] (.ref 156) ((sy, listOf (strV syms).toArray n2) :: stL w G M pco pt [pv1, pv2] npt R) (fun r nws => False) (fun nws => AddE prog w G B M pco pt [pv1, pv2] npt R nws) := by
  k_with_none
  k_with "o" => (first | (with_reducible first | assumption | (show (_ : Nat) ≤ _; first | exact Nat.le_of_ble_eq_true rfl | exact Nat.zero_le _ | exact Nat.le_of_lt ‹_› | exact Nat.le_of_eq ‹_› | exact oM ‹_› | exact oL ‹_› | exact oJ | exact oK | exact qE ‹_› | exact qG ‹_› | exact oS ‹_› rfl | exact oSE ‹_› ‹_› rfl | exact oA ‹_› rfl | exact oB ‹_› rfl | exact oG ‹_› rfl | exact oE ‹_› ‹_› rfl | exact oF ‹_› ‹_› rfl | exact oH ‹_› ‹_› rfl | exact oI ‹_› ‹_› rfl | exact oQ ‹_› ‹_› rfl | exact oQ3 ‹_› ‹_› ‹_› rfl | exact xE ‹_› ‹_› rfl | exact xA ‹_› | exact xB ‹_› | exact xH ‹_› | exact xF ‹_› | exact xG ‹_› | exact xL ‹_› | exact xC ‹_› ‹_› ‹_› ‹_› rfl | exact xD ‹_› ‹_› ‹_› ‹_› ‹_› rfl | exact xK ‹_› rfl | exact xJ ‹_› ‹_› rfl | exact xI ‹_› ‹_› ‹_› rfl | exact wA ‹_› ‹_› ‹_› rfl | exact wB ‹_› ‹_› ‹_› rfl | exact yC ‹_› ‹_› ‹_› rfl | exact yE ‹_› | exact uB ‹_› ‹_› rfl | exact uF ‹_› | exact uM | exact uN | exact uO | exact uU ‹_› | exact uW ‹_› ‹_› | exact uX ‹_› ‹_› ‹_› rfl | exact uZ ‹_› ‹_› ‹_› rfl | exact vC ‹_› ‹_› rfl | exact vD ‹_› | exact vI | exact vJ | exact vL ‹_› | exact vN ‹_› ‹_› ‹_› rfl | exact vO ‹_› ‹_› ‹_› ‹_› ‹_› rfl | exact vP ‹_› ‹_› ‹_› rfl | exact vQ ‹_› ‹_› | exact vR ‹_› ‹_› ‹_› rfl | exact vT | exact Nat.min_le_left _ _ | exact Nat.le_trans ‹_› ‹_› | exact Nat.le_add_left _ _ | exact wC ‹_› ‹_› rfl | exact wI ‹_› ‹_› rfl | exact wG ‹_› ‹_› ‹_› rfl | exact wF ‹_› ‹_› ‹_›) | (show (_ : Nat) < _; first | exact Nat.le_of_ble_eq_true rfl | exact Nat.lt_succ_self _ | exact pA ‹_› rfl | exact pB ‹_› rfl | exact pG ‹_› rfl | exact pE ‹_› ‹_› rfl | exact pF ‹_› ‹_› rfl | exact pH ‹_› ‹_› rfl | exact pI ‹_› ‹_› rfl | exact pS ‹_› rfl | exact pSE ‹_› ‹_› rfl | exact qA ‹_› | exact qD ‹_› | exact qB ‹_› ‹_› | exact qC ‹_› | exact Nat.lt_of_le_of_ne ‹_› ‹_› | exact uC ‹_› ‹_› | exact uD ‹_› | exact uE ‹_› | exact uY ‹_› ‹_› | exact vG ‹_› ‹_› rfl | exact vH ‹_› | exact vK ‹_› ‹_› | exact qF ‹_› | exact zA ‹_› ‹_› | exact wK ‹_› | exact wH ‹_› rfl | exact wD ‹_› ‹_› ‹_› rfl | exact wE ‹_› ‹_› ‹_›) | (show (_ : Nat) = _; first | exact yA ‹_› | exact yB ‹_› | exact yD ‹_› | exact yS ‹_› | exact Nat.sub_add_comm ‹_› | exact Nat.add_sub_cancel' ‹_› | exact uV ‹_› | exact uJ | exact uK | exact uL | exact uP | exact uQ | exact uR | exact vE ‹_› ‹_› | exact zB | exact oZ) | (show ((_ : Nat) : Int) < 2 ^ 63; first | exact iA ‹_› rfl | exact iB ‹_› rfl | exact iE ‹_› ‹_› rfl | exact iI ‹_› ‹_› rfl) | (show ((_ : Nat) : Int) < 2 ^ 62; first | exact jA ‹_› rfl | exact jB ‹_› rfl | exact jE ‹_› ‹_› rfl) | (show ((_ : Nat) : Int) + 1 < 2 ^ 63; first | exact rA ‹_› rfl | exact rE ‹_› ‹_› rfl | exact rF ‹_› ‹_› rfl) | exact rT ‹_› ‹_› rfl | exact rM | exact rN | exact Int.natCast_nonneg _ | exact iM | exact jM | exact iP ‹_› | exact uS ‹_› | exact uT ‹_› | exact vF ‹_› | exact vM ‹_› | exact vS ‹_› | exact yF ‹_› | exact yT ‹_› | exact iS | exact iZ | exact iD ‹_› | exact iV) | omega)
  k_with "a" => (with_reducible assumption)
  k_with "kxs_still" => (((try dsimp only); (try (refine execs_gen ?_; intro zqt9)); (try k_fold); (try k_extra "bits_by_make")))
  k_with "bits_by_make" => ((try (rename Fr _ _ _ _ => zqF9; (fail_if_success (refine onlyM zqF9 ?_; goal_lacks ite List.lookup)); refine letF zqF9 ?_; clear zqF9; intro zqm9 zqF9)))
  k_with "cell_call" => (first | k_extra "a" | (refine List.mem_cons_of_mem _ ?_; k_extra "cell_call"))
  k_with "tb_start" => ((refine neN ?_; (try dsimp only); first | exact NeA.to (by k_extra "a") | exact NeA.to' (by k_extra "a") | (refine' ne_pos (by k_extra "a") (by k_extra "po")  ) | (refine' ne_pos' (by k_extra "a") (by k_extra "po")  ) | (refine' lt_pos (by k_extra "a") (by k_extra "po")  ) | (refine' lt_pos' (by k_extra "a") (by k_extra "po")  ) | exact Nat.ne_of_lt (by k_extra "a") | exact Nat.ne_of_gt (by k_extra "a") | (refine' lt_up (by k_extra "a") (by k_extra "a") (by k_extra "po")  ) | (refine' lt_up' (by k_extra "a") (by k_extra "a") (by k_extra "po")  ) | omega))
  k_with "tb_rel" => (first | (tbn_letter; first | k_extra "a" | (refine' lt_suf (by k_extra "a") (by k_extra "su")  ) | (refine' ne_suf (by k_extra "a") (by k_extra "su")  ) | (refine' lt_sufU (by k_extra "a") (by k_extra "a") (by k_extra "su")  ) | (refine tbn_neAll ?_; tbn_find) | (refine' tbn_neAll (allLt_up (by tbn_find) (by k_extra "o"))  )) | exact List.forall_mem_nil _ | (refine' lt_suf (by k_extra "a") (by exact Suf.refl)  ) | (refine' ne_suf (by k_extra "a") (by exact Suf.refl)  ) | exact lt_same (by k_extra "a") (by rfl) | (refine List.forall_mem_cons.mpr ⟨?_, ?_⟩; (focus k_extra "tb_start"); k_extra "tb_rel"))
  k_with "k_upd" => (first | (refine Upd.head ?_; k_extra "tb_rel") | (apply Upd.tail; (focus k_extra "tb_start"); k_upd))
  k_with "k_updF" => (first | (refine UpdF.head ?_; k_extra "tb_rel") | (apply UpdF.tail; (focus k_extra "tb_start"); k_updF))
  k_with "execs cons" => ((k_extra "kxs_still"; refine wpAny_execs_cons ?_))
  k_with "po" => (first | exact PosA.head | (refine PosA.tail ?_; k_extra "po"))
  k_with "su" => (first | exact Suf.refl | (refine Suf.tail ?_; k_extra "su"))
  k_with "enter0" => (k_dflt (refine' code0 (by k_asm) (by k_asm) (by k_asm) (by k_asm) (by k_asm) (by exact rfl) (by exact rfl) (by assumption) (by k_is) (by k_is) (by k_room) (by first | exact BindsTo.of_eq rfl | exact binds_K (by k_in) rfl (by k_is) rfl rfl rfl | fail "enter0") (by exact locs rfl) ?_ (by exact rfl) (by exact rfl) (by exact rfl) (by decide); k_whole; intro zqg' zqL' zqh' zqFG' zqF' zqN' zqB' zqX' zqT' zqD'; (try dsimp only); (try k_lift zqB'); (try k_fold)))
  k_with "compareOp In str ref" => ((k_here; (with_reducible show wpAny _ _ (compareOp CmpOp.In (Value.str _ _) (Value.ref _)) _ _ _); k_dflt (refine' in_strs (by k_asm) (by k_mem) ?_; k_whole)))
  k_with "eval Attribute Name" => ((k_here; k_dflt (refine' attr_own (by k_asm) (by rfl) (by k_asm) (by k_inst) (by k_is) (by k_is) (by k_is) (by k_is) (by k_get) (by k_handed) ?_ (by rfl) (by rfl); k_whole)))
  k_with "compareOp In str ref" => ((k_here; (with_reducible show wpAny _ _ (compareOp CmpOp.In (Value.str _ _) (Value.ref _)) _ _ _); k_dflt (first | (refine' kda_in (knd := PySem.strKind _ _) (by k_asm) (by k_mem) (by k_asm) (by k_asm) (strKind_is _ _ _ _) false (by k_extra "a") ?_; k_whole) | (refine' kda_in (knd := PySem.strKind _ _) (by k_asm) (by k_mem) (by k_asm) (by k_asm) (strKind_is _ _ _ _) true (by k_extra "a") ?_; k_whole))))
  k_with "call ref" => ((k_here; (with_reducible show wpAny _ _ (call (Value.ref 39) [Value.str _ _]) _ _ _); k_dflt (refine' ident_call (by k_asm) (by k_asm) (by k_asm) (by k_asm) (by k_asm) (by exact rfl) (by exact rfl) (by exact Nat.le_of_ble_eq_true rfl) (by exact rfl) (by exact Nat.le_of_ble_eq_true rfl) (by exact rfl) _ (by with_reducible first | assumption | exact isId_a | exact isId_A | exact isId_S | exact isId_B | exact isId_D | exact isId_error | exact isId_b | exact isId_Bc | exact isId_prec) (by first | assumption | decide +kernel) (by first | assumption | decide +kernel) (by first | assumption | decide +kernel) ?_; k_whole); intro zqh' zqtk' zqF' zqN'; (try k_sweep)))
  k_with "binaryOp Mod str ref" => ((k_here; (with_reducible show wpAny _ _ (binaryOp Operator.Mod (Value.str (Str.ofString "%s:%d: Illegal rule name %r. Already defined as a token") _) (Value.ref _)) _ _ _); k_dflt (refine' mod_F1 (by k_asm) (by k_mem) (by first | k_extra "a" | decide +kernel | k_extra "o") (by first | k_extra "a" | decide +kernel | k_extra "o") (by first | k_extra "a" | decide +kernel | k_extra "o") ?_  ); intro zqt' zqk'; (try dsimp only); (try k_sweep)))
  k_with "binaryOp Mod str ref" => ((k_here; (with_reducible show wpAny _ _ (binaryOp Operator.Mod (Value.str (Str.ofString "%s:%d: Illegal rule name %r") _) (Value.ref _)) _ _ _); k_dflt (refine' mod_F3 (by k_asm) (by k_mem) (by first | k_extra "a" | decide +kernel | k_extra "o") (by first | k_extra "a" | decide +kernel | k_extra "o") (by first | k_extra "a" | decide +kernel | k_extra "o") ?_  ); intro zqt' zqk'; (try dsimp only); (try k_sweep)))
  intro mean mg mb cn cs a ccd ce A₀ h₀ g₀ g L m s Q E Gg X₀ T₀ F N hk hret herr
  obtain ⟨csk, csn, csg, csc, csm⟩ := cs
  dsimp only at hk
  subst hk
  obtain ⟨gT, gB, gX, gP, gD⟩ := Gg
  have oTe := hM.te
  have kTe := hM.tk
  have fin : AddE prog w G B M pco pt [pv1, pv2] npt R ((sy, listOf (strV syms).toArray n2) :: stL w G M pco pt [pv1, pv2] npt R) := ⟨M.te, M.teo, M.upo, hM, fun q hq => .tail _ hq, hsep.tail⟩
  generalize hNW : ((sy, listOf (strV syms).toArray n2) :: stL w G M pco pt [pv1, pv2] npt R) = NW at N fin
  have m1 : (G.te, M.teo) ∈ NW := by rw [← hNW]; exact .tail _ (.head _)
  have m2 : (G.g, instObj 283 G.dg) ∈ NW := by rw [← hNW]; simp
  have m3 : (G.dg, gramD w G) ∈ NW := by rw [← hNW]; simp
  have r1 : (reprText (Str.ofString "b")).length ≤ 1000 := by decide +kernel
  have r2 : (reprText (Str.ofString "error")).length ≤ 1000 := by decide +kernel
  have r3 : (reprText (Str.ofString "B c")).length ≤ 1000 := by decide +kernel
  refine wpAny_call ?_
  k_dflt kts_go
  focus (refine xO3 (hbad) ?_ ?_ ?_; (try clear hbad); intro w1q; obtain rfl := w1q; rotate_left 1; (try clear hbad); intro w2q; obtain rfl := w2q; rotate_left 1; (try clear hbad); intro w3q; obtain rfl := w3q; rotate_left 1)
  · have hv : (valueAt (dlKV M.te) (Str.ofString "b")).isSome = true := by
      rw [valueAt_isSome]
      rcases kTe with h | h <;> rw [h] <;> decide +kernel
    dsimp only [S_] at *
    k_steps
    rename Fr g L _ m => FG9
    rename RaisedS _ _ _ _ _ _ _ _ _ => R9
    exact herr _ _ _ _ _ FG9 R9.toSN (by assumption) (let ⟨a, b, c, f1, f2, f3⟩ := fin; ⟨a, b, c, f1, fun q hq => .tail _ (f2 q hq), f3⟩)
  · have hv : (valueAt (dlKV M.te) (Str.ofString "error")).isSome = true := by
      rw [valueAt_isSome]
      rcases kTe with h | h <;> rw [h] <;> decide +kernel
    dsimp only [S_] at *
    k_steps
    rename Fr g L _ m => FG9
    rename RaisedS _ _ _ _ _ _ _ _ _ => R9
    exact herr _ _ _ _ _ FG9 R9.toSN (by assumption) (let ⟨a, b, c, f1, f2, f3⟩ := fin; ⟨a, b, c, f1, fun q hq => .tail _ (f2 q hq), f3⟩)
  · have hv : (valueAt (dlKV M.te) (Str.ofString "B c")).isSome = false := by
      rw [valueAt_isSome]
      rcases kTe with h | h <;> rw [h] <;> decide +kernel
    dsimp only [S_] at *
    k_steps
    rename Fr g L _ m => FG9
    rename RaisedS _ _ _ _ _ _ _ _ _ => R9
    exact herr _ _ _ _ _ FG9 R9.toSN (by assumption) (let ⟨a, b, c, f1, f2, f3⟩ := fin; ⟨a, b, c, f1, fun q hq => .tail _ (f2 q hq), f3⟩)
end

noncomputable def ListIs (K : Frag) (news : Led) (a : Addr) (vs : List Value) : Prop := (∃ n, (a, listOf vs.toArray n) ∈ news) ∨ ∃ n, K.lookup a = some (listOf vs.toArray n)
theorem ListIs.at_ {K : Frag} {news nws : Led} {a L : Addr} {vs : List Value} {g h : Heap} (H : ListIs K nws a vs) (N : News g L h news) (X : K.In h) (hs : ∀ q ∈ nws, q ∈ news) : ∃ n, h.get? a = some (listOf vs.toArray n) := by
  focus (refine xO2 (H) ?_ ?_; (try clear H); intro w1q; refine xE1A1 w1q ?_; (try clear w1q); intro n hn; rotate_left 1; (try clear H); intro w2q; refine xE1A1 w2q ?_; (try clear w2q); intro n hn; rotate_left 1)
  · exact ⟨n, (N _ (hs _ hn)).1⟩
  · exact ⟨n, X _ _ hn⟩
section
variable {prog : Program} {w : World} {A : Around} {E : Value → Shared → Prop} {s : Shared} {K : Frag} {h₀ : Heap} {L a b : Addr} {m : Str → Option Value} {news nws : Led} {n n' : Nat} {Q : Value → Shared → Prop} {its jts : List (Str × Tok)}
theorem add_strs2 (F : Fr h₀ L s.heap m) (N : News h₀ L s.heap news) (X : K.In h₀) (ha : (a, listOf (strV its).toArray n) ∈ news) (hb : ListIs K nws b (strV jts)) (hs : ∀ q ∈ nws, q ∈ news) (hz : its.length + jts.length ≤ 100)
    (h : ∀ D h', Fr h₀ L h' m → News h₀ L h' ((D, listOf (strV (its ++ jts)).toArray 0) :: news) → (∀ p ∈ news, p.1 < D) → Q (.ref D) { s with heap := h' }) : wpAny (model prog w) A (binaryOp .Add (.ref a) (.ref b)) Q E s := by
  refine xE1A1 (hb.at_ N (X.keeps F.keep) hs) fun k hk => ?_
  exact kmk_add_lit (zs := strV (its ++ jts)) F N (N.isList ha) ⟨_, hk, rfl, _, rfl⟩ (by simp [strV]) h (by rw [sizeLine_eq]; simp; k_extra "o")
open Classical in
theorem isIn_list {oa : Obj} {xs : List Value} {ka : Nat} {ds : List Dat} {n₁ : Led} (F : Fr h₀ L s.heap m) (N : News h₀ L s.heap news) (X : K.In h₀) (ma : (a, oa) ∈ news) (ca : oa.cls = .type "list") (da : oa.data = .seq xs.toArray ka) (Da : DatAll n₁ xs ds) (sa : ∀ p ∈ n₁, p ∈ news)
    (hb : ListIs K nws b (strV jts)) (hs : ∀ q ∈ nws, q ∈ news) (ha : ∀ d ∈ ds, kqdOk 8 d = true) (hd : kqdOk 8 (.list (jts.map fun p => .str p.1)) = true) (hu : A.units + 64 < cLine) (h : Q (.bool (decide (Dat.list (jts.map fun p => .str p.1) ∈ ds))) s) : wpAny (model prog w) A (compareOp .In (.ref b) (.ref a)) Q E s := by
  refine xE1A1 (hb.at_ N (X.keeps F.keep) hs) fun k hk => ?_
  refine xE1A1 (kqd_all N 8 (Da.mono sa) ha) fun as ra => ?_
  have l := kqd_layL ha
  have ld := kqd_lay 8 _ hd
  have e : ((kqdPs ds).any fun y => PyData.eqv y (kqdP (.list (jts.map fun p => .str p.1)))) = decide (Dat.list (jts.map fun p => .str p.1) ∈ ds) := by
    by_cases hq : Dat.list (jts.map fun p => .str p.1) ∈ ds
    · rw [decide_eq_true hq]; exact (kqd_any ds _ ha hd).mpr hq
    · rw [decide_eq_false hq]; exact Bool.eq_false_iff.mpr fun z => hq ((kqd_any ds _ ha hd).mp z)
  have l2 := ld.2
  have rx : Reads s.heap (.ref b) (kqdP (.list (jts.map fun p => .str p.1))) [b] := by
    rw [kqdP]
    refine .list hk rfl rfl ?_
    have z : kqdPs (jts.map fun p => Dat.str p.1) = jts.map fun p => PyData.str p.1 := by
      clear hs hb hk hd ld e l2 h
      induction jts with
      | nil => rfl
      | cons p r ih => rw [List.map_cons, kqdPs, ih, List.map_cons]; rfl
    rw [z]
    exact reads_strV jts
  refine SeqAt.in_list_reads (reads_list_at (N.get ma) ca da (by simpa using ra)) rx l.1 ld.1 ?_ (by rw [e]; exact h)
  have := Nat.min_le_right (PyData.depthAll (kqdPs ds)) (kqdP (.list (jts.map fun p => .str p.1))).depth
  k_extra "o"
end
theorem sep_off3 {D D1 D2 D3 rl : Addr} {NW : Led} {o o1 o2 o3 : Obj} (S : Sep ((rl, o) :: NW)) (l1 : D < D1 ∧ rl < D1 ∧ AllLt D1 NW) (l2 : D1 < D2 ∧ D < D2 ∧ rl < D2 ∧ AllLt D2 NW) (l3 : D2 < D3 ∧ D1 < D3 ∧ D < D3 ∧ rl < D3 ∧ AllLt D3 NW) :
    Sep ((D3, o3) :: (D2, o2) :: (D1, o1) :: (rl, o) :: NW) := by
  have f1 : ∀ q ∈ (D, o) :: (rl, o) :: NW, q.1 ≠ D1 := tbn_neAll l1
  have f2 : ∀ q ∈ (D1, o1) :: (D, o) :: (rl, o) :: NW, q.1 ≠ D2 := tbn_neAll l2
  have f3 : ∀ q ∈ (D2, o2) :: (D1, o1) :: (D, o) :: (rl, o) :: NW, q.1 ≠ D3 := tbn_neAll l3
  refine Sep.cons (fun q hq => ?_) (Sep.cons (fun q hq => ?_) (Sep.cons (fun q hq => f1 q (.tail _ hq)) S))
  · rcases List.mem_cons.mp hq with rfl | hq
    · exact f3 _ (.head _)
    · rcases List.mem_cons.mp hq with rfl | hq
      · exact f3 _ (.tail _ (.head _))
      · exact f3 _ (.tail _ (.tail _ (.tail _ hq)))
  · rcases List.mem_cons.mp hq with rfl | hq
    · exact f2 _ (.head _)
    · exact f2 _ (.tail _ (.tail _ hq))
section
variable {w : World} {G : GA} {M : GM} {pco o0 o1 o2 o3 : Obj} {pt a0 a1 a2 a3 : Addr} {ptv : List Value} {npt : Nat} {R : Led}
theorem sep_in3 (S : Sep ((a0, o0) :: (a1, o1) :: (a2, o2) :: (a3, o3) :: stL w G M pco pt ptv npt R)) : Sep ((a0, o0) :: stL w G M pco pt ptv npt ((a1, o1) :: (a2, o2) :: (a3, o3) :: R)) := Sep.sub S fun k => by
  exact ledCnt [_, _, _, _, _, _, _, _, _, _, _, _, _, _] [_, _, _, _] (.c 0 <| .c 4 <| .c 5 <| .c 6 <| .c 7 <| .c 8 <| .c 9 <| .c 10 <| .c 11 <| .c 12 <| .c 13 <| .a (.l 0) <| .a (.l 1) <| .a (.l 2) <| .c 1 <| .c 2 <| .c 3 <| .l 3) (.c 0 <| .c 1 <| .c 2 <| .c 3 <| .c 4 <| .c 5 <| .c 6 <| .c 7 <| .c 8 <| .c 9 <| .c 10 <| .c 11 <| .c 12 <| .c 13 <| .a (.l 0) <| .a (.l 1) <| .a (.l 2) <| .l 3) rfl k
theorem mem_in3 {q : Addr × Obj} (h : q ∈ (a0, o0) :: stL w G M pco pt ptv npt ((a1, o1) :: (a2, o2) :: (a3, o3) :: R)) : q ∈ (a0, o0) :: (a1, o1) :: (a2, o2) :: (a3, o3) :: stL w G M pco pt ptv npt R := by
  exact ledIn [_, _, _, _, _, _, _, _, _, _, _, _, _, _] [_, _, _, _] (.c 0 <| .c 4 <| .c 5 <| .c 6 <| .c 7 <| .c 8 <| .c 9 <| .c 10 <| .c 11 <| .c 12 <| .c 13 <| .a (.l 0) <| .a (.l 1) <| .a (.l 2) <| .c 1 <| .c 2 <| .c 3 <| .l 3) (.c 0 <| .c 1 <| .c 2 <| .c 3 <| .c 4 <| .c 5 <| .c 6 <| .c 7 <| .c 8 <| .c 9 <| .c 10 <| .c 11 <| .c 12 <| .c 13 <| .a (.l 0) <| .a (.l 1) <| .a (.l 2) <| .l 3) rfl _ h
end
noncomputable abbrev rwV (rws : List RW) : List Value := rws.map fun r => .ref r.ra
open Classical in
noncomputable def goodT (tls : List (Str × Tok)) : Bool := decide (Dat.list (tls.map fun p => .str p.1) ∈ [Dat.list [], Dat.list [.str (Str.ofString "%prec"), .str (Str.ofString "a")]])
open Classical in
noncomputable def goodR (rws : List RW) (h : Str) (its : List (Str × Tok)) : Bool := !decide (rowD h (its.map (·.1)) ∈ rws.map (fun r => rowD r.name r.syms))
theorem notIn_rows {prog : Program} {w : World} {A : Around} {E : Value → Shared → Prop} {s : Shared} {h₀ : Heap} {L rl ra ta : Addr} {news NW : Led} {n1 k1 k2 : Nat} {rws : List RW} {hn : Str} {ht : Tok} {its : List (Str × Tok)} {Q : Value → Shared → Prop} (N : News h₀ L s.heap news) (ma : (rl, listOf (rwV rws).toArray n1) ∈ news) (hr : ∀ q ∈ rowsL rws, q ∈ NW) (hs : ∀ q ∈ NW, q ∈ news)
    (h1 : (ra, tupO [.str hn ht, .ref ta] k1) ∈ news) (h2 : (ta, tupO (strV its) k2) ∈ news) (ha : ∀ d ∈ rws.map (fun r => rowD r.name r.syms), kqdOk 8 d = true) (hd : kqdOk 8 (rowD hn (its.map (·.1))) = true) (hu : A.units + 64 < cLine) (h : Q (.bool (goodR rws hn its)) s) : wpAny (model prog w) A (compareOp .NotIn (.ref ra) (.ref rl)) Q E s :=
  kqd_notIn N ma rfl rfl (rows_all rws fun q hq => hs q (hr q hq)) (fun _ h => h) (row_in ⟨ra, ta, hn, its, ht, k1, k2⟩ h1 h2) (fun _ h => h) ha hd hu h

section
variable {prog : Program} {w : World} {mean : ExcName → Option Value} {mg mb : Str → Option Value} {cn : Str} {cs : Scope} {a : Addr} {ccd : Value} {ce : Env} {A A₀ : Around} {h₀ g₀ g : Heap} {L : Addr} {m : Str → Option Value} {s : Shared} {Q E : Value → Shared → Prop}
  {G : GA} {B : Nat} {M : GM} {sy pt : Addr} {npt n2 : Nat} {hd' : Str} {th : Tok} {syms : List (Str × Tok)} {pco : Obj} {pv1 pv2 : Value} {R nws0 : Led} {base tail : List Str}
theorem add_call (Gg : Gd w mean mg mb A₀ h₀ ce g₀ g) (X₀ : (hd.heap_1 w.params).In h₀) (T₀ : Top hdV LOOSE mean mg mb h₀) (F : Fr g L s.heap m) (N : News g L s.heap nws0) (hk : cs.kind = .function)
    (hh : A.handled = none) (hdp : A.depth ≤ 330) (hfr : A.frames = some (envOf cn cs L a ccd :: [ce])) (hg : A.guards = some []) (hu : A.units ≤ 110)
    (hbt : syms.map (·.1) = base ++ tail) (hb3 : base.length ≤ 3) (hb8 : ∀ x ∈ base, x ∈ S8) (ht4 : Tl4 tail) (h6 : hd' ∈ H3 ∨ hd' = S_ "b" ∨ hd' = S_ "error" ∨ hd' = S_ "B c")
    (hM : MOK prog w B M) (hB : B ≤ 500) (loT : (G.te == sysModules) = false) (loN : (G.nt == sysModules) = false) (loP : (G.pn == sysModules) = false) (loM : (G.pm == sysModules) = false) (loC : (G.pc == sysModules) = false)
    (hpc : pco.IsDictOf (PySem.strKind prog w) [(Str.ofString "a", .ref pt)])
    (hpm : ∀ e ∈ M.pm, ∃ (x : PR) (v1 v2 : Value), e.2 = .ref x.p ∧ (x.p, instObj 100 x.dp) ∈ R ∧ (x.dp, prodD w x v1 v2 (stOf x)) ∈ R ∧ (stOf x).length ≤ 1000)
    (hsep : Sep ((sy, listOf (strV syms).toArray n2) :: stL w G M pco pt [pv1, pv2] npt R)) (hsub : ∀ q ∈ (sy, listOf (strV syms).toArray n2) :: stL w G M pco pt [pv1, pv2] npt R, q ∈ nws0)
    (h1 : ∀ g' r nws h' tk', Gd w mean mg mb A₀ h₀ ce g₀ g' → Fr g' L h' m → News g' L h' nws → hd' ∈ H3 → AddOK prog w G B M pco pt [pv1, pv2] npt R hd' base tail nws → Q r { s with heap := h', toks := tk' })
    (h2 : ∀ G' e nws h' tk', Fr g L G' m → RaisedSN h₀ G' (envOf cn cs L a ccd :: [ce]) e (.ref 156) nws h' → G'.UpToSlots h' → AddE prog w G B M pco pt [pv1, pv2] npt R nws → (hd' ∈ H3 → BadRow M hd' base tail) → E (.ref e) { s with heap := h', toks := tk' }) :
    wpAny (model prog w) A (call (.ref 201) [.ref G.g, .str hd' th, .ref sy]) Q E s := by
  have N' : News g L s.heap ((sy, listOf (strV syms).toArray n2) :: stL w G M pco pt [pv1, pv2] npt R) := News.perm N hsub
  by_cases hh3 : hd' ∈ H3
  · have hte : (valueAt (dlKV M.te) hd').isSome = false := by
      rw [valueAt_isSome]
      simp only [H3, List.mem_cons, List.not_mem_nil, or_false] at hh3
      rcases hM.tk with h | h <;> rw [h] <;> rcases hh3 with rfl | rfl | rfl <;> decide +kernel
    have z : (hd' == Str.ofString "error") = false ∧ isId hd' = true ∧ hd'.cps.all (· < 128) = true ∧ hd'.length ≤ 16 ∧ 0 < hd'.length ∧ (reprText hd').length ≤ 1000 := by
      simp only [H3, List.mem_cons, List.not_mem_nil, or_false] at hh3
      rcases hh3 with rfl | rfl | rfl <;> decide +kernel
    refine xE0A6 z ?_; (try clear z); intro z1 z2 z3 z4 z5 z6
    exact around_up (addp_spec prog w G B M sy pt npt n2 hd' th syms pco pv1 pv2 R base tail hbt hb3 hb8 ht4 hte z1 z2 z3 z4 z5 z6 hM hB loT loN loP loM loC hpc hpm hsep mean mg mb cn cs a ccd ce A₀ h₀ g₀ g L m s Q E Gg X₀ T₀ F N' hk
      (fun g' r nws h' tk' G' F' N' hp => h1 g' r nws h' tk' G' F' N' hh3 hp) (fun G' e nws h' tk' F' R' U' hp => h2 G' e nws h' tk' F' R' U' hp.1 fun _ => hp.2)) hh hdp hfr.symm hg.symm hu
  · exact around_up (addb_spec prog w G B M sy pt npt n2 hd' th syms pco pv1 pv2 R (h6.resolve_left hh3) hM loT hsep mean mg mb cn cs a ccd ce A₀ h₀ g₀ g L m s Q E Gg X₀ T₀ F N' hk
      (fun g' r nws h' tk' G' F' N' hp => hp.elim) (fun G' e nws h' tk' F' R' U' hp => h2 G' e nws h' tk' F' R' U' hp fun q => absurd q hh3)) hh hdp hfr.symm hg.symm hu
end
section
variable {prog : Program} {w : World} {mean : ExcName → Option Value} {mg mb : Str → Option Value} {cn : Str} {cs : Scope} {a : Addr} {ccd : Value} {ce : Env} {A A₀ : Around} {h₀ g₀ g : Heap} {L : Addr} {m : Str → Option Value} {s : Shared} {Q E : Value → Shared → Prop}
  {G : GA} {B : Nat} {M : GM} {pt D D1 D2 D3 rl : Addr} {npt n1 : Nat} {hd' : Str} {th : Tok} {its tls : List (Str × Tok)} {pco o o1 o2 : Obj} {pv1 pv2 : Value} {R : Led} {rws : List RW}
theorem add_call3 (Gg : Gd w mean mg mb A₀ h₀ ce g₀ g) (X₀ : (hd.heap_1 w.params).In h₀) (T₀ : Top hdV LOOSE mean mg mb h₀) (F : Fr g L s.heap m) (N : News g L s.heap ((D3, listOf (strV (its ++ tls)).toArray 0) :: (D2, o2) :: (D1, o1) :: (D, o) :: (rl, listOf (rwV rws).toArray n1) :: stL w G M pco pt [pv1, pv2] npt (rowsL rws ++ R))) (hk : cs.kind = .function)
    (hh : A.handled = none) (hdp : A.depth ≤ 330) (hfr : A.frames = some (envOf cn cs L a ccd :: [ce])) (hg : A.guards = some []) (hu : A.units ≤ 110)
    (hb3 : its.length ≤ 3) (hb8 : ∀ x ∈ its.map (·.1), x ∈ S8) (ht4 : Tl4 (tls.map (·.1))) (h6 : hd' ∈ H3 ∨ hd' = S_ "b" ∨ hd' = S_ "error" ∨ hd' = S_ "B c")
    (hM : MOK prog w B M) (hB : B ≤ 500) (loT : (G.te == sysModules) = false) (loN : (G.nt == sysModules) = false) (loP : (G.pn == sysModules) = false) (loM : (G.pm == sysModules) = false) (loC : (G.pc == sysModules) = false)
    (hpc : pco.IsDictOf (PySem.strKind prog w) [(Str.ofString "a", .ref pt)])
    (hpm : ∀ e ∈ M.pm, ∃ (x : PR) (v1 v2 : Value), e.2 = .ref x.p ∧ (x.p, instObj 100 x.dp) ∈ R ∧ (x.dp, prodD w x v1 v2 (stOf x)) ∈ R ∧ (stOf x).length ≤ 1000)
    (S : Sep ((rl, listOf (rwV rws).toArray n1) :: stL w G M pco pt [pv1, pv2] npt (rowsL rws ++ R)))
    (l1 : D < D1 ∧ rl < D1 ∧ AllLt D1 (stL w G M pco pt [pv1, pv2] npt (rowsL rws ++ R))) (l2 : D1 < D2 ∧ D < D2 ∧ rl < D2 ∧ AllLt D2 (stL w G M pco pt [pv1, pv2] npt (rowsL rws ++ R))) (l3 : D2 < D3 ∧ D1 < D3 ∧ D < D3 ∧ rl < D3 ∧ AllLt D3 (stL w G M pco pt [pv1, pv2] npt (rowsL rws ++ R)))
    (h1 : ∀ g' r nws h' tk', Gd w mean mg mb A₀ h₀ ce g₀ g' → Fr g' L h' m → News g' L h' nws → hd' ∈ H3 → AddOK prog w G B M pco pt [pv1, pv2] npt ((D2, o2) :: (D1, o1) :: (rl, listOf (rwV rws).toArray n1) :: (rowsL rws ++ R)) hd' (its.map (·.1)) (tls.map (·.1)) nws → Q r { s with heap := h', toks := tk' })
    (h2 : ∀ G' e nws h' tk', Fr g L G' m → RaisedSN h₀ G' (envOf cn cs L a ccd :: [ce]) e (.ref 156) nws h' → G'.UpToSlots h' → AddE prog w G B M pco pt [pv1, pv2] npt ((D2, o2) :: (D1, o1) :: (rl, listOf (rwV rws).toArray n1) :: (rowsL rws ++ R)) nws → (hd' ∈ H3 → BadRow M hd' (its.map (·.1)) (tls.map (·.1))) → E (.ref e) { s with heap := h', toks := tk' }) :
    wpAny (model prog w) A (call (.ref 201) [.ref G.g, .str hd' th, .ref D3]) Q E s := by
  refine add_call (n2 := 0) (base := its.map (·.1)) (tail := tls.map (·.1)) Gg X₀ T₀ F N hk hh hdp hfr hg hu List.map_append (by rw [List.length_map]; exact hb3) hb8 ht4 h6 hM hB loT loN loP loM loC hpc ?hpm (sep_in3 (sep_off3 S l1 l2 l3)) (fun q hq => ?hsub) h1 h2
  case hpm =>
    intro e he
    refine xE3A4 (hpm e he) fun x v1 v2 z1 z2 z3 z4 => ?_
    exact (yE3A4 x v1 v2 z1 (by simp [z2]) (by simp only [List.mem_cons, List.mem_append, z3, or_true]) z4)
  case hsub =>
    have z := mem_in3 hq
    rcases List.mem_cons.mp z with z | z
    · rw [z]; exact .head _
    · rcases List.mem_cons.mp z with z | z
      · rw [z]; exact .tail _ (.head _)
      · rcases List.mem_cons.mp z with z | z
        · rw [z]; exact .tail _ (.tail _ (.head _))
        · exact .tail _ (.tail _ (.tail _ (.tail _ z)))
end

structure RelR (M : GM) (rws : List RW) : Prop where
  rel : ∃ r0 rs, rws = r0 :: rs ∧ r0.name ∉ H3 ∧ M.pm.map (·.1) = rs.map (fun r => rowT r.name r.syms) ∧ ∀ r ∈ rs, r.name ∈ H3 ∧ r.syms.length ≤ 3 ∧ ∀ x ∈ r.syms, x ∈ N7
theorem valueAt_some_iff {kvs : List (Str × Value)} {k : Str} : (valueAt kvs k).isSome = true ↔ k ∈ kvs.map (·.1) := by
  unfold valueAt
  rw [Option.isSome_map, List.find?_isSome, List.mem_map]
  constructor
  · intro z1q; refine xE1A2 z1q ?_; (try clear z1q); intro e he q
    exact ⟨e, he, by simpa using q⟩
  · intro z2q; refine xE1A2 z2q ?_; (try clear z2q); intro e he q
    exact ⟨e, he, by simpa using q⟩
theorem nrm7 {x : Str} (h : x ∈ S8) (hn : x ≠ S_ "'ab'") : nrm x ∈ N7 := by
  simp only [S8, List.mem_cons, List.not_mem_nil, or_false] at h
  focus (refine xO8 (h) ?_ ?_ ?_ ?_ ?_ ?_ ?_ ?_; (try clear h); intro w1q; obtain rfl := w1q; rotate_left 1; (try clear h); intro w2q; obtain rfl := w2q; rotate_left 1; (try clear h); intro w3q; obtain rfl := w3q; rotate_left 1; (try clear h); intro w4q; obtain rfl := w4q; rotate_left 1; (try clear h); intro w5q; obtain rfl := w5q; rotate_left 1; (try clear h); intro w6q; obtain rfl := w6q; rotate_left 1; (try clear h); intro w7q; obtain rfl := w7q; rotate_left 1; (try clear h); intro w8q; obtain rfl := w8q; rotate_left 1)
  all_goals first | exact absurd rfl hn | decide +kernel
theorem nrm7_all {base : List Str} (h8 : ∀ x ∈ base, x ∈ S8) (hab : S_ "'ab'" ∉ base) : ∀ x ∈ base.map nrm, x ∈ N7 := fun x hx => by
  refine xE1A2 (List.mem_map.mp hx) fun y hy z3q => ?_; obtain rfl := z3q
  exact nrm7 (h8 y hy) fun e => hab (e ▸ hy)
theorem rowD_mem {rws : List RW} {h : Str} {l : List Str} : rowD h l ∈ rws.map (fun r => rowD r.name r.syms) ↔ ∃ r ∈ rws, r.name = h ∧ r.syms = l := by
  rw [List.mem_map]
  constructor
  · intro z4q; refine xE1A2 z4q ?_; (try clear z4q); intro r hr e
    exact ⟨r, hr, rowD_inj e⟩
  · intro z5q; refine xE1A3 z5q ?_; (try clear z5q); intro r hr z6q z7q; obtain rfl := z6q; obtain rfl := z7q
    exact ⟨r, hr, rfl⟩
open Classical in
theorem goodT_iff {tls : List (Str × Tok)} : goodT tls = true ↔ tls.map (·.1) = [] ∨ tls.map (·.1) = [S_ "%prec", S_ "a"] := by
  have e : ∀ l : List Str, Dat.list (tls.map fun p => Dat.str p.1) = Dat.list (l.map Dat.str) ↔ tls.map (·.1) = l := by
    intro l
    rw [Dat.list.injEq, show (tls.map fun p => Dat.str p.1) = (tls.map (·.1)).map Dat.str by simp]
    exact List.map_inj_right (fun a b h => Dat.str.inj h)
  unfold goodT
  rw [decide_eq_true_iff, List.mem_cons, List.mem_singleton]
  exact or_congr (e []) (e [S_ "%prec", S_ "a"])
open Classical in
theorem goodR_iff {rws : List RW} {h : Str} {its : List (Str × Tok)} : goodR rws h its = true ↔ ¬ ∃ r ∈ rws, r.name = h ∧ r.syms = its.map (·.1) := by
  unfold goodR
  rw [Bool.not_eq_true', decide_eq_false_iff_not, rowD_mem]
theorem ab_iff {its : List (Str × Tok)} : ((its.map fun x : Str × Tok => x.1).any fun x => x == Str.ofString "'ab'") = true ↔ S_ "'ab'" ∈ its.map (·.1) := by
  rw [List.any_eq_true]
  constructor
  · intro z8q; refine xE1A2 z8q ?_; (try clear z8q); intro x hx e
    rw [show S_ "'ab'" = x from (eq_of_beq e).symm]
    exact hx
  · intro h
    exact ⟨_, h, beq_self_eq_true _⟩
theorem h3_iff {h : Str} : ([Str.ofString "S", Str.ofString "A", Str.ofString "B"].any fun x => x == h) = true ↔ h ∈ H3 := by
  rw [List.any_eq_true]
  constructor
  · intro z9q; refine xE1A2 z9q ?_; (try clear z9q); intro x hx e
    rw [← eq_of_beq e]
    exact hx
  · intro h
    exact ⟨_, h, beq_self_eq_true _⟩
theorem good_true {M : GM} {rws : List RW} {h : Str} {its its' tls : List (Str × Tok)} (H : RelR M rws) (hh : h ∈ H3) (hab : S_ "'ab'" ∉ its.map (·.1)) (ht : tls.map (·.1) = [] ∨ tls.map (·.1) = [S_ "%prec", S_ "a"])
    (hd : (valueAt M.pm (rowT h ((its.map (·.1)).map nrm))).isSome = false) (hits : its'.map (·.1) = (its.map (·.1)).map nrm) :
    (([Str.ofString "S", Str.ofString "A", Str.ofString "B"].any fun x => x == h) && !((its.map fun x : Str × Tok => x.1).any fun x => x == Str.ofString "'ab'") && goodT tls && goodR rws h its') = true := by
  have z : ((its.map fun x : Str × Tok => x.1).any fun x => x == Str.ofString "'ab'") = false := Bool.eq_false_iff.mpr fun q => hab (ab_iff.mp q)
  rw [h3_iff.mpr hh, goodT_iff.mpr ht, z]
  simp only [Bool.not_false, Bool.and_true, Bool.true_and]
  refine xE2A4 (H.rel) fun r0 rs z10q hr0 hpm hrs => ?_; obtain rfl := z10q
  refine goodR_iff.mpr ?_
  intro z11q; refine xE1A3 z11q ?_; (try clear z11q); intro r hr z12q hs; obtain rfl := z12q
  rcases List.mem_cons.mp hr with rfl | hr
  · exact hr0 hh
  · rw [hits] at hs
    rw [← hs] at hd
    have : (valueAt M.pm (rowT r.name r.syms)).isSome = true := by
      rw [valueAt_some_iff, hpm]
      exact List.mem_map_of_mem (f := fun r : RW => rowT r.name r.syms) hr
    rw [this] at hd
    cases hd
theorem good_false {M : GM} {rws : List RW} {h : Str} {its its' tls : List (Str × Tok)} (H : RelR M rws) (h3 : its.length ≤ 3) (h8 : ∀ x ∈ its.map (·.1), x ∈ S8) (hb : h ∈ H3 → BadRow M h (its.map (·.1)) (tls.map (·.1))) (hits : its'.map (·.1) = (its.map (·.1)).map nrm) :
    (([Str.ofString "S", Str.ofString "A", Str.ofString "B"].any fun x => x == h) && !((its.map fun x : Str × Tok => x.1).any fun x => x == Str.ofString "'ab'") && goodT tls && goodR rws h its') = false := by
  by_cases hh : h ∈ H3
  · by_cases hab : S_ "'ab'" ∈ its.map (·.1)
    · rw [ab_iff.mpr hab]
      simp
    · focus (refine xO4 (hb hh) ?_ ?_ ?_ ?_; intro q; rotate_left 1; intro q; rotate_left 1; intro q; rotate_left 1; intro q; rotate_left 1)
      · exact absurd q hab
      · have : goodT tls = false := Bool.eq_false_iff.mpr fun z => by
          rcases goodT_iff.mp z with z | z <;> rw [q] at z <;> cases z
        rw [this]; simp
      · have : goodT tls = false := Bool.eq_false_iff.mpr fun z => by
          rcases goodT_iff.mp z with z | z <;> rw [q] at z
          · cases z
          · revert z; decide +kernel
        rw [this]; simp
      · have : goodR rws h its' = false := Bool.eq_false_iff.mpr fun z => by
          refine goodR_iff.mp z ?_
          refine xE2A4 (H.rel) fun r0 rs z13q hr0 hpm hrs => ?_; obtain rfl := z13q
          rw [valueAt_some_iff, hpm] at q
          refine xE1A2 (List.mem_map.mp q) fun r hr e => ?_
          refine xE0A3 (hrs r hr) fun z1 z2 z3 => ?_
          refine xE0A2 (rowT_inj z1 hh z2 z3 (by rw [List.length_map, List.length_map]; exact h3) (nrm7_all h8 hab) e) fun e1 e2 => ?_
          exact (yE1A2 r (.tail _ hr) ⟨e1, by rw [hits]; exact e2⟩)
        rw [this]; simp
  · have : ([Str.ofString "S", Str.ofString "A", Str.ofString "B"].any fun x => x == h) = false := Bool.eq_false_iff.mpr fun q => hh (h3_iff.mp q)
    rw [this]; simp
noncomputable def OffR (prog : Program) (w : World) (G : GA) (B : Nat) (M : GM) (pco : Obj) (pt : Addr) (ptv : List Value) (npt : Nat) (rl : Addr) (lo : Obj) (R : Led) (nws : Led) : Prop :=
  ∃ te' teo' upo', MOK prog w B { M with te := te', teo := teo', upo := upo' } ∧ (∀ q ∈ (rl, lo) :: stL w G { M with te := te', teo := teo', upo := upo' } pco pt ptv npt R, q ∈ nws) ∧ Sep ((rl, lo) :: stL w G { M with te := te', teo := teo', upo := upo' } pco pt ptv npt R)
noncomputable def OffA (prog : Program) (w : World) (G : GA) (B : Nat) (M : GM) (pco : Obj) (pt : Addr) (ptv : List Value) (npt : Nat) (rl : Addr) (rws : List RW) (R : Led) (hd' : Str) (base : List Str) (nws : Led) : Prop :=
  hd' ∈ H3 ∧ S_ "'ab'" ∉ base ∧
  ∃ (M' : GM) (x : PR) (li : Addr) (rw : RW) (n1 : Nat), x.name = hd' ∧ x.syms = base.map nrm ∧ rw.name = hd' ∧ rw.syms = base.map nrm ∧ x.num = (M.lpv.length : Int) ∧ x.uv.map (·.1) = dedupS x.syms ∧ M'.lpv = M.lpv ++ [.ref x.p] ∧ M'.pm = M.pm ++ [(rowT hd' (base.map nrm), .ref x.p)] ∧
    (∀ s, dlGet M'.pn s = if s = hd' then dlGet M.pn s ++ [.ref x.p] else dlGet M.pn s) ∧ hd' ∈ M'.nt.map (·.1) ∧ (∀ k ∈ M.nt.map (·.1), k ∈ M'.nt.map (·.1)) ∧ MOK prog w (B + 10) M' ∧
    (∀ q ∈ (rl, listOf (rwV (rws ++ [rw])).toArray n1) :: stL w G M' pco pt ptv npt (prL w x (.ref li) .none (rowsL (rws ++ [rw]) ++ R)), q ∈ nws) ∧ Sep ((rl, listOf (rwV (rws ++ [rw])).toArray n1) :: stL w G M' pco pt ptv npt (prL w x (.ref li) .none (rowsL (rws ++ [rw]) ++ R)))
section
variable {prog : Program} {w : World} {G : GA} {B n1 : Nat} {M : GM} {pco lo : Obj} {pt rl D1 D2 : Addr} {o1 o2 : Obj} {ptv : List Value} {npt : Nat} {R nws nws' : Led} {rws : List RW} {hd' : Str} {th : Tok} {base tail : List Str} {its' : List (Str × Tok)}
theorem offR_pack (H : AddE prog w G B M pco pt ptv npt ((D2, o2) :: (D1, o1) :: (rl, lo) :: R) nws) (hs : ∀ q ∈ nws, q ∈ nws') : OffR prog w G B M pco pt ptv npt rl lo R nws' := by
  refine xE3A3 H ?_; (try clear H); intro te teo upo h1 h2 h3
  refine (yE3A3 te teo upo h1 (fun q hq => hs q (h2 q ?_)) (Sep.sub h3 fun k => ?_))
  · exact ledIn [_, _, _, _, _, _, _, _, _, _, _, _, _] [_, _, _, _] (.c 12 <| .c 0 <| .c 1 <| .c 2 <| .c 3 <| .c 4 <| .c 5 <| .c 6 <| .c 7 <| .c 8 <| .c 9 <| .a (.l 0) <| .a (.l 1) <| .a (.l 2) <| .l 3) (.c 0 <| .c 1 <| .c 2 <| .c 3 <| .c 4 <| .c 5 <| .c 6 <| .c 7 <| .c 8 <| .c 9 <| .a (.l 0) <| .a (.l 1) <| .a (.l 2) <| .c 10 <| .c 11 <| .c 12 <| .l 3) rfl _ hq
  · exact ledCnt [_, _, _, _, _, _, _, _, _, _, _, _, _] [_, _, _, _] (.c 12 <| .c 0 <| .c 1 <| .c 2 <| .c 3 <| .c 4 <| .c 5 <| .c 6 <| .c 7 <| .c 8 <| .c 9 <| .a (.l 0) <| .a (.l 1) <| .a (.l 2) <| .l 3) (.c 0 <| .c 1 <| .c 2 <| .c 3 <| .c 4 <| .c 5 <| .c 6 <| .c 7 <| .c 8 <| .c 9 <| .a (.l 0) <| .a (.l 1) <| .a (.l 2) <| .c 10 <| .c 11 <| .c 12 <| .l 3) rfl k
theorem offA_pack (hh : hd' ∈ H3) (hits : its'.map (·.1) = base.map nrm) {k1 k2 : Nat} (H : AddOK prog w G B M pco pt ptv npt ((D2, tupO [.str hd' th, .ref D1] k1) :: (D1, tupO (strV its') k2) :: (rl, lo) :: (rowsL rws ++ R)) hd' base tail nws) :
    ∃ NW2 : Led, (∀ q ∈ (rl, lo) :: (D2, tupO [.str hd' th, .ref D1] k1) :: (D1, tupO (strV its') k2) :: NW2, q ∈ nws) ∧ (∀ q ∈ (D2, tupO [.str hd' th, .ref D1] k1) :: (D1, tupO (strV its') k2) :: NW2, q.1 ≠ rl) ∧
      ∀ n nws', (∀ q ∈ (rl, listOf (rwV rws ++ [Value.ref D2]).toArray n) :: (D2, tupO [.str hd' th, .ref D1] k1) :: (D1, tupO (strV its') k2) :: NW2, q ∈ nws') → OffA prog w G B M pco pt ptv npt rl rws R hd' base nws' := by
  refine xE0A4 H ?_; (try clear H); intro hab ht hd z14q; refine xE3A12 z14q ?_; (try clear z14q); intro M' x li e1 e2 e3 e4 e5 e6 e7 e8 e9 e10 e11 e12
  have S : Sep ((rl, lo) :: (D2, tupO [.str hd' th, .ref D1] k1) :: (D1, tupO (strV its') k2) :: stL w G M' pco pt ptv npt (prL w x (.ref li) .none (rowsL rws ++ R))) := Sep.sub e12 fun k => by
    exact ledCnt [_, _, _, _, _, _, _, _, _, _, _, _, _, _, _, _, _] [_, _, _, _, _] (.c 16 <| .c 14 <| .c 15 <| .c 0 <| .c 1 <| .c 2 <| .c 3 <| .c 4 <| .c 5 <| .c 6 <| .c 7 <| .c 8 <| .c 9 <| .a (.l 0) <| .a (.l 1) <| .a (.l 2) <| .c 10 <| .c 11 <| .c 12 <| .c 13 <| .a (.l 3) <| .l 4) (.c 0 <| .c 1 <| .c 2 <| .c 3 <| .c 4 <| .c 5 <| .c 6 <| .c 7 <| .c 8 <| .c 9 <| .a (.l 0) <| .a (.l 1) <| .a (.l 2) <| .c 10 <| .c 11 <| .c 12 <| .c 13 <| .c 14 <| .c 15 <| .c 16 <| .a (.l 3) <| .l 4) rfl k
  refine (yE1A2 (stL w G M' pco pt ptv npt (prL w x (.ref li) .none (rowsL rws ++ R))) (fun q hq => e11 q ?_) ⟨S.ne, fun n nws' hs => ⟨hh, hab, M', x, li, ⟨D2, D1, hd', its', th, k1, k2⟩, n, e1, e2, rfl, hits, e3, e4, e5, e6, e7, e8, e9, e10, fun q hq => hs q ?_, ?_⟩⟩)
  · exact ledIn [_, _, _, _, _, _, _, _, _, _, _, _, _, _, _, _, _] [_, _, _, _, _] (.c 16 <| .c 14 <| .c 15 <| .c 0 <| .c 1 <| .c 2 <| .c 3 <| .c 4 <| .c 5 <| .c 6 <| .c 7 <| .c 8 <| .c 9 <| .a (.l 0) <| .a (.l 1) <| .a (.l 2) <| .c 10 <| .c 11 <| .c 12 <| .c 13 <| .a (.l 3) <| .l 4) (.c 0 <| .c 1 <| .c 2 <| .c 3 <| .c 4 <| .c 5 <| .c 6 <| .c 7 <| .c 8 <| .c 9 <| .a (.l 0) <| .a (.l 1) <| .a (.l 2) <| .c 10 <| .c 11 <| .c 12 <| .c 13 <| .c 14 <| .c 15 <| .c 16 <| .a (.l 3) <| .l 4) rfl _ hq
  · rw [show rwV (rws ++ [⟨D2, D1, hd', its', th, k1, k2⟩]) = rwV rws ++ [Value.ref D2] from List.map_append] at hq
    exact ledIn1 [_, _, _, _, _, _, _, _, _, _, _, _, _, _, _, _, _] [_, _, _, _, _, _] (.a (.l 4) <| .c 1 <| .c 2 <| .n) (.c 0 <| .c 3 <| .c 4 <| .c 5 <| .c 6 <| .c 7 <| .c 8 <| .c 9 <| .c 10 <| .c 11 <| .c 12 <| .a (.l 1) <| .a (.l 2) <| .a (.l 3) <| .c 13 <| .c 14 <| .c 15 <| .c 16 <| .a (.l 0) <| .l 5) (.c 0 <| .c 1 <| .c 2 <| .c 3 <| .c 4 <| .c 5 <| .c 6 <| .c 7 <| .c 8 <| .c 9 <| .c 10 <| .c 11 <| .c 12 <| .a (.l 1) <| .a (.l 2) <| .a (.l 3) <| .c 13 <| .c 14 <| .c 15 <| .c 16 <| .a (.l 4) <| .l 5) rfl (rowsL_append rws [⟨D2, D1, hd', its', th, k1, k2⟩]) _ hq
  · refine Sep.sub S fun k => ?_
    rw [rowsL_append]
    exact ledCnt2 [_, _, _, _, _, _, _, _, _, _, _, _, _, _, _, _, _] [_, _, _, _, _, _, _, _, _, _, _, _, _, _, _, _, _] [_, _, _, _, _] (.c 0 <| .c 3 <| .c 4 <| .c 5 <| .c 6 <| .c 7 <| .c 8 <| .c 9 <| .c 10 <| .c 11 <| .c 12 <| .a (.l 0) <| .a (.l 1) <| .a (.l 2) <| .c 13 <| .c 14 <| .c 15 <| .c 16 <| .a (.a (.l 3) <| .c 1 <| .c 2 <| .n) <| .l 4) (.c 0 <| .c 1 <| .c 2 <| .c 3 <| .c 4 <| .c 5 <| .c 6 <| .c 7 <| .c 8 <| .c 9 <| .c 10 <| .c 11 <| .c 12 <| .a (.l 0) <| .a (.l 1) <| .a (.l 2) <| .c 13 <| .c 14 <| .c 15 <| .c 16 <| .a (.l 3) <| .l 4) rfl rfl k
end
theorem rowD_ok {h : Str} {base : List Str} (h6 : h ∈ H3 ∨ h = S_ "b" ∨ h = S_ "error" ∨ h = S_ "B c") (h3 : base.length ≤ 3) (h8 : ∀ x ∈ base, x ∈ S8) : kqdOk 8 (rowD h (base.map nrm)) = true := by
  have e1 : PyData.strOk h = true := by
    simp only [H3, List.mem_cons, List.not_mem_nil, or_false] at h6
    rcases h6 with (rfl | rfl | rfl) | rfl | rfl | rfl <;> decide +kernel
  unfold rowD
  simp only [kqdOk, List.all_cons, List.all_nil, Bool.and_true, e1, Bool.true_and, List.all_map, List.all_eq_true]
  intro x hx
  have := h8 x hx
  simp only [S8, List.mem_cons, List.not_mem_nil, or_false] at this
  rcases this with rfl | rfl | rfl | rfl | rfl | rfl | rfl | rfl <;> decide +kernel

section
open LCg
set_option maxHeartbeats 4000000 in
theorem offered_spec (prog : Program) (w : World) (G : GA) (B : Nat) (M : GM) (rl sy tl pt : Addr) (npt : Nat) (hd' : Str) (th : Tok) (its tls : List (Str × Tok)) (n1 n2 : Nat) (rws : List RW) (pco : Obj) (pv1 pv2 : Value) (R : Led)
    (h3 : its.length ≤ 3) (h8 : ∀ x ∈ its.map (·.1), x ∈ S8) (ht4 : Tl4 (tls.map (·.1))) (h6 : hd' ∈ H3 ∨ hd' = S_ "b" ∨ hd' = S_ "error" ∨ hd' = S_ "B c")
    (hsy : (sy, listOf (strV its).toArray n2) ∈ R) (htl : ListIs (hd.heap_1 w.params) R tl (strV tls))
    (hrl : rws.length ≤ 100) (hrel : RelR M rws) (hok8 : ∀ d ∈ rws.map (fun r => rowD r.name r.syms), kqdOk 8 d = true) (hM : MOK prog w B M) (hB : B ≤ 500) (loT : (G.te == sysModules) = false) (loN : (G.nt == sysModules) = false) (loP : (G.pn == sysModules) = false) (loM : (G.pm == sysModules) = false) (loC : (G.pc == sysModules) = false)
    (hpc : pco.IsDictOf (PySem.strKind prog w) [(Str.ofString "a", .ref pt)])
    (hpm : ∀ e ∈ M.pm, ∃ (x : PR) (v1 v2 : Value), e.2 = .ref x.p ∧ (x.p, instObj 100 x.dp) ∈ R ∧ (x.dp, prodD w x v1 v2 (stOf x)) ∈ R ∧ (stOf x).length ≤ 1000)
    (hsep : Sep ((rl, listOf (rwV rws).toArray n1) :: stL w G M pco pt [pv1, pv2] npt (rowsL rws ++ R))) :
    Does0 prog w 320 100 314 [.ref G.g, .ref rl, .str hd' th, .ref sy, .ref tl] ((rl, listOf (rwV rws).toArray n1) :: stL w G M pco pt [pv1, pv2] npt (rowsL rws ++ R)) (fun r nws => r = .bool true ∧ ((OffR prog w G B M pco pt [pv1, pv2] npt rl (listOf (rwV rws).toArray n1) (rowsL rws ++ R) nws ∧ (hd' ∈ H3 → BadRow M hd' (its.map (·.1)) (tls.map (·.1)))) ∨ OffA prog w G B M pco pt [pv1, pv2] npt rl rws R hd' (its.map (·.1)) nws)) := by
  k_with_none
  k_with "o" => (first | (with_reducible first | assumption | (show (_ : Nat) ≤ _; first | exact Nat.le_of_ble_eq_true rfl | exact Nat.zero_le _ | exact Nat.le_of_lt ‹_› | exact Nat.le_of_eq ‹_› | exact oM ‹_› | exact oL ‹_› | exact oJ | exact oK | exact qE ‹_› | exact qG ‹_› | exact oS ‹_› rfl | exact oSE ‹_› ‹_› rfl | exact oA ‹_› rfl | exact oB ‹_› rfl | exact oG ‹_› rfl | exact oE ‹_› ‹_› rfl | exact oF ‹_› ‹_› rfl | exact oH ‹_› ‹_› rfl | exact oI ‹_› ‹_› rfl | exact oQ ‹_› ‹_› rfl | exact oQ3 ‹_› ‹_› ‹_› rfl | exact xE ‹_› ‹_› rfl | exact xA ‹_› | exact xB ‹_› | exact xH ‹_› | exact xF ‹_› | exact xG ‹_› | exact xL ‹_› | exact xC ‹_› ‹_› ‹_› ‹_› rfl | exact xD ‹_› ‹_› ‹_› ‹_› ‹_› rfl | exact xK ‹_› rfl | exact xJ ‹_› ‹_› rfl | exact xI ‹_› ‹_› ‹_› rfl | exact wA ‹_› ‹_› ‹_› rfl | exact wB ‹_› ‹_› ‹_› rfl | exact yC ‹_› ‹_› ‹_› rfl | exact yE ‹_› | exact uB ‹_› ‹_› rfl | exact uF ‹_› | exact uM | exact uN | exact uO | exact uU ‹_› | exact uW ‹_› ‹_› | exact uX ‹_› ‹_› ‹_› rfl | exact uZ ‹_› ‹_› ‹_› rfl | exact vC ‹_› ‹_› rfl | exact vD ‹_› | exact vI | exact vJ | exact vL ‹_› | exact vN ‹_› ‹_› ‹_› rfl | exact vO ‹_› ‹_› ‹_› ‹_› ‹_› rfl | exact vP ‹_› ‹_› ‹_› rfl | exact vQ ‹_› ‹_› | exact vR ‹_› ‹_› ‹_› rfl | exact vT | exact Nat.min_le_left _ _ | exact Nat.le_trans ‹_› ‹_› | exact Nat.le_add_left _ _ | exact wC ‹_› ‹_› rfl | exact wI ‹_› ‹_› rfl | exact wG ‹_› ‹_› ‹_› rfl | exact wF ‹_› ‹_› ‹_›) | (show (_ : Nat) < _; first | exact Nat.le_of_ble_eq_true rfl | exact Nat.lt_succ_self _ | exact pA ‹_› rfl | exact pB ‹_› rfl | exact pG ‹_› rfl | exact pE ‹_› ‹_› rfl | exact pF ‹_› ‹_› rfl | exact pH ‹_› ‹_› rfl | exact pI ‹_› ‹_› rfl | exact pS ‹_› rfl | exact pSE ‹_› ‹_› rfl | exact qA ‹_› | exact qD ‹_› | exact qB ‹_› ‹_› | exact qC ‹_› | exact Nat.lt_of_le_of_ne ‹_› ‹_› | exact uC ‹_› ‹_› | exact uD ‹_› | exact uE ‹_› | exact uY ‹_› ‹_› | exact vG ‹_› ‹_› rfl | exact vH ‹_› | exact vK ‹_› ‹_› | exact qF ‹_› | exact zA ‹_› ‹_› | exact wK ‹_› | exact wH ‹_› rfl | exact wD ‹_› ‹_› ‹_› rfl | exact wE ‹_› ‹_› ‹_›) | (show (_ : Nat) = _; first | exact yA ‹_› | exact yB ‹_› | exact yD ‹_› | exact yS ‹_› | exact Nat.sub_add_comm ‹_› | exact Nat.add_sub_cancel' ‹_› | exact uV ‹_› | exact uJ | exact uK | exact uL | exact uP | exact uQ | exact uR | exact vE ‹_› ‹_› | exact zB | exact oZ) | (show ((_ : Nat) : Int) < 2 ^ 63; first | exact iA ‹_› rfl | exact iB ‹_› rfl | exact iE ‹_› ‹_› rfl | exact iI ‹_› ‹_› rfl) | (show ((_ : Nat) : Int) < 2 ^ 62; first | exact jA ‹_› rfl | exact jB ‹_› rfl | exact jE ‹_› ‹_› rfl) | (show ((_ : Nat) : Int) + 1 < 2 ^ 63; first | exact rA ‹_› rfl | exact rE ‹_› ‹_› rfl | exact rF ‹_› ‹_› rfl) | exact rT ‹_› ‹_› rfl | exact rM | exact rN | exact Int.natCast_nonneg _ | exact iM | exact jM | exact iP ‹_› | exact uS ‹_› | exact uT ‹_› | exact vF ‹_› | exact vM ‹_› | exact vS ‹_› | exact yF ‹_› | exact yT ‹_› | exact iS | exact iZ | exact iD ‹_› | exact iV) | omega)
  k_with "a" => (with_reducible assumption)
  k_with "kxs_still" => (((try dsimp only); (try (refine execs_gen ?_; intro zqt9)); (try k_fold); (try k_extra "bits_by_make")))
  k_with "bits_by_make" => ((try (rename Fr _ _ _ _ => zqF9; (fail_if_success (refine onlyM zqF9 ?_; goal_lacks ite List.lookup)); refine letF zqF9 ?_; clear zqF9; intro zqm9 zqF9)))
  k_with "cell_call" => (first | k_extra "a" | (refine List.mem_cons_of_mem _ ?_; k_extra "cell_call"))
  k_with "tb_start" => ((refine neN ?_; (try dsimp only); first | exact NeA.to (by k_extra "a") | exact NeA.to' (by k_extra "a") | (refine' ne_pos (by k_extra "a") (by k_extra "po")  ) | (refine' ne_pos' (by k_extra "a") (by k_extra "po")  ) | (refine' lt_pos (by k_extra "a") (by k_extra "po")  ) | (refine' lt_pos' (by k_extra "a") (by k_extra "po")  ) | exact Nat.ne_of_lt (by k_extra "a") | exact Nat.ne_of_gt (by k_extra "a") | (refine' lt_up (by k_extra "a") (by k_extra "a") (by k_extra "po")  ) | (refine' lt_up' (by k_extra "a") (by k_extra "a") (by k_extra "po")  ) | omega))
  k_with "tb_rel" => (first | (tbn_letter; first | k_extra "a" | (refine' lt_suf (by k_extra "a") (by k_extra "su")  ) | (refine' ne_suf (by k_extra "a") (by k_extra "su")  ) | (refine' lt_sufU (by k_extra "a") (by k_extra "a") (by k_extra "su")  ) | (refine tbn_neAll ?_; tbn_find) | (refine' tbn_neAll (allLt_up (by tbn_find) (by k_extra "o"))  )) | exact List.forall_mem_nil _ | (refine' lt_suf (by k_extra "a") (by exact Suf.refl)  ) | (refine' ne_suf (by k_extra "a") (by exact Suf.refl)  ) | exact lt_same (by k_extra "a") (by rfl) | (refine List.forall_mem_cons.mpr ⟨?_, ?_⟩; (focus k_extra "tb_start"); k_extra "tb_rel"))
  k_with "k_upd" => (first | (refine Upd.head ?_; k_extra "tb_rel") | (apply Upd.tail; (focus k_extra "tb_start"); k_upd))
  k_with "k_updF" => (first | (refine UpdF.head ?_; k_extra "tb_rel") | (apply UpdF.tail; (focus k_extra "tb_start"); k_updF))
  k_with "execs cons" => ((k_extra "kxs_still"; refine wpAny_execs_cons ?_))
  k_with "po" => (first | exact PosA.head | (refine PosA.tail ?_; k_extra "po"))
  k_with "su" => (first | exact Suf.refl | (refine Suf.tail ?_; k_extra "su"))
  k_with "call type:tuple" => ((k_here; (with_reducible show wpAny _ _ (call (Value.type _) [Value.ref _]) _ _ _); k_dflt (refine' kde_tupleOf (by k_asm) (by k_asm) (by exact News.isList (by k_asm) (by k_mem)) (by exact size_dotV (by assumption) (by k_extra "o")) (by rfl) ?_; k_whole); intro zqD' zqh' zqF' zqN' zql1; (try k_lt zql1); (try k_sweep)))
  k_with "enter0" => (k_dflt (refine' code0 (by k_asm) (by k_asm) (by k_asm) (by k_asm) (by k_asm) (by exact rfl) (by exact rfl) (by assumption) (by k_is) (by k_is) (by k_room) (by first | exact BindsTo.of_eq rfl | exact binds_K (by k_in) rfl (by k_is) rfl rfl rfl | fail "enter0") (by exact locs rfl) ?_ (by exact rfl) (by exact rfl) (by exact rfl) (by decide); k_whole; intro zqg' zqL' zqh' zqFG' zqF' zqN' zqB' zqX' zqT' zqD'; (try dsimp only); (try k_lift zqB'); (try k_fold)))
  k_with "noteFrame ref" => ((k_here; (rename Heap.NewExc _ _ _ _ => zqneX); k_dflt (refine' here_hit (by assumption) (BornExc.ofNew zqneX) (by assumption) (by assumption) (by assumption) (by assumption) (by assumption) (by first | assumption | exact KtsTurn.refl) (by kts_test) ?_ (by rfl) (by passes_own); k_whole); clear zqneX; intro zqh' zqg' zqT' zqF' zqN' zqK' zqX' zqP' zqD'; (try k_sweep)))
  k_with "call builtin:list.append" => ((k_here; (with_reducible show wpAny _ _ (call (Value.builtin _) [Value.ref _, _]) _ _ _); k_dflt (refine' append_K (by k_asm) (by k_asm) (by k_upd) ?_ (by k_extra "a"); k_whole); intro zqh' zqF' zqN'; (try k_sweep)))
  k_with "call type:tuple" => ((k_here; (with_reducible show wpAny _ _ (call (Value.type _) [Value.ref _]) _ _ _); k_dflt (refine' kde_tupleOf (by k_asm) (by k_asm) (by exact News.isList (by k_asm) (by k_mem)) (by exact size_strV (by k_extra "o")) (by rfl) ?_; k_whole); intro zqD' zqh' zqF' zqN' zql1; (try k_lt zql1); (try k_sweep)))
  k_with "compareOp NotIn str ref" => ((k_here; (with_reducible show wpAny _ _ (compareOp CmpOp.NotIn (Value.str _ _) (Value.ref _)) _ _ _); k_dflt (refine' notin_strs (by k_asm) (by k_mem) ?_; k_whole)))
  k_with "compareOp In str ref" => ((k_here; (with_reducible show wpAny _ _ (compareOp CmpOp.In (Value.str _ _) (Value.ref _)) _ _ _); k_dflt (refine' in_strs (by k_asm) (by k_mem) ?_; k_whole)))
  k_with "binaryOp Add ref ref" => ((k_here; (with_reducible show wpAny _ _ (binaryOp _ (Value.ref _) (Value.ref _)) _ _ _); k_dflt (refine' add_strs (by k_asm) (by k_asm) (by k_mem) (by k_mem) (by k_extra "o") ?_; k_whole); intro zqD' zqh' zqF' zqN' zql1; (try k_lt zql1); (try k_sweep)))
  k_with "compareOp In" => ((k_here; (with_reducible show wpAny _ _ (compareOp CmpOp.In (Value.ref _) (Value.ref _)) _ _ _); k_dflt (refine' kqd_isIn (by k_asm) (by k_mem) (by rfl) (by rfl) (by kqd_all) (fun _ h => h) (by kqd_in) (fun _ h => h) (by first | assumption | (intro zqz0 zqz1; simp only [List.mem_cons, List.not_mem_nil, or_false] at zqz1; rcases zqz1 with rfl | rfl <;> decide +kernel)) (by first | assumption | rfl | kernel_rfl!) (by ke_room) ?_; k_whole)))
  k_with "compareOp NotIn" => ((k_here; (with_reducible show wpAny _ _ (compareOp CmpOp.NotIn (Value.ref _) (Value.ref _)) _ _ _); k_dflt (refine' kqd_notIn (by k_asm) (by k_mem) (by rfl) (by rfl) (by first | assumption | kqd_all) (fun _ h => h) (by kqd_in) (fun _ h => h) (by first | assumption | (intro zqz0 zqz1; simp only [List.mem_cons, List.not_mem_nil, or_false] at zqz1; rcases zqz1 with rfl | rfl <;> decide +kernel)) (by first | assumption | rfl | kernel_rfl!) (by ke_room) ?_; k_whole)))
  k_with "bits_by_make" => (skip)
  k_with "CompSrc" => (refine halt ?_)
  k_with "eval BoolOp" => (((with_reducible rename StopHere => zqstopX); clear zqstopX; refine halt ?_))
  k_with "compareOp In" => ((k_here; (with_reducible show wpAny _ _ (compareOp CmpOp.In (Value.ref _) (Value.ref _)) _ _ _); k_dflt (refine' isIn_list (by k_asm) (by k_asm) (by k_asm) (by k_mem) (by rfl) (by rfl) (by kqd_all) (fun _ h => h) (by k_extra "a") (by exact fun q hq => by repeat (first | exact hq | apply List.mem_cons_of_mem)) (by k_extra "a") (by k_extra "a") (by ke_room) ?_; k_whole)))
  k_with "binaryOp Add ref ref" => ((k_here; (with_reducible show wpAny _ _ (binaryOp _ (Value.ref _) (Value.ref _)) _ _ _); k_dflt (refine' add_strs2 (by k_asm) (by k_asm) (by k_asm) (by k_mem) (by k_extra "a") (by exact fun q hq => by repeat (first | exact hq | apply List.mem_cons_of_mem)) (by k_extra "o") ?_; k_whole); intro zqD' zqh' zqF' zqN' zql1; (try k_lt zql1); (try k_sweep)))
  k_with "compareOp NotIn" => ((k_here; (with_reducible show wpAny _ _ (compareOp CmpOp.NotIn (Value.ref _) (Value.ref _)) _ _ _); k_dflt (refine' notIn_rows (by k_asm) (by k_mem) (by k_extra "a") (by exact fun q hq => by repeat (first | exact hq | apply List.mem_cons_of_mem)) (by k_mem) (by k_mem) (by k_extra "a") (by k_extra "a") (by ke_room) ?_; k_whole)))
  k_with "call ref" => (((with_reducible show wpAny _ _ (call (Value.ref 201) _) _ _ _); refine halt ?_))
  intro mean mg mb cn cs a ccd cl A₀ h₀ L m s Q E Bl F X N T hk hret
  have hl2 : tls.length ≤ 2 := by
    rcases ht4 with h | h | h | h <;> (have := congrArg List.length h; simp only [List.length_map, List.length_cons, List.length_nil] at this; k_extra "o")
  generalize hNW : stL w G M pco pt [pv1, pv2] npt (rowsL rws ++ R) = NW at N hsep
  have hoff : ∀ q ∈ NW, q.1 ≠ rl := hsep.ne
  have m2 : (G.g, instObj 283 G.dg) ∈ NW := by rw [← hNW]; simp
  have m3 : (G.dg, gramD w G) ∈ NW := by rw [← hNW]; simp
  have hRN : ∀ q ∈ R, q ∈ NW := fun q hq => by rw [← hNW]; simp [hq]
  have m4 := hRN _ hsy
  have htl2 : ListIs (hd.heap_1 w.params) NW tl (strV tls) := htl.imp (fun ⟨n, h⟩ => ⟨n, hRN _ h⟩) id
  have hrowsN : ∀ q ∈ rowsL rws, q ∈ NW := fun q hq => by rw [← hNW]; simp [hq]
  refine wpAny_call ?_
  walk_at "enter0"
  k_steps
  unfold Halt
  rename Fr _ _ _ _ => F1
  rename News _ _ _ _ => N1
  refine CompSrc.ledger (its := (strV its).toArray) (k := n2) rfl F1 N1 (.tail _ m4) (by rw [sizeLine_eq]; simp; k_extra "o") fun g0 => ?_
  refine' CompRest_strs its (fun x => if x = Str.ofString "'.'" then Str.ofString "." else x) (by simp) (fun i v h => by simpa using h) (.inr ⟨listOf (strV its).toArray n2, .tail _ m4, rfl, _, rfl⟩) ?turn ?fin
  case turn =>
    intro i p I oI C oC D ys m₂ h tk E' hp hC hx F2 N2 off ne
    k_steps
    · rename (p.1 == _) = true => hb
      rw [if_pos (by simpa using hb)]
    · assumption
    · assumption
    · rename (p.1 == _) = false => hb
      rw [if_neg (by simpa using hb)]
    · assumption
    · assumption
  case fin =>
    intro its' hits D h tk F2 N2 off
    have h3' : its'.length ≤ 3 := by rw [← List.length_map (f := fun p : Str × Tok => p.1), hits, List.length_map]; exact h3
    clear F1 N1
    dsimp only
    have stopX := stopHere
    k_steps
    unfold Halt
    rename Fr _ _ _ _ => F3
    rename News _ _ _ _ => N3
    have hits2 : its'.map (·.1) = (its.map (·.1)).map nrm := by rw [hits, List.map_map]; rfl
    have hall8 : ∀ d ∈ rws.map (fun r => rowD r.name r.syms), kqdOk 8 d = true := hok8
    have hds : ∀ d ∈ [Dat.list [], Dat.list [Dat.str (Str.ofString "%prec"), Dat.str (Str.ofString "a")]], kqdOk 8 d = true := by
      intro d hd
      simp only [List.mem_cons, List.not_mem_nil, or_false] at hd
      rcases hd with rfl | rfl <;> decide +kernel
    have okT : kqdOk 8 (.list (tls.map fun p => .str p.1)) = true := by
      rw [show (tls.map fun p => Dat.str p.1) = (tls.map (·.1)).map Dat.str by simp]
      rcases ht4 with h | h | h | h <;> rw [h] <;> decide +kernel
    have okR : kqdOk 8 (rowD hd' (its'.map (·.1))) = true := by rw [hits2]; exact rowD_ok h6 (by rw [List.length_map]; exact h3) h8
    have hzR : (rwV rws).toArray.size ≤ sizeLine := by rw [sizeLine_eq, List.size_toArray, List.length_map]; k_extra "o"
    have z1q : ∃ b, ([Str.ofString "S", Str.ofString "A", Str.ofString "B"].any fun x => x == hd') = b := ⟨_, rfl⟩; refine xE1A1 z1q ?_; (try clear z1q); intro b1 hb1
    have z2q : ∃ b, ((its.map fun x : Str × Tok => x.1).any fun x => x == Str.ofString "'ab'") = b := ⟨_, rfl⟩; refine xE1A1 z2q ?_; (try clear z2q); intro b2 hb2
    refine' cut_bool F3 N3 (b1 && !b2 && goodT tls && goodR rws hd' its') ?cut ?after
    case cut =>
      k_steps
      all_goals first
        | (with_reducible show News _ _ _ _; rename News _ _ _ _ => N9; first | exact N9 | exact News.tail' N9 | exact News.tail' (News.tail' N9) | exact News.tail' (News.tail' (News.tail' N9)) | exact News.tail' (News.tail' (News.tail' (News.tail' N9))) | exact News.tail' (News.tail' (News.tail' (News.tail' (News.tail' N9)))))
        | (with_reducible show Fr _ _ _ _; rename Fr _ _ _ _ => F9; exact F9)
        | skip
      · rename List.any _ _ = true => e2
        rename List.any [_, _, _] _ = true => e1
        rw [e2, ← hb2, e2, ← hb1, e1]
        simp
      · rename decide _ = true => e3
        rename List.any [_, _, _] _ = true => e1
        rename List.any _ _ = false => e2
        rw [← hb2, e2, ← hb1, e1, show goodT tls = true from e3]
        simp
      · rename decide _ = false => e3
        rw [e3, show goodT tls = false from e3]
        simp
      · rename List.any [_, _, _] _ = false => e1
        rw [e1, ← hb1, e1]
        simp
    case after =>
      intro h' tk' F4 N4
      clear F3 N3
      k_steps
      unfold Halt
      rename Fr _ _ _ _ => F5
      rename News _ _ _ _ => N5
      rename AllLt _ ((D, _) :: _) => l1
      rename AllLt _ (_ :: (D, _) :: _) => l2
      rename AllLt _ (_ :: _ :: (D, _) :: _) => l3
      rw [← hNW] at N5 hsep l1 l2 l3
      refine add_call3 (Gg := ⟨KtsTurn.refl, by assumption, by assumption, by assumption, by assumption⟩) (by assumption) (by assumption) F5 N5 rfl rfl (Nat.le_of_ble_eq_true rfl) rfl rfl (Nat.le_of_ble_eq_true rfl)
        h3 h8 ht4 h6 hM hB loT loN loP loM loC hpc hpm hsep l1 l2 l3 ?ok ?err
      case ok =>
        intro g2 r nws2 h2 tk2 G2 F6 N6 hh3 hok
        obtain ⟨q1, q2, q3, q4, q5⟩ := G2
        have hgood := good_true hrel hh3 hok.1 hok.2.1 hok.2.2.1 hits2
        rw [hb1, hb2] at hgood
        refine xE1A3 (offA_pack hh3 hits2 hok) fun NW2 hsub2 hoff2 hfin => ?_
        have N7 := News.perm N6 hsub2
        have r9 : ∀ q ∈ NW2, q.1 ≠ rl := fun q hq => hoff2 q (.tail _ (.tail _ hq))
        have p9 := allNe_of hoff2
        clear N6
        rw [hgood] at F6
        k_steps
        rename Fr _ _ _ _ => F9
        rename News _ _ _ _ => N9
        rw [List.push_toArray] at N9
        exact hret _ _ _ _ F9 N9 ⟨rfl, .inr (hfin _ _ fun q hq => hq)⟩
      case err =>
        intro G2 e nws2 h2 tk2 F6 R6 U6 hae hbr
        have hbad := good_false hrel h3 h8 hbr hits2
        rw [hb1, hb2] at hbad
        rw [hbad] at F6
        k_steps
        rename Fr _ _ _ _ => F9
        rename News _ _ _ _ => N9
        exact hret _ _ _ _ F9 N9 ⟨rfl, .inl ⟨offR_pack hae fun q hq => hq, hbr⟩⟩
end

section
open LCg LCt
variable {prog : Program} {w : World} {A : Around} {h₀ : Heap} {L : Addr} {m : Str → Option Value} {env : Env} {ct elt : Expr} {x : Str} {scope : Scope} {cl : List (Str × Addr)} {s : Shared} {S : Led → Prop} {P : Nat → Value → Prop} {Fin : List Value → Led → Prop} {n : Nat}
noncomputable def CompJ (h₀ : Heap) (L : Addr) (m : Str → Option Value) (s : Shared) (I : Addr) (oI : Obj) (C : Addr) (oC : Obj) (D : Addr) (ys : List Value) (J : Value → Led → Prop) (y : Value) (s₂ : Shared) : Prop :=
  ∃ news' h' tk', s₂ = { s with heap := h', toks := tk' } ∧ Fr h₀ L h' m ∧ News h₀ L h' ((I, oI) :: (C, oC) :: (D, lst ys) :: news') ∧ Off3 I C D news' ∧ J y news'
theorem CompRest_J (J : Nat → List Value → Led → Prop) (hS : ∀ i ys news, J i ys news → S news)
    (turn : ∀ (i : Nat) v I oI C oC D ys m₂ h tk (E' : Value → Shared → Prop) news, i < n → P i v → J i ys news → NsObj oC m₂ → m₂ x = some v → Fr h₀ L h m → News h₀ L h ((I, oI) :: (C, oC) :: (D, lst ys) :: news) → Off3 I C D news → ((@Ne Nat I C) ∧ (@Ne Nat I D) ∧ (@Ne Nat C D)) →
      wpAny (model prog w) A (eval elt (compEnvC scope cl C env)) (CompJ h₀ L m s I oI C oC D ys (fun y => J (i + 1) (ys ++ [y]))) E' { s with heap := h, toks := tk })
    (fin : ∀ ys news, J n ys news → Fin ys news) : ∀ k i ys news, i + k = n → J i ys news → CompRest prog w A h₀ L m env elt x scope cl s S P Fin k i ys news := by
  intro k
  induction k with
  | zero =>
    intro i ys news hi hJ
    obtain rfl : i = n := by k_extra "o"
    exact CompRest.zero (fin ys news hJ)
  | succ k ih =>
    intro i ys news hi hJ
    refine CompRest.succ fun v I oI C oC D m₂ h tk E' hPv hC hx F N off ne => ?_
    refine wpAny_mono (turn i v I oI C oC D ys m₂ h tk E' news (by k_extra "o") hPv hJ hC hx F N off ne) (fun y s₂ hy => ?_) fun _ _ e => e
    refine xE3A5 hy ?_; (try clear hy); intro news' h' tk' z1q F' N' off' hJ'; obtain rfl := z1q
    exact CompEnd.intro (s₁ := { s with heap := h, toks := tk }) F' N' news' (fun p hp => hp) off' (hS _ _ _ hJ') (ih (i + 1) (ys ++ [y]) news' (by k_extra "o") hJ')
theorem CompRest_JT (J : Nat → List Value → Led → Prop) (hS : ∀ i ys news, J i ys news → S news)
    (turn : ∀ (i : Nat) v I oI C oC D ys m₂ h tk (E' : Value → Shared → Prop) news, i < n → P i v → J i ys news → NsObj oC m₂ → m₂ x = some v → Fr h₀ L h m → News h₀ L h ((I, oI) :: (C, oC) :: (D, lst ys) :: news) → Off3 I C D news → ((@Ne Nat I C) ∧ (@Ne Nat I D) ∧ (@Ne Nat C D)) →
      wpAny (model prog w) A (isTrue ct (compEnvC scope cl C env) (eval ct (compEnvC scope cl C env))) (fun ok s' => if ok = true then
        wpAny (model prog w) A (eval elt (compEnvC scope cl C env)) (CompJ h₀ L m s I oI C oC D ys (fun y => J (i + 1) (ys ++ [y]))) E' s'
        else CompJ h₀ L m s I oI C oC D ys (fun _ => J (i + 1) ys) Value.none s') E' { s with heap := h, toks := tk })
    (fin : ∀ ys news, J n ys news → Fin ys news) : ∀ k i ys news, i + k = n → J i ys news → CompRestT prog w A h₀ L m env ct elt x scope cl s S P Fin k i ys news := by
  intro k
  induction k with
  | zero =>
    intro i ys news hi hJ
    obtain rfl : i = n := by k_extra "o"
    exact CompRestT.zero (fin ys news hJ)
  | succ k ih =>
    intro i ys news hi hJ
    refine CompRestT.succ fun v I oI C oC D m₂ h tk E' hPv hC hx F N off ne => ?_
    refine wpAny_mono (turn i v I oI C oC D ys m₂ h tk E' news (by k_extra "o") hPv hJ hC hx F N off ne) (fun ok s₂ hy => ?_) fun _ _ e => e
    cases ok with
    | true =>
      rw [if_pos rfl] at hy ⊢
      refine wpAny_mono hy (fun y s₃ hy => ?_) fun _ _ e => e
      refine xE3A5 hy ?_; (try clear hy); intro news' h' tk' z2q F' N' off' hJ'; obtain rfl := z2q
      exact CompEnd.intro (s₁ := { s with heap := h, toks := tk }) F' N' news' (fun p hp => hp) off' (hS _ _ _ hJ') (ih (i + 1) (ys ++ [y]) news' (by k_extra "o") hJ')
    | false =>
      rw [if_neg (by decide)] at hy ⊢
      refine xE3A5 hy ?_; (try clear hy); intro news' h' tk' z3q F' N' off' hJ'; obtain rfl := z3q
      exact CompEnd.intro (s₁ := { s with heap := h, toks := tk }) F' N' news' (fun p hp => hp) off' (hS _ _ _ hJ') (ih (i + 1) ys news' (by k_extra "o") hJ')
end
section
open LCg LCt
variable {prog : Program} {w : World} {A : Around} {h₀ : Heap} {L : Addr} {m : Str → Option Value} {env : Env} {ct elt : Expr} {x : Str} {scope : Scope} {cl : List (Str × Addr)} {s : Shared} {S : Led → Prop} {P : Nat → Value → Prop} {Fin : List Value → Led → Prop} {n : Nat} {news : Led}
noncomputable def CompV (h₀ : Heap) (L : Addr) (m : Str → Option Value) (s : Shared) (l : Led) (J : Value → Prop) (y : Value) (s₂ : Shared) : Prop :=
  J y ∧ ∃ h' tk', s₂ = { s with heap := h', toks := tk' } ∧ Fr h₀ L h' m ∧ News h₀ L h' l
theorem CompRest_V (Jv : Nat → List Value → Prop) (hS : S news)
    (turn : ∀ (i : Nat) v I oI C oC D ys m₂ h tk (E' : Value → Shared → Prop), i < n → P i v → Jv i ys → NsObj oC m₂ → m₂ x = some v → Fr h₀ L h m → News h₀ L h ((I, oI) :: (C, oC) :: (D, lst ys) :: news) → Off3 I C D news → ((@Ne Nat I C) ∧ (@Ne Nat I D) ∧ (@Ne Nat C D)) →
      wpAny (model prog w) A (eval elt (compEnvC scope cl C env)) (CompV h₀ L m s ((I, oI) :: (C, oC) :: (D, lst ys) :: news) (fun y => Jv (i + 1) (ys ++ [y]))) E' { s with heap := h, toks := tk })
    (fin : ∀ ys, Jv n ys → Fin ys news) : ∀ k i ys, i + k = n → Jv i ys → CompRest prog w A h₀ L m env elt x scope cl s S P Fin k i ys news := by
  intro k
  induction k with
  | zero =>
    intro i ys hi hJ
    obtain rfl : i = n := by k_extra "o"
    exact CompRest.zero (fin ys hJ)
  | succ k ih =>
    intro i ys hi hJ
    refine CompRest.succ fun v I oI C oC D m₂ h tk E' hPv hC hx F N off ne => ?_
    refine wpAny_mono (turn i v I oI C oC D ys m₂ h tk E' (by k_extra "o") hPv hJ hC hx F N off ne) (fun y s₂ hy => ?_) fun _ _ e => e
    refine xE0A2 hy ?_; (try clear hy); intro hJ' z5q; refine xE2A3 z5q ?_; (try clear z5q); intro h' tk' z4q F' N'; obtain rfl := z4q
    exact CompEnd.intro (s₁ := { s with heap := h, toks := tk }) F' N' news (fun p hp => hp) off hS (ih (i + 1) (ys ++ [y]) (by k_extra "o") hJ')
end
theorem compJ_push {h₀ h' : Heap} {L I C D T : Addr} {m : Str → Option Value} {s : Shared} {oI oC o : Obj} {ys : List Value} {news : Led} {J : Value → Led → Prop} {tk' : Nat} (F : Fr h₀ L h' m) (N : News h₀ L h' ((T, o) :: (I, oI) :: (C, oC) :: (D, LCg.lst ys) :: news)) (off : LCg.Off3 I C D news)
    (l : I < T ∧ C < T ∧ D < T ∧ AllLt T news) (hJ : J (.ref T) ((T, o) :: news)) : CompJ h₀ L m s I oI C oC D ys J (.ref T) { s with heap := h', toks := tk' } :=
  ⟨(T, o) :: news, h', tk', rfl, F, News.perm N fun q hq => by
    exact ledIn [_, _, _, _] [_] (.c 1 <| .c 2 <| .c 3 <| .c 0 <| .l 0) (.c 0 <| .c 1 <| .c 2 <| .c 3 <| .l 0) rfl _ hq, ⟨⟨Nat.ne_of_gt l.1, Nat.ne_of_gt l.2.1, Nat.ne_of_gt l.2.2.1⟩, off⟩, hJ⟩
structure TR where
  a : Addr
  n : Int
  t1 : Tok
  t2 : Tok
  t3 : Tok
noncomputable abbrev trV (l : List TR) : List Value := l.map fun t => .ref t.a
noncomputable abbrev trO (t : TR) : Addr × Obj := (t.a, tupO [.int t.n t.t1, .int t.n t.t2, .int 0 t.t3] 0)
theorem compJ_tr {h₀ h' : Heap} {L I C D T : Addr} {m : Str → Option Value} {s : Shared} {oI oC : Obj} {trs : List TR} {news FX : Led} {tk' : Nat} {z : Int} {t1 t2 t3 : Tok} {nums nums' : List Int} (F : Fr h₀ L h' m) (N : News h₀ L h' ((T, tupO [.int z t1, .int z t2, .int 0 t3] 0) :: (I, oI) :: (C, oC) :: (D, LCg.lst (trV trs)) :: news)) (off : LCg.Off3 I C D news)
    (l : I < T ∧ C < T ∧ D < T ∧ AllLt T news) (hn : trs.map (·.n) = nums) (hn' : nums ++ [z] = nums') (hm : ∀ t ∈ trs, trO t ∈ news) (hs : ∀ q ∈ FX, q ∈ news) :
    CompJ h₀ L m s I oI C oC D (trV trs) (fun y news => ∃ trs', trV trs ++ [y] = trV trs' ∧ trs'.map (·.n) = nums' ∧ (∀ t ∈ trs', trO t ∈ news) ∧ ∀ q ∈ FX, q ∈ news) (.ref T) { s with heap := h', toks := tk' } :=
  compJ_push F N off l ⟨trs ++ [⟨T, z, t1, t2, t3⟩], by simp, by rw [List.map_append, hn, ← hn']; rfl, fun t ht => by
    rcases List.mem_append.mp ht with ht | ht
    · exact .tail _ (hm t ht)
    · rw [List.mem_singleton.mp ht]; exact .head _, fun q hq => .tail _ (hs q hq)⟩
structure HR where
  z : PR
  v1 : Value
  st : Str
  y0 : IT
  nx : Value
noncomputable def HR.In (w : World) (h : HR) (l : Led) : Prop :=
  (h.z.p, instObj 100 h.z.dp) ∈ l ∧ (h.z.dp, prodD w h.z h.v1 (.ref h.y0.a) h.st) ∈ l ∧ (h.y0.a, instObj 135 h.y0.d) ∈ l ∧ (h.y0.d, dictOf (itemE w h.z 0 h.y0 ++ [ent w "lr_next" (h.y0.tk 11) h.nx]) 10) ∈ l
noncomputable def ToldR (x : PR) (i : Nat) (y : IT) (its : List (Str × Tok)) (rs : List HR) (FX : Led) (r : Value) (nws : Led) : Prop :=
  ∃ (T al : Addr) (k : Nat) (trs : List TR) (t0 t1 t2 t3 t4 : Tok), r = .ref T ∧ (T, tupO [.str x.name t0, .int x.num t1, .int (i : Int) t2, .ref y.t, .int ((x.its.length + 1 : Nat) : Int) t3, .ref x.us, .str (Str.empty ++ x.name ++ Str.ofString " -> " ++ Str.join (Str.ofString " ") (its.map (·.1))) t4, .ref y.la, .ref al] 0) ∈ nws ∧
    (al, listOf (trV trs).toArray k) ∈ nws ∧ (∀ t ∈ trs, trO t ∈ nws) ∧ trs.map (·.n) = rs.map (·.z.num) ∧ ∀ q ∈ FX, q ∈ nws
section
open Builtin.Str LCg
set_option maxHeartbeats 4000000 in
theorem told_spec (prog : Program) (w : World) (x : PR) (i : Nat) (y : IT) (nx : Value) (its : List (Str × Tok)) (n : Nat) (rs : List HR) (FX : Led) (hits : dotV x.its i (.str (Str.ofString ".") (y.tk 12)) = strV its) (hie : its.isEmpty = false) (hil : its.length ≤ 4) (hB : ∀ q ∈ its.map (·.1), q.length ≤ 16) (hnm : x.name.length ≤ 16)
    (ha : (y.a, instObj 135 y.d) ∈ FX) (hd' : (y.d, dictOf (itemE w x i y ++ [ent w "lr_next" (y.tk 11) nx]) 10) ∈ FX) (ht : (y.t, tupO (strV its) 0) ∈ FX) (hal : (y.al, listOf (rs.map fun h => Value.ref h.z.p).toArray n) ∈ FX) (hrs : ∀ h ∈ rs, h.In w FX) (hrl : rs.length ≤ 100) :
    Does prog w 380 200 319 [.ref y.a] FX (fun r nws => ToldR x i y its rs FX r nws) := by
  k_with_none
  k_with "o" => (first | (with_reducible first | assumption | (show (_ : Nat) ≤ _; first | exact Nat.le_of_ble_eq_true rfl | exact Nat.zero_le _ | exact Nat.le_of_lt ‹_› | exact Nat.le_of_eq ‹_› | exact oM ‹_› | exact oL ‹_› | exact oJ | exact oK | exact qE ‹_› | exact qG ‹_› | exact oS ‹_› rfl | exact oSE ‹_› ‹_› rfl | exact oA ‹_› rfl | exact oB ‹_› rfl | exact oG ‹_› rfl | exact oE ‹_› ‹_› rfl | exact oF ‹_› ‹_› rfl | exact oH ‹_› ‹_› rfl | exact oI ‹_› ‹_› rfl | exact oQ ‹_› ‹_› rfl | exact oQ3 ‹_› ‹_› ‹_› rfl | exact xE ‹_› ‹_› rfl | exact xA ‹_› | exact xB ‹_› | exact xH ‹_› | exact xF ‹_› | exact xG ‹_› | exact xL ‹_› | exact xC ‹_› ‹_› ‹_› ‹_› rfl | exact xD ‹_› ‹_› ‹_› ‹_› ‹_› rfl | exact xK ‹_› rfl | exact xJ ‹_› ‹_› rfl | exact xI ‹_› ‹_› ‹_› rfl | exact wA ‹_› ‹_› ‹_› rfl | exact wB ‹_› ‹_› ‹_› rfl | exact yC ‹_› ‹_› ‹_› rfl | exact yE ‹_› | exact uB ‹_› ‹_› rfl | exact uF ‹_› | exact uM | exact uN | exact uO | exact uU ‹_› | exact uW ‹_› ‹_› | exact uX ‹_› ‹_› ‹_› rfl | exact uZ ‹_› ‹_› ‹_› rfl | exact vC ‹_› ‹_› rfl | exact vD ‹_› | exact vI | exact vJ | exact vL ‹_› | exact vN ‹_› ‹_› ‹_› rfl | exact vO ‹_› ‹_› ‹_› ‹_› ‹_› rfl | exact vP ‹_› ‹_› ‹_› rfl | exact vQ ‹_› ‹_› | exact vR ‹_› ‹_› ‹_› rfl | exact vT | exact Nat.min_le_left _ _ | exact Nat.le_trans ‹_› ‹_› | exact Nat.le_add_left _ _ | exact wC ‹_› ‹_› rfl | exact wI ‹_› ‹_› rfl | exact wG ‹_› ‹_› ‹_› rfl | exact wF ‹_› ‹_› ‹_›) | (show (_ : Nat) < _; first | exact Nat.le_of_ble_eq_true rfl | exact Nat.lt_succ_self _ | exact pA ‹_› rfl | exact pB ‹_› rfl | exact pG ‹_› rfl | exact pE ‹_› ‹_› rfl | exact pF ‹_› ‹_› rfl | exact pH ‹_› ‹_› rfl | exact pI ‹_› ‹_› rfl | exact pS ‹_› rfl | exact pSE ‹_› ‹_› rfl | exact qA ‹_› | exact qD ‹_› | exact qB ‹_› ‹_› | exact qC ‹_› | exact Nat.lt_of_le_of_ne ‹_› ‹_› | exact uC ‹_› ‹_› | exact uD ‹_› | exact uE ‹_› | exact uY ‹_› ‹_› | exact vG ‹_› ‹_› rfl | exact vH ‹_› | exact vK ‹_› ‹_› | exact qF ‹_› | exact zA ‹_› ‹_› | exact wK ‹_› | exact wH ‹_› rfl | exact wD ‹_› ‹_› ‹_› rfl | exact wE ‹_› ‹_› ‹_›) | (show (_ : Nat) = _; first | exact yA ‹_› | exact yB ‹_› | exact yD ‹_› | exact yS ‹_› | exact Nat.sub_add_comm ‹_› | exact Nat.add_sub_cancel' ‹_› | exact uV ‹_› | exact uJ | exact uK | exact uL | exact uP | exact uQ | exact uR | exact vE ‹_› ‹_› | exact zB | exact oZ) | (show ((_ : Nat) : Int) < 2 ^ 63; first | exact iA ‹_› rfl | exact iB ‹_› rfl | exact iE ‹_› ‹_› rfl | exact iI ‹_› ‹_› rfl) | (show ((_ : Nat) : Int) < 2 ^ 62; first | exact jA ‹_› rfl | exact jB ‹_› rfl | exact jE ‹_› ‹_› rfl) | (show ((_ : Nat) : Int) + 1 < 2 ^ 63; first | exact rA ‹_› rfl | exact rE ‹_› ‹_› rfl | exact rF ‹_› ‹_› rfl) | exact rT ‹_› ‹_› rfl | exact rM | exact rN | exact Int.natCast_nonneg _ | exact iM | exact jM | exact iP ‹_› | exact uS ‹_› | exact uT ‹_› | exact vF ‹_› | exact vM ‹_› | exact vS ‹_› | exact yF ‹_› | exact yT ‹_› | exact iS | exact iZ | exact iD ‹_› | exact iV) | omega)
  k_with "a" => (with_reducible assumption)
  k_with "kxs_still" => (((try dsimp only); (try (refine execs_gen ?_; intro zqt9)); (try k_fold); (try k_extra "bits_by_make")))
  k_with "bits_by_make" => ((try (rename Fr _ _ _ _ => zqF9; (fail_if_success (refine onlyM zqF9 ?_; goal_lacks ite List.lookup)); refine letF zqF9 ?_; clear zqF9; intro zqm9 zqF9)))
  k_with "cell_call" => (first | k_extra "a" | (refine List.mem_cons_of_mem _ ?_; k_extra "cell_call"))
  k_with "tb_start" => ((refine neN ?_; (try dsimp only); first | exact NeA.to (by k_extra "a") | exact NeA.to' (by k_extra "a") | (refine' ne_pos (by k_extra "a") (by k_extra "po")  ) | (refine' ne_pos' (by k_extra "a") (by k_extra "po")  ) | (refine' lt_pos (by k_extra "a") (by k_extra "po")  ) | (refine' lt_pos' (by k_extra "a") (by k_extra "po")  ) | exact Nat.ne_of_lt (by k_extra "a") | exact Nat.ne_of_gt (by k_extra "a") | (refine' lt_up (by k_extra "a") (by k_extra "a") (by k_extra "po")  ) | (refine' lt_up' (by k_extra "a") (by k_extra "a") (by k_extra "po")  ) | omega))
  k_with "tb_rel" => (first | (tbn_letter; first | k_extra "a" | (refine' lt_suf (by k_extra "a") (by k_extra "su")  ) | (refine' ne_suf (by k_extra "a") (by k_extra "su")  ) | (refine' lt_sufU (by k_extra "a") (by k_extra "a") (by k_extra "su")  ) | (refine tbn_neAll ?_; tbn_find) | (refine' tbn_neAll (allLt_up (by tbn_find) (by k_extra "o"))  )) | exact List.forall_mem_nil _ | (refine' lt_suf (by k_extra "a") (by exact Suf.refl)  ) | (refine' ne_suf (by k_extra "a") (by exact Suf.refl)  ) | exact lt_same (by k_extra "a") (by rfl) | (refine List.forall_mem_cons.mpr ⟨?_, ?_⟩; (focus k_extra "tb_start"); k_extra "tb_rel"))
  k_with "k_upd" => (first | (refine Upd.head ?_; k_extra "tb_rel") | (apply Upd.tail; (focus k_extra "tb_start"); k_upd))
  k_with "k_updF" => (first | (refine UpdF.head ?_; k_extra "tb_rel") | (apply UpdF.tail; (focus k_extra "tb_start"); k_updF))
  k_with "execs cons" => ((k_extra "kxs_still"; refine wpAny_execs_cons ?_))
  k_with "po" => (first | exact PosA.head | (refine PosA.tail ?_; k_extra "po"))
  k_with "su" => (first | exact Suf.refl | (refine Suf.tail ?_; k_extra "su"))
  k_with "enter0" => (k_dflt (refine' code0 (by k_asm) (by k_asm) (by k_asm) (by k_asm) (by k_asm) (by exact rfl) (by exact rfl) (by assumption) (by k_is) (by k_is) (by k_room) (by first | exact BindsTo.of_eq rfl | exact binds_K (by k_in) rfl (by k_is) rfl rfl rfl | fail "enter0") (by exact locs rfl) ?_ (by exact rfl) (by exact rfl) (by exact rfl) (by decide); k_whole; intro zqg' zqL' zqh' zqFG' zqF' zqN' zqB' zqX' zqT' zqD'; (try dsimp only); (try k_lift zqB'); (try k_fold)))
  k_with "eval Attribute Name" => ((k_here; k_dflt (refine' attr_own (by k_asm) (by rfl) (by k_asm) (by k_inst) (by k_is) (by k_is) (by k_is) (by k_is) (by k_get) (by k_handed) ?_ (by rfl) (by rfl); k_whole)))
  k_with "CompSrc" => (refine halt ?_)
  k_with "truthy ref" => ((k_here; (with_reducible show wpAny _ _ (truthy (Value.ref _)) _ _ _); k_dflt (first | (refine' truthy_strV false true (by k_asm) (by k_mem) (by k_extra "a") rfl (by k_extra "o") ?_; k_whole) | (refine' truthy_strV true false (by k_asm) (by k_mem) (by k_extra "a") rfl (by k_extra "o") ?_; k_whole))))
  k_with "call builtin:str.join" => ((k_here; (with_reducible show wpAny _ _ (call (Value.builtin _) [Value.str _ _, Value.ref _]) _ _ _); k_dflt (refine' join_strV (by decide +kernel) (by k_asm) (by k_mem) (by k_extra "o") (by k_extra "a") ?_; k_whole); intro zqt' zqk'; (try dsimp only); (try k_sweep)))
  intro mean mg mb cn cs a ccd cl outer A₀ base h₀ L m s Q E B F X N T hk hret
  have hj : (Str.join (Str.ofString " ") (its.map (·.1))).length ≤ 2 * 16 * (its.map (·.1)).length := join_len (by decide +kernel) hB
  rw [List.length_map] at hj
  have hj2 : (Str.join (Str.ofString " ") (its.map (·.1))).length ≤ 1000 := by k_extra "o"
  have hnm2 : x.name.length ≤ 1000 := by k_extra "o"
  refine wpAny_call ?_
  k_dflt ktr_enter
  k_steps
  unfold Halt
  rename Fr _ _ _ _ => F1
  rename News _ _ _ _ => N1
  refine CompSrc.ledger (its := (rs.map fun h => Value.ref h.z.p).toArray) (k := n) rfl F1 N1 hal (by rw [sizeLine_eq, List.size_toArray, List.length_map]; k_extra "o") fun g0 => ?_
  refine CompRest_J (n := rs.length) (fun i ys news => ∃ trs : List TR, ys = trV trs ∧ trs.map (·.n) = (rs.take i).map (·.z.num) ∧ (∀ t ∈ trs, trO t ∈ news) ∧ (∀ q ∈ FX, q ∈ news)) ?hS ?turn ?fin _ 0 [] FX (by rw [List.size_toArray, List.length_map]; k_extra "o") ⟨[], rfl, rfl, (fun _ h => nomatch h), fun _ h => h⟩
  case hS =>
    intro i ys news z6q; refine xE1A4 z6q ?_; (try clear z6q); intro trs z7q _ _ hsub; obtain rfl := z7q
    exact .inr ⟨_, hsub _ hal, rfl, _, rfl⟩
  case turn =>
    intro i v I oI C oC D ys m₂ h tk E' news hi hP z8q hC hx F2 N2 off ne; refine xE1A4 z8q ?_; (try clear z8q); intro trs z9q htn htm hsub; obtain rfl := z9q
    have hp : rs[i]? = some rs[i] := List.getElem?_eq_getElem hi
    rw [List.getElem?_toArray, List.getElem?_map, hp] at hP
    cases hP
    have hmem := List.mem_of_getElem? hp
    generalize rs[i] = hr at hp hmem hx
    refine xE0A4 (hrs hr hmem) fun f1 f2 f3 f4 => ?_
    have g1 := hsub _ f1
    have g2 := hsub _ f2
    have g3 := hsub _ f3
    have g4 := hsub _ f4
    clear F1 N1
    k_steps
    rename Fr _ _ _ _ => F9
    rename News _ _ _ _ => N9
    rename AllLt _ ((I, _) :: _) => l9
    exact compJ_tr F9 N9 off l9 htn (by rw [List.take_add_one, hp, List.map_append]; rfl) htm hsub
  case fin =>
    intro ys news z10q; refine xE1A4 z10q ?_; (try clear z10q); intro trs z11q htn htm hsub; obtain rfl := z11q
    have ga := hsub _ ha
    have gd := hsub _ hd'
    have gt := hsub _ ht
    clear F1 N1
    k_steps
    rename Fr _ _ _ _ => F9
    rename News _ _ _ _ => N9
    rw [List.take_length] at htn
    exact hret _ _ _ _ F9 N9 ⟨_, _, _, trs, _, _, _, _, _, rfl, .head _, .tail _ (.head _), fun t ht => .tail _ (.tail _ (htm t ht)), htn, fun q hq => .tail _ (.tail _ (hsub q hq))⟩
end
section
variable {prog : Program} {w : World} {mean : ExcName → Option Value} {mg mb : Str → Option Value} {cn : Str} {cs : Scope} {a : Addr} {ccd : Value} {cl : List (Str × Addr)} {outer : List Env} {A A₀ : Around} {base h₀ : Heap} {L : Addr} {m : Str → Option Value} {s : Shared} {Q E : Value → Shared → Prop} {news : Led}
theorem told_call {x : PR} {i : Nat} {y : IT} {nx : Value} {its : List (Str × Tok)} {n : Nat} {rs : List HR} (B : Below A₀ base outer h₀) (F : Fr h₀ L s.heap m) (X : (hd.heap_1 w.params).In h₀) (N : News h₀ L s.heap news) (T : Top hdV LOOSE mean mg mb h₀) (hfr : A.frames = some (envX cn cs L a ccd cl :: outer)) (hh : A.handled = none) (hdp : A.depth ≤ 380) (hg : A.guards = some []) (hu : A.units ≤ 200) (hk : cs.kind = .function)
    (hits : dotV x.its i (.str (Str.ofString ".") (y.tk 12)) = strV its) (hie : its.isEmpty = false) (hil : its.length ≤ 4) (hB : ∀ q ∈ its.map (·.1), q.length ≤ 16) (hnm : x.name.length ≤ 16)
    (ha : (y.a, instObj 135 y.d) ∈ news) (hd' : (y.d, dictOf (itemE w x i y ++ [ent w "lr_next" (y.tk 11) nx]) 10) ∈ news) (ht : (y.t, tupO (strV its) 0) ∈ news) (hal : (y.al, listOf (rs.map fun h => Value.ref h.z.p).toArray n) ∈ news) (hrs : ∀ h ∈ rs, h.In w news) (hrl : rs.length ≤ 100)
    (h : ∀ r news' h' tk', Fr h₀ L h' m → News h₀ L h' news' → ToldR x i y its rs news r news' → Q r { s with heap := h', toks := tk' }) : wpAny (model prog w) A (call (.ref 319) [.ref y.a]) Q E s :=
  around_up (told_spec prog w x i y nx its n rs news hits hie hil hB hnm ha hd' ht hal hrs hrl mean mg mb cn cs a ccd cl outer A₀ base h₀ L m s Q E B F X N T hk h) hh hdp hfr.symm hg.symm hu
end

section
open PySem.SeqAt
variable {A : Around} {s : Shared}
theorem cLine_big : (65 : Nat) < cLine := by rw [cLine_is]; decide
theorem eqv_str {x y : Str} {t u : Tok} (h : x = y) : EqAt A s (.str x t) (.str y u) true := by
  have z := EqAt.str_str (A := A) (s := s) x t y u
  rwa [beq_iff_eq.mpr h] at z
theorem eqv_int {x y : Int} {t u : Tok} (h : x = y) : EqAt A s (.int x t) (.int y u) true := by
  have z := EqAt.int_int (A := A) (s := s) x t y u
  rwa [beq_iff_eq.mpr h] at z
theorem all_true {n : Nat} {e : Nat → Bool} (h : ∀ j, e j = true) : (List.range n).all e = true := List.all_eq_true.mpr fun j _ => h j
inductive AllEq (A : Around) (s : Shared) : List Value → List Value → Prop
  | nil : AllEq A s [] []
  | cons {v y : Value} {vs ys : List Value} : EqAt A s v y true → AllEq A s vs ys → AllEq A s (v :: vs) (y :: ys)
theorem AllEq.length : ∀ {vs ys : List Value}, AllEq A s vs ys → vs.length = ys.length
  | _, _, .nil => rfl
  | _, _, .cons _ r => congrArg (· + 1) r.length
theorem AllEq.at : ∀ {vs ys : List Value}, AllEq A s vs ys → ∀ j (h1 : j < vs.length) (h2 : j < ys.length), EqAt A s vs[j] ys[j] true
  | _, _, .nil, j, h1, _ => absurd h1 (Nat.not_lt_zero j)
  | _, _, .cons h _, 0, _, _ => h
  | _, _, .cons _ r, j + 1, h1, h2 => by
    have z := r.at j (Nat.lt_of_succ_lt_succ h1) (Nat.lt_of_succ_lt_succ h2)
    simpa using z
theorem eqv_lists {a b : Addr} {vs ys : List Value} (ha : s.heap.IsList a vs.toArray) (hb : s.heap.IsList b ys.toArray) (hu : A.units < cLine) (h : AllEq A.in1 s vs ys) : EqAt A s (.ref a) (.ref b) true := by
  by_cases e : a = b
  · subst e; exact EqAt.same _
  · refine EqAt.of_refs e ?_
    have z := RcAt.lists (A := A) (s := s) (e := fun _ => true) ha hb (by simpa using h.length) hu fun j h1 h2 => by
      have := h.at j (by simpa using h1) (by simpa using h2)
      simpa using this
    rwa [all_true fun _ => rfl] at z
theorem eqv_tuples {a b : Addr} {vs ys : List Value} (ha : IsTup s.heap a vs.toArray) (hb : IsTup s.heap b ys.toArray) (hu : A.units < cLine) (h : AllEq A.in1 s vs ys) : EqAt A s (.ref a) (.ref b) true := by
  by_cases e : a = b
  · subst e; exact EqAt.same _
  · refine EqAt.of_refs e ?_
    have z := RcAt.tuples (A := A) (s := s) (e := fun _ => true) ha hb hu fun j h1 h2 => by
      have := h.at j (by simpa using h1) (by simpa using h2)
      simpa using this
    have hl : (vs.toArray.size == ys.toArray.size) = true := by simpa using h.length
    rwa [all_true fun _ => rfl, hl] at z
theorem allEq_strs : ∀ {its jts : List (Str × Tok)}, its.map (·.1) = jts.map (·.1) → AllEq A s (strV its) (strV jts)
  | [], [], _ => .nil
  | [], _ :: _, h => by cases h
  | _ :: _, [], h => by cases h
  | a :: r, b :: r', h => by
    simp only [List.map_cons, List.cons.injEq] at h
    exact .cons (eqv_str h.1) (allEq_strs h.2)
theorem allEq_trs {news : Led} {g : Heap} {L : Addr} (N : News g L s.heap news) (hu : A.units < cLine) : ∀ {l l' : List TR}, l.map (·.n) = l'.map (·.n) → (∀ t ∈ l, trO t ∈ news) → (∀ t ∈ l', trO t ∈ news) → AllEq A s (trV l) (trV l')
  | [], [], _, _, _ => .nil
  | [], _ :: _, h, _, _ => by cases h
  | _ :: _, [], h, _, _ => by cases h
  | a :: r, b :: r', h, h1, h2 => by
    simp only [List.map_cons, List.cons.injEq] at h
    exact .cons (eqv_tuples (N.isTup (h1 a (.head _))) (N.isTup (h2 b (.head _))) hu (.cons (eqv_int h.1) (.cons (eqv_int h.1) (.cons (eqv_int rfl) .nil)))) (allEq_trs N hu h.2 (fun t ht => h1 t (.tail _ ht)) fun t ht => h2 t (.tail _ ht))
theorem eqv_dict0 {K : Type} [DecidableEq K] {prog : Program} {w : World} {knd : ∀ (prog : Program) (w : World), PySem.KeyKind prog w K} {a b : Addr} {oa ob : Obj} {news : Led} {g : Heap} {L : Addr} (N : News g L s.heap news) (ha : (a, oa) ∈ news) (hb : (b, ob) ∈ news) (la : (a == sysModules) = false) (lb : (b == sysModules) = false)
    (da : ∀ prog w, oa.IsDictOf (knd prog w) []) (db : ∀ prog w, ob.IsDictOf (knd prog w) []) (hu : A.units < cLine) : EqAt A s (.ref a) (.ref b) true := by
  by_cases e : a = b
  · subst e; exact EqAt.same _
  · exact EqAt.of_refs e fun prog w E Q hq => keq_pairs (knd := knd prog w) N ha hb (da prog w) (db prog w) la lb rfl hu .nil hq
section
variable {prog : Program} {w : World} {E : Value → Shared → Prop} {g : Heap} {L a b : Addr} {news : Led} {n n' : Nat} {Q : Value → Shared → Prop}
theorem ne_lists0 {vs ys : List Value} (N : News g L s.heap news) (ha : (a, listOf vs.toArray n) ∈ news) (hb : (b, listOf ys.toArray n') ∈ news) (hu : A.units < cLine) (h : AllEq A.in1 s vs ys) (hq : Q (.bool false) s) : wpAny (model prog w) A (compareOp .NotEq (.ref a) (.ref b)) Q E s := by
  have z := RcNeAt.lists (A := A) (s := s) (e := fun _ => true) (N.isList ha) (N.isList hb) (by simpa using h.length) hu fun j h1 h2 => by
    have := h.at j (by simpa using h1) (by simpa using h2)
    simpa using this
  rw [all_true fun _ => rfl] at z
  exact EqBoolInt.of_rcne z hq
theorem ne_tuples0 {vs ys : List Value} (N : News g L s.heap news) (ha : (a, tupO vs n) ∈ news) (hb : (b, tupO ys n') ∈ news) (hu : A.units < cLine) (h : AllEq A.in1 s vs ys) (hq : Q (.bool false) s) : wpAny (model prog w) A (compareOp .NotEq (.ref a) (.ref b)) Q E s := by
  have z := RcNeAt.tuples (A := A) (s := s) (e := fun _ => true) (N.isTup ha) (N.isTup hb) hu fun j h1 h2 => by
    have := h.at j (by simpa using h1) (by simpa using h2)
    simpa using this
  have hl : (vs.toArray.size == ys.toArray.size) = true := by simpa using h.length
  rw [all_true fun _ => rfl, hl] at z
  exact EqBoolInt.of_rcne z hq
theorem ne_strs0 {its jts : List (Str × Tok)} (N : News g L s.heap news) (ha : (a, listOf (strV its).toArray n) ∈ news) (hb : (b, listOf (strV jts).toArray n') ∈ news) (hu : A.units < cLine) (h : its.map (·.1) = jts.map (·.1)) (hq : Q (.bool false) s) : wpAny (model prog w) A (compareOp .NotEq (.ref a) (.ref b)) Q E s :=
  ne_lists0 N ha hb hu (allEq_strs h) hq
end
end
section
variable {prog : Program} {w : World} {A : Around} {E : Value → Shared → Prop} {s : Shared} {Q : Value → Shared → Prop}
theorem ne_str0 {x y : Str} {t u : Tok} (h : x = y) (hq : Q (.bool false) s) : wpAny (model prog w) A (compareOp .NotEq (.str x t) (.str y u)) Q E s := by
  refine ne_str ?_
  subst h
  rw [bne_self_eq_false]
  exact hq
noncomputable def CutV (g : Heap) (L : Addr) (m : Str → Option Value) (nws : Led) (s : Shared) (P : Value → Prop) (v : Value) (s' : Shared) : Prop := P v ∧ ∃ h' tk', s' = { s with heap := h', toks := tk' } ∧ Fr g L h' m ∧ News g L h' nws
theorem cut_val {M : Model} {t : Sem Value} {g : Heap} {L : Addr} {m : Str → Option Value} {nws : Led} (_F : Fr g L s.heap m) (_N : News g L s.heap nws) (P : Value → Prop) (h1 : wpAny M A t (CutV g L m nws s P) E s) (h2 : ∀ v h' tk', P v → Fr g L h' m → News g L h' nws → Q v { s with heap := h', toks := tk' }) : wpAny M A t Q E s :=
  wpAny_mono h1 (fun v s' ⟨hv, h', tk', e, F', N'⟩ => by subst e; exact h2 v h' tk' hv F' N') fun _ _ e => e
end
theorem dict_nil_any {prog prog' : Program} {w w' : World} {o : Obj} (h : o.IsDictOf (PySem.strKind prog w) []) : o.IsDictOf (PySem.strKind prog' w') [] := by
  refine xE2A5 h ?_; (try clear h); intro es ep hx hd hk hp hn
  have e : es.toList = [] := List.eq_nil_of_length_eq_zero (by rw [hp.length]; rfl)
  refine (yE2A5 es ep hx hd (fun x hx => ?_) ?_ hn)
  · have : x ∈ es.toList := Array.mem_toList_iff.mpr hx
    rw [e] at this
    cases this
  · rw [e]
    constructor
theorem eqv_dicts {prog : Program} {w : World} {A : Around} {s : Shared} {a b : Addr} {oa ob : Obj} {news : Led} {g : Heap} {L : Addr} (N : News g L s.heap news) (ha : (a, oa) ∈ news) (hb : (b, ob) ∈ news) (la : (a == sysModules) = false) (lb : (b == sysModules) = false)
    (da : oa.IsDictOf (PySem.strKind prog w) []) (db : ob.IsDictOf (PySem.strKind prog w) []) (hu : A.units < cLine) : SeqAt.EqAt A s (.ref a) (.ref b) true :=
  eqv_dict0 (prog := prog) (w := w) (knd := fun prog w => PySem.strKind prog w) N ha hb la lb (fun _ _ => dict_nil_any da) (fun _ _ => dict_nil_any db) hu
section
variable {prog : Program} {w : World} {A : Around} {E : Value → Shared → Prop} {s : Shared}
noncomputable def CutN (g : Heap) (L : Addr) (m : Str → Option Value) (nws : Led) (s : Shared) (f : Flow) (s' : Shared) : Prop := f = .next ∧ ∃ h' tk', s' = { s with heap := h', toks := tk' } ∧ Fr g L h' m ∧ News g L h' nws
theorem cut_nop {M : Model} {t : Sem Flow} {g : Heap} {L : Addr} {m : Str → Option Value} {nws : Led} {Q : Flow → Shared → Prop} (_F : Fr g L s.heap m) (_N : News g L s.heap nws) (h1 : wpAny M A t (CutN g L m nws s) E s) (h2 : ∀ h' tk', Fr g L h' m → News g L h' nws → Q .next { s with heap := h', toks := tk' }) : wpAny M A t Q E s :=
  wpAny_mono h1 (fun f s' ⟨hv, h', tk', e, F', N'⟩ => by subst hv; subst e; exact h2 h' tk' F' N') fun _ _ e => e
theorem perm_sep {g h : Heap} {L : Addr} {l0 l1 : Led} (_S : Sep l0) (N : News g L h l1) (hs : ∀ q ∈ l0, q ∈ l1) : News g L h l0 := News.perm N hs
end
theorem valueAt_one {K : Type} [DecidableEq K] (k : K) (v : Value) : valueAt [(k, v)] k = some v := by unfold valueAt; simp
theorem ne_dict1 {prog : Program} {w : World} {A : Around} {E : Value → Shared → Prop} {s : Shared} {Q : Value → Shared → Prop} {a b : Addr} {oa ob : Obj} {news : Led} {g : Heap} {L : Addr} {k : Int} {v y : Value} (N : News g L s.heap news) (ha : (a, oa) ∈ news) (hb : (b, ob) ∈ news) (la : (a == sysModules) = false) (lb : (b == sysModules) = false)
    (da : oa.IsDictOf (PySem.intKind prog w) [(k, v)]) (db : ob.IsDictOf (PySem.intKind prog w) [(k, y)]) (hu : A.units < cLine) (he : SeqAt.EqAt A.in1 s v y true) (hq : Q (.bool false) s) : wpAny (model prog w) A (compareOp .NotEq (.ref a) (.ref b)) Q E s :=
  kne_pairs (knd := PySem.intKind prog w) N ha hb da db la lb rfl hu (.hit (valueAt_one k y) he .nil) hq

section
open Sem (wp)
variable {prog : Program} {w : World} {A : Around} {E : Value → Shared → Prop} {s : Shared}
theorem nextOf_tup {it t : Addr} {i : Nat} {items : Array Value} {x : Value} {Q : Value → Shared → Prop} (hit : s.heap.IsTupleIter it t i) (ht : s.heap.IsTuple t items) (hx : items[i]? = some x)
    (hQ : ∀ h', h'.IsTupleIter it t (i + 1) → Heap.SameBut it s.heap h' → Q x { s with heap := h' }) : wpAny (model prog w) A (Builtin.SmallTypes.nextOf (.ref it)) Q E s := by
  refine xE1A3 (id hit) fun o ho hc hd => ?_
  refine xE1A3 ht ?_; (try clear ht); intro ol hol _ z1q; refine xE1A1 z1q ?_; (try clear z1q); intro nl hdl
  unfold Builtin.SmallTypes.nextOf
  refine wpAny_bind (wpAny_callSpecial?_slot (name := Str.ofString "__next__") hit.typeIs F.slot_tuple_iterator_next (wpAny_call_entry F.slot_tuple_iterator_next hit.typeIs F.entry_tuple_iterator_next ?_ (F.args_tuple_iterator_next_1 _)))
  show wpAny _ _ (field (.ref it) 0 >>= _) _ _ s
  refine wpAny_bind (wpAny_field ho hd (x := .ref t) rfl ?_)
  show wpAny _ _ (if (Value.ref t == Value.none) = true then _ else _) _ _ s
  rw [if_neg (show ¬ ((Value.ref t == Value.none) = true) from Bool.false_ne_true)]
  show wpAny _ _ (field (.ref it) 1 >>= _) _ _ s
  refine wpAny_bind (wpAny_field ho hd (x := .int i 0) rfl ?_)
  show wpAny _ _ (seqItems? (.ref t) >>= _) _ _ s
  refine wpAny_bind (wpAny_seqItems hol hdl ?_)
  simp only [Int.toNat_natCast, hx]
  refine wpAny_bind (wpAny_setField ho hd (by simp) (wpAny_pure ⟨x, rfl, wpAny_pure (hQ _ ?_ (Heap.SameBut.update ..))⟩))
  exact ⟨_, Heap.get?_update_self _ ho (Obj.isFreed_of_fields (Obj.data_mapFields hd _)), (Obj.cls_mapFields ..).trans hc, by
    rw [Obj.data_mapFields hd]; simp [rawInt]⟩
theorem nextOf_tup_end {it t : Addr} {i : Nat} {items : Array Value} {Q : Value → Shared → Prop} (hh : A.handled = none) (hit : s.heap.IsTupleIter it t i) (ht : s.heap.IsTuple t items) (hx : items[i]? = none)
    (hE : ∀ h' e, Heap.ExtBut it s.heap h' → (∃ o, h'.get? e = some o ∧ o.cls = .type "StopIteration") → E (.ref e) { s with heap := h' }) : wpAny (model prog w) A (Builtin.SmallTypes.nextOf (.ref it)) Q E s := by
  refine xE1A3 (id hit) fun o ho hc hd => ?_
  refine xE1A3 ht ?_; (try clear ht); intro ol hol _ z2q; refine xE1A1 z2q ?_; (try clear z2q); intro nl hdl
  unfold Builtin.SmallTypes.nextOf
  refine wpAny_bind (wpAny_callSpecial?_slot (name := Str.ofString "__next__") hit.typeIs F.slot_tuple_iterator_next (wpAny_call_entry F.slot_tuple_iterator_next hit.typeIs F.entry_tuple_iterator_next ?_ (F.args_tuple_iterator_next_1 _)))
  show wpAny _ _ (field (.ref it) 0 >>= _) _ _ s
  refine wpAny_bind (wpAny_field ho hd (x := .ref t) rfl ?_)
  show wpAny _ _ (if (Value.ref t == Value.none) = true then _ else _) _ _ s
  rw [if_neg (show ¬ ((Value.ref t == Value.none) = true) from Bool.false_ne_true)]
  show wpAny _ _ (field (.ref it) 1 >>= _) _ _ s
  refine wpAny_bind (wpAny_field ho hd (x := .int i 0) rfl ?_)
  show wpAny _ _ (seqItems? (.ref t) >>= _) _ _ s
  refine wpAny_bind (wpAny_seqItems hol hdl ?_)
  simp only [Int.toNat_natCast, hx]
  refine wpAny_bind (wpAny_rule (wpAny_bind (wpAny_setField ho hd (by simp) ?_)))
  show wpAny _ _ (newExc (.type "StopIteration") [] >>= _) _ _ _
  refine wpAny_bind ?_
  simp only [newExc, newTuple]
  refine wpAny_bind (wpAny_newObj_type ?_ (by size_fits))
  refine wpAny_bind (m := firstArgMember _ _) (wpAny_of_eq (a := Value.none) (by first | rfl | (simp only [firstArgMember]; rfl)) ?_)
  refine wpAny_newObj_type ?_ (by size_fits)
  simp only [raiseNew]
  refine wpAny_bind (wpAny_handled ?_)
  first | rw [show A.in1.handled = none from hh] | rw [hh]
  refine wpAny_bind (wpAny_pure (wpAny_throw ?_))
  exact hE _ _ (((Heap.SameBut.update ..).extBut.push _).push _) ⟨_, Heap.get?_push_size _ rfl, rfl⟩
theorem enum_step {e it : Addr} {i : Nat} {x old : Value} {St : Heap → Prop} {Q : Value → Shared → Prop} (he : IsEnum s.heap e it i old) (hne : e ≠ it) (hSt : ∀ h h', St h → (∀ o, h.get? it = some o → h'.get? it = some o) → St h')
    (hn : ∀ (A : Around) (E : Value → Shared → Prop) (Q : Value → Shared → Prop), (∀ h', St h' → Heap.SameBut it s.heap h' → Q x { s with heap := h' }) → wpAny (model prog w) A (Builtin.SmallTypes.nextOf (.ref it)) Q E s)
    (hQ : ∀ h', IsEnumOut h' e it ((i : Int) + 1) x s.heap.objs.size → St h' → h'.get? s.heap.objs.size = some { cls := .type "tuple", data := .seq #[.int i s.toks, x] } → h'.objs.size = s.heap.objs.size + 1 →
      (∀ b o, b ≠ e → b ≠ it → s.heap.get? b = some o → h'.get? b = some o) → Q (.ref s.heap.objs.size) { s with heap := h', toks := s.toks + 1 }) :
    wpAny (model prog w) A (Builtin.«enumerate.__next__» ⟨[.ref e], []⟩) (fun fin s' => ∃ v, fin = .done (.ret v) ∧ Q v s') E s := by
  obtain ⟨hp, g, d, tk, os⟩ := s
  show wpAny _ _ (field (.ref e) 2 >>= _) _ _ _
  refine wpAny_bind (wpAny_field he rfl (x := .ref it) rfl ?_)
  refine wpAny_bind (hn _ _ _ fun h₁ hit₁ hs₁ => ?_)
  replace hs₁ : Heap.SameBut it hp h₁ := hs₁
  have he₁ : IsEnum h₁ e it i old := (hs₁.2 e hne).trans he
  show wpAny _ _ (field (.ref e) 3 >>= _) _ _ ⟨h₁, g, d, tk, os⟩
  refine wpAny_bind (wpAny_field he₁ rfl (x := rawInt i) rfl ?_)
  show wpAny _ _ (field (.ref e) 4 >>= _) _ _ ⟨h₁, g, d, tk, os⟩
  refine wpAny_bind (wpAny_field he₁ rfl (x := .none) rfl ?_)
  show wpAny _ _ (mkInt i >>= _) _ _ ⟨h₁, g, d, tk, os⟩
  refine wpAny_bind (wpAny_mkInt ?_)
  show wpAny _ _ (setField (.ref e) 3 (rawInt ((i : Int) + 1)) >>= _) _ _ ⟨h₁, g, d, tk + 1, os⟩
  refine wpAny_bind (wpAny_setField_rec he₁ (by simp) fun h₂ he₂ hs₂ => ?_)
  replace hs₂ : Heap.SameBut e h₁ h₂ := hs₂
  replace he₂ : IsEnum h₂ e it ((i : Int) + 1) old := he₂
  show wpAny _ _ (setField (.ref e) 4 .none >>= _) _ _ ⟨h₂, g, d, tk + 1, os⟩
  refine wpAny_bind (wpAny_setField_rec he₂ (by simp) fun h₃ he₃ hs₃ => ?_)
  replace hs₃ : Heap.SameBut e h₂ h₃ := hs₃
  replace he₃ : IsEnum h₃ e it ((i : Int) + 1) old := he₃
  show wpAny _ _ (newTuple [.int i tk, x] >>= _) _ _ ⟨h₃, g, d, tk + 1, os⟩
  refine wpAny_bind (wpAny_newTuple ?_)
  have he₄ : IsEnum (h₃.push { cls := .type "tuple", data := .seq #[.int i tk, x] }) e it ((i : Int) + 1) old := Heap.get?_push_of_some _ he₃
  generalize hh₄ : h₃.push { cls := .type "tuple", data := .seq #[.int i tk, x] } = h₄ at he₄
  have hsz : h₃.objs.size = hp.objs.size := by rw [hs₃.1, hs₂.1, hs₁.1]
  have hel : e < hp.objs.size := Heap.lt_size he
  have ht₄ : h₄.get? hp.objs.size = some { cls := .type "tuple", data := .seq #[.int i tk, x] } := by rw [← hh₄, ← hsz]; exact Heap.get?_push_size _ rfl
  have hz₄ : h₄.objs.size = hp.objs.size + 1 := by rw [← hh₄, Heap.size_push, hsz]
  have hk₄ : ∀ b o, b ≠ e → b ≠ it → hp.get? b = some o → h₄.get? b = some o := fun b o hbe hbi hb => by
    rw [← hh₄]; exact Heap.get?_push_of_some _ (hs₃.extBut b o hbe (hs₂.extBut b o hbe (hs₁.extBut b o hbi hb)))
  have hit₄ : St h₄ := hSt _ _ hit₁ fun o ho => by
    rw [← hh₄]; exact Heap.get?_push_of_some _ (hs₃.extBut it o (Ne.symm hne) (hs₂.extBut it o (Ne.symm hne) ho))
  show wpAny _ _ (Builtin.SmallTypes.ownedTupleIsFree (.ref e) >>= _) _ _ ⟨h₄, g, d, tk + 1, os⟩
  rw [hsz]
  clear hh₄ he₃ hs₃ he₂ hs₂ he₁ hs₁ hit₁ hsz h₃ h₂ h₁
  refine wpAny_bind ?_
  · unfold Builtin.SmallTypes.ownedTupleIsFree
    refine wpAny_bind (wpAny_field he₄ rfl (x := .none) rfl (wpAny_pure ?_))
    simp only [if_true]
    refine wpAny_bind (wpAny_rule ?_)
    refine wpAny_bind (wpAny_field he₄ rfl (x := old) rfl ?_)
    refine wpAny_bind (wpAny_setField_rec he₄ (by simp) fun h₅ he₅ hs₅ => ?_)
    replace hs₅ : Heap.SameBut e h₄ h₅ := hs₅
    replace he₅ : IsEnum h₅ e it ((i : Int) + 1) x := he₅
    show wpAny _ _ (Builtin.SmallTypes.ownedTupleHandOut (.ref e) (.ref hp.objs.size) >>= _) _ _ ⟨h₅, g, d, tk + 1, os⟩
    refine wpAny_bind ?_
    · unfold Builtin.SmallTypes.ownedTupleHandOut
      refine wpAny_bind (wpAny_setField_rec he₅ (by simp) fun h₆ he₆ hs₆ => ?_)
      replace hs₆ : Heap.SameBut e h₅ h₆ := hs₆
      replace he₆ : IsEnumOut h₆ e it ((i : Int) + 1) x hp.objs.size := he₆
      refine wpAny_setField_rec he₆ (by simp) fun h₇ he₇ hs₇ => ?_
      replace hs₇ : Heap.SameBut e h₆ h₇ := hs₇
      replace he₇ : IsEnumOut h₇ e it ((i : Int) + 1) x hp.objs.size := he₇
      refine wpAny_bind (wpAny_letGo (wpAny_pure ⟨_, rfl, hQ h₇ he₇ ?_ ?_ ?_ ?_⟩))
      · exact hSt _ _ hit₄ fun o ho => hs₇.extBut it o (Ne.symm hne) (hs₆.extBut it o (Ne.symm hne) (hs₅.extBut it o (Ne.symm hne) ho))
      · exact hs₇.extBut _ _ (Nat.ne_of_gt hel) (hs₆.extBut _ _ (Nat.ne_of_gt hel) (hs₅.extBut _ _ (Nat.ne_of_gt hel) ht₄))
      · rw [hs₇.1, hs₆.1, hs₅.1, hz₄]
      · exact fun b o hbe hbi hb => hs₇.extBut b o hbe (hs₆.extBut b o hbe (hs₅.extBut b o hbe (hk₄ b o hbe hbi hb)))
theorem pyNext_enumT {e it t : Addr} {i : Nat} {items : Array Value} {x old : Value} {Q : Option Value → Shared → Prop} (he : IsEnum s.heap e it i old) (hit : s.heap.IsTupleIter it t i) (ht : s.heap.IsTuple t items) (hx : items[i]? = some x) (hne : e ≠ it)
    (hQ : ∀ h', IsEnumOut h' e it ((i : Int) + 1) x s.heap.objs.size → h'.IsTupleIter it t (i + 1) → h'.get? s.heap.objs.size = some { cls := .type "tuple", data := .seq #[.int i s.toks, x] } → h'.objs.size = s.heap.objs.size + 1 →
      (∀ b o, b ≠ e → b ≠ it → s.heap.get? b = some o → h'.get? b = some o) → Q (some (.ref s.heap.objs.size)) { s with heap := h', toks := s.toks + 1 }) : wpAny (model prog w) A (pyNext (.ref e)) Q E s := by
  have hT : s.TypeIs (.ref e) "enumerate" := ⟨_, he, rfl⟩
  unfold pyNext
  exact wpAny_bind (wpAny_attempt (wpAny_callSpecial?_slot (name := Str.ofString "__next__") hT F.slot_enumerate_next (wpAny_call_entry F.slot_enumerate_next hT F.entry_enumerate_next
    (enum_step (St := fun h => h.IsTupleIter it t (i + 1)) he hne (fun h h' ⟨o, ho, r⟩ k => ⟨o, k o ho, r⟩) (fun A E Q hq => nextOf_tup hit ht hx hq) fun h' a b c d k => wpAny_pure (hQ h' a b c d k)) (F.args_enumerate_next_1 _))))
theorem pyNext_enumT_end {e it t : Addr} {i : Nat} {items : Array Value} {old : Value} {Q : Option Value → Shared → Prop} (hh : A.handled = none) (he : IsEnum s.heap e it i old) (hit : s.heap.IsTupleIter it t i) (ht : s.heap.IsTuple t items) (hx : items[i]? = none)
    (hQ : ∀ h', Heap.ExtBut it s.heap h' → Q none { s with heap := h' }) : wpAny (model prog w) A (pyNext (.ref e)) Q E s := by
  have hT : s.TypeIs (.ref e) "enumerate" := ⟨_, he, rfl⟩
  unfold pyNext
  refine wpAny_bind (wpAny_attempt (wpAny_callSpecial?_slot (name := Str.ofString "__next__") hT F.slot_enumerate_next (wpAny_call_entry F.slot_enumerate_next hT F.entry_enumerate_next ?_ (F.args_enumerate_next_1 _))))
  show wpAny _ _ (field (.ref e) 2 >>= _) _ _ _
  refine wpAny_bind (wpAny_field he rfl (x := .ref it) rfl ?_)
  refine wpAny_bind (nextOf_tup_end hh hit ht hx fun h' x he' hx' => ?_)
  refine xE1A2 hx' ?_; (try clear hx'); intro o ho hc
  refine wpAny_bind (wpAny_isInstance (T := "StopIteration") (b := true) ⟨o, ho, hc⟩ isSubtype_stop ?_)
  exact wpAny_pure (hQ _ he')
end
section
open Sem (wp)
open AutoSeq1 (wpAny_loadPart')
theorem enumT_new (l : Addr) (items : Array Value) (n : Nat) (dct : Option Addr) (sl : Array (Option Value)) :
    Meets (Builtin.«enumerate.__new__» ⟨[.type "enumerate", .ref l], []⟩) (fun _ R s => s.heap.get? l = some { cls := .type "tuple", dict := dct, data := .seq items n, slots := sl } ∧
      R (.ok (.ret (.ref (s.heap.push { cls := .type "tuple_iterator", data := .fields #[.ref l, .int 0 0] }).objs.size)))
        { s with heap := (s.heap.push { cls := .type "tuple_iterator", data := .fields #[.ref l, .int 0 0] }).push { cls := .type "enumerate", data := .fields #[.none, .bool false, .ref s.heap.objs.size, rawInt 0, .none, .none] } }) :=
  .of_wp fun prog w A R s h => by
    obtain ⟨hp, g, d, tk, os⟩ := s; refine xE0A2 h ?_; (try clear h); intro hl h
    have hsub := sub_enumerate
    have hL : Heap.IsTuple (Shared.heap ⟨hp, g, d, tk, os⟩) l items := ⟨_, hl, rfl, n, rfl⟩
    wp_walk using wpAny_loadPart' hl
    refine wpAny_stack_any fun st => wpAny_pure ?_
    split
    · rename_i c _ _ _ _ _
      cases (c == Value.type "enumerate")
      · wp_walk using wpAny_loadPart' hl, wpAny_pyIter_tuple hL
        exact ⟨_, rfl, h⟩
      · wp_walk using wpAny_loadPart' hl, wpAny_pyIter_tuple hL
        exact ⟨_, rfl, h⟩
    · wp_walk using wpAny_loadPart' hl, wpAny_pyIter_tuple hL
      exact ⟨_, rfl, h⟩
theorem call_enumT {prog : Program} {w : World} {A : Around} {E : Value → Shared → Prop} {s : Shared} {l : Addr} {items : Array Value} {Q : Value → Shared → Prop} (hL : s.heap.IsTuple l items)
    (h : ∀ h', IsEnum h' (s.heap.objs.size + 1) s.heap.objs.size 0 .none → h'.IsTupleIter s.heap.objs.size l 0 → h'.objs.size = s.heap.objs.size + 2 → (∀ b o, s.heap.get? b = some o → h'.get? b = some o) → Q (.ref (s.heap.objs.size + 1)) { s with heap := h' }) :
    wpAny (model prog w) A (call (.type "enumerate") [.ref l]) Q E s := by
  refine xE1A3 hL ?_; (try clear hL); intro z3q hl hc z4q; refine xE1A1 z4q ?_; (try clear z4q); intro n hd; obtain ⟨c, dct, dt, sl⟩ := z3q
  replace hc : c = .type "tuple" := hc
  replace hd : dt = .seq items n := hd
  subst hc hd
  refine callType_new F.called_enumerate (by decide) (F.typeCall_enumerate_1 _) (F.newCall_enumerate_1 _) (fun obj => F.args_object_init_2 obj _) F.entry_enumerate_new (enumT_new l items n dct sl) ⟨hl, ?_⟩
  have hz : (s.heap.push { cls := .type "tuple_iterator", data := .fields #[.ref l, .int 0 0] }).objs.size = s.heap.objs.size + 1 := Heap.size_push ..
  show _ ∧ _
  rw [hz]
  have he : IsEnum ((s.heap.push { cls := .type "tuple_iterator", data := .fields #[.ref l, .int 0 0] }).push { cls := .type "enumerate", data := .fields #[.none, .bool false, .ref s.heap.objs.size, rawInt 0, .none, .none] }) (s.heap.objs.size + 1) s.heap.objs.size 0 .none := by
    have := Heap.get?_push_size (s.heap.push { cls := .type "tuple_iterator", data := .fields #[.ref l, .int 0 0] }) (o := { cls := .type "enumerate", data := .fields #[.none, .bool false, .ref s.heap.objs.size, rawInt 0, .none, .none] }) rfl
    rw [hz] at this; exact this
  refine ⟨⟨_, he, rfl⟩, h _ he ⟨_, Heap.get?_push_of_some _ (Heap.get?_push_size _ rfl), rfl, rfl⟩ (by rw [Heap.size_push, hz]) fun b o x => Heap.get?_push_of_some _ (Heap.get?_push_of_some _ x)⟩
end

section
open LCg
variable {prog : Program} {w : World} {A : Around} {E : Value → Shared → Prop} {s : Shared} {h₀ : Heap} {L : Addr} {m : Str → Option Value} {env : Env}
noncomputable def EnumAt (h₀ : Heap) (L : Addr) (m : Str → Option Value) (s : Shared) (ax : Addr) (news : Led) (xv : Value) (s₁ : Shared) : Prop :=
  ∃ e I h tk, s₁ = { s with heap := h, toks := tk } ∧ xv = .ref e ∧ Fr h₀ L h m ∧ News h₀ L h news ∧ IsEnum h e I 0 .none ∧ h.IsTupleIter I ax 0 ∧ e ≠ I ∧ L ≠ I ∧ L ≠ e ∧ h₀.get? I = none ∧ h₀.get? e = none ∧ (∀ p ∈ news, p.1 ≠ I ∧ p.1 ≠ e)
theorem enumAt_call {ax : Addr} {vs : List Value} {k : Nat} {news : Led} {Q : Value → Shared → Prop} (F : Fr h₀ L s.heap m) (N : News h₀ L s.heap news) (hm : (ax, tupO vs k) ∈ news) (h : ∀ xv s₁, EnumAt h₀ L m s ax news xv s₁ → Q xv s₁) : wpAny (model prog w) A (call (.type "enumerate") [.ref ax]) Q E s := by
  refine call_enumT (N.isTup hm) fun h₁ he hit hsz hk => h _ _ ⟨_, _, h₁, s.toks, rfl, rfl, F.keeps hk, N.grown hk, he, hit, Nat.succ_ne_self _, Nat.ne_of_lt F.ns.lt, Nat.ne_of_lt (Nat.lt_succ_of_lt F.ns.lt), next_is_new F, ?_, fun p hp => ?_⟩
  · cases q : h₀.get? (s.heap.objs.size + 1) with
    | none => rfl
    | some o => exact absurd (Heap.lt_size (F.keep _ _ q)) (Nat.not_lt.mpr (Nat.le_succ _))
  · have := Heap.lt_size (N p hp).1
    exact ⟨Nat.ne_of_lt this, Nat.ne_of_lt (Nat.lt_succ_of_lt this)⟩
theorem assign_E {elt iter c : PySem.Expr} {xi xv y : Str} {pi pv tp py : Pos} {kk : Nat} {scope : Scope} {cl : List (Str × Addr)} {pos spos : Pos} {Q : Flow → Shared → Prop} {ax : Addr} {its : List (Str × Tok)} {k : Nat} {news : Led} (Jv : Nat → List Value → Prop) (_F : Fr h₀ L s.heap m) (_N : News h₀ L s.heap news) (hLe' : env.locals = L)
    (hsw : swapsWith (.ListComp elt [⟨.Tuple [.Name xi pi, .Name xv pv] kk tp, iter, [c], 0⟩] scope pos) (some (.Name y py)) spos.line env = pure true) (hy : env.kindOf y = some .local) (hp' : (env.scope.kind == .class || (env.scope.kind == .module && env.locals != env.globals)) = false)
    (hh : A.handled = none) (hm : (ax, tupO (strV its) k) ∈ news) (hil : its.length ≤ 1000) (hclos : closureFor scope env = pure cl) (hcell : ∀ y ∈ scope.names, y.2 ≠ .cell) (hkind : scope.kind = .function)
    (hnames : ∀ y ∈ scope.names, y.2 = .local → scope.names.lookup y.1 = some .local) (hxi : scope.names.lookup xi = some .local) (hxv : scope.names.lookup xv = some .local) (hne : xi ≠ xv)
    (hi : wpAny (model prog w) A (eval iter env) (EnumAt h₀ L m s ax news) E s) (h0 : Jv 0 [])
    (turn : ∀ i x t u I oI e oe C oC D ys m₂ h tk (E' : Value → Shared → Prop), its[i]? = some (x, t) → Jv i ys → NsObj oC m₂ → m₂ xi = some (.int (i : Int) u) → m₂ xv = some (.str x t) → Fr h₀ L h m → News h₀ L h ((e, oe) :: (I, oI) :: (C, oC) :: (D, lst ys) :: news) →
      (∀ p ∈ news, p.1 ≠ I ∧ p.1 ≠ e ∧ p.1 ≠ C ∧ p.1 ≠ D) →
      wpAny (model prog w) A (isTrue c (compEnvC scope cl C env) (eval c (compEnvC scope cl C env))) (fun ok s' => if ok = true then
        wpAny (model prog w) A (eval elt (compEnvC scope cl C env)) (CompV h₀ L m s ((e, oe) :: (I, oI) :: (C, oC) :: (D, lst ys) :: news) (fun y => Jv (i + 1) (ys ++ [y]))) E' s'
        else CompV h₀ L m s ((e, oe) :: (I, oI) :: (C, oC) :: (D, lst ys) :: news) (fun _ => Jv (i + 1) ys) Value.none s') E' { s with heap := h, toks := tk })
    (fin : ∀ D ys h tk, Jv its.length ys → Fr h₀ L h (fun z => if z = y then some (.ref D) else m z) → News h₀ L h ((D, lst ys) :: news) → (∀ p ∈ news, p.1 ≠ D) → Q .next { s with heap := h, toks := tk })
    (hs : ∀ x, foldedSetIterable iter env x = pure x := by intro _; rfl) :
    wpAny (model prog w) A (exec (.Assign [.Name y py] (.ListComp elt [⟨.Tuple [.Name xi pi, .Name xv pv] kk tp, iter, [c], 0⟩] scope pos) spos) env) Q E s := by
  subst hLe'
  rw [exec_Assign_Name_used _ _ _ _ hsw]
  refine wpAny_bind (wpAny_standAt (wpAny_bind ?_))
  show wpAny _ A (do let _ ← comprehension (.ListComp elt [⟨.Tuple [.Name xi pi, .Name xv pv] kk tp, iter, [c], 0⟩] scope pos) scope env _ (newList []) false (eval iter env) (some (assign (.Name y py) env))) _ _ s
  refine wpAny_bind (wpAny_mono (wpAny_comprehension_free (use := some (assign (.Name y py) env)) (Q := fun _ s' => Q .next s') rfl hs hclos hkind hnames
    (wpAny_mono hi (fun xv' s₁ h₁ => ?_) fun _ _ e => e)) (fun _ s' hq => wpAny_pure (wpAny_pure hq)) fun _ _ e => e)
  refine xE4A12 h₁ ?_; (try clear h₁); intro e I h tk z1q z2q F N he hit hei hLI hLe hI₀ he₀ off; obtain rfl := z1q; obtain rfl := z2q
  refine wpAny_pyIter_enum he ?_
  refine wpAny_newObj_type (wpAny_newFunctionEnv hcell (by intro y hy; simp at hy) (fun h₁ hns₁ hsb₁ => ?_) hkind)
  dsimp only at hns₁ hsb₁ ⊢
  generalize hH2 : h.push { cls := .type "list", dict := none, data := .seq ([] : List Value).toArray } = H2 at hns₁ hsb₁ ⊢
  have hC : H2.objs.size = h.objs.size + 1 := by rw [← hH2, Heap.size_push]
  have hDC : h.objs.size ≠ H2.objs.size := by rw [hC]; exact Nat.ne_of_lt (Nat.lt_succ_self _)
  have below : ∀ b, b < h.objs.size → b ≠ H2.objs.size ∧ b ≠ h.objs.size := fun b hb => ⟨by rw [hC]; exact Nat.ne_of_lt (Nat.lt_succ_of_lt hb), Nat.ne_of_lt hb⟩
  have old : ∀ b o, h.get? b = some o → h₁.get? b = some o := fun b o e => hsb₁.extBut b o (below b (Heap.lt_size e)).1 (Heap.get?_push_of_some _ (hH2 ▸ Heap.get?_push_of_some _ e))
  have hacc : h₁.get? h.objs.size = some (lst []) := hsb₁.extBut _ _ hDC (Heap.get?_push_of_some _ (hH2 ▸ Heap.get?_push_size _ rfl))
  have fresh₀ : ∀ a, h.objs.size ≤ a → h₀.get? a = none := fun a ha => by
    cases q : h₀.get? a with
    | none => rfl
    | some o' => exact absurd (Heap.lt_size (F.keep a o' q)) (Nat.not_lt.mpr ha)
  have hD₀ : h₀.get? h.objs.size = none := fresh₀ _ (Nat.le_refl _)
  have hC₀ : h₀.get? H2.objs.size = none := fresh₀ _ (by rw [hC]; exact Nat.le_succ _)
  have hLlt : env.locals < h.objs.size := F.ns.lt
  have hDL : h.objs.size ≠ env.locals := Ne.symm (below env.locals hLlt).2
  have hCL : H2.objs.size ≠ env.locals := Ne.symm (below env.locals hLlt).1
  have helt : e < h.objs.size := Heap.lt_size he
  have hIlt : I < h.objs.size := by refine xE1A2 hit ?_; (try clear hit); intro o ho _; exact Heap.lt_size ho
  have off₀ : ∀ p ∈ news, p.1 ≠ I ∧ p.1 ≠ e ∧ p.1 ≠ H2.objs.size ∧ p.1 ≠ h.objs.size := fun p hp => ⟨(off p hp).1, (off p hp).2, (below _ (Heap.lt_size (N p hp).1)).1, (below _ (Heap.lt_size (N p hp).1)).2⟩
  refine xE0A2 (below I hIlt) fun hIC hID => ?_
  refine xE0A2 (below e helt) fun heC heD => ?_
  clear hC below fresh₀ hLlt helt hIlt hH2
  generalize h.objs.size = D at *
  generalize H2.objs.size = C at *
  have hIt : h₁.IsTupleIter I ax 0 := by refine xE1A2 hit ?_; (try clear hit); intro o ho r; exact ⟨o, old _ _ ho, r⟩
  refine (fun (loop : ∀ s₃ : Shared, s₃ = { s with heap := h₁, toks := tk + ([] : List (Str × Value)).length } →
      codeAny (model prog w) A (.compLoop (.ListComp elt [⟨.Tuple [.Name xi pi, .Name xv pv] kk tp, iter, [c], 0⟩] scope pos) 0 (.ref e) (.ref D) (compEnvC scope cl C env)) _ s₃) => codeAny_compStart_list (loop _ rfl) (wpAny_pyIter_enum (old _ _ he) (loop _ rfl))) ?_
  · rintro s₃ rfl
    refine kct_loop (fun q s' => ∃ h' tk i ys m' old, s' = { s with heap := h', toks := tk } ∧ i ≤ its.length ∧ q = its.length + 1 - i ∧ ys.length ≤ i ∧ IsEnum h' e I (i : Nat) old ∧ h'.IsTupleIter I ax i ∧ Fr h₀ env.locals h' m ∧ h'.Ns C m' ∧ News h₀ env.locals h' ((D, lst ys) :: news) ∧ Jv i ys) ?_ (its.length + 1)
      ⟨h₁, _, 0, [], _, _, rfl, Nat.zero_le _, rfl, Nat.le_refl _, old _ _ he, hIt, F.keeps old, hns₁, fun p hp => ?_, h0⟩
    · intro q s' z3q; refine xE6A10 z3q ?_; (try clear z3q); intro h' tk i ys m' old' z4q hi' z5q hyl he' hit' F' hn' N' hJ; obtain rfl := z4q; obtain rfl := z5q
      have ht' : h'.IsTuple ax (strV its).toArray := News.isTup N' (.tail _ hm)
      by_cases hlt : i < its.length
      · have hp : its[i]? = some its[i] := List.getElem?_eq_getElem hlt
        generalize its[i] = p at hp
        obtain ⟨x, t⟩ := p
        have hx : (strV its).toArray[i]? = some (.str x t) := by rw [List.getElem?_toArray, List.getElem?_map, hp]; rfl
        have heH : e < h'.objs.size := Heap.lt_size he'
        have hiH : I < h'.objs.size := by refine xE1A2 hit' ?_; (try clear hit'); intro o ho _; exact Heap.lt_size ho
        have hCH : C < h'.objs.size := by refine xE3A2 hn' ?_; (try clear hn'); intro o _ _ ho _; exact Heap.lt_size ho
        refine pyNext_enumT he' hit' ht' hx hei fun h₂ heo hit₂ ht₂ hz₂ hk₂ => ?_
        refine wpAny_letOwnedTupleGo_enum heo fun h₃ he₃ hs₃ => ?_
        replace hs₃ : Heap.SameBut e h₂ h₃ := hs₃
        have ht₃ : h₃.IsTuple h'.objs.size #[.int i tk, .str x t] := ⟨_, (hs₃.2 _ (Nat.ne_of_gt heH)).trans ht₂, rfl, _, rfl⟩
        have hz₃ : h₃.objs.size = h'.objs.size + 1 := hs₃.1.trans hz₂
        refine wpAny_assign_Tuple hh ht₃ rfl rfl fun h₄ hx₄ => ?_
        replace hx₄ : Heap.ExtBut h₃.objs.size h₃ h₄ := hx₄
        have old₄ : ∀ b o, b < h'.objs.size → h₃.get? b = some o → h₄.get? b = some o := fun b o hb y => hx₄ b o (by rw [hz₃]; exact Nat.ne_of_lt (Nat.lt_succ_of_lt hb)) y
        have keep₄ : ∀ b o, b ≠ e → b ≠ I → h'.get? b = some o → h₄.get? b = some o := fun b o z1 z2 y => old₄ b o (Heap.lt_size y) (hs₃.extBut b o z1 (hk₂ b o z1 z2 y))
        have F₄ : Fr h₀ env.locals h₄ m := ⟨F'.ns.at' fun o y => keep₄ _ o hLe hLI y, fun b o y => keep₄ b o (fun z => by rw [z, he₀] at y; cases y) (fun z => by rw [z, hI₀] at y; cases y) (F'.keep b o y), F'.above⟩
        have N₄ : News h₀ env.locals h₄ ((D, lst ys) :: news) := fun p hp => by
          have z := N' p hp
          rcases List.mem_cons.mp hp with rfl | hp
          · exact ⟨keep₄ _ _ (Ne.symm heD) (Ne.symm hID) z.1, z.2⟩
          · exact ⟨keep₄ _ _ (off₀ p hp).2.1 (off₀ p hp).1 z.1, z.2⟩
        have e₄ : IsEnum h₄ e I ((i : Int) + 1) (.str x t) := old₄ _ _ heH he₃
        refine xE1A3 (((hit₂.extBut hs₃.extBut (Ne.symm hei)).at fun o y => old₄ I o hiH y : h₄.IsTupleIter I ax (i + 1))) fun oJ hoJ hoJc hoJd => ?_
        have n₄ : h₄.Ns C m' := hn'.at' fun o y => keep₄ _ o (Ne.symm heC) (Ne.symm hIC) y
        show wpAny _ A (do holding [Value.str x t] (assign (.Name xi pi) (compEnvC scope cl C env) (.int i tk)); do holding [] (assign (.Name xv pv) (compEnvC scope cl C env) (.str x t)); pure ()) _ _ _
        refine wpAny_bind (wpAny_holding (wpAny_assign_Name (wpAny_storeName_local (lookup_relabel_local hxi) n₄ (fun h₅ hn₅ hs₅ => ?_) (by simp [compEnvC, relabel, hkind]))))
        refine wpAny_bind (wpAny_holding (wpAny_assign_Name (wpAny_storeName_local (lookup_relabel_local hxv) hn₅ (fun h₆ hn₆ hs₆ => wpAny_pure ?_) (by simp [compEnvC, relabel, hkind]))))
        refine xE1A2 (ns_obj hn₆) fun oC heC' hoC => ?_
        have F₆ : Fr h₀ env.locals h₆ m := (F₄.change hs₅ hCL hC₀).change hs₆ hCL hC₀
        have keep₆ : ∀ b o, b ≠ C → h₄.get? b = some o → h₆.get? b = some o := fun b o z y => hs₆.extBut b o z (hs₅.extBut b o z y)
        have N₆ : News h₀ env.locals h₆ ((e, enumO I ((i : Int) + 1) (.str x t)) :: (I, oJ) :: (C, oC) :: (D, lst ys) :: news) := fun p hp => by
          rcases List.mem_cons.mp hp with rfl | hp
          · exact ⟨keep₆ _ _ heC e₄, Ne.symm hLe, he₀⟩
          · rcases List.mem_cons.mp hp with rfl | hp
            · exact ⟨keep₆ _ _ hIC hoJ, Ne.symm hLI, hI₀⟩
            · rcases List.mem_cons.mp hp with rfl | hp
              · exact ⟨heC', hCL, hC₀⟩
              · have z := N₄ p hp
                refine ⟨keep₆ _ _ ?_ z.1, z.2⟩
                rcases List.mem_cons.mp hp with rfl | hp
                · exact hDC
                · exact (off₀ p hp).2.2.1
        refine wpAny_mono (turn i x t tk I oJ e _ C oC D ys _ h₆ _ _ hp hJ hoC (by simp [hne]) (by simp) F₆ N₆ off₀) (fun ok s₄ h₄' => ?_) fun _ _ e => e
        cases ok with
        | true =>
          simp only [if_true] at h₄' ⊢
          refine wpAny_mono h₄' (fun y s₅ h₅ => ?_) fun _ _ e => e
          refine xE0A2 h₅ ?_; (try clear h₅); intro hJ' z7q; refine xE2A3 z7q ?_; (try clear z7q); intro h₇ tk₇ z6q F₇ N₇; obtain rfl := z6q
          have zD := (N₇ (D, lst ys) (by simp)).1
          refine append_at (hsz := by show ys.toArray.size ≤ sizeLine; rw [List.size_toArray, sizeLine_eq]; k_extra "o") zD fun h₈ hs₈ hD₈ => ?_
          refine ⟨its.length + 1 - (i + 1), by k_extra "o", h₈, tk₇, i + 1, ys ++ [y], _, .str x t, rfl, hlt, rfl, by rw [List.length_append, List.length_singleton]; exact Nat.succ_le_succ hyl, hs₈.extBut _ _ heD (N₇ _ (.head _)).1, ⟨oJ, hs₈.extBut _ _ hID (N₇ _ (.tail _ (.head _))).1, hoJc, hoJd⟩, F₇.change hs₈ hDL hD₀,
            (hoC.ns (N₇ _ (.tail _ (.tail _ (.head _)))).1).sameBut hs₈ (Ne.symm hDC), fun p hp => ?_, hJ'⟩
          rcases List.mem_cons.mp hp with rfl | hp
          · exact ⟨hD₈.trans (congrArg some (lst_snoc ys y)), hDL, hD₀⟩
          · exact ⟨hs₈.extBut _ _ (off₀ p hp).2.2.2 (N₇ p (by simp [hp])).1, (N₇ p (by simp [hp])).2⟩
        | false =>
          simp only [Bool.false_eq_true, if_false] at h₄' ⊢
          refine xE0A2 h₄' ?_; (try clear h₄'); intro hJ' z9q; refine xE2A3 z9q ?_; (try clear z9q); intro h₇ tk₇ z8q F₇ N₇; obtain rfl := z8q
          exact ⟨its.length + 1 - (i + 1), by k_extra "o", h₇, tk₇, i + 1, ys, _, .str x t, rfl, hlt, rfl, Nat.le_succ_of_le hyl, (N₇ _ (.head _)).1, ⟨oJ, (N₇ _ (.tail _ (.head _))).1, hoJc, hoJd⟩, F₇, hoC.ns (N₇ _ (.tail _ (.tail _ (.head _)))).1, fun p hp => N₇ p (.tail _ (.tail _ (.tail _ hp))), hJ'⟩
      · obtain rfl : i = its.length := Nat.le_antisymm hi' (Nat.not_lt.mp hlt)
        refine pyNext_enumT_end hh he' hit' ht' (by simp [strV_length]) fun h₂ hs₂ => ?_
        have F₂ : Fr h₀ env.locals h₂ m := ⟨F'.ns.at' fun o y => hs₂ _ o hLI y, fun b o y => hs₂ b o (fun z => by rw [z, hI₀] at y; cases y) (F'.keep b o y), F'.above⟩
        have hn₂ : h₂.Ns C m' := hn'.at' fun o y => hs₂ _ o (Ne.symm hIC) y
        have N₂ : News h₀ env.locals h₂ ((D, lst ys) :: news) := fun p hp => by
          have z := N' p hp
          rcases List.mem_cons.mp hp with rfl | hp
          · exact ⟨hs₂ _ _ (Ne.symm hID) z.1, z.2⟩
          · exact ⟨hs₂ _ _ (off₀ p hp).1 z.1, z.2⟩
        show wpAny _ A (assign (.Name y py) env (.ref D)) _ _ _
        refine wpAny_assign_Name (wpAny_storeName_local hy F₂.ns (fun h₉ hn₉ hs₉ => ?_) hp')
        have F₉ := F₂.set hn₉ hs₉
        have N₉ : News h₀ env.locals h₉ ((D, lst ys) :: news) := News.set (N := N₂) hs₉
        refine ⟨m', hn₂.sameBut hs₉ hCL, fun h'' hs'' => fin D ys h'' _ hJ (F₉.change hs'' hCL hC₀) (fun p hp => ?_) fun p hp => (off₀ p hp).2.2.2⟩
        have z := N₉ p hp
        rcases List.mem_cons.mp hp with rfl | hp
        · exact ⟨hs''.extBut _ _ hDC z.1, z.2⟩
        · exact ⟨hs''.extBut _ _ (off₀ p hp).2.2.1 z.1, z.2⟩
    · rcases List.mem_cons.mp hp with rfl | hp
      · exact ⟨hacc, hDL, hD₀⟩
      · exact ⟨old _ _ (N p hp).1, (N p hp).2⟩
theorem EnumAt.base {ax : Addr} {news : Led} {xv : Value} {s₁ : Shared} {h : Heap} {tk : Nat} (H : EnumAt h₀ L m { s with heap := h, toks := tk } ax news xv s₁) : EnumAt h₀ L m s ax news xv s₁ := by
  refine xE4A2 H ?_; (try clear H); intro e I h' tk' z10q r; obtain rfl := z10q
  exact (yE4A2 e I h' tk' rfl r)
end

section
open Builtin.Slice
variable {prog : Program} {w : World} {A : Around} {E : Value → Shared → Prop} {s : Shared}
theorem places_run (a c : Nat) : slicePlaces (a : Int) ((a + c : Nat) : Int) 1 = c := by
  unfold slicePlaces
  have h1 : (1 : Int) > 0 := by k_extra "o"
  simp only [h1, if_true, Int.ediv_one]
  split <;> k_extra "o"
theorem part_at {v : Value} {o : Option Int} {Q : Option Int → Shared → Prop} (p : IsPart v o) (h : Q o s) : wpAny (model prog w) A (slicePartIndex v) Q E s := by
  cases p with
  | none => exact slicePart_none h
  | int i t => exact slicePart_int h
theorem sliceApplied_run {sl : Addr} {vl vu : Value} {lo hi : Option Int} {n a c : Nat} {Q : Int × Int × Nat → Shared → Prop} (hs : s.heap.IsSliceOf sl vl vu .none) (pl : IsPart vl lo) (pu : IsPart vu hi) (hadj : sliceAdjust lo hi 1 (n : Int) = ((a : Int), ((a + c : Nat) : Int))) (h : Q ((a : Int), 1, c) s) :
    wpAny (model prog w) A (sliceApplied (.ref sl) (pure (n : Int))) Q E s := by
  refine xE1A3 (id hs) fun os hos hcs hds => ?_
  unfold sliceApplied sliceFields
  refine wpAny_bind (wpAny_bind (wpAny_field hos hds (x := vl) rfl (wpAny_bind (wpAny_field hos hds (x := vu) rfl (wpAny_bind (wpAny_field hos hds (x := .none) rfl (wpAny_pure ?_)))))))
  refine wpAny_bind (slicePart_none ?_)
  show wpAny _ _ (if ((1 : Int) == 0) = true then _ else _) _ _ s
  rw [if_neg (by decide)]
  refine wpAny_bind (part_at pl (wpAny_bind (part_at pu (wpAny_bind (wpAny_pure ?_)))))
  show wpAny _ _ (match sliceAdjust lo hi 1 (n : Int) with | (lo, hi) => pure (lo, (1 : Int), slicePlaces lo hi 1)) _ _ s
  rw [hadj]
  show wpAny _ _ (pure ((a : Int), (1 : Int), slicePlaces (a : Int) ((a + c : Nat) : Int) 1)) _ _ s
  rw [places_run]
  exact wpAny_pure h
theorem pick_some (xs : Array Value) (a c : Nat) : ((List.range c).filterMap fun (k : Nat) => xs[((a : Int) + (k : Int) * 1).toNat]?).toArray = ((xs.toList.drop a).take c).toArray := by
  have e : (fun (k : Nat) => xs[((a : Int) + (k : Int) * 1).toNat]?) = fun k => xs[a + k]? := by
    funext k
    have : ((a : Int) + (k : Int) * 1).toNat = a + k := by k_extra "o"
    rw [this]
  rw [e]
  have := pick_run xs a c
  rw [List.filterMap_map] at this
  have e2 : ((fun x => xs[x]?) ∘ fun x => a + x) = fun k => xs[a + k]? := rfl
  rw [e2] at this
  rw [this]
theorem getItem_tuple_run {t sl : Addr} {items : Array Value} {vl vu : Value} {lo hi : Option Int} {a c : Nat} {Q : Value → Shared → Prop} (ht : IsTup s.heap t items) (hs : s.heap.IsSliceOf sl vl vu .none) (pl : IsPart vl lo) (pu : IsPart vu hi) (hadj : sliceAdjust lo hi 1 (items.size : Int) = ((a : Int), ((a + c : Nat) : Int)))
    (h0 : a = 0 → c = items.size → Q (.ref t) s) (h : Q (.ref s.heap.objs.size) { s with heap := s.heap.push { cls := .type "tuple", data := .seq ((items.toList.drop a).take c).toArray } }) (hsz : items.size ≤ sizeLine) : wpAny (model prog w) A (getItem (.ref t) (.ref sl)) Q E s := by
  have hdrop : sizeOk (.seq ((items.toList.drop a).take c).toArray) := by
    show ((items.toList.drop a).take c).toArray.size ≤ sizeLine
    rw [List.size_toArray, List.length_take, List.length_drop, Array.length_toList]
    k_extra "o"
  refine xE1A3 (id hs) fun os hos hcs hds => ?_
  have hTs : s.TypeIs (.ref sl) "slice" := ⟨os, hos, hcs⟩
  unfold getItem
  try with_reducible refine wpAny_holding ?_
  first | refine wpAny_bind (wpAny_pure ?_) | skip
  refine wpAny_bind (wpAny_sequenceKey ht.typeIs (by decide) ?_)
  refine wpAny_bind (wpAny_callSpecial?_slot (name := Str.ofString "__getitem__") ht.typeIs slot_tuple_getitem
    (wpAny_call_entry slot_tuple_getitem ht.typeIs entry_tuple_getitem ?_ (args_tuple_getitem _ _)))
  show wpAny _ _ (Builtin.Tuple.tupleItemsOf (.ref t) >>= _) _ _ s
  refine wpAny_bind (tupleItemsOf_ ht ?_)
  refine wpAny_bind (wpAny_typeOf hTs ?_)
  rw [if_pos (by decide)]
  refine wpAny_bind (sliceApplied_run hs pl pu hadj ?_)
  show wpAny _ _ (if ((a : Int) == 0 && (1 : Int) == 1 && c == items.size) = true then _ else _) _ _ s
  by_cases hc : ((a : Int) == 0 && (1 : Int) == 1 && c == items.size) = true
  · rw [if_pos hc]
    simp only [Bool.and_eq_true, beq_iff_eq] at hc
    have z := h0 (by k_extra "o") hc.2
    refine wpAny_bind (m := Builtin.Tuple.tupleIsExact _) ?_
    show wpAny _ _ (typeOf (.ref t) >>= fun T => pure (T == .type "tuple")) _ _ s
    refine wpAny_bind (wpAny_typeOf ht.typeIs (wpAny_pure ?_))
    rw [if_pos (by decide)]
    first
      | exact wpAny_bind (wpAny_rule (wpAny_bind (wpAny_pure ⟨_, rfl, wpAny_pure z⟩)))
      | exact wpAny_bind (wpAny_rule (wpAny_bind (wpAny_pure (wpAny_pure ⟨_, rfl, wpAny_pure z⟩))))
      | exact wpAny_bind (wpAny_rule (wpAny_pure ⟨_, rfl, wpAny_pure z⟩))
  · rw [if_neg hc, pick_some items a c]
    first
      | exact wpAny_bind (m := Builtin.Tuple.tupleExact _) (wpAny_newObj_type (wpAny_pure ⟨_, rfl, wpAny_pure h⟩) hdrop)
      | exact wpAny_bind (m := Builtin.Tuple.tupleExact _) (wpAny_newObj_type (wpAny_bind (wpAny_pure (wpAny_pure ⟨_, rfl, wpAny_pure h⟩))) hdrop)
      | exact wpAny_bind (wpAny_bind (m := Builtin.Tuple.tupleExact _) (wpAny_newObj_type (wpAny_pure (wpAny_pure ⟨_, rfl, wpAny_pure h⟩)) hdrop))
      | exact wpAny_bind (wpAny_bind (m := Builtin.Tuple.tupleExact _) (wpAny_newObj_type (wpAny_pure ⟨_, rfl, wpAny_pure h⟩) hdrop))
variable {h₀ : Heap} {L : Addr} {m : Str → Option Value} {news : Led}
theorem tup_cut {value slice : Expr} {t : Addr} {its : List (Str × Tok)} {k a c : Nat} {vl vu : Value} {lo hi : Option Int} {Q : Value → Shared → Prop} (F : Fr h₀ L s.heap m) (N : News h₀ L s.heap news) (hm : (t, tupO (strV its) k) ∈ news) (pl : IsPart vl lo) (pu : IsPart vu hi)
    (hadj : sliceAdjust lo hi 1 (its.length : Int) = ((a : Int), ((a + c : Nat) : Int))) (hil : its.length ≤ 1000)
    (h : ∀ D k' h', Fr h₀ L h' m → News h₀ L h' ((D, tupO (strV ((its.drop a).take c)) k') :: news) → Q (.ref D) { s with heap := h' })
    (hs : subscripted slice false (.ref t) (.ref s.heap.objs.size) = operate [.ref s.heap.objs.size, .ref t] (getItem (.ref t) (.ref s.heap.objs.size)) := by with_unfolding_all rfl)
    (hg : ∀ r, letTemporaryGo value (.ref t) r = pure () := by intro _; with_unfolding_all rfl) :
    wpAny (model prog w) A (subscriptTail value slice (.ref t) (.ref s.heap.objs.size)) Q E { s with heap := s.heap.push { cls := .type "slice", data := .fields #[vl, vu, .none] } } := by
  have ht := N.isTup hm
  have e1 : (strV its).toArray.size = its.length := by rw [List.size_toArray, strV_length]
  have e2 : ((strV its).toArray.toList.drop a).take c = strV ((its.drop a).take c) := by
    show ((strV its).drop a).take c = _
    rw [strV, strV, List.map_take, List.map_drop]
  have ht' : IsTup (s.heap.push { cls := .type "slice", data := .fields #[vl, vu, .none] }) t (strV its).toArray := ht.keeps fun _ _ e => Heap.get?_push_of_some _ e
  refine subscriptTail_ops (s := { s with heap := s.heap.push { cls := .type "slice", data := .fields #[vl, vu, .none] } }) ht'.typeIs slot_tuple_getitem.lookup
    (getItem_tuple_run ht' (Heap.IsSliceOf.new ..) pl pu (by rw [e1]; exact hadj) (fun h0 hc => ?_) ?_ (by rw [e1, sizeLine_eq]; k_extra "o")) hs hg
  · subst h0
    rw [e1] at hc
    subst hc
    refine h t k (s.heap.push { cls := .type "slice", data := .fields #[vl, vu, .none] }) (F.push _) fun p hp => ?_
    rw [List.drop_zero, List.take_length] at hp
    have N' : News h₀ L (s.heap.push { cls := .type "slice", data := .fields #[vl, vu, .none] }) news := N.grown fun _ _ e => Heap.get?_push_of_some _ e
    rcases List.mem_cons.mp hp with rfl | hp
    · exact N' _ hm
    · exact N' p hp
  · have N1 := News.push (F.push { cls := .type "slice", data := .fields #[vl, vu, .none] }) (N.grown fun _ _ e => Heap.get?_push_of_some _ e) { cls := .type "tuple", data := .seq (((strV its).toArray.toList.drop a).take c).toArray }
    rw [e2] at N1 ⊢
    exact h _ 0 _ ((F.push _).push _) N1
theorem adj_to {n p : Nat} (h : p ≤ n) : sliceAdjust none (some (p : Int)) 1 (n : Int) = (((0 : Nat) : Int), ((0 + p : Nat) : Int)) := by
  unfold sliceAdjust
  have h1 : ¬ ((1 : Int) < 0) := by k_extra "o"
  have h2 : ¬ ((p : Int) < 0) := by k_extra "o"
  simp only [h1, h2, if_false]
  congr 1
  k_extra "o"
theorem adj_from {n p : Nat} (h : p ≤ n) : sliceAdjust (some (p : Int)) none 1 (n : Int) = ((p : Int), ((p + (n - p) : Nat) : Int)) := by
  unfold sliceAdjust
  have h1 : ¬ ((1 : Int) < 0) := by k_extra "o"
  have h2 : ¬ ((p : Int) < 0) := by k_extra "o"
  simp only [h1, h2, if_false]
  congr 1 <;> k_extra "o"
theorem adj_one {n p : Nat} (h : p ≤ n) : sliceAdjust (some (p : Int)) (some ((p : Int) + 1)) 1 (n : Int) = ((p : Int), ((p + min 1 (n - p) : Nat) : Int)) := by
  unfold sliceAdjust
  have h1 : ¬ ((1 : Int) < 0) := by k_extra "o"
  have h2 : ¬ ((p : Int) < 0) := by k_extra "o"
  have h3 : ¬ ((p : Int) + 1 < 0) := by k_extra "o"
  simp only [h1, h2, h3, if_false]
  congr 1 <;> k_extra "o"
end
section
variable {prog : Program} {w : World} {A : Around} {E : Value → Shared → Prop} {s : Shared} {h₀ : Heap} {L a : Addr} {news : Led} {n : Nat} {Q : Value → Shared → Prop} {its : List (Str × Tok)} {k : Str} {t : Tok}
theorem notin_tup (b : Bool) (hb : ((its.map (·.1)).any (· == k)) = b) (N : News h₀ L s.heap news) (hm : (a, tupO (strV its) n) ∈ news) (h : Q (.bool (!b)) s) : wpAny (model prog w) A (compareOp .NotIn (.str k t) (.ref a)) Q E s := by
  subst hb
  exact notin_tuple_strs (N.isTup hm) (strsAre_strV its) h
theorem in_tup (b : Bool) (N : News h₀ L s.heap news) (hm : (a, tupO (strV its) n) ∈ news) (hb : ((its.map (·.1)).any (· == k)) = b) (h : Q (.bool b) s) : wpAny (model prog w) A (compareOp .In (.str k t) (.ref a)) Q E s := by
  subst hb
  exact in_tuple_strs (N.isTup hm) (strsAre_strV its) h
end
section
variable {prog : Program} {w : World} {A : Around} {E : Value → Shared → Prop} {s : Shared} {h₀ : Heap} {L a : Addr} {news : Led} {n : Nat} {Q : Value → Shared → Prop} {its : List (Str × Tok)} {k : Str} {t : Tok}
theorem notin_tup2 (b c : Bool) (N : News h₀ L s.heap news) (hm : (a, tupO (strV its) n) ∈ news) (hb : ((its.map (·.1)).any (· == k)) = c) (hbc : (!c) = b) (h : Q (.bool b) s) : wpAny (model prog w) A (compareOp .NotIn (.str k t) (.ref a)) Q E s :=
  notin_tup c hb N hm (by rw [hbc]; exact h)
end
theorem dedup_any (l : List Str) (x : Str) : (dedupS l).any (· == x) = l.any (· == x) := by
  have key : ∀ (r : List Str), (dedupS r.reverse).any (· == x) = r.reverse.any (· == x) := by
    intro r
    induction r with
    | nil => rfl
    | cons y r ih =>
      rw [List.reverse_cons, dedupS_snoc, List.any_append, ← ih]
      split
      · rename_i h
        cases hx : (dedupS r.reverse).any (· == x) with
        | true => rfl
        | false =>
          have : (y == x) = false := by
            cases q : (y == x) with
            | false => rfl
            | true =>
              rw [eq_of_beq q] at h
              rw [h] at hx; cases hx
          simp [this]
      · rw [List.any_append]
  have := key l.reverse
  rwa [List.reverse_reverse] at this
theorem once_skip {its : List (Str × Tok)} {l : List (Str × Tok)} {i : Nat} {y : Str} {ty : Tok} (hy : its[i]? = some (y, ty)) (hl : l.map (·.1) = dedupS ((its.map (·.1)).take i)) (h : (((its.drop 0).take i).map (·.1)).any (· == y) = true) : l.map (·.1) = dedupS ((its.map (·.1)).take (i + 1)) := by
  rw [List.drop_zero, List.map_take] at h
  rw [take_step hy, dedupS_snoc, if_pos (by rw [dedup_any]; exact h)]
  exact hl
theorem once_add {its : List (Str × Tok)} {l : List (Str × Tok)} {i : Nat} {y : Str} {ty : Tok} (hy : its[i]? = some (y, ty)) (hl : l.map (·.1) = dedupS ((its.map (·.1)).take i)) (h : (((its.drop 0).take i).map (·.1)).any (· == y) = false) : (l ++ [(y, ty)]).map (·.1) = dedupS ((its.map (·.1)).take (i + 1)) := by
  rw [List.drop_zero, List.map_take] at h
  rw [take_step hy, dedupS_snoc, if_neg (by rw [dedup_any, h]; decide), List.map_append, hl]
  rfl
section
variable {prog : Program} {w : World} {A : Around} {E : Value → Shared → Prop} {s : Shared} {h₀ : Heap} {L a b : Addr} {m : Str → Option Value} {news : Led} {n n' : Nat} {Q : Value → Shared → Prop} {its jts : List (Str × Tok)} {c : Str} {t : Tok}
theorem tup_add (F : Fr h₀ L s.heap m) (N : News h₀ L s.heap news) (ha : (a, tupO (strV its) n) ∈ news) (hb : (b, tupO (strV jts) n') ∈ news) (hz : its.length + jts.length ≤ 1000)
    (h : ∀ D k' h', Fr h₀ L h' m → News h₀ L h' ((D, tupO (strV (its ++ jts)) k') :: news) → Q (.ref D) { s with heap := h' }) : wpAny (model prog w) A (binaryOp .Add (.ref a) (.ref b)) Q E s := by
  refine add_tuples F N (N.isTup ha) (N.isTup hb) (fun e => ?_) (fun _ e => ?_) (fun _ _ h' F' N' => ?_) (by rw [strV_length, strV_length, sizeLine_eq]; k_extra "o")
  · obtain rfl : its = [] := List.map_eq_nil_iff.mp e
    exact h b n' s.heap F fun p hp => by
      rcases List.mem_cons.mp hp with rfl | hp
      · exact N _ hb
      · exact N p hp
  · obtain rfl : jts = [] := List.map_eq_nil_iff.mp e
    rw [List.append_nil] at h
    exact h a n s.heap F fun p hp => by
      rcases List.mem_cons.mp hp with rfl | hp
      · exact N _ ha
      · exact N p hp
  · refine h _ 0 h' F' ?_
    rw [show strV (its ++ jts) = strV its ++ strV jts by simp [strV]]
    exact N'
theorem tup_add_lit (F : Fr h₀ L s.heap m) (N : News h₀ L s.heap news) (ha : (a, tupO (strV its) n) ∈ news) (hb : (b, tupO [.str c t] n') ∈ news) (hz : its.length ≤ 900)
    (h : ∀ D k' h', Fr h₀ L h' m → News h₀ L h' ((D, tupO (strV (its ++ [(c, t)])) k') :: news) → Q (.ref D) { s with heap := h' }) : wpAny (model prog w) A (binaryOp .Add (.ref a) (.ref b)) Q E s :=
  tup_add (jts := [(c, t)]) F N ha hb (by simp; k_extra "o") h
end
theorem dotted_small {its : List (Str × Tok)} {i : Nat} (hB : ∀ y ∈ its.map (·.1), y.length ≤ 16) (t : Tok) : ∀ z ∈ (((its.drop 0).take i ++ [(Str.ofString ".", t)]) ++ (its.drop i).take (its.length - i)).map (·.1), z.length ≤ 16 := fun z hz => by
  refine xE1A2 (List.mem_map.mp hz) fun q hq z1q => ?_; obtain rfl := z1q
  rcases List.mem_append.mp hq with hq | hq
  · rcases List.mem_append.mp hq with hq | hq
    · exact hB _ (List.mem_map_of_mem (List.mem_of_mem_drop (List.mem_of_mem_take hq)))
    · rw [List.mem_singleton.mp hq]; exact (by decide +kernel : (Str.ofString ".").length ≤ 16)
  · exact hB _ (List.mem_map_of_mem (List.mem_of_mem_drop (List.mem_of_mem_take hq)))

section
variable {prog : Program} {w : World} {A : Around} {E : Value → Shared → Prop} {s : Shared} {env : Env} {g : Heap} {Q : Flow → Shared → Prop}
noncomputable def ForR (g : Heap) (L : Addr) (s : Shared) (I : Addr) (it : Obj) (J : (Str → Option Value) → Led → Prop) (Q : Flow → Shared → Prop) (f : Flow) (s₃ : Shared) : Prop :=
  match f with
  | .next | .cont => ∃ m' nws' h' tk', s₃ = { s with heap := h', toks := tk' } ∧ Fr g L h' m' ∧ News g L h' ((I, it) :: nws') ∧ (∀ p ∈ nws', p.1 ≠ I) ∧ J m' nws'
  | .brk => Q .next s₃
  | .ret v => Q (.ret v) s₃
noncomputable abbrev riO (x left : Int) : Obj := { cls := .type "range_iterator", dict := none, data := .fields #[rawInt x, rawInt left, rawInt 1], slots := #[] }
theorem for_R {x : Str} {px : Pos} {body : List Stmt} {r : Addr} {b : Int} {t u v : Tok} {n : Nat} {m : Str → Option Value} {nws : Led} (J : Nat → (Str → Option Value) → Led → Prop) (hr : IsRange s.heap r 0 b 1 t u v) (hb : b = (n : Int)) (hn : n ≤ 1000)
    (hx : env.kindOf x = some .local) (hp : (env.scope.kind == .class || (env.scope.kind == .module && env.locals != env.globals)) = false) (hh : A.handled = none)
    (F : Fr g env.locals s.heap m) (N : News g env.locals s.heap nws) (hJ : J 0 m nws)
    (turn : ∀ i k I it m₁ nws₁ h tk, i < n → J i m₁ nws₁ → (∀ p ∈ nws₁, p.1 ≠ I) → Fr g env.locals h (fun y => if y = x then some (.int (i : Int) k) else m₁ y) → News g env.locals h ((I, it) :: nws₁) →
      wpAny (model prog w) A (execs body env) (ForR g env.locals s I it (J (i + 1)) Q) (fun _ _ => False) { s with heap := h, toks := tk })
    (done : ∀ m₁ nws₁ h tk, J n m₁ nws₁ → Fr g env.locals h m₁ → News g env.locals h nws₁ → Q .next { s with heap := h, toks := tk }) :
    wpAny (model prog w) A (pyIter (.ref r)) (fun it s₂ => codeAny (model prog w) A (.forLoop (.Name x px) it body [] env) (fun r s' => match r with | .ok f => Q f s' | .error e => cameBackBy (model prog w) A env E e s') s₂) E s := by
  subst hb
  have hsz : Builtin.Range.rangeSize 0 (n : Int) 1 = (n : Int) := by rw [rangeSize_one]; split <;> k_extra "o"
  refine wpAny_pyIter_range hr (small_one (by decide) (by decide) (by k_extra "o") (by k_extra "o")) ?_
  rw [hsz]
  have hI : ∀ p ∈ nws, p.1 ≠ s.heap.objs.size := fun p hp q => by
    have z := Heap.lt_size (N p hp).1
    rw [q] at z
    exact Nat.lt_irrefl _ z
  have hIm : ∀ {o : Obj}, s.heap.get? s.heap.objs.size = some o → False := fun z => Nat.lt_irrefl _ (Heap.lt_size z)
  have hIL : s.heap.objs.size ≠ env.locals := fun q => by
    refine xE3A2 (F.ns) fun oL _ _ z _ => ?_
    rw [← q] at z
    exact hIm z
  have hIg : g.get? s.heap.objs.size = none := by
    cases q : g.get? s.heap.objs.size with
    | none => rfl
    | some o => exact (hIm (F.keep _ _ q)).elim
  generalize hIe : s.heap.objs.size = I at hI hIL hIg hIm
  refine codeAny_forLoop (fun q s' => ∃ i m nws, q = n - i ∧ i ≤ n ∧ (∃ h tk, s' = { s with heap := h, toks := tk } ∧ Fr g env.locals h m ∧ News g env.locals h ((I, riO (i : Int) ((n : Int) - i)) :: nws)) ∧ (∀ p ∈ nws, p.1 ≠ I) ∧ J i m nws) ?_ n
    ⟨0, m, nws, rfl, Nat.zero_le _, ⟨s.heap.push (riO 0 n), s.toks, rfl, ?_, ?_⟩, hI, hJ⟩
  · intro q s' z1q; refine xE3A5 z1q ?_; (try clear z1q); intro i m₁ nws₁ z2q hi z3q hoff hJ₁; obtain rfl := z2q; refine xE2A3 z3q ?_; (try clear z3q); intro h₁ tk₁ z4q F₁ N₁; obtain rfl := z4q
    have hit : IsRangeIter h₁ I (i : Int) ((n : Int) - i) 1 := (N₁ _ (.head _)).1
    have hg₁ : g.get? I = none := (N₁ _ (.head _)).2.2
    have up : ∀ {h₂ : Heap}, Heap.ExtBut I h₁ h₂ → Fr g env.locals h₂ m₁ := fun z =>
      ⟨F₁.ns.at' fun o e => z _ _ (Ne.symm hIL) e, fun b o e => z b o (fun q => by rw [q, hg₁] at e; cases e) (F₁.keep b o e), F₁.above⟩
    have upN : ∀ {h₂ : Heap}, Heap.ExtBut I h₁ h₂ → News g env.locals h₂ nws₁ := fun z p hp =>
      ⟨z _ _ (hoff p hp) (N₁ p (.tail _ hp)).1, (N₁ p (.tail _ hp)).2⟩
    by_cases hlt : i < n
    · refine wpAny_pyNext_range_item hit (by k_extra "o") fun h₂ hit₂ hs₂ => ?_
      have F₂ := up hs₂.extBut
      have N₂ := upN hs₂.extBut
      refine wpAny_assign_Name (wpAny_storeName_local hx F₂.ns (fun h₃ hn₃ hs₃ => ?_) hp)
      have F₃ := F₂.set hn₃ hs₃
      have hit₃ : h₂.get? I = some (riO ((i : Int) + 1) ((n : Int) - i - 1)) := hit₂
      have N₃ : News g env.locals h₃ ((I, riO ((i : Int) + 1) ((n : Int) - i - 1)) :: nws₁) := News.set (N := fun p hp => by
        rcases List.mem_cons.mp hp with rfl | hp
        · exact ⟨hit₃, hIL, hg₁⟩
        · exact N₂ p hp) hs₃
      refine wpAny_mono (turn i _ I _ m₁ nws₁ h₃ _ hlt hJ₁ hoff F₃ N₃) (fun f s₃ h₃' => ?_) fun _ _ e => e.elim
      have fin : (∃ m' nws' h' tk', s₃ = { s with heap := h', toks := tk' } ∧ Fr g env.locals h' m' ∧ News g env.locals h' ((I, riO ((i : Int) + 1) ((n : Int) - i - 1)) :: nws') ∧ (∀ p ∈ nws', p.1 ≠ I) ∧ J (i + 1) m' nws') → ∃ n', n' < n - i ∧ ∃ i m nws, n' = n - i ∧ i ≤ n ∧ (∃ h tk, s₃ = { s with heap := h, toks := tk } ∧ Fr g env.locals h m ∧ News g env.locals h ((I, riO (i : Int) ((n : Int) - i)) :: nws)) ∧ (∀ p ∈ nws, p.1 ≠ I) ∧ J i m nws := by
        intro z5q; refine xE4A5 z5q ?_; (try clear z5q); intro m' nws' h' tk' e' F' N' ho' hJ'
        have e1 : riO ((i : Int) + 1) ((n : Int) - i - 1) = riO ((i + 1 : Nat) : Int) ((n : Int) - (i + 1 : Nat)) := by
          rw [show ((i : Int) + 1) = ((i + 1 : Nat) : Int) by k_extra "o", show ((n : Int) - i - 1) = (n : Int) - (i + 1 : Nat) by k_extra "o"]
        rw [e1] at N'
        exact (yE1A2 (n - (i + 1)) (by k_extra "o") (yE3A5 (i + 1) m' nws' rfl hlt ⟨h', tk', e', F', N'⟩ ho' hJ'))
      cases f with
      | next => exact fin h₃'
      | cont => exact fin h₃'
      | brk => exact h₃'
      | ret v => exact h₃'
    · obtain rfl : i = n := Nat.le_antisymm hi (Nat.not_lt.mp hlt)
      refine wpAny_pyNext_range_end hh hit (by k_extra "o") fun h₂ hs₂ => ?_
      exact wpAny_execs_nil (done m₁ nws₁ h₂ _ hJ₁ (up hs₂) (upN hs₂))
  · exact F.keeps fun b o z => Heap.get?_push_of_some _ z
  · intro p hp
    rcases List.mem_cons.mp hp with rfl | hp
    · refine ⟨?_, hIL, hIg⟩
      rw [← hIe]
      exact Heap.get?_push_size _ rfl
    · exact ⟨Heap.get?_push_of_some _ (N p hp).1, (N p hp).2⟩
end
section
variable {prog : Program} {w : World} {A : Around} {E : Value → Shared → Prop} {s : Shared} {g : Heap} {Q : Flow → Shared → Prop} {cn : Str} {cs : Scope} {L a c : Addr} {ccd : Value} {cl : List (Str × Addr)}
noncomputable def ForRC (g : Heap) (L : Addr) (s : Shared) (I : Addr) (it : Obj) (c : Addr) (J : (Str → Option Value) → Led → Prop) (Q : Flow → Shared → Prop) (f : Flow) (s₃ : Shared) : Prop :=
  match f with
  | .next | .cont => ∃ m' nws' oc v h' tk', s₃ = { s with heap := h', toks := tk' } ∧ Fr g L h' m' ∧ News g L h' ((I, it) :: (c, oc) :: nws') ∧ oc.data = .cell v ∧ (∀ p ∈ nws', p.1 ≠ I ∧ p.1 ≠ c) ∧ J m' nws'
  | .brk => Q .next s₃
  | .ret v => Q (.ret v) s₃
theorem for_RC {x : Str} {px : Pos} {body : List Stmt} {r : Addr} {b : Int} {t u v : Tok} {n : Nat} {m : Str → Option Value} {nws : Led} {oc : Obj} {v₀ : Option Value} (J : Nat → (Str → Option Value) → Led → Prop) (hr : IsRange s.heap r 0 b 1 t u v) (hb : b = (n : Int)) (hn : n ≤ 1000)
    (hc : cl.lookup x = some c) (hk : cs.kind = .function) (hx : (envX cn cs L a ccd cl).kindOf x = some .cell) (hh : A.handled = none)
    (F : Fr g L s.heap m) (N : News g L s.heap ((c, oc) :: nws)) (hoc : oc.data = .cell v₀) (hoff : ∀ p ∈ nws, p.1 ≠ c) (hJ : J 0 m nws)
    (turn : ∀ i k I it oc m₁ nws₁ h tk, i < n → J i m₁ nws₁ → oc.data = .cell (some (.int (i : Int) k)) → (∀ p ∈ nws₁, p.1 ≠ I ∧ p.1 ≠ c) → I ≠ c → Fr g L h m₁ → News g L h ((I, it) :: (c, oc) :: nws₁) →
      wpAny (model prog w) A (execs body (envX cn cs L a ccd cl)) (ForRC g L s I it c (J (i + 1)) Q) (fun _ _ => False) { s with heap := h, toks := tk })
    (done : ∀ m₁ nws₁ oc v h tk, J n m₁ nws₁ → oc.data = .cell v → (∀ p ∈ nws₁, p.1 ≠ c) → Fr g L h m₁ → News g L h ((c, oc) :: nws₁) → Q .next { s with heap := h, toks := tk }) :
    wpAny (model prog w) A (pyIter (.ref r)) (fun it s₂ => codeAny (model prog w) A (.forLoop (.Name x px) it body [] (envX cn cs L a ccd cl)) (fun r s' => match r with | .ok f => Q f s' | .error e => cameBackBy (model prog w) A (envX cn cs L a ccd cl) E e s') s₂) E s := by
  subst hb
  have hsz : Builtin.Range.rangeSize 0 (n : Int) 1 = (n : Int) := by rw [rangeSize_one]; split <;> k_extra "o"
  refine wpAny_pyIter_range hr (small_one (by decide) (by decide) (by k_extra "o") (by k_extra "o")) ?_
  rw [hsz]
  have hI : ∀ p ∈ (c, oc) :: nws, p.1 ≠ s.heap.objs.size := fun p hp q => by
    have z := Heap.lt_size (N p hp).1
    rw [q] at z
    exact Nat.lt_irrefl _ z
  have hIm : ∀ {o : Obj}, s.heap.get? s.heap.objs.size = some o → False := fun z => Nat.lt_irrefl _ (Heap.lt_size z)
  have hIL : s.heap.objs.size ≠ L := fun q => by
    refine xE3A2 (F.ns) fun oL _ _ z _ => ?_
    rw [← q] at z
    exact hIm z
  have hIg : g.get? s.heap.objs.size = none := by
    cases q : g.get? s.heap.objs.size with
    | none => rfl
    | some o => exact (hIm (F.keep _ _ q)).elim
  generalize hIe : s.heap.objs.size = I at hI hIL hIg hIm
  have hIc : I ≠ c := Ne.symm (hI _ (.head _))
  refine codeAny_forLoop (fun q s' => ∃ i m nws, q = n - i ∧ i ≤ n ∧ (∃ oc v h tk, oc.data = .cell v ∧ s' = { s with heap := h, toks := tk } ∧ Fr g L h m ∧ News g L h ((I, riO (i : Int) ((n : Int) - i)) :: (c, oc) :: nws)) ∧ (∀ p ∈ nws, p.1 ≠ I ∧ p.1 ≠ c) ∧ J i m nws) ?_ n
    ⟨0, m, nws, rfl, Nat.zero_le _, ⟨oc, v₀, s.heap.push (riO 0 n), s.toks, hoc, rfl, ?_, ?_⟩, fun p hp => ⟨hI p (.tail _ hp), hoff p hp⟩, hJ⟩
  · intro q s' z6q; refine xE3A5 z6q ?_; (try clear z6q); intro i m₁ nws₁ z7q hi z8q hoff hJ₁; obtain rfl := z7q; refine xE4A4 z8q ?_; (try clear z8q); intro oc₁ v₁ h₁ tk₁ hoc₁ z9q F₁ N₁; obtain rfl := z9q
    have hit : IsRangeIter h₁ I (i : Int) ((n : Int) - i) 1 := (N₁ _ (.head _)).1
    have hg₁ : g.get? I = none := (N₁ _ (.head _)).2.2
    have up : ∀ {h₂ : Heap}, Heap.ExtBut I h₁ h₂ → Fr g L h₂ m₁ := fun z =>
      ⟨F₁.ns.at' fun o e => z _ _ (Ne.symm hIL) e, fun b o e => z b o (fun q => by rw [q, hg₁] at e; cases e) (F₁.keep b o e), F₁.above⟩
    have upN : ∀ {h₂ : Heap}, Heap.ExtBut I h₁ h₂ → News g L h₂ ((c, oc₁) :: nws₁) := fun z p hp =>
      ⟨z _ _ (by
        rcases List.mem_cons.mp hp with rfl | hp
        · exact Ne.symm hIc
        · exact (hoff p hp).1) (N₁ p (.tail _ hp)).1, (N₁ p (.tail _ hp)).2⟩
    by_cases hlt : i < n
    · refine wpAny_pyNext_range_item hit (by k_extra "o") fun h₂ hit₂ hs₂ => ?_
      have F₂ := up hs₂.extBut
      have N₂ := upN hs₂.extBut
      have hit₃ : h₂.get? I = some (riO ((i : Int) + 1) ((n : Int) - i - 1)) := hit₂
      have N₃ : News g L h₂ ((I, riO ((i : Int) + 1) ((n : Int) - i - 1)) :: (c, oc₁) :: nws₁) := fun p hp => by
        rcases List.mem_cons.mp hp with rfl | hp
        · exact ⟨hit₃, hIL, hg₁⟩
        · exact N₂ p hp
      refine wpAny_assign_Name (storeX_C F₂ N₃ hc (.tail hIc (.head fun p hp => (hoff p hp).2)) hoc₁ (fun h₃ o' F₃ N₄ d' => ?_) hk hx)
      refine wpAny_mono (turn i _ I _ o' m₁ nws₁ h₃ _ hlt hJ₁ d' hoff hIc F₃ N₄) (fun f s₃ h₃' => ?_) fun _ _ e => e.elim
      have fin : (∃ m' nws' oc v h' tk', s₃ = { s with heap := h', toks := tk' } ∧ Fr g L h' m' ∧ News g L h' ((I, riO ((i : Int) + 1) ((n : Int) - i - 1)) :: (c, oc) :: nws') ∧ oc.data = .cell v ∧ (∀ p ∈ nws', p.1 ≠ I ∧ p.1 ≠ c) ∧ J (i + 1) m' nws') → ∃ n', n' < n - i ∧ ∃ i m nws, n' = n - i ∧ i ≤ n ∧ (∃ oc v h tk, oc.data = .cell v ∧ s₃ = { s with heap := h, toks := tk } ∧ Fr g L h m ∧ News g L h ((I, riO (i : Int) ((n : Int) - i)) :: (c, oc) :: nws)) ∧ (∀ p ∈ nws, p.1 ≠ I ∧ p.1 ≠ c) ∧ J i m nws := by
        intro z10q; refine xE6A6 z10q ?_; (try clear z10q); intro m' nws' oc' v' h' tk' e' F' N' d' ho' hJ'
        have e1 : riO ((i : Int) + 1) ((n : Int) - i - 1) = riO ((i + 1 : Nat) : Int) ((n : Int) - (i + 1 : Nat)) := by
          rw [show ((i : Int) + 1) = ((i + 1 : Nat) : Int) by k_extra "o", show ((n : Int) - i - 1) = (n : Int) - (i + 1 : Nat) by k_extra "o"]
        rw [e1] at N'
        exact (yE1A2 (n - (i + 1)) (by k_extra "o") (yE3A5 (i + 1) m' nws' rfl hlt ⟨oc', v', h', tk', d', e', F', N'⟩ ho' hJ'))
      cases f with
      | next => exact fin h₃'
      | cont => exact fin h₃'
      | brk => exact h₃'
      | ret v => exact h₃'
    · obtain rfl : i = n := Nat.le_antisymm hi (Nat.not_lt.mp hlt)
      refine wpAny_pyNext_range_end hh hit (by k_extra "o") fun h₂ hs₂ => ?_
      exact wpAny_execs_nil (done m₁ nws₁ oc₁ v₁ h₂ _ hJ₁ hoc₁ (fun p hp => (hoff p hp).2) (up hs₂) (upN hs₂))
  · exact F.keeps fun b o z => Heap.get?_push_of_some _ z
  · intro p hp
    rcases List.mem_cons.mp hp with rfl | hp
    · refine ⟨?_, hIL, hIg⟩
      rw [← hIe]
      exact Heap.get?_push_size _ rfl
    · exact ⟨Heap.get?_push_of_some _ (N p hp).1, (N p hp).2⟩
end

noncomputable def laL (ys : List IT) : Led := ys.map fun y => (y.la, y.lo)
section
variable {prog : Program} {w : World} {A : Around} {E : Value → Shared → Prop} {s : Shared} {g : Heap} {Q : Flow → Shared → Prop} {cn : Str} {cs : Scope} {L a D j1 j2 c1 c2 c3 c4 : Addr} {ccd : Value} {cl : List (Str × Addr)} {oD p1 p2 o1 o2 o3 o4 : Obj} {ys : List IT} {FX : Led}
noncomputable def ForL (g : Heap) (L : Addr) (s : Shared) (l : Led) (ov : List (Str × Option Value)) (Q : Flow → Shared → Prop) (f : Flow) (s₃ : Shared) : Prop :=
  match f with
  | .next | .cont => ∃ m' h' tk', s₃ = { s with heap := h', toks := tk' } ∧ Fr g L h' m' ∧ News g L h' l ∧ OvOK m' ov
  | .brk => Q .next s₃
  | .ret v => Q (.ret v) s₃
noncomputable abbrev ovL (nm : Value) (nu : Value) (D : Addr) (ys : List IT) : List (Str × Option Value) := [(S_ "name", some nm), (S_ "number", some nu), (S_ "once", some (.ref D)), (S_ "item", some (headRef .none ys))]
theorem laL_drop {i : Nat} {y : IT} (hy : ys[i]? = some y) : ys.drop i = y :: ys.drop (i + 1) := by
  refine xE1A1 (List.getElem?_eq_some_iff.mp hy) fun hi z1q => ?_; obtain rfl := z1q
  exact List.drop_eq_getElem_cons hi
theorem for_LS {x : Str} {px : Pos} {body : List Stmt} {r : Addr} {b : Int} {t u v : Tok} {m : Str → Option Value} {v₀ : Option Value} {nm nu : Value} {NW : Led} (hNW : laL ys ++ FX = NW) (hS : Sep NW) (hr : IsRange s.heap r 0 b 1 t u v) (hb : b = (ys.length : Int)) (hn : ys.length ≤ 1000)
    (hc : cl.lookup x = some c1) (hk : cs.kind = .function) (hx : (envX cn cs L a ccd cl).kindOf x = some .cell) (hh : A.handled = none)
    (F : Fr g L s.heap m) (N : News g L s.heap ((D, oD) :: (j1, p1) :: (j2, p2) :: (c1, o1) :: (c2, o2) :: (c3, o3) :: (c4, o4) :: NW)) (hoc : o1.data = .cell v₀) (hov : OvOK m (ovL nm nu D ys))
    (hD : ∀ q ∈ (j1, p1) :: (j2, p2) :: (c1, o1) :: (c2, o2) :: (c3, o3) :: (c4, o4) :: NW, q.1 ≠ D) (lc : @LT.lt Nat _ c4 c3 ∧ @LT.lt Nat _ c3 c2 ∧ @LT.lt Nat _ c2 c1 ∧ AllLt c4 NW)
    (turn : ∀ i k I it oc m₁ h tk y T, ys[i]? = some y → (∀ q ∈ FX, q ∈ T) → OvOK m₁ (ovL nm nu D (y :: ys.drop (i + 1))) → oc.data = .cell (some (.int (i : Int) k)) → Sep ((I, it) :: (c1, oc) :: (D, oD) :: (c2, o2) :: (c3, o3) :: (c4, o4) :: (y.la, y.lo) :: T) → Fr g L h m₁ →
      News g L h ((I, it) :: (c1, oc) :: (D, oD) :: (c2, o2) :: (c3, o3) :: (c4, o4) :: (y.la, y.lo) :: T) →
      wpAny (model prog w) A (execs body (envX cn cs L a ccd cl)) (ForL g L s ((I, it) :: (c1, oc) :: (D, oD) :: (c2, o2) :: (c3, o3) :: (c4, o4) :: T) (ovL nm nu D (ys.drop (i + 1))) Q) (fun _ _ => False) { s with heap := h, toks := tk })
    (done : ∀ m₁ oc h tk, OvOK m₁ (ovL nm nu D []) → Fr g L h m₁ → News g L h ((c1, oc) :: (D, oD) :: (c2, o2) :: (c3, o3) :: (c4, o4) :: FX) → Q .next { s with heap := h, toks := tk }) :
    wpAny (model prog w) A (pyIter (.ref r)) (fun it s₂ => codeAny (model prog w) A (.forLoop (.Name x px) it body [] (envX cn cs L a ccd cl)) (fun r s' => match r with | .ok f => Q f s' | .error e => cameBackBy (model prog w) A (envX cn cs L a ccd cl) E e s') s₂) E s := by
  subst hNW
  have f4 : ∀ q ∈ laL ys ++ FX, q.1 ≠ c4 := tbn_neAll lc.2.2.2
  have f3 : ∀ q ∈ (c4, o4) :: (laL ys ++ FX), q.1 ≠ c3 := List.forall_mem_cons.mpr ⟨Nat.ne_of_lt lc.1, tbn_neAll (allLt_up lc.2.2.2 lc.1)⟩
  have f2 : ∀ q ∈ (c3, o3) :: (c4, o4) :: (laL ys ++ FX), q.1 ≠ c2 := List.forall_mem_cons.mpr ⟨Nat.ne_of_lt lc.2.1, List.forall_mem_cons.mpr ⟨Nat.ne_of_lt (Nat.lt_trans lc.1 lc.2.1), tbn_neAll (allLt_up lc.2.2.2 (Nat.lt_trans lc.1 lc.2.1))⟩⟩
  have f1 : ∀ q ∈ (c2, o2) :: (c3, o3) :: (c4, o4) :: (laL ys ++ FX), q.1 ≠ c1 := List.forall_mem_cons.mpr ⟨Nat.ne_of_lt lc.2.2.1, List.forall_mem_cons.mpr ⟨Nat.ne_of_lt (Nat.lt_trans lc.2.1 lc.2.2.1), List.forall_mem_cons.mpr ⟨Nat.ne_of_lt (Nat.lt_trans lc.1 (Nat.lt_trans lc.2.1 lc.2.2.1)), tbn_neAll (allLt_up lc.2.2.2 (Nat.lt_trans lc.1 (Nat.lt_trans lc.2.1 lc.2.2.1)))⟩⟩⟩
  have fD : ∀ q ∈ (c2, o2) :: (c3, o3) :: (c4, o4) :: (laL ys ++ FX), q.1 ≠ D := fun q hq => hD q (.tail _ (.tail _ (.tail _ hq)))
  have hcD : (c1 : Nat) ≠ D := hD _ (.tail _ (.tail _ (.head _)))
  have SA : Sep ((D, oD) :: (c2, o2) :: (c3, o3) :: (c4, o4) :: (laL ys ++ FX)) := Sep.cons fD (Sep.cons f2 (Sep.cons f3 (Sep.cons f4 hS)))
  have f1' : ∀ q ∈ (D, oD) :: (c2, o2) :: (c3, o3) :: (c4, o4) :: (laL ys ++ FX), q.1 ≠ c1 := List.forall_mem_cons.mpr ⟨Ne.symm hcD, f1⟩
  have sub : ∀ i, ∀ q ∈ (D, oD) :: (c2, o2) :: (c3, o3) :: (c4, o4) :: (laL (ys.drop i) ++ FX), q ∈ (D, oD) :: (c2, o2) :: (c3, o3) :: (c4, o4) :: (laL ys ++ FX) := fun i q hq => by
    simp only [List.mem_cons, List.mem_append] at hq ⊢
    focus (refine xO6 (hq) ?_ ?_ ?_ ?_ ?_ ?_; (try clear hq); intro h; rotate_left 1; (try clear hq); intro h; rotate_left 1; (try clear hq); intro h; rotate_left 1; (try clear hq); intro h; rotate_left 1; (try clear hq); intro h; rotate_left 1; (try clear hq); intro h; rotate_left 1)
    · exact .inl h
    · exact .inr (.inl h)
    · exact .inr (.inr (.inl h))
    · exact .inr (.inr (.inr (.inl h)))
    · refine .inr (.inr (.inr (.inr (.inl ?_))))
      refine xE1A2 (List.mem_map.mp h) fun y hy z2q => ?_; obtain rfl := z2q
      exact List.mem_map_of_mem (f := fun y : IT => (y.la, y.lo)) (List.mem_of_mem_drop hy)
    · exact .inr (.inr (.inr (.inr (.inr h))))
  have cntd : ∀ i k, cnt k (laL (ys.drop i)) ≤ cnt k (laL ys) := fun i k => by
    have : laL ys = laL (ys.take i) ++ laL (ys.drop i) := by unfold laL; rw [← List.map_append, List.take_append_drop]
    rw [this, cnt_append]; k_extra "o"
  have Sd : ∀ i, Sep ((D, oD) :: (c2, o2) :: (c3, o3) :: (c4, o4) :: (laL (ys.drop i) ++ FX)) := fun i => Sep.sub SA fun k => by
    have := cntd i k
    simp only [cnt, cnt_append]
    k_extra "o"
  refine for_RC (n := ys.length) (fun i m nws => OvOK m (ovL nm nu D (ys.drop i)) ∧ nws = (D, oD) :: (c2, o2) :: (c3, o3) :: (c4, o4) :: (laL (ys.drop i) ++ FX)) hr hb hn hc hk hx hh F (nws := (D, oD) :: (c2, o2) :: (c3, o3) :: (c4, o4) :: (laL ys ++ FX)) (oc := o1) (News.perm N fun q hq => ?_) hoc f1' ⟨hov, rfl⟩ ?turn ?done
  · exact ledIn [_, _, _, _, _, _, _] [_, _] (.c 3 <| .c 0 <| .c 4 <| .c 5 <| .c 6 <| .a (.l 0) <| .l 1) (.c 0 <| .c 1 <| .c 2 <| .c 3 <| .c 4 <| .c 5 <| .c 6 <| .a (.l 0) <| .l 1) rfl _ hq
  case turn =>
    intro i k I it oc m₁ nws₁ h tk hi z3q hd hoff hIc F' N'; refine xE0A2 z3q ?_; (try clear z3q); intro ho z4q; obtain rfl := z4q
    have z5q : ∃ y, ys[i]? = some y := ⟨_, List.getElem?_eq_getElem hi⟩; refine xE1A1 z5q ?_; (try clear z5q); intro y hy
    have e := laL_drop hy
    rw [e] at ho N' hoff
    have N2 : News g L h ((I, it) :: (c1, oc) :: (D, oD) :: (c2, o2) :: (c3, o3) :: (c4, o4) :: (y.la, y.lo) :: (laL (ys.drop (i + 1)) ++ FX)) := N'
    have S2 := Sd i
    rw [e] at S2
    have S3 : Sep ((I, it) :: (c1, oc) :: (D, oD) :: (c2, o2) :: (c3, o3) :: (c4, o4) :: (y.la, y.lo) :: (laL (ys.drop (i + 1)) ++ FX)) := by
      refine Sep.cons (List.forall_mem_cons.mpr ⟨Ne.symm hIc, fun q hq => (hoff q hq).1⟩) (Sep.cons (fun q hq => (hoff q hq).2) S2)
    refine wpAny_mono (turn i k I it oc m₁ h tk y (laL (ys.drop (i + 1)) ++ FX) hy (fun q hq => List.mem_append_right _ hq) ho hd S3 F' N2) (fun f s₃ hf => ?_) fun _ _ z => z
    have fin : (∃ m' h' tk', s₃ = { s with heap := h', toks := tk' } ∧ Fr g L h' m' ∧ News g L h' ((I, it) :: (c1, oc) :: (D, oD) :: (c2, o2) :: (c3, o3) :: (c4, o4) :: (laL (ys.drop (i + 1)) ++ FX)) ∧ OvOK m' (ovL nm nu D (ys.drop (i + 1)))) →
        ∃ m' nws' oc v h' tk', s₃ = { s with heap := h', toks := tk' } ∧ Fr g L h' m' ∧ News g L h' ((I, it) :: (c1, oc) :: nws') ∧ oc.data = .cell v ∧ (∀ p ∈ nws', p.1 ≠ I ∧ p.1 ≠ c1) ∧ OvOK m' (ovL nm nu D (ys.drop (i + 1))) ∧ nws' = (D, oD) :: (c2, o2) :: (c3, o3) :: (c4, o4) :: (laL (ys.drop (i + 1)) ++ FX) := by
      intro z6q; refine xE3A4 z6q ?_; (try clear z6q); intro m' h' tk' e' F'' N'' o''
      refine (yE6A7 m' _ oc _ h' tk' e' F'' N'' hd (fun q hq => hoff q ?_) o'' rfl)
      exact ledIn [_, _, _, _, _] [_, _] (.c 0 <| .c 1 <| .c 2 <| .c 3 <| .a (.l 0) <| .l 1) (.c 0 <| .c 1 <| .c 2 <| .c 3 <| .a (.c 4 <| .l 0) <| .l 1) rfl _ hq
    cases f with
    | next => exact fin hf
    | cont => exact fin hf
    | brk => exact hf
    | ret v => exact hf
  case done =>
    intro m₁ nws₁ oc v h tk z7q hd hoff F' N'; refine xE0A2 z7q ?_; (try clear z7q); intro ho z8q; obtain rfl := z8q
    rw [List.drop_of_length_le (Nat.le_refl _)] at ho N'
    exact done m₁ oc h tk ho F' N'
end
section
open LCg LCt
variable {prog : Program} {w : World} {A : Around} {h₀ : Heap} {L : Addr} {m : Str → Option Value} {env : Env} {ct elt : PySem.Expr} {x : Str} {scope : Scope} {cl : List (Str × Addr)} {s₁ : Shared} {Fin : Shared → List Value → Led → Prop} {BS : Led}
theorem after_src {r : Addr} {b : Int} {t u v : Tok} {n : Nat} (hh : A.handled = none) (F : Fr h₀ L s₁.heap m) (N : News h₀ L s₁.heap BS) (hr : IsRange s₁.heap r 0 b 1 t u v) (hb : b = (n : Int)) (hn : n ≤ 1000) (nums : Nat → List Int) (h0 : nums 0 = [])
    (turn : ∀ (j : Nat) k I oI C oC D trs m₂ h tk (E' : Value → Shared → Prop) (s : Shared) news, j < n → (∀ t ∈ trs, trO t ∈ news) → trs.map (·.n) = nums j → (∀ q ∈ BS, q ∈ news) → NsObj oC m₂ → m₂ x = some (.int (j : Int) k) → Fr h₀ L h m → News h₀ L h ((I, oI) :: (C, oC) :: (D, lst (trV trs)) :: news) → Off3 I C D news →
      wpAny (model prog w) A (isTrue ct (compEnvC scope cl C env) (eval ct (compEnvC scope cl C env))) (fun ok s' => if ok = true then
        wpAny (model prog w) A (eval elt (compEnvC scope cl C env)) (CompJ h₀ L m s I oI C oC D (trV trs) (fun y news' => ∃ trs', trV trs ++ [y] = trV trs' ∧ trs'.map (·.n) = nums (j + 1) ∧ (∀ t ∈ trs', trO t ∈ news') ∧ ∀ q ∈ BS, q ∈ news')) E' s'
        else CompJ h₀ L m s I oI C oC D (trV trs) (fun _ news' => ∃ trs', trV trs = trV trs' ∧ trs'.map (·.n) = nums (j + 1) ∧ (∀ t ∈ trs', trO t ∈ news') ∧ ∀ q ∈ BS, q ∈ news') Value.none s') E' { s with heap := h, toks := tk })
    (fin : ∀ g trs news, trs.map (·.n) = nums n → (∀ t ∈ trs, trO t ∈ news) → (∀ q ∈ BS, q ∈ news) → Fin { s₁ with heap := g } (trV trs) news) :
    CompSrcT prog w A h₀ L m env ct elt x scope cl Fin (.ref r) s₁ := by
  subst hb
  have hsz : Builtin.Range.rangeSize 0 (n : Int) 1 = ((n : Nat) : Int) := by rw [rangeSize_one]; split <;> k_extra "o"
  refine LCt.CompSrcT.range hh F N hr (small_one (by decide) (by decide) (by k_extra "o") (by k_extra "o")) hsz (by rw [sizeLine_eq]; k_extra "o") fun g => ?_
  refine CompRest_JT (n := n) (fun j ys news => ∃ trs, ys = trV trs ∧ trs.map (·.n) = nums j ∧ (∀ t ∈ trs, trO t ∈ news) ∧ (∀ q ∈ BS, q ∈ news)) (fun _ _ _ _ => trivial) ?turn ?fin _ 0 [] BS (by k_extra "o") ⟨[], rfl, h0.symm, (fun _ h => nomatch h), fun _ h => h⟩
  case turn =>
    intro j v I oI C oC D ys m₂ h tk E' news hj z9q z10q hC hx F2 N2 off ne; refine xE1A1 z9q ?_; (try clear z9q); intro tv z11q; obtain rfl := z11q; refine xE1A4 z10q ?_; (try clear z10q); intro trs z12q hn' hm hs; obtain rfl := z12q
    rw [Int.zero_add] at hx
    exact turn j tv I oI C oC D trs m₂ h tk E' _ news hj hm hn' hs hC hx F2 N2 off
  case fin =>
    intro ys news z13q; refine xE1A4 z13q ?_; (try clear z13q); intro trs z14q hn' hm hs; obtain rfl := z14q
    exact fin g trs news hn' hm hs
end
theorem compJ_stay {h₀ h' : Heap} {L I C D : Addr} {m : Str → Option Value} {s : Shared} {oI oC : Obj} {trs : List TR} {news FX all : Led} {tk' : Nat} {nums' : List Int} (F : Fr h₀ L h' m) (N : News h₀ L h' all) (hs0 : ∀ q ∈ (I, oI) :: (C, oC) :: (D, LCg.lst (trV trs)) :: news, q ∈ all) (off : LCg.Off3 I C D news)
    (hn : trs.map (·.n) = nums') (hm : ∀ t ∈ trs, trO t ∈ news) (hs : ∀ q ∈ FX, q ∈ news) :
    CompJ h₀ L m s I oI C oC D (trV trs) (fun _ news => ∃ trs', trV trs = trV trs' ∧ trs'.map (·.n) = nums' ∧ (∀ t ∈ trs', trO t ∈ news) ∧ ∀ q ∈ FX, q ∈ news) Value.none { s with heap := h', toks := tk' } :=
  ⟨news, h', tk', rfl, F, News.perm N hs0, off, trs, rfl, hn, hm, hs⟩
noncomputable def numsTo (rws : List RW) (o : Option Str) (j : Nat) : List Int := ((List.range j).filter fun k => match o with | none => false | some s => ((rws[k]?).map RW.name) == some s).map fun (k : Nat) => (k : Int)
theorem numsTo_step {rws : List RW} {o : Option Str} {j : Nat} : numsTo rws o (j + 1) = numsTo rws o j ++ (if (match o with | none => false | some s => ((rws[j]?).map RW.name) == some s) = true then [(j : Int)] else []) := by
  unfold numsTo
  rw [List.range_succ, List.filter_append, List.map_append]
  congr 1
  cases o with
  | none => rfl
  | some s =>
    rw [List.filter_cons, List.filter_nil]
    dsimp only
    split <;> rfl
theorem cut_any {its : List (Str × Tok)} {i j : Nat} {rws : List RW} {r : RW} (hi : i ≤ its.length) (hr : rws[j]? = some r) : (((its.drop i).take (min 1 (its.length - i))).map (·.1)).any (· == r.name) = (match (its[i]?).map (·.1) with | none => false | some s => ((rws[j]?).map RW.name) == some s) := by
  rw [hr]
  by_cases h : i < its.length
  · have hp : its[i]? = some its[i] := List.getElem?_eq_getElem h
    rw [hp, List.drop_eq_getElem_cons h, show min 1 (its.length - i) = 1 by k_extra "o", List.take_succ_cons, List.take_zero]
    show ((its[i].1 == r.name) || false) = (some r.name == some its[i].1)
    rw [Bool.or_false]
    cases q : (its[i].1 == r.name) with
    | true => rw [eq_of_beq q]; simp
    | false =>
      symm
      rw [beq_eq_false_iff_ne] at q ⊢
      intro z
      exact q (Option.some.inj z).symm
  · rw [List.getElem?_eq_none (by k_extra "o"), List.drop_of_length_le (by k_extra "o")]
    simp
theorem nums_hit {rws : List RW} {o : Option Str} {j : Nat} (h : (match o with | none => false | some s => ((rws[j]?).map RW.name) == some s) = true) : numsTo rws o j ++ [(j : Int)] = numsTo rws o (j + 1) := by rw [numsTo_step, if_pos h]
theorem nums_miss {rws : List RW} {o : Option Str} {j : Nat} (h : (match o with | none => false | some s => ((rws[j]?).map RW.name) == some s) = false) : numsTo rws o j = numsTo rws o (j + 1) := by rw [numsTo_step, if_neg (by rw [h]; decide), List.append_nil]
theorem dotted_join {its : List (Str × Tok)} {i : Nat} {t : Tok} (hB : ∀ z ∈ (((its.drop 0).take i ++ [(Str.ofString ".", t)]) ++ (its.drop i).take (its.length - i)).map (·.1), z.length ≤ 16) (h3 : its.length ≤ 3) : (Str.join (Str.ofString " ") ((((its.drop 0).take i ++ [(Str.ofString ".", t)]) ++ (its.drop i).take (its.length - i)).map (·.1))).length ≤ 1000 := by
  have := join_len (x := Str.ofString " ") (B := 16) (by decide +kernel) hB
  simp only [List.length_map, List.length_append, List.length_take, List.length_drop, List.length_cons, List.length_nil] at this
  k_extra "o"
theorem dot_fact {its : List (Str × Tok)} {i k : Nat} {t : Tok} {a : Addr} {news : Led} (_hm : (a, tupO (strV (((its.drop 0).take i ++ [(Str.ofString ".", t)]) ++ (its.drop i).take (its.length - i))) k) ∈ news) (hB : ∀ y ∈ its.map (·.1), y.length ≤ 16) (h3 : its.length ≤ 3) :
    (Str.join (Str.ofString " ") ((((its.drop 0).take i ++ [(Str.ofString ".", t)]) ++ (its.drop i).take (its.length - i)).map (·.1))).length ≤ 1000 := by
  refine dotted_join (fun z hz => ?_) h3
  refine xE1A2 (List.mem_map.mp hz) fun q hq z15q => ?_; obtain rfl := z15q
  rcases List.mem_append.mp hq with hq | hq
  · rcases List.mem_append.mp hq with hq | hq
    · exact hB _ (List.mem_map_of_mem (List.mem_of_mem_drop (List.mem_of_mem_take hq)))
    · rw [List.mem_singleton.mp hq]; exact (by decide +kernel : (Str.ofString ".").length ≤ 16)
  · exact hB _ (List.mem_map_of_mem (List.mem_of_mem_drop (List.mem_of_mem_take hq)))
theorem dotV_strV (its : List (Str × Tok)) (i : Nat) (t : Tok) : dotV its i (.str (Str.ofString ".") t) = strV (its.take i ++ (Str.ofString ".", t) :: its.drop i) := by
  unfold dotV
  simp [strV, List.map_take, List.map_drop]
theorem HR.In.mono {w : World} {h : HR} {l l' : Led} (H : h.In w l) (hs : ∀ q ∈ l, q ∈ l') : h.In w l' := ⟨hs _ H.1, hs _ H.2.1, hs _ H.2.2.1, hs _ H.2.2.2⟩
noncomputable def behind (hrs : Str → List HR) (x : PR) (i : Nat) : List HR := match x.its[i]? with | none => [] | some s => hrs s.1
theorem behind_after {kv : Str → List Value} {hrs : Str → List HR} {x : PR} {i : Nat} (h : ∀ s, kv s = (hrs s).map (fun h => Value.ref h.z.p)) : afterAt kv x i = (behind hrs x i).map (fun h => Value.ref h.z.p) := by
  unfold afterAt behind
  cases x.its[i]? with
  | none => rfl
  | some s => exact h s.1
theorem behind_nums {hrs : Str → List HR} {rws : List RW} {x : PR} {i : Nat} (h : ∀ s, (hrs s).map (·.z.num) = numsTo rws (some s) rws.length) : (behind hrs x i).map (·.z.num) = numsTo rws ((x.its[i]?).map (·.1)) rws.length := by
  unfold behind
  cases x.its[i]? with
  | none => unfold numsTo; simp
  | some s => exact h s.1
theorem dot_len {its : List (Str × Tok)} {i k : Nat} {t : Tok} {a : Addr} {news : Led} (_hm : (a, tupO (strV (((its.drop 0).take i ++ [(Str.ofString ".", t)]) ++ (its.drop i).take (its.length - i))) k) ∈ news) (hi : i ≤ its.length) :
    (strV (((its.drop 0).take i ++ [(Str.ofString ".", t)]) ++ (its.drop i).take (its.length - i))).length = its.length + 1 := by
  rw [strV_length]
  simp only [List.length_append, List.length_take, List.length_drop, List.length_cons, List.length_nil]
  k_extra "o"
theorem dot_same {its jts : List (Str × Tok)} {i : Nat} {t u : Tok} (h : its.map (·.1) = jts.map (·.1)) : (jts.take i ++ (Str.ofString ".", u) :: jts.drop i).map (·.1) = (((its.drop 0).take i ++ [(Str.ofString ".", t)]) ++ (its.drop i).take (its.length - i)).map (·.1) := by
  rw [show (its.drop i).take (its.length - i) = its.drop i from List.take_of_length_le (by simp), List.drop_zero]
  simp only [List.map_append, List.map_cons, List.map_nil, List.map_take, List.map_drop, h, List.append_assoc, List.cons_append, List.nil_append]
theorem numsTo_len (rws : List RW) (o : Option Str) (j : Nat) : (numsTo rws o j).length ≤ j := by
  unfold numsTo
  rw [List.length_map]
  exact Nat.le_trans (List.length_filter_le _ _) (by simp)
noncomputable def StopCmp : Prop := True
theorem stopCmp : StopCmp := trivial
theorem empty_app2 (x : Str) : Str.empty ++ x = x := Str.ext' (by simp [Str.cps_append, Str.empty])
noncomputable def StopIf : Prop := True
theorem stopIf : StopIf := trivial

theorem all12 {a1 a2 a3 a4 a5 a6 a7 a8 a9 a10 a11 a12 : Addr × Obj} {l : Led} {P : Addr × Obj → Prop} {G : Prop} (h : ∀ q ∈ a1 :: a2 :: a3 :: a4 :: a5 :: a6 :: a7 :: a8 :: a9 :: a10 :: a11 :: a12 :: l, P q) (f : P a1 → P a2 → P a3 → P a4 → P a5 → P a6 → P a7 → P a8 → P a9 → P a10 → P a11 → P a12 → (∀ q ∈ l, P q) → G) : G := f (h _ (.head _)) (h _ (.tail _ (.head _))) (h _ (.tail _ (.tail _ (.head _)))) (h _ (.tail _ (.tail _ (.tail _ (.head _))))) (h _ (.tail _ (.tail _ (.tail _ (.tail _ (.head _)))))) (h _ (.tail _ (.tail _ (.tail _ (.tail _ (.tail _ (.head _))))))) (h _ (.tail _ (.tail _ (.tail _ (.tail _ (.tail _ (.tail _ (.head _)))))))) (h _ (.tail _ (.tail _ (.tail _ (.tail _ (.tail _ (.tail _ (.tail _ (.head _))))))))) (h _ (.tail _ (.tail _ (.tail _ (.tail _ (.tail _ (.tail _ (.tail _ (.tail _ (.head _)))))))))) (h _ (.tail _ (.tail _ (.tail _ (.tail _ (.tail _ (.tail _ (.tail _ (.tail _ (.tail _ (.head _))))))))))) (h _ (.tail _ (.tail _ (.tail _ (.tail _ (.tail _ (.tail _ (.tail _ (.tail _ (.tail _ (.tail _ (.head _)))))))))))) (h _ (.tail _ (.tail _ (.tail _ (.tail _ (.tail _ (.tail _ (.tail _ (.tail _ (.tail _ (.tail _ (.tail _ (.head _))))))))))))) fun q hq => h q (.tail _ (.tail _ (.tail _ (.tail _ (.tail _ (.tail _ (.tail _ (.tail _ (.tail _ (.tail _ (.tail _ (.tail _ hq))))))))))))
noncomputable def numsOf (rws : List RW) (s : Str) : List Int := ((List.range rws.length).filter fun k => ((rws[k]?).map RW.name) == some s).map fun (k : Nat) => (k : Int)
structure ListOK (prog : Program) (w : World) (G : GA) (rl li : Addr) (rws : List RW) (xs : List PR) (x : PR) (n : Nat) (ys : List IT) (kv : Str → List Value) (hrs : Str → List HR) (nl n1 lk : Nat) (FX : Led) : Prop where
  g : (G.g, instObj 283 G.dg) ∈ FX
  dg : (G.dg, gramD w G) ∈ FX
  lp : (G.lp, listOf (xs.map fun x => Value.ref x.p).toArray nl) ∈ FX
  rl : (rl, listOf (rwV rws).toArray n1) ∈ FX
  rows : ∀ q ∈ rowsL rws, q ∈ FX
  xat : xs[n]? = some x
  rat : ∃ r, rws[n]? = some r ∧ r.name = x.name ∧ r.syms = x.syms
  xp : (x.p, instObj 100 x.dp) ∈ FX
  xd : (x.dp, prodD w x (.ref li) (headRef .none ys) (stOf x)) ∈ FX
  xt : (x.tup, tupO (strV x.its) 0) ∈ FX
  xu : (x.us, listOf (strV x.uv).toArray x.un) ∈ FX
  li : (li, listOf (itsOf ys) lk) ∈ FX
  num : x.num = (n : Int)
  len : x.its.length ≤ 3
  lens : ∀ q ∈ x.its.map (·.1), q.length ≤ 16
  nam : x.name.length ≤ 16
  uv : x.uv.map (·.1) = dedupS x.syms
  ysl : ys.length = x.its.length + 1
  it : ∀ j y, ys[j]? = some y → (y.a, instObj 135 y.d) ∈ FX ∧ (y.d, dictOf (itemE w x j y ++ [ent w "lr_next" (y.tk 11) (headRef .none (ys.drop (j + 1)))]) 10) ∈ FX ∧ (y.t, tupO (dotV x.its j (.str (Str.ofString ".") (y.tk 12))) 0) ∈ FX ∧ (∃ k, (y.al, listOf (afterAt kv x j).toArray k) ∈ FX) ∧
    (0 < j → (strV x.its)[j - 1]? = some y.bef) ∧ y.lo.IsDictOf (PySem.strKind prog w) [] ∧ y.lo.IsDictOf (PySem.intKind prog w) [] ∧ (y.la == sysModules) = false
  hd' : ∀ s, kv s = (hrs s).map (fun h => Value.ref h.z.p) ∧ (∀ h ∈ hrs s, h.In w FX) ∧ (hrs s).map (·.z.num) = numsOf rws s
  xl : xs.length = rws.length
  rwl : rws.length ≤ 100
theorem row_mem {NW : Led} {r : RW} : ∀ {rws : List RW} {n : Nat}, rws[n]? = some r → (∀ q ∈ rowsL rws, q ∈ NW) → (r.ra, tupO [.str r.name r.tn, .ref r.ta] r.n1) ∈ NW ∧ (r.ta, tupO (strV r.its) r.n2) ∈ NW
  | [], _, h, _ => by simp at h
  | r' :: q, 0, h, hs => by
    cases h
    exact ⟨hs _ (.head _), hs _ (.tail _ (.head _))⟩
  | r' :: q, n + 1, h, hs => row_mem (rws := q) (by simpa using h) fun z hz => hs z (.tail _ (.tail _ hz))
theorem pick_nat {vs : List Value} {n : Nat} {v : Value} (h : vs[n]? = some v) (hn : n < 1000) : PickL vs (n : Int) v := .inl ⟨by k_extra "o", by k_extra "o", by simpa using h⟩
theorem st_len {x : PR} (h1 : x.name.length ≤ 16) (h2 : x.its.length ≤ 3) (h3 : ∀ q ∈ x.its.map (·.1), q.length ≤ 16) : (if x.syms = [] then Str.ofString "<empty>" else Str.join (Str.ofString " ") x.syms).length ≤ 1000 ∧ stOf x = x.name ++ Str.ofString " -> " ++ (if x.syms = [] then Str.ofString "<empty>" else Str.join (Str.ofString " ") x.syms) := by
  refine ⟨?_, rfl⟩
  split
  · decide +kernel
  · have := join_len (x := Str.ofString " ") (B := 16) (by decide +kernel) h3
    rw [List.length_map] at this
    show (Str.join (Str.ofString " ") (x.its.map (·.1))).length ≤ 1000
    k_extra "o"
theorem pick_tup {its : List (Str × Tok)} {i : Nat} {p : Str × Tok} (h : its[i]? = some p) (hn : i < 1000) : Pick (strV its) (i : Int) (.str p.1 p.2) := by
  have hl := (List.getElem?_eq_some_iff.mp h).1
  refine (yE0A2 ⟨by k_extra "o", by k_extra "o"⟩ (yE1A1 i ⟨?_, by rw [List.getElem?_map, h]; rfl⟩))
  rw [strV_length]
  exact seqIndex_nat hl
section
open Builtin.Str LCg
set_option maxHeartbeats 4000000 in
theorem listed_spec (prog : Program) (w : World) (G : GA) (rl li : Addr) (rws : List RW) (xs : List PR) (x : PR) (n : Nat) (ys : List IT) (kv : Str → List Value) (hrs : Str → List HR) (nl n1 lk : Nat) (FX : Led) (tn : Tok) (H : ListOK prog w G rl li rws xs x n ys kv hrs nl n1 lk FX) (hsep : Sep (laL ys ++ FX)) :
    Does prog w 320 100 324 [.ref G.g, .ref rl, .int (n : Int) tn] (laL ys ++ FX) (fun r nws => r = .bool true ∧ ∀ q ∈ FX, q ∈ nws) := by
  k_with_none
  k_with "o" => (first | (with_reducible first | assumption | (show (_ : Nat) ≤ _; first | exact Nat.le_of_ble_eq_true rfl | exact Nat.zero_le _ | exact Nat.le_of_lt ‹_› | exact Nat.le_of_eq ‹_› | exact oM ‹_› | exact oL ‹_› | exact oJ | exact oK | exact qE ‹_› | exact qG ‹_› | exact oS ‹_› rfl | exact oSE ‹_› ‹_› rfl | exact oA ‹_› rfl | exact oB ‹_› rfl | exact oG ‹_› rfl | exact oE ‹_› ‹_› rfl | exact oF ‹_› ‹_› rfl | exact oH ‹_› ‹_› rfl | exact oI ‹_› ‹_› rfl | exact oQ ‹_› ‹_› rfl | exact oQ3 ‹_› ‹_› ‹_› rfl | exact xE ‹_› ‹_› rfl | exact xA ‹_› | exact xB ‹_› | exact xH ‹_› | exact xF ‹_› | exact xG ‹_› | exact xL ‹_› | exact xC ‹_› ‹_› ‹_› ‹_› rfl | exact xD ‹_› ‹_› ‹_› ‹_› ‹_› rfl | exact xK ‹_› rfl | exact xJ ‹_› ‹_› rfl | exact xI ‹_› ‹_› ‹_› rfl | exact wA ‹_› ‹_› ‹_› rfl | exact wB ‹_› ‹_› ‹_› rfl | exact yC ‹_› ‹_› ‹_› rfl | exact yE ‹_› | exact uB ‹_› ‹_› rfl | exact uF ‹_› | exact uM | exact uN | exact uO | exact uU ‹_› | exact uW ‹_› ‹_› | exact uX ‹_› ‹_› ‹_› rfl | exact uZ ‹_› ‹_› ‹_› rfl | exact vC ‹_› ‹_› rfl | exact vD ‹_› | exact vI | exact vJ | exact vL ‹_› | exact vN ‹_› ‹_› ‹_› rfl | exact vO ‹_› ‹_› ‹_› ‹_› ‹_› rfl | exact vP ‹_› ‹_› ‹_› rfl | exact vQ ‹_› ‹_› | exact vR ‹_› ‹_› ‹_› rfl | exact vT | exact Nat.min_le_left _ _ | exact Nat.le_trans ‹_› ‹_› | exact Nat.le_add_left _ _ | exact wC ‹_› ‹_› rfl | exact wI ‹_› ‹_› rfl | exact wG ‹_› ‹_› ‹_› rfl | exact wF ‹_› ‹_› ‹_›) | (show (_ : Nat) < _; first | exact Nat.le_of_ble_eq_true rfl | exact Nat.lt_succ_self _ | exact pA ‹_› rfl | exact pB ‹_› rfl | exact pG ‹_› rfl | exact pE ‹_› ‹_› rfl | exact pF ‹_› ‹_› rfl | exact pH ‹_› ‹_› rfl | exact pI ‹_› ‹_› rfl | exact pS ‹_› rfl | exact pSE ‹_› ‹_› rfl | exact qA ‹_› | exact qD ‹_› | exact qB ‹_› ‹_› | exact qC ‹_› | exact Nat.lt_of_le_of_ne ‹_› ‹_› | exact uC ‹_› ‹_› | exact uD ‹_› | exact uE ‹_› | exact uY ‹_› ‹_› | exact vG ‹_› ‹_› rfl | exact vH ‹_› | exact vK ‹_› ‹_› | exact qF ‹_› | exact zA ‹_› ‹_› | exact wK ‹_› | exact wH ‹_› rfl | exact wD ‹_› ‹_› ‹_› rfl | exact wE ‹_› ‹_› ‹_›) | (show (_ : Nat) = _; first | exact yA ‹_› | exact yB ‹_› | exact yD ‹_› | exact yS ‹_› | exact Nat.sub_add_comm ‹_› | exact Nat.add_sub_cancel' ‹_› | exact uV ‹_› | exact uJ | exact uK | exact uL | exact uP | exact uQ | exact uR | exact vE ‹_› ‹_› | exact zB | exact oZ) | (show ((_ : Nat) : Int) < 2 ^ 63; first | exact iA ‹_› rfl | exact iB ‹_› rfl | exact iE ‹_› ‹_› rfl | exact iI ‹_› ‹_› rfl) | (show ((_ : Nat) : Int) < 2 ^ 62; first | exact jA ‹_› rfl | exact jB ‹_› rfl | exact jE ‹_› ‹_› rfl) | (show ((_ : Nat) : Int) + 1 < 2 ^ 63; first | exact rA ‹_› rfl | exact rE ‹_› ‹_› rfl | exact rF ‹_› ‹_› rfl) | exact rT ‹_› ‹_› rfl | exact rM | exact rN | exact Int.natCast_nonneg _ | exact iM | exact jM | exact iP ‹_› | exact uS ‹_› | exact uT ‹_› | exact vF ‹_› | exact vM ‹_› | exact vS ‹_› | exact yF ‹_› | exact yT ‹_› | exact iS | exact iZ | exact iD ‹_› | exact iV) | omega)
  k_with "a" => (with_reducible assumption)
  k_with "kxs_still" => (((try dsimp only); (try (refine execs_gen ?_; intro zqt9)); (try k_fold); (try k_extra "bits_by_make")))
  k_with "bits_by_make" => ((try (rename Fr _ _ _ _ => zqF9; (fail_if_success (refine onlyM zqF9 ?_; goal_lacks ite List.lookup)); refine letF zqF9 ?_; clear zqF9; intro zqm9 zqF9)))
  k_with "cell_call" => (first | k_extra "a" | (refine List.mem_cons_of_mem _ ?_; k_extra "cell_call"))
  k_with "tb_start" => ((refine neN ?_; (try dsimp only); first | exact NeA.to (by k_extra "a") | exact NeA.to' (by k_extra "a") | (refine' ne_pos (by k_extra "a") (by k_extra "po")  ) | (refine' ne_pos' (by k_extra "a") (by k_extra "po")  ) | (refine' lt_pos (by k_extra "a") (by k_extra "po")  ) | (refine' lt_pos' (by k_extra "a") (by k_extra "po")  ) | exact Nat.ne_of_lt (by k_extra "a") | exact Nat.ne_of_gt (by k_extra "a") | (refine' lt_up (by k_extra "a") (by k_extra "a") (by k_extra "po")  ) | (refine' lt_up' (by k_extra "a") (by k_extra "a") (by k_extra "po")  ) | omega))
  k_with "tb_rel" => (first | (tbn_letter; first | k_extra "a" | (refine' lt_suf (by k_extra "a") (by k_extra "su")  ) | (refine' ne_suf (by k_extra "a") (by k_extra "su")  ) | (refine' lt_sufU (by k_extra "a") (by k_extra "a") (by k_extra "su")  ) | (refine tbn_neAll ?_; tbn_find) | (refine' tbn_neAll (allLt_up (by tbn_find) (by k_extra "o"))  )) | exact List.forall_mem_nil _ | (refine' lt_suf (by k_extra "a") (by exact Suf.refl)  ) | (refine' ne_suf (by k_extra "a") (by exact Suf.refl)  ) | exact lt_same (by k_extra "a") (by rfl) | (refine List.forall_mem_cons.mpr ⟨?_, ?_⟩; (focus k_extra "tb_start"); k_extra "tb_rel"))
  k_with "k_upd" => (first | (refine Upd.head ?_; k_extra "tb_rel") | (apply Upd.tail; (focus k_extra "tb_start"); k_upd))
  k_with "k_updF" => (first | (refine UpdF.head ?_; k_extra "tb_rel") | (apply UpdF.tail; (focus k_extra "tb_start"); k_updF))
  k_with "execs cons" => ((k_extra "kxs_still"; refine wpAny_execs_cons ?_))
  k_with "po" => (first | exact PosA.head | (refine PosA.tail ?_; k_extra "po"))
  k_with "su" => (first | exact Suf.refl | (refine Suf.tail ?_; k_extra "su"))
  k_with "call builtin:len" => ((k_here; (with_reducible show wpAny _ _ (call (Value.builtin _) [Value.ref _]) _ _ _); k_dflt (refine' len_tup_led (by k_asm) (by k_mem) (by first | exact dotV_length (by assumption) | exact strV_length _) (by k_extra "o") ?_; k_whole)))
  k_with "enter0" => (k_dflt (refine' code0 (by k_asm) (by k_asm) (by k_asm) (by k_asm) (by k_asm) (by exact rfl) (by exact rfl) (by assumption) (by k_is) (by k_is) (by k_room) (by first | exact BindsTo.of_eq rfl | exact binds_K (by k_in) rfl (by k_is) rfl rfl rfl | fail "enter0") (by exact locs rfl) ?_ (by exact rfl) (by exact rfl) (by exact rfl) (by decide); k_whole; intro zqg' zqL' zqh' zqFG' zqF' zqN' zqB' zqX' zqT' zqD'; (try dsimp only); (try k_lift zqB'); (try k_fold)))
  k_with "call type:list" => ((k_here; (with_reducible show wpAny _ _ (call (Value.type _) [Value.ref _]) _ _ _); k_dflt (refine' list_strs (by k_asm) (by k_asm) (by k_mem) (by k_extra "o") ?_; k_whole); intro zqD' zqc' zqh' zqF' zqN' zql1; (try k_lt zql1); (try k_sweep)))
  k_with "subscriptTail" => ((k_here; (with_reducible show wpAny _ _ (subscriptTail _ _ (Value.ref _) (Value.int _ _)) _ _ _); k_dflt (refine' item_pickAny (by k_asm) (by k_mem) (by k_asm) ?_; k_whole); intro zqv'))
  k_with "subscriptTail" => ((k_here; (with_reducible show wpAny _ _ (subscriptTail _ _ (Value.ref _) (Value.int _ _)) _ _ _); k_dflt (refine' item_nopick (by rfl) (by k_asm) (by k_mem) (by first | k_asm | exact NoPickDot.at (by k_asm)) ?_; k_whole); intro zqh' zqtk' zqe' zqx'))
  k_with "subscriptTail" => ((k_here; (with_reducible show wpAny _ _ (subscriptTail _ _ (Value.ref _) (Value.int _ _)) _ _ _); k_dflt (refine' item_pick (by k_asm) (by k_mem) (by first | k_asm | exact PickDot.at (by k_asm)) ?_; k_whole)))
  k_with "subscriptTail" => ((k_here; (with_reducible show wpAny _ _ (subscriptTail _ _ (Value.ref _) (Value.str _ _)) _ _ _); k_dflt (refine' dict_missing (knd := PySem.strKind _ _) (by k_asm) (by k_mem) (by k_asm) (by k_asm) (by rfl) (strKind_is _ _ _ _) (by k_asm) ?_; k_whole); intro zqh' zqe' zqx'))
  k_with "subscriptTail" => ((k_here; (with_reducible show wpAny _ _ (subscriptTail _ _ (Value.ref _) (Value.str _ _)) _ _ _); k_dflt (refine' kda_item (knd := PySem.strKind _ _) (by k_asm) (by k_mem) (by k_asm) (strKind_is _ _ _ _) (by k_asm) ?_; k_whole)))
  k_with "compareOp NotIn str ref" => ((k_here; (with_reducible show wpAny _ _ (compareOp CmpOp.NotIn (Value.str _ _) (Value.ref _)) _ _ _); k_dflt (refine' notin_strs (by k_asm) (by k_mem) ?_; k_whole)))
  k_with "compareOp In str ref" => ((k_here; (with_reducible show wpAny _ _ (compareOp CmpOp.In (Value.str _ _) (Value.ref _)) _ _ _); k_dflt (refine' in_strs (by k_asm) (by k_mem) ?_; k_whole)))
  k_with "binaryOp Add ref ref" => ((k_here; (with_reducible show wpAny _ _ (binaryOp _ (Value.ref _) (Value.ref _)) _ _ _); k_dflt (refine' add_strs (by k_asm) (by k_asm) (by k_mem) (by k_mem) (by k_extra "o") ?_; k_whole); intro zqD' zqh' zqF' zqN' zql1; (try k_lt zql1); (try k_sweep)))
  k_with "eval Attribute Name" => ((k_here; k_dflt (refine' attr_own (by k_asm) (by rfl) (by k_asm) (by k_inst) (by k_is) (by k_is) (by k_is) (by k_is) (by k_get) (by k_handed) ?_ (by rfl) (by rfl); k_whole)))
  k_with "CompSrc" => (refine halt ?_)
  k_with "CompSrcT" => (refine halt ?_)
  k_with "subscriptTail" => ((k_here; (with_reducible show wpAny _ _ (subscriptTail _ _ (Value.ref _) (Value.int _ _)) _ _ _); k_dflt (refine' list_pick (by k_asm) (by k_mem) (by k_extra "a") ?_; k_whole)))
  k_with "subscriptTail Name Name ref int" => ((k_here; (with_reducible show wpAny _ _ (subscriptTail _ _ (Value.ref _) (Value.int _ _)) _ _ _); k_dflt (refine' list_pick (by k_asm) (by k_mem) (by k_extra "a") ?_; k_whole)))
  k_with "compareOp NotEq ref ref" => ((k_here; (with_reducible show wpAny _ _ (compareOp CmpOp.NotEq (Value.ref _) (Value.ref _)) _ _ _); k_dflt (refine' ne_strs0 (by k_asm) (by k_mem) (by k_mem) (by k_units) (by k_extra "a") ?_; k_whole)))
  k_with "compareOp NotEq ref ref" => (((with_reducible rename StopCmp => zqstopX); clear zqstopX; refine halt ?_))
  k_with "compareOp NotEq str str" => ((k_here; k_dflt (refine' ne_str0 (by first | with_reducible rfl | k_extra "a") ?_; k_whole)))
  k_with "eval IfExp" => (((with_reducible rename StopLen => zqstopX); clear zqstopX; refine halt ?_))
  k_with "truthy ref" => ((k_here; (with_reducible show wpAny _ _ (truthy (Value.ref _)) _ _ _); k_dflt (first | (refine' truthy_strV false true (by k_asm) (by k_mem) (by k_extra "a") rfl (by k_extra "o") ?_; k_whole) | (refine' truthy_strV true false (by k_asm) (by k_mem) (by k_extra "a") rfl (by k_extra "o") ?_; k_whole))))
  k_with "call builtin:str.join" => ((k_here; (with_reducible show wpAny _ _ (call (Value.builtin _) [Value.str _ _, Value.ref _]) _ _ _); k_dflt (refine' join_strV (by decide +kernel) (by k_asm) (by k_mem) (by first | k_extra "o" | (simp only [List.length_append, List.length_take, List.length_drop, List.length_cons, List.length_nil]; k_extra "o")) (by with_reducible first | assumption | apply_assumption) ?_; k_whole); intro zqt' zqk'; (try dsimp only); (try k_sweep)))
  k_with "call builtin:len" => ((k_here; (with_reducible show wpAny _ _ (call (Value.builtin _) [Value.ref _]) _ _ _); k_dflt (refine' len_lst (by k_asm) (by k_mem) (by k_extra "a") (by k_extra "o") ?_; k_whole)))
  k_with "binaryOp Add ref ref" => ((k_here; (with_reducible show wpAny _ _ (binaryOp _ (Value.ref _) (Value.ref _)) _ _ _); k_dflt (first | (refine' tup_add (by k_asm) (by k_asm) (by k_mem) (by k_mem) (by (simp only [List.length_append, List.length_take, List.length_drop, List.length_cons, List.length_nil]; k_extra "o")) ?_; k_whole) | (refine' tup_add_lit (by k_asm) (by k_asm) (by k_mem) (by k_mem) (by (simp only [List.length_append, List.length_take, List.length_drop, List.length_cons, List.length_nil]; k_extra "o")) ?_; k_whole)); intro zqD' zqk' zqh' zqF' zqN'; (try k_sweep)))
  k_with "call ref" => (((with_reducible show wpAny _ _ (call (Value.ref 319) _) _ _ _); refine halt ?_))
  k_with "call builtin:len" => ((k_here; (with_reducible show wpAny _ _ (call (Value.builtin _) [Value.ref _]) _ _ _); k_dflt (refine' len_tup_led (by k_asm) (by k_mem) (by k_extra "a") (by k_extra "o") ?_; k_whole)))
  k_with "exec If" => (((with_reducible rename StopIf => zqstopX); clear zqstopX; refine halt ?_))
  k_with "eval Dict cons cons" => (walk_at "eval Dict")
  k_with "eval Dict" => ((k_here; k_dflt (refine' kdn_eval (knd := PySem.intKind _ _) (by k_asm) (by k_asm) (by exact Top.nolimit (by k_asm)) (by rfl) (by rfl) (by exact List.cons_ne_nil _ _) (by exact Nat.le_of_ble_eq_true rfl) ?_  ); intro zqd' zqh' zqo' zqF' zqN' zql1 zqlo' zqhd'; (try k_lt zql1)))
  k_with "KdnMade" => ((k_here; k_dflt (refine' kdn_made_int (by k_asm) (by k_asm) (by k_updF) (by k_asm) (by rfl) (by exact List.nodup_singleton _) ?_; intro zqh' zqo' zqF' zqN' zqhd'); (try dsimp only at zqN')))
  k_with "exec For Name Call cons nil" => (with_unfolding_all refine wpAny_For ?_)
  k_with "pyIter ref" => (refine halt ?_)
  k_with "exec Assign cons ListComp" => (((with_reducible rename StopHere => zqstopX); clear zqstopX; refine halt ?_))
  k_with "call type:enumerate" => ((k_here; k_dflt (refine' enumAt_call (by k_asm) (by k_asm) (by k_mem) ?_; k_whole); intro zqxv' zqs1' zqhE'; exact EnumAt.base zqhE'))
  k_with "compareOp NotIn str ref" => ((k_here; (with_reducible show wpAny _ _ (compareOp CmpOp.NotIn (Value.str _ _) (Value.ref _)) _ _ _); k_dflt (first | (refine' notin_tup2 false true (by k_asm) (by k_mem) (by k_extra "a") rfl ?_; k_whole) | (refine' notin_tup2 true false (by k_asm) (by k_mem) (by k_extra "a") rfl ?_; k_whole))))
  k_with "compareOp In str ref" => ((k_here; (with_reducible show wpAny _ _ (compareOp CmpOp.In (Value.str _ _) (Value.ref _)) _ _ _); k_dflt (first | (refine' in_tup true (by k_asm) (by k_mem) (by k_extra "a") ?_; k_whole) | (refine' in_tup false (by k_asm) (by k_mem) (by k_extra "a") ?_; k_whole))))
  k_with "subscriptTail Name Slice ref ref" => (((with_reducible show wpAny _ _ (subscriptTail _ (PySem.Expr.Slice _ _ none _) (Value.ref _) (Value.ref _)) _ _ _); k_dflt (refine' tup_cut (by k_asm) (by k_asm) (by k_mem) (by kmk_part) (by kmk_part) (by k_extra "a") (by k_extra "o") ?_  ); intro zqD' zqk' zqh' zqF' zqN'; (try k_sweep)))
  intro mean mg mb cn cs a ccd cl outer A₀ base h₀ L m s Q E Bl F X N T hk hret
  refine xE1A3 (H.rat) fun z1q hr hrn hrs' => ?_; obtain ⟨ra, ta, rnm, rits, rtn, rn1, rn2⟩ := z1q
  dsimp only [RW.syms] at hrn hrs'
  subst hrn
  have hn1000 : n < 1000 := by have := (List.getElem?_eq_some_iff.mp hr).1; have := H.rwl; k_extra "o"
  have hp1 : PickL (rwV rws) (n : Int) (.ref ra) := pick_nat (by rw [List.getElem?_map, hr]; rfl) hn1000
  have hp2 : PickL (xs.map fun x => Value.ref x.p) (n : Int) (.ref x.p) := pick_nat (by rw [List.getElem?_map, H.xat]; rfl) hn1000
  have hrow : ∀ q ∈ rowsL rws, q ∈ laL ys ++ FX := fun q hq => List.mem_append_right _ (H.rows q hq)
  have z2q : ∃ NW, laL ys ++ FX = NW := ⟨_, rfl⟩; refine xE1A1 z2q ?_; (try clear z2q); intro NW hNW
  rw [hNW] at N hsep hrow
  have hFN : ∀ q ∈ FX, q ∈ NW := fun q hq => by rw [← hNW]; exact List.mem_append_right _ hq
  have e1 := hFN _ H.g
  have e2 := hFN _ H.dg
  have e3 := hFN _ H.lp
  have e4 := hFN _ H.rl
  have e5 := hFN _ H.xp
  have e6 := hFN _ H.xd
  have e7 := hFN _ H.xt
  have e8 := hFN _ H.xu
  have e9 := hFN _ H.li
  have z3q : ∃ y, ys[0]? = some y := ⟨ys[0]'(by have := H.ysl; k_extra "o"), List.getElem?_eq_getElem _⟩; refine xE1A1 z3q ?_; (try clear z3q); intro y0 hy0
  have hh0 : headRef .none ys = .ref y0.a := by
    cases ys with
    | nil => cases hy0
    | cons y r => cases hy0; rfl
  rw [hh0] at e6
  have z4q : (ra, tupO [.str x.name rtn, .ref ta] rn1) ∈ NW ∧ (ta, tupO (strV rits) rn2) ∈ NW := row_mem hr hrow; refine xE0A2 z4q ?_; (try clear z4q); intro r1 r2
  have h3 := H.len
  have hnm16 := H.nam
  have hysl : (ys.map fun y => Value.ref y.a).length = x.its.length + 1 := by rw [List.length_map]; exact H.ysl
  have hlen : rits.length = x.its.length := by
    have := congrArg List.length hrs'
    rwa [List.length_map, List.length_map] at this
  have hnm2 : x.name.length ≤ 1000 := by k_extra "o"
  have hst := st_len H.nam H.len H.lens
  have hB : ∀ y ∈ rits.map (·.1), y.length ≤ 16 := by rw [hrs']; exact H.lens
  refine xE0A2 hst ?_; (try clear hst); intro hT1 hT2
  have hrl : rits.length ≤ 3 := by
    have := congrArg List.length hrs'
    rw [List.length_map, List.length_map] at this
    k_extra "o"
  refine wpAny_call ?_
  k_dflt (refine' code_defC ?k1 ?k2 ?k3 ?k4 ?k5 ?kA ?kF ?kK ?k6 ?k7 ?k8 ?k9 ?kB ?kD ?_ ?c2 ?c3 ?c4; (case kA => exact rfl); (case kF => exact rfl); (case kK => assumption); (case k1 => k_asm); (case k2 => k_asm); (case k3 => k_asm); (case k4 => k_asm); (case k5 => k_asm); (case k6 => k_is); (case k7 => k_is); (case k8 => k_room); (case k9 => exact BindsTo.of_eq rfl); (case kB => exact rfl); (case kD => decide +kernel); (case c2 => exact rfl); (case c3 => exact rfl); (case c4 => exact rfl); k_whole; intro g' L' h' tk' cells' FG' F' N' Y' B' X' T' l1; (try k_lt l1); k_cells Y'; (try simp only [List.cons_append, List.nil_append] at N'); (try dsimp only); (try k_fold))
  have l9 := l1
  k_steps
  unfold Halt
  rename Fr _ _ _ _ => F1
  rename News _ _ _ _ => N1
  rename IsRange _ _ _ _ _ _ _ _ => hR
  have hsz1 : Builtin.Range.rangeSize 0 (x.its.length : Int) 1 = ((x.its.length : Nat) : Int) := by rw [rangeSize_one]; split <;> k_extra "o"
  refine CompSrc.range rfl F1 N1 hR (small_one (by decide) (by decide) (by k_extra "o") (by k_extra "o")) hsz1 (by rw [sizeLine_eq]; k_extra "o") fun g0 => ?_
  refine CompRest_V (n := x.its.length) (fun i ys => ∃ l : List (Str × Tok), ys = strV l ∧ l = x.its.take i) trivial ?turn1 ?fin1 _ 0 [] (by k_extra "o") ⟨[], rfl, rfl⟩
  case turn1 =>
    intro i v I oI C oC D ys' m₂ h tk E' hi z5q z6q hC hx F2 N2 off ne; refine xE1A1 z5q ?_; (try clear z5q); intro tv z7q; obtain rfl := z7q; refine xE1A2 z6q ?_; (try clear z6q); intro l z8q z9q; obtain rfl := z8q; obtain rfl := z9q
    rw [Int.zero_add] at hx
    have hp : x.its[i]? = some x.its[i] := List.getElem?_eq_getElem hi
    have hpk : Pick (strV x.its) (i : Int) (.str x.its[i].1 x.its[i].2) := pick_tup hp (by k_extra "o")
    clear F1 N1
    k_steps
    rename Fr _ _ _ _ => F9
    rename News _ _ _ _ => N9
    exact (yE0A2 ⟨_, by rw [List.take_add_one, hp, strV, strV, List.map_append]; rfl, rfl⟩ (yE2A3 _ _ rfl F9 N9))
  case fin1 =>
    intro ys' z10q; refine xE1A2 z10q ?_; (try clear z10q); intro l z11q z12q; obtain rfl := z11q; obtain rfl := z12q
    clear F1 N1
    rw [List.take_length]
    have heq : x.its.map (·.1) = rits.map (·.1) := hrs'.symm
    have stopX := stopLen
    k_steps
    unfold Halt
    rename Fr _ _ _ _ => F2
    rename News _ _ _ _ => N2
    refine' cut_val F2 N2 (fun v => ∃ u, v = .str (if x.syms = [] then Str.ofString "<empty>" else Str.join (Str.ofString " ") x.syms) u) ?ife ?aft
    case ife =>
      have z13q : ∃ b, rits.isEmpty = b := ⟨_, rfl⟩; refine xE1A1 z13q ?_; (try clear z13q); intro be hbe
      cases be with
      | true =>
        k_steps
        rename Fr _ _ _ _ => F9
        rename News _ _ _ _ => N9
        have eT : (if x.syms = [] then Str.ofString "<empty>" else Str.join (Str.ofString " ") x.syms) = Str.ofString "<empty>" := if_pos (by rw [← hrs', List.isEmpty_iff.mp hbe]; rfl)
        exact (yE0A2 ⟨_, congrArg (fun z => Value.str z _) eT.symm⟩ (yE2A3 _ _ rfl F9 N9))
      | false =>
        k_steps
        rename Fr _ _ _ _ => F9
        rename News _ _ _ _ => N9
        have eT : (if x.syms = [] then Str.ofString "<empty>" else Str.join (Str.ofString " ") x.syms) = Str.join (Str.ofString " ") (rits.map (·.1)) := by
          rw [if_neg (by rw [← hrs']; intro q; rw [List.map_eq_nil_iff.mp q] at hbe; cases hbe), ← hrs']
        exact (yE0A2 ⟨_, congrArg (fun z => Value.str z _) eT.symm⟩ (yE2A3 _ _ rfl F9 N9))
    case aft =>
      intro v h2 tk2 z14q F3 N3; refine xE1A1 z14q ?_; (try clear z14q); intro u z15q; obtain rfl := z15q
      clear F2 N2
      have stopX := stopHere
      k_steps
      · rename _ ≠ _ => hq
        k_extra "o"
      unfold Halt
      rename Fr _ _ _ _ => F4
      rename News _ _ _ _ => N4
      refine assign_E (its := rits) (ax := ta) (k := rn2) (xi := Str.ofString "place") (xv := Str.ofString "s") (fun i ys => ∃ l : List (Str × Tok), ys = strV l ∧ l.map (·.1) = dedupS ((rits.map (·.1)).take i)) F4 N4 rfl (by with_unfolding_all rfl) rfl rfl rfl ?hm4 (by k_extra "o") (by with_unfolding_all rfl) (by decide) rfl (by decide) rfl rfl (by decide) ?hi4 ⟨[], rfl, rfl⟩ ?turn4 ?fin4
      case hm4 => k_mem
      case hi4 => k_steps
      case turn4 =>
        intro i y ty ui I oI e oe C oC D ys' m₂ h tk E' hy z16q hC hxi hxv F5 N5 off; refine xE1A2 z16q ?_; (try clear z16q); intro l z17q hl; obtain rfl := z17q
        have hi3 : i ≤ rits.length := Nat.le_of_lt (List.getElem?_eq_some_iff.mp hy).1
        have hadj := adj_to hi3
        clear F4 N4
        have z18q : ∃ b, (((rits.drop 0).take i).map (·.1)).any (· == y) = b := ⟨_, rfl⟩; refine xE1A1 z18q ?_; (try clear z18q); intro b hb
        cases b with
        | true =>
          k_steps
          rename Fr _ _ _ _ => F9
          rename News _ _ _ _ => N9
          exact (yE0A2 ⟨l, rfl, once_skip hy hl hb⟩ (yE2A3 _ _ rfl F9 (News.tail' N9)))
        | false =>
          k_steps
          rename Fr _ _ _ _ => F9
          rename News _ _ _ _ => N9
          exact (yE0A2 ⟨l ++ [(y, ty)], by rw [strV, strV, List.map_append]; rfl, once_add hy hl hb⟩ (yE2A3 _ _ rfl F9 (News.tail' N9)))
      case fin4 =>
        intro D ys' h tk z19q F5 N5 off; refine xE1A2 z19q ?_; (try clear z19q); intro l z20q hl; obtain rfl := z20q
        clear F4 N4
        dsimp only
        have hiter := H.it
        have p5 := allNe_of off
        rw [List.take_of_length_le (by rw [List.length_map]; exact Nat.le_refl _)] at hl
        k_steps
        unfold Halt
        rename Fr _ _ _ _ => F6
        rename News _ _ _ _ => N6
        rename IsRange _ _ _ _ _ _ _ _ => hR2
        refine for_LS (nm := .str x.name rtn) (nu := .int (n : Int) tn) hNW hsep hR2 (by rw [H.ysl, hlen]; k_extra "o") (by rw [H.ysl]; k_extra "o") rfl rfl rfl rfl F6 N6 (by assumption) (by rw [ovL, hh0]; exact (yE0A4 rfl rfl rfl ⟨rfl, trivial⟩)) off ⟨by k_extra "o", by k_extra "o", by k_extra "o", allLt_up l9 (by k_extra "o")⟩ ?turn6 ?done6
        case turn6 =>
          rintro i k I it oc m₁ h tk y T hy hFT hov hdc S6 F7 N7
          clear F6 N6 e1 e2 e3 e4 e5 e6 e7 e8 e9
          have F8 := overF F7 hov
          dsimp only [over, ovL, S_, headRef] at F8
          clear F7
          have hi4 : i ≤ rits.length := by
            have := (List.getElem?_eq_some_iff.mp hy).1
            have := H.ysl
            k_extra "o"
          refine xE0A8 (H.it i y hy) fun i1 i2 i3 z21q ibef ilos iloi ilol => ?_; refine xE1A1 z21q ?_; (try clear z21q); intro ka i4
          have g1 := hFT _ H.xp
          have g2 := hFT _ H.xd
          have g4 := hFT _ H.rl
          have g9 := hFT _ H.li
          have gr2 : (ta, tupO (strV rits) rn2) ∈ T := hFT _ (row_mem hr H.rows).2
          have t1 := hFT _ i1
          have t2 := hFT _ i2
          have hadj1 := adj_to hi4
          have hadj2 := adj_from hi4
          have hadj3 := adj_one hi4
          have rT : ∀ q ∈ T, q.1 ≠ y.la := S6.tail.tail.tail.tail.tail.tail.ne
          have s1 := allNe_of S6.ne
          have s2 := allNe_of S6.tail.ne
          have s3 := allNe_of S6.tail.tail.ne
          have s4 := allNe_of S6.tail.tail.tail.ne
          have s5 := allNe_of S6.tail.tail.tail.tail.ne
          have s6 := allNe_of S6.tail.tail.tail.tail.tail.ne
          have hrwl : (rwV rws).length = rws.length := List.length_map ..
          have hrw100 := H.rwl
          have stopX := stopHere
          k_steps
          unfold Halt
          rename Fr _ _ _ _ => F9
          rename News _ _ _ _ => N9
          refine LCt.Assign_ListComp_T F9 rfl (by with_unfolding_all rfl) (by with_unfolding_all rfl) (by decide) rfl (by decide) rfl rfl rfl ?_
          k_steps
          unfold Halt
          rename Fr _ _ _ _ => F10
          rename News _ _ _ _ => N10
          rename IsRange _ _ _ _ _ _ _ _ => hR3
          refine after_src (n := rws.length) rfl F10 N10 hR3 rfl (by k_extra "o") (numsTo rws ((rits[i]?).map (·.1))) rfl ?turn7 ?fin7
          case turn7 =>
            intro j k7 I7 oI7 C7 oC7 D7 trs m₇ h tk7 E' s7 news hj htm htn hsub hC hx F11 N11 off
            have hsub0 := hsub
            refine all12 hsub ?_
            clear hsub
            intros
            clear F10 N10
            have z22q : ∃ r, rws[j]? = some r := ⟨_, List.getElem?_eq_getElem hj⟩; refine xE1A1 z22q ?_; (try clear z22q); intro rj hrj
            have hpj : PickL (rwV rws) (j : Int) (.ref rj.ra) := pick_nat (by rw [List.getElem?_map, hrj]; rfl) (by k_extra "o")
            have hTn : ∀ q ∈ T, q ∈ news := by assumption
            have q1 : (rj.ra, tupO [.str rj.name rj.tn, .ref rj.ta] rj.n1) ∈ news := hTn _ (hFT _ (row_mem hrj H.rows).1)
            have q2 := hTn _ g4
            have q3 := hTn _ gr2
            have z23q : ∃ b, (((rits.drop i).take (min 1 (rits.length - i))).map (·.1)).any (· == rj.name) = b := ⟨_, rfl⟩; refine xE1A1 z23q ?_; (try clear z23q); intro bj hbj
            have hbj2 := hbj
            rw [cut_any hi4 hrj] at hbj2
            cases bj with
            | true =>
              k_steps
              rename Fr _ _ _ _ => F12
              rename News _ _ _ _ => N12
              rename AllLt _ (_ :: (I7, _) :: _) => l12
              exact compJ_tr F12 (News.perm N12 fun q hq => (List.mem_cons.mp hq).elim (fun h => by rw [h]; exact .head _) fun h => .tail _ (.tail _ h)) off l12.2 htn (nums_hit hbj2) htm hsub0
            | false =>
              k_steps
              rename Fr _ _ _ _ => F12
              rename News _ _ _ _ => N12
              exact compJ_stay F12 N12 (fun q hq => .tail _ hq) off (by rw [htn]; exact nums_miss hbj2) htm hsub0
          case fin7 =>
            intro g7 trs news htn htm hsub
            have hsub0 := hsub
            refine all12 hsub ?_
            clear hsub
            intros
            have hTn : ∀ q ∈ T, q ∈ news := by assumption
            have q1 := hTn _ t1
            have q2 := hTn _ t2
            have hBd : ∀ t : Tok, ∀ z ∈ (((rits.drop 0).take i ++ [(Str.ofString ".", t)]) ++ (rits.drop i).take (rits.length - i)).map (·.1), z.length ≤ 16 := dotted_small hB
            rename (_, tupO (strV (_ ++ List.take _ _)) _) ∈ news => hdm
            have hjd := dot_fact hdm hB hrl
            have hdl := dot_len hdm hi4
            clear F10 N10
            k_steps
            unfold Halt
            rename Fr _ _ _ _ => F13
            rename News _ _ _ _ => N13
            have hil4 : (x.its.take i ++ (Str.ofString ".", y.tk 12) :: x.its.drop i).length ≤ 4 := by
              simp only [List.length_append, List.length_take, List.length_cons, List.length_drop]
              k_extra "o"
            have hBI : ∀ q ∈ (x.its.take i ++ (Str.ofString ".", y.tk 12) :: x.its.drop i).map (·.1), q.length ≤ 16 := by
              rw [dot_same (t := 0) hrs']
              exact dotted_small hB _
            have hsF : ∀ q ∈ FX, q ∈ news := fun q hq => hTn _ (hFT _ hq)
            have i3' : (y.t, tupO (strV (x.its.take i ++ (Str.ofString ".", y.tk 12) :: x.its.drop i)) 0) ∈ news := by
              rw [← dotV_strV]
              exact hsF _ i3
            have i4' : (y.al, listOf ((behind hrs x i).map fun h => Value.ref h.z.p).toArray ka) ∈ news := by
              rw [← behind_after fun s => (H.hd' s).1]
              exact hsF _ i4
            have hin : ∀ h ∈ behind hrs x i, h.In w news := by
              unfold behind
              cases x.its[i]? with
              | none => exact fun _ h => nomatch h
              | some s => exact fun h hh => ((H.hd' s.1).2.1 h hh).mono hsF
            have hnum : (behind hrs x i).map (·.z.num) = numsTo rws ((x.its[i]?).map (·.1)) rws.length := behind_nums fun s => (H.hd' s).2.2
            have hbl : (behind hrs x i).length ≤ 100 := by
              have := congrArg List.length hnum
              rw [List.length_map] at this
              have h2 := numsTo_len rws ((x.its[i]?).map (·.1)) rws.length
              k_extra "o"
            refine told_call (its := x.its.take i ++ (Str.ofString ".", y.tk 12) :: x.its.drop i) (rs := behind hrs x i) (n := ka) (by assumption) F13 (by assumption) N13 (by assumption) rfl rfl (Nat.le_of_ble_eq_true rfl) rfl (Nat.le_of_ble_eq_true rfl) rfl (dotV_strV _ _ _) (by simp) hil4 hBI H.nam (.tail _ q1) (.tail _ q2) (.tail _ i3') (.tail _ i4') (fun h hh => (hin h hh).mono fun q hq => .tail _ hq) hbl ?_
            intro r9 nws9 h9 tk9 F14 N14 z24q; refine xE8A1 z24q ?_; (try clear z24q); intro T9 al9 k9 trs9 u0 u1 u2 u3 z26q; refine xE1A6 z26q ?_; (try clear z26q); intro u4 z25q hT9 hal9 htr9 hn9 hsub9; obtain rfl := z25q
            have hsub2 := fun q hq => hsub9 q (.tail _ (hsub0 q hq))
            have haft9 := hsub9 _ (.head _)
            have hsub20 := hsub2
            have y1 := hsub9 _ (.tail _ q1)
            have y3 := hsub9 _ (.tail _ (hTn _ gr2))
            have y2 := hsub9 _ (.tail _ q2)
            have htm9 : ∀ t ∈ trs, trO t ∈ nws9 := fun t ht => hsub9 _ (.tail _ (htm t ht))
            refine all12 hsub2 ?_
            clear hsub2
            intros
            clear F13 N13
            have stopX := stopCmp
            k_steps
            unfold Halt
            rename Fr _ _ _ _ => F15
            rename News _ _ _ _ => N15
            have hcl := cLine_is
            have z3 : (y.t, tupO (strV (x.its.take i ++ (Str.ofString ".", y.tk 12) :: x.its.drop i)) 0) ∈ nws9 := hsub9 _ (.tail _ i3')
            have z5 : (x.us, listOf (strV x.uv).toArray x.un) ∈ nws9 := hsub9 _ (.tail _ (hsF _ H.xu))
            have z7 : (y.la, y.lo) ∈ nws9 := by assumption
            rename (_, tupO (strV (_ ++ List.take _ _)) _) ∈ nws9 => zd
            rename (D, _) ∈ nws9 => zo
            have zn : trs9.map (·.n) = trs.map (·.n) := by
              rw [hn9, htn, hnum]
              congr 1
              rw [← List.getElem?_map, ← List.getElem?_map, hrs']
            refine ne_tuples0 N15 (.tail _ (.tail _ hT9)) (.head _) (by simp only [Around.deeper, Around.in1]; k_extra "o") ?eqs ?rst
            case eqs =>
              refine .cons (eqv_str rfl) (.cons (eqv_int H.num) (.cons (eqv_int rfl) (.cons ?e4 (.cons ?e5 (.cons ?e6 (.cons ?e7 (.cons ?e8 (.cons ?e9 .nil))))))))
              case e4 => exact eqv_tuples (N15.isTup (.tail _ (.tail _ z3))) (N15.isTup (.tail _ (.tail _ zd))) (by simp only [Around.deeper, Around.in1]; k_extra "o") (allEq_strs (dot_same hrs'))
              case e5 => exact eqv_int (by rw [hlen])
              case e6 => exact eqv_lists (N15.isList (.tail _ (.tail _ z5))) (N15.isList (.tail _ (.tail _ zo))) (by simp only [Around.deeper, Around.in1]; k_extra "o") (allEq_strs (by rw [H.uv, hl, hrs']))
              case e7 => exact eqv_str (by rw [dot_same hrs', empty_app2])
              case e8 => exact eqv_dicts N15 (.tail _ (.tail _ z7)) (.tail _ (.head _)) ilol (by assumption) ilos (by assumption) (by simp only [Around.deeper, Around.in1]; k_extra "o")
              case e9 => exact eqv_lists (N15.isList (.tail _ (.tail _ hal9))) (N15.isList (.tail _ (.tail _ haft9))) (by simp only [Around.deeper, Around.in1]; k_extra "o") (allEq_trs N15 (by simp only [Around.deeper, Around.in1]; k_extra "o") zn (fun t ht => .tail _ (.tail _ (htr9 t ht))) (fun t ht => .tail _ (.tail _ (htm9 t ht))))
            case rst =>
              have stopX := stopIf
              k_steps
              unfold Halt
              rename Fr _ _ _ _ => F16
              rename News _ _ _ _ => N16
              refine cut_nop F16 N16 ?nop ?aft8
              case nop =>
                rcases Nat.eq_zero_or_pos i with hi0 | hi0
                · k_steps
                  rename Fr _ _ _ _ => F18
                  rename News _ _ _ _ => N18
                  exact (yE0A2 rfl (yE2A3 _ _ rfl F18 N18))
                · have z27q : ∃ p, x.its[i - 1]? = some p := ⟨_, List.getElem?_eq_getElem (by k_extra "o")⟩; refine xE1A1 z27q ?_; (try clear z27q); intro p0 hp0
                  have z28q : ∃ p, rits[i - 1]? = some p := ⟨_, List.getElem?_eq_getElem (by k_extra "o")⟩; refine xE1A1 z28q ?_; (try clear z28q); intro p1 hp1
                  have hbf : y.bef = .str p0.1 p0.2 := by
                    have z := ibef hi0
                    rw [List.getElem?_map, hp0] at z
                    exact (Option.some.inj z).symm
                  have hpp : p1.1 = p0.1 := by
                    have z := congrArg (fun l : List Str => l[i - 1]?) hrs'
                    simp only [List.getElem?_map, hp0, hp1, Option.map_some, Option.some.injEq] at z
                    exact z
                  have hpk : Pick (strV rits) ((i : Int) - 1) (.str p0.1 p1.2) := by
                    have z := pick_tup hp1 (by k_extra "o")
                    rwa [hpp, show ((i - 1 : Nat) : Int) = (i : Int) - 1 by k_extra "o"] at z
                  dsimp only [itemE] at y2
                  rw [hbf] at y2
                  k_steps
                  rename Fr _ _ _ _ => F18
                  rename News _ _ _ _ => N18
                  exact (yE0A2 rfl (yE2A3 _ _ rfl F18 N18))
              case aft8 =>
                intro h8 tk8 F17 N17
                have hpi : PickL (ys.map fun y => Value.ref y.a) (i : Int) (.ref y.a) := pick_nat (by rw [List.getElem?_map, hy]; rfl) (by k_extra "o")
                have N18 := perm_sep S6 N17 fun q hq => .tail _ (.tail _ (hsub20 q (by repeat (first | exact hq | apply List.mem_cons_of_mem))))
                clear N17 F16 N16 hsub20 hsub9
                have stopX := stopCmp
                k_steps
                unfold Halt
                rename Fr _ _ _ _ => F19
                rename News _ _ _ _ => N19
                rename Obj.IsDictOf (PySem.intKind _ _) _ (intKeyPairs _) => hdD
                dsimp only [intKeyPairs] at hdD
                refine ne_dict1 N19 (by k_mem) (by k_mem) ilol (by assumption) (by assumption) hdD (by simp only [Around.deeper, Around.in1]; k_extra "o") (eqv_lists (N19.isList (by k_mem)) (N19.isList (by k_mem)) (by simp only [Around.deeper, Around.in1]; k_extra "o") (.cons (eqv_int rfl) .nil)) ?_
                have hnx : ∃ nx, headRef Value.none (ys.drop (i + 1)) = nx ∧ (nx = .none ∨ ∃ a, nx = .ref a) := by
                  cases ys.drop (i + 1) with
                  | nil => exact ⟨_, rfl, .inl rfl⟩
                  | cons z _ => exact ⟨_, rfl, .inr ⟨_, rfl⟩⟩
                refine xE1A2 hnx ?_; (try clear hnx); intro nx hnx z29q; rcases z29q with rfl | ⟨ax, rfl⟩
                all_goals
                  rw [hnx] at t2
                  k_steps
                  rename Fr _ _ _ _ => F20
                  rename News _ _ _ _ => N20
                  refine (yE3A4 _ _ _ rfl F20 (News.perm N20 (fun q hq => ?_)) ?_)
                  · simp only [List.mem_cons] at hq ⊢
                    rcases hq with h | h | h | h | h | h | h <;> simp only [h, true_or, or_true]
                  · dsimp only [OvOK]
                    rw [hnx]
                    exact (yE0A4 rfl rfl rfl ⟨rfl, trivial⟩)
        case done6 =>
          rintro m₁ oc h tk hov F7 N7
          have F8 := overF F7 hov
          dsimp only [over, ovL, S_, headRef] at F8
          clear F7
          k_steps
          rename Fr _ _ _ _ => F9
          rename News _ _ _ _ => N9
          exact hret _ _ _ _ F9 N9 ⟨rfl, fun q hq => .tail _ (.tail _ (.tail _ (.tail _ (.tail _ hq))))⟩
end

section
noncomputable abbrev newA (w : World) (x : PR) (i : Nat) (t la : Addr) (t0 t1 t2 t3 t4 t5 t6 t7 t8 : Tok) : List DictEntry := [ent w "name" t0 (.str x.name (x.tk 1)), ent w "prod" t1 (.ref t), ent w "number" t2 (.int x.num (x.tk 4)), ent w "lr_index" t3 (.int (i : Int) t4), ent w "lookaheads" t5 (.ref la),
  ent w "len" t6 (.int ((x.its.length + 1 : Nat) : Int) t7), ent w "usyms" t8 (.ref x.us)]
noncomputable abbrev newF (w : World) (x : PR) (i : Nat) (t la al : Addr) (t0 t1 t2 t3 t4 t5 t6 t7 t8 t9 : Tok) : List DictEntry := [ent w "name" t0 (.str x.name (x.tk 1)), ent w "prod" t1 (.ref t), ent w "number" t2 (.int x.num (x.tk 4)), ent w "lr_index" t3 (.int (i : Int) t4), ent w "lookaheads" t5 (.ref la),
  ent w "len" t6 (.int ((x.its.length + 1 : Nat) : Int) t7), ent w "usyms" t8 (.ref x.us), ent w "lr_after" t9 (.ref al)]
noncomputable def CuT (w : World) (kv : Str → List Value) (fx : Led) (x : PR) (i : Nat) (t la D a d : Addr) (lo od : Obj) (t0 t1 t2 t3 t4 t5 t6 t7 t8 t12 : Tok) (PL REST nws : Led) : Prop :=
  ∃ (al : Addr) (t9 : Tok) (R2 ex : Led) (n : Nat), nws = (t, tupO (dotV x.its i (.str (Str.ofString ".") t12)) 0) :: (la, lo) :: (D, od) :: (a, instObj 135 d) :: (d, dictOf (newF w x i t la al t0 t1 t2 t3 t4 t5 t6 t7 t8 t9) 8) :: (PL ++ R2) ∧ Sep nws ∧ R2 = ex ++ REST ∧ (al, listOf (afterAt kv x i).toArray n) ∈ ex ++ fx
noncomputable def CutT (w : World) (mean : ExcName → Option Value) (mg mb : Str → Option Value) (Ac : Around) (h₀ : Heap) (ce : Env) (g₀ : Heap) (L : Addr) (s : Shared) (m : Str → Option Value) (P : Led → Prop) (f : Flow) (s' : Shared) : Prop := f = .next ∧ ∃ nws, AtS w mean mg mb Ac h₀ ce g₀ L s m nws s' ∧ P nws
variable {prog : Program} {w : World} {mean : ExcName → Option Value} {mg mb : Str → Option Value} {A Ac : Around} {h₀ g₀ g h : Heap} {ce : Env} {s : Shared} {L : Addr} {m : Str → Option Value} {kv : Str → List Value} {fx : Led} {x : PR} {i : Nat} {t la D a d : Addr} {lo od : Obj} {t0 t1 t2 t3 t4 t5 t6 t7 t8 t9 t12 : Tok} {PL REST : Led} {c : Sem Flow} {Q : Flow → Shared → Prop} {E : Value → Shared → Prop} {tk : Tok}
theorem cut_try (kv : Str → List Value) (fx PL REST : Led) (G : Gd w mean mg mb Ac h₀ ce g₀ g) (F : Fr g L s.heap m) (N : News g L s.heap ((t, tupO (dotV x.its i (.str (Str.ofString ".") t12)) 0) :: (la, lo) :: (D, od) :: (a, instObj 135 d) :: (d, dictOf (newA w x i t la t0 t1 t2 t3 t4 t5 t6 t7 t8) 7) :: (PL ++ REST)))
    (h1 : wpAny (model prog w) A c (CutT w mean mg mb Ac h₀ ce g₀ L s m (CuT w kv fx x i t la D a d lo od t0 t1 t2 t3 t4 t5 t6 t7 t8 t12 PL REST)) E s)
    (h2 : ∀ g' h' tk nws, Gd w mean mg mb Ac h₀ ce g₀ g' → Fr g' L h' m → News g' L h' nws → CuT w kv fx x i t la D a d lo od t0 t1 t2 t3 t4 t5 t6 t7 t8 t12 PL REST nws → Q .next { s with heap := h', toks := tk }) : wpAny (model prog w) A c Q E s :=
  wpAny_mono h1 (fun f s' q => by
    refine xE0A2 q ?_; (try clear q); intro z1q z3q; refine xE1A2 z3q ?_; (try clear z3q); intro nws z2q K; obtain rfl := z1q; refine xE3A4 z2q ?_; (try clear z2q); intro g' h' tk z4q G' F' N'; obtain rfl := z4q
    exact h2 g' h' tk nws G' F' N' K) fun _ _ e => e
theorem CutT.found {al : Addr} {n : Nat} (T : KtsTurn ([ce].filterMap (·.frame)) g₀ g) (B : Below Ac h₀ [ce] g) (X : (hd.heap_1 w.params).In g) (P : Top hdV LOOSE mean mg mb g) (D' : KtsDicts ([ce].filterMap (·.frame)) g) (F : Fr g L h m)
    (N : News g L h ((t, tupO (dotV x.its i (.str (Str.ofString ".") t12)) 0) :: (la, lo) :: (D, od) :: (a, instObj 135 d) :: (d, dictOf (newF w x i t la al t0 t1 t2 t3 t4 t5 t6 t7 t8 t9) 8) :: (PL ++ REST)))
    (S : Sep ((t, tupO (dotV x.its i (.str (Str.ofString ".") t12)) 0) :: (la, lo) :: (D, od) :: (a, instObj 135 d) :: (d, dictOf (newF w x i t la al t0 t1 t2 t3 t4 t5 t6 t7 t8 t9) 8) :: (PL ++ REST)))
    (hm : (al, listOf (afterAt kv x i).toArray n) ∈ fx) : CutT w mean mg mb Ac h₀ ce g₀ L s m (CuT w kv fx x i t la D a d lo od t0 t1 t2 t3 t4 t5 t6 t7 t8 t12 PL REST) .next { s with heap := h, toks := tk } :=
  ⟨rfl, _, AtS.intro T B X P D' F N, al, t9, REST, [], n, rfl, S, rfl, hm⟩
theorem CutT.caught {al : Addr} {n : Nat} (T : KtsTurn ([ce].filterMap (·.frame)) g₀ g) (B : Below Ac h₀ [ce] g) (X : (hd.heap_1 w.params).In g) (P : Top hdV LOOSE mean mg mb g) (D' : KtsDicts ([ce].filterMap (·.frame)) g) (F : Fr g L h m)
    (N : News g L h ((al, listOf #[] n) :: (t, tupO (dotV x.its i (.str (Str.ofString ".") t12)) 0) :: (la, lo) :: (D, od) :: (a, instObj 135 d) :: (d, dictOf (newF w x i t la al t0 t1 t2 t3 t4 t5 t6 t7 t8 t9) 8) :: (PL ++ REST)))
    (S : Sep ((al, listOf #[] n) :: (t, tupO (dotV x.its i (.str (Str.ofString ".") t12)) 0) :: (la, lo) :: (D, od) :: (a, instObj 135 d) :: (d, dictOf (newF w x i t la al t0 t1 t2 t3 t4 t5 t6 t7 t8 t9) 8) :: (PL ++ REST)))
    (ha : afterAt kv x i = []) : CutT w mean mg mb Ac h₀ ce g₀ L s m (CuT w kv fx x i t la D a d lo od t0 t1 t2 t3 t4 t5 t6 t7 t8 t12 PL REST) .next { s with heap := h, toks := tk } :=
  ⟨rfl, _, AtS.intro T B X P D' F (News.perm N fun p hp => ledIn [_, _, _, _, _, _] [_, _] (.c 1 <| .c 2 <| .c 3 <| .c 4 <| .c 5 <| .a (.l 0) <| .c 0 <| .l 1) (.c 0 <| .c 1 <| .c 2 <| .c 3 <| .c 4 <| .c 5 <| .a (.l 0) <| .l 1) rfl p hp),
    al, t9, (al, listOf #[] n) :: REST, [(al, listOf #[] n)], n, rfl, ledSep [_, _, _, _, _, _] [_, _] (.c 1 <| .c 2 <| .c 3 <| .c 4 <| .c 5 <| .a (.l 0) <| .c 0 <| .l 1) (.c 0 <| .c 1 <| .c 2 <| .c 3 <| .c 4 <| .c 5 <| .a (.l 0) <| .l 1) rfl S, rfl, by rw [ha]; exact .head _⟩
end
section
variable {prog : Program} {w : World} {G : GA} {kv : Str → List Value} {fx : Led} {x : PR} {R : Led} {n i : Nat} {m : Str → Option Value} {g h : Heap} {L : Addr} {t la D a d al li : Addr} {lo od : Obj} {bef : Value} {ex : Led} {lk : Nat} {v1 : Value} {ti : Tok}
  {t0 t1 t2 t3 t4 t5 t6 t7 t8 t9 t10 t11 t12 : Tok} {zs : List IT} {yp yp' : IT} {REST R2 : Led}
theorem blJ_firstR2 (hS : (x.us, listOf (strV x.uv).toArray x.un) :: R = REST) (hR : R2 = ex ++ REST) (F : Fr g L h m) (hi : i = 0) (hn : n = x.its.length + 2 - i)
    (N : News g L h ((t, tupO (dotV x.its i (.str (Str.ofString ".") t12)) 0) :: (la, lo) :: (D, od) :: (a, instObj 135 d) :: (d, dictOf (newE w x i t la al bef t0 t1 t2 t3 t4 t5 t6 t7 t8 t9 t10) 9) :: (li, listOf #[.ref a] lk) :: (x.dp, prodD w x v1 (.ref a) (stOf x)) :: (x.p, instObj 100 x.dp) :: (x.tup, tupO (strV x.its) 0) :: R2))
    (hsep : Sep ((t, tupO (dotV x.its i (.str (Str.ofString ".") t12)) 0) :: (la, lo) :: (D, od) :: (a, instObj 135 d) :: (d, dictOf (newE w x i t la al bef t0 t1 t2 t3 t4 t5 t6 t7 t8 t9 t10) 9) :: (li, listOf #[.ref a] lk) :: (x.dp, prodD w x v1 (.ref a) (stOf x)) :: (x.p, instObj 100 x.dp) :: (x.tup, tupO (strV x.its) 0) :: R2))
    (hm : OvOK m (blM G x (.ref a) (i + 1) ti li)) (haft : ∃ n, (al, listOf (afterAt kv x i).toArray n) ∈ ex ++ fx)
    (los : lo.IsDictOf (PySem.strKind prog w) []) (loi : lo.IsDictOf (PySem.intKind prog w) []) (lol : (la == sysModules) = false) :
    ∃ n' nws', n' < n ∧ News g L h nws' ∧ BLJ prog w G kv fx x R n' m nws' := by
  subst hR
  exact blJ_firstR hS (ex := ex) F hi hn (News.perm N fun p hp => ledIn [_, _, _, _, _, _, _, _, _] [_, _] (.a (.l 0) <| .c 0 <| .c 1 <| .c 2 <| .c 3 <| .c 4 <| .c 5 <| .c 6 <| .c 7 <| .c 8 <| .l 1) (.c 0 <| .c 1 <| .c 2 <| .c 3 <| .c 4 <| .c 5 <| .c 6 <| .c 7 <| .c 8 <| .a (.l 0) <| .l 1) rfl p hp)
    (ledSep [_, _, _, _, _, _, _, _, _] [_, _] (.a (.l 0) <| .c 0 <| .c 1 <| .c 2 <| .c 3 <| .c 4 <| .c 5 <| .c 6 <| .c 7 <| .c 8 <| .l 1) (.c 0 <| .c 1 <| .c 2 <| .c 3 <| .c 4 <| .c 5 <| .c 6 <| .c 7 <| .c 8 <| .a (.l 0) <| .l 1) rfl hsep) hm haft los loi lol
theorem blJ_nextR2 (hS : (x.us, listOf (strV x.uv).toArray x.un) :: (yp.ex ++ chainL w x (.ref yp.a) 0 zs ++ R) = REST) (hR : R2 = ex ++ REST) (F : Fr g L h m) (hys : (zs ++ [yp]).length = i) (hi : i ≤ x.its.length) (hn : n = x.its.length + 2 - i) (hok : ∀ j y, (zs ++ [yp])[j]? = some y → ItOK prog w kv x fx j y)
    (N : News g L h ((t, tupO (dotV x.its i (.str (Str.ofString ".") t12)) 0) :: (la, lo) :: (D, od) :: (a, instObj 135 d) :: (d, dictOf (newE w x i t la al bef t0 t1 t2 t3 t4 t5 t6 t7 t8 t9 t10) 9) :: (li, listOf ((itsOf (zs ++ [yp])).push (.ref a)) lk) ::
      closeL w x zs.length yp' (.ref a) ((x.dp, prodD w x v1 (headRef .none (zs ++ [yp])) (stOf x)) :: (x.p, instObj 100 x.dp) :: (x.tup, tupO (strV x.its) 0) :: R2))) (hy' : yp' = yp.set t11)
    (hsep : Sep ((t, tupO (dotV x.its i (.str (Str.ofString ".") t12)) 0) :: (la, lo) :: (D, od) :: (a, instObj 135 d) :: (d, dictOf (newE w x i t la al bef t0 t1 t2 t3 t4 t5 t6 t7 t8 t9 t10) 9) :: (li, listOf ((itsOf (zs ++ [yp])).push (.ref a)) lk) ::
      closeL w x zs.length yp' (.ref a) ((x.dp, prodD w x v1 (headRef .none (zs ++ [yp])) (stOf x)) :: (x.p, instObj 100 x.dp) :: (x.tup, tupO (strV x.its) 0) :: R2)))
    (hm : OvOK m (blM G x (.ref a) (i + 1) ti li)) (hbef : (strV x.its)[i - 1]? = some bef) (haft : ∃ n, (al, listOf (afterAt kv x i).toArray n) ∈ ex ++ fx)
    (los : lo.IsDictOf (PySem.strKind prog w) []) (loi : lo.IsDictOf (PySem.intKind prog w) []) (lol : (la == sysModules) = false) :
    ∃ n' nws', n' < n ∧ News g L h nws' ∧ BLJ prog w G kv fx x R n' m nws' := by
  subst hR
  exact blJ_nextR hS (ex := ex) F hys hi hn hok (News.perm N fun p hp => ledIn [_, _, _, _, _, _, _, _, _, _, _, _, _] [_, _] (.a (.l 0) <| .c 0 <| .c 1 <| .c 2 <| .c 3 <| .c 4 <| .c 5 <| .c 6 <| .c 7 <| .c 8 <| .c 9 <| .c 10 <| .c 11 <| .c 12 <| .l 1) (.c 0 <| .c 1 <| .c 2 <| .c 3 <| .c 4 <| .c 5 <| .c 6 <| .c 7 <| .c 8 <| .c 9 <| .c 10 <| .c 11 <| .c 12 <| .a (.l 0) <| .l 1) rfl p hp) hy'
    (ledSep [_, _, _, _, _, _, _, _, _, _, _, _, _] [_, _] (.a (.l 0) <| .c 0 <| .c 1 <| .c 2 <| .c 3 <| .c 4 <| .c 5 <| .c 6 <| .c 7 <| .c 8 <| .c 9 <| .c 10 <| .c 11 <| .c 12 <| .l 1) (.c 0 <| .c 1 <| .c 2 <| .c 3 <| .c 4 <| .c 5 <| .c 6 <| .c 7 <| .c 8 <| .c 9 <| .c 10 <| .c 11 <| .c 12 <| .a (.l 0) <| .l 1) rfl hsep) hm hbef haft los loi lol
end
section
set_option maxHeartbeats 40000000 in
theorem build_spec (prog : Program) (w : World) (G : GA) (vs : List (PR × Value × Value)) (np : Nat) (kv : Str → List Value) (kvs : List (Str × Value)) (pno : Obj) (fx : Led)
   (h1 : (G.g, instObj 283 G.dg) ∈ fx) (h2 : (G.dg, gramD w G) ∈ fx) (h3 : (G.lp, listOf (vs.map fun y => Value.ref y.1.p).toArray np) ∈ fx) (h4 : (G.pn, pno) ∈ fx) (hp : pno.IsDictOf (PySem.strKind prog w) kvs)
   (hlo : (G.pn == sysModules) = false) (hlen : ∀ y ∈ vs, y.1.its.length ≤ 3)
   (hk : ∀ y ∈ vs, ∀ s ∈ y.1.syms, (valueAt kvs s = none ∧ kv s = []) ∨ ∃ al n, valueAt kvs s = some (.ref al) ∧ (al, listOf (kv s).toArray n) ∈ fx)
   (hs : Sep (fx ++ looseL w vs)) :
    Does0 prog w 400 400 280 [.ref G.g] (fx ++ looseL w vs) (fun r news' => ∃ bs : List BR, bs.map BR.x = vs.map (·.1) ∧ news' = fx ++ builtL w bs ∧ Sep news' ∧ ∀ b ∈ bs, b.ys.length = b.x.its.length + 1 ∧ ∀ j y, b.ys[j]? = some y → ItOK prog w kv b.x fx j y) := by
  k_with_none
  k_with "o" => (first | (with_reducible first | assumption | (show (_ : Nat) ≤ _; first | exact Nat.le_of_ble_eq_true rfl | exact Nat.zero_le _ | exact Nat.le_of_lt ‹_› | exact Nat.le_of_eq ‹_› | exact oM ‹_› | exact oL ‹_› | exact oJ | exact oK | exact qE ‹_› | exact qG ‹_› | exact oS ‹_› rfl | exact oSE ‹_› ‹_› rfl | exact oA ‹_› rfl | exact oB ‹_› rfl | exact oG ‹_› rfl | exact oE ‹_› ‹_› rfl | exact oF ‹_› ‹_› rfl | exact oH ‹_› ‹_› rfl | exact oI ‹_› ‹_› rfl | exact oQ ‹_› ‹_› rfl | exact oQ3 ‹_› ‹_› ‹_› rfl | exact xE ‹_› ‹_› rfl | exact xA ‹_› | exact xB ‹_› | exact xH ‹_› | exact xF ‹_› | exact xG ‹_› | exact xL ‹_› | exact xC ‹_› ‹_› ‹_› ‹_› rfl | exact xD ‹_› ‹_› ‹_› ‹_› ‹_› rfl | exact xK ‹_› rfl | exact xJ ‹_› ‹_› rfl | exact xI ‹_› ‹_› ‹_› rfl | exact wA ‹_› ‹_› ‹_› rfl | exact wB ‹_› ‹_› ‹_› rfl | exact yC ‹_› ‹_› ‹_› rfl | exact yE ‹_› | exact uB ‹_› ‹_› rfl | exact uF ‹_› | exact uM | exact uN | exact uO | exact uU ‹_› | exact uW ‹_› ‹_› | exact uX ‹_› ‹_› ‹_› rfl | exact uZ ‹_› ‹_› ‹_› rfl | exact vC ‹_› ‹_› rfl | exact vD ‹_› | exact vI | exact vJ | exact vL ‹_› | exact vN ‹_› ‹_› ‹_› rfl | exact vO ‹_› ‹_› ‹_› ‹_› ‹_› rfl | exact vP ‹_› ‹_› ‹_› rfl | exact vQ ‹_› ‹_› | exact vR ‹_› ‹_› ‹_› rfl | exact vT | exact Nat.min_le_left _ _ | exact Nat.le_trans ‹_› ‹_› | exact Nat.le_add_left _ _ | exact wC ‹_› ‹_› rfl | exact wI ‹_› ‹_› rfl | exact wG ‹_› ‹_› ‹_› rfl | exact wF ‹_› ‹_› ‹_›) | (show (_ : Nat) < _; first | exact Nat.le_of_ble_eq_true rfl | exact Nat.lt_succ_self _ | exact pA ‹_› rfl | exact pB ‹_› rfl | exact pG ‹_› rfl | exact pE ‹_› ‹_› rfl | exact pF ‹_› ‹_› rfl | exact pH ‹_› ‹_› rfl | exact pI ‹_› ‹_› rfl | exact pS ‹_› rfl | exact pSE ‹_› ‹_› rfl | exact qA ‹_› | exact qD ‹_› | exact qB ‹_› ‹_› | exact qC ‹_› | exact Nat.lt_of_le_of_ne ‹_› ‹_› | exact uC ‹_› ‹_› | exact uD ‹_› | exact uE ‹_› | exact uY ‹_› ‹_› | exact vG ‹_› ‹_› rfl | exact vH ‹_› | exact vK ‹_› ‹_› | exact qF ‹_› | exact zA ‹_› ‹_› | exact wK ‹_› | exact wH ‹_› rfl | exact wD ‹_› ‹_› ‹_› rfl | exact wE ‹_› ‹_› ‹_›) | (show (_ : Nat) = _; first | exact yA ‹_› | exact yB ‹_› | exact yD ‹_› | exact yS ‹_› | exact Nat.sub_add_comm ‹_› | exact Nat.add_sub_cancel' ‹_› | exact uV ‹_› | exact uJ | exact uK | exact uL | exact uP | exact uQ | exact uR | exact vE ‹_› ‹_› | exact zB | exact oZ) | (show ((_ : Nat) : Int) < 2 ^ 63; first | exact iA ‹_› rfl | exact iB ‹_› rfl | exact iE ‹_› ‹_› rfl | exact iI ‹_› ‹_› rfl) | (show ((_ : Nat) : Int) < 2 ^ 62; first | exact jA ‹_› rfl | exact jB ‹_› rfl | exact jE ‹_› ‹_› rfl) | (show ((_ : Nat) : Int) + 1 < 2 ^ 63; first | exact rA ‹_› rfl | exact rE ‹_› ‹_› rfl | exact rF ‹_› ‹_› rfl) | exact rT ‹_› ‹_› rfl | exact rM | exact rN | exact Int.natCast_nonneg _ | exact iM | exact jM | exact iP ‹_› | exact uS ‹_› | exact uT ‹_› | exact vF ‹_› | exact vM ‹_› | exact vS ‹_› | exact yF ‹_› | exact yT ‹_› | exact iS | exact iZ | exact iD ‹_› | exact iV) | omega)
  k_with "a" => (with_reducible assumption)
  k_with "kxs_still" => (((try dsimp only); (try (refine execs_gen ?_; intro zqt9)); (try k_fold); (try k_extra "bits_by_make")))
  k_with "bits_by_make" => ((try (rename Fr _ _ _ _ => zqF9; (fail_if_success (refine onlyM zqF9 ?_; goal_lacks ite List.lookup)); refine letF zqF9 ?_; clear zqF9; intro zqm9 zqF9)))
  k_with "cell_call" => (first | k_extra "a" | (refine List.mem_cons_of_mem _ ?_; k_extra "cell_call"))
  k_with "tb_start" => ((refine neN ?_; (try dsimp only); first | exact NeA.to (by k_extra "a") | exact NeA.to' (by k_extra "a") | (refine' ne_pos (by k_extra "a") (by k_extra "po")  ) | (refine' ne_pos' (by k_extra "a") (by k_extra "po")  ) | (refine' lt_pos (by k_extra "a") (by k_extra "po")  ) | (refine' lt_pos' (by k_extra "a") (by k_extra "po")  ) | exact Nat.ne_of_lt (by k_extra "a") | exact Nat.ne_of_gt (by k_extra "a") | (refine' lt_up (by k_extra "a") (by k_extra "a") (by k_extra "po")  ) | (refine' lt_up' (by k_extra "a") (by k_extra "a") (by k_extra "po")  ) | omega))
  k_with "tb_rel" => (first | (tbn_letter; first | k_extra "a" | (refine' lt_suf (by k_extra "a") (by k_extra "su")  ) | (refine' ne_suf (by k_extra "a") (by k_extra "su")  ) | (refine' lt_sufU (by k_extra "a") (by k_extra "a") (by k_extra "su")  ) | (refine tbn_neAll ?_; tbn_find) | (refine' tbn_neAll (allLt_up (by tbn_find) (by k_extra "o"))  )) | exact List.forall_mem_nil _ | (refine' lt_suf (by k_extra "a") (by exact Suf.refl)  ) | (refine' ne_suf (by k_extra "a") (by exact Suf.refl)  ) | exact lt_same (by k_extra "a") (by rfl) | (refine List.forall_mem_cons.mpr ⟨?_, ?_⟩; (focus k_extra "tb_start"); k_extra "tb_rel"))
  k_with "k_upd" => (first | (refine Upd.head ?_; k_extra "tb_rel") | (apply Upd.tail; (focus k_extra "tb_start"); k_upd))
  k_with "k_updF" => (first | (refine UpdF.head ?_; k_extra "tb_rel") | (apply UpdF.tail; (focus k_extra "tb_start"); k_updF))
  k_with "execs cons" => ((k_extra "kxs_still"; refine wpAny_execs_cons ?_))
  k_with "po" => (first | exact PosA.head | (refine PosA.tail ?_; k_extra "po"))
  k_with "su" => (first | exact Suf.refl | (refine Suf.tail ?_; k_extra "su"))
  k_with "call builtin:list.insert" => ((k_here; k_dflt (refine' kl_insert (by k_asm) (by k_asm) (by exact fits_small (by k_extra "o")) (by exact ins_strV (by assumption)) (by k_upd) (by exact len_strV_small (by k_extra "o")) ?_  ); kl_rest))
  k_with "call type:tuple" => ((k_here; (with_reducible show wpAny _ _ (call (Value.type _) [Value.ref _]) _ _ _); k_dflt (refine' kde_tupleOf (by k_asm) (by k_asm) (by exact News.isList (by k_asm) (by k_mem)) (by exact size_dotV (by assumption) (by k_extra "o")) (by rfl) ?_; k_whole); intro zqD' zqh' zqF' zqN' zql1; (try k_lt zql1); (try k_sweep)))
  k_with "call builtin:len" => ((k_here; (with_reducible show wpAny _ _ (call (Value.builtin _) [Value.ref _]) _ _ _); k_dflt (refine' len_tup_led (by k_asm) (by k_mem) (by first | exact dotV_length (by assumption) | exact strV_length _) (by k_extra "o") ?_; k_whole)))
  k_with "enter0" => (k_dflt (refine' code0 (by k_asm) (by k_asm) (by k_asm) (by k_asm) (by k_asm) (by exact rfl) (by exact rfl) (by assumption) (by k_is) (by k_is) (by k_room) (by first | exact BindsTo.of_eq rfl | exact binds_K (by k_in) rfl (by k_is) rfl rfl rfl | fail "enter0") (by exact locs rfl) ?_ (by exact rfl) (by exact rfl) (by exact rfl) (by decide); k_whole; intro zqg' zqL' zqh' zqFG' zqF' zqN' zqB' zqX' zqT' zqD'; (try dsimp only); (try k_lift zqB'); (try k_fold)))
  k_with "call type:list" => ((k_here; (with_reducible show wpAny _ _ (call (Value.type _) [Value.ref _]) _ _ _); k_dflt (refine' list_strs (by k_asm) (by k_asm) (by k_mem) (by k_extra "o") ?_; k_whole); intro zqD' zqc' zqh' zqF' zqN' zql1; (try k_lt zql1); (try k_sweep)))
  k_with "subscriptTail" => ((k_here; (with_reducible show wpAny _ _ (subscriptTail _ _ (Value.ref _) (Value.int _ _)) _ _ _); k_dflt (refine' item_pickAny (by k_asm) (by k_mem) (by k_asm) ?_; k_whole); intro zqv'))
  k_with "subscriptTail" => ((k_here; (with_reducible show wpAny _ _ (subscriptTail _ _ (Value.ref _) (Value.int _ _)) _ _ _); k_dflt (refine' item_nopick (by rfl) (by k_asm) (by k_mem) (by first | k_asm | exact NoPickDot.at (by k_asm)) ?_; k_whole); intro zqh' zqtk' zqe' zqx'))
  k_with "subscriptTail" => ((k_here; (with_reducible show wpAny _ _ (subscriptTail _ _ (Value.ref _) (Value.int _ _)) _ _ _); k_dflt (refine' item_pick (by k_asm) (by k_mem) (by first | k_asm | exact PickDot.at (by k_asm)) ?_; k_whole)))
  k_with "subscriptTail" => ((k_here; (with_reducible show wpAny _ _ (subscriptTail _ _ (Value.ref _) (Value.str _ _)) _ _ _); k_dflt (refine' dict_missing (knd := PySem.strKind _ _) (by k_asm) (by k_mem) (by k_asm) (by k_asm) (by rfl) (strKind_is _ _ _ _) (by k_asm) ?_; k_whole); intro zqh' zqe' zqx'))
  k_with "subscriptTail" => ((k_here; (with_reducible show wpAny _ _ (subscriptTail _ _ (Value.ref _) (Value.str _ _)) _ _ _); k_dflt (refine' kda_item (knd := PySem.strKind _ _) (by k_asm) (by k_mem) (by k_asm) (strKind_is _ _ _ _) (by k_asm) ?_; k_whole)))
  k_with "noteFrame ref" => ((k_here; (rename Heap.NewExc _ _ _ _ => zqneX); k_dflt (refine' here_hit (by assumption) (BornExc.ofNew zqneX) (by assumption) (by assumption) (by assumption) (by assumption) (by assumption) (by first | assumption | exact KtsTurn.refl) (by kts_test) ?_ (by rfl) (by passes_own); k_whole); clear zqneX; intro zqh' zqg' zqT' zqF' zqN' zqK' zqX' zqP' zqD'; (try k_sweep)))
  k_with "call builtin:list.append" => ((k_here; (with_reducible show wpAny _ _ (call (Value.builtin _) [Value.ref _, _]) _ _ _); k_dflt (refine' append_K (by k_asm) (by k_asm) (by k_upd) ?_ (by k_extra "a"); k_whole); intro zqh' zqF' zqN'; (try k_sweep)))
  k_with "call type:tuple" => ((k_here; (with_reducible show wpAny _ _ (call (Value.type _) [Value.ref _]) _ _ _); k_dflt (refine' kde_tupleOf (by k_asm) (by k_asm) (by exact News.isList (by k_asm) (by k_mem)) (by exact size_strV (by k_extra "o")) (by rfl) ?_; k_whole); intro zqD' zqh' zqF' zqN' zql1; (try k_lt zql1); (try k_sweep)))
  k_with "setAttr ref" => (((try dsimp only); (with_reducible show wpAny _ _ (setAttr (Value.ref _) _ (Value.int _ ((_ : Nat) + _))) _ _ (Shared.mk _ _ _ _ _)); refine set_genI ?_; intro zqu9 zqt9))
  k_with "setAttr ref" => (((try dsimp only); (with_reducible show wpAny _ _ (setAttr _ _ _) _ _ (Shared.mk _ _ _ ((_ : Nat) + _) _)); refine wp_gen ?_; intro zqt9))
  k_with "eval Attribute Name" => ((k_here; k_dflt (refine' attr_own (by k_asm) (by rfl) (by k_asm) (by k_inst) (by k_is) (by k_is) (by k_is) (by k_is) (by k_get) (by k_handed) ?_ (by rfl) (by rfl); k_whole)))
  k_with "exec For Name Attribute cons nil" => (with_unfolding_all refine wpAny_For ?_)
  k_with "exec While" => (refine halt ?_)
  k_with "subscriptTail" => (((with_reducible rename StopHere => zqstopX); (with_reducible show wpAny _ _ (subscriptTail _ _ (Value.ref _) (Value.int _ _)) _ _ _); clear zqstopX; refine halt ?_))
  k_with "exec Try" => (((with_reducible rename StopLen => zqstopX); clear zqstopX; refine halt ?_))
  intro mean mg mb cn cs a ccd cl A₀ h₀ L m s Q E B F X N T hk0 hret
  refine wpAny_call ?_
  walk_at "enter0"
  refine wpAny_noRaise ?_
  k_steps
  rename Fr _ _ _ _ => F1
  rename News _ _ _ _ => N1
  rename Below _ _ _ _ => B1
  rename KtsDicts _ _ => D1
  rename Top _ _ _ _ _ _ => T1
  rename Frag.In _ _ => X1
  rename Fr h₀ _ _ _ => FG
  refine' for_S (fun i m nws => OvOK m [(S_ "self", some (.ref G.g))] ∧ ∃ bs : List BR, bs.map BR.x = (vs.take i).map (·.1) ∧ nws = fx ++ builtL w bs ++ looseL w (vs.drop i) ∧ Sep nws ∧ ∀ b ∈ bs, b.ys.length = b.x.its.length + 1 ∧ ∀ j y, b.ys[j]? = some y → ItOK prog w kv b.x fx j y) ?hx ?hp ?hh ?st ?hm ?hJ ?turn ?done
  case st => exact AtS.intro (mean := mean) KtsTurn.refl B1 X1 T1 D1 F1 N1
  case hx => rfl
  case hp => rfl
  case hh => rfl
  case hm => exact List.mem_append_left _ h3
  case hJ => exact (yE0A2 ⟨rfl, trivial⟩ (yE1A3 ([]) rfl (by simp [builtL]) ⟨hs, fun _ h => nomatch h⟩))
  case turn =>
    intro j0 v I it g m₁ nws₁ h tk hv z5q z6q hic hmem hoff F2 N2; obtain ⟨gT, gB, gX, gP, gD⟩ := z5q; refine xE0A2 z6q ?_; (try clear z6q); intro hov z8q; refine xE1A4 z8q ?_; (try clear z8q); intro bs hbs z7q hsep hok; obtain rfl := z7q
    clear F1 N1 B1 D1 T1 X1 FG
    refine xE1A1 (List.getElem?_eq_some_iff.mp hv) fun hi hv => ?_
    rw [List.length_map] at hi
    have z9q : ∃ y, vs[j0]? = some y := ⟨_, List.getElem?_eq_getElem hi⟩; refine xE1A1 z9q ?_; (try clear z9q); intro z10q hy; obtain ⟨x, v1, v2⟩ := z10q
    have hL : x.its.length ≤ 3 := hlen _ (List.mem_of_getElem? hy)
    have hvx : v = .ref x.p := by
      rw [← hv, List.getElem_map]
      rw [List.getElem?_eq_getElem hi] at hy
      rw [Option.some.inj hy]
    subst hvx
    have hsy := hk _ (List.mem_of_getElem? hy)
    have hd : vs.drop j0 = (x, v1, v2) :: vs.drop (j0 + 1) := by
      rw [List.drop_eq_getElem_cons hi]
      rw [List.getElem?_eq_getElem hi] at hy
      rw [Option.some.inj hy]
    have ht : vs.take (j0 + 1) = vs.take j0 ++ [(x, v1, v2)] := by
      rw [List.take_succ_eq_append_getElem hi]
      rw [List.getElem?_eq_getElem hi] at hy
      rw [Option.some.inj hy]
    rw [hd] at N2 hsep hoff
    have F3 := overF (l := [(S_ "self", some (.ref G.g)), (S_ "p", some (.ref x.p))]) F2 ⟨hov.1, rfl, trivial⟩
    dsimp only [over] at F3
    have N3 := News.perm (news' := prL w x v1 v2 ((I, it) :: (fx ++ builtL w bs ++ looseL w (vs.drop (j0 + 1))))) N2 (by
      intro p hp
      exact ledIn [_, _, _, _, _] [_, _, _] (.c 1 <| .c 2 <| .c 3 <| .c 4 <| .c 0 <| .a (.a (.l 0) <| .l 1) <| .l 2) (.c 0 <| .a (.a (.l 0) <| .l 1) <| .c 1 <| .c 2 <| .c 3 <| .c 4 <| .l 2) rfl _ hp)
    have hsep3 : Sep (prL w x v1 v2 ((I, it) :: (fx ++ builtL w bs ++ looseL w (vs.drop (j0 + 1))))) := by
      refine Sep.sub (Sep.cons (p := (I, it)) hoff hsep) fun k => ?_
      exact ledCnt [_, _, _, _, _] [_, _, _] (.c 1 <| .c 2 <| .c 3 <| .c 4 <| .c 0 <| .a (.a (.l 0) <| .l 1) <| .l 2) (.c 0 <| .a (.a (.l 0) <| .l 1) <| .c 1 <| .c 2 <| .c 3 <| .c 4 <| .l 2) rfl k
    have hR : ∃ R, ((I, it) :: (fx ++ builtL w bs ++ looseL w (vs.drop (j0 + 1)))) = R := ⟨_, rfl⟩
    refine xE1A1 hR ?_; (try clear hR); intro R hR
    rw [hR] at N3 hsep3
    have hfR : ∀ q ∈ fx, q ∈ R := fun q hq => by rw [← hR]; exact List.Mem.tail _ (List.mem_append_left _ (List.mem_append_left _ hq))
    clear F2 N2 hsep hoff hmem
    k_steps
    rename Fr _ _ _ _ => F4
    rename News _ _ _ _ => N4
    refine' while_S (n₀ := x.its.length + 2) (BLJ prog w G kv fx x R) ?st ?hJ ?turn
    case st => exact AtS.intro (mean := mean) (by assumption) (by assumption) (by assumption) (by assumption) (by assumption) F4 N4
    case hJ => exact (yE5A6 (0) _ ([]) _ _ rfl (Nat.zero_le _) rfl (Sep.cons (by k_all) hsep3) (fun j y h => by cases h) (.inl ⟨rfl, ⟨rfl, rfl, rfl, rfl, rfl, trivial⟩, _, _, rfl⟩))
    case turn =>
      intro n g m₁ nws₁ h tk z11q F5 N5 z12q; obtain ⟨gT, gB, gX, gP, gD⟩ := z11q; refine xE5A6 z12q ?_; (try clear z12q); intro i ti ys li lk hn hi hys hsep hok1 hc
      focus (refine xO2 (hc) ?_ ?_; (try clear hc); intro w1q; refine xE0A3 w1q ?_; (try clear w1q); intro w3q hov w5q; refine xE2A1 w5q ?_; (try clear w5q); intro v1 v2 w4q; obtain rfl := w3q; obtain rfl := w4q; rotate_left 1; (try clear hc); intro w2q; refine xE3A3 w2q ?_; (try clear w2q); intro zs y v1 w6q hov w7q; obtain rfl := w6q; obtain rfl := w7q; rotate_left 1)
      · have hi : i ≤ x.its.length := by rw [← hys]; exact Nat.zero_le _
        have F6 := overF F5 hov
        dsimp only [over, blM] at F6
        clear F5
        have N6 : News _ _ _ ((li, listOf #[] lk) :: (x.dp, prodD w x v1 v2 (stOf x)) :: (x.p, instObj 100 x.dp) :: (x.tup, tupO (strV x.its) 0) :: (x.us, listOf (strV x.uv).toArray x.un) :: R) := N5
        have hsep' : Sep ((li, listOf #[] lk) :: (x.dp, prodD w x v1 v2 (stOf x)) :: (x.p, instObj 100 x.dp) :: (x.tup, tupO (strV x.its) 0) :: (x.us, listOf (strV x.uv).toArray x.un) :: R) := hsep
        clear N5 hsep
        have hS : ∃ REST, (x.us, listOf (strV x.uv).toArray x.un) :: R = REST := ⟨_, rfl⟩
        refine xE1A1 hS ?_; (try clear hS); intro REST hS
        have hfR' : ∀ q ∈ fx, q ∈ REST := fun q hq => by rw [← hS]; exact List.mem_cons_of_mem _ (hfR q hq)
        rw [hS] at N6 hsep'
        have m1 := hfR' _ h1
        have m2 := hfR' _ h2
        have m3 := hfR' _ h4
        have n1 := allNe_of hsep'.ne
        have n2 := allNe_of hsep'.tail.ne
        have r1 : ∀ q ∈ REST, q.1 ≠ li := fun q hq => hsep'.ne q (List.mem_cons_of_mem _ (List.mem_cons_of_mem _ (List.mem_cons_of_mem _ hq)))
        have r2 : ∀ q ∈ REST, q.1 ≠ x.dp := fun q hq => hsep'.tail.ne q (List.mem_cons_of_mem _ (List.mem_cons_of_mem _ hq))
        have hpa := pickAny_last hys.symm hL
        have stopX := stopLen
        k_steps
        unfold Halt
        rename Fr _ _ _ _ => F8
        rename News _ _ _ _ => N8
        refine' cut_try kv fx [(li, listOf #[] lk), (x.dp, prodD w x v1 v2 (stOf x)), (x.p, instObj 100 x.dp), (x.tup, tupO (strV x.its) 0)] REST ⟨gT, gB, gX, gP, gD⟩ F8 N8 ?cut1 ?rest1
        case cut1 =>
          have stopX := stopHere
          k_steps
          unfold Halt
          by_cases hiL : i = x.its.length
          · have hnp := noPickDot_next hiL hL
            have ha : afterAt kv x i = [] := by unfold afterAt; rw [hiL, List.getElem?_eq_none (Nat.le_refl _)]
            k_steps
            rename Fr _ _ _ _ => F9
            rename News _ _ _ _ => N9
            rename Below _ _ _ _ => B9
            rename KtsDicts _ _ => D9
            rename Top _ _ _ _ _ _ => T9
            rename Frag.In _ _ => X9
            rename KtsTurn _ _ _ => W9
            refine' CutT.caught W9 B9 X9 T9 D9 F9 ?NN11 ?SS11 ha
            case NN11 => exact N9
            case SS11 =>
              (refine' Sep.put ?s1 (Sep.put ?s2 (Sep.put ?s3 (Sep.put ?s4 (Sep.put ?s5 (Sep.put ?s6 hsep'))))); (case s1 => first | exact lt_same (by with_reducible assumption) (by rfl) | k_extra "tb_rel"); (case s2 => first | exact lt_same (by with_reducible assumption) (by rfl) | k_extra "tb_rel"); (case s3 => first | exact lt_same (by with_reducible assumption) (by rfl) | k_extra "tb_rel"); (case s4 => first | exact lt_same (by with_reducible assumption) (by rfl) | k_extra "tb_rel"); (case s5 => first | exact lt_same (by with_reducible assumption) (by rfl) | k_extra "tb_rel"); (case s6 => first | exact lt_same (by with_reducible assumption) (by rfl) | k_extra "tb_rel"))
          · have z13q : ∃ p, x.its[i]? = some p := ⟨_, List.getElem?_eq_getElem (by k_extra "o")⟩; refine xE1A1 z13q ?_; (try clear z13q); intro z14q hsi; obtain ⟨sy, ts⟩ := z14q
            have hnx := pickDot_next hsi hL
            have ha : afterAt kv x i = kv sy := by unfold afterAt; rw [hsi]
            focus (refine xO2 (hsy sy (List.mem_map_of_mem (List.mem_of_getElem? hsi))) ?_ ?_; intro w8q; refine xE0A2 w8q ?_; (try clear w8q); intro hv0 hkv; rotate_left 1; intro w9q; refine xE2A2 w9q ?_; (try clear w9q); intro al nal hv0 hal; rotate_left 1)
            · rw [hkv] at ha
              k_steps
              rename Fr _ _ _ _ => F9
              rename News _ _ _ _ => N9
              rename Below _ _ _ _ => B9
              rename KtsDicts _ _ => D9
              rename Top _ _ _ _ _ _ => T9
              rename Frag.In _ _ => X9
              rename KtsTurn _ _ _ => W9
              refine' CutT.caught W9 B9 X9 T9 D9 F9 ?NN12 ?SS12 ha
              case NN12 => exact N9
              case SS12 =>
                (refine' Sep.put ?s1 (Sep.put ?s2 (Sep.put ?s3 (Sep.put ?s4 (Sep.put ?s5 (Sep.put ?s6 hsep'))))); (case s1 => first | exact lt_same (by with_reducible assumption) (by rfl) | k_extra "tb_rel"); (case s2 => first | exact lt_same (by with_reducible assumption) (by rfl) | k_extra "tb_rel"); (case s3 => first | exact lt_same (by with_reducible assumption) (by rfl) | k_extra "tb_rel"); (case s4 => first | exact lt_same (by with_reducible assumption) (by rfl) | k_extra "tb_rel"); (case s5 => first | exact lt_same (by with_reducible assumption) (by rfl) | k_extra "tb_rel"); (case s6 => first | exact lt_same (by with_reducible assumption) (by rfl) | k_extra "tb_rel"))
            · rw [← ha] at hal
              k_steps
              rename Fr _ _ _ _ => F9
              rename News _ _ _ _ => N9
              refine' CutT.found gT gB gX gP gD F9 ?NN13 ?SS13 hal
              case NN13 => exact N9
              case SS13 =>
                (refine' Sep.put ?s2 (Sep.put ?s3 (Sep.put ?s4 (Sep.put ?s5 (Sep.put ?s6 hsep')))); (case s2 => first | exact lt_same (by with_reducible assumption) (by rfl) | k_extra "tb_rel"); (case s3 => first | exact lt_same (by with_reducible assumption) (by rfl) | k_extra "tb_rel"); (case s4 => first | exact lt_same (by with_reducible assumption) (by rfl) | k_extra "tb_rel"); (case s5 => first | exact lt_same (by with_reducible assumption) (by rfl) | k_extra "tb_rel"); (case s6 => first | exact lt_same (by with_reducible assumption) (by rfl) | k_extra "tb_rel"))
        case rest1 =>
          intro g h tk nws z15q F5 N5 z16q; obtain ⟨gT, gB, gX, gP, gD⟩ := z15q; refine xE5A4 z16q ?_; (try clear z16q); intro al t9 R2 ex nal z17q hsep2 hR2 haft; obtain rfl := z17q
          dsimp only [List.cons_append, List.nil_append] at N5 hsep2
          have n1 := allNe_of hsep2.ne
          have n2 := allNe_of hsep2.tail.ne
          have n3 := allNe_of hsep2.tail.tail.ne
          have n4 := allNe_of hsep2.tail.tail.tail.ne
          have n5 := allNe_of hsep2.tail.tail.tail.tail.ne
          have n6 := allNe_of hsep2.tail.tail.tail.tail.tail.ne
          have n7 := allNe_of hsep2.tail.tail.tail.tail.tail.tail.ne
          k_steps
          rename Fr _ _ _ _ => F9
          rename News _ _ _ _ => N9
          refine WhileS.nextOf gT gB gX gP gD F9 ?_
          refine' blJ_firstR2 hS hR2 F9 hys.symm hn ?NR1 ?SR1 ⟨rfl, rfl, rfl, rfl, rfl, trivial⟩ ⟨_, haft⟩ ?ca1 ?cb1 ?cc1
          case NR1 => exact N9
          case SR1 => exact hsep2
          case ca1 => assumption
          case cb1 => assumption
          case cc1 => assumption
      · have hl1 : zs.length + 1 = i := by rw [← hys]; simp
        have F6 := overF F5 hov
        dsimp only [over, blM] at F6
        clear F5
        have N6 : News _ _ _ ((li, listOf (itsOf (zs ++ [y])) lk) :: (y.d, dictOf (itemE w x zs.length y) 9) :: (y.a, instObj 135 y.d) :: (y.t, tupO (dotV x.its zs.length (.str (Str.ofString ".") (y.tk 12))) 0) :: (y.la, y.lo) ::
          (x.dp, prodD w x v1 (headRef .none (zs ++ [y])) (stOf x)) :: (x.p, instObj 100 x.dp) :: (x.tup, tupO (strV x.its) 0) :: (x.us, listOf (strV x.uv).toArray x.un) :: (y.ex ++ chainL w x (.ref y.a) 0 zs ++ R)) := N5
        have hsep' : Sep ((li, listOf (itsOf (zs ++ [y])) lk) :: (y.d, dictOf (itemE w x zs.length y) 9) :: (y.a, instObj 135 y.d) :: (y.t, tupO (dotV x.its zs.length (.str (Str.ofString ".") (y.tk 12))) 0) :: (y.la, y.lo) ::
          (x.dp, prodD w x v1 (headRef .none (zs ++ [y])) (stOf x)) :: (x.p, instObj 100 x.dp) :: (x.tup, tupO (strV x.its) 0) :: (x.us, listOf (strV x.uv).toArray x.un) :: (y.ex ++ chainL w x (.ref y.a) 0 zs ++ R)) := hsep
        clear N5 hsep
        have hS : ∃ REST, (x.us, listOf (strV x.uv).toArray x.un) :: (y.ex ++ chainL w x (.ref y.a) 0 zs ++ R) = REST := ⟨_, rfl⟩
        refine xE1A1 hS ?_; (try clear hS); intro REST hS
        have hfR' : ∀ q ∈ fx, q ∈ REST := fun q hq => by rw [← hS]; exact List.mem_cons_of_mem _ (List.mem_append_right _ (hfR q hq))
        rw [hS] at N6 hsep'
        have m1 := hfR' _ h1
        have m2 := hfR' _ h2
        have m3 := hfR' _ h4
        have n1 := allNe_of hsep'.ne
        have n2 := allNe_of hsep'.tail.ne
        have n3 := allNe_of hsep'.tail.tail.tail.tail.tail.ne
        have n4 := allNe_of hsep'.tail.tail.ne
        have n5 := allNe_of hsep'.tail.tail.tail.ne
        have n6 := allNe_of hsep'.tail.tail.tail.tail.ne
        have r1 : ∀ q ∈ REST, q.1 ≠ li := fun q hq => hsep'.ne q (by repeat (first | exact hq | apply List.Mem.tail))
        have r2 : ∀ q ∈ REST, q.1 ≠ y.d := fun q hq => hsep'.tail.ne q (by repeat (first | exact hq | apply List.Mem.tail))
        have r3 : ∀ q ∈ REST, q.1 ≠ x.dp := fun q hq => hsep'.tail.tail.tail.tail.tail.ne q (by repeat (first | exact hq | apply List.Mem.tail))
        have hsz : (itsOf (zs ++ [y])).size ≤ sizeLine := by
          rw [sizeLine_eq]
          unfold itsOf
          simp
          k_extra "o"
        by_cases hiX : i = x.its.length + 1
        · k_steps
          repeat (dsimp only [WhileS]; k_steps)
          rename Fr _ _ _ _ => F9
          rename News _ _ _ _ => N9
          have S9 := hsep'
          rw [← hS, ← hR] at N9 S9
          refine xE1A5 (blJ_exit (yp' := y.set _) N9 rfl (Sep.chg6 S9) hok1) fun b hbx hbl hbok Nb Sb => ?_
          refine (yE2A5 _ _ (AtS.intro gT gB gX gP gD F9 Nb) (Sb.ne) (List.mem_append_left _ (List.mem_append_left _ h3)) ⟨rfl, trivial⟩ (yE1A3 (bs ++ [b]) ?_ rfl ⟨Sb.tail, ?_⟩))
          · rw [ht]
            simp only [List.map_append, hbs, List.map_cons, List.map_nil, hbx]
          · intro b' hb'
            rcases List.mem_append.mp hb' with hb' | hb'
            · exact hok b' hb'
            · rw [List.mem_singleton.mp hb', hbx, hbl, hys]
              exact ⟨hiX, hbok⟩
        · have hi : i ≤ x.its.length := by k_extra "o"
          refine xE1A2 (pickDot_prev hi hL (by k_extra "o")) fun bef hbef hpk => ?_
          have stopX := stopLen
          k_steps
          unfold Halt
          rename Fr _ _ _ _ => F8
          rename News _ _ _ _ => N8
          refine' cut_try kv fx [(li, listOf (itsOf (zs ++ [y])) lk), (y.d, dictOf (itemE w x zs.length y) 9), (y.a, instObj 135 y.d), (y.t, tupO (dotV x.its zs.length (.str (Str.ofString ".") (y.tk 12))) 0), (y.la, y.lo), (x.dp, prodD w x v1 (headRef .none (zs ++ [y])) (stOf x)), (x.p, instObj 100 x.dp), (x.tup, tupO (strV x.its) 0)] REST ⟨gT, gB, gX, gP, gD⟩ F8 N8 ?cut2 ?rest2
          case cut2 =>
            have stopX := stopHere
            k_steps
            unfold Halt
            by_cases hiL : i = x.its.length
            · have hnp := noPickDot_next hiL hL
              have ha : afterAt kv x i = [] := by unfold afterAt; rw [hiL, List.getElem?_eq_none (Nat.le_refl _)]
              k_steps
              rename Fr _ _ _ _ => F9
              rename News _ _ _ _ => N9
              rename Below _ _ _ _ => B9
              rename KtsDicts _ _ => D9
              rename Top _ _ _ _ _ _ => T9
              rename Frag.In _ _ => X9
              rename KtsTurn _ _ _ => W9
              refine' CutT.caught W9 B9 X9 T9 D9 F9 ?NN21 ?SS21 ha
              case NN21 => exact N9
              case SS21 =>
                (refine' Sep.put ?s1 (Sep.put ?s2 (Sep.put ?s3 (Sep.put ?s4 (Sep.put ?s5 (Sep.put ?s6 hsep'))))); (case s1 => first | exact lt_same (by with_reducible assumption) (by rfl) | k_extra "tb_rel"); (case s2 => first | exact lt_same (by with_reducible assumption) (by rfl) | k_extra "tb_rel"); (case s3 => first | exact lt_same (by with_reducible assumption) (by rfl) | k_extra "tb_rel"); (case s4 => first | exact lt_same (by with_reducible assumption) (by rfl) | k_extra "tb_rel"); (case s5 => first | exact lt_same (by with_reducible assumption) (by rfl) | k_extra "tb_rel"); (case s6 => first | exact lt_same (by with_reducible assumption) (by rfl) | k_extra "tb_rel"))
            · have z18q : ∃ p, x.its[i]? = some p := ⟨_, List.getElem?_eq_getElem (by k_extra "o")⟩; refine xE1A1 z18q ?_; (try clear z18q); intro z19q hsi; obtain ⟨sy, ts⟩ := z19q
              have hnx := pickDot_next hsi hL
              have ha : afterAt kv x i = kv sy := by unfold afterAt; rw [hsi]
              focus (refine xO2 (hsy sy (List.mem_map_of_mem (List.mem_of_getElem? hsi))) ?_ ?_; intro w10q; refine xE0A2 w10q ?_; (try clear w10q); intro hv0 hkv; rotate_left 1; intro w11q; refine xE2A2 w11q ?_; (try clear w11q); intro al nal hv0 hal; rotate_left 1)
              · rw [hkv] at ha
                k_steps
                rename Fr _ _ _ _ => F9
                rename News _ _ _ _ => N9
                rename Below _ _ _ _ => B9
                rename KtsDicts _ _ => D9
                rename Top _ _ _ _ _ _ => T9
                rename Frag.In _ _ => X9
                rename KtsTurn _ _ _ => W9
                refine' CutT.caught W9 B9 X9 T9 D9 F9 ?NN22 ?SS22 ha
                case NN22 => exact N9
                case SS22 =>
                  (refine' Sep.put ?s1 (Sep.put ?s2 (Sep.put ?s3 (Sep.put ?s4 (Sep.put ?s5 (Sep.put ?s6 hsep'))))); (case s1 => first | exact lt_same (by with_reducible assumption) (by rfl) | k_extra "tb_rel"); (case s2 => first | exact lt_same (by with_reducible assumption) (by rfl) | k_extra "tb_rel"); (case s3 => first | exact lt_same (by with_reducible assumption) (by rfl) | k_extra "tb_rel"); (case s4 => first | exact lt_same (by with_reducible assumption) (by rfl) | k_extra "tb_rel"); (case s5 => first | exact lt_same (by with_reducible assumption) (by rfl) | k_extra "tb_rel"); (case s6 => first | exact lt_same (by with_reducible assumption) (by rfl) | k_extra "tb_rel"))
              · rw [← ha] at hal
                k_steps
                rename Fr _ _ _ _ => F9
                rename News _ _ _ _ => N9
                refine' CutT.found gT gB gX gP gD F9 ?NN23 ?SS23 hal
                case NN23 => exact N9
                case SS23 =>
                  (refine' Sep.put ?s2 (Sep.put ?s3 (Sep.put ?s4 (Sep.put ?s5 (Sep.put ?s6 hsep')))); (case s2 => first | exact lt_same (by with_reducible assumption) (by rfl) | k_extra "tb_rel"); (case s3 => first | exact lt_same (by with_reducible assumption) (by rfl) | k_extra "tb_rel"); (case s4 => first | exact lt_same (by with_reducible assumption) (by rfl) | k_extra "tb_rel"); (case s5 => first | exact lt_same (by with_reducible assumption) (by rfl) | k_extra "tb_rel"); (case s6 => first | exact lt_same (by with_reducible assumption) (by rfl) | k_extra "tb_rel"))
          case rest2 =>
            intro g h tk nws z20q F5 N5 z21q; obtain ⟨gT, gB, gX, gP, gD⟩ := z20q; refine xE5A4 z21q ?_; (try clear z21q); intro al t9 R2 ex nal z22q hsep2 hR2 haft; obtain rfl := z22q
            dsimp only [List.cons_append, List.nil_append] at N5 hsep2
            have n1 := allNe_of hsep2.ne
            have n2 := allNe_of hsep2.tail.ne
            have n3 := allNe_of hsep2.tail.tail.ne
            have n4 := allNe_of hsep2.tail.tail.tail.ne
            have n5 := allNe_of hsep2.tail.tail.tail.tail.ne
            have n6 := allNe_of hsep2.tail.tail.tail.tail.tail.ne
            have n7 := allNe_of hsep2.tail.tail.tail.tail.tail.tail.ne
            k_steps
            rename Fr _ _ _ _ => F9
            rename News _ _ _ _ => N9
            refine WhileS.nextOf gT gB gX gP gD F9 ?_
            refine' blJ_nextR2 hS hR2 (yp' := y.set _) F9 hys hi hn hok1 ?NR2 rfl ?SR2 ⟨rfl, rfl, rfl, rfl, rfl, trivial⟩ hbef ⟨_, haft⟩ ?ca2 ?cb2 ?cc2
            case NR2 => exact N9
            case SR2 => exact hsep2
            case ca2 => assumption
            case cb2 => assumption
            case cc2 => assumption
  case done =>
    intro g m₁ nws₁ h tk z23q z24q F2 N2; obtain ⟨gT, gB, gX, gP, gD⟩ := z23q; refine xE0A2 z24q ?_; (try clear z24q); intro hov z26q; refine xE1A4 z26q ?_; (try clear z26q); intro bs hbs z25q hsep hok; obtain rfl := z25q
    rw [List.length_map, List.take_length] at hbs
    rw [List.length_map, List.drop_length] at N2 hsep
    rw [show looseL w [] = [] from rfl, List.append_nil] at N2 hsep
    clear F1 N1 B1 D1 T1 X1
    k_steps
    rename Fr _ _ _ _ => F9
    rename News _ _ _ _ => N9
    exact hret _ _ _ _ F9 N9 ⟨bs, hbs, rfl, hsep, hok⟩
end

section
theorem seqIndex_zero {n : Nat} : seqIndex? 0 (n + 1) = some 0 := by
  unfold seqIndex?
  simp
theorem pop_first {prog : Program} {w : World} {A : Around} {E : Value → Shared → Prop} {s : Shared} {h₀ : Heap} {L D : Addr} {m : Str → Option Value} {news news' : Led} {n : Nat} {u : Tok} {q : List Value} {y : Value} {Q : Value → Shared → Prop} (F : Fr h₀ L s.heap m) (N : News h₀ L s.heap news) (U : Upd D (listOf (y :: q).toArray n) (listOf q.toArray (n + 1)) news news')
    (hz : (y :: q).length ≤ sizeLine) (h : ∀ h', Fr h₀ L h' m → News h₀ L h' news' → Q y { s with heap := h' }) : wpAny (model prog w) A (call (.builtin "list.pop") [.ref D, .int 0 u]) Q E s :=
  kl_popAt (p := []) (k := 0) F N rfl seqIndex_zero rfl U hz h
set_option maxHeartbeats 4000000 in
theorem next_spec (prog : Program) (w : World) (l : Addr) (ns : List Int) (vs : List Value) (n : Nat) (hi : IntsAre vs ns) (news : Led) (hoff : ∀ p ∈ news, p.1 ≠ l) (hlen : vs.length ≤ 63) :
    Does prog w 400 400 309 [.ref l] ((l, listOf vs.toArray n) :: news)
      (fun r news' => ∃ t vs' n', r = .int (ns.headD 0) t ∧ news' = (l, listOf (List.toArray vs') n') :: news ∧ IntsAre vs' ns.tail ∧ vs'.length ≤ vs.length) := by
  k_with_none
  k_with "o" => (first | (with_reducible first | assumption | (show (_ : Nat) ≤ _; first | exact Nat.le_of_ble_eq_true rfl | exact Nat.zero_le _ | exact Nat.le_of_lt ‹_› | exact Nat.le_of_eq ‹_› | exact oM ‹_› | exact oL ‹_› | exact oJ | exact oK | exact qE ‹_› | exact qG ‹_› | exact oS ‹_› rfl | exact oSE ‹_› ‹_› rfl | exact oA ‹_› rfl | exact oB ‹_› rfl | exact oG ‹_› rfl | exact oE ‹_› ‹_› rfl | exact oF ‹_› ‹_› rfl | exact oH ‹_› ‹_› rfl | exact oI ‹_› ‹_› rfl | exact oQ ‹_› ‹_› rfl | exact oQ3 ‹_› ‹_› ‹_› rfl | exact xE ‹_› ‹_› rfl | exact xA ‹_› | exact xB ‹_› | exact xH ‹_› | exact xF ‹_› | exact xG ‹_› | exact xL ‹_› | exact xC ‹_› ‹_› ‹_› ‹_› rfl | exact xD ‹_› ‹_› ‹_› ‹_› ‹_› rfl | exact xK ‹_› rfl | exact xJ ‹_› ‹_› rfl | exact xI ‹_› ‹_› ‹_› rfl | exact wA ‹_› ‹_› ‹_› rfl | exact wB ‹_› ‹_› ‹_› rfl | exact yC ‹_› ‹_› ‹_› rfl | exact yE ‹_› | exact uB ‹_› ‹_› rfl | exact uF ‹_› | exact uM | exact uN | exact uO | exact uU ‹_› | exact uW ‹_› ‹_› | exact uX ‹_› ‹_› ‹_› rfl | exact uZ ‹_› ‹_› ‹_› rfl | exact vC ‹_› ‹_› rfl | exact vD ‹_› | exact vI | exact vJ | exact vL ‹_› | exact vN ‹_› ‹_› ‹_› rfl | exact vO ‹_› ‹_› ‹_› ‹_› ‹_› rfl | exact vP ‹_› ‹_› ‹_› rfl | exact vQ ‹_› ‹_› | exact vR ‹_› ‹_› ‹_› rfl | exact vT | exact Nat.min_le_left _ _ | exact Nat.le_trans ‹_› ‹_› | exact Nat.le_add_left _ _ | exact wC ‹_› ‹_› rfl | exact wI ‹_› ‹_› rfl | exact wG ‹_› ‹_› ‹_› rfl | exact wF ‹_› ‹_› ‹_›) | (show (_ : Nat) < _; first | exact Nat.le_of_ble_eq_true rfl | exact Nat.lt_succ_self _ | exact pA ‹_› rfl | exact pB ‹_› rfl | exact pG ‹_› rfl | exact pE ‹_› ‹_› rfl | exact pF ‹_› ‹_› rfl | exact pH ‹_› ‹_› rfl | exact pI ‹_› ‹_› rfl | exact pS ‹_› rfl | exact pSE ‹_› ‹_› rfl | exact qA ‹_› | exact qD ‹_› | exact qB ‹_› ‹_› | exact qC ‹_› | exact Nat.lt_of_le_of_ne ‹_› ‹_› | exact uC ‹_› ‹_› | exact uD ‹_› | exact uE ‹_› | exact uY ‹_› ‹_› | exact vG ‹_› ‹_› rfl | exact vH ‹_› | exact vK ‹_› ‹_› | exact qF ‹_› | exact zA ‹_› ‹_› | exact wK ‹_› | exact wH ‹_› rfl | exact wD ‹_› ‹_› ‹_› rfl | exact wE ‹_› ‹_› ‹_›) | (show (_ : Nat) = _; first | exact yA ‹_› | exact yB ‹_› | exact yD ‹_› | exact yS ‹_› | exact Nat.sub_add_comm ‹_› | exact Nat.add_sub_cancel' ‹_› | exact uV ‹_› | exact uJ | exact uK | exact uL | exact uP | exact uQ | exact uR | exact vE ‹_› ‹_› | exact zB | exact oZ) | (show ((_ : Nat) : Int) < 2 ^ 63; first | exact iA ‹_› rfl | exact iB ‹_› rfl | exact iE ‹_› ‹_› rfl | exact iI ‹_› ‹_› rfl) | (show ((_ : Nat) : Int) < 2 ^ 62; first | exact jA ‹_› rfl | exact jB ‹_› rfl | exact jE ‹_› ‹_› rfl) | (show ((_ : Nat) : Int) + 1 < 2 ^ 63; first | exact rA ‹_› rfl | exact rE ‹_› ‹_› rfl | exact rF ‹_› ‹_› rfl) | exact rT ‹_› ‹_› rfl | exact rM | exact rN | exact Int.natCast_nonneg _ | exact iM | exact jM | exact iP ‹_› | exact uS ‹_› | exact uT ‹_› | exact vF ‹_› | exact vM ‹_› | exact vS ‹_› | exact yF ‹_› | exact yT ‹_› | exact iS | exact iZ | exact iD ‹_› | exact iV) | omega)
  k_with "a" => (with_reducible assumption)
  k_with "kxs_still" => (((try dsimp only); (try (refine execs_gen ?_; intro zqt9)); (try k_fold); (try k_extra "bits_by_make")))
  k_with "bits_by_make" => ((try (rename Fr _ _ _ _ => zqF9; (fail_if_success (refine onlyM zqF9 ?_; goal_lacks ite List.lookup)); refine letF zqF9 ?_; clear zqF9; intro zqm9 zqF9)))
  k_with "cell_call" => (first | k_extra "a" | (refine List.mem_cons_of_mem _ ?_; k_extra "cell_call"))
  k_with "tb_start" => ((refine neN ?_; (try dsimp only); first | exact NeA.to (by k_extra "a") | exact NeA.to' (by k_extra "a") | (refine' ne_pos (by k_extra "a") (by k_extra "po")  ) | (refine' ne_pos' (by k_extra "a") (by k_extra "po")  ) | (refine' lt_pos (by k_extra "a") (by k_extra "po")  ) | (refine' lt_pos' (by k_extra "a") (by k_extra "po")  ) | exact Nat.ne_of_lt (by k_extra "a") | exact Nat.ne_of_gt (by k_extra "a") | (refine' lt_up (by k_extra "a") (by k_extra "a") (by k_extra "po")  ) | (refine' lt_up' (by k_extra "a") (by k_extra "a") (by k_extra "po")  ) | omega))
  k_with "tb_rel" => (first | (tbn_letter; first | k_extra "a" | (refine' lt_suf (by k_extra "a") (by k_extra "su")  ) | (refine' ne_suf (by k_extra "a") (by k_extra "su")  ) | (refine' lt_sufU (by k_extra "a") (by k_extra "a") (by k_extra "su")  ) | (refine tbn_neAll ?_; tbn_find) | (refine' tbn_neAll (allLt_up (by tbn_find) (by k_extra "o"))  )) | exact List.forall_mem_nil _ | (refine' lt_suf (by k_extra "a") (by exact Suf.refl)  ) | (refine' ne_suf (by k_extra "a") (by exact Suf.refl)  ) | exact lt_same (by k_extra "a") (by rfl) | (refine List.forall_mem_cons.mpr ⟨?_, ?_⟩; (focus k_extra "tb_start"); k_extra "tb_rel"))
  k_with "k_upd" => (first | (refine Upd.head ?_; k_extra "tb_rel") | (apply Upd.tail; (focus k_extra "tb_start"); k_upd))
  k_with "k_updF" => (first | (refine UpdF.head ?_; k_extra "tb_rel") | (apply UpdF.tail; (focus k_extra "tb_start"); k_updF))
  k_with "execs cons" => ((k_extra "kxs_still"; refine wpAny_execs_cons ?_))
  k_with "po" => (first | exact PosA.head | (refine PosA.tail ?_; k_extra "po"))
  k_with "su" => (first | exact Suf.refl | (refine Suf.tail ?_; k_extra "su"))
  k_with "enter0" => (k_dflt (refine' code0 (by k_asm) (by k_asm) (by k_asm) (by k_asm) (by k_asm) (by exact rfl) (by exact rfl) (by assumption) (by k_is) (by k_is) (by k_room) (by first | exact BindsTo.of_eq rfl | exact binds_K (by k_in) rfl (by k_is) rfl rfl rfl | fail "enter0") (by exact locs rfl) ?_ (by exact rfl) (by exact rfl) (by exact rfl) (by decide); k_whole; intro zqg' zqL' zqh' zqFG' zqF' zqN' zqB' zqX' zqT' zqD'; (try dsimp only); (try k_lift zqB'); (try k_fold)))
  k_with "call builtin:list.pop" => ((k_here; (with_reducible show wpAny _ _ (call (Value.builtin _) [Value.ref _, Value.int _ _]) _ _ _); k_dflt (refine' pop_first (by k_asm) (by k_asm) (by k_upd) (by assumption) ?_; k_whole); intro zqh' zqF' zqN'; (try k_sweep)))
  intro mean mg mb cn cs a ccd cl outer A₀ base h₀ L m s Q E B F X N T hk hret
  refine wpAny_call ?_
  k_dflt ktr_enter
  cases hi with
  | nil =>
    k_steps
    rename Fr _ _ _ _ => F9
    rename News _ _ _ _ => N9
    exact hret _ _ _ _ F9 N9 ⟨_, [], n, rfl, rfl, .nil, Nat.le_refl _⟩
  | @cons k t vs r hi =>
    have hz : (Value.int k t :: vs).toArray.toList.length ≤ sizeLine := by
      rw [sizeLine_eq]; simp at hlen ⊢; k_extra "o"
    k_steps
    rename Fr _ _ _ _ => F9
    rename News _ _ _ _ => N9
    exact hret _ _ _ _ F9 N9 ⟨_, _, _, rfl, rfl, hi, by simp⟩
end

section
open Builtin.Str
theorem binds_cast {s : Shared} {fd : FuncData} {args : Args} {b b' : List (Str × Value)} (h : BindsTo s fd args b) (e : b = b') : BindsTo s fd args b' := e ▸ h
theorem prod3_spec (prog : Program) (w : World) (np : Nat) (nm : Str) (its : List (Str × Tok)) (sy : Addr) (n' : Nat) (t0 t1 : Tok) (FX : Led) (hs : (sy, listOf (strV its).toArray n') ∈ FX) (hi3 : its.length ≤ 3) (hB : ∀ y ∈ its.map (·.1), y.length ≤ 16) (hnm : nm.length ≤ 16) :
    Does prog w 400 400 100 [.int (np : Int) t0, .str nm t1, .ref sy] FX (fun r news' => NewPR w np nm its (.ref 54) FX r news') := by
  refine prod_G prog w np nm its sy n' (.ref 54) t0 t1 ?t2 ?t3 FX hs hi3 hB hnm _ ?hb
  case hb =>
    intro x fI s oc od fd osl hf hl X
    have hq := find_at (K := hd.heap_1 w.params) (by k_is) hf
    subst hq
    refine' bind_at (by k_is) hl ?hc
    case hc =>
      refine' binds_cast ?hd ?he
      case hd => exact binds_K X rfl (by k_is) rfl rfl rfl
      case he => exact rfl
end
section
variable {prog : Program} {w : World} {mean : ExcName → Option Value} {mg mb : Str → Option Value} {cn : Str} {cs : Scope} {a : Addr} {ccd : Value} {outer : List Env} {A A₀ : Around} {base h₀ : Heap} {L : Addr} {m : Str → Option Value} {s : Shared} {Q E : Value → Shared → Prop} {news : Led}
theorem prod3_call {np : Nat} {nm : Str} {its : List (Str × Tok)} {sy : Addr} {n' : Nat} {t0 t1 : Tok} (B : Below A₀ base outer h₀) (F : Fr h₀ L s.heap m) (X : (hd.heap_1 w.params).In h₀) (N : News h₀ L s.heap news) (T : Top hdV LOOSE mean mg mb h₀) (hfr : A.frames = some (envOf cn cs L a ccd :: outer)) (hh : A.handled = none) (hdp : A.depth ≤ 400) (hg : A.guards = some []) (hu : A.units ≤ 400) (hk : cs.kind = .function)
    (m1 : (sy, listOf (strV its).toArray n') ∈ news) (hi3 : its.length ≤ 3) (hB : ∀ y ∈ its.map (·.1), y.length ≤ 16) (hnm : nm.length ≤ 16)
    (h : ∀ r news' h' tk', Fr h₀ L h' m → News h₀ L h' news' → NewPR w np nm its (.ref 54) news r news' → Q r { s with heap := h', toks := tk' }) : wpAny (model prog w) A (call (.ref 100) [.int (np : Int) t0, .str nm t1, .ref sy]) Q E s :=
  around_up (prod3_spec prog w np nm its sy n' t0 t1 news m1 hi3 hB hnm mean mg mb cn cs a ccd [] outer A₀ base h₀ L m s Q E B F X N T hk h) hh hdp hfr.symm hg.symm hu
end

theorem kdg_notin2 {prog : Program} {w : World} {A : Around} {E : Value → Shared → Prop} {s : Shared} {h₀ : Heap} {L d : Addr} {o : Obj} {news : Led} {kvs : List (Str × Value)} {key : Value} {k : Str} {Q : Value → Shared → Prop} (N : News h₀ L s.heap news) (hp : (d, o) ∈ news) (hd : o.IsDictOf (PySem.strKind prog w) kvs) (lo : (d == sysModules) = false) (hkey : (PySem.strKind prog w).is k key = true) (b c : Bool) (hb : (valueAt kvs k).isSome = b) (hc : (!b) = c) (h : Q (.bool c) { s with toks := s.toks + 1 }) :
    wpAny (model prog w) A (compareOp .NotIn key (.ref d)) Q E s := kdg_notin N hp hd lo hkey b hb (by rw [hc]; exact h)
noncomputable def StartOK (prog : Program) (w : World) (G : GA) (B : Nat) (M : GM) (pco : Obj) (pt : Addr) (ptv : List Value) (npt : Nat) (R : Led) (x1 : Addr) (ts : Tok) (nws : Led) : Prop :=
  ∃ (M' : GM) (x : PR) (li : Addr), M'.lpv = [.ref x.p, .ref x1] ∧ M'.pn = M.pn ∧ M'.pm = M.pm ∧ MOK prog w (B + 1) M' ∧ x.name = S_ "S'" ∧ x.syms = [S_ "S"] ∧ x.num = 0 ∧ x.uv.map (·.1) = dedupS x.syms ∧
    (∀ q ∈ stL w { G with st := .str (S_ "S") ts } M' pco pt ptv npt (prL w x (.ref li) .none R), q ∈ nws) ∧ Sep (stL w { G with st := .str (S_ "S") ts } M' pco pt ptv npt (prL w x (.ref li) .none R))
theorem start_pack {prog : Program} {w : World} {G : GA} {B : Nat} {M : GM} {pco so : Obj} {pt : Addr} {ptv : List Value} {npt : Nat} {R : Led} {x1 e li sy : Addr} {n : Nat} {ts t0 tq : Tok} {da db : DL} {l : List Value} {x : PR} {olp odg ol : Obj} {nws : Led} (hnt : M.nt = da ++ (S_ "S", e, l, n) :: db) (hlp : M.lpv = [.none, .ref x1])
    (S6 : Sep (prL w x (.ref li) .none ((li, ol) :: (sy, so) :: (e, listOf l.toArray n) :: (G.lp, olp) :: (G.dg, odg) :: (G.g, instObj 283 G.dg) :: (G.nt, M.nto) :: (G.te, M.teo) :: (G.up, M.upo) :: (G.pm, M.pmo) :: (G.pn, M.pno) :: (G.pc, pco) :: (pt, tupO ptv npt) :: (dlL M.te ++ (dlL da ++ (dlL db ++ (dlL M.pn ++ R)))))))
    (hx1 : x.name = S_ "S'") (hx2 : x.its = [(S_ "S", t0)]) (hx3 : x.num = ((0 : Nat) : Int)) (hx5 : x.uv.map (·.1) = dedupS ([(S_ "S", t0)].map (·.1))) (hM : MOK prog w B M)
    (hsub : ∀ q ∈ prL w x (.ref li) .none ((li, ol) :: (sy, so) :: (e, listOf (l ++ [Value.int 0 tq]).toArray (n + 1)) :: (G.lp, listOf [Value.ref x.p, .ref x1].toArray M.nlp) :: (G.dg, gramD w { G with st := .str (S_ "S") ts }) :: (G.g, instObj 283 G.dg) :: (G.nt, M.nto) :: (G.te, M.teo) :: (G.up, M.upo) :: (G.pm, M.pmo) :: (G.pn, M.pno) :: (G.pc, pco) :: (pt, tupO ptv npt) :: (dlL M.te ++ (dlL da ++ (dlL db ++ (dlL M.pn ++ R))))), q ∈ nws) :
    StartOK prog w G B M pco pt ptv npt R x1 ts nws := by
  have hsn := hM.sn
  have hntD := hM.nt
  have hln := hM.ln
  rw [hnt] at hsn hntD hln
  refine (yE3A10 ({ M with lpv := [.ref x.p, .ref x1], nt := da ++ (S_ "S", e, l ++ [Value.int 0 tq], n + 1) :: db }) x li rfl rfl rfl ⟨hM.te, (by rw [← dlKV_set da db (S_ "S") e l _ n _] at hntD; exact hntD), hM.pn, hM.pm, hM.tk, hM.up, szL_up hM.st (by k_extra "o"), szL_set hsn, szL_up hM.sp (by k_extra "o"), ?ln, Nat.le_succ_of_le hM.lp, Nat.le_succ_of_le hM.lm, ?ll⟩ hx1 (by rw [PR.syms, hx2]; rfl) hx3 (by rw [hx5, PR.syms, hx2]) (fun q hq => hsub q ?mem) (?sep))
  case ln =>
    show (da ++ _ :: db).length ≤ _
    simp only [List.length_append, List.length_cons] at hln ⊢
    k_extra "o"
  case ll =>
    have := hM.ll
    rw [hlp] at this
    exact Nat.le_succ_of_le this
  case mem =>
    dsimp only [stL, gmL, prL] at hq ⊢
    rw [dlL_split] at hq
    exact ledIn [_, _, _, _, _, _, _, _, _, _, _, _, _, _, _, _, _] [_, _, _, _, _] (.c 11 <| .c 10 <| .c 12 <| .c 7 <| .c 13 <| .c 14 <| .c 9 <| .c 8 <| .c 15 <| .c 16 <| .a (.l 0) <| .a (.a (.l 1) <| .c 6 <| .l 2) <| .a (.l 3) <| .c 0 <| .c 1 <| .c 2 <| .c 3 <| .l 4) (.c 0 <| .c 1 <| .c 2 <| .c 3 <| .c 4 <| .c 5 <| .c 6 <| .c 7 <| .c 8 <| .c 9 <| .c 10 <| .c 11 <| .c 12 <| .c 13 <| .c 14 <| .c 15 <| .c 16 <| .a (.l 0) <| .a (.l 1) <| .a (.l 2) <| .a (.l 3) <| .l 4) rfl _ hq
  case sep =>
    refine Sep.sub S6 fun k => ?_
    dsimp only [stL, gmL, prL]
    rw [dlL_split]
    exact ledCnt2 [_, _, _, _, _, _, _, _, _, _, _, _, _, _, _, _, _] [_, _, _, _, _, _, _, _, _, _, _, _, _, _, _, _, _] [_, _, _, _, _] (.c 11 <| .c 10 <| .c 12 <| .c 7 <| .c 13 <| .c 14 <| .c 9 <| .c 8 <| .c 15 <| .c 16 <| .a (.l 0) <| .a (.a (.l 1) <| .c 6 <| .l 2) <| .a (.l 3) <| .c 0 <| .c 1 <| .c 2 <| .c 3 <| .l 4) (.c 0 <| .c 1 <| .c 2 <| .c 3 <| .c 4 <| .c 5 <| .c 6 <| .c 7 <| .c 8 <| .c 9 <| .c 10 <| .c 11 <| .c 12 <| .c 13 <| .c 14 <| .c 15 <| .c 16 <| .a (.l 0) <| .a (.l 1) <| .a (.l 2) <| .a (.l 3) <| .l 4) rfl rfl k
section
open Builtin.Str
set_option maxHeartbeats 4000000 in
theorem start_spec (prog : Program) (w : World) (G : GA) (B : Nat) (M : GM) (pt : Addr) (npt : Nat) (pco : Obj) (ptv : List Value) (R : Led) (x1 : Addr) (ts : Tok)
    (hlp : M.lpv = [.none, .ref x1]) (hS : S_ "S" ∈ M.nt.map (·.1)) (hM : MOK prog w B M) (hB : B ≤ 500) (hst : G.st = .none) (loN : (G.nt == sysModules) = false) (hsep : Sep (stL w G M pco pt ptv npt R)) :
    Does prog w 320 100 209 [.ref G.g, .str (S_ "S") ts] (stL w G M pco pt ptv npt R) (fun r nws => StartOK prog w G B M pco pt ptv npt R x1 ts nws) := by
  k_with_none
  k_with "o" => (first | (with_reducible first | assumption | (show (_ : Nat) ≤ _; first | exact Nat.le_of_ble_eq_true rfl | exact Nat.zero_le _ | exact Nat.le_of_lt ‹_› | exact Nat.le_of_eq ‹_› | exact oM ‹_› | exact oL ‹_› | exact oJ | exact oK | exact qE ‹_› | exact qG ‹_› | exact oS ‹_› rfl | exact oSE ‹_› ‹_› rfl | exact oA ‹_› rfl | exact oB ‹_› rfl | exact oG ‹_› rfl | exact oE ‹_› ‹_› rfl | exact oF ‹_› ‹_› rfl | exact oH ‹_› ‹_› rfl | exact oI ‹_› ‹_› rfl | exact oQ ‹_› ‹_› rfl | exact oQ3 ‹_› ‹_› ‹_› rfl | exact xE ‹_› ‹_› rfl | exact xA ‹_› | exact xB ‹_› | exact xH ‹_› | exact xF ‹_› | exact xG ‹_› | exact xL ‹_› | exact xC ‹_› ‹_› ‹_› ‹_› rfl | exact xD ‹_› ‹_› ‹_› ‹_› ‹_› rfl | exact xK ‹_› rfl | exact xJ ‹_› ‹_› rfl | exact xI ‹_› ‹_› ‹_› rfl | exact wA ‹_› ‹_› ‹_› rfl | exact wB ‹_› ‹_› ‹_› rfl | exact yC ‹_› ‹_› ‹_› rfl | exact yE ‹_› | exact uB ‹_› ‹_› rfl | exact uF ‹_› | exact uM | exact uN | exact uO | exact uU ‹_› | exact uW ‹_› ‹_› | exact uX ‹_› ‹_› ‹_› rfl | exact uZ ‹_› ‹_› ‹_› rfl | exact vC ‹_› ‹_› rfl | exact vD ‹_› | exact vI | exact vJ | exact vL ‹_› | exact vN ‹_› ‹_› ‹_› rfl | exact vO ‹_› ‹_› ‹_› ‹_› ‹_› rfl | exact vP ‹_› ‹_› ‹_› rfl | exact vQ ‹_› ‹_› | exact vR ‹_› ‹_› ‹_› rfl | exact vT | exact Nat.min_le_left _ _ | exact Nat.le_trans ‹_› ‹_› | exact Nat.le_add_left _ _ | exact wC ‹_› ‹_› rfl | exact wI ‹_› ‹_› rfl | exact wG ‹_› ‹_› ‹_› rfl | exact wF ‹_› ‹_› ‹_›) | (show (_ : Nat) < _; first | exact Nat.le_of_ble_eq_true rfl | exact Nat.lt_succ_self _ | exact pA ‹_› rfl | exact pB ‹_› rfl | exact pG ‹_› rfl | exact pE ‹_› ‹_› rfl | exact pF ‹_› ‹_› rfl | exact pH ‹_› ‹_› rfl | exact pI ‹_› ‹_› rfl | exact pS ‹_› rfl | exact pSE ‹_› ‹_› rfl | exact qA ‹_› | exact qD ‹_› | exact qB ‹_› ‹_› | exact qC ‹_› | exact Nat.lt_of_le_of_ne ‹_› ‹_› | exact uC ‹_› ‹_› | exact uD ‹_› | exact uE ‹_› | exact uY ‹_› ‹_› | exact vG ‹_› ‹_› rfl | exact vH ‹_› | exact vK ‹_› ‹_› | exact qF ‹_› | exact zA ‹_› ‹_› | exact wK ‹_› | exact wH ‹_› rfl | exact wD ‹_› ‹_› ‹_› rfl | exact wE ‹_› ‹_› ‹_›) | (show (_ : Nat) = _; first | exact yA ‹_› | exact yB ‹_› | exact yD ‹_› | exact yS ‹_› | exact Nat.sub_add_comm ‹_› | exact Nat.add_sub_cancel' ‹_› | exact uV ‹_› | exact uJ | exact uK | exact uL | exact uP | exact uQ | exact uR | exact vE ‹_› ‹_› | exact zB | exact oZ) | (show ((_ : Nat) : Int) < 2 ^ 63; first | exact iA ‹_› rfl | exact iB ‹_› rfl | exact iE ‹_› ‹_› rfl | exact iI ‹_› ‹_› rfl) | (show ((_ : Nat) : Int) < 2 ^ 62; first | exact jA ‹_› rfl | exact jB ‹_› rfl | exact jE ‹_› ‹_› rfl) | (show ((_ : Nat) : Int) + 1 < 2 ^ 63; first | exact rA ‹_› rfl | exact rE ‹_› ‹_› rfl | exact rF ‹_› ‹_› rfl) | exact rT ‹_› ‹_› rfl | exact rM | exact rN | exact Int.natCast_nonneg _ | exact iM | exact jM | exact iP ‹_› | exact uS ‹_› | exact uT ‹_› | exact vF ‹_› | exact vM ‹_› | exact vS ‹_› | exact yF ‹_› | exact yT ‹_› | exact iS | exact iZ | exact iD ‹_› | exact iV) | omega)
  k_with "a" => (with_reducible assumption)
  k_with "kxs_still" => (((try dsimp only); (try (refine execs_gen ?_; intro zqt9)); (try k_fold); (try k_extra "bits_by_make")))
  k_with "bits_by_make" => ((try (rename Fr _ _ _ _ => zqF9; (fail_if_success (refine onlyM zqF9 ?_; goal_lacks ite List.lookup)); refine letF zqF9 ?_; clear zqF9; intro zqm9 zqF9)))
  k_with "cell_call" => (first | k_extra "a" | (refine List.mem_cons_of_mem _ ?_; k_extra "cell_call"))
  k_with "tb_start" => ((refine neN ?_; (try dsimp only); first | exact NeA.to (by k_extra "a") | exact NeA.to' (by k_extra "a") | (refine' ne_pos (by k_extra "a") (by k_extra "po")  ) | (refine' ne_pos' (by k_extra "a") (by k_extra "po")  ) | (refine' lt_pos (by k_extra "a") (by k_extra "po")  ) | (refine' lt_pos' (by k_extra "a") (by k_extra "po")  ) | exact Nat.ne_of_lt (by k_extra "a") | exact Nat.ne_of_gt (by k_extra "a") | (refine' lt_up (by k_extra "a") (by k_extra "a") (by k_extra "po")  ) | (refine' lt_up' (by k_extra "a") (by k_extra "a") (by k_extra "po")  ) | omega))
  k_with "tb_rel" => (first | (tbn_letter; first | k_extra "a" | (refine' lt_suf (by k_extra "a") (by k_extra "su")  ) | (refine' ne_suf (by k_extra "a") (by k_extra "su")  ) | (refine' lt_sufU (by k_extra "a") (by k_extra "a") (by k_extra "su")  ) | (refine tbn_neAll ?_; tbn_find) | (refine' tbn_neAll (allLt_up (by tbn_find) (by k_extra "o"))  )) | exact List.forall_mem_nil _ | (refine' lt_suf (by k_extra "a") (by exact Suf.refl)  ) | (refine' ne_suf (by k_extra "a") (by exact Suf.refl)  ) | exact lt_same (by k_extra "a") (by rfl) | (refine List.forall_mem_cons.mpr ⟨?_, ?_⟩; (focus k_extra "tb_start"); k_extra "tb_rel"))
  k_with "k_upd" => (first | (refine Upd.head ?_; k_extra "tb_rel") | (apply Upd.tail; (focus k_extra "tb_start"); k_upd))
  k_with "k_updF" => (first | (refine UpdF.head ?_; k_extra "tb_rel") | (apply UpdF.tail; (focus k_extra "tb_start"); k_updF))
  k_with "execs cons" => ((k_extra "kxs_still"; refine wpAny_execs_cons ?_))
  k_with "po" => (first | exact PosA.head | (refine PosA.tail ?_; k_extra "po"))
  k_with "su" => (first | exact Suf.refl | (refine Suf.tail ?_; k_extra "su"))
  k_with "enter0" => (k_dflt (refine' code0 (by k_asm) (by k_asm) (by k_asm) (by k_asm) (by k_asm) (by exact rfl) (by exact rfl) (by assumption) (by k_is) (by k_is) (by k_room) (by first | exact BindsTo.of_eq rfl | exact binds_K (by k_in) rfl (by k_is) rfl rfl rfl | fail "enter0") (by exact locs rfl) ?_ (by exact rfl) (by exact rfl) (by exact rfl) (by decide); k_whole; intro zqg' zqL' zqh' zqFG' zqF' zqN' zqB' zqX' zqT' zqD'; (try dsimp only); (try k_lift zqB'); (try k_fold)))
  k_with "subscriptTail" => ((k_here; (with_reducible show wpAny _ _ (subscriptTail _ _ (Value.ref _) (Value.int _ _)) _ _ _); k_dflt (refine' item_pickAny (by k_asm) (by k_mem) (by k_asm) ?_; k_whole); intro zqv'))
  k_with "subscriptTail" => ((k_here; (with_reducible show wpAny _ _ (subscriptTail _ _ (Value.ref _) (Value.int _ _)) _ _ _); k_dflt (refine' item_nopick (by rfl) (by k_asm) (by k_mem) (by first | k_asm | exact NoPickDot.at (by k_asm)) ?_; k_whole); intro zqh' zqtk' zqe' zqx'))
  k_with "subscriptTail" => ((k_here; (with_reducible show wpAny _ _ (subscriptTail _ _ (Value.ref _) (Value.int _ _)) _ _ _); k_dflt (refine' item_pick (by k_asm) (by k_mem) (by first | k_asm | exact PickDot.at (by k_asm)) ?_; k_whole)))
  k_with "subscriptTail" => ((k_here; (with_reducible show wpAny _ _ (subscriptTail _ _ (Value.ref _) (Value.str _ _)) _ _ _); k_dflt (refine' dict_missing (knd := PySem.strKind _ _) (by k_asm) (by k_mem) (by k_asm) (by k_asm) (by rfl) (strKind_is _ _ _ _) (by k_asm) ?_; k_whole); intro zqh' zqe' zqx'))
  k_with "subscriptTail" => ((k_here; (with_reducible show wpAny _ _ (subscriptTail _ _ (Value.ref _) (Value.str _ _)) _ _ _); k_dflt (refine' kda_item (knd := PySem.strKind _ _) (by k_asm) (by k_mem) (by k_asm) (strKind_is _ _ _ _) (by k_asm) ?_; k_whole)))
  k_with "call builtin:list.append" => ((k_here; (with_reducible show wpAny _ _ (call (Value.builtin _) [Value.ref _, _]) _ _ _); k_dflt (refine' append_K (by k_asm) (by k_asm) (by k_upd) ?_ (by k_extra "a"); k_whole); intro zqh' zqF' zqN'; (try k_sweep)))
  k_with "compareOp NotIn str ref" => ((k_here; (with_reducible show wpAny _ _ (compareOp CmpOp.NotIn (Value.str _ _) (Value.ref _)) _ _ _); k_dflt (refine' notin_strs (by k_asm) (by k_mem) ?_; k_whole)))
  k_with "setAttr ref" => (((try dsimp only); (with_reducible show wpAny _ _ (setAttr (Value.ref _) _ (Value.int _ ((_ : Nat) + _))) _ _ (Shared.mk _ _ _ _ _)); refine set_genI ?_; intro zqu9 zqt9))
  k_with "setAttr ref" => (((try dsimp only); (with_reducible show wpAny _ _ (setAttr _ _ _) _ _ (Shared.mk _ _ _ ((_ : Nat) + _) _)); refine wp_gen ?_; intro zqt9))
  k_with "eval Attribute Name" => ((k_here; k_dflt (refine' attr_own (by k_asm) (by rfl) (by k_asm) (by k_inst) (by k_is) (by k_is) (by k_is) (by k_is) (by k_get) (by k_handed) ?_ (by rfl) (by rfl); k_whole)))
  k_with "compareOp NotIn str ref" => ((k_here; (with_reducible show wpAny _ _ (compareOp CmpOp.NotIn (Value.str _ _) (Value.ref _)) _ _ _); k_dflt (refine' kdg_notin2 (by k_asm) (by k_mem) (by k_asm) (by k_asm) (strKind_is _ _ _ _) true false (by k_extra "a") rfl ?_; k_whole)))
  k_with "setItem ref int" => ((k_here; (with_reducible show wpAny _ _ (PySem.setItem (Value.ref _) (Value.int _ _) _) _ _ _); k_dflt (refine' list_store (i := 0) (by k_asm) (by k_asm) (by k_upd) (by exact rfl) (by exact Nat.zero_lt_succ _) (by exact Nat.le_of_ble_eq_true rfl) ?_; k_whole); intro zqh' zqF' zqN'; (try k_sweep)))
  k_with "call ref" => (((with_reducible show wpAny _ _ (call (Value.ref 100) _) _ _ _); refine halt ?_))
  k_with "subscriptTail Attribute Name ref str" => ((k_here; (with_reducible show wpAny _ _ (subscriptTail _ _ (Value.ref _) (Value.str _ _)) _ _ _); k_dflt (refine' kda_item (knd := PySem.strKind _ _) (by k_asm) (by k_mem) (by k_asm) (strKind_is _ _ _ _) (by k_extra "a") ?_; k_whole)))
  k_with "subscriptTail" => ((k_here; (with_reducible show wpAny _ _ (subscriptTail _ _ (Value.ref _) (Value.str _ _)) _ _ _); k_dflt (refine' kda_item (knd := PySem.strKind _ _) (by k_asm) (by k_mem) (by k_asm) (strKind_is _ _ _ _) (by k_extra "a") ?_; k_whole)))
  k_with "getItem ref str" => ((k_here; k_dflt (refine' kdt_getItem (knd := PySem.strKind _ _) (by k_asm) (by k_mem) (by k_asm) (strKind_is _ _ _ _) (by k_extra "a") ?_; k_whole)))
  intro mean mg mb cn cs a ccd cl outer A₀ base h₀ L m s Q E Bl F X N T hk hret
  focus (refine xO2 (dl_split3 (d := M.nt) (k := S_ "S")) ?_ ?_; intro hab; rotate_left 1; intro w1q; refine xE5A2 w1q ?_; (try clear w1q); intro da e l n db hnt hda; rotate_left 1)
  · refine xE1A2 (List.mem_map.mp hS) fun q hq hq2 => ?_
    exact absurd hq2 (hab q hq)
  have z1q : ∃ T, (G.te, M.teo) :: (G.up, M.upo) :: (G.pm, M.pmo) :: (G.pn, M.pno) :: (G.pc, pco) :: (pt, tupO ptv npt) :: (dlL M.te ++ (dlL da ++ (dlL db ++ (dlL M.pn ++ R)))) = T := ⟨_, rfl⟩; refine xE1A1 z1q ?_; (try clear z1q); intro TT hTT
  have hv : valueAt (dlKV M.nt) (S_ "S") = some (.ref e) := by rw [hnt]; exact dlKV_some (e := (e, l, n)) hda
  have hv2 : (valueAt (dlKV M.nt) (Str.ofString "S")).isSome = true := by rw [show Str.ofString "S" = S_ "S" from rfl, hv]; rfl
  have hoN := hM.nt
  have hl5 : l.length ≤ B := by have := hM.sn; rw [hnt] at this; exact this (S_ "S", e, l, n) (by simp)
  have hsz : l.toArray.size ≤ sizeLine := by rw [sizeLine_eq, List.size_toArray]; k_extra "o"
  have S1 : Sep ((e, listOf l.toArray n) :: (G.lp, listOf [Value.none, Value.ref x1].toArray M.nlp) :: (G.dg, gramD w G) :: (G.g, instObj 283 G.dg) :: (G.nt, M.nto) :: TT) := by
    rw [← hTT]
    dsimp only [stL, gmL] at hsep
    rw [hnt, dlL_split] at hsep
    refine Sep.sub hsep fun k => ?_
    exact ledCnt2 [_, _, _, _, _, _, _, _, _, _, _] [_, _, _, _, _, _, _, _, _, _, _] [_, _, _, _, _] (.c 10 <| .c 3 <| .c 7 <| .c 6 <| .c 1 <| .c 0 <| .c 2 <| .c 4 <| .c 5 <| .c 8 <| .c 9 <| .a (.l 0) <| .a (.l 1) <| .a (.l 2) <| .a (.l 3) <| .l 4) (.c 0 <| .c 1 <| .c 2 <| .c 3 <| .c 4 <| .c 5 <| .c 6 <| .c 7 <| .c 8 <| .c 9 <| .a (.l 0) <| .a (.a (.l 1) <| .c 10 <| .l 2) <| .a (.l 3) <| .l 4) rfl rfl k
  have N1 : News h₀ L s.heap ((e, listOf l.toArray n) :: (G.lp, listOf [Value.none, Value.ref x1].toArray M.nlp) :: (G.dg, gramD w G) :: (G.g, instObj 283 G.dg) :: (G.nt, M.nto) :: TT) := by
    rw [← hTT]
    dsimp only [stL, gmL] at N
    rw [hnt, dlL_split, hlp] at N
    refine News.perm N fun q hq => ?_
    exact ledIn [_, _, _, _, _, _, _, _, _, _, _] [_, _, _, _, _] (.c 10 <| .c 3 <| .c 7 <| .c 6 <| .c 1 <| .c 0 <| .c 2 <| .c 4 <| .c 5 <| .c 8 <| .c 9 <| .a (.l 0) <| .a (.l 1) <| .a (.l 2) <| .a (.l 3) <| .l 4) (.c 0 <| .c 1 <| .c 2 <| .c 3 <| .c 4 <| .c 5 <| .c 6 <| .c 7 <| .c 8 <| .c 9 <| .a (.l 0) <| .a (.a (.l 1) <| .c 10 <| .l 2) <| .a (.l 3) <| .l 4) rfl _ hq
  clear N
  dsimp only [gramD] at N1 S1
  rw [hst] at N1 S1
  have q1 := allNe_of S1.ne
  have q2 := allNe_of S1.tail.ne
  have q3 := allNe_of S1.tail.tail.ne
  have r1 : ∀ q ∈ TT, q.1 ≠ e := fun q hq => S1.ne q (.tail _ (.tail _ (.tail _ (.tail _ hq))))
  have r2 : ∀ q ∈ TT, q.1 ≠ G.lp := fun q hq => S1.tail.ne q (.tail _ (.tail _ (.tail _ hq)))
  have r3 : ∀ q ∈ TT, q.1 ≠ G.dg := fun q hq => S1.tail.tail.ne q (.tail _ (.tail _ hq))
  refine wpAny_call ?_
  k_dflt (refine' code_def ?k1 ?k2 ?k3 ?k4 ?k5 ?kA ?kF ?kK ?k6 ?k7 ?k8 ?k9 ?kB ?_ ?c2 ?c3 ?c4 ?c5; (case kA => exact rfl); (case kF => exact rfl); (case kK => assumption); (case k1 => k_asm); (case k2 => k_asm); (case k3 => k_asm); (case k4 => k_asm); (case k5 => k_asm); (case k6 => k_is); (case k7 => k_is); (case k8 => k_room); (case k9 => exact binds_K (by k_in) rfl (by k_is) rfl rfl rfl); (case c5 => decide); (case kB => exact locs rfl); (case c2 => exact rfl); (case c3 => exact rfl); (case c4 => exact rfl); k_whole; intro g' L' h' FG' F' N' B' X' T'; (try dsimp only); (try k_fold))
  k_steps
  unfold Halt
  rename Fr _ _ _ _ => F2
  rename News _ _ _ _ => N2
  rename AllLt _ ((e, _) :: _) => l2
  have S5 := Sep.cons (p := (_, listOf #[Value.str (Str.ofString "S") ts] 0)) (l := (e, _) :: (G.lp, _) :: (G.dg, _) :: (G.g, _) :: (G.nt, _) :: TT) (tbn_neAll l2) S1
  clear N1
  refine prod3_call (np := 0) (its := [(S_ "S", ts)]) (by assumption) F2 (by assumption) N2 (by assumption) rfl rfl (Nat.le_of_ble_eq_true rfl) rfl (Nat.le_of_ble_eq_true rfl) rfl (.head _) (Nat.le_of_ble_eq_true rfl) (fun y hy => by rw [List.mem_singleton.mp hy]; exact (by decide +kernel : (S_ "S").length ≤ 16)) (by decide +kernel) ?_
  intro r nws h9 tk9 F3 N3 z2q; refine xE2A9 z2q ?_; (try clear z2q); intro x li z3q hx1 hx2 hx3 hx4 hx5 z4q hfx hsp; obtain rfl := z3q; obtain rfl := z4q
  have S6 := hsp S5
  clear F2 N2
  have p1 := allNe_of S6.ne
  have p2 := allNe_of S6.tail.ne
  have p3 := allNe_of S6.tail.tail.ne
  have p4 := allNe_of S6.tail.tail.tail.ne
  have p5 := allNe_of S6.tail.tail.tail.tail.ne
  have p6 := allNe_of S5.ne
  k_steps
  rename Fr _ _ _ _ => F9
  rename News _ _ _ _ => N9
  simp only [List.push_toArray] at N9
  rw [← hTT] at N9 S6
  exact hret _ _ _ _ F9 N9 (start_pack hnt hlp S6 hx1 hx2 hx3 hx5 hM fun q hq => hq)
end

noncomputable def chainN (w : World) (x : PR) (nx : Value) : Nat → List IT → Led
  | _, [] => []
  | i, y :: r => (y.d, dictOf (itemE w x i y ++ [ent w "lr_next" (y.tk 11) (headRef nx r)]) 10) :: (y.a, instObj 135 y.d) :: (y.t, tupO (dotV x.its i (.str (Str.ofString ".") (y.tk 12))) 0) :: (y.ex ++ chainN w x nx (i + 1) r)
noncomputable def builtN (w : World) : List BR → Led
  | [] => []
  | b :: r => prL w b.x b.v1 b.v2 ((b.li, listOf (itsOf b.ys) b.lk) :: (chainN w b.x .none 0 b.ys ++ builtN w r))
noncomputable def laAll (bs : List BR) : Led := match bs with | [] => [] | b :: r => laL b.ys ++ laAll r
theorem chain_mem {w : World} {x : PR} {nx : Value} {q : Addr × Obj} : ∀ {i : Nat} {ys : List IT}, (q ∈ laL ys ∨ q ∈ chainN w x nx i ys) → q ∈ chainL w x nx i ys
  | _, [], h => by rcases h with h | h <;> cases h
  | i, y :: r, h => by
    have ih := chain_mem (w := w) (x := x) (nx := nx) (q := q) (i := i + 1) (ys := r)
    simp only [laL, List.map_cons, chainN, chainL, List.mem_cons, List.mem_append] at h ih ⊢
    rcases h with (h | h) | (h | h | h | h | h)
    · simp only [h, true_or, or_true]
    · simp only [ih (.inl h), true_or, or_true]
    · simp only [h, true_or, or_true]
    · simp only [h, true_or, or_true]
    · simp only [h, true_or, or_true]
    · simp only [h, true_or, or_true]
    · simp only [ih (.inr h), true_or, or_true]
theorem chain_cnt {w : World} {x : PR} {nx : Value} {k : Nat} : ∀ {i : Nat} {ys : List IT}, cnt k (laL ys) + cnt k (chainN w x nx i ys) = cnt k (chainL w x nx i ys)
  | _, [] => rfl
  | i, y :: r => by
    have ih := chain_cnt (w := w) (x := x) (nx := nx) (k := k) (i := i + 1) (ys := r)
    simp only [laL, List.map_cons, chainN, chainL, cnt, cnt_append] at ih ⊢
    k_extra "o"
theorem built_mem {w : World} {q : Addr × Obj} : ∀ {bs : List BR}, (q ∈ laAll bs ∨ q ∈ builtN w bs) → q ∈ builtL w bs
  | [], h => by rcases h with h | h <;> cases h
  | b :: r, h => by
    have ih := built_mem (w := w) (q := q) (bs := r)
    have ic := chain_mem (w := w) (x := b.x) (nx := .none) (q := q) (i := 0) (ys := b.ys)
    simp only [laAll, builtN, builtL, List.mem_cons, List.mem_append] at h ih ic ⊢
    rcases h with (h | h) | (h | h | h | h | h | h | h)
    · simp only [ic (.inl h), true_or, or_true]
    · simp only [ih (.inl h), true_or, or_true]
    · simp only [h, true_or, or_true]
    · simp only [h, true_or, or_true]
    · simp only [h, true_or, or_true]
    · simp only [h, true_or, or_true]
    · simp only [h, true_or, or_true]
    · simp only [ic (.inr h), true_or, or_true]
    · simp only [ih (.inr h), true_or, or_true]
theorem built_cnt {w : World} {k : Nat} : ∀ {bs : List BR}, cnt k (laAll bs) + cnt k (builtN w bs) = cnt k (builtL w bs)
  | [] => rfl
  | b :: r => by
    have ih := built_cnt (w := w) (k := k) (bs := r)
    have ic := chain_cnt (w := w) (x := b.x) (nx := .none) (k := k) (i := 0) (ys := b.ys)
    simp only [laAll, builtN, builtL, cnt, cnt_append] at ih ic ⊢
    k_extra "o"
theorem chainN_at {w : World} {x : PR} {nx : Value} : ∀ {i : Nat} {ys : List IT} {j : Nat} {y : IT}, ys[j]? = some y → (y.a, instObj 135 y.d) ∈ chainN w x nx i ys ∧ (y.d, dictOf (itemE w x (i + j) y ++ [ent w "lr_next" (y.tk 11) (headRef nx (ys.drop (j + 1)))]) 10) ∈ chainN w x nx i ys ∧
    (y.t, tupO (dotV x.its (i + j) (.str (Str.ofString ".") (y.tk 12))) 0) ∈ chainN w x nx i ys ∧ ∀ q ∈ y.ex, q ∈ chainN w x nx i ys
  | _, [], _, _, h => by simp at h
  | i, y' :: r, 0, y, h => by
    cases h
    refine (yE0A3 (.tail _ (.head _)) ?_ ⟨.tail _ (.tail _ (.head _)), fun q hq => .tail _ (.tail _ (.tail _ (List.mem_append_left _ hq)))⟩)
    exact .head _
  | i, y' :: r, j + 1, y, h => by
    refine xE0A4 (chainN_at (w := w) (x := x) (nx := nx) (i := i + 1) (ys := r) (j := j) (y := y) (by simpa using h)) fun h1 h2 h3 h4 => ?_
    have up : ∀ q, q ∈ chainN w x nx (i + 1) r → q ∈ chainN w x nx i (y' :: r) := fun q hq => .tail _ (.tail _ (.tail _ (List.mem_append_right _ hq)))
    rw [show i + 1 + j = i + (j + 1) by k_extra "o"] at h2 h3
    exact (yE0A3 (up _ h1) (up _ h2) ⟨up _ h3, fun q hq => up _ (h4 q hq)⟩)
theorem builtN_at {w : World} {b : BR} : ∀ {bs : List BR}, b ∈ bs → ∀ q ∈ prL w b.x b.v1 b.v2 ((b.li, listOf (itsOf b.ys) b.lk) :: chainN w b.x .none 0 b.ys), q ∈ builtN w bs
  | [], h, _, _ => nomatch h
  | c :: r, h, q, hq => by
    rcases List.mem_cons.mp h with rfl | h
    · simp only [builtN, List.mem_cons, List.mem_append] at hq ⊢
      rcases hq with h | h | h | h | h | h <;> simp only [h, true_or, or_true]
    · have := builtN_at h q hq
      simp only [builtN, List.mem_cons, List.mem_append]
      simp only [this, or_true]
noncomputable abbrev looseOf (bs : List BR) : List (PR × Value × Value) := bs.map fun b => (b.x, b.v1, b.v2)
theorem loose_mem {w : World} {q : Addr × Obj} : ∀ {bs : List BR}, q ∈ looseL w (looseOf bs) → q ∈ builtN w bs
  | [], h => nomatch h
  | b :: r, h => by
    have ih := loose_mem (w := w) (q := q) (bs := r)
    simp only [looseOf, List.map_cons, looseL, builtN, List.mem_cons, List.mem_append] at h ih ⊢
    focus (refine xO5 (h) ?_ ?_ ?_ ?_ ?_; (try clear h); intro h; rotate_left 1; (try clear h); intro h; rotate_left 1; (try clear h); intro h; rotate_left 1; (try clear h); intro h; rotate_left 1; (try clear h); intro h; rotate_left 1)
    · simp only [h, true_or]
    · simp only [h, true_or, or_true]
    · simp only [h, true_or, or_true]
    · simp only [h, true_or, or_true]
    · simp only [ih h, or_true]
theorem loose_cnt {w : World} {k : Nat} : ∀ {bs : List BR}, cnt k (looseL w (looseOf bs)) ≤ cnt k (builtN w bs)
  | [] => Nat.le_refl _
  | b :: r => by
    have ih := loose_cnt (w := w) (k := k) (bs := r)
    simp only [looseOf, List.map_cons, looseL, builtN, cnt, cnt_append] at ih ⊢
    k_extra "o"
theorem BR.v2_head (b : BR) : b.v2 = headRef .none b.ys := by unfold BR.v2 headRef; cases b.ys <;> rfl
structure RowOK (k : Nat) (r : RW) (x : PR) : Prop where
  name : r.name = x.name
  syms : r.syms = x.syms
  num : x.num = (k : Int)
  uv : x.uv.map (·.1) = dedupS x.syms
  len : x.its.length ≤ 3
  n7 : ∀ s ∈ x.syms, s ∈ N7
  nam : x.name ∈ S_ "S'" :: H3
structure RowsOK (rws : List RW) (xs : List PR) : Prop where
  len : xs.length = rws.length
  one : ∀ k r x, rws[k]? = some r → xs[k]? = some x → RowOK k r x
theorem RowsOK.snoc {rws : List RW} {xs : List PR} {r : RW} {x : PR} (H : RowsOK rws xs) (h : RowOK rws.length r x) : RowsOK (rws ++ [r]) (xs ++ [x]) := by
  refine ⟨by simp [H.len], fun k r' x' h1 h2 => ?_⟩
  by_cases hk : k < rws.length
  · rw [List.getElem?_append_left hk] at h1
    rw [List.getElem?_append_left (by rw [H.len]; exact hk)] at h2
    exact H.one k r' x' h1 h2
  · have hk2 := (List.getElem?_eq_some_iff.mp h1).1
    simp at hk2
    obtain rfl : k = rws.length := by k_extra "o"
    rw [List.getElem?_append_right (Nat.le_refl _), Nat.sub_self] at h1
    rw [List.getElem?_append_right (by rw [H.len]; exact Nat.le_refl _), H.len, Nat.sub_self] at h2
    cases h1
    cases h2
    exact h
theorem N7_16 {s : Str} (h : s ∈ N7) : s.length ≤ 16 := by
  simp only [N7, List.mem_cons, List.not_mem_nil, or_false] at h
  rcases h with rfl | rfl | rfl | rfl | rfl | rfl | rfl <;> decide +kernel
theorem N7_ne {s : Str} (h : s ∈ N7) : s ≠ S_ "S'" := by
  simp only [N7, List.mem_cons, List.not_mem_nil, or_false] at h
  rcases h with rfl | rfl | rfl | rfl | rfl | rfl | rfl <;> decide +kernel
theorem nam_16 {s : Str} (h : s ∈ S_ "S'" :: H3) : s.length ≤ 16 := by
  simp only [H3, List.mem_cons, List.not_mem_nil, or_false] at h
  rcases h with rfl | rfl | rfl | rfl <;> decide +kernel
theorem RowsOK.nums {rws : List RW} {xs : List PR} (H : RowsOK rws xs) (s : Str) : ∀ n, n ≤ xs.length → ((xs.take n).filter (fun x => x.name == s)).map (·.num) = numsTo rws (some s) n
  | 0, _ => rfl
  | n + 1, hn => by
    have hx : xs[n]? = some xs[n] := List.getElem?_eq_getElem (by k_extra "o")
    have hr : rws[n]? = some (rws[n]'(by rw [← H.len]; k_extra "o")) := List.getElem?_eq_getElem _
    have o := H.one n _ _ hr hx
    rw [List.take_add_one, hx, List.filter_append, List.map_append, H.nums s n (by k_extra "o"), numsTo_step]
    congr 1
    rw [hr, Option.map_some, o.name]
    show List.map _ (List.filter _ [xs[n]]) = _
    rw [List.filter_cons, List.filter_nil]
    by_cases e : xs[n].name = s
    · have e1 : (xs[n].name == s) = true := by rw [e]; exact beq_self_eq_true s
      rw [if_pos e1, if_pos (by dsimp only; rw [e]; exact beq_self_eq_true _), List.map_cons, List.map_nil, o.num]
    · rw [if_neg (by simpa using e), if_neg (by dsimp only; simpa using e), List.map_nil]
noncomputable def kvOf (xs : List PR) (s : Str) : List Value := (xs.filter (fun x => x.name == s)).map fun x => Value.ref x.p
noncomputable def hrOf (b : BR) : HR := match b.ys with
  | [] => ⟨b.x, b.v1, stOf b.x, ⟨0, 0, 0, 0, 0, listOf #[] 0, .none, [], fun _ => 0⟩, .none⟩
  | y :: r => ⟨b.x, b.v1, stOf b.x, y, headRef .none r⟩
theorem hrOf_z (b : BR) : (hrOf b).z = b.x := by unfold hrOf; cases b.ys <;> rfl
noncomputable def hrsOf (bs : List BR) (s : Str) : List HR := (bs.filter (fun b => b.x.name == s)).map hrOf
theorem hrs_vals (bs : List BR) (s : Str) : kvOf (bs.map BR.x) s = (hrsOf bs s).map (fun h => Value.ref h.z.p) := by
  unfold kvOf hrsOf
  rw [List.filter_map, List.map_map, List.map_map]
  exact List.map_congr_left fun b _ => by show Value.ref b.x.p = Value.ref (hrOf b).z.p; rw [hrOf_z]
theorem hrs_nums (bs : List BR) (s : Str) : (hrsOf bs s).map (·.z.num) = ((bs.map BR.x).filter (fun x => x.name == s)).map (·.num) := by
  unfold hrsOf
  rw [List.filter_map, List.map_map, List.map_map]
  exact List.map_congr_left fun b _ => by show (hrOf b).z.num = b.x.num; rw [hrOf_z]
theorem hrOf_in {w : World} {b : BR} {l : Led} (hy : b.ys.length = b.x.its.length + 1) (h : ∀ q ∈ prL w b.x b.v1 b.v2 ((b.li, listOf (itsOf b.ys) b.lk) :: chainN w b.x .none 0 b.ys), q ∈ l) : (hrOf b).In w l := by
  have e := BR.v2_head b
  unfold hrOf HR.In
  cases hb : b.ys with
  | nil => rw [hb] at hy; simp at hy
  | cons y r =>
    rw [hb] at h e
    rw [e] at h
    simp only [chainN] at h
    exact (yE0A3 (h _ (.tail _ (.head _))) (h _ (.head _)) ⟨h _ (.tail _ (.tail _ (.tail _ (.tail _ (.tail _ (.tail _ (.head _))))))), h _ (.tail _ (.tail _ (.tail _ (.tail _ (.tail _ (.head _))))))⟩)
theorem itsOf_eq (ys : List IT) : itsOf ys = (ys.map fun y => Value.ref y.a).toArray := rfl
theorem listOK_of {prog : Program} {w : World} {G : GA} {rl : Addr} {rws : List RW} {bs : List BR} {b : BR} {n nl n1 : Nat} {fx FX : Led} (H : RowsOK rws (bs.map BR.x)) (hb : bs[n]? = some b)
    (hit : ∀ b ∈ bs, b.ys.length = b.x.its.length + 1 ∧ ∀ j y, b.ys[j]? = some y → ItOK prog w (kvOf (bs.map BR.x)) b.x fx j y)
    (h1 : (G.g, instObj 283 G.dg) ∈ FX) (h2 : (G.dg, gramD w G) ∈ FX) (h3 : (G.lp, listOf ((bs.map BR.x).map fun x => Value.ref x.p).toArray nl) ∈ FX) (h4 : (rl, listOf (rwV rws).toArray n1) ∈ FX) (h5 : ∀ q ∈ rowsL rws, q ∈ FX)
    (hfx : ∀ q ∈ fx, q ∈ FX) (hN : ∀ q ∈ builtN w bs, q ∈ FX) (hl : rws.length ≤ 100) :
    ListOK prog w G rl b.li rws (bs.map BR.x) b.x n b.ys (kvOf (bs.map BR.x)) (hrsOf bs) nl n1 b.lk FX := by
  have hm := List.mem_of_getElem? hb
  have hbN := fun q hq => hN q (builtN_at hm q hq)
  refine xE0A2 (hit b hm) fun hyl hyo => ?_
  have hx : (bs.map BR.x)[n]? = some b.x := by rw [List.getElem?_map, hb]; rfl
  have z1q : ∃ r, rws[n]? = some r := ⟨_, List.getElem?_eq_getElem (by rw [← H.len]; exact (List.getElem?_eq_some_iff.mp hx).1)⟩; refine xE1A1 z1q ?_; (try clear z1q); intro r hr
  have o := H.one n r b.x hr hx
  have e := BR.v2_head b
  refine ⟨h1, h2, h3, h4, h5, hx, ⟨r, hr, o.name, o.syms⟩, hbN _ (.tail _ (.head _)), ?xd, hbN _ (.tail _ (.tail _ (.head _))), hbN _ (.tail _ (.tail _ (.tail _ (.head _)))), hbN _ (.tail _ (.tail _ (.tail _ (.tail _ (.head _))))), o.num, o.len, (fun q hq => N7_16 (o.n7 q hq)), nam_16 o.nam, o.uv, hyl, ?it, ?hd, H.len, hl⟩
  case xd => rw [← e]; exact hbN _ (.head _)
  case it =>
    intro j y hy
    have z := hyo j y hy
    refine xE0A4 (chainN_at (w := w) (x := b.x) (nx := .none) (i := 0) hy) fun c1 c2 c3 c4 => ?_
    rw [Nat.zero_add] at c2 c3
    have up : ∀ q, q ∈ chainN w b.x .none 0 b.ys → q ∈ FX := fun q hq => hbN q (.tail _ (.tail _ (.tail _ (.tail _ (.tail _ hq)))))
    refine xE1A1 (z.aft) fun k hk => ?_
    refine (yE0A7 (up _ c1) (up _ c2) (up _ c3) ⟨k, ?_⟩ (z.bef) (z.los) ⟨z.loi, z.lol⟩)
    rcases List.mem_append.mp hk with hk | hk
    · exact up _ (c4 _ hk)
    · exact hfx _ hk
  case hd =>
    intro s
    refine ⟨hrs_vals bs s, fun h hh => ?_, ?_⟩
    · refine xE1A2 (List.mem_map.mp hh) fun c hc z2q => ?_; obtain rfl := z2q
      have hc := (List.mem_filter.mp hc).1
      exact hrOf_in (hit c hc).1 fun q hq => hN q (builtN_at hc q hq)
    · rw [hrs_nums]
      have := H.nums s (bs.map BR.x).length (Nat.le_refl _)
      rw [List.take_length, H.len] at this
      exact this

theorem swap_fn {M : Model} {K : Frag} {f : Addr} {name qual name' qual' : Str} {params params' : Arguments} {body body' : List Stmt} {scope scope' : Scope} {dV kV doc pm cdv ct oc dV' kV' doc' pm' cdv' ct' oc' : Value} {an od an' od' : Option Addr} {osl osl' : Array (Option Value)} {L fa : Addr} {cd : Value} {Q : Flow → Shared → Prop} {E : Value → Shared → Prop} {s : Shared} {n : Nat}
    (hL : K.lookup f = some ⟨oc, od, .func (fnOf name qual params body scope dV kV doc pm an cdv ct), osl⟩) (e : K.lookup f = some ⟨oc', od', .func (fnOf name' qual' params' body' scope' dV' kV' doc' pm' an' cdv' ct'), osl'⟩)
    (h : wpAny M (callerA.deeper (envOfC qual' scope' L fa cd)) (execs (body'.drop n) (envOfC qual' scope' L fa cd)) Q E s) : wpAny M (callerA.deeper (envOfC qual scope L fa cd)) (execs (body.drop n) (envOfC qual scope L fa cd)) Q E s := by
  have e2 := hL.symm.trans e
  injection e2 with e2
  injection e2 with a b c d
  injection c with c
  injection c with c1 c2 c3 c4 c5
  injection c4 with c4
  subst c2 c4 c5
  exact h
section
variable {prog : Program} {w : World} {mean : ExcName → Option Value} {mg mb : Str → Option Value} {cn : Str} {cs : Scope} {a : Addr} {ccd : Value} {cl : List (Str × Addr)} {A A₀ : Around} {h₀ : Heap} {L f : Addr} {m : Str → Option Value} {s : Shared} {Q E : Value → Shared → Prop} {news nws : Led} {dp un : Nat} {args : List Value} {Post : Value → Led → Prop}
theorem does0_call (D : Does0 prog w dp un f args news Post) (B : Below A₀ h₀ [] h₀) (F : Fr h₀ L s.heap m) (X : (hd.heap_1 w.params).In h₀) (N : News h₀ L s.heap nws) (hs : ∀ q ∈ news, q ∈ nws) (T : Top hdV LOOSE mean mg mb h₀) (hfr : A.frames = some [envX cn cs L a ccd cl]) (hh : A.handled = none) (hdp : A.depth ≤ dp) (hg : A.guards = some []) (hu : A.units ≤ un) (hk : cs.kind = .function)
    (h : ∀ r news' h' tk', Fr h₀ L h' m → News h₀ L h' news' → Post r news' → Q r { s with heap := h', toks := tk' }) : wpAny (model prog w) A (call (.ref f) args) Q E s :=
  around_up (D mean mg mb cn cs a ccd cl A₀ h₀ L m s Q E B F X (News.perm N hs) T hk h) hh hdp hfr.symm hg.symm hu
theorem does_call {outer : List Env} {base : Heap} (D : Does prog w dp un f args news Post) (B : Below A₀ base outer h₀) (F : Fr h₀ L s.heap m) (X : (hd.heap_1 w.params).In h₀) (N : News h₀ L s.heap nws) (hs : ∀ q ∈ news, q ∈ nws) (T : Top hdV LOOSE mean mg mb h₀) (hfr : A.frames = some (envX cn cs L a ccd cl :: outer)) (hh : A.handled = none) (hdp : A.depth ≤ dp) (hg : A.guards = some []) (hu : A.units ≤ un) (hk : cs.kind = .function)
    (h : ∀ r news' h' tk', Fr h₀ L h' m → News h₀ L h' news' → Post r news' → Q r { s with heap := h', toks := tk' }) : wpAny (model prog w) A (call (.ref f) args) Q E s :=
  around_up (D mean mg mb cn cs a ccd cl outer A₀ base h₀ L m s Q E B F X (News.perm N hs) T hk h) hh hdp hfr.symm hg.symm hu
end
structure LawOK (prog : Program) (w : World) (B : Nat) (M : GM) (rws : List RW) (xs : List PR) : Prop where
  rows : RowsOK rws xs
  rel : RelR M rws
  mok : MOK prog w B M
  lpv : M.lpv = xs.map fun x => Value.ref x.p
  pn : ∀ s, s ≠ S_ "S'" → dlGet M.pn s = kvOf xs s
  pm : ∀ e ∈ M.pm, ∃ x ∈ xs, e.2 = .ref x.p
noncomputable abbrev lawL (w : World) (G : GA) (M : GM) (pco : Obj) (pt : Addr) (pv : List Value) (npt : Nat) (rl : Addr) (rws : List RW) (n1 : Nat) (vs : List (PR × Value × Value)) (tp : Addr) (ts : List Value) (nt : Nat) (R : Led) : Led :=
  (tp, listOf ts.toArray nt) :: (rl, listOf (rwV rws).toArray n1) :: stL w G M pco pt pv npt (rowsL rws ++ (looseL w vs ++ R))
noncomputable def LawJ (prog : Program) (w : World) (G : GA) (pco : Obj) (pt : Addr) (pv : List Value) (npt : Nat) (rl tp : Addr) (R : Led) (i : Nat) (nws : Led) : Prop :=
  ∃ (M : GM) (rws : List RW) (vs : List (PR × Value × Value)) (n1 : Nat) (ts : List Value) (ns : List Int) (nt : Nat), LawOK prog w (40 + 10 * i) M rws (vs.map (·.1)) ∧ rws.length ≤ 2 + i ∧ IntsAre ts ns ∧ ts.length ≤ 63 ∧ nws = lawL w G M pco pt pv npt rl rws n1 vs tp ts nt R ∧ Sep nws
structure LoOK (prog : Program) (w : World) (G : GA) (pco : Obj) (pt : Addr) : Prop where
  te : (G.te == sysModules) = false
  nt : (G.nt == sysModules) = false
  pn : (G.pn == sysModules) = false
  pm : (G.pm == sysModules) = false
  pc : (G.pc == sysModules) = false
  pco : pco.IsDictOf (PySem.strKind prog w) [(Str.ofString "a", .ref pt)]

noncomputable abbrev fxL (w : World) (G : GA) (M : GM) (pco : Obj) (pt : Addr) (pv : List Value) (npt : Nat) (rl : Addr) (rws : List RW) (n1 : Nat) (tp : Addr) (ts : List Value) (nt : Nat) (R : Led) : Led :=
  (tp, listOf ts.toArray nt) :: (rl, listOf (rwV rws).toArray n1) :: stL w G M pco pt pv npt (rowsL rws ++ R)
section
variable {w : World} {G : GA} {M : GM} {pco : Obj} {pt rl tp L : Addr} {pv : List Value} {npt n1 nt : Nat} {rws : List RW} {vs : List (PR × Value × Value)} {ts : List Value} {R R' : Led} {o1 o2 o3 : Obj}
structure At3 (L : Addr) (o1 o2 o3 : Obj) (R : Led) : Prop where
  e1 : (L + 1, o1) ∈ R
  e2 : (L + 1 + 1, o2) ∈ R
  e3 : (L + 1 + 1 + 1, o3) ∈ R
theorem At3.own : At3 L o1 o2 o3 [(L + 1 + 1 + 1, o3), (L + 1 + 1, o2), (L + 1, o1)] := ⟨.tail _ (.tail _ (.head _)), .tail _ (.head _), .head _⟩
theorem At3.up (A : At3 L o1 o2 o3 R) (h : ∀ q ∈ R, q ∈ R') : At3 L o1 o2 o3 R' := ⟨h _ A.e1, h _ A.e2, h _ A.e3⟩
theorem fx_at {q : Addr × Obj} (h : q ∈ (G.g, instObj 283 G.dg) :: (G.dg, gramD w G) :: (G.lp, listOf M.lpv.toArray M.nlp) :: (rl, listOf (rwV rws).toArray n1) :: (tp, listOf ts.toArray nt) :: R) : q ∈ fxL w G M pco pt pv npt rl rws n1 tp ts nt R := by
  exact ledIn [_, _, _, _, _, _, _, _, _, _, _, _] [_, _, _, _, _] (.c 8 <| .c 9 <| .c 5 <| .c 1 <| .c 0 <| .l 4) (.c 0 <| .c 1 <| .c 2 <| .c 3 <| .c 4 <| .c 5 <| .c 6 <| .c 7 <| .c 8 <| .c 9 <| .c 10 <| .c 11 <| .a (.l 0) <| .a (.l 1) <| .a (.l 2) <| .a (.l 3) <| .l 4) rfl _ h
theorem law_at {q : Addr × Obj} (h : q ∈ (G.g, instObj 283 G.dg) :: (G.dg, gramD w G) :: R) : q ∈ lawL w G M pco pt pv npt rl rws n1 vs tp ts nt R := by
  exact ledIn [_, _, _, _, _, _, _, _, _, _, _, _] [_, _, _, _, _, _] (.c 8 <| .c 9 <| .l 5) (.c 0 <| .c 1 <| .c 2 <| .c 3 <| .c 4 <| .c 5 <| .c 6 <| .c 7 <| .c 8 <| .c 9 <| .c 10 <| .c 11 <| .a (.l 0) <| .a (.l 1) <| .a (.l 2) <| .a (.l 3) <| .a (.l 4) <| .l 5) rfl _ h
structure AtNW (w : World) (G : GA) (L : Addr) (o1 o2 o3 : Obj) (R : Led) : Prop extends At3 L o1 o2 o3 R where
  e4 : (G.g, instObj 283 G.dg) ∈ R
  e5 : (G.dg, gramD w G) ∈ R
theorem AtNW.law (A : At3 L o1 o2 o3 R) : AtNW w G L o1 o2 o3 (lawL w G M pco pt pv npt rl rws n1 vs tp ts nt R) := ⟨A.up fun _ h => law_at (.tail _ (.tail _ h)), law_at (.head _), law_at (.tail _ (.head _))⟩
theorem AtNW.up (A : AtNW w G L o1 o2 o3 R) (h : ∀ q ∈ R, q ∈ R') : AtNW w G L o1 o2 o3 R' := ⟨A.toAt3.up h, h _ A.e4, h _ A.e5⟩
structure AtZ (w : World) (G : GA) (M : GM) (rl : Addr) (rws : List RW) (n1 : Nat) (tp : Addr) (ts : List Value) (nt : Nat) (L : Addr) (o1 o2 o3 : Obj) (R : Led) : Prop extends AtNW w G L o1 o2 o3 R where
  e6 : (G.lp, listOf M.lpv.toArray M.nlp) ∈ R
  e7 : (rl, listOf (rwV rws).toArray n1) ∈ R
  e8 : (tp, listOf ts.toArray nt) ∈ R
theorem AtZ.fx (A : At3 L o1 o2 o3 R) : AtZ w G M rl rws n1 tp ts nt L o1 o2 o3 (fxL w G M pco pt pv npt rl rws n1 tp ts nt R) :=
  ⟨⟨A.up fun _ h => fx_at (.tail _ (.tail _ (.tail _ (.tail _ (.tail _ h))))), fx_at (.head _), fx_at (.tail _ (.head _))⟩, fx_at (.tail _ (.tail _ (.head _))), fx_at (.tail _ (.tail _ (.tail _ (.head _)))), fx_at (.tail _ (.tail _ (.tail _ (.tail _ (.head _)))))⟩
theorem AtZ.up (A : AtZ w G M rl rws n1 tp ts nt L o1 o2 o3 R) (h : ∀ q ∈ R, q ∈ R') : AtZ w G M rl rws n1 tp ts nt L o1 o2 o3 R' := ⟨A.toAtNW.up h, h _ A.e6, h _ A.e7, h _ A.e8⟩
end
section
variable {prog : Program} {w : World} {G : GA} {B : Nat} {M : GM} {pco : Obj} {pt rl tp : Addr} {pv : List Value} {npt n1 nt : Nat} {rws : List RW} {vs : List (PR × Value × Value)} {ts : List Value} {R X : Led} {bs : List BR}
theorem fx_mem {q : Addr × Obj} (h : q ∈ fxL w G M pco pt pv npt rl rws n1 tp ts nt R ++ looseL w vs) : q ∈ lawL w G M pco pt pv npt rl rws n1 vs tp ts nt R := by
  exact ledIn [_, _, _, _, _, _, _, _, _, _, _, _] [_, _, _, _, _, _] (.a (.c 0 <| .c 1 <| .c 2 <| .c 3 <| .c 4 <| .c 5 <| .c 6 <| .c 7 <| .c 8 <| .c 9 <| .c 10 <| .c 11 <| .a (.l 0) <| .a (.l 1) <| .a (.l 2) <| .a (.l 3) <| .l 5) <| .l 4) (.c 0 <| .c 1 <| .c 2 <| .c 3 <| .c 4 <| .c 5 <| .c 6 <| .c 7 <| .c 8 <| .c 9 <| .c 10 <| .c 11 <| .a (.l 0) <| .a (.l 1) <| .a (.l 2) <| .a (.l 3) <| .a (.l 4) <| .l 5) rfl _ h
theorem fx_cnt {k : Nat} : cnt k (fxL w G M pco pt pv npt rl rws n1 tp ts nt R ++ looseL w vs) ≤ cnt k (lawL w G M pco pt pv npt rl rws n1 vs tp ts nt R) := by
  exact ledCnt [_, _, _, _, _, _, _, _, _, _, _, _] [_, _, _, _, _, _] (.a (.c 0 <| .c 1 <| .c 2 <| .c 3 <| .c 4 <| .c 5 <| .c 6 <| .c 7 <| .c 8 <| .c 9 <| .c 10 <| .c 11 <| .a (.l 0) <| .a (.l 1) <| .a (.l 2) <| .a (.l 3) <| .l 5) <| .l 4) (.c 0 <| .c 1 <| .c 2 <| .c 3 <| .c 4 <| .c 5 <| .c 6 <| .c 7 <| .c 8 <| .c 9 <| .c 10 <| .c 11 <| .a (.l 0) <| .a (.l 1) <| .a (.l 2) <| .a (.l 3) <| .a (.l 4) <| .l 5) rfl k
theorem law_in {I : Addr} {it : Obj} (h : ∀ q ∈ lawL w G M pco pt pv npt rl rws n1 vs tp ts nt R, q.1 ≠ I) (S : Sep (lawL w G M pco pt pv npt rl rws n1 vs tp ts nt R)) : Sep (lawL w G M pco pt pv npt rl rws n1 vs tp ts nt ((I, it) :: R)) := by
  refine Sep.sub (Sep.cons (p := (I, it)) h S) fun k => ?_
  exact ledCnt [_, _, _, _, _, _, _, _, _, _, _, _, _] [_, _, _, _, _, _] (.c 1 <| .c 2 <| .c 3 <| .c 4 <| .c 5 <| .c 6 <| .c 7 <| .c 8 <| .c 9 <| .c 10 <| .c 11 <| .c 12 <| .a (.l 0) <| .a (.l 1) <| .a (.l 2) <| .a (.l 3) <| .a (.l 4) <| .c 0 <| .l 5) (.c 0 <| .c 1 <| .c 2 <| .c 3 <| .c 4 <| .c 5 <| .c 6 <| .c 7 <| .c 8 <| .c 9 <| .c 10 <| .c 11 <| .c 12 <| .a (.l 0) <| .a (.l 1) <| .a (.l 2) <| .a (.l 3) <| .a (.l 4) <| .l 5) rfl k
theorem law_out {I : Addr} {it : Obj} {q : Addr × Obj} (h : q ∈ lawL w G M pco pt pv npt rl rws n1 vs tp ts nt ((I, it) :: R)) : q ∈ (I, it) :: lawL w G M pco pt pv npt rl rws n1 vs tp ts nt R := by
  exact ledIn [_, _, _, _, _, _, _, _, _, _, _, _, _] [_, _, _, _, _, _] (.c 1 <| .c 2 <| .c 3 <| .c 4 <| .c 5 <| .c 6 <| .c 7 <| .c 8 <| .c 9 <| .c 10 <| .c 11 <| .c 12 <| .a (.l 0) <| .a (.l 1) <| .a (.l 2) <| .a (.l 3) <| .a (.l 4) <| .c 0 <| .l 5) (.c 0 <| .c 1 <| .c 2 <| .c 3 <| .c 4 <| .c 5 <| .c 6 <| .c 7 <| .c 8 <| .c 9 <| .c 10 <| .c 11 <| .c 12 <| .a (.l 0) <| .a (.l 1) <| .a (.l 2) <| .a (.l 3) <| .a (.l 4) <| .l 5) rfl _ h
noncomputable def BuiltOK (prog : Program) (w : World) (xs : List PR) (fx : Led) (nws : Led) : Prop :=
  ∃ bs : List BR, bs.map BR.x = xs ∧ (∀ q ∈ laAll bs ++ (builtN w bs ++ fx), q ∈ nws) ∧ Sep (laAll bs ++ (builtN w bs ++ fx)) ∧ ∀ b ∈ bs, b.ys.length = b.x.its.length + 1 ∧ ∀ j y, b.ys[j]? = some y → ItOK prog w (kvOf xs) b.x fx j y
theorem law_build (H : LawOK prog w B M rws (vs.map (·.1))) (lo : LoOK prog w G pco pt) (S : Sep (lawL w G M pco pt pv npt rl rws n1 vs tp ts nt R)) :
    Does0 prog w 400 400 280 [.ref G.g] (fxL w G M pco pt pv npt rl rws n1 tp ts nt R ++ looseL w vs) (fun _ nws => BuiltOK prog w (vs.map (·.1)) (fxL w G M pco pt pv npt rl rws n1 tp ts nt R) nws) := by
  have hall : ∀ y ∈ vs, ∃ k r, RowOK k r y.1 := fun y hy => by
    refine xE1A1 (List.getElem?_of_mem hy) fun k hk => ?_
    have hx : (vs.map (·.1))[k]? = some y.1 := by rw [List.getElem?_map, hk]; rfl
    have z1q : ∃ r, rws[k]? = some r := ⟨_, List.getElem?_eq_getElem (by rw [← H.rows.len]; exact (List.getElem?_eq_some_iff.mp hx).1)⟩; refine xE1A1 z1q ?_; (try clear z1q); intro r hr
    exact ⟨k, r, H.rows.one k r y.1 hr hx⟩
  have D := build_spec prog w G vs M.nlp (kvOf (vs.map (·.1))) (dlKV M.pn) M.pno (fxL w G M pco pt pv npt rl rws n1 tp ts nt R) (fx_at (.head _)) (fx_at (.tail _ (.head _))) (by
    rw [show (vs.map fun y => Value.ref y.1.p) = M.lpv by rw [H.lpv, List.map_map]; rfl]
    exact fx_at (.tail _ (.tail _ (.head _)))) (by simp) H.mok.pn lo.pn (fun y hy => by
      refine xE2A1 (hall y hy) fun k r o => ?_
      exact o.len) (fun y hy s hs => by
      refine xE2A1 (hall y hy) fun k r o => ?_
      rw [← H.pn s (N7_ne (o.n7 s hs))]
      focus (refine xO2 (dl_has M.pn s) ?_ ?_; intro z; rotate_left 1; intro w1q; refine xE2A2 w1q ?_; (try clear w1q); intro al n z1 z2; rotate_left 1)
      · exact .inl z
      · refine .inr ⟨al, n, z1, ?_⟩
        dsimp only [fxL, stL, gmL]
        simp only [List.mem_cons, List.mem_append, z2, true_or, or_true]) (Sep.sub S fun k => fx_cnt)
  intro mean mg mb cn cs a ccd cl A₀ h₀ L m s Q E Bl F X N T hk hret
  refine D mean mg mb cn cs a ccd cl A₀ h₀ L m s Q E Bl F X N T hk fun r news' h' tk' F' N' hp => hret r news' h' tk' F' N' ?_
  refine xE1A4 hp ?_; (try clear hp); intro bs e1 z2q e3 e4; obtain rfl := z2q
  refine (yE1A3 bs e1 (fun q hq => ?_) ⟨Sep.sub e3 fun k => ?_, e4⟩)
  · rcases List.mem_append.mp hq with h | h
    · exact List.mem_append_right _ (built_mem (.inl h))
    · rcases List.mem_append.mp h with h | h
      · exact List.mem_append_right _ (built_mem (.inr h))
      · exact List.mem_append_left _ h
  · have := built_cnt (w := w) (k := k) (bs := bs)
    rw [cnt_append, cnt_append, cnt_append]
    exact Nat.le_of_eq (by rw [← Nat.add_assoc, this, Nat.add_comm])
theorem laAll_drop {b : BR} {n : Nat} (h : bs[n]? = some b) : laAll (bs.drop n) = laL b.ys ++ laAll (bs.drop (n + 1)) := by
  refine xE1A1 (List.getElem?_eq_some_iff.mp h) fun hi z3q => ?_; obtain rfl := z3q
  rw [List.drop_eq_getElem_cons hi]
  rfl
theorem laAll_append : ∀ a b : List BR, laAll (a ++ b) = laAll a ++ laAll b
  | [], _ => rfl
  | y :: r, b => by simp [laAll, laAll_append r b]
theorem laAll_cnt {i k : Nat} : cnt k (laAll (bs.drop i)) ≤ cnt k (laAll bs) := by
  have e : laAll bs = laAll (bs.take i) ++ laAll (bs.drop i) := by rw [← laAll_append, List.take_append_drop]
  rw [e, cnt_append]
  exact Nat.le_add_left ..
theorem sep_comp {I C D : Addr} {oI oC oD : Obj} {i : Nat} {Z : Led} (S : Sep (laAll bs ++ Z)) (off : LCg.Off3 I C D (laAll (bs.drop i) ++ Z)) (ne : ((@Ne Nat I C) ∧ (@Ne Nat I D) ∧ (@Ne Nat C D))) : Sep (laAll (bs.drop i) ++ ([(I, oI), (C, oC), (D, oD)] ++ Z)) := by
  have S1 : Sep (laAll (bs.drop i) ++ Z) := Sep.sub S fun k => by
    have := laAll_cnt (bs := bs) (i := i) (k := k)
    rw [cnt_append, cnt_append]
    exact Nat.add_le_add_right this _
  have S2 : Sep ((I, oI) :: (C, oC) :: (D, oD) :: (laAll (bs.drop i) ++ Z)) := by
    refine Sep.cons (List.forall_mem_cons.mpr ⟨Ne.symm ne.1, List.forall_mem_cons.mpr ⟨Ne.symm ne.2.1, fun q hq => (off.mem q hq).1⟩⟩) (Sep.cons (List.forall_mem_cons.mpr ⟨Ne.symm ne.2.2, fun q hq => (off.mem q hq).2.1⟩) (Sep.cons (fun q hq => (off.mem q hq).2.2) S1))
  refine Sep.sub S2 fun k => ?_
  exact ledCnt [_, _, _] [_, _] (.a (.l 0) <| .a (.c 0 <| .c 1 <| .c 2 <| .n) <| .l 1) (.c 0 <| .c 1 <| .c 2 <| .a (.l 0) <| .l 1) rfl k
theorem compJ_listed {h₀ h' : Heap} {L I C D : Addr} {m : Str → Option Value} {s : Shared} {oI oC : Obj} {ys : List Value} {i tk' : Nat} {Z nws : Led} (F : Fr h₀ L h' m) (N : News h₀ L h' nws) (hi : i < bs.length)
    (hs : ∀ q ∈ laAll (bs.drop (i + 1)) ++ ([(I, oI), (C, oC), (D, LCg.lst ys)] ++ Z), q ∈ nws) (off : LCg.Off3 I C D (laAll (bs.drop i) ++ Z)) (hb : LSm.BoolsAre ys (List.replicate i true)) :
    CompJ h₀ L m s I oI C oC D ys (fun y news => LSm.BoolsAre (ys ++ [y]) (List.replicate (i + 1) true) ∧ news = laAll (bs.drop (i + 1)) ++ Z) (.bool true) { s with heap := h', toks := tk' } := by
  refine (yE3A6 (laAll (bs.drop (i + 1)) ++ Z) h' tk' rfl F (News.perm N fun q hq => hs q ?_) (LCg.Off3.of fun p hp => off.mem p ?_) ?_ rfl)
  · exact ledIn [_, _, _] [_, _] (.c 0 <| .c 1 <| .c 2 <| .a (.l 0) <| .l 1) (.a (.l 0) <| .a (.c 0 <| .c 1 <| .c 2 <| .n) <| .l 1) rfl _ hq
  · rw [laAll_drop (List.getElem?_eq_getElem hi)]
    exact ledIn [] [_, _, _] (.a (.l 1) <| .l 2) (.a (.a (.l 0) <| .l 1) <| .l 2) rfl _ hp
  · rw [List.replicate_succ']
    exact boolsAre_snoc hb
theorem law_listed {n : Nat} {tn : Tok} (H : LawOK prog w B M rws (bs.map BR.x)) (hl : rws.length ≤ 100) (hn : n < bs.length)
    (hit : ∀ b ∈ bs, b.ys.length = b.x.its.length + 1 ∧ ∀ j y, b.ys[j]? = some y → ItOK prog w (kvOf (bs.map BR.x)) b.x (fxL w G M pco pt pv npt rl rws n1 tp ts nt R) j y)
    (S : Sep (laAll (bs.drop n) ++ (X ++ (builtN w bs ++ fxL w G M pco pt pv npt rl rws n1 tp ts nt R)))) :
    Does prog w 320 100 324 [.ref G.g, .ref rl, .int (n : Int) tn] (laAll (bs.drop n) ++ (X ++ (builtN w bs ++ fxL w G M pco pt pv npt rl rws n1 tp ts nt R)))
      (fun r nws => r = .bool true ∧ ∀ q ∈ laAll (bs.drop (n + 1)) ++ (X ++ (builtN w bs ++ fxL w G M pco pt pv npt rl rws n1 tp ts nt R)), q ∈ nws) := by
  have hb : bs[n]? = some bs[n] := List.getElem?_eq_getElem hn
  rw [laAll_drop hb, List.append_assoc] at S ⊢
  refine listed_spec prog w G rl bs[n].li rws (bs.map BR.x) bs[n].x n bs[n].ys (kvOf (bs.map BR.x)) (hrsOf bs) M.nlp n1 bs[n].lk _ tn ?_ S
  refine listOK_of (fx := fxL w G M pco pt pv npt rl rws n1 tp ts nt R) H.rows hb hit ?_ ?_ ?_ ?_ ?_ (fun q hq => ?_) (fun q hq => ?_) hl
  · dsimp only [fxL, stL, gmL]
    simp only [List.mem_cons, List.mem_append, true_or, or_true]
  · dsimp only [fxL, stL, gmL]
    simp only [List.mem_cons, List.mem_append, true_or, or_true]
  · rw [← H.lpv]
    dsimp only [fxL, stL, gmL]
    simp only [List.mem_cons, List.mem_append, true_or, or_true]
  · dsimp only [fxL, stL, gmL]
    simp only [List.mem_cons, List.mem_append, true_or, or_true]
  · intro q hq
    dsimp only [fxL, stL, gmL]
    simp only [List.mem_cons, List.mem_append, hq, true_or, or_true]
  · simp only [List.mem_append, hq, or_true]
  · simp only [List.mem_append, hq, true_or, or_true]
end
section
open LSm
variable {prog : Program} {w : World} {A : Around} {E : Value → Shared → Prop} {s : Shared} {h₀ : Heap} {L l : Addr} {m : Str → Option Value} {news : Led} {vs : List Value} {k n : Nat} {Q : Value → Shared → Prop}
theorem all_true_b (F : Fr h₀ L s.heap m) (N : News h₀ L s.heap news) (hh : A.handled = none) (hm : (l, listOf vs.toArray n) ∈ news) (hb : BoolsAre vs (List.replicate k true))
    (h : ∀ h' tk, Fr h₀ L h' m → News h₀ L h' news → Q (.bool true) { s with heap := h', toks := tk }) : wpAny (model prog w) A (call (.builtin "all") [.ref l]) Q E s := by
  refine all_bools F N hh (N.isList hm) hb ?_
  rw [show (List.replicate k true).all id = true by simp [List.all_eq_true]]
  exact h
theorem bools_snoc {b : Bool} (hb : BoolsAre vs (List.replicate k true)) : BoolsAre (vs ++ [.bool true]) (List.replicate (k + 1) true) := by
  rw [List.replicate_succ']
  exact boolsAre_snoc hb
end

section
variable {prog : Program} {w : World} {mean : ExcName → Option Value} {mg mb : Str → Option Value} {cn : Str} {cs : Scope} {a : Addr} {ccd : Value} {cl : List (Str × Addr)} {outer : List Env} {A A₀ : Around} {base h₀ : Heap} {L l : Addr} {m : Str → Option Value} {s : Shared} {Q E : Value → Shared → Prop} {pre REST : Led} {vs : List Value} {ns : List Int} {n : Nat}
theorem next_at (hi : IntsAre vs ns) (B : Below A₀ base outer h₀) (F : Fr h₀ L s.heap m) (X : (hd.heap_1 w.params).In h₀) (N : News h₀ L s.heap (pre ++ (l, listOf vs.toArray n) :: REST)) (T : Top hdV LOOSE mean mg mb h₀) (hp : ∀ q ∈ pre, @Ne Nat q.1 l) (hoff : ∀ q ∈ REST, @Ne Nat q.1 l) (hlen : vs.length ≤ 63)
    (hfr : A.frames = some (envX cn cs L a ccd cl :: outer)) (hh : A.handled = none) (hdp : A.depth ≤ 400) (hg : A.guards = some []) (hu : A.units ≤ 400) (hk : cs.kind = .function)
    (h : ∀ t vs' n' h' tk', Fr h₀ L h' m → News h₀ L h' ((l, listOf (List.toArray vs') n') :: (pre ++ REST)) → IntsAre vs' ns.tail → vs'.length ≤ 63 → Q (.int (ns.headD 0) t) { s with heap := h', toks := tk' }) : wpAny (model prog w) A (call (.ref 309) [.ref l]) Q E s := by
  refine does_call (next_spec prog w l ns vs n hi (pre ++ REST) (fun q hq => ?_) hlen) B F X N (fun q hq => ?_) T hfr hh hdp hg hu hk ?_
  · rcases List.mem_append.mp hq with hq | hq
    · exact hp q hq
    · exact hoff q hq
  · exact ledIn [_] [_, _] (.c 0 <| .a (.l 0) <| .l 1) (.a (.l 0) <| .c 0 <| .l 1) rfl _ hq
  · intro r news' h' tk' F' N' z1q; refine xE3A4 z1q ?_; (try clear z1q); intro t vs' n' z2q z3q hi' hl'; obtain rfl := z2q; obtain rfl := z3q
    exact h t vs' n' h' tk' F' N' hi' (Nat.le_trans hl' hlen)
end
section
variable {w : World} {G : GA} {M : GM} {pco : Obj} {pt rl tp I : Addr} {pv : List Value} {npt n1 nt : Nat} {rws : List RW} {ts : List Value} {R Z : Led} {bs : List BR} {it : Obj} {vs : List (PR × Value × Value)}
noncomputable abbrev lawR (w : World) (G : GA) (M : GM) (pco : Obj) (pt : Addr) (pv : List Value) (npt : Nat) (rl : Addr) (rws : List RW) (n1 : Nat) (vs : List (PR × Value × Value)) (R : Led) : Led :=
  (rl, listOf (rwV rws).toArray n1) :: stL w G M pco pt pv npt (rowsL rws ++ (looseL w vs ++ R))
theorem lawR_at {q : Addr × Obj} (h : q ∈ R) : q ∈ lawR w G M pco pt pv npt rl rws n1 vs R := by
  have h : q ∈ R ++ [] := List.mem_append_left _ h
  exact ledIn [_, _, _, _, _, _, _, _, _, _, _] [_, _, _, _, _, _] (.a (.l 5) <| .n) (.c 0 <| .c 1 <| .c 2 <| .c 3 <| .c 4 <| .c 5 <| .c 6 <| .c 7 <| .c 8 <| .c 9 <| .c 10 <| .a (.l 0) <| .a (.l 1) <| .a (.l 2) <| .a (.l 3) <| .a (.l 4) <| .l 5) rfl _ h
theorem law_back_mem (hZ : builtN w bs ++ fxL w G M pco pt pv npt rl rws n1 tp ts nt ((I, it) :: R) = Z) {q : Addr × Obj} (h : q ∈ (tp, listOf ts.toArray nt) :: (I, it) :: lawR w G M pco pt pv npt rl rws n1 (looseOf bs) R) : q ∈ laAll [] ++ Z := by
  have h2 : q ∈ looseL w (looseOf bs) ++ fxL w G M pco pt pv npt rl rws n1 tp ts nt ((I, it) :: R) := by
    exact ledIn [_, _, _, _, _, _, _, _, _, _, _, _, _] [_, _, _, _, _, _] (.c 0 <| .c 12 <| .c 1 <| .c 2 <| .c 3 <| .c 4 <| .c 5 <| .c 6 <| .c 7 <| .c 8 <| .c 9 <| .c 10 <| .c 11 <| .a (.l 1) <| .a (.l 2) <| .a (.l 3) <| .a (.l 4) <| .a (.l 0) <| .l 5) (.a (.l 0) <| .c 0 <| .c 1 <| .c 2 <| .c 3 <| .c 4 <| .c 5 <| .c 6 <| .c 7 <| .c 8 <| .c 9 <| .c 10 <| .c 11 <| .a (.l 1) <| .a (.l 2) <| .a (.l 3) <| .a (.l 4) <| .c 12 <| .l 5) rfl _ h
  rw [← hZ]
  rcases List.mem_append.mp h2 with h | h
  · exact List.mem_append_right _ (List.mem_append_left _ (loose_mem h))
  · exact List.mem_append_right _ (List.mem_append_right _ h)
theorem law_back_sep {la : Led} (hZ : builtN w bs ++ fxL w G M pco pt pv npt rl rws n1 tp ts nt ((I, it) :: R) = Z) (S : Sep (la ++ Z)) : Sep ((tp, listOf ts.toArray nt) :: (I, it) :: lawR w G M pco pt pv npt rl rws n1 (looseOf bs) R) := by
  refine Sep.sub S fun k => ?_
  have := loose_cnt (w := w) (k := k) (bs := bs)
  have h2 : cnt k ((tp, listOf ts.toArray nt) :: (I, it) :: lawR w G M pco pt pv npt rl rws n1 (looseOf bs) R) ≤ cnt k (looseL w (looseOf bs) ++ fxL w G M pco pt pv npt rl rws n1 tp ts nt ((I, it) :: R)) := by
    exact ledCnt [_, _, _, _, _, _, _, _, _, _, _, _, _] [_, _, _, _, _, _] (.c 0 <| .c 12 <| .c 1 <| .c 2 <| .c 3 <| .c 4 <| .c 5 <| .c 6 <| .c 7 <| .c 8 <| .c 9 <| .c 10 <| .c 11 <| .a (.l 1) <| .a (.l 2) <| .a (.l 3) <| .a (.l 4) <| .a (.l 0) <| .l 5) (.a (.l 0) <| .c 0 <| .c 1 <| .c 2 <| .c 3 <| .c 4 <| .c 5 <| .c 6 <| .c 7 <| .c 8 <| .c 9 <| .c 10 <| .c 11 <| .a (.l 1) <| .a (.l 2) <| .a (.l 3) <| .a (.l 4) <| .c 12 <| .l 5) rfl k
  refine Nat.le_trans h2 ?_
  rw [← hZ, cnt_append, cnt_append, cnt_append]
  k_extra "o"
end
section
variable {prog : Program} {w : World} {A : Around} {E : Value → Shared → Prop} {s : Shared} {h₀ : Heap} {L t : Addr} {m : Str → Option Value} {news : Led} {vs : List Value} {n : Nat} {Q : Value → Shared → Prop}
theorem pick_mod {z q : Int} (hq : (vs.length : Int) = q) (h0 : 0 < vs.length) (h9 : vs.length ≤ 1000) : ∃ v ∈ vs, PickL vs (z.fmod q) v := by
  have h1 : 0 ≤ z.fmod q := Int.fmod_nonneg_of_pos _ (by k_extra "o")
  have h2 : z.fmod q < q := Int.fmod_lt_of_pos _ (by k_extra "o")
  refine xE1A1 (Int.eq_ofNat_of_zero_le h1) fun k hk => ?_
  rw [hk] at h2 ⊢
  have hl : k < vs.length := by k_extra "o"
  exact ⟨vs[k], List.getElem_mem _, pick_nat (List.getElem?_eq_getElem hl) (by k_extra "o")⟩
theorem list_mod {value slice : Expr} {P : Value → Prop} {z q : Int} {u : Tok} (N : News h₀ L s.heap news) (hm : (t, listOf vs.toArray n) ∈ news) (hq : (vs.length : Int) = q) (h0 : 0 < vs.length) (h9 : vs.length ≤ 1000) (hP : ∀ v ∈ vs, P v) (h : ∀ v, P v → Q v s)
    (hs : subscripted slice false (.ref t) (.int (z.fmod q) u) = operate [.ref t, .int (z.fmod q) u] (getItem (.ref t) (.int (z.fmod q) u)) := by with_unfolding_all rfl) (hg : ∀ r, letTemporaryGo value (.ref t) r = pure () := by intro _; with_unfolding_all rfl) :
    wpAny (model prog w) A (subscriptTail value slice (.ref t) (.int (z.fmod q) u)) Q E s := by
  refine xE1A2 (pick_mod (z := z) hq h0 h9) fun v hv hp => ?_
  exact list_pick N hm hp (h v (hP v hv)) hs hg
theorem base_mod {value slice : Expr} {P : Value → Prop} {z q : Int} {u : Tok} {its : Array Value} (hl : s.heap.IsList t its) (hv : its = vs.toArray) (hq : (vs.length : Int) = q) (h0 : 0 < vs.length) (h9 : vs.length ≤ 1000) (hP : ∀ v ∈ vs, P v) (h : ∀ v, P v → Q v s)
    (hs : subscripted slice false (.ref t) (.int (z.fmod q) u) = operate [.ref t, .int (z.fmod q) u] (getItem (.ref t) (.int (z.fmod q) u)) := by with_unfolding_all rfl) (hg : ∀ r, letTemporaryGo value (.ref t) r = pure () := by intro _; with_unfolding_all rfl) :
    wpAny (model prog w) A (subscriptTail value slice (.ref t) (.int (z.fmod q) u)) Q E s := by
  subst hv
  refine xE1A2 (pick_mod (z := z) hq h0 h9) fun v hv hp => ?_
  refine subscriptTail_builtin hl.typeIs PySem.slot_list_getitem.lookup ?_ hs hg
  focus (refine xO2 (hp) ?_ ?_; (try clear hp); intro w1q; refine xE0A3 w1q ?_; (try clear w1q); intro h0 h1 hx; rotate_left 1; (try clear hp); intro w2q; refine xE0A4 w2q ?_; (try clear w2q); intro h0 h1 h2 hx; rotate_left 1)
  · exact wpAny_getItem_list hl h0 h1 (by simpa using hx) (h v (hP v hv))
  · exact wpAny_getItem_list_neg hl h0 (by simpa using h1) h2 (by simpa using hx) (h v (hP v hv))
end
noncomputable def HD8 : List Str := [S_ "S", S_ "A", S_ "B", S_ "b", S_ "error", S_ "B c"]
theorem fmod_four (z : Int) : ∃ k : Nat, z.fmod 4 = (k : Int) ∧ k < 4 := by
  have h1 : 0 ≤ z.fmod 4 := Int.fmod_nonneg_of_pos _ (by k_extra "o")
  have h2 : z.fmod 4 < 4 := Int.fmod_lt_of_pos _ (by k_extra "o")
  exact ⟨(z.fmod 4).toNat, by k_extra "o", by k_extra "o"⟩
noncomputable def SymJ (tp : Addr) (RT : Led) (i : Nat) (ys : List Value) (news : Led) : Prop :=
  ∃ (its : List (Str × Tok)) (vs : List Value) (ns : List Int) (nt : Nat), ys = strV its ∧ its.length = i ∧ (∀ x ∈ its.map (·.1), x ∈ S8) ∧ IntsAre vs ns ∧ vs.length ≤ 63 ∧ news = (tp, listOf vs.toArray nt) :: RT
theorem symJ_step {h₀ h' : Heap} {L I C D tp : Addr} {m : Str → Option Value} {s : Shared} {oI oC o : Obj} {its : List (Str × Tok)} {vs : List Value} {ns : List Int} {nt tk' j : Nat} {RT : Led} {x : Str} {tx : Tok} (F : Fr h₀ L h' m) (N : News h₀ L h' ((tp, listOf (List.toArray vs) nt) :: (I, oI) :: (C, oC) :: (D, LCg.lst (strV its)) :: RT)) (off : LCg.Off3 I C D ((tp, o) :: RT))
    (hj : its.length = j) (h8 : ∀ x ∈ its.map (·.1), x ∈ S8) (hx : x ∈ S8) (hi : IntsAre vs ns) (hl : vs.length ≤ 63) : CompJ h₀ L m s I oI C oC D (strV its) (fun y => SymJ tp RT (j + 1) (strV its ++ [y])) (.str x tx) { s with heap := h', toks := tk' } := by
  refine (yE3A5 ((tp, listOf vs.toArray nt) :: RT) h' tk' rfl F (News.perm N fun q hq => ?_) (LCg.Off3.of fun p hp => ?_) (yE4A6 (its ++ [(x, tx)]) vs ns nt (by simp [strV]) (by simp [hj]) (fun y hy => ?_) hi hl rfl))
  · exact ledIn [_, _, _, _] [_] (.c 1 <| .c 2 <| .c 3 <| .c 0 <| .l 0) (.c 0 <| .c 1 <| .c 2 <| .c 3 <| .l 0) rfl _ hq
  · rcases List.mem_cons.mp hp with rfl | hp
    · exact off.mem (tp, o) (.head _)
    · exact off.mem _ (.tail _ hp)
  · rw [List.map_append, List.mem_append] at hy
    rcases hy with hy | hy
    · exact h8 y hy
    · simp only [List.map_cons, List.map_nil, List.mem_singleton] at hy
      rw [hy]; exact hx
theorem off1_of {D : Addr} : ∀ {l : Led}, LCg.Off1 D l → ∀ p ∈ l, p.1 ≠ D
  | [], _, _, h => nomatch h
  | _ :: _, h, p, hp => by
    rcases List.mem_cons.mp hp with rfl | hp
    · exact h.1
    · exact off1_of h.2 p hp

theorem base_list (K : Frag) {a : Addr} {od : Option Addr} {n : Nat} {sl : Array (Option Value)} {its : Array Value} {vs : List Value} (ho : K.lookup a = some ⟨.type "list", od, .seq its n, sl⟩) (h1 : od = none) (h2 : sl = #[]) (hv : its = vs.toArray) : ListIs K [] a vs := by
  subst h1 h2 hv
  exact .inr ⟨n, ho⟩
theorem tails_ok (w : World) : ∀ v ∈ [Value.ref 296, .ref 297, .ref 298, .ref 299, .ref 300, .ref 301], ∃ tl tls, v = Value.ref tl ∧ Tl4 (tls.map (·.1)) ∧ ListIs (hd.heap_1 w.params) [] tl (strV tls) := by
  intro v hv
  simp only [List.mem_cons, List.not_mem_nil, or_false] at hv
  focus (refine xO6 (hv) ?_ ?_ ?_ ?_ ?_ ?_; (try clear hv); intro w1q; obtain rfl := w1q; rotate_left 1; (try clear hv); intro w2q; obtain rfl := w2q; rotate_left 1; (try clear hv); intro w3q; obtain rfl := w3q; rotate_left 1; (try clear hv); intro w4q; obtain rfl := w4q; rotate_left 1; (try clear hv); intro w5q; obtain rfl := w5q; rotate_left 1; (try clear hv); intro w6q; obtain rfl := w6q; rotate_left 1)
  · refine' ⟨_, [], rfl, ?a, base_list _ ?b ?c ?d ?e⟩
    case b => k_is
    case a => exact .inl rfl
    case c => rfl
    case d => rfl
    case e => rfl
  · refine' ⟨_, [], rfl, ?a, base_list _ ?b ?c ?d ?e⟩
    case b => k_is
    case a => exact .inl rfl
    case c => rfl
    case d => rfl
    case e => rfl
  · refine' ⟨_, [(S_ "%prec", _), (S_ "a", _)], rfl, ?a, base_list _ ?b ?c ?d ?e⟩
    case b => k_is
    case a => exact .inr (.inl rfl)
    case c => rfl
    case d => rfl
    case e => rfl
  · refine' ⟨_, [], rfl, ?a, base_list _ ?b ?c ?d ?e⟩
    case b => k_is
    case a => exact .inl rfl
    case c => rfl
    case d => rfl
    case e => rfl
  · refine' ⟨_, [(S_ "%prec", _)], rfl, ?a, base_list _ ?b ?c ?d ?e⟩
    case b => k_is
    case a => exact .inr (.inr (.inl rfl))
    case c => rfl
    case d => rfl
    case e => rfl
  · refine' ⟨_, [(S_ "%prec", _), (S_ "b", _)], rfl, ?a, base_list _ ?b ?c ?d ?e⟩
    case b => k_is
    case a => exact .inr (.inr (.inr rfl))
    case c => rfl
    case d => rfl
    case e => rfl
theorem rowOK_dat {k : Nat} {r : RW} {x : PR} (o : RowOK k r x) : kqdOk 8 (rowD r.name r.syms) = true := by
  have hn := o.nam
  have h7 := o.n7
  rw [← o.name] at hn
  rw [← o.syms] at h7
  have e1 : PyData.strOk r.name = true := by
    simp only [H3, List.mem_cons, List.not_mem_nil, or_false] at hn
    rcases hn with h | h | h | h <;> rw [h] <;> decide +kernel
  unfold rowD
  simp only [kqdOk, List.all_cons, List.all_nil, Bool.and_true, e1, Bool.true_and, List.all_map, List.all_eq_true]
  intro y hy
  have := h7 _ (List.mem_map_of_mem (f := fun p : Str × Tok => p.1) hy)
  simp only [N7, List.mem_cons, List.not_mem_nil, or_false] at this
  show kqdOk _ (Dat.str y.1) = true
  rcases this with h | h | h | h | h | h | h <;> rw [h] <;> decide +kernel
theorem stOf_small {x : PR} {k : Nat} {r : RW} (o : RowOK k r x) : (stOf x).length ≤ 1000 := by
  have h1 := nam_16 o.nam
  have e : (if x.syms = [] then Str.ofString "<empty>" else Str.join (Str.ofString " ") x.syms).length ≤ 900 := by
    split
    · decide +kernel
    · have := join_len (x := Str.ofString " ") (B := 16) (by decide +kernel) (fun y hy => N7_16 (o.n7 y hy))
      rw [List.length_map] at this
      have := o.len
      k_extra "o"
  have e2 : (Str.ofString " -> ").length = 4 := by decide +kernel
  show (x.name ++ Str.ofString " -> " ++ _).length ≤ 1000
  rw [Str.length_append, Str.length_append]
  k_extra "o"
theorem loose_at {w : World} {y : PR × Value × Value} : ∀ {vs : List (PR × Value × Value)}, y ∈ vs → (y.1.p, instObj 100 y.1.dp) ∈ looseL w vs ∧ (y.1.dp, prodD w y.1 y.2.1 y.2.2 (stOf y.1)) ∈ looseL w vs
  | [], h => nomatch h
  | c :: r, h => by
    rcases List.mem_cons.mp h with rfl | h
    · exact ⟨.tail _ (.head _), .head _⟩
    · obtain ⟨h1, h2⟩ := loose_at h
      exact ⟨.tail _ (.tail _ (.tail _ (.tail _ h1))), .tail _ (.tail _ (.tail _ (.tail _ h2)))⟩
section
variable {prog : Program} {w : World} {G : GA} {B i : Nat} {M : GM} {pco : Obj} {pt rl tp I D tl : Addr} {pv1 pv2 : Value} {npt n1 nt : Nat} {rws : List RW} {vs : List (PR × Value × Value)} {R X : Led} {it ots : Obj} {its tls : List (Str × Tok)} {hd' : Str} {th : Tok} {n2 : Nat}
theorem MOK.lift {B C : Nat} (h : MOK prog w B M) (hc : B ≤ C) : MOK prog w C M :=
  ⟨h.te, h.nt, h.pn, h.pm, h.tk, h.up, szL_up h.st hc, szL_up h.sn hc, szL_up h.sp hc, Nat.le_trans h.ln hc, Nat.le_trans h.lp hc, Nat.le_trans h.lm hc, Nat.le_trans h.ll hc⟩
theorem LawOK.row {xs : List PR} (H : LawOK prog w B M rws xs) {x : PR} (hx : x ∈ xs) : ∃ k r, r ∈ rws ∧ RowOK k r x := by
  refine xE1A1 (List.getElem?_of_mem hx) fun k hk => ?_
  have z1q : ∃ r, rws[k]? = some r := ⟨_, List.getElem?_eq_getElem (by rw [← H.rows.len]; exact (List.getElem?_eq_some_iff.mp hk).1)⟩; refine xE1A1 z1q ?_; (try clear z1q); intro r hr
  exact (yE2A2 k r (List.mem_of_getElem? hr) (H.rows.one k r x hr hk))
theorem LawOK.rowR {xs : List PR} (H : LawOK prog w B M rws xs) {r : RW} (hr : r ∈ rws) : ∃ k x, RowOK k r x := by
  refine xE1A1 (List.getElem?_of_mem hr) fun k hk => ?_
  have z2q : ∃ x, xs[k]? = some x := ⟨_, List.getElem?_eq_getElem (by rw [H.rows.len]; exact (List.getElem?_eq_some_iff.mp hk).1)⟩; refine xE1A1 z2q ?_; (try clear z2q); intro x hx
  exact ⟨k, x, H.rows.one k r x hk hx⟩
noncomputable def LawS (prog : Program) (w : World) (G : GA) (pco : Obj) (pt : Addr) (pv : List Value) (npt : Nat) (rl tp : Addr) (ots : Obj) (X R : Led) (B l : Nat) (nws : Led) : Prop :=
  ∃ (M : GM) (rws : List RW) (vs : List (PR × Value × Value)) (n1 : Nat), LawOK prog w B M rws (vs.map (·.1)) ∧ rws.length ≤ l ∧ (∀ q ∈ (tp, ots) :: (X ++ lawR w G M pco pt pv npt rl rws n1 vs R), q ∈ nws) ∧ Sep ((tp, ots) :: (X ++ lawR w G M pco pt pv npt rl rws n1 vs R))
theorem law_snoc {M' : GM} {x : PR} {rw' : RW} {base : List Str} {v1 v2 : Value} (H : LawOK prog w B M rws (vs.map (·.1))) (hh : hd' ∈ H3) (hb3 : base.length ≤ 3) (hab : S_ "'ab'" ∉ base) (hb8 : ∀ x ∈ base, x ∈ S8) (e1 : x.name = hd') (e2 : x.syms = base.map nrm) (e3 : rw'.name = hd') (e4 : rw'.syms = base.map nrm)
    (e5 : x.num = (M.lpv.length : Int)) (e6 : x.uv.map (·.1) = dedupS x.syms) (e7 : M'.lpv = M.lpv ++ [.ref x.p]) (e8 : M'.pm = M.pm ++ [(rowT hd' (base.map nrm), .ref x.p)]) (e9 : ∀ s, dlGet M'.pn s = if s = hd' then dlGet M.pn s ++ [.ref x.p] else dlGet M.pn s) (e10 : MOK prog w (B + 10) M') :
    LawOK prog w (B + 10) M' (rws ++ [rw']) ((vs ++ [(x, v1, v2)]).map (·.1)) := by
  have hl : x.its.length = base.length := by
    have := congrArg List.length e2
    simpa using this
  have e11 : (vs ++ [(x, v1, v2)]).map (·.1) = vs.map (·.1) ++ [x] := by simp
  rw [e11]
  refine ⟨H.rows.snoc ⟨by rw [e3, e1], by rw [e4, e2], ?_, e6, by k_extra "o", fun s hs => nrm7_all hb8 hab s (e2 ▸ hs), by rw [e1]; exact .tail _ hh⟩, ?_, e10, ?_, ?_, ?_⟩
  · rw [e5, H.lpv, List.length_map, H.rows.len]
  · refine xE2A4 (H.rel.rel) fun r0 rs h1 h2 h3 h4 => ?_
    refine ⟨r0, rs ++ [rw'], by rw [h1]; rfl, h2, by rw [e8, List.map_append, h3, List.map_append, List.map_cons, List.map_nil, List.map_cons, List.map_nil, e3, e4], fun r hr => ?_⟩
    rcases List.mem_append.mp hr with hr | hr
    · exact h4 r hr
    · rw [List.mem_singleton.mp hr, e3, e4]
      exact ⟨hh, by rw [List.length_map]; exact hb3, nrm7_all hb8 hab⟩
  · rw [e7, H.lpv, List.map_append]; rfl
  · intro s hs
    rw [e9, H.pn s hs]
    unfold kvOf
    rw [List.filter_append, List.map_append, List.filter_cons, List.filter_nil]
    by_cases h : s = hd'
    · rw [if_pos h, if_pos (by rw [e1, h]; exact beq_self_eq_true _)]; rfl
    · rw [if_neg h, if_neg (by rw [e1]; simpa using Ne.symm h), List.map_nil, List.append_nil]
  · intro e he
    rw [e8] at he
    rcases List.mem_append.mp he with he | he
    · refine xE1A2 (H.pm e he) fun y hy z => ?_
      exact ⟨y, List.mem_append_left _ hy, z⟩
    · rw [List.mem_singleton.mp he]
      exact ⟨x, List.mem_append_right _ (.head _), rfl⟩
set_option maxHeartbeats 1000000 in
theorem law_offer (H : LawOK prog w B M rws (vs.map (·.1))) (lo : LoOK prog w G pco pt) (hl : rws.length ≤ 100) (hB : B ≤ 500) (h3 : its.length ≤ 3) (h8 : ∀ x ∈ its.map (·.1), x ∈ S8) (ht4 : Tl4 (tls.map (·.1))) (h6 : hd' ∈ HD8) (htl : ListIs (hd.heap_1 w.params) [] tl (strV tls))
    (S : Sep ((tp, ots) :: (D, listOf (strV its).toArray n2) :: (X ++ lawR w G M pco pt [pv1, pv2] npt rl rws n1 vs R))) :
    Does0 prog w 320 100 314 [.ref G.g, .ref rl, .str hd' th, .ref D, .ref tl] ((tp, ots) :: (D, listOf (strV its).toArray n2) :: (X ++ lawR w G M pco pt [pv1, pv2] npt rl rws n1 vs R))
      (fun r nws => r = .bool true ∧ LawS prog w G pco pt [pv1, pv2] npt rl tp ots X R (B + 10) (rws.length + 1) nws ∧ True) := by
  have h6' : hd' ∈ H3 ∨ hd' = S_ "b" ∨ hd' = S_ "error" ∨ hd' = S_ "B c" := by
    simp only [HD8, H3, List.mem_cons, List.not_mem_nil, or_false] at h6 ⊢
    rcases h6 with h | h | h | h | h | h <;> simp only [h, true_or, or_true]
  have DD := offered_spec prog w G B M rl D tl pt npt hd' th its tls n1 n2 rws pco pv1 pv2 (looseL w vs ++ ((tp, ots) :: (D, listOf (strV its).toArray n2) :: (X ++ R))) h3 h8 ht4 h6' (by simp only [List.mem_cons, List.mem_append, true_or, or_true]) (htl.imp (fun ⟨n, h⟩ => nomatch h) id) hl H.rel
    (fun d hd => by
      refine xE1A2 (List.mem_map.mp hd) fun r hr z3q => ?_; obtain rfl := z3q
      refine xE2A1 (H.rowR hr) fun k x o => ?_
      exact rowOK_dat o) H.mok hB lo.te lo.nt lo.pn lo.pm lo.pc lo.pco
    (fun e he => by
      refine xE1A2 (H.pm e he) fun x hx hq => ?_
      refine xE1A2 (List.mem_map.mp hx) fun y hy z4q => ?_; obtain rfl := z4q
      refine xE2A2 (H.row hx) fun k r _ o => ?_
      refine xE0A2 (loose_at (w := w) hy) fun m1 m2 => ?_
      exact (yE3A4 (y.1) (y.2.1) (y.2.2) hq (List.mem_append_left _ m1) (List.mem_append_left _ m2) (stOf_small o)))
    (Sep.sub S fun k => by
      exact ledCnt [_, _, _, _, _, _, _, _, _, _, _, _, _] [_, _, _, _, _, _, _] (.c 2 <| .c 3 <| .c 4 <| .c 5 <| .c 6 <| .c 7 <| .c 8 <| .c 9 <| .c 10 <| .c 11 <| .c 12 <| .a (.l 1) <| .a (.l 2) <| .a (.l 3) <| .a (.l 4) <| .a (.l 5) <| .c 0 <| .c 1 <| .a (.l 0) <| .l 6) (.c 0 <| .c 1 <| .a (.l 0) <| .c 2 <| .c 3 <| .c 4 <| .c 5 <| .c 6 <| .c 7 <| .c 8 <| .c 9 <| .c 10 <| .c 11 <| .c 12 <| .a (.l 1) <| .a (.l 2) <| .a (.l 3) <| .a (.l 4) <| .a (.l 5) <| .l 6) rfl k)
  intro mean mg mb cn cs a ccd cl A₀ h₀ L m s Q E Bl F X₀ N T hk hret
  refine DD mean mg mb cn cs a ccd cl A₀ h₀ L m s Q E Bl F X₀ (News.perm N fun q hq => ?_) T hk fun r news' h' tk' F' N' hp => hret r news' h' tk' F' N' ?_
  · exact ledIn [_, _, _, _, _, _, _, _, _, _, _, _, _] [_, _, _, _, _, _, _] (.c 2 <| .c 3 <| .c 4 <| .c 5 <| .c 6 <| .c 7 <| .c 8 <| .c 9 <| .c 10 <| .c 11 <| .c 12 <| .a (.l 1) <| .a (.l 2) <| .a (.l 3) <| .a (.l 4) <| .a (.l 5) <| .c 0 <| .c 1 <| .a (.l 0) <| .l 6) (.c 0 <| .c 1 <| .a (.l 0) <| .c 2 <| .c 3 <| .c 4 <| .c 5 <| .c 6 <| .c 7 <| .c 8 <| .c 9 <| .c 10 <| .c 11 <| .c 12 <| .a (.l 1) <| .a (.l 2) <| .a (.l 3) <| .a (.l 4) <| .a (.l 5) <| .l 6) rfl _ hq
  · refine xE0A2 hp ?_; (try clear hp); intro z5q hp; obtain rfl := z5q
    refine ⟨rfl, ?_, trivial⟩
    focus (refine xO2 (hp) ?_ ?_; (try clear hp); intro w7q; refine xE0A2 w7q ?_; (try clear w7q); intro w9q _; refine xE3A3 w9q ?_; (try clear w9q); intro te' teo' upo' h1 h2 h3; rotate_left 1; (try clear hp); intro w8q; refine xE0A3 w8q ?_; (try clear w8q); intro hh hab w10q; refine xE5A14 w10q ?_; (try clear w10q); intro M' x li rw' n1' e1 e2 e3 e4 e5 e6 e7 e8 e9 _ _ e10 e11 e12; rotate_left 1)
    · refine (yE4A4 ({ M with te := te', teo := teo', upo := upo' }) rws vs n1 ⟨H.rows, ⟨H.rel.rel⟩, h1.lift (by k_extra "o"), H.lpv, H.pn, H.pm⟩ (Nat.le_succ _) (fun q hq => h2 q ?_) (Sep.sub h3 fun k => ?_))
      · exact ledIn [_, _, _, _, _, _, _, _, _, _, _, _, _] [_, _, _, _, _, _, _] (.c 11 <| .a (.l 5) <| .c 0 <| .c 1 <| .c 2 <| .c 3 <| .c 4 <| .c 5 <| .c 6 <| .c 7 <| .c 8 <| .c 9 <| .c 10 <| .a (.l 0) <| .a (.l 1) <| .a (.l 2) <| .a (.l 3) <| .a (.l 4) <| .l 6) (.c 0 <| .c 1 <| .c 2 <| .c 3 <| .c 4 <| .c 5 <| .c 6 <| .c 7 <| .c 8 <| .c 9 <| .c 10 <| .a (.l 0) <| .a (.l 1) <| .a (.l 2) <| .a (.l 3) <| .a (.l 4) <| .c 11 <| .c 12 <| .a (.l 5) <| .l 6) rfl _ hq
      · exact ledCnt [_, _, _, _, _, _, _, _, _, _, _, _, _] [_, _, _, _, _, _, _] (.c 11 <| .a (.l 5) <| .c 0 <| .c 1 <| .c 2 <| .c 3 <| .c 4 <| .c 5 <| .c 6 <| .c 7 <| .c 8 <| .c 9 <| .c 10 <| .a (.l 0) <| .a (.l 1) <| .a (.l 2) <| .a (.l 3) <| .a (.l 4) <| .l 6) (.c 0 <| .c 1 <| .c 2 <| .c 3 <| .c 4 <| .c 5 <| .c 6 <| .c 7 <| .c 8 <| .c 9 <| .c 10 <| .a (.l 0) <| .a (.l 1) <| .a (.l 2) <| .a (.l 3) <| .a (.l 4) <| .c 11 <| .c 12 <| .a (.l 5) <| .l 6) rfl k
    · refine (yE4A4 M' (rws ++ [rw']) (vs ++ [(x, .ref li, .none)]) n1' (law_snoc H hh (by rw [List.length_map]; exact h3) hab h8 e1 e2 e3 e4 e5 e6 e7 e8 e9 e10) (by simp) (fun q hq => e11 q ?_) (Sep.sub e12 fun k => ?_))
      · exact ledIn1 [_, _, _, _, _, _, _, _, _, _, _, _, _, _, _, _, _] [_, _, _, _, _, _, _, _] (.a (.l 5) <| .c 11 <| .c 12 <| .c 13 <| .c 14 <| .n) (.c 15 <| .a (.l 6) <| .c 0 <| .c 1 <| .c 2 <| .c 3 <| .c 4 <| .c 5 <| .c 6 <| .c 7 <| .c 8 <| .c 9 <| .c 10 <| .a (.l 1) <| .a (.l 2) <| .a (.l 3) <| .a (.l 4) <| .a (.l 0) <| .l 7) (.c 0 <| .c 1 <| .c 2 <| .c 3 <| .c 4 <| .c 5 <| .c 6 <| .c 7 <| .c 8 <| .c 9 <| .c 10 <| .a (.l 1) <| .a (.l 2) <| .a (.l 3) <| .c 11 <| .c 12 <| .c 13 <| .c 14 <| .a (.l 4) <| .a (.l 5) <| .c 15 <| .c 16 <| .a (.l 6) <| .l 7) rfl (looseL_append w vs [(x, .ref li, .none)]) _ hq
      · exact ledCnt1 [_, _, _, _, _, _, _, _, _, _, _, _, _, _, _, _, _] [_, _, _, _, _, _, _, _, _, _, _, _, _, _, _, _, _] [_, _, _, _, _, _, _, _] (.a (.l 5) <| .c 11 <| .c 12 <| .c 13 <| .c 14 <| .n) (.c 15 <| .a (.l 6) <| .c 0 <| .c 1 <| .c 2 <| .c 3 <| .c 4 <| .c 5 <| .c 6 <| .c 7 <| .c 8 <| .c 9 <| .c 10 <| .a (.l 1) <| .a (.l 2) <| .a (.l 3) <| .a (.l 4) <| .a (.l 0) <| .l 7) (.c 0 <| .c 1 <| .c 2 <| .c 3 <| .c 4 <| .c 5 <| .c 6 <| .c 7 <| .c 8 <| .c 9 <| .c 10 <| .a (.l 1) <| .a (.l 2) <| .a (.l 3) <| .c 11 <| .c 12 <| .c 13 <| .c 14 <| .a (.l 4) <| .a (.l 5) <| .c 15 <| .c 16 <| .a (.l 6) <| .l 7) rfl rfl (looseL_append w vs [(x, .ref li, .none)]) k
end
section
variable {prog : Program} {w : World} {G : GA} {B i l : Nat} {M : GM} {pco : Obj} {pt rl tp I D : Addr} {pv : List Value} {npt n1 nt : Nat} {rws : List RW} {vs : List (PR × Value × Value)} {R REST nws : Led} {it o o' oD : Obj} {ts : List Value} {ns : List Int} {h₀ h : Heap} {L : Addr} {s : Shared} {m : Str → Option Value} {tk : Nat} {Q : Flow → Shared → Prop}
theorem law_sep12 (hREST : (I, it) :: lawR w G M pco pt pv npt rl rws n1 vs R = REST) (S : Sep ((tp, o) :: REST)) (h1 : @Ne Nat tp D) (h2 : ∀ q ∈ REST, @Ne Nat q.1 D) : Sep ((tp, o') :: (D, oD) :: ([(I, it)] ++ lawR w G M pco pt pv npt rl rws n1 vs R)) := by
  refine Sep.sub (Sep.cons (p := (D, oD)) (List.forall_mem_cons.mpr ⟨h1, h2⟩) S) fun k => ?_
  rw [← hREST]
  generalize lawR w G M pco pt pv npt rl rws n1 vs R = Z
  exact ledCnt2 [_, _, _] [_, _, _] [_] (.c 1 <| .c 0 <| .a (.c 2 <| .n) <| .l 0) (.c 0 <| .c 1 <| .c 2 <| .l 0) rfl rfl k
theorem law_turn (F : Fr h₀ L h m) (N : News h₀ L h nws) (H : LawS prog w G pco pt pv npt rl tp (listOf ts.toArray nt) [(I, it)] R B l nws) (hB : B ≤ 40 + 10 * (i + 1)) (hl : l ≤ 2 + (i + 1)) (hts : IntsAre ts ns) (h63 : ts.length ≤ 63) :
    ForR h₀ L s I it (fun _ nws => LawJ prog w G pco pt pv npt rl tp R (i + 1) nws) Q Flow.next { s with heap := h, toks := tk } := by
  refine xE4A4 H ?_; (try clear H); intro M rws vs n1 H hl' hm S
  have S2 : Sep ((I, it) :: (tp, listOf ts.toArray nt) :: lawR w G M pco pt pv npt rl rws n1 vs R) := Sep.sub S fun k => by
    generalize lawR w G M pco pt pv npt rl rws n1 vs R = Z
    exact ledCnt [_, _] [_] (.c 1 <| .c 0 <| .l 0) (.c 0 <| .a (.c 1 <| .n) <| .l 0) rfl k
  refine (yE4A5 m ((tp, listOf ts.toArray nt) :: lawR w G M pco pt pv npt rl rws n1 vs R) h tk rfl F (News.perm N fun q hq => hm q ?_) (fun p hp => S2.ne p hp) (yE7A6 M rws vs n1 ts ns nt ⟨H.rows, H.rel, H.mok.lift hB, H.lpv, H.pn, H.pm⟩ (by k_extra "o") hts h63 rfl (S2.tail)))
  exact ledIn [_, _, _, _, _, _, _, _, _, _, _, _, _] [_, _, _, _, _, _] (.c 1 <| .c 0 <| .c 2 <| .c 3 <| .c 4 <| .c 5 <| .c 6 <| .c 7 <| .c 8 <| .c 9 <| .c 10 <| .c 11 <| .c 12 <| .a (.l 0) <| .a (.l 1) <| .a (.l 2) <| .a (.l 3) <| .a (.l 4) <| .l 5) (.c 0 <| .a (.c 1 <| .n) <| .c 2 <| .c 3 <| .c 4 <| .c 5 <| .c 6 <| .c 7 <| .c 8 <| .c 9 <| .c 10 <| .c 11 <| .c 12 <| .a (.l 0) <| .a (.l 1) <| .a (.l 2) <| .a (.l 3) <| .a (.l 4) <| .l 5) rfl _ hq
end

section
open LCg
set_option maxHeartbeats 4000000 in
theorem law_loop (prog : Program) (w : World) {name qual : Str} {params : Arguments} {body : List Stmt} {scope : Scope} {dV kV doc pm cdv ct oc : Value} {an od : Option Addr} {osl : Array (Option Value)} (hL : (hd.heap_1 w.params).lookup 329 = some ⟨oc, od, .func (fnOf name qual params body scope dV kV doc pm an cdv ct), osl⟩)
    {mean : ExcName → Option Value} {mg mb : Str → Option Value} {h₀ : Heap} {L fa : Addr} {cd : Value} {m : Str → Option Value} {s : Shared} {Q : Flow → Shared → Prop} {E : Value → Shared → Prop} (G : GA) (pco : Obj) (pt : Addr) (pv1 pv2 : Value) (npt : Nat) (rl tp : Addr) (o1 o2 o3 : Obj) (nws : Led)
    (X : (hd.heap_1 w.params).In h₀) (T : Top hdV LOOSE mean mg mb h₀) (Bl : Below callerA h₀ [] h₀) (F : Fr h₀ L s.heap m) (N : News h₀ L s.heap nws) (hJ : LawJ prog w G pco pt [pv1, pv2] npt rl tp [(L + 1 + 1 + 1, o3), (L + 1 + 1, o2), (L + 1, o1)] 0 nws) (lo : LoOK prog w G pco pt)
    (d1 : o1.data = .cell (some (.ref tp))) (d2 : o2.data = .cell (some (.ref G.g))) (d3 : o3.data = .cell (some (.ref rl)))
    (hret : ∀ h' tk' m', Fr h₀ L h' m' → Q (.ret (.bool true)) { s with heap := h', toks := tk' }) {rest : List Stmt} (hrest : body.drop 7 = rest) :
    wpAny (model prog w) (callerA.deeper (envOfC qual scope L fa cd)) (execs rest (envOfC qual scope L fa cd)) Q E s := by
  k_with_none
  k_with "o" => (first | (with_reducible first | assumption | (show (_ : Nat) ≤ _; first | exact Nat.le_of_ble_eq_true rfl | exact Nat.zero_le _ | exact Nat.le_of_lt ‹_› | exact Nat.le_of_eq ‹_› | exact oM ‹_› | exact oL ‹_› | exact oJ | exact oK | exact qE ‹_› | exact qG ‹_› | exact oS ‹_› rfl | exact oSE ‹_› ‹_› rfl | exact oA ‹_› rfl | exact oB ‹_› rfl | exact oG ‹_› rfl | exact oE ‹_› ‹_› rfl | exact oF ‹_› ‹_› rfl | exact oH ‹_› ‹_› rfl | exact oI ‹_› ‹_› rfl | exact oQ ‹_› ‹_› rfl | exact oQ3 ‹_› ‹_› ‹_› rfl | exact xE ‹_› ‹_› rfl | exact xA ‹_› | exact xB ‹_› | exact xH ‹_› | exact xF ‹_› | exact xG ‹_› | exact xL ‹_› | exact xC ‹_› ‹_› ‹_› ‹_› rfl | exact xD ‹_› ‹_› ‹_› ‹_› ‹_› rfl | exact xK ‹_› rfl | exact xJ ‹_› ‹_› rfl | exact xI ‹_› ‹_› ‹_› rfl | exact wA ‹_› ‹_› ‹_› rfl | exact wB ‹_› ‹_› ‹_› rfl | exact yC ‹_› ‹_› ‹_› rfl | exact yE ‹_› | exact uB ‹_› ‹_› rfl | exact uF ‹_› | exact uM | exact uN | exact uO | exact uU ‹_› | exact uW ‹_› ‹_› | exact uX ‹_› ‹_› ‹_› rfl | exact uZ ‹_› ‹_› ‹_› rfl | exact vC ‹_› ‹_› rfl | exact vD ‹_› | exact vI | exact vJ | exact vL ‹_› | exact vN ‹_› ‹_› ‹_› rfl | exact vO ‹_› ‹_› ‹_› ‹_› ‹_› rfl | exact vP ‹_› ‹_› ‹_› rfl | exact vQ ‹_› ‹_› | exact vR ‹_› ‹_› ‹_› rfl | exact vT | exact Nat.min_le_left _ _ | exact Nat.le_trans ‹_› ‹_› | exact Nat.le_add_left _ _ | exact wC ‹_› ‹_› rfl | exact wI ‹_› ‹_› rfl | exact wG ‹_› ‹_› ‹_› rfl | exact wF ‹_› ‹_› ‹_›) | (show (_ : Nat) < _; first | exact Nat.le_of_ble_eq_true rfl | exact Nat.lt_succ_self _ | exact pA ‹_› rfl | exact pB ‹_› rfl | exact pG ‹_› rfl | exact pE ‹_› ‹_› rfl | exact pF ‹_› ‹_› rfl | exact pH ‹_› ‹_› rfl | exact pI ‹_› ‹_› rfl | exact pS ‹_› rfl | exact pSE ‹_› ‹_› rfl | exact qA ‹_› | exact qD ‹_› | exact qB ‹_› ‹_› | exact qC ‹_› | exact Nat.lt_of_le_of_ne ‹_› ‹_› | exact uC ‹_› ‹_› | exact uD ‹_› | exact uE ‹_› | exact uY ‹_› ‹_› | exact vG ‹_› ‹_› rfl | exact vH ‹_› | exact vK ‹_› ‹_› | exact qF ‹_› | exact zA ‹_› ‹_› | exact wK ‹_› | exact wH ‹_› rfl | exact wD ‹_› ‹_› ‹_› rfl | exact wE ‹_› ‹_› ‹_›) | (show (_ : Nat) = _; first | exact yA ‹_› | exact yB ‹_› | exact yD ‹_› | exact yS ‹_› | exact Nat.sub_add_comm ‹_› | exact Nat.add_sub_cancel' ‹_› | exact uV ‹_› | exact uJ | exact uK | exact uL | exact uP | exact uQ | exact uR | exact vE ‹_› ‹_› | exact zB | exact oZ) | (show ((_ : Nat) : Int) < 2 ^ 63; first | exact iA ‹_› rfl | exact iB ‹_› rfl | exact iE ‹_› ‹_› rfl | exact iI ‹_› ‹_› rfl) | (show ((_ : Nat) : Int) < 2 ^ 62; first | exact jA ‹_› rfl | exact jB ‹_› rfl | exact jE ‹_› ‹_› rfl) | (show ((_ : Nat) : Int) + 1 < 2 ^ 63; first | exact rA ‹_› rfl | exact rE ‹_› ‹_› rfl | exact rF ‹_› ‹_› rfl) | exact rT ‹_› ‹_› rfl | exact rM | exact rN | exact Int.natCast_nonneg _ | exact iM | exact jM | exact iP ‹_› | exact uS ‹_› | exact uT ‹_› | exact vF ‹_› | exact vM ‹_› | exact vS ‹_› | exact yF ‹_› | exact yT ‹_› | exact iS | exact iZ | exact iD ‹_› | exact iV) | omega)
  k_with "a" => (with_reducible assumption)
  k_with "kxs_still" => (((try dsimp only); (try (refine execs_gen ?_; intro zqt9)); (try k_fold); (try k_extra "bits_by_make")))
  k_with "bits_by_make" => ((try (rename Fr _ _ _ _ => zqF9; (fail_if_success (refine onlyM zqF9 ?_; goal_lacks ite List.lookup)); refine letF zqF9 ?_; clear zqF9; intro zqm9 zqF9)))
  k_with "cell_call" => (first | k_extra "a" | (refine List.mem_cons_of_mem _ ?_; k_extra "cell_call"))
  k_with "tb_start" => ((refine neN ?_; (try dsimp only); first | exact NeA.to (by k_extra "a") | exact NeA.to' (by k_extra "a") | (refine' ne_pos (by k_extra "a") (by k_extra "po")  ) | (refine' ne_pos' (by k_extra "a") (by k_extra "po")  ) | (refine' lt_pos (by k_extra "a") (by k_extra "po")  ) | (refine' lt_pos' (by k_extra "a") (by k_extra "po")  ) | exact Nat.ne_of_lt (by k_extra "a") | exact Nat.ne_of_gt (by k_extra "a") | (refine' lt_up (by k_extra "a") (by k_extra "a") (by k_extra "po")  ) | (refine' lt_up' (by k_extra "a") (by k_extra "a") (by k_extra "po")  ) | omega))
  k_with "tb_rel" => (first | (tbn_letter; first | k_extra "a" | (refine' lt_suf (by k_extra "a") (by k_extra "su")  ) | (refine' ne_suf (by k_extra "a") (by k_extra "su")  ) | (refine' lt_sufU (by k_extra "a") (by k_extra "a") (by k_extra "su")  ) | (refine tbn_neAll ?_; tbn_find) | (refine' tbn_neAll (allLt_up (by tbn_find) (by k_extra "o"))  )) | exact List.forall_mem_nil _ | (refine' lt_suf (by k_extra "a") (by exact Suf.refl)  ) | (refine' ne_suf (by k_extra "a") (by exact Suf.refl)  ) | exact lt_same (by k_extra "a") (by rfl) | (refine List.forall_mem_cons.mpr ⟨?_, ?_⟩; (focus k_extra "tb_start"); k_extra "tb_rel"))
  k_with "k_upd" => (first | (refine Upd.head ?_; k_extra "tb_rel") | (apply Upd.tail; (focus k_extra "tb_start"); k_upd))
  k_with "k_updF" => (first | (refine UpdF.head ?_; k_extra "tb_rel") | (apply UpdF.tail; (focus k_extra "tb_start"); k_updF))
  k_with "execs cons" => ((k_extra "kxs_still"; refine wpAny_execs_cons ?_))
  k_with "po" => (first | exact PosA.head | (refine PosA.tail ?_; k_extra "po"))
  k_with "su" => (first | exact Suf.refl | (refine Suf.tail ?_; k_extra "su"))
  k_with "call builtin:len" => ((k_here; (with_reducible show wpAny _ _ (call (Value.builtin _) [Value.ref _]) _ _ _); k_dflt (refine' len_tup_led (by k_asm) (by k_mem) (by first | exact dotV_length (by assumption) | exact strV_length _) (by k_extra "o") ?_; k_whole)))
  k_with "enter0" => (k_dflt (refine' code0 (by k_asm) (by k_asm) (by k_asm) (by k_asm) (by k_asm) (by exact rfl) (by exact rfl) (by assumption) (by k_is) (by k_is) (by k_room) (by first | exact BindsTo.of_eq rfl | exact binds_K (by k_in) rfl (by k_is) rfl rfl rfl | fail "enter0") (by exact locs rfl) ?_ (by exact rfl) (by exact rfl) (by exact rfl) (by decide); k_whole; intro zqg' zqL' zqh' zqFG' zqF' zqN' zqB' zqX' zqT' zqD'; (try dsimp only); (try k_lift zqB'); (try k_fold)))
  k_with "eval Attribute Name" => ((k_here; k_dflt (refine' attr_own (by k_asm) (by rfl) (by k_asm) (by k_inst) (by k_is) (by k_is) (by k_is) (by k_is) (by k_get) (by k_handed) ?_ (by rfl) (by rfl); k_whole)))
  k_with "CompSrc" => (refine halt ?_)
  k_with "call ref" => (((with_reducible show wpAny _ _ (call (Value.ref 280) _) _ _ _); refine halt ?_))
  k_with "call builtin:len" => ((k_here; (with_reducible show wpAny _ _ (call (Value.builtin _) [Value.ref _]) _ _ _); k_dflt (refine' len_lst (by k_asm) (by k_mem) (by k_extra "a") (by k_extra "o") ?_; k_whole)))
  k_with "call ref" => (((with_reducible show wpAny _ _ (call (Value.ref 324) _) _ _ _); refine halt ?_))
  k_with "pyIter ref" => (refine halt ?_)
  k_with "call builtin:all" => (refine halt ?_)
  k_with "subscriptTail Name BinOp ref int" => (refine halt ?_)
  k_with "call ref" => (((with_reducible show wpAny _ _ (call (Value.ref 309) _) _ _ _); refine halt ?_))
  k_with "call ref" => (((with_reducible show wpAny _ _ (call (Value.ref 314) _) _ _ _); refine halt ?_))
  k_with "exec For Name Call cons nil" => (with_unfolding_all refine wpAny_For ?_)
  rw [← hrest]
  refine' swap_fn hL ?e ?h
  case e => k_is
  dsimp only [List.drop]
  k_steps
  unfold Halt
  rename Fr _ _ _ _ => F1
  rename News _ _ _ _ => N1
  rename IsRange _ _ _ _ _ _ _ _ => hR
  refine' for_R (n := 7) (fun i _ nws => LawJ prog w G pco pt [pv1, pv2] npt rl tp [(L + 1 + 1 + 1, o3), (L + 1 + 1, o2), (L + 1, o1)] i nws) ?hr ?hb ?hn ?hx ?hp ?hh ?F ?N ?hJ ?turn ?done
  case hr => exact hR
  case hb => rfl
  case hn => k_extra "o"
  case hx => rfl
  case hp => rfl
  case hh => rfl
  case F => exact F1
  case N => exact N1
  case hJ => exact hJ
  case turn =>
    intro i k I it m₁ nws₁ h tk hi z1q hI F2 N2; refine xE7A6 z1q ?_; (try clear z1q); intro M rws vs n1 ts ns nt H hrl hts hts63 z2q S; obtain rfl := z2q
    clear F1 N1
    have S2 := law_in (it := it) hI S
    have z3q : ∃ NW, (I, it) :: lawL w G M pco pt [pv1, pv2] npt rl rws n1 vs tp ts nt [(L + 1 + 1 + 1, o3), (L + 1 + 1, o2), (L + 1, o1)] = NW := ⟨_, rfl⟩; refine xE1A1 z3q ?_; (try clear z3q); intro NW hNW
    have A0 : AtNW w G L o1 o2 o3 NW := by rw [← hNW]; exact (AtNW.law At3.own).up fun _ h => .tail _ h
    have e1 : (L + 1, o1) ∈ NW := A0.e1
    have e2 : (L + 1 + 1, o2) ∈ NW := A0.e2
    have e3 : (L + 1 + 1 + 1, o3) ∈ NW := A0.e3
    have e4 : (G.g, instObj 283 G.dg) ∈ NW := A0.e4
    have e5 : (G.dg, gramD w G) ∈ NW := A0.e5
    rw [hNW] at N2
    have F3 : Fr h₀ L h (fun y => if y = Str.ofString "_" then some (Value.int (i : Int) k) else m₁ y) := F2
    have N3 : News h₀ L h NW := N2
    clear F2 N2
    repeat (rename Fr h₀ L s.heap m => Fx; clear Fx)
    repeat (rename News h₀ L s.heap nws => Fx; clear Fx)
    k_steps
    unfold Halt
    rename Fr _ _ _ _ => F4
    rename News _ _ _ _ => N4
    refine' does0_call (law_build H lo S2) Bl F4 X N4 ?hs T rfl rfl (Nat.le_of_ble_eq_true rfl) rfl (Nat.le_of_ble_eq_true rfl) rfl ?_
    case hs =>
      intro q hq
      have z := law_out (fx_mem hq)
      rw [hNW] at z
      repeat (first | exact z | apply List.mem_cons_of_mem)
    intro r2 nws2 h2 tk2 F5 N5 z4q; refine xE1A4 z4q ?_; (try clear z4q); intro bs hbs hsub S5 hit
    rw [← hbs] at H hit
    have z5q : ∃ Z, builtN w bs ++ fxL w G M pco pt [pv1, pv2] npt rl rws n1 tp ts nt ((I, it) :: [(L + 1 + 1 + 1, o3), (L + 1 + 1, o2), (L + 1, o1)]) = Z := ⟨_, rfl⟩; refine xE1A1 z5q ?_; (try clear z5q); intro Z hZ
    have hzs : ∀ q ∈ fxL w G M pco pt [pv1, pv2] npt rl rws n1 tp ts nt ((I, it) :: [(L + 1 + 1 + 1, o3), (L + 1 + 1, o2), (L + 1, o1)]), q ∈ Z := fun q hq => by rw [← hZ]; exact List.mem_append_right _ hq
    clear F4 N4 e1 e2 e3 e4 e5 hNW
    rw [hZ] at hsub S5
    have B0 : AtZ w G M rl rws n1 tp ts nt L o1 o2 o3 Z := (AtZ.fx (At3.own.up fun _ h => .tail _ h)).up hzs
    have g1 : (L + 1, o1) ∈ Z := B0.e1
    have g2 : (L + 1 + 1, o2) ∈ Z := B0.e2
    have g3 : (L + 1 + 1 + 1, o3) ∈ Z := B0.e3
    have g4 : (G.g, instObj 283 G.dg) ∈ Z := B0.e4
    have g5 : (G.dg, gramD w G) ∈ Z := B0.e5
    have g6 : (G.lp, listOf M.lpv.toArray M.nlp) ∈ Z := B0.e6
    have g7 : (rl, listOf (rwV rws).toArray n1) ∈ Z := B0.e7
    have g8 : (tp, listOf ts.toArray nt) ∈ Z := B0.e8
    have z6q : ∃ N, laAll bs ++ Z = N := ⟨_, rfl⟩; refine xE1A1 z6q ?_; (try clear z6q); intro NW2 hNW2
    have up2 : ∀ q ∈ Z, q ∈ NW2 := fun q hq => by rw [← hNW2]; exact List.mem_append_right _ hq
    have N6 : News h₀ L h2 NW2 := by rw [← hNW2]; exact News.perm N5 hsub
    have e1 := up2 _ g1
    have e2 := up2 _ g2
    have e3 := up2 _ g3
    have e4 := up2 _ g4
    have e5 := up2 _ g5
    have e6 := up2 _ g6
    have e7 := up2 _ g7
    clear N5
    have hlp : M.lpv.length = rws.length := by rw [H.lpv, List.length_map, H.rows.len]
    have hrw : (rwV rws).length = rws.length := List.length_map ..
    have hrl9 : rws.length ≤ 9 := by k_extra "o"
    k_steps
    · rename _ ≠ _ => hq
      exact absurd rfl hq
    unfold Halt
    rename Fr _ _ _ _ => F7
    rename News _ _ _ _ => N7
    rename IsRange _ _ _ _ _ _ _ _ => hR2
    have hsz1 : Builtin.Range.rangeSize 0 (rws.length : Int) 1 = ((rws.length : Nat) : Int) := by rw [rangeSize_one]; split <;> k_extra "o"
    have hbl : bs.length = rws.length := by rw [← H.rows.len, List.length_map]
    rw [← hNW2] at N7
    refine CompSrc.range rfl F7 N7 hR2 (small_one (by decide) (by decide) (by k_extra "o") (by k_extra "o")) hsz1 (by rw [sizeLine_eq]; k_extra "o") fun g0 => ?_
    refine CompRest_J (n := rws.length) (fun k ys news => LSm.BoolsAre ys (List.replicate k true) ∧ news = laAll (bs.drop k) ++ Z) (fun _ _ _ _ => trivial) ?turn1 ?fin1 _ 0 [] (laAll bs ++ Z) (by k_extra "o") ⟨.nil, rfl⟩
    case turn1 =>
      intro j v I1 oI C oC D ys m₂ h3 tk3 E' news hj z7q z8q hC hx F8 N8 off ne; refine xE1A1 z7q ?_; (try clear z7q); intro tv z9q; obtain rfl := z9q; refine xE0A2 z8q ?_; (try clear z8q); intro hb z10q; obtain rfl := z10q
      rw [Int.zero_add] at hx
      clear F7 N7 F5 N6 e1 e2 e3 e4 e5 e6 e7
      have e2 : (L + 1 + 1, o2) ∈ laAll (bs.drop j) ++ Z := List.mem_append_right _ g2
      have e3 : (L + 1 + 1 + 1, o3) ∈ laAll (bs.drop j) ++ Z := List.mem_append_right _ g3
      have S7 := sep_comp (oI := oI) (oC := oC) (oD := LCg.lst ys) S5 off ne
      k_steps
      unfold Halt
      rename Fr _ _ _ _ => F9
      rename News _ _ _ _ => N9
      rw [← hZ] at N9 S7 off
      refine does_call (law_listed H (by k_extra "o") (by k_extra "o") hit S7) Bl F9 X N9 ?hs2 T rfl rfl (Nat.le_of_ble_eq_true rfl) rfl (Nat.le_of_ble_eq_true rfl) rfl ?_
      case hs2 =>
        intro q hq
        exact ledIn [_, _, _] [_, _, _] (.a (.l 0) <| .a (.c 0 <| .c 1 <| .c 2 <| .n) <| .a (.l 1) <| .l 2) (.c 0 <| .c 1 <| .c 2 <| .a (.l 0) <| .a (.l 1) <| .l 2) rfl _ hq
      intro r3 nws3 h4 tk4 F10 N10 z11q; refine xE0A2 z11q ?_; (try clear z11q); intro z12q hsub3; obtain rfl := z12q
      rw [hZ] at hsub3 off
      exact compJ_listed F10 N10 (by k_extra "o") hsub3 off hb
    case fin1 =>
      intro ys news z13q; refine xE0A2 z13q ?_; (try clear z13q); intro hb z14q; obtain rfl := z14q
      rw [← hbl, List.drop_length]
      clear F7 N7 F5 N6 e1 e2 e3 e4 e5 e6 e7
      k_steps
      unfold Halt
      rename Fr _ _ _ _ => F9
      rename News _ _ _ _ => N9
      rename Off1 _ _ => oo1
      clear oo1
      refine all_true_b F9 N9 rfl (.head _) hb fun h5 tk5 F10 N10 => ?_
      clear F9 N9
      have z15q : ∃ REST, (I, it) :: lawR w G M pco pt [pv1, pv2] npt rl rws n1 (looseOf bs) [(L + 1 + 1 + 1, o3), (L + 1 + 1, o2), (L + 1, o1)] = REST := ⟨_, rfl⟩; refine xE1A1 z15q ?_; (try clear z15q); intro REST hREST
      have S11 : Sep ((tp, listOf ts.toArray nt) :: REST) := by rw [← hREST]; exact law_back_sep hZ S5
      have N11 : News h₀ L h5 ((tp, listOf ts.toArray nt) :: REST) := by rw [← hREST]; exact News.perm N10 fun q hq => .tail _ (law_back_mem hZ hq)
      have A1 : At3 L o1 o2 o3 REST := by rw [← hREST]; exact At3.own.up fun _ h => .tail _ (lawR_at h)
      have e1 : (L + 1, o1) ∈ REST := A1.e1
      have e2 : (L + 1 + 1, o2) ∈ REST := A1.e2
      have e3 : (L + 1 + 1 + 1, o3) ∈ REST := A1.e3
      have hoff := S11.ne
      clear N10 hZ hzs hsub S5 g1 g2 g3 g4 g5 g6 g7 g8 up2 hNW2 hit hR2 hsz1 hb S S2 hI
      cases hts with
      | nil =>
        k_steps
        rename Fr _ _ _ _ => F27
        rename News _ _ _ _ => N27
        have H2 : LawOK prog w (40 + 10 * i) M rws ((looseOf bs).map (·.1)) := by rw [looseOf, List.map_map]; exact H
        exact law_turn (ts := []) F27 N27 ⟨M, rws, looseOf bs, n1, H2, Nat.le_refl _, (fun q hq => by rw [← hREST]; exact hq), (by rw [← hREST] at S11; exact S11)⟩ (by k_extra "o") (by k_extra "o") .nil hts63
      | @cons z tz vs' ns' hts' =>
        k_steps
        unfold Halt
        rename Fr _ _ _ _ => F12
        rename News _ _ _ _ => N12
        rename AllLt _ ((tp, _) :: _) => lH
        refine next_at (pre := [_]) (IntsAre.cons _ _ hts') Bl F12 X N12 T (List.forall_mem_singleton.mpr (Nat.ne_of_gt lH.1)) hoff hts63 rfl rfl (Nat.le_of_ble_eq_true rfl) rfl (Nat.le_of_ble_eq_true rfl) rfl ?_
        intro t1 vs1 nt1 h13 tk13 F13 N13 hi1 hl1
        clear F12 N12
        dsimp only [List.cons_append, List.nil_append] at N13
        k_steps
        unfold Halt
        rename Fr _ _ _ _ => F14
        rename News _ _ _ _ => N14
        refine list_mod (P := fun v => ∃ x t, v = Value.str x t ∧ x ∈ HD8) N14 (.tail _ (.head _)) rfl (Nat.zero_lt_succ _) (Nat.le_of_ble_eq_true rfl) ?hP8 ?_
        case hP8 =>
          intro v hv
          simp only [List.mem_cons, List.not_mem_nil, or_false] at hv
          rcases hv with rfl | rfl | rfl | rfl | rfl | rfl | rfl | rfl <;> exact ⟨_, _, rfl, by decide +kernel⟩
        intro _ z16q; refine xE2A2 z16q ?_; (try clear z16q); intro hd' th z17q hhd; obtain rfl := z17q
        have F14b := F14
        have N14b := N14
        clear F14 N14
        k_steps
        unfold Halt
        rename Fr _ _ _ _ => F15
        rename News _ _ _ _ => N15
        refine next_at (pre := []) hi1 Bl F15 X N15 T (fun _ h => nomatch h) (List.forall_mem_cons.mpr ⟨Nat.ne_of_gt lH.1, hoff⟩) hl1 rfl rfl (Nat.le_of_ble_eq_true rfl) rfl (Nat.le_of_ble_eq_true rfl) rfl ?_
        intro t2 vs2 nt2 h16 tk16 F16 N16 hi2 hl2
        clear F15 N15
        dsimp only [List.nil_append] at N16
        k_steps
        unfold Halt
        rename Fr _ _ _ _ => F17
        rename News _ _ _ _ => N17
        rename IsRange _ _ _ _ _ _ _ _ => hR3
        refine xE1A2 (fmod_four ((z :: ns').tail.headD 0)) fun k4 hk4 hk4l => ?_
        rw [hk4] at hR3
        have hsz3 : Builtin.Range.rangeSize 0 (k4 : Int) 1 = ((k4 : Nat) : Int) := by rw [rangeSize_one]; split <;> k_extra "o"
        generalize hp8 : (_, listOf #[Value.str (Str.ofString "S") _, _, _, _, _, _, _, _] 0) = p8 at N17 lH
        have z18q : ∃ l, p8 :: REST = l := ⟨_, rfl⟩; refine xE1A1 z18q ?_; (try clear z18q); intro RT3 hRT3
        rw [hRT3] at N17
        have hoffR : ∀ q ∈ RT3, @Ne Nat q.1 tp := by rw [← hRT3]; exact List.forall_mem_cons.mpr ⟨by rw [← hp8]; exact Nat.ne_of_gt lH.1, hoff⟩
        have e1 : (L + 1, o1) ∈ RT3 := by rw [← hRT3]; exact .tail _ e1
        have e2 : (L + 1 + 1, o2) ∈ RT3 := by rw [← hRT3]; exact .tail _ e2
        have e3 : (L + 1 + 1 + 1, o3) ∈ RT3 := by rw [← hRT3]; exact .tail _ e3
        repeat (rename (L + 1, o1) ∈ REST => ex; clear ex)
        repeat (rename (L + 1 + 1, o2) ∈ REST => ex; clear ex)
        repeat (rename (L + 1 + 1 + 1, o3) ∈ REST => ex; clear ex)
        refine CompSrc.range rfl F17 N17 hR3 (small_one (by decide) (by decide) (by k_extra "o") (by k_extra "o")) hsz3 (by rw [sizeLine_eq]; k_extra "o") fun g1 => ?_
        refine CompRest_J (n := k4) (SymJ tp RT3) (fun _ _ _ _ => trivial) ?turn2 ?fin2 _ 0 [] _ (by k_extra "o") ⟨[], _, _, _, rfl, rfl, (fun _ h => nomatch h), hi2, hl2, rfl⟩
        case turn2 =>
          intro j v I1 oI C oC D ys m₂ h3 tk3 E' news hj z19q z20q hC hx F18 N18 off ne; refine xE1A1 z19q ?_; (try clear z19q); intro tv z21q; obtain rfl := z21q; refine xE4A6 z20q ?_; (try clear z20q); intro its vs3 ns3 nt3 z22q hil hi8 hi3 hl3 z23q; obtain rfl := z22q; obtain rfl := z23q
          clear F17 N17
          k_steps
          unfold Halt
          rename Fr _ _ _ _ => F19
          rename News _ _ _ _ => N19
          have o1 := off.mem _ (.head _)
          refine next_at (pre := [_, _, _]) hi3 Bl F19 X N19 T (List.forall_mem_cons.mpr ⟨Ne.symm o1.1, List.forall_mem_cons.mpr ⟨Ne.symm o1.2.1, List.forall_mem_singleton.mpr (Ne.symm o1.2.2)⟩⟩) hoffR hl3 rfl rfl (Nat.le_of_ble_eq_true rfl) rfl (Nat.le_of_ble_eq_true rfl) rfl ?_
          intro t4 vs4 nt4 h20 tk20 F20 N20 hi4 hl4
          clear F19 N19
          dsimp only [List.cons_append, List.nil_append] at N20
          k_steps
          unfold Halt
          rename Fr _ _ _ _ => F21
          rename News _ _ _ _ => N21
          refine' base_mod (P := fun v => ∃ x t, v = Value.str x t ∧ x ∈ S8) ?hl8 ?hv8 ?hq8 ?h08 ?h98 ?hP9 ?_
          case hl8 => with_unfolding_all exact listIn X F21 (by k_is)
          case hv8 => exact rfl
          case hq8 => exact rfl
          case h08 => exact Nat.zero_lt_succ _
          case h98 => exact Nat.le_of_ble_eq_true rfl
          case hP9 =>
            intro v hv
            simp only [List.mem_cons, List.not_mem_nil, or_false] at hv
            rcases hv with rfl | rfl | rfl | rfl | rfl | rfl | rfl | rfl <;> exact ⟨_, _, rfl, by decide +kernel⟩
          intro _ z24q; refine xE2A2 z24q ?_; (try clear z24q); intro x tx z25q hx8; obtain rfl := z25q
          exact symJ_step F21 N21 off hil hi8 hx8 hi4 hl4
        case fin2 =>
          intro _ _ z26q; refine xE4A6 z26q ?_; (try clear z26q); intro its vs3 ns3 nt3 z27q hil hi8 hi3 hl3 z28q; obtain rfl := z27q; obtain rfl := z28q
          clear F17 N17
          k_steps
          unfold Halt
          rename Fr _ _ _ _ => F22
          rename News _ _ _ _ => N22
          rename _ ∧ Off1 _ _ => o1
          have o2 := off1_of o1.2
          refine next_at (pre := [_]) hi3 Bl F22 X N22 T (List.forall_mem_singleton.mpr (Ne.symm o1.1)) hoffR hl3 rfl rfl (Nat.le_of_ble_eq_true rfl) rfl (Nat.le_of_ble_eq_true rfl) rfl ?_
          intro t5 vs5 nt5 h23 tk23 F23 N23 hi5 hl5
          clear F22 N22
          dsimp only [List.cons_append, List.nil_append] at N23
          k_steps
          unfold Halt
          rename Fr _ _ _ _ => F24
          rename News _ _ _ _ => N24
          refine' base_mod (P := fun v => ∃ tl tls, v = Value.ref tl ∧ Tl4 (tls.map (·.1)) ∧ ListIs (hd.heap_1 w.params) [] tl (strV tls)) ?hl7 ?hv7 ?hq7 ?h07 ?h97 ?hP7 ?_
          case hl7 => with_unfolding_all exact listIn X F24 (by k_is)
          case hv7 => exact rfl
          case hq7 => exact rfl
          case h07 => exact Nat.zero_lt_succ _
          case h97 => exact Nat.le_of_ble_eq_true rfl
          case hP7 => exact tails_ok w
          intro _ z29q; refine xE2A3 z29q ?_; (try clear z29q); intro tl tls z30q htl4 htl; obtain rfl := z30q
          k_steps
          unfold Halt
          rename Fr _ _ _ _ => F25
          rename News _ _ _ _ => N25
          have H2 : LawOK prog w (40 + 10 * i) M rws ((looseOf bs).map (·.1)) := by rw [looseOf, List.map_map]; exact H
          refine does0_call (law_offer (X := [(I, it)]) (ots := listOf (List.toArray vs5) nt5) (n2 := (strV its).length) H2 lo (by k_extra "o") (by k_extra "o") (by k_extra "o") hi8 htl4 hhd htl (law_sep12 hREST S11 o1.1 (fun q hq => o2 q (by rw [← hRT3]; exact .tail _ hq)))) Bl F25 X N25 ?hs5 T rfl rfl (Nat.le_of_ble_eq_true rfl) rfl (Nat.le_of_ble_eq_true rfl) rfl ?_
          case hs5 =>
            intro q hq
            rw [← hRT3, ← hREST]
            exact ledIn [_, _, _, _] [_] (.c 0 <| .c 1 <| .a (.c 3 <| .n) <| .l 0) (.c 0 <| .c 1 <| .c 2 <| .c 3 <| .l 0) rfl _ hq
          intro r6 nws6 h6 tk6 F26 N26 z31q; refine xE0A3 z31q ?_; (try clear z31q); intro z32q hLS _; obtain rfl := z32q
          clear F25 N25
          k_steps
          rename Fr _ _ _ _ => F27
          rename News _ _ _ _ => N27
          exact law_turn F27 N27 hLS (by k_extra "o") (by k_extra "o") hi5 hl5
  case done =>
    intro m₁ nws₁ h tk z33q F2 N2; refine xE7A6 z33q ?_; (try clear z33q); intro M rws vs n1 ts ns nt H hrl hts hts63 z34q S; obtain rfl := z34q
    clear F1 N1
    have z35q : ∃ NW, lawL w G M pco pt [pv1, pv2] npt rl rws n1 vs tp ts nt [(L + 1 + 1 + 1, o3), (L + 1 + 1, o2), (L + 1, o1)] = NW := ⟨_, rfl⟩; refine xE1A1 z35q ?_; (try clear z35q); intro NW hNW
    have A0 : AtNW w G L o1 o2 o3 NW := by rw [← hNW]; exact AtNW.law At3.own
    have e1 : (L + 1, o1) ∈ NW := A0.e1
    have e2 : (L + 1 + 1, o2) ∈ NW := A0.e2
    have e3 : (L + 1 + 1 + 1, o3) ∈ NW := A0.e3
    have e4 : (G.g, instObj 283 G.dg) ∈ NW := A0.e4
    have e5 : (G.dg, gramD w G) ∈ NW := A0.e5
    rw [hNW] at N2
    have F3 : Fr h₀ L h m₁ := F2
    have N3 : News h₀ L h NW := N2
    clear F2 N2
    repeat (rename Fr h₀ L s.heap m => Fx; clear Fx)
    repeat (rename News h₀ L s.heap nws => Fx; clear Fx)
    k_steps
    unfold Halt
    rename Fr _ _ _ _ => F4
    rename News _ _ _ _ => N4
    refine' does0_call (law_build H lo S) Bl F4 X N4 ?hsD T rfl rfl (Nat.le_of_ble_eq_true rfl) rfl (Nat.le_of_ble_eq_true rfl) rfl ?_
    case hsD =>
      intro q hq
      have z := fx_mem hq
      rw [hNW] at z
      repeat (first | exact z | apply List.mem_cons_of_mem)
    intro r2 nws2 h2 tk2 F5 N5 z36q; refine xE1A4 z36q ?_; (try clear z36q); intro bs hbs hsub S5 hit
    rw [← hbs] at H hit
    have z37q : ∃ Z, builtN w bs ++ fxL w G M pco pt [pv1, pv2] npt rl rws n1 tp ts nt [(L + 1 + 1 + 1, o3), (L + 1 + 1, o2), (L + 1, o1)] = Z := ⟨_, rfl⟩; refine xE1A1 z37q ?_; (try clear z37q); intro Z hZ
    have hzs : ∀ q ∈ fxL w G M pco pt [pv1, pv2] npt rl rws n1 tp ts nt [(L + 1 + 1 + 1, o3), (L + 1 + 1, o2), (L + 1, o1)], q ∈ Z := fun q hq => by rw [← hZ]; exact List.mem_append_right _ hq
    clear F4 N4 e1 e2 e3 e4 e5 hNW
    rw [hZ] at hsub S5
    have B0 : AtZ w G M rl rws n1 tp ts nt L o1 o2 o3 Z := (AtZ.fx At3.own).up hzs
    have g1 : (L + 1, o1) ∈ Z := B0.e1
    have g2 : (L + 1 + 1, o2) ∈ Z := B0.e2
    have g3 : (L + 1 + 1 + 1, o3) ∈ Z := B0.e3
    have g4 : (G.g, instObj 283 G.dg) ∈ Z := B0.e4
    have g5 : (G.dg, gramD w G) ∈ Z := B0.e5
    have g6 : (G.lp, listOf M.lpv.toArray M.nlp) ∈ Z := B0.e6
    have g7 : (rl, listOf (rwV rws).toArray n1) ∈ Z := B0.e7
    have g8 : (tp, listOf ts.toArray nt) ∈ Z := B0.e8
    have z38q : ∃ N, laAll bs ++ Z = N := ⟨_, rfl⟩; refine xE1A1 z38q ?_; (try clear z38q); intro NW2 hNW2
    have up2 : ∀ q ∈ Z, q ∈ NW2 := fun q hq => by rw [← hNW2]; exact List.mem_append_right _ hq
    have N6 : News h₀ L h2 NW2 := by rw [← hNW2]; exact News.perm N5 hsub
    have e1 := up2 _ g1
    have e2 := up2 _ g2
    have e3 := up2 _ g3
    have e4 := up2 _ g4
    have e5 := up2 _ g5
    have e6 := up2 _ g6
    have e7 := up2 _ g7
    clear N5
    have hlp : M.lpv.length = rws.length := by rw [H.lpv, List.length_map, H.rows.len]
    have hrw : (rwV rws).length = rws.length := List.length_map ..
    have hrl9 : rws.length ≤ 9 := by k_extra "o"
    k_steps
    rotate_left
    · rename Fr _ _ _ _ => F12
      rw [show ((rws.length : Int) == (rws.length : Int)) = true from beq_self_eq_true _]
      exact hret _ _ _ F12
    unfold Halt
    rename Fr _ _ _ _ => F7
    rename News _ _ _ _ => N7
    rename IsRange _ _ _ _ _ _ _ _ => hR2
    have hsz1 : Builtin.Range.rangeSize 0 (rws.length : Int) 1 = ((rws.length : Nat) : Int) := by rw [rangeSize_one]; split <;> k_extra "o"
    have hbl : bs.length = rws.length := by rw [← H.rows.len, List.length_map]
    rw [← hNW2] at N7
    refine CompSrc.range rfl F7 N7 hR2 (small_one (by decide) (by decide) (by k_extra "o") (by k_extra "o")) hsz1 (by rw [sizeLine_eq]; k_extra "o") fun g0 => ?_
    refine CompRest_J (n := rws.length) (fun k ys news => LSm.BoolsAre ys (List.replicate k true) ∧ news = laAll (bs.drop k) ++ Z) (fun _ _ _ _ => trivial) ?turnD ?finD _ 0 [] (laAll bs ++ Z) (by k_extra "o") ⟨.nil, rfl⟩
    case turnD =>
      intro j v I1 oI C oC D ys m₂ h3 tk3 E' news hj z39q z40q hC hx F8 N8 off ne; refine xE1A1 z39q ?_; (try clear z39q); intro tv z41q; obtain rfl := z41q; refine xE0A2 z40q ?_; (try clear z40q); intro hb z42q; obtain rfl := z42q
      rw [Int.zero_add] at hx
      clear F7 N7 F5 N6 e1 e2 e3 e4 e5 e6 e7
      have e2 : (L + 1 + 1, o2) ∈ laAll (bs.drop j) ++ Z := List.mem_append_right _ g2
      have e3 : (L + 1 + 1 + 1, o3) ∈ laAll (bs.drop j) ++ Z := List.mem_append_right _ g3
      have S7 := sep_comp (oI := oI) (oC := oC) (oD := LCg.lst ys) S5 off ne
      k_steps
      unfold Halt
      rename Fr _ _ _ _ => F9
      rename News _ _ _ _ => N9
      rw [← hZ] at N9 S7 off
      refine does_call (law_listed H (by k_extra "o") (by k_extra "o") hit S7) Bl F9 X N9 ?hs2D T rfl rfl (Nat.le_of_ble_eq_true rfl) rfl (Nat.le_of_ble_eq_true rfl) rfl ?_
      case hs2D =>
        intro q hq
        exact ledIn [_, _, _] [_, _, _] (.a (.l 0) <| .a (.c 0 <| .c 1 <| .c 2 <| .n) <| .a (.l 1) <| .l 2) (.c 0 <| .c 1 <| .c 2 <| .a (.l 0) <| .a (.l 1) <| .l 2) rfl _ hq
      intro r3 nws3 h4 tk4 F10 N10 z43q; refine xE0A2 z43q ?_; (try clear z43q); intro z44q hsub3; obtain rfl := z44q
      rw [hZ] at hsub3 off
      exact compJ_listed F10 N10 (by k_extra "o") hsub3 off hb
    case finD =>
      intro ys news z45q; refine xE0A2 z45q ?_; (try clear z45q); intro hb z46q; obtain rfl := z46q
      rw [← hbl, List.drop_length]
      clear F7 N7 F5 N6 e1 e2 e3 e4 e5 e6 e7
      k_steps
      unfold Halt
      rename Fr _ _ _ _ => F9
      rename News _ _ _ _ => N9
      rename Off1 _ _ => oo1
      clear oo1
      refine all_true_b F9 N9 rfl (.head _) hb fun h5 tk5 F10 N10 => ?_
      clear F9 N9
      k_steps
      rename Fr _ _ _ _ => F12
      exact hret _ _ _ F12
end

noncomputable abbrev openL0 (w : World) (G : GA) (M : GM) (pco : Obj) (pt : Addr) (pv : List Value) (npt : Nat) (rl : Addr) (r0 : RW) (n1 : Nat) (R : Led) : Led :=
  (rl, listOf (rwV [r0]).toArray n1) :: stL w G M pco pt pv npt (rowsL [r0] ++ R)
structure OpenOK (prog : Program) (w : World) (G : GA) (M : GM) (r0 : RW) : Prop where
  mok : MOK prog w 20 M
  lpv : M.lpv = [.none]
  pm : M.pm = []
  pn : M.pn = []
  st : G.st = .none
  name : r0.name = S_ "S'"
  syms : r0.syms = [S_ "S"]
noncomputable def S7 : List Str := [S_ "a", S_ "A", S_ "S", S_ "'.'", S_ "B", S_ "D", S_ "error"]
noncomputable def SymK (tp : Addr) (RT : Led) (i : Nat) (ys : List Value) (news : Led) : Prop :=
  ∃ (its : List (Str × Tok)) (vs : List Value) (ns : List Int) (nt : Nat), ys = strV its ∧ its.length = i ∧ (∀ x ∈ its.map (·.1), x ∈ S7) ∧ IntsAre vs ns ∧ vs.length ≤ 63 ∧ news = (tp, listOf vs.toArray nt) :: RT
theorem symK_step {h₀ h' : Heap} {L I C D tp : Addr} {m : Str → Option Value} {s : Shared} {oI oC o : Obj} {its : List (Str × Tok)} {vs : List Value} {ns : List Int} {nt tk' j : Nat} {RT : Led} {x : Str} {tx : Tok} (F : Fr h₀ L h' m) (N : News h₀ L h' ((tp, listOf (List.toArray vs) nt) :: (I, oI) :: (C, oC) :: (D, LCg.lst (strV its)) :: RT)) (off : LCg.Off3 I C D ((tp, o) :: RT))
    (hj : its.length = j) (h8 : ∀ x ∈ its.map (·.1), x ∈ S7) (hx : x ∈ S7) (hi : IntsAre vs ns) (hl : vs.length ≤ 63) : CompJ h₀ L m s I oI C oC D (strV its) (fun y => SymK tp RT (j + 1) (strV its ++ [y])) (.str x tx) { s with heap := h', toks := tk' } := by
  refine (yE3A5 ((tp, listOf vs.toArray nt) :: RT) h' tk' rfl F (News.perm N fun q hq => ?_) (LCg.Off3.of fun p hp => ?_) (yE4A6 (its ++ [(x, tx)]) vs ns nt (by simp [strV]) (by simp [hj]) (fun y hy => ?_) hi hl rfl))
  · simp only [List.mem_cons] at hq ⊢
    rcases hq with h | h | h | h | h <;> simp only [h, true_or, or_true]
  · rcases List.mem_cons.mp hp with rfl | hp
    · exact off.mem (tp, o) (.head _)
    · exact off.mem _ (.tail _ hp)
  · rw [List.map_append, List.mem_append] at hy
    rcases hy with hy | hy
    · exact h8 y hy
    · simp only [List.map_cons, List.map_nil, List.mem_singleton] at hy
      rw [hy]; exact hx
section
variable {prog : Program} {w : World} {A : Around} {E : Value → Shared → Prop} {s : Shared} {h₀ : Heap} {L t : Addr} {m : Str → Option Value} {news : Led} {vs : List Value} {n : Nat} {Q : Value → Shared → Prop}
theorem base_modN {value slice : Expr} {P : Value → Prop} {z q : Int} {u : Tok} {its : Array Value} {k : Nat} (hl : s.heap.IsList t its) (hv : its = vs.toArray) (hq : (k : Int) = q) (h0 : 0 < k) (hk : k ≤ 1000) (h9 : k ≤ vs.length) (hP : ∀ v ∈ vs.take k, P v) (h : ∀ v, P v → Q v s)
    (hs : subscripted slice false (.ref t) (.int (z.fmod q) u) = operate [.ref t, .int (z.fmod q) u] (getItem (.ref t) (.int (z.fmod q) u)) := by with_unfolding_all rfl) (hg : ∀ r, letTemporaryGo value (.ref t) r = pure () := by intro _; with_unfolding_all rfl) :
    wpAny (model prog w) A (subscriptTail value slice (.ref t) (.int (z.fmod q) u)) Q E s := by
  subst hv hq
  have h1 : 0 ≤ z.fmod (k : Int) := Int.fmod_nonneg_of_pos _ (by k_extra "o")
  have h2 : z.fmod (k : Int) < (k : Int) := Int.fmod_lt_of_pos _ (by k_extra "o")
  refine xE1A1 (Int.eq_ofNat_of_zero_le h1) fun j hj => ?_
  rw [hj] at h2 hs ⊢
  have hjl : j < vs.length := by k_extra "o"
  refine subscriptTail_builtin hl.typeIs PySem.slot_list_getitem.lookup ?_ hs hg
  refine wpAny_getItem_list hl (by k_extra "o") (by k_extra "o") (x := vs[j]) (by simp [hjl]) (h _ (hP _ ?_))
  rw [List.mem_take_iff_getElem]
  exact ⟨j, by k_extra "o", rfl⟩
end

section
variable {prog : Program} {w : World} {G : GA} {B : Nat} {M : GM} {pco : Obj} {pt rl tp I D tl : Addr} {pv1 pv2 : Value} {npt n1 nt k : Nat} {r0 : RW} {R X : Led} {ots : Obj} {its : List (Str × Tok)} {th : Tok} {n2 : Nat}
noncomputable def FirstOK (prog : Program) (w : World) (G : GA) (pco : Obj) (pt : Addr) (pv : List Value) (npt : Nat) (rl tp : Addr) (ots : Obj) (r0 : RW) (R : Led) (NW : Led) : Prop :=
  ∃ (M : GM) (x : PR) (li : Addr) (rw' : RW) (n1 : Nat), x.name = S_ "S" ∧ rw'.name = S_ "S" ∧ rw'.syms = x.syms ∧ x.its.length ≤ 3 ∧ (∀ s ∈ x.syms, s ∈ N7) ∧ x.num = 1 ∧ x.uv.map (·.1) = dedupS x.syms ∧ M.lpv = [.none, .ref x.p] ∧ M.pm = [(rowT (S_ "S") x.syms, .ref x.p)] ∧
    (∀ s, dlGet M.pn s = if s = S_ "S" then [.ref x.p] else []) ∧ S_ "S" ∈ M.nt.map (·.1) ∧ MOK prog w 30 M ∧
    NW = stL w G M pco pt pv npt (prL w x (.ref li) .none ((tp, ots) :: (rl, listOf (rwV [r0, rw']).toArray n1) :: (rowsL [r0, rw'] ++ R))) ∧ Sep NW
set_option maxHeartbeats 1000000 in
theorem law_first (hO : OpenOK prog w G M r0) (lo : LoOK prog w G pco pt) (h3 : its.length ≤ 3) (h7 : ∀ x ∈ its.map (·.1), x ∈ S7)
    (S : Sep ((tl, listOf (List.toArray []) k) :: (D, listOf (strV its).toArray n2) :: (tp, ots) :: openL0 w G M pco pt [pv1, pv2] npt rl r0 n1 R)) :
    Does0 prog w 320 100 314 [.ref G.g, .ref rl, .str (Str.ofString "S") th, .ref D, .ref tl] ((tl, listOf (List.toArray []) k) :: (D, listOf (strV its).toArray n2) :: (tp, ots) :: openL0 w G M pco pt [pv1, pv2] npt rl r0 n1 R)
      (fun r nws => r = .bool true ∧ ∃ NW, (∀ q ∈ NW, q ∈ nws) ∧ FirstOK prog w G pco pt [pv1, pv2] npt rl tp ots r0 R NW) := by
  have h8 : ∀ x ∈ its.map (·.1), x ∈ S8 := fun x hx => by
    have := h7 x hx
    simp only [S7, List.mem_cons, List.not_mem_nil, or_false] at this
    rcases this with rfl | rfl | rfl | rfl | rfl | rfl | rfl <;> decide +kernel
  have hab : S_ "'ab'" ∉ its.map (·.1) := fun hx => by
    have := h7 _ hx
    revert this
    decide +kernel
  have hS3 : S_ "S" ∈ H3 := by decide +kernel
  have DD := offered_spec prog w G 20 M rl D tl pt npt (S_ "S") th its [] n1 n2 [r0] pco pv1 pv2 ((tl, listOf (List.toArray []) k) :: (D, listOf (strV its).toArray n2) :: (tp, ots) :: R) h3 h8 (.inl rfl) (.inl hS3) (.tail _ (.head _)) (.inl ⟨k, .head _⟩) (Nat.le_of_ble_eq_true rfl)
    ⟨⟨r0, [], rfl, by rw [hO.name]; decide +kernel, by rw [hO.pm]; rfl, fun _ h => nomatch h⟩⟩
    (fun d hd => by
      refine xE1A2 (List.mem_map.mp hd) fun r hr z1q => ?_; obtain rfl := z1q
      rw [List.mem_singleton.mp hr, hO.name, hO.syms]
      decide +kernel) hO.mok (by decide) lo.te lo.nt lo.pn lo.pm lo.pc lo.pco (fun e he => by rw [hO.pm] at he; exact nomatch he)
    (Sep.sub S fun k => by
      exact ledCnt [_, _, _, _, _, _, _, _, _, _, _, _, _, _, _, _] [_, _, _, _] (.c 3 <| .c 4 <| .c 5 <| .c 6 <| .c 7 <| .c 8 <| .c 9 <| .c 10 <| .c 11 <| .c 12 <| .c 13 <| .a (.l 0) <| .a (.l 1) <| .a (.l 2) <| .a (.c 14 <| .c 15 <| .n) <| .c 0 <| .c 1 <| .c 2 <| .l 3) (.c 0 <| .c 1 <| .c 2 <| .c 3 <| .c 4 <| .c 5 <| .c 6 <| .c 7 <| .c 8 <| .c 9 <| .c 10 <| .c 11 <| .c 12 <| .c 13 <| .a (.l 0) <| .a (.l 1) <| .a (.l 2) <| .a (.c 14 <| .c 15 <| .n) <| .l 3) rfl k)
  intro mean mg mb cn cs a ccd cl A₀ h₀ L m s Q E Bl F X₀ N T hk hret
  refine DD mean mg mb cn cs a ccd cl A₀ h₀ L m s Q E Bl F X₀ (News.perm N fun q hq => ?_) T hk fun r news' h' tk' F' N' hp => hret r news' h' tk' F' N' ?_
  · exact ledIn [_, _, _, _, _, _, _, _, _, _, _, _, _, _, _, _] [_, _, _, _] (.c 3 <| .c 4 <| .c 5 <| .c 6 <| .c 7 <| .c 8 <| .c 9 <| .c 10 <| .c 11 <| .c 12 <| .c 13 <| .a (.l 0) <| .a (.l 1) <| .a (.l 2) <| .a (.c 14 <| .c 15 <| .n) <| .c 0 <| .c 1 <| .c 2 <| .l 3) (.c 0 <| .c 1 <| .c 2 <| .c 3 <| .c 4 <| .c 5 <| .c 6 <| .c 7 <| .c 8 <| .c 9 <| .c 10 <| .c 11 <| .c 12 <| .c 13 <| .a (.l 0) <| .a (.l 1) <| .a (.l 2) <| .a (.c 14 <| .c 15 <| .n) <| .l 3) rfl _ hq
  · refine xE0A2 hp ?_; (try clear hp); intro z2q hp; obtain rfl := z2q
    refine ⟨rfl, ?_⟩
    focus (refine xO2 (hp) ?_ ?_; (try clear hp); intro w1q; refine xE0A2 w1q ?_; (try clear w1q); intro _ hbad; rotate_left 1; (try clear hp); intro w2q; refine xE0A3 w2q ?_; (try clear w2q); intro hh _ w3q; refine xE5A14 w3q ?_; (try clear w3q); intro M' x li rw' n1' e1 e2 e3 e4 e5 e6 e7 e8 e9 e9a _ e10 e11 e12; rotate_left 1)
    · focus (refine xO4 (hbad hS3) ?_ ?_ ?_ ?_; intro h; rotate_left 1; intro h; rotate_left 1; intro h; rotate_left 1; intro h; rotate_left 1)
      · exact absurd h hab
      · cases h
      · cases h
      · rw [hO.pm] at h; cases h
    · have hl : x.its.length = its.length := by
        have := congrArg List.length e2
        simpa using this
      refine (yE1A2 _ (fun q hq => e11 q ?_) (yE5A14 M' x li rw' n1' e1 e3 (by rw [e4, e2]) (by k_extra "o") (fun s hs => nrm7_all h8 hab s (e2 ▸ hs)) (by rw [e5, hO.lpv]; rfl) e6 (by rw [e7, hO.lpv]; rfl) (by rw [e8, hO.pm, e2]; rfl) (fun s => ?_) e9a e10 rfl (Sep.sub e12 fun k => ?_)))
      · exact ledIn [_, _, _, _, _, _, _, _, _, _, _, _, _, _, _, _, _, _, _, _, _, _] [_, _, _, _] (.c 1 <| .c 2 <| .c 3 <| .c 4 <| .c 5 <| .c 6 <| .c 7 <| .c 8 <| .c 9 <| .c 10 <| .a (.l 0) <| .a (.l 1) <| .a (.l 2) <| .c 11 <| .c 12 <| .c 13 <| .c 14 <| .c 21 <| .c 0 <| .a (.c 15 <| .c 16 <| .c 17 <| .c 18 <| .n) <| .l 3) (.c 0 <| .c 1 <| .c 2 <| .c 3 <| .c 4 <| .c 5 <| .c 6 <| .c 7 <| .c 8 <| .c 9 <| .c 10 <| .a (.l 0) <| .a (.l 1) <| .a (.l 2) <| .c 11 <| .c 12 <| .c 13 <| .c 14 <| .a (.c 15 <| .c 16 <| .c 17 <| .c 18 <| .n) <| .c 19 <| .c 20 <| .c 21 <| .l 3) rfl _ hq
      · rw [e9, hO.pn]; rfl
      · exact ledCnt [_, _, _, _, _, _, _, _, _, _, _, _, _, _, _, _, _, _, _, _, _, _] [_, _, _, _] (.c 1 <| .c 2 <| .c 3 <| .c 4 <| .c 5 <| .c 6 <| .c 7 <| .c 8 <| .c 9 <| .c 10 <| .a (.l 0) <| .a (.l 1) <| .a (.l 2) <| .c 11 <| .c 12 <| .c 13 <| .c 14 <| .c 21 <| .c 0 <| .a (.c 15 <| .c 16 <| .c 17 <| .c 18 <| .n) <| .l 3) (.c 0 <| .c 1 <| .c 2 <| .c 3 <| .c 4 <| .c 5 <| .c 6 <| .c 7 <| .c 8 <| .c 9 <| .c 10 <| .a (.l 0) <| .a (.l 1) <| .a (.l 2) <| .c 11 <| .c 12 <| .c 13 <| .c 14 <| .a (.c 15 <| .c 16 <| .c 17 <| .c 18 <| .n) <| .c 19 <| .c 20 <| .c 21 <| .l 3) rfl k
end
section
variable {prog : Program} {w : World} {G : GA} {M : GM} {pco : Obj} {pt rl tp : Addr} {pv : List Value} {npt n1 nt : Nat} {r0 rw' : RW} {R nws : Led} {ts : List Value} {ns : List Int} {x : PR} {li : Addr} {tq : Tok}
set_option maxHeartbeats 1000000 in
theorem law_start (h0 : r0.name = S_ "S'") (h0s : r0.syms = [S_ "S"]) (e1 : x.name = S_ "S") (e2 : rw'.name = S_ "S") (e3 : rw'.syms = x.syms) (e4 : x.its.length ≤ 3) (e5 : ∀ s ∈ x.syms, s ∈ N7) (e6 : x.num = 1) (e7 : x.uv.map (·.1) = dedupS x.syms) (e8 : M.pm = [(rowT (S_ "S") x.syms, .ref x.p)])
    (e9 : ∀ s, dlGet M.pn s = if s = S_ "S" then [.ref x.p] else []) (hts : IntsAre ts ns) (h63 : ts.length ≤ 63)
    (H : StartOK prog w G 30 M pco pt pv npt (prL w x (.ref li) .none ((tp, listOf ts.toArray nt) :: (rl, listOf (rwV [r0, rw']).toArray n1) :: (rowsL [r0, rw'] ++ R))) x.p tq nws) :
    ∃ NW, (∀ q ∈ NW, q ∈ nws) ∧ LawJ prog w { G with st := .str (S_ "S") tq } pco pt pv npt rl tp R 0 NW := by
  refine xE3A10 H ?_; (try clear H); intro M' y li' q1 q2 q3 q4 q5 q6 q7 q8 q9 q10
  have hy : y.its.length = 1 := by
    have := congrArg List.length q6
    simpa using this
  refine (yE1A2 _ (fun q hq => q9 q ?mem) (yE7A6 M' ([r0, rw']) ([(y, .ref li', .none), (x, .ref li, .none)]) n1 ts ns nt ⟨⟨rfl, fun k r z hr hz => ?row⟩, ⟨⟨r0, [rw'], rfl, by rw [h0]; decide +kernel, by rw [q3, e8, ← e3, List.map_cons, List.map_nil, List.map_cons, List.map_nil, e2], fun r hr => ?rel⟩⟩, q4.lift (by decide), ?lpv, fun s hs => ?pn, fun e he => ?pm⟩ (Nat.le_of_ble_eq_true rfl) hts h63 rfl (Sep.sub q10 fun k => ?sep)))
  case mem =>
    exact ledIn [_, _, _, _, _, _, _, _, _, _, _, _, _, _, _, _, _, _, _, _, _, _, _, _] [_, _, _, _] (.c 18 <| .c 19 <| .c 0 <| .c 1 <| .c 2 <| .c 3 <| .c 4 <| .c 5 <| .c 6 <| .c 7 <| .c 8 <| .c 9 <| .a (.l 0) <| .a (.l 1) <| .a (.l 2) <| .a (.c 20 <| .c 21 <| .c 22 <| .c 23 <| .n) <| .a (.c 10 <| .c 11 <| .c 12 <| .c 13 <| .c 14 <| .c 15 <| .c 16 <| .c 17 <| .n) <| .l 3) (.c 0 <| .c 1 <| .c 2 <| .c 3 <| .c 4 <| .c 5 <| .c 6 <| .c 7 <| .c 8 <| .c 9 <| .a (.l 0) <| .a (.l 1) <| .a (.l 2) <| .c 10 <| .c 11 <| .c 12 <| .c 13 <| .c 14 <| .c 15 <| .c 16 <| .c 17 <| .c 18 <| .c 19 <| .a (.c 20 <| .c 21 <| .c 22 <| .c 23 <| .n) <| .l 3) rfl _ hq
  case sep =>
    exact ledCnt [_, _, _, _, _, _, _, _, _, _, _, _, _, _, _, _, _, _, _, _, _, _, _, _] [_, _, _, _] (.c 18 <| .c 19 <| .c 0 <| .c 1 <| .c 2 <| .c 3 <| .c 4 <| .c 5 <| .c 6 <| .c 7 <| .c 8 <| .c 9 <| .a (.l 0) <| .a (.l 1) <| .a (.l 2) <| .a (.c 20 <| .c 21 <| .c 22 <| .c 23 <| .n) <| .a (.c 10 <| .c 11 <| .c 12 <| .c 13 <| .c 14 <| .c 15 <| .c 16 <| .c 17 <| .n) <| .l 3) (.c 0 <| .c 1 <| .c 2 <| .c 3 <| .c 4 <| .c 5 <| .c 6 <| .c 7 <| .c 8 <| .c 9 <| .a (.l 0) <| .a (.l 1) <| .a (.l 2) <| .c 10 <| .c 11 <| .c 12 <| .c 13 <| .c 14 <| .c 15 <| .c 16 <| .c 17 <| .c 18 <| .c 19 <| .a (.c 20 <| .c 21 <| .c 22 <| .c 23 <| .n) <| .l 3) rfl k
  case rel =>
    rw [List.mem_singleton.mp hr, e2, e3]
    exact ⟨by decide +kernel, by rw [List.length_map]; exact e4, e5⟩
  case lpv => rw [q1]; rfl
  case pn =>
    rw [q2, e9]
    have b1 : (S_ "S'" == s) = false := Bool.eq_false_iff.mpr fun q => hs (eq_of_beq q).symm
    unfold kvOf
    by_cases h : s = S_ "S"
    · have b2 : (S_ "S" == s) = true := by rw [h]; exact beq_self_eq_true _
      rw [if_pos h]
      simp only [List.map_cons, List.map_nil, List.filter_cons, List.filter_nil, q5, e1, b1, b2, if_true, if_false, Bool.false_eq_true]
    · have b2 : (S_ "S" == s) = false := Bool.eq_false_iff.mpr fun q => h (eq_of_beq q).symm
      rw [if_neg h]
      simp only [List.map_cons, List.map_nil, List.filter_cons, List.filter_nil, q5, e1, b1, b2, if_false, Bool.false_eq_true]
  case pm =>
    rw [q3, e8] at he
    rw [List.mem_singleton.mp he]
    exact ⟨x, .tail _ (.head _), rfl⟩
  case row =>
    match k with
    | 0 =>
      cases hr
      cases hz
      exact ⟨by rw [h0, q5], by rw [h0s, q6], q7, q8, by show y.its.length ≤ 3; k_extra "o", fun s hs => by rw [q6] at hs; rw [List.mem_singleton.mp hs]; decide +kernel, by rw [q5]; exact .head _⟩
    | 1 =>
      cases hr
      cases hz
      exact ⟨by rw [e2, e1], e3, e6, e7, e4, e5, by rw [e1]; decide +kernel⟩
    | k + 2 => simp at hr
end
theorem allLt_ne {T : Addr} : ∀ {l : Led}, AllLt T l → ∀ p ∈ l, @Ne Nat p.1 T
  | [], _, _, h => nomatch h
  | _ :: _, h, p, hp => by
    rcases List.mem_cons.mp hp with rfl | hp
    · exact Nat.ne_of_lt h.1
    · exact allLt_ne h.2 p hp
theorem law_sep_first {tp D T : Addr} {o o' oD oT : Obj} {RT : Led} (S : Sep ((tp, o) :: RT)) (h1 : (@Ne Nat tp D) ∧ LCg.Off1 D RT) (h2 : @LT.lt Nat _ D T ∧ @LT.lt Nat _ tp T ∧ AllLt T RT) : Sep ((T, oT) :: (D, oD) :: (tp, o') :: RT) :=
  Sep.cons (List.forall_mem_cons.mpr ⟨Nat.ne_of_lt h2.1, List.forall_mem_cons.mpr ⟨Nat.ne_of_lt h2.2.1, allLt_ne h2.2.2⟩⟩) (Sep.cons (List.forall_mem_cons.mpr ⟨h1.1, off1_of h1.2⟩) (sep_same (by rfl) S))

section
open LCg
set_option maxHeartbeats 4000000 in
theorem law_open (prog : Program) (w : World) {name qual : Str} {params : Arguments} {body : List Stmt} {scope : Scope} {dV kV doc pm cdv ct oc : Value} {an od : Option Addr} {osl : Array (Option Value)} (hL : (hd.heap_1 w.params).lookup 329 = some ⟨oc, od, .func (fnOf name qual params body scope dV kV doc pm an cdv ct), osl⟩)
    {mean : ExcName → Option Value} {mg mb : Str → Option Value} {h₀ : Heap} {L fa : Addr} {cd : Value} {m : Str → Option Value} {s : Shared} {Q : Flow → Shared → Prop} {E : Value → Shared → Prop} (G : GA) (M : GM) (pco : Obj) (pt : Addr) (pv1 pv2 : Value) (npt : Nat) (rl tp : Addr) (o1 o2 o3 : Obj) (r0 : RW) (n1 nt : Nat) (ts : List Value) (ns : List Int)
    (X : (hd.heap_1 w.params).In h₀) (T : Top hdV LOOSE mean mg mb h₀) (Bl : Below callerA h₀ [] h₀) (F : Fr h₀ L s.heap m) (N : News h₀ L s.heap ((tp, listOf ts.toArray nt) :: openL0 w G M pco pt [pv1, pv2] npt rl r0 n1 [(L + 1 + 1 + 1, o3), (L + 1 + 1, o2), (L + 1, o1)]))
    (S : Sep ((tp, listOf ts.toArray nt) :: openL0 w G M pco pt [pv1, pv2] npt rl r0 n1 [(L + 1 + 1 + 1, o3), (L + 1 + 1, o2), (L + 1, o1)])) (lo : LoOK prog w G pco pt) (hO : OpenOK prog w G M r0) (hts : IntsAre ts ns) (h63 : ts.length ≤ 63)
    (d1 : o1.data = .cell (some (.ref tp))) (d2 : o2.data = .cell (some (.ref G.g))) (d3 : o3.data = .cell (some (.ref rl)))
    (hret : ∀ h' tk' m', Fr h₀ L h' m' → Q (.ret (.bool true)) { s with heap := h', toks := tk' }) {rest : List Stmt} (hrest : body.drop 4 = rest) :
    wpAny (model prog w) (callerA.deeper (envOfC qual scope L fa cd)) (execs rest (envOfC qual scope L fa cd)) Q E s := by
  k_with_none
  k_with "o" => (first | (with_reducible first | assumption | (show (_ : Nat) ≤ _; first | exact Nat.le_of_ble_eq_true rfl | exact Nat.zero_le _ | exact Nat.le_of_lt ‹_› | exact Nat.le_of_eq ‹_› | exact oM ‹_› | exact oL ‹_› | exact oJ | exact oK | exact qE ‹_› | exact qG ‹_› | exact oS ‹_› rfl | exact oSE ‹_› ‹_› rfl | exact oA ‹_› rfl | exact oB ‹_› rfl | exact oG ‹_› rfl | exact oE ‹_› ‹_› rfl | exact oF ‹_› ‹_› rfl | exact oH ‹_› ‹_› rfl | exact oI ‹_› ‹_› rfl | exact oQ ‹_› ‹_› rfl | exact oQ3 ‹_› ‹_› ‹_› rfl | exact xE ‹_› ‹_› rfl | exact xA ‹_› | exact xB ‹_› | exact xH ‹_› | exact xF ‹_› | exact xG ‹_› | exact xL ‹_› | exact xC ‹_› ‹_› ‹_› ‹_› rfl | exact xD ‹_› ‹_› ‹_› ‹_› ‹_› rfl | exact xK ‹_› rfl | exact xJ ‹_› ‹_› rfl | exact xI ‹_› ‹_› ‹_› rfl | exact wA ‹_› ‹_› ‹_› rfl | exact wB ‹_› ‹_› ‹_› rfl | exact yC ‹_› ‹_› ‹_› rfl | exact yE ‹_› | exact uB ‹_› ‹_› rfl | exact uF ‹_› | exact uM | exact uN | exact uO | exact uU ‹_› | exact uW ‹_› ‹_› | exact uX ‹_› ‹_› ‹_› rfl | exact uZ ‹_› ‹_› ‹_› rfl | exact vC ‹_› ‹_› rfl | exact vD ‹_› | exact vI | exact vJ | exact vL ‹_› | exact vN ‹_› ‹_› ‹_› rfl | exact vO ‹_› ‹_› ‹_› ‹_› ‹_› rfl | exact vP ‹_› ‹_› ‹_› rfl | exact vQ ‹_› ‹_› | exact vR ‹_› ‹_› ‹_› rfl | exact vT | exact Nat.min_le_left _ _ | exact Nat.le_trans ‹_› ‹_› | exact Nat.le_add_left _ _ | exact wC ‹_› ‹_› rfl | exact wI ‹_› ‹_› rfl | exact wG ‹_› ‹_› ‹_› rfl | exact wF ‹_› ‹_› ‹_›) | (show (_ : Nat) < _; first | exact Nat.le_of_ble_eq_true rfl | exact Nat.lt_succ_self _ | exact pA ‹_› rfl | exact pB ‹_› rfl | exact pG ‹_› rfl | exact pE ‹_› ‹_› rfl | exact pF ‹_› ‹_› rfl | exact pH ‹_› ‹_› rfl | exact pI ‹_› ‹_› rfl | exact pS ‹_› rfl | exact pSE ‹_› ‹_› rfl | exact qA ‹_› | exact qD ‹_› | exact qB ‹_› ‹_› | exact qC ‹_› | exact Nat.lt_of_le_of_ne ‹_› ‹_› | exact uC ‹_› ‹_› | exact uD ‹_› | exact uE ‹_› | exact uY ‹_› ‹_› | exact vG ‹_› ‹_› rfl | exact vH ‹_› | exact vK ‹_› ‹_› | exact qF ‹_› | exact zA ‹_› ‹_› | exact wK ‹_› | exact wH ‹_› rfl | exact wD ‹_› ‹_› ‹_› rfl | exact wE ‹_› ‹_› ‹_›) | (show (_ : Nat) = _; first | exact yA ‹_› | exact yB ‹_› | exact yD ‹_› | exact yS ‹_› | exact Nat.sub_add_comm ‹_› | exact Nat.add_sub_cancel' ‹_› | exact uV ‹_› | exact uJ | exact uK | exact uL | exact uP | exact uQ | exact uR | exact vE ‹_› ‹_› | exact zB | exact oZ) | (show ((_ : Nat) : Int) < 2 ^ 63; first | exact iA ‹_› rfl | exact iB ‹_› rfl | exact iE ‹_› ‹_› rfl | exact iI ‹_› ‹_› rfl) | (show ((_ : Nat) : Int) < 2 ^ 62; first | exact jA ‹_› rfl | exact jB ‹_› rfl | exact jE ‹_› ‹_› rfl) | (show ((_ : Nat) : Int) + 1 < 2 ^ 63; first | exact rA ‹_› rfl | exact rE ‹_› ‹_› rfl | exact rF ‹_› ‹_› rfl) | exact rT ‹_› ‹_› rfl | exact rM | exact rN | exact Int.natCast_nonneg _ | exact iM | exact jM | exact iP ‹_› | exact uS ‹_› | exact uT ‹_› | exact vF ‹_› | exact vM ‹_› | exact vS ‹_› | exact yF ‹_› | exact yT ‹_› | exact iS | exact iZ | exact iD ‹_› | exact iV) | omega)
  k_with "a" => (with_reducible assumption)
  k_with "kxs_still" => (((try dsimp only); (try (refine execs_gen ?_; intro zqt9)); (try k_fold); (try k_extra "bits_by_make")))
  k_with "bits_by_make" => ((try (rename Fr _ _ _ _ => zqF9; (fail_if_success (refine onlyM zqF9 ?_; goal_lacks ite List.lookup)); refine letF zqF9 ?_; clear zqF9; intro zqm9 zqF9)))
  k_with "cell_call" => (first | k_extra "a" | (refine List.mem_cons_of_mem _ ?_; k_extra "cell_call"))
  k_with "tb_start" => ((refine neN ?_; (try dsimp only); first | exact NeA.to (by k_extra "a") | exact NeA.to' (by k_extra "a") | (refine' ne_pos (by k_extra "a") (by k_extra "po")  ) | (refine' ne_pos' (by k_extra "a") (by k_extra "po")  ) | (refine' lt_pos (by k_extra "a") (by k_extra "po")  ) | (refine' lt_pos' (by k_extra "a") (by k_extra "po")  ) | exact Nat.ne_of_lt (by k_extra "a") | exact Nat.ne_of_gt (by k_extra "a") | (refine' lt_up (by k_extra "a") (by k_extra "a") (by k_extra "po")  ) | (refine' lt_up' (by k_extra "a") (by k_extra "a") (by k_extra "po")  ) | omega))
  k_with "tb_rel" => (first | (tbn_letter; first | k_extra "a" | (refine' lt_suf (by k_extra "a") (by k_extra "su")  ) | (refine' ne_suf (by k_extra "a") (by k_extra "su")  ) | (refine' lt_sufU (by k_extra "a") (by k_extra "a") (by k_extra "su")  ) | (refine tbn_neAll ?_; tbn_find) | (refine' tbn_neAll (allLt_up (by tbn_find) (by k_extra "o"))  )) | exact List.forall_mem_nil _ | (refine' lt_suf (by k_extra "a") (by exact Suf.refl)  ) | (refine' ne_suf (by k_extra "a") (by exact Suf.refl)  ) | exact lt_same (by k_extra "a") (by rfl) | (refine List.forall_mem_cons.mpr ⟨?_, ?_⟩; (focus k_extra "tb_start"); k_extra "tb_rel"))
  k_with "k_upd" => (first | (refine Upd.head ?_; k_extra "tb_rel") | (apply Upd.tail; (focus k_extra "tb_start"); k_upd))
  k_with "k_updF" => (first | (refine UpdF.head ?_; k_extra "tb_rel") | (apply UpdF.tail; (focus k_extra "tb_start"); k_updF))
  k_with "execs cons" => ((k_extra "kxs_still"; refine wpAny_execs_cons ?_))
  k_with "po" => (first | exact PosA.head | (refine PosA.tail ?_; k_extra "po"))
  k_with "su" => (first | exact Suf.refl | (refine Suf.tail ?_; k_extra "su"))
  k_with "enter0" => (k_dflt (refine' code0 (by k_asm) (by k_asm) (by k_asm) (by k_asm) (by k_asm) (by exact rfl) (by exact rfl) (by assumption) (by k_is) (by k_is) (by k_room) (by first | exact BindsTo.of_eq rfl | exact binds_K (by k_in) rfl (by k_is) rfl rfl rfl | fail "enter0") (by exact locs rfl) ?_ (by exact rfl) (by exact rfl) (by exact rfl) (by decide); k_whole; intro zqg' zqL' zqh' zqFG' zqF' zqN' zqB' zqX' zqT' zqD'; (try dsimp only); (try k_lift zqB'); (try k_fold)))
  k_with "CompSrc" => (refine halt ?_)
  k_with "call ref" => (((with_reducible show wpAny _ _ (call (Value.ref 280) _) _ _ _); refine halt ?_))
  k_with "call builtin:len" => ((k_here; (with_reducible show wpAny _ _ (call (Value.builtin _) [Value.ref _]) _ _ _); k_dflt (refine' len_lst (by k_asm) (by k_mem) (by k_extra "a") (by k_extra "o") ?_; k_whole)))
  k_with "call ref" => (((with_reducible show wpAny _ _ (call (Value.ref 324) _) _ _ _); refine halt ?_))
  k_with "pyIter ref" => (refine halt ?_)
  k_with "call builtin:all" => (refine halt ?_)
  k_with "subscriptTail Name BinOp ref int" => (refine halt ?_)
  k_with "call ref" => (((with_reducible show wpAny _ _ (call (Value.ref 309) _) _ _ _); refine halt ?_))
  k_with "call ref" => (((with_reducible show wpAny _ _ (call (Value.ref 314) _) _ _ _); refine halt ?_))
  k_with "execs cons" => (((with_reducible show wpAny _ _ (execs (Stmt.For _ _ _ _ _ :: _) _) _ _ _); refine halt ?_))
  k_with "call ref" => (((with_reducible show wpAny _ _ (call (Value.ref 209) _) _ _ _); refine halt ?_))
  rw [← hrest]
  refine' swap_fn hL ?e ?h
  case e => k_is
  dsimp only [List.drop]
  have z1q : ∃ l, openL0 w G M pco pt [pv1, pv2] npt rl r0 n1 [(L + 1 + 1 + 1, o3), (L + 1 + 1, o2), (L + 1, o1)] = l := ⟨_, rfl⟩; refine xE1A1 z1q ?_; (try clear z1q); intro RT3 hRT3
  rw [hRT3] at N S
  have e1 : (L + 1, o1) ∈ RT3 := by rw [← hRT3]; simp only [openL0, List.mem_cons, List.mem_append, true_or, or_true]
  have e2 : (L + 1 + 1, o2) ∈ RT3 := by rw [← hRT3]; simp only [openL0, List.mem_cons, List.mem_append, true_or, or_true]
  have e3 : (L + 1 + 1 + 1, o3) ∈ RT3 := by rw [← hRT3]; simp only [openL0, List.mem_cons, List.mem_append, true_or, or_true]
  have hoffR := S.ne
  k_steps
  unfold Halt
  rename Fr _ _ _ _ => F15
  rename News _ _ _ _ => N15
  refine next_at (pre := []) hts Bl F15 X N15 T (fun _ h => nomatch h) hoffR h63 rfl rfl (Nat.le_of_ble_eq_true rfl) rfl (Nat.le_of_ble_eq_true rfl) rfl ?_
  intro t2 vs2 nt2 h16 tk16 F16 N16 hi2 hl2
  clear F15 N15
  dsimp only [List.nil_append] at N16
  k_steps
  unfold Halt
  rename Fr _ _ _ _ => F17
  rename News _ _ _ _ => N17
  rename IsRange _ _ _ _ _ _ _ _ => hR3
  refine xE1A2 (fmod_four (ns.headD 0)) fun k4 hk4 hk4l => ?_
  rw [hk4] at hR3
  have hsz3 : Builtin.Range.rangeSize 0 (k4 : Int) 1 = ((k4 : Nat) : Int) := by rw [rangeSize_one]; split <;> k_extra "o"
  refine CompSrc.range rfl F17 N17 hR3 (small_one (by decide) (by decide) (by k_extra "o") (by k_extra "o")) hsz3 (by rw [sizeLine_eq]; k_extra "o") fun g1 => ?_
  refine CompRest_J (n := k4) (SymK tp RT3) (fun _ _ _ _ => trivial) ?turn2 ?fin2 _ 0 [] _ (by k_extra "o") ⟨[], _, _, _, rfl, rfl, (fun _ h => nomatch h), hi2, hl2, rfl⟩
  case turn2 =>
    intro j v I1 oI C oC D ys m₂ h3 tk3 E' news hj z2q z3q hC hx F18 N18 off ne; refine xE1A1 z2q ?_; (try clear z2q); intro tv z4q; obtain rfl := z4q; refine xE4A6 z3q ?_; (try clear z3q); intro its vs3 ns3 nt3 z5q hil hi8 hi3 hl3 z6q; obtain rfl := z5q; obtain rfl := z6q
    clear F17 N17
    k_steps
    unfold Halt
    rename Fr _ _ _ _ => F19
    rename News _ _ _ _ => N19
    have o1 := off.mem _ (.head _)
    refine next_at (pre := [_, _, _]) hi3 Bl F19 X N19 T (List.forall_mem_cons.mpr ⟨Ne.symm o1.1, List.forall_mem_cons.mpr ⟨Ne.symm o1.2.1, List.forall_mem_singleton.mpr (Ne.symm o1.2.2)⟩⟩) hoffR hl3 rfl rfl (Nat.le_of_ble_eq_true rfl) rfl (Nat.le_of_ble_eq_true rfl) rfl ?_
    intro t4 vs4 nt4 h20 tk20 F20 N20 hi4 hl4
    clear F19 N19
    dsimp only [List.cons_append, List.nil_append] at N20
    k_steps
    unfold Halt
    rename Fr _ _ _ _ => F21
    rename News _ _ _ _ => N21
    refine' base_modN (k := 7) (P := fun v => ∃ x t, v = Value.str x t ∧ x ∈ S7) ?hl8 ?hv8 rfl (Nat.zero_lt_succ _) (Nat.le_of_ble_eq_true rfl) ?h98 ?hP9 ?_
    case hl8 => with_unfolding_all exact listIn X F21 (by k_is)
    case hv8 => exact rfl
    case h98 => exact Nat.le_of_ble_eq_true rfl
    case hP9 =>
      intro v hv
      simp only [List.take, List.mem_cons, List.not_mem_nil, or_false] at hv
      rcases hv with rfl | rfl | rfl | rfl | rfl | rfl | rfl <;> exact ⟨_, _, rfl, by decide +kernel⟩
    intro _ z7q; refine xE2A2 z7q ?_; (try clear z7q); intro x tx z8q hx8; obtain rfl := z8q
    exact symK_step F21 N21 off hil hi8 hx8 hi4 hl4
  case fin2 =>
    intro _ _ z9q; refine xE4A6 z9q ?_; (try clear z9q); intro its vs3 ns3 nt3 z10q hil hi8 hi3 hl3 z11q; obtain rfl := z10q; obtain rfl := z11q
    clear F17 N17
    k_steps
    unfold Halt
    rename Fr _ _ _ _ => F22
    rename News _ _ _ _ => N22
    rename _ ∧ Off1 _ _ => q1
    rename _ ∧ _ ∧ AllLt _ _ => q2
    have S2 := law_sep_first (o' := listOf (List.toArray vs3) nt3) (oD := LCg.lst (strV its)) (oT := listOf #[] 0) S q1 q2
    rw [← hRT3] at S2 N22
    refine does0_call (law_first hO lo (by k_extra "o") hi8 S2) Bl F22 X N22 (fun _ h => h) T rfl rfl (Nat.le_of_ble_eq_true rfl) rfl (Nat.le_of_ble_eq_true rfl) rfl ?_
    intro r2 nws2 h24 tk24 F24 N24 z12q; refine xE0A2 z12q ?_; (try clear z12q); intro z13q z14q; refine xE1A2 z14q ?_; (try clear z14q); intro NW hsub z15q; refine xE5A14 z15q ?_; (try clear z15q); intro M1 x li rw' n1' f1 f2 f3 f4 f5 f6 f7 f8 f9 f10 f11 f12 hNW SNW; obtain rfl := z13q
    have N25 := News.perm N24 hsub
    clear F22 N22 e1 e2 e3 N24
    have e1 : (L + 1, o1) ∈ NW := by rw [hNW]; simp only [List.mem_cons, List.mem_append, true_or, or_true]
    have e2 : (L + 1 + 1, o2) ∈ NW := by rw [hNW]; simp only [List.mem_cons, List.mem_append, true_or, or_true]
    have e3 : (L + 1 + 1 + 1, o3) ∈ NW := by rw [hNW]; simp only [List.mem_cons, List.mem_append, true_or, or_true]
    have e4 : (G.g, instObj 283 G.dg) ∈ NW := by rw [hNW]; simp only [List.mem_cons, List.mem_append, true_or, or_true]
    have e5 : (G.dg, gramD w G) ∈ NW := by rw [hNW]; simp only [List.mem_cons, List.mem_append, true_or, or_true]
    k_steps
    unfold Halt
    rename Fr _ _ _ _ => F26
    rename News _ _ _ _ => N26
    rw [hNW] at SNW N26
    refine does_call (start_spec prog w G 30 M1 pt npt pco [pv1, pv2] _ x.p _ f8 f11 f12 (by decide) hO.st lo.nt SNW) Bl F26 X N26 (fun _ h => h) T rfl rfl (Nat.le_of_ble_eq_true rfl) rfl (Nat.le_of_ble_eq_true rfl) rfl ?_
    rintro r3 nws3 h27 tk27 F27 N27 hst
    refine xE1A2 (law_start hO.name hO.syms f1 f2 f3 f4 f5 f6 f7 f9 f10 hi3 hl3 hst) fun NW3 hsub3 hJ => ?_
    clear F26 N26
    k_steps
    unfold Halt
    rename Fr _ _ _ _ => F28
    rename News _ _ _ _ => N28
    refine' law_loop prog w ?hLL { G with st := .str (S_ "S") _ } pco pt pv1 pv2 npt rl tp o1 o2 o3 NW3 X T Bl F28 (News.perm N28 hsub3) hJ ⟨lo.te, lo.nt, lo.pn, lo.pm, lo.pc, lo.pco⟩ d1 d2 d3 ?hretL ?hrest
    case hLL => k_is
    case hrest => rfl
    case hretL => exact hret
end

section
variable {rl ra ta pt x1 x2 up pc fo fi nt eE eB eA te pm pn lp g dg x3 tp x4 L : Addr} {t1 t2 a0 a1 a2 a3 a4 a5 a6 a7 a8 a9 : Tok} {pv1 pv2 : Value} {ox1 ox2 ou opc ofo ofi ont ote opm opn ox3 ox4 o1 o2 o3 : Obj} {ts : List Value} {w : World}
noncomputable abbrev startL (w : World) (rl ra ta pt x1 x2 up pc fo fi nt eE eB eA te pm pn lp g dg x3 tp x4 L : Addr) (t1 t2 a0 a1 a2 a3 a4 a5 a6 a7 a8 a9 : Tok) (pv1 pv2 : Value) (ox1 ox2 ou opc ofo ofi ont ote opm opn ox3 ox4 o1 o2 o3 : Obj) (ts : List Value) : Led :=
  [(rl, listOf #[.ref ra] 0), (ra, tupO [.str (Str.ofString "S'") t1, .ref ta] 0), (ta, tupO [.str (Str.ofString "S") t2] 0), (pt, tupO [pv1, pv2] 0), (x1, ox1), (x2, ox2), (up, ou), (pc, opc), (fo, ofo), (fi, ofi), (nt, ont), (eE, listOf #[] 0), (eB, listOf #[] 0), (eA, listOf #[] 0), (te, ote), (pm, opm), (pn, opn), (lp, listOf #[.none] 0), (g, instObj 283 dg),
    (dg, dictOf [ent w "Productions" a0 (.ref lp), ent w "Prodnames" a1 (.ref pn), ent w "Prodmap" a2 (.ref pm), ent w "Terminals" a3 (.ref te), ent w "Nonterminals" a4 (.ref nt), ent w "First" a5 (.ref fi), ent w "Follow" a6 (.ref fo), ent w "Precedence" a7 (.ref pc), ent w "UsedPrecedence" a8 (.ref up), ent w "Start" a9 .none] 10),
    (x3, ox3), (tp, LCg.lst ts), (x4, ox4), (L + 1 + 1 + 1, o3), (L + 1 + 1, o2), (L + 1, o1)]
noncomputable abbrev startG (g dg lp pn pm te nt fi fo pc up : Addr) (a0 a1 a2 a3 a4 a5 a6 a7 a8 a9 : Tok) : GA := ⟨g, dg, lp, pn, pm, te, nt, fi, fo, pc, up, .none, tkOf [a0, a1, a2, a3, a4, a5, a6, a7, a8, a9]⟩
noncomputable abbrev startM (eA eB eE : Addr) (ote ont opn opm ou : Obj) : GM := { lpv := [.none], nlp := 0, pn := [], pno := opn, pm := [], pmo := opm, te := [(Str.ofString "a", eA, [], 0), (Str.ofString "b", eB, [], 0), (Str.ofString "error", eE, [], 0)], teo := ote, nt := [], nto := ont, upo := ou }
noncomputable abbrev startR (ra ta : Addr) (t1 t2 : Tok) : RW := ⟨ra, ta, Str.ofString "S'", [(Str.ofString "S", t2)], t1, 0, 0⟩
theorem start_is {pv1 pv2 : Value} : (tp, listOf ts.toArray ts.length) :: openL0 w (startG g dg lp pn pm te nt fi fo pc up a0 a1 a2 a3 a4 a5 a6 a7 a8 a9) (startM eA eB eE ote ont opn opm ou) opc pt [pv1, pv2] 0 rl (startR ra ta t1 t2) 0 [(L + 1 + 1 + 1, o3), (L + 1 + 1, o2), (L + 1, o1)] =
    [(tp, LCg.lst ts), (rl, listOf #[.ref ra] 0), (te, ote), (nt, ont), (up, ou), (lp, listOf #[.none] 0), (pm, opm), (pn, opn), (g, instObj 283 dg), (dg, dictOf [ent w "Productions" a0 (.ref lp), ent w "Prodnames" a1 (.ref pn), ent w "Prodmap" a2 (.ref pm), ent w "Terminals" a3 (.ref te), ent w "Nonterminals" a4 (.ref nt), ent w "First" a5 (.ref fi), ent w "Follow" a6 (.ref fo), ent w "Precedence" a7 (.ref pc), ent w "UsedPrecedence" a8 (.ref up), ent w "Start" a9 .none] 10),
      (pc, opc), (pt, tupO [pv1, pv2] 0), (eA, listOf #[] 0), (eB, listOf #[] 0), (eE, listOf #[] 0), (ra, tupO [.str (Str.ofString "S'") t1, .ref ta] 0), (ta, tupO [.str (Str.ofString "S") t2] 0), (L + 1 + 1 + 1, o3), (L + 1 + 1, o2), (L + 1, o1)] := rfl
theorem start_mem {q : Addr × Obj} (h : q ∈ (tp, listOf ts.toArray ts.length) :: openL0 w (startG g dg lp pn pm te nt fi fo pc up a0 a1 a2 a3 a4 a5 a6 a7 a8 a9) (startM eA eB eE ote ont opn opm ou) opc pt [pv1, pv2] 0 rl (startR ra ta t1 t2) 0 [(L + 1 + 1 + 1, o3), (L + 1 + 1, o2), (L + 1, o1)]) :
    q ∈ startL w rl ra ta pt x1 x2 up pc fo fi nt eE eB eA te pm pn lp g dg x3 tp x4 L t1 t2 a0 a1 a2 a3 a4 a5 a6 a7 a8 a9 pv1 pv2 ox1 ox2 ou opc ofo ofi ont ote opm opn ox3 ox4 o1 o2 o3 ts := by
  exact ledIn [_, _, _, _, _, _, _, _, _, _, _, _, _, _, _, _, _, _, _, _, _, _, _, _, _, _] [] (.c 21 <| .c 0 <| .c 14 <| .c 10 <| .c 6 <| .c 17 <| .c 15 <| .c 16 <| .c 18 <| .c 19 <| .c 7 <| .c 3 <| .a (.c 13 <| .c 12 <| .c 11 <| .n) <| .a (.n) <| .a (.n) <| .a (.c 1 <| .c 2 <| .n) <| .c 23 <| .c 24 <| .c 25 <| .n) (.c 0 <| .c 1 <| .c 2 <| .c 3 <| .c 4 <| .c 5 <| .c 6 <| .c 7 <| .c 8 <| .c 9 <| .c 10 <| .c 11 <| .c 12 <| .c 13 <| .c 14 <| .c 15 <| .c 16 <| .c 17 <| .c 18 <| .c 19 <| .c 20 <| .c 21 <| .c 22 <| .c 23 <| .c 24 <| .c 25 <| .n) rfl _ h
theorem start_sep (S : Sep (startL w rl ra ta pt x1 x2 up pc fo fi nt eE eB eA te pm pn lp g dg x3 tp x4 L t1 t2 a0 a1 a2 a3 a4 a5 a6 a7 a8 a9 pv1 pv2 ox1 ox2 ou opc ofo ofi ont ote opm opn ox3 ox4 o1 o2 o3 ts)) :
    Sep ((tp, listOf ts.toArray ts.length) :: openL0 w (startG g dg lp pn pm te nt fi fo pc up a0 a1 a2 a3 a4 a5 a6 a7 a8 a9) (startM eA eB eE ote ont opn opm ou) opc pt [pv1, pv2] 0 rl (startR ra ta t1 t2) 0 [(L + 1 + 1 + 1, o3), (L + 1 + 1, o2), (L + 1, o1)]) := by
  refine Sep.sub S fun k => ?_
  exact ledCnt [_, _, _, _, _, _, _, _, _, _, _, _, _, _, _, _, _, _, _, _, _, _, _, _, _, _] [] (.c 21 <| .c 0 <| .c 14 <| .c 10 <| .c 6 <| .c 17 <| .c 15 <| .c 16 <| .c 18 <| .c 19 <| .c 7 <| .c 3 <| .a (.c 13 <| .c 12 <| .c 11 <| .n) <| .a (.n) <| .a (.n) <| .a (.c 1 <| .c 2 <| .n) <| .c 23 <| .c 24 <| .c 25 <| .n) (.c 0 <| .c 1 <| .c 2 <| .c 3 <| .c 4 <| .c 5 <| .c 6 <| .c 7 <| .c 8 <| .c 9 <| .c 10 <| .c 11 <| .c 12 <| .c 13 <| .c 14 <| .c 15 <| .c 16 <| .c 17 <| .c 18 <| .c 19 <| .c 20 <| .c 21 <| .c 22 <| .c 23 <| .c 24 <| .c 25 <| .n) rfl k
theorem start_open {prog : Program} (hT : ote.IsDictOf (PySem.strKind prog w) [(Str.ofString "a", .ref eA), (Str.ofString "b", .ref eB), (Str.ofString "error", .ref eE)]) (hN : ont.IsDictOf (PySem.strKind prog w) []) (hP : opn.IsDictOf (PySem.strKind prog w) []) (hM : opm.IsDictOf (PySem.strKind prog w) []) (hU : ou.SetObjOf (PySem.strKind prog w) (fun _ => false) 0) :
    OpenOK prog w (startG g dg lp pn pm te nt fi fo pc up a0 a1 a2 a3 a4 a5 a6 a7 a8 a9) (startM eA eB eE ote ont opn opm ou) (startR ra ta t1 t2) :=
  ⟨⟨hT, hN, hP, hM, .inl rfl, ⟨_, _, hU, by decide, fun _ => rfl⟩, (fun e he => by
    simp only [startM, List.mem_cons, List.not_mem_nil, or_false] at he
    rcases he with rfl | rfl | rfl <;> exact Nat.zero_le _), (fun _ h => nomatch h), (fun _ h => nomatch h), Nat.zero_le _, Nat.zero_le _, Nat.zero_le _, Nat.le_of_ble_eq_true rfl⟩, rfl, rfl, rfl, rfl, rfl, rfl⟩
theorem law_pack (prog : Program) {name qual : Str} {params : Arguments} {body : List Stmt} {scope : Scope} {dV kV doc pm' cdv ct oc : Value} {an od : Option Addr} {osl : Array (Option Value)} (hL : (hd.heap_1 w.params).lookup 329 = some ⟨oc, od, .func (fnOf name qual params body scope dV kV doc pm' an cdv ct), osl⟩)
    {mean : ExcName → Option Value} {mg mb : Str → Option Value} {h₀ : Heap} {fa : Addr} {cd : Value} {m : Str → Option Value} {s : Shared} {Q : Flow → Shared → Prop} {E : Value → Shared → Prop} {ns : List Int}
    (X : (hd.heap_1 w.params).In h₀) (T : Top hdV LOOSE mean mg mb h₀) (Bl : Below callerA h₀ [] h₀) (F : Fr h₀ L s.heap m) (N : News h₀ L s.heap (startL w rl ra ta pt x1 x2 up pc fo fi nt eE eB eA te pm pn lp g dg x3 tp x4 L t1 t2 a0 a1 a2 a3 a4 a5 a6 a7 a8 a9 pv1 pv2 ox1 ox2 ou opc ofo ofi ont ote opm opn ox3 ox4 o1 o2 o3 ts))
    (S : Sep (startL w rl ra ta pt x1 x2 up pc fo fi nt eE eB eA te pm pn lp g dg x3 tp x4 L t1 t2 a0 a1 a2 a3 a4 a5 a6 a7 a8 a9 pv1 pv2 ox1 ox2 ou opc ofo ofi ont ote opm opn ox3 ox4 o1 o2 o3 ts))
    (hT : ote.IsDictOf (PySem.strKind prog w) [(Str.ofString "a", .ref eA), (Str.ofString "b", .ref eB), (Str.ofString "error", .ref eE)]) (hN : ont.IsDictOf (PySem.strKind prog w) []) (hP : opn.IsDictOf (PySem.strKind prog w) []) (hM : opm.IsDictOf (PySem.strKind prog w) []) (hU : ou.SetObjOf (PySem.strKind prog w) (fun _ => false) 0) (hC : opc.IsDictOf (PySem.strKind prog w) [(Str.ofString "a", .ref pt)])
    (lte : (te == sysModules) = false) (lnt : (nt == sysModules) = false) (lpn : (pn == sysModules) = false) (lpm : (pm == sysModules) = false) (lpc : (pc == sysModules) = false) (d1 : o1.data = .cell (some (.ref tp))) (d2 : o2.data = .cell (some (.ref g))) (d3 : o3.data = .cell (some (.ref rl)))
    (hts : IntsAre ts ns) (h63 : ts.length ≤ 63) (hret : ∀ h' tk' m', Fr h₀ L h' m' → Q (.ret (.bool true)) { s with heap := h', toks := tk' }) {rest : List Stmt} (hrest : body.drop 4 = rest) :
    wpAny (model prog w) (callerA.deeper (envOfC qual scope L fa cd)) (execs rest (envOfC qual scope L fa cd)) Q E s :=
  law_open prog w hL (startG g dg lp pn pm te nt fi fo pc up a0 a1 a2 a3 a4 a5 a6 a7 a8 a9) (startM eA eB eE ote ont opn opm ou) opc pt pv1 pv2 0 rl tp o1 o2 o3 (startR ra ta t1 t2) 0 ts.length ts ns X T Bl F (News.perm N fun _ hq => start_mem hq) (start_sep S) ⟨lte, lnt, lpn, lpm, lpc, hC⟩ (start_open hT hN hP hM hU) hts h63 d1 d2 d3 hret hrest
theorem allLt_up2 {d e : Addr} {o : Obj} {l : Led} (h : @LT.lt Nat _ d e) (hl : AllLt d l) : AllLt e ((d, o) :: l) := ⟨h, allLt_up hl h⟩
end
theorem heap_swap {K K' : Params → Frag} {P : Params} {h : Heap} (x : (K P).In h) (e : K = K') : (K' P).In h := e ▸ x
theorem top_swap {p p' : Program} {ns : List Str} {mean : ExcName → Option Value} {mg mb : Str → Option Value} {h : Heap} (x : Top p (looseW p ns) mean mg mb h) (e : p = p') : Top p' (looseW p' ns) mean mg mb h := e ▸ x

inductive Out (p : Addr × Obj) : Led → Led → Prop
  | head {l : Led} : Out p (p :: l) l
  | tail {q : Addr × Obj} {l l' : Led} : Out p l l' → Out p (q :: l) (q :: l')
theorem Out.mem {p : Addr × Obj} : ∀ {l l' : Led}, Out p l l' → ∀ q ∈ p :: l', q ∈ l
  | _, _, .head, _, hq => hq
  | _, _, .tail h, q, hq => by
    rcases List.mem_cons.mp hq with rfl | hq
    · exact List.mem_cons_of_mem _ (h.mem _ (.head _))
    · rcases List.mem_cons.mp hq with rfl | hq
      · exact .head _
      · exact List.mem_cons_of_mem _ (h.mem _ (.tail _ hq))
theorem unr_end {h₀ : Heap} {L I : Addr} {it : Obj} {rest : (Str → Option Value) → List (Addr × Obj) → Prop} {s₁ : Shared} {h' : Heap} {tk : Nat} {m' : Str → Option Value} {all news' : Led} (F : Fr h₀ L h' m') (N : News h₀ L h' all)
    (U : Out (I, it) all news') (off : ∀ p ∈ news', p.1 ≠ I) (r : rest m' news') : UnrEnd h₀ L s₁ I it rest { s₁ with heap := h', toks := tk } := UnrEnd.intro F N news' U.mem off r
section
open LCg
set_option maxHeartbeats 8000000 in
theorem law_mid (prog : Program) (w : World) {name qual : Str} {params : Arguments} {body : List Stmt} {scope : Scope} {dV kV doc pm' cdv ct oc : Value} {an od : Option Addr} {osl : Array (Option Value)} (hL : (hd.heap_1 w.params).lookup 329 = some ⟨oc, od, .func (fnOf name qual params body scope dV kV doc pm' an cdv ct), osl⟩)
    {mean : ExcName → Option Value} {mg mb : Str → Option Value} {h₀ : Heap} {L fa tp x4 : Addr} {ox4 o1 o2 o3 : Obj} {cd : Value} {m : Str → Option Value} {s : Shared} {Q : Flow → Shared → Prop} {E : Value → Shared → Prop} {ts : List Value} {ns : List Int}
    (X : (hd.heap_1 w.params).In h₀) (T : Top hdV LOOSE mean mg mb h₀) (Bl : Below callerA h₀ [] h₀) (F : Fr h₀ L s.heap m) (N : News h₀ L s.heap [(tp, LCg.lst ts), (x4, ox4), (L + 1 + 1 + 1, o3), (L + 1 + 1, o2), (L + 1, o1)])
    {c1 c2 c3 : Obj} (l4 : AllLt x4 [(L + 1 + 1 + 1, c3), (L + 1 + 1, c2), (L + 1, c1)]) (lp : x4 ≠ tp ∧ L + 1 + 1 + 1 ≠ tp ∧ L + 1 + 1 ≠ tp ∧ L + 1 ≠ tp)
    (d1 : o1.data = .cell (some (.ref tp))) {u2 u3 : Option Value} (d2 : o2.data = .cell u2) (d3 : o3.data = .cell u3)
    (hts : IntsAre ts ns) (h63 : ts.length ≤ 63) (hret : ∀ h' tk' m', Fr h₀ L h' m' → Q (.ret (.bool true)) { s with heap := h', toks := tk' }) {rest : List Stmt} (hrest : body.drop 1 = rest) :
    wpAny (model prog w) (callerA.deeper (envOfC qual scope L fa cd)) (execs rest (envOfC qual scope L fa cd)) Q E s := by
  k_with_none
  k_with "o" => (first | (with_reducible first | assumption | (show (_ : Nat) ≤ _; first | exact Nat.le_of_ble_eq_true rfl | exact Nat.zero_le _ | exact Nat.le_of_lt ‹_› | exact Nat.le_of_eq ‹_› | exact oM ‹_› | exact oL ‹_› | exact oJ | exact oK | exact qE ‹_› | exact qG ‹_› | exact oS ‹_› rfl | exact oSE ‹_› ‹_› rfl | exact oA ‹_› rfl | exact oB ‹_› rfl | exact oG ‹_› rfl | exact oE ‹_› ‹_› rfl | exact oF ‹_› ‹_› rfl | exact oH ‹_› ‹_› rfl | exact oI ‹_› ‹_› rfl | exact oQ ‹_› ‹_› rfl | exact oQ3 ‹_› ‹_› ‹_› rfl | exact xE ‹_› ‹_› rfl | exact xA ‹_› | exact xB ‹_› | exact xH ‹_› | exact xF ‹_› | exact xG ‹_› | exact xL ‹_› | exact xC ‹_› ‹_› ‹_› ‹_› rfl | exact xD ‹_› ‹_› ‹_› ‹_› ‹_› rfl | exact xK ‹_› rfl | exact xJ ‹_› ‹_› rfl | exact xI ‹_› ‹_› ‹_› rfl | exact wA ‹_› ‹_› ‹_› rfl | exact wB ‹_› ‹_› ‹_› rfl | exact yC ‹_› ‹_› ‹_› rfl | exact yE ‹_› | exact uB ‹_› ‹_› rfl | exact uF ‹_› | exact uM | exact uN | exact uO | exact uU ‹_› | exact uW ‹_› ‹_› | exact uX ‹_› ‹_› ‹_› rfl | exact uZ ‹_› ‹_› ‹_› rfl | exact vC ‹_› ‹_› rfl | exact vD ‹_› | exact vI | exact vJ | exact vL ‹_› | exact vN ‹_› ‹_› ‹_› rfl | exact vO ‹_› ‹_› ‹_› ‹_› ‹_› rfl | exact vP ‹_› ‹_› ‹_› rfl | exact vQ ‹_› ‹_› | exact vR ‹_› ‹_› ‹_› rfl | exact vT | exact Nat.min_le_left _ _ | exact Nat.le_trans ‹_› ‹_› | exact Nat.le_add_left _ _ | exact wC ‹_› ‹_› rfl | exact wI ‹_› ‹_› rfl | exact wG ‹_› ‹_› ‹_› rfl | exact wF ‹_› ‹_› ‹_›) | (show (_ : Nat) < _; first | exact Nat.le_of_ble_eq_true rfl | exact Nat.lt_succ_self _ | exact pA ‹_› rfl | exact pB ‹_› rfl | exact pG ‹_› rfl | exact pE ‹_› ‹_› rfl | exact pF ‹_› ‹_› rfl | exact pH ‹_› ‹_› rfl | exact pI ‹_› ‹_› rfl | exact pS ‹_› rfl | exact pSE ‹_› ‹_› rfl | exact qA ‹_› | exact qD ‹_› | exact qB ‹_› ‹_› | exact qC ‹_› | exact Nat.lt_of_le_of_ne ‹_› ‹_› | exact uC ‹_› ‹_› | exact uD ‹_› | exact uE ‹_› | exact uY ‹_› ‹_› | exact vG ‹_› ‹_› rfl | exact vH ‹_› | exact vK ‹_› ‹_› | exact qF ‹_› | exact zA ‹_› ‹_› | exact wK ‹_› | exact wH ‹_› rfl | exact wD ‹_› ‹_› ‹_› rfl | exact wE ‹_› ‹_› ‹_›) | (show (_ : Nat) = _; first | exact yA ‹_› | exact yB ‹_› | exact yD ‹_› | exact yS ‹_› | exact Nat.sub_add_comm ‹_› | exact Nat.add_sub_cancel' ‹_› | exact uV ‹_› | exact uJ | exact uK | exact uL | exact uP | exact uQ | exact uR | exact vE ‹_› ‹_› | exact zB | exact oZ) | (show ((_ : Nat) : Int) < 2 ^ 63; first | exact iA ‹_› rfl | exact iB ‹_› rfl | exact iE ‹_› ‹_› rfl | exact iI ‹_› ‹_› rfl) | (show ((_ : Nat) : Int) < 2 ^ 62; first | exact jA ‹_› rfl | exact jB ‹_› rfl | exact jE ‹_› ‹_› rfl) | (show ((_ : Nat) : Int) + 1 < 2 ^ 63; first | exact rA ‹_› rfl | exact rE ‹_› ‹_› rfl | exact rF ‹_› ‹_› rfl) | exact rT ‹_› ‹_› rfl | exact rM | exact rN | exact Int.natCast_nonneg _ | exact iM | exact jM | exact iP ‹_› | exact uS ‹_› | exact uT ‹_› | exact vF ‹_› | exact vM ‹_› | exact vS ‹_› | exact yF ‹_› | exact yT ‹_› | exact iS | exact iZ | exact iD ‹_› | exact iV) | omega)
  k_with "a" => (with_reducible assumption)
  k_with "kxs_still" => (((try dsimp only); (try (refine execs_gen ?_; intro zqt9)); (try k_fold); (try k_extra "bits_by_make")))
  k_with "bits_by_make" => ((try (rename Fr _ _ _ _ => zqF9; (fail_if_success (refine onlyM zqF9 ?_; goal_lacks ite List.lookup)); refine letF zqF9 ?_; clear zqF9; intro zqm9 zqF9)))
  k_with "cell_call" => (first | k_extra "a" | (refine List.mem_cons_of_mem _ ?_; k_extra "cell_call"))
  k_with "tb_start" => ((refine neN ?_; (try dsimp only); first | exact NeA.to (by k_extra "a") | exact NeA.to' (by k_extra "a") | (refine' ne_pos (by k_extra "a") (by k_extra "po")  ) | (refine' ne_pos' (by k_extra "a") (by k_extra "po")  ) | (refine' lt_pos (by k_extra "a") (by k_extra "po")  ) | (refine' lt_pos' (by k_extra "a") (by k_extra "po")  ) | exact Nat.ne_of_lt (by k_extra "a") | exact Nat.ne_of_gt (by k_extra "a") | (refine' lt_up (by k_extra "a") (by k_extra "a") (by k_extra "po")  ) | (refine' lt_up' (by k_extra "a") (by k_extra "a") (by k_extra "po")  ) | omega))
  k_with "tb_rel" => (first | (tbn_letter; first | k_extra "a" | (refine' lt_suf (by k_extra "a") (by k_extra "su")  ) | (refine' ne_suf (by k_extra "a") (by k_extra "su")  ) | (refine' lt_sufU (by k_extra "a") (by k_extra "a") (by k_extra "su")  ) | (refine tbn_neAll ?_; tbn_find) | (refine' tbn_neAll (allLt_up (by tbn_find) (by k_extra "o"))  )) | exact List.forall_mem_nil _ | (refine' lt_suf (by k_extra "a") (by exact Suf.refl)  ) | (refine' ne_suf (by k_extra "a") (by exact Suf.refl)  ) | exact lt_same (by k_extra "a") (by rfl) | (refine List.forall_mem_cons.mpr ⟨?_, ?_⟩; (focus k_extra "tb_start"); k_extra "tb_rel"))
  k_with "k_upd" => (first | (refine Upd.head ?_; k_extra "tb_rel") | (apply Upd.tail; (focus k_extra "tb_start"); k_upd))
  k_with "k_updF" => (first | (refine UpdF.head ?_; k_extra "tb_rel") | (apply UpdF.tail; (focus k_extra "tb_start"); k_updF))
  k_with "execs cons" => ((k_extra "kxs_still"; refine wpAny_execs_cons ?_))
  k_with "po" => (first | exact PosA.head | (refine PosA.tail ?_; k_extra "po"))
  k_with "su" => (first | exact Suf.refl | (refine Suf.tail ?_; k_extra "su"))
  k_with "enter0" => (k_dflt (refine' code0 (by k_asm) (by k_asm) (by k_asm) (by k_asm) (by k_asm) (by exact rfl) (by exact rfl) (by assumption) (by k_is) (by k_is) (by k_room) (by first | exact BindsTo.of_eq rfl | exact binds_K (by k_in) rfl (by k_is) rfl rfl rfl | fail "enter0") (by exact locs rfl) ?_ (by exact rfl) (by exact rfl) (by exact rfl) (by decide); k_whole; intro zqg' zqL' zqh' zqFG' zqF' zqN' zqB' zqX' zqT' zqD'; (try dsimp only); (try k_lift zqB'); (try k_fold)))
  k_with "compareOp NotIn str ref" => ((k_here; (with_reducible show wpAny _ _ (compareOp CmpOp.NotIn (Value.str _ _) (Value.ref _)) _ _ _); k_dflt (refine' notin_strs (by k_asm) (by k_mem) ?_; k_whole)))
  k_with "compareOp In str ref" => ((k_here; (with_reducible show wpAny _ _ (compareOp CmpOp.In (Value.str _ _) (Value.ref _)) _ _ _); k_dflt (refine' in_strs (by k_asm) (by k_mem) ?_; k_whole)))
  k_with "setAttr ref" => (((try dsimp only); (with_reducible show wpAny _ _ (setAttr (Value.ref _) _ (Value.int _ ((_ : Nat) + _))) _ _ (Shared.mk _ _ _ _ _)); refine set_genI ?_; intro zqu9 zqt9))
  k_with "setAttr ref" => (((try dsimp only); (with_reducible show wpAny _ _ (setAttr _ _ _) _ _ (Shared.mk _ _ _ ((_ : Nat) + _) _)); refine wp_gen ?_; intro zqt9))
  k_with "eval Attribute Name" => ((k_here; k_dflt (refine' attr_own (by k_asm) (by rfl) (by k_asm) (by k_inst) (by k_is) (by k_is) (by k_is) (by k_is) (by k_get) (by k_handed) ?_ (by rfl) (by rfl); k_whole)))
  k_with "UnrEnd" => ((refine' unr_end (by k_asm) (by k_asm) (by exact Out.tail Out.head) (by k_extra "tb_rel") ?_; (try dsimp only); refine And.intro (by k_mem) ?_))
  k_with "execs cons" => (((with_reducible show wpAny _ _ (execs (Stmt.Assign [Expr.Name (Str.ofString "opening") _] _ _ :: _) _) _ _ _); refine halt ?_))
  rw [← hrest]
  refine' swap_fn hL ?e ?h
  case e => k_is
  dsimp only [List.drop]
  replace l4 : AllLt x4 [(L + 1 + 1 + 1, o3), (L + 1 + 1, o2), (L + 1, o1)] := ⟨l4.1, l4.2.1, l4.2.2.1, trivial⟩
  replace lp : AllNe tp [(x4, ox4), (L + 1 + 1 + 1, o3), (L + 1 + 1, o2), (L + 1, o1)] := allNe_of (List.forall_mem_cons.mpr ⟨lp.1, List.forall_mem_cons.mpr ⟨lp.2.1, List.forall_mem_cons.mpr ⟨lp.2.2.1, List.forall_mem_singleton.mpr lp.2.2.2⟩⟩⟩)
  have p1 : AllLt (L + 1 + 1 + 1) [(L + 1 + 1, o2), (L + 1, o1)] := ⟨Nat.lt_succ_self _, Nat.lt_succ_of_lt (Nat.lt_succ_self _), trivial⟩
  have p2 : AllLt (L + 1 + 1) [(L + 1, o1)] := ⟨Nat.lt_succ_self _, trivial⟩
  k_steps
  unfold Halt
  rename Fr _ _ _ _ => F22
  rename News _ _ _ _ => N22
  refine' law_pack _ ?hL ?X ?T ?Bl ?F ?N ?S ?hT ?hN ?hP ?hM ?hU ?hC ?lte ?lnt ?lpn ?lpm ?lpc ?d1 ?d2 ?d3 ?hts ?h63 ?hret ?hrest
  case F => exact F22
  case N => exact N22
  case hL => k_is
  case X => exact X
  case T => exact T
  case Bl => exact Bl
  case hts => exact hts
  case h63 => exact h63
  case hret =>
    intro h' tk' m' F'
    exact hret _ _ _ F'
  case hrest => rfl
  case hT => with_reducible assumption
  case hN => with_reducible assumption
  case hP => with_reducible assumption
  case hM => with_reducible assumption
  case hU => with_reducible assumption
  case hC => with_reducible assumption
  case lte => with_reducible assumption
  case lnt => with_reducible assumption
  case lpn => with_reducible assumption
  case lpm => with_reducible assumption
  case lpc => with_reducible assumption
  case d1 => with_reducible assumption
  case d2 => with_reducible assumption
  case d3 => with_reducible assumption
  case S =>
    clear F22 N22
    repeat (refine Sep.cons (by first | exact lt_same (by with_reducible assumption) (by rfl) | k_extra "tb_rel") ?_)
    exact Sep.nil
end

noncomputable def law_holds.tw11223184984439025696 : Unit := ()
noncomputable def law_holds.tw13190408463805328480 : Unit := ()
noncomputable def law_holds.tw10108825076125807744 : Unit := ()
noncomputable def law_holds.tw2152083551845799040 : Unit := ()
noncomputable def law_holds.tw18090433342136740992 : Unit := ()
noncomputable def law_holds.tw3974387499553966400 : Unit := ()
noncomputable def law_holds.tw2618386414584295968 : Unit := ()
noncomputable def law_holds.tw10028117763298573888 : Unit := ()
noncomputable def law_holds.tw17974257514489008736 : Unit := ()
noncomputable def law_holds.tw18430954121086234272 : Unit := ()
noncomputable def law_holds.tw6260460797876433568 : Unit := ()
noncomputable def law_holds.tw17598101756349436640 : Unit := ()
noncomputable def law_holds.tw3159318172415732480 : Unit := ()
noncomputable def law_holds.tw6869992995446874880 : Unit := ()
noncomputable def law_holds.tw7205925804402219904 : Unit := ()
noncomputable def law_holds.tw13709617746848070560 : Unit := ()
noncomputable def law_holds.tw10024239376800412576 : Unit := ()
noncomputable def law_holds.tw1762888911704233025 : Unit := ()
noncomputable def law_holds.tw10465528174321978529 : Unit := ()
noncomputable def law_holds.tw11289095316329951393 : Unit := ()
noncomputable def law_holds.tw2124134355350193313 : Unit := ()
noncomputable def law_holds.tw18006792725990754497 : Unit := ()
noncomputable def law_holds.tw12296726922439171297 : Unit := ()
noncomputable def law_holds.tw3882201998751590657 : Unit := ()
noncomputable def law_holds.tw16614716721108272449 : Unit := ()
noncomputable def law_holds.tw11881114122080957857 : Unit := ()
noncomputable def law_holds.tw981846192996546977 : Unit := ()
noncomputable def law_holds.tw7019463264422422977 : Unit := ()
noncomputable def law_holds.tw8652346329174877282 : Unit := ()
noncomputable def law_holds.tw8720880381367431298 : Unit := ()
noncomputable def law_holds.tw2143268655074302082 : Unit := ()
noncomputable def law_holds.tw13250372474279835810 : Unit := ()
noncomputable def law_holds.tw18221428039690301666 : Unit := ()
noncomputable def law_holds.tw8330938851228082562 : Unit := ()
noncomputable def law_holds.tw12741236809623291298 : Unit := ()
noncomputable def law_holds.tw2269544990204364226 : Unit := ()
noncomputable def law_holds.tw4524032621918665186 : Unit := ()
noncomputable def law_holds.tw14354538779393863138 : Unit := ()
noncomputable def law_holds.tw8266603773606604290 : Unit := ()
noncomputable def law_holds.tw15154110283740273250 : Unit := ()
noncomputable def law_holds.tw5769158387606399586 : Unit := ()
noncomputable def law_holds.tw6896717019858035522 : Unit := ()
noncomputable def law_holds.tw4593294709026258786 : Unit := ()
noncomputable def law_holds.tw445335354869643106 : Unit := ()
noncomputable def law_holds.tw16893121556090616931 : Unit := ()
noncomputable def law_holds.tw10812634152524527747 : Unit := ()
noncomputable def law_holds.tw8369274380968253667 : Unit := ()
noncomputable def law_holds.tw17027635718292003107 : Unit := ()
noncomputable def law_holds.tw16836969012518115619 : Unit := ()
noncomputable def law_holds.tw14828999820898988419 : Unit := ()
noncomputable def law_holds.tw8857742495270377987 : Unit := ()
noncomputable def law_holds.tw3979707639553702691 : Unit := ()
noncomputable def law_holds.tw12342728606916771844 : Unit := ()
noncomputable def law_holds.tw447027507633508388 : Unit := ()
noncomputable def law_holds.tw12889056044993165476 : Unit := ()
noncomputable def law_holds.tw4146061822495498468 : Unit := ()
noncomputable def law_holds.tw9606376775287448836 : Unit := ()
noncomputable def law_holds.tw12459966957829302596 : Unit := ()
noncomputable def law_holds.tw4037582482628031876 : Unit := ()
noncomputable def law_holds.tw5640673133297012132 : Unit := ()
noncomputable def law_holds.tw11426015686315989412 : Unit := ()
noncomputable def law_holds.tw18326849912455186884 : Unit := ()
noncomputable def law_holds.tw14872900085578418628 : Unit := ()
noncomputable def law_holds.tw3955097671198598788 : Unit := ()
noncomputable def law_holds.tw18254337876149969668 : Unit := ()
noncomputable def law_holds.tw12476058986133298565 : Unit := ()
noncomputable def law_holds.tw6709271908398517637 : Unit := ()
noncomputable def law_holds.tw9288214680346807717 : Unit := ()
noncomputable def law_holds.tw3910120701321347557 : Unit := ()
noncomputable def law_holds.tw3912811242725288453 : Unit := ()
noncomputable def law_holds.tw13478230802861573701 : Unit := ()
noncomputable def law_holds.tw18340598423539479173 : Unit := ()
noncomputable def law_holds.tw17237755526102222789 : Unit := ()
noncomputable def law_holds.tw4329158554759489670 : Unit := ()
noncomputable def law_holds.tw17891052256493067590 : Unit := ()
noncomputable def law_holds.tw6667284449218939238 : Unit := ()
noncomputable def law_holds.tw850272041215511910 : Unit := ()
noncomputable def law_holds.tw14390095281932903014 : Unit := ()
noncomputable def law_holds.tw8549365171731915398 : Unit := ()
noncomputable def law_holds.tw11097158420108258118 : Unit := ()
noncomputable def law_holds.tw13220211186989608806 : Unit := ()
noncomputable def law_holds.tw5451054884063135654 : Unit := ()
noncomputable def law_holds.tw907578622648922086 : Unit := ()
noncomputable def law_holds.tw12419048959643632839 : Unit := ()
noncomputable def law_holds.tw8417186165934385351 : Unit := ()
noncomputable def law_holds.tw2644310842459337959 : Unit := ()
noncomputable def law_holds.tw13397297893571687751 : Unit := ()
noncomputable def law_holds.tw3943428198234077543 : Unit := ()
noncomputable def law_holds.tw17923851452625207687 : Unit := ()
noncomputable def law_holds.tw2387193687640843687 : Unit := ()
noncomputable def law_holds.tw11781800970755023335 : Unit := ()
noncomputable def law_holds.tw10876394233666535175 : Unit := ()
noncomputable def law_holds.tw9634471323475708679 : Unit := ()
noncomputable def law_holds.tw2295933128562542503 : Unit := ()
noncomputable def law_holds.tw14545874151571354728 : Unit := ()
noncomputable def law_holds.tw13301187468288870568 : Unit := ()
noncomputable def law_holds.tw1767730674963353768 : Unit := ()
noncomputable def law_holds.tw12732824653754844360 : Unit := ()
noncomputable def law_holds.tw17253691774821329096 : Unit := ()
noncomputable def law_holds.tw455179833554555240 : Unit := ()
noncomputable def law_holds.tw17993387198741990920 : Unit := ()
noncomputable def law_holds.tw10442559174759676424 : Unit := ()
noncomputable def law_holds.tw3005452535816212104 : Unit := ()
noncomputable def law_holds.tw9069877914133315304 : Unit := ()
noncomputable def law_holds.tw7497986649931050792 : Unit := ()
noncomputable def law_holds.tw12977093529070104392 : Unit := ()
noncomputable def law_holds.tw11544315989524547432 : Unit := ()
noncomputable def law_holds.tw2055734563569237896 : Unit := ()
noncomputable def law_holds.tw15014403891855920072 : Unit := ()
noncomputable def law_holds.tw10958410103948607464 : Unit := ()
noncomputable def law_holds.tw6317479115527610633 : Unit := ()
noncomputable def law_holds.tw5920216800500632969 : Unit := ()
noncomputable def law_holds.tw2602977815382960713 : Unit := ()
noncomputable def law_holds.tw12607336285111757513 : Unit := ()
noncomputable def law_holds.tw10368410895845634921 : Unit := ()
noncomputable def law_holds.tw16273140198857503625 : Unit := ()
noncomputable def law_holds.tw4995542688137877417 : Unit := ()
noncomputable def law_holds.tw14160533322030094474 : Unit := ()
noncomputable def law_holds.tw12018895810352959690 : Unit := ()
noncomputable def law_holds.tw14883556706271630602 : Unit := ()
noncomputable def law_holds.tw16978406815995349258 : Unit := ()
noncomputable def law_holds.tw16883458599210261866 : Unit := ()
noncomputable def law_holds.tw13766487248619392586 : Unit := ()
noncomputable def law_holds.tw1285599515219305098 : Unit := ()
noncomputable def law_holds.tw1622690429015379626 : Unit := ()
noncomputable def law_holds.tw6719018230134327050 : Unit := ()
noncomputable def law_holds.tw11097350217990362986 : Unit := ()
noncomputable def law_holds.tw8249079356659094474 : Unit := ()
noncomputable def law_holds.tw1832781179975386347 : Unit := ()
noncomputable def law_holds.tw2322801206320994539 : Unit := ()
noncomputable def law_holds.tw2102315897755806987 : Unit := ()
noncomputable def law_holds.tw13280740594461564331 : Unit := ()
noncomputable def law_holds.tw7495221243884187115 : Unit := ()
noncomputable def law_holds.tw676263390381983339 : Unit := ()
noncomputable def law_holds.tw10362271348294423435 : Unit := ()
noncomputable def law_holds.tw1385162719727133579 : Unit := ()
noncomputable def law_holds.tw4581845663705801772 : Unit := ()
noncomputable def law_holds.tw11470271118054631628 : Unit := ()
noncomputable def law_holds.tw3776956092104397036 : Unit := ()
noncomputable def law_holds.tw16690188075714780428 : Unit := ()
noncomputable def law_holds.tw8634839017697508684 : Unit := ()
noncomputable def law_holds.tw17911580528928914924 : Unit := ()
noncomputable def law_holds.tw9875236377963488844 : Unit := ()
noncomputable def law_holds.tw41732636909640268 : Unit := ()
noncomputable def law_holds.tw11966672015165255308 : Unit := ()
noncomputable def law_holds.tw15448297888555860652 : Unit := ()
noncomputable def law_holds.tw14988988175077273356 : Unit := ()
noncomputable def law_holds.tw1928719863018725356 : Unit := ()
noncomputable def law_holds.tw2907507879108658156 : Unit := ()
noncomputable def law_holds.tw15732109348078318572 : Unit := ()
noncomputable def law_holds.tw8472228645029834797 : Unit := ()
noncomputable def law_holds.tw602461330855297101 : Unit := ()
noncomputable def law_holds.tw2159558930717985069 : Unit := ()
noncomputable def law_holds.tw13402424001964919149 : Unit := ()
noncomputable def law_holds.tw15352839923633478061 : Unit := ()
noncomputable def law_holds.tw14822640431511872941 : Unit := ()
noncomputable def law_holds.tw8176227357466254829 : Unit := ()
noncomputable def law_holds.tw10983241140555628109 : Unit := ()
noncomputable def law_holds.tw17253903310271361901 : Unit := ()
noncomputable def law_holds.tw11133525997344109421 : Unit := ()
noncomputable def law_holds.tw3896150654470677357 : Unit := ()
noncomputable def law_holds.tw15162217921772873613 : Unit := ()
noncomputable def law_holds.tw2090888555730037645 : Unit := ()
noncomputable def law_holds.tw16461882675039125421 : Unit := ()
noncomputable def law_holds.tw6723812968561706957 : Unit := ()
noncomputable def law_holds.tw2139172203440323022 : Unit := ()
noncomputable def law_holds.tw2078624436916829710 : Unit := ()
noncomputable def law_holds.tw16098122237329998606 : Unit := ()
noncomputable def law_holds.tw16947615914383616782 : Unit := ()
noncomputable def law_holds.tw8984712037535005518 : Unit := ()
noncomputable def law_holds.tw6564709946809587534 : Unit := ()
noncomputable def law_holds.tw14497384708736915567 : Unit := ()
noncomputable def law_holds.tw8909828626151137519 : Unit := ()
noncomputable def law_holds.tw7696488724909661519 : Unit := ()
noncomputable def law_holds.tw8854015012368427407 : Unit := ()
noncomputable def law_holds.tw17028624522117568015 : Unit := ()
noncomputable def law_holds.tw14326059299131336239 : Unit := ()
noncomputable def law_holds.tw6159533029260741167 : Unit := ()
noncomputable def law_holds.tw12134408205421670959 : Unit := ()
noncomputable def law_holds.tw5506821171919863439 : Unit := ()
noncomputable def law_holds.tw11017292853192552079 : Unit := ()
noncomputable def law_holds.tw15883345262158282383 : Unit := ()
noncomputable def law_holds.tw16406091861079842607 : Unit := ()
noncomputable def law_holds.tw14746732674962391887 : Unit := ()
noncomputable def law_holds.tw16106779387088534511 : Unit := ()
noncomputable def law_holds.tw4515466672771955728 : Unit := ()
noncomputable def law_holds.tw15472126771306010800 : Unit := ()
noncomputable def law_holds.tw3307954989432871184 : Unit := ()
noncomputable def law_holds.tw11182679623053108816 : Unit := ()
noncomputable def law_holds.tw5062152199769849712 : Unit := ()
noncomputable def law_holds.tw7604666192120794032 : Unit := ()
noncomputable def law_holds.tw15272395603832836080 : Unit := ()
noncomputable def law_holds.tw1689763614830377041 : Unit := ()
noncomputable def law_holds.tw6333624483447246961 : Unit := ()
noncomputable def law_holds.tw15607887362523206001 : Unit := ()
noncomputable def law_holds.tw3682559726232862161 : Unit := ()
noncomputable def law_holds.tw9207643191828677137 : Unit := ()
noncomputable def law_holds.tw2136269947727277649 : Unit := ()
noncomputable def law_holds.tw3756957479349018193 : Unit := ()
noncomputable def law_holds.tw7820799176418779761 : Unit := ()
noncomputable def law_holds.tw881140697980615281 : Unit := ()
noncomputable def law_holds.tw16381176275627223697 : Unit := ()
noncomputable def law_holds.tw13431030151845061361 : Unit := ()
noncomputable def law_holds.tw2043166853727251185 : Unit := ()
noncomputable def law_holds.tw15617896438947887921 : Unit := ()
noncomputable def law_holds.tw12622292602297523153 : Unit := ()
noncomputable def law_holds.tw14925382992726071281 : Unit := ()
noncomputable def law_holds.tw14892801356780361778 : Unit := ()
noncomputable def law_holds.tw13882729330811710610 : Unit := ()
noncomputable def law_holds.tw11347954631545130290 : Unit := ()
noncomputable def law_holds.tw14789792462180790578 : Unit := ()
noncomputable def law_holds.tw575232530192455986 : Unit := ()
noncomputable def law_holds.tw5785192392377778578 : Unit := ()
noncomputable def law_holds.tw12303009252429188658 : Unit := ()
noncomputable def law_holds.tw498061464947678834 : Unit := ()
noncomputable def law_holds.tw15333956030411951890 : Unit := ()
noncomputable def law_holds.tw11100686419730198450 : Unit := ()
noncomputable def law_holds.tw15829985883664642994 : Unit := ()
noncomputable def law_holds.tw2887050238494874643 : Unit := ()
noncomputable def law_holds.tw11633083819707477107 : Unit := ()
noncomputable def law_holds.tw6861490101519172755 : Unit := ()
noncomputable def law_holds.tw8785698371604719795 : Unit := ()
noncomputable def law_holds.tw7472407996622490835 : Unit := ()
noncomputable def law_holds.tw5212653520564569363 : Unit := ()
noncomputable def law_holds.tw745255978533919091 : Unit := ()
noncomputable def law_holds.tw718173064312146323 : Unit := ()
noncomputable def law_holds.tw15609566024721092083 : Unit := ()
noncomputable def law_holds.tw302768837105346163 : Unit := ()
noncomputable def law_holds.tw10007947361888340627 : Unit := ()
noncomputable def law_holds.tw10841264019214440115 : Unit := ()
noncomputable def law_holds.tw1414043511812021011 : Unit := ()
noncomputable def law_holds.tw1791086108937442324 : Unit := ()
noncomputable def law_holds.tw14596297492920191028 : Unit := ()
noncomputable def law_holds.tw3046938939346580660 : Unit := ()
noncomputable def law_holds.tw10296202853966499060 : Unit := ()
noncomputable def law_holds.tw4439653461905209652 : Unit := ()
noncomputable def law_holds.tw699380112222796084 : Unit := ()
noncomputable def law_holds.tw15544829507116839252 : Unit := ()
noncomputable def law_holds.tw11609493526922420660 : Unit := ()
noncomputable def law_holds.tw7120836010843673076 : Unit := ()
noncomputable def law_holds.tw14201498089721532212 : Unit := ()
noncomputable def law_holds.tw7636989558263936852 : Unit := ()
noncomputable def law_holds.tw6776455111828631412 : Unit := ()
noncomputable def law_holds.tw4503035019201841076 : Unit := ()
noncomputable def law_holds.tw2075624079617657780 : Unit := ()
noncomputable def law_holds.tw13977696155076201460 : Unit := ()
noncomputable def law_holds.tw3595789414353437717 : Unit := ()
noncomputable def law_holds.tw17899081815984039989 : Unit := ()
noncomputable def law_holds.tw11463670642173560981 : Unit := ()
noncomputable def law_holds.tw14385925486924208373 : Unit := ()
noncomputable def law_holds.tw179590077315354965 : Unit := ()
noncomputable def law_holds.tw3253820488102484341 : Unit := ()
noncomputable def law_holds.tw4916342969005030805 : Unit := ()
noncomputable def law_holds.tw2643271747718453845 : Unit := ()
noncomputable def law_holds.tw8970147916757833333 : Unit := ()
noncomputable def law_holds.tw11764581739189218997 : Unit := ()
noncomputable def law_holds.tw6911747868599837429 : Unit := ()
noncomputable def law_holds.tw1670043908289496885 : Unit := ()
noncomputable def law_holds.tw9168033884955339765 : Unit := ()
noncomputable def law_holds.tw4441770287765753910 : Unit := ()
noncomputable def law_holds.tw4072507727158212662 : Unit := ()
noncomputable def law_holds.tw5389484754426515990 : Unit := ()
noncomputable def law_holds.tw6507877686720480950 : Unit := ()
noncomputable def law_holds.tw12687621791434340054 : Unit := ()
noncomputable def law_holds.tw9423440377400516374 : Unit := ()
noncomputable def law_holds.tw15802469936163623734 : Unit := ()
noncomputable def law_holds.tw4992725456586698614 : Unit := ()
noncomputable def law_holds.tw11677100312832694166 : Unit := ()
noncomputable def law_holds.tw15759456685926392790 : Unit := ()
noncomputable def law_holds.tw11484002064277903863 : Unit := ()
noncomputable def law_holds.tw17255088995462705879 : Unit := ()
noncomputable def law_holds.tw10242277825702978295 : Unit := ()
noncomputable def law_holds.tw1335265377702380343 : Unit := ()
noncomputable def law_holds.tw13028658284911697911 : Unit := ()
noncomputable def law_holds.tw16009327648451700120 : Unit := ()
noncomputable def law_holds.tw4030767218360268280 : Unit := ()
noncomputable def law_holds.tw10188763426450519768 : Unit := ()
noncomputable def law_holds.tw9552830710289189752 : Unit := ()
noncomputable def law_holds.tw1973129929022764952 : Unit := ()
noncomputable def law_holds.tw8835965917227929528 : Unit := ()
noncomputable def law_holds.tw16099233806120587224 : Unit := ()
noncomputable def law_holds.tw5731563423909890137 : Unit := ()
noncomputable def law_holds.tw14991590004735058009 : Unit := ()
noncomputable def law_holds.tw4273555757443719353 : Unit := ()
noncomputable def law_holds.tw17499823404086765753 : Unit := ()
noncomputable def law_holds.tw13780023080261437657 : Unit := ()
noncomputable def law_holds.tw7407239408455114201 : Unit := ()
noncomputable def law_holds.tw14498155544194170393 : Unit := ()
noncomputable def law_holds.tw3850334171643177529 : Unit := ()
noncomputable def law_holds.tw1909877003179415225 : Unit := ()
noncomputable def law_holds.tw11977050620070087417 : Unit := ()
noncomputable def law_holds.tw10516828495840041881 : Unit := ()
noncomputable def law_holds.tw8441880690091102137 : Unit := ()
noncomputable def law_holds.tw18388893480867403737 : Unit := ()
noncomputable def law_holds.tw18261290160731607033 : Unit := ()
noncomputable def law_holds.tw7089819591129360890 : Unit := ()
noncomputable def law_holds.tw8957123355933967898 : Unit := ()
noncomputable def law_holds.tw1186782194237197914 : Unit := ()
noncomputable def law_holds.tw8040771413219435098 : Unit := ()
noncomputable def law_holds.tw12115171985352901274 : Unit := ()
noncomputable def law_holds.tw3438298445031660282 : Unit := ()
noncomputable def law_holds.tw3366817510852727610 : Unit := ()
noncomputable def law_holds.tw4464252984393422682 : Unit := ()
noncomputable def law_holds.tw7674872384585114458 : Unit := ()
noncomputable def law_holds.tw16563099163409725306 : Unit := ()
noncomputable def law_holds.tw8763168800255643514 : Unit := ()
noncomputable def law_holds.tw5455921660152230842 : Unit := ()
noncomputable def law_holds.tw3253568177066640346 : Unit := ()
noncomputable def law_holds.tw4614512636035447770 : Unit := ()
noncomputable def law_holds.tw7185456241796803578 : Unit := ()
noncomputable def law_holds.tw11625900857008200698 : Unit := ()
noncomputable def law_holds.tw7769649832755249146 : Unit := ()
noncomputable def law_holds.tw1989176631692091739 : Unit := ()
noncomputable def law_holds.tw6934448944433832347 : Unit := ()
noncomputable def law_holds.tw17865009358878524859 : Unit := ()
noncomputable def law_holds.tw18203989763732354715 : Unit := ()
noncomputable def law_holds.tw16470317323979864763 : Unit := ()
noncomputable def law_holds.tw14904137174637212347 : Unit := ()
noncomputable def law_holds.tw6765152471904792315 : Unit := ()
noncomputable def law_holds.tw8285764192309689115 : Unit := ()
noncomputable def law_holds.tw1341266762083198811 : Unit := ()
noncomputable def law_holds.tw11889215837194936219 : Unit := ()
noncomputable def law_holds.tw724200737284857819 : Unit := ()
noncomputable def law_holds.tw784011647948385275 : Unit := ()
noncomputable def law_holds.tw10264638600885302300 : Unit := ()
noncomputable def law_holds.tw2856731137302751260 : Unit := ()
noncomputable def law_holds.tw5112083995522966620 : Unit := ()
noncomputable def law_holds.tw10566571302883470556 : Unit := ()
noncomputable def law_holds.tw8666519363043736892 : Unit := ()
noncomputable def law_holds.tw1819975233463548508 : Unit := ()
noncomputable def law_holds.tw11404014056486942332 : Unit := ()
noncomputable def law_holds.tw10817052189556005596 : Unit := ()
noncomputable def law_holds.tw607667584577438428 : Unit := ()
noncomputable def law_holds.tw8570087061310353148 : Unit := ()
noncomputable def law_holds.tw660297872995803996 : Unit := ()
noncomputable def law_holds.tw6881874429007886204 : Unit := ()
noncomputable def law_holds.tw3956099054510807996 : Unit := ()
noncomputable def law_holds.tw9843604407834444796 : Unit := ()
noncomputable def law_holds.tw18269650602155537469 : Unit := ()
noncomputable def law_holds.tw15806970514647361693 : Unit := ()
noncomputable def law_holds.tw6499956759230125245 : Unit := ()
noncomputable def law_holds.tw12626328134170644701 : Unit := ()
noncomputable def law_holds.tw11126432536435168541 : Unit := ()
noncomputable def law_holds.tw9992725586745946429 : Unit := ()
noncomputable def law_holds.tw15274831704391544125 : Unit := ()
noncomputable def law_holds.tw11924911360389889469 : Unit := ()
noncomputable def law_holds.tw1778412455037948541 : Unit := ()
noncomputable def law_holds.tw8553002610548859549 : Unit := ()
noncomputable def law_holds.tw10371022188087798493 : Unit := ()
noncomputable def law_holds.tw12223724995276690173 : Unit := ()
noncomputable def law_holds.tw15661869461025623997 : Unit := ()
noncomputable def law_holds.tw9529696498207198238 : Unit := ()
noncomputable def law_holds.tw9255152265573255198 : Unit := ()
noncomputable def law_holds.tw3850404396616230974 : Unit := ()
noncomputable def law_holds.tw13650905803964671038 : Unit := ()
noncomputable def law_holds.tw5274592661964301406 : Unit := ()
noncomputable def law_holds.tw576407869801174206 : Unit := ()
noncomputable def law_holds.tw12116493165278983582 : Unit := ()
noncomputable def law_holds.tw4781243967656130014 : Unit := ()
noncomputable def law_holds.tw1096898596823417342 : Unit := ()
noncomputable def law_holds.tw5364902710198789758 : Unit := ()
noncomputable def law_holds.tw4889031023730116350 : Unit := ()
noncomputable def law_holds.tw1905533677188600702 : Unit := ()
noncomputable def law_holds.tw3049941959672503198 : Unit := ()
noncomputable def law_holds.tw15150646450996357022 : Unit := ()
noncomputable def law_holds.tw2503670479209048990 : Unit := ()
noncomputable def law_holds.tw17713402740875732926 : Unit := ()
noncomputable def law_holds.tw17942709131360195518 : Unit := ()
noncomputable def law_holds.tw11946022803392826334 : Unit := ()
noncomputable def law_holds.tw7221428835167493151 : Unit := ()
noncomputable def law_holds.tw3850375180904979519 : Unit := ()
noncomputable def law_holds.tw14289194402921355359 : Unit := ()
noncomputable def law_holds.tw13154458805202713791 : Unit := ()
noncomputable def law_holds.tw3756308257209627903 : Unit := ()
noncomputable def law_holds.tw8312341600987523519 : Unit := ()
noncomputable def law_holds.tw15191720212996534143 : Unit := ()
noncomputable def law_holds.tw8514742172934523775 : Unit := ()
noncomputable def law_holds.tw952060120211493840 : Unit := ()
noncomputable def law_holds.tw14913282570486469602 : Unit := ()
section
open LCg
set_option Elab.async true in
set_option maxHeartbeats 11000000 in
theorem law_holds : PySem.Challenge.rw_im0037_01.Holds := by
  k_with_none
  k_with "o" => (first | (with_reducible first | assumption | (show (_ : Nat) ≤ _; first | exact Nat.le_of_ble_eq_true rfl | exact Nat.zero_le _ | exact Nat.le_of_lt ‹_› | exact Nat.le_of_eq ‹_› | exact oM ‹_› | exact oL ‹_› | exact oJ | exact oK | exact qE ‹_› | exact qG ‹_› | exact oS ‹_› rfl | exact oSE ‹_› ‹_› rfl | exact oA ‹_› rfl | exact oB ‹_› rfl | exact oG ‹_› rfl | exact oE ‹_› ‹_› rfl | exact oF ‹_› ‹_› rfl | exact oH ‹_› ‹_› rfl | exact oI ‹_› ‹_› rfl | exact oQ ‹_› ‹_› rfl | exact oQ3 ‹_› ‹_› ‹_› rfl | exact xE ‹_› ‹_› rfl | exact xA ‹_› | exact xB ‹_› | exact xH ‹_› | exact xF ‹_› | exact xG ‹_› | exact xL ‹_› | exact xC ‹_› ‹_› ‹_› ‹_› rfl | exact xD ‹_› ‹_› ‹_› ‹_› ‹_› rfl | exact xK ‹_› rfl | exact xJ ‹_› ‹_› rfl | exact xI ‹_› ‹_› ‹_› rfl | exact wA ‹_› ‹_› ‹_› rfl | exact wB ‹_› ‹_› ‹_› rfl | exact yC ‹_› ‹_› ‹_› rfl | exact yE ‹_› | exact uB ‹_› ‹_› rfl | exact uF ‹_› | exact uM | exact uN | exact uO | exact uU ‹_› | exact uW ‹_› ‹_› | exact uX ‹_› ‹_› ‹_› rfl | exact uZ ‹_› ‹_› ‹_› rfl | exact vC ‹_› ‹_› rfl | exact vD ‹_› | exact vI | exact vJ | exact vL ‹_› | exact vN ‹_› ‹_› ‹_› rfl | exact vO ‹_› ‹_› ‹_› ‹_› ‹_› rfl | exact vP ‹_› ‹_› ‹_› rfl | exact vQ ‹_› ‹_› | exact vR ‹_› ‹_› ‹_› rfl | exact vT | exact Nat.min_le_left _ _ | exact Nat.le_trans ‹_› ‹_› | exact Nat.le_add_left _ _ | exact wC ‹_› ‹_› rfl | exact wI ‹_› ‹_› rfl | exact wG ‹_› ‹_› ‹_› rfl | exact wF ‹_› ‹_› ‹_›) | (show (_ : Nat) < _; first | exact Nat.le_of_ble_eq_true rfl | exact Nat.lt_succ_self _ | exact pA ‹_› rfl | exact pB ‹_› rfl | exact pG ‹_› rfl | exact pE ‹_› ‹_› rfl | exact pF ‹_› ‹_› rfl | exact pH ‹_› ‹_› rfl | exact pI ‹_› ‹_› rfl | exact pS ‹_› rfl | exact pSE ‹_› ‹_› rfl | exact qA ‹_› | exact qD ‹_› | exact qB ‹_› ‹_› | exact qC ‹_› | exact Nat.lt_of_le_of_ne ‹_› ‹_› | exact uC ‹_› ‹_› | exact uD ‹_› | exact uE ‹_› | exact uY ‹_› ‹_› | exact vG ‹_› ‹_› rfl | exact vH ‹_› | exact vK ‹_› ‹_› | exact qF ‹_› | exact zA ‹_› ‹_› | exact wK ‹_› | exact wH ‹_› rfl | exact wD ‹_› ‹_› ‹_› rfl | exact wE ‹_› ‹_› ‹_›) | (show (_ : Nat) = _; first | exact yA ‹_› | exact yB ‹_› | exact yD ‹_› | exact yS ‹_› | exact Nat.sub_add_comm ‹_› | exact Nat.add_sub_cancel' ‹_› | exact uV ‹_› | exact uJ | exact uK | exact uL | exact uP | exact uQ | exact uR | exact vE ‹_› ‹_› | exact zB | exact oZ) | (show ((_ : Nat) : Int) < 2 ^ 63; first | exact iA ‹_› rfl | exact iB ‹_› rfl | exact iE ‹_› ‹_› rfl | exact iI ‹_› ‹_› rfl) | (show ((_ : Nat) : Int) < 2 ^ 62; first | exact jA ‹_› rfl | exact jB ‹_› rfl | exact jE ‹_› ‹_› rfl) | (show ((_ : Nat) : Int) + 1 < 2 ^ 63; first | exact rA ‹_› rfl | exact rE ‹_› ‹_› rfl | exact rF ‹_› ‹_› rfl) | exact rT ‹_› ‹_› rfl | exact rM | exact rN | exact Int.natCast_nonneg _ | exact iM | exact jM | exact iP ‹_› | exact uS ‹_› | exact uT ‹_› | exact vF ‹_› | exact vM ‹_› | exact vS ‹_› | exact yF ‹_› | exact yT ‹_› | exact iS | exact iZ | exact iD ‹_› | exact iV) | omega)
  k_with "a" => (with_reducible assumption)
  k_with "kxs_still" => (((try dsimp only); (try (refine execs_gen ?_; intro zqt9)); (try k_fold); (try k_extra "bits_by_make")))
  k_with "bits_by_make" => ((try (rename Fr _ _ _ _ => zqF9; (fail_if_success (refine onlyM zqF9 ?_; goal_lacks ite List.lookup)); refine letF zqF9 ?_; clear zqF9; intro zqm9 zqF9)))
  k_with "cell_call" => (first | k_extra "a" | (refine List.mem_cons_of_mem _ ?_; k_extra "cell_call"))
  k_with "tb_start" => ((refine neN ?_; (try dsimp only); first | exact NeA.to (by k_extra "a") | exact NeA.to' (by k_extra "a") | (refine' ne_pos (by k_extra "a") (by k_extra "po")  ) | (refine' ne_pos' (by k_extra "a") (by k_extra "po")  ) | (refine' lt_pos (by k_extra "a") (by k_extra "po")  ) | (refine' lt_pos' (by k_extra "a") (by k_extra "po")  ) | exact Nat.ne_of_lt (by k_extra "a") | exact Nat.ne_of_gt (by k_extra "a") | (refine' lt_up (by k_extra "a") (by k_extra "a") (by k_extra "po")  ) | (refine' lt_up' (by k_extra "a") (by k_extra "a") (by k_extra "po")  ) | omega))
  k_with "tb_rel" => (first | (tbn_letter; first | k_extra "a" | (refine' lt_suf (by k_extra "a") (by k_extra "su")  ) | (refine' ne_suf (by k_extra "a") (by k_extra "su")  ) | (refine' lt_sufU (by k_extra "a") (by k_extra "a") (by k_extra "su")  ) | (refine tbn_neAll ?_; tbn_find) | (refine' tbn_neAll (allLt_up (by tbn_find) (by k_extra "o"))  )) | exact List.forall_mem_nil _ | (refine' lt_suf (by k_extra "a") (by exact Suf.refl)  ) | (refine' ne_suf (by k_extra "a") (by exact Suf.refl)  ) | exact lt_same (by k_extra "a") (by rfl) | (refine List.forall_mem_cons.mpr ⟨?_, ?_⟩; (focus k_extra "tb_start"); k_extra "tb_rel"))
  k_with "k_upd" => (first | (refine Upd.head ?_; k_extra "tb_rel") | (apply Upd.tail; (focus k_extra "tb_start"); k_upd))
  k_with "k_updF" => (first | (refine UpdF.head ?_; k_extra "tb_rel") | (apply UpdF.tail; (focus k_extra "tb_start"); k_updF))
  k_with "execs cons" => ((k_extra "kxs_still"; refine wpAny_execs_cons ?_))
  k_with "po" => (first | exact PosA.head | (refine PosA.tail ?_; k_extra "po"))
  k_with "su" => (first | exact Suf.refl | (refine Suf.tail ?_; k_extra "su"))
  k_with "enter0" => (k_dflt (refine' code0 (by k_asm) (by k_asm) (by k_asm) (by k_asm) (by k_asm) (by exact rfl) (by exact rfl) (by assumption) (by k_is) (by k_is) (by k_room) (by first | exact BindsTo.of_eq rfl | exact binds_K (by k_in) rfl (by k_is) rfl rfl rfl | fail "enter0") (by exact locs rfl) ?_ (by exact rfl) (by exact rfl) (by exact rfl) (by decide); k_whole; intro zqg' zqL' zqh' zqFG' zqF' zqN' zqB' zqX' zqT' zqD'; (try dsimp only); (try k_lift zqB'); (try k_fold)))
  k_with "execs cons" => (((with_reducible show wpAny _ _ (execs (Stmt.Assign [Expr.Name (Str.ofString "grammar") _] _ _ :: _) _) _ _ _); refine halt ?_))
  w_on
  o_law
  k_head
  case hw => w_witness2
  k_go0
  k_steps
  unfold Halt
  rename News _ _ _ _ => N22
  rename Fr _ _ _ _ => F22
  refine' law_mid _ _ ?hL ?X ?T ?Bl F22 N22 ?l4 ?lp ?d1 ?d2 ?d3 ?hts ?h63 ?hret ?hrest
  case hL => k_is
  case hrest => rfl
  case X =>
    rename Frag.In _ _ => XX
    exact heap_swap XX (by kernel_rfl)
  case T => exact top_swap (by with_reducible assumption) (by kernel_rfl)
  case Bl => with_reducible assumption
  case l4 => with_reducible assumption
  case lp => with_reducible assumption
  case d1 => with_reducible assumption
  case d2 => with_reducible assumption
  case d3 => with_reducible assumption
  case hts => with_reducible assumption
  case h63 =>
    rename _ = (List.map (fun k' => Int.fmod k' 720720) (List.take 40 _)).length => hl
    rw [hl, List.length_map, List.length_take]
    exact Nat.le_trans (Nat.min_le_left _ _) (Nat.le_of_ble_eq_true rfl)
  case hret =>
    intro h' tk' m' F'
    dsimp only
    k_end
    wrow_close
end

end Mine
theorem PySem.Challenge.cw_im0037_01_holds : PySem.Challenge.rw_im0037_01.Holds := by
  exact Mine.law_holds
