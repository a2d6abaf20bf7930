import PyProof.Rows.All
import Wide.All
import OpenK.KSplit
import OpenK.KApp
import KE.KListMore
import KE.RegKMod
import KE.KDictOf
import KE.KDictMeth
import KE.KEqSeq
import KE.KSlice
import KE.GnPush
import KE.KSorted
import KE.KJoinElse
import KE.RegTryLedger
import KE.KTops
import KE.RegKSuper
import KE.KSort
import KE.KDictLoop
import KE.RegLcTurns
import KE.RegLcAnyAll
import KE.KCat
import KE.KTemps
import KE.KTup
import KE.KxMul
import KE.KxSplit
import KE.KxIndex
import KE.KxText
import KE.KCells
import KE.KPassesOwn
import KE.RegKIsNot
import KE.KTempsTwo
import KE.KSetInts
import KE.KSortedL
import KE.KxBytes
import KE.KClos
import KE.KNestStore
import KE.KOwnIter
import KE.KStopIter
import KE.RegKBase
import KE.KDictOne
import KE.RegKMathG
import KE.KDictAny
import KE.RegKCallOwn
import KE.KSliceW
import KE.KxDecode
import KE.RegKMathGB
import KE.KLam
import KE.KDictBranch
import KE.KTree
import KE.KTreeB
import KE.KNestM
import KE.KDflt
import KE.KOwnIterCall
import KE.KSortedM
import KE.KTurns
import KE.KEqText
import KE.KxLen
import KE.RegKMathGC
import KE.KIsClose
import KE.KEqDict
import KE.KDisp
import KE.KDictAnyGet
import KE.KDictObj
import KE.KSetIn
import KE.KRevSl
import KE.KEqDeep
import KE.KAnyBase
import KE.KBoundM
import KE.KWhile
import KE.KRevIter
import KE.KCount
import KE.KTreeR
import KE.KxStill
import KE.KFinally
import KE.KTopLam
import KE.KWithOwn
import KE.KCases
import KE.KOpsOwn
import KE.KDictNew
import KE.KDictList
import KE.KDictIter
import KE.RegKUnpackStar
import KE.KSortAsk
import KE.KWhileD
import KE.KLcTest
import KE.KSumEnd
import KE.KPopAny
import KE.KGrown
import KE.KItemAt
import KE.KTextLit
import KE.KTupDict
import KE.KFmtOwn
import KE.KUnrMore
import KE.KMinKey
import KE.KTurnsDict
import KE.KExtendNil
import KE.KMethU
import KE.BytesMul
import KE.KCompFold
import KE.KDictSum
import KE.KDictName
import KE.KDictSym
import KE.KTurnsAny
import KE.KDictAnyTail
import KE.RegKStar
import KE.RegKParD
import KE.RegKTupTruth
import KE.RegKTupSum
import KE.KMethJoin
import KE.KPathRangeEnd
import KE.KStateW
import KE.RegKParC
import KE.KxWritten
import KE.KxAdd
import KE.KxAffix
import KE.KxField
import KE.RegKIsAll
import KE.RegKMatchCls
import KE.KLcPair
import KE.RegKTryDeep
import KE.KJoinL
import KE.RegKNeg
import KE.KxPercentT
import KE.KBytesCut
import KE.KCellOne
import KE.KCompIf
import KE.KMenu
import KE.KxFormat
import KE.KTypeName
import KE.KCompText
import KE.BytesMulAny
import KE.KDictSymLen
import KE.KSortTup
import KE.KPairAssign
import KE.KTypeOf
import KE.KFinEnd
import KE.KMulAny
import KE.KBytesMenu
import KE.KTextDict
import KE.KPathShort
import KE.KSplitRange
import KE.KKinds
import KE.KxPart
import KE.KRangeItem
import KE.KDictLetter
import KE.KRangeNest
import KE.KSetAt
import KE.KWords
import KE.KxTruthy
import KE.KPairRows
import KE.KBytesMore
import KE.RegKStateDown
import KE.KItemsList
import KE.KRangePlain
import KE.KStateGiven
import KE.KBitsMul
import KE.KTextTable
import KE.KForList
import KE.KIdxIf
import KE.KAssignIn
import KE.KFirstTurn
import KE.KOwnRange
import KE.KLooksOwn
import KE.KDictWord
import KE.KStrOpen
import KE.KTurnsGround
import KE.KListEnd
import KE.KSearch
import KE.KFinFacts
import KE.RegKTryOn
import KE.KCenter
import KE.KStrWords
import KE.KStateTextK
import KE.KStateWGiven
import KE.KData
import KE.KCallTup
import KE.KTreeF
import KE.KEndWord
import KE.KStateBytes
import KE.KRangeEnd
import KE.KOf
import KE.KRepItem
import KE.KListLetter
import KE.KSliceSign
import KE.KCallBy
import KE.KToBytes
import KE.KPathText
import KE.KMinBuiltin
import KE.KFromBytes
import KE.KEqDat
import KE.KBytesUnr
import KE.KIsBytes
import KE.KCallRec
import KE.KEndW
import KE.RegLGeC
import Wide.FinOn
import Lean
import PySem.Challenge.RW_il0182_01
set_option Elab.async false
set_option maxRecDepth 100000
set_option linter.all false
set_option compiler.extract_closed false
namespace Mine
open PySem PySem.W PySem.Calls PyProof.Rows
structure KxIn (P : Prop) : Prop where
  h : P
theorem kx_in {P : Prop} (h : P) : KxIn P = True := eq_true ⟨h⟩
theorem kx_out {P : Prop} (h : KxIn P) : P := h.h
theorem kx_tl {a : Addr × Obj} {l : List (Addr × Obj)} {d : Nat} (h : ∀ p ∈ a :: l, p.1 < d) : ∀ p ∈ l, p.1 < d := fun p hp => h p (.tail _ hp)
theorem kx_def {prog : Program} {w : World} {A A₀ : Around} {s : Shared} {base h₀ : Heap} {L : Addr} {m : Str → Option Value} {news : List (Addr × Obj)} {K : Frag} {p : Program} {loose : List Str} {mean : ExcName → Option Value} {mg mb : Str → Option Value}
    {env : Env} {outer : List Env} {R : Result → Shared → Prop} {name qual : Str} {params : Arguments} {body : List Stmt} {scope : Scope} {dV kV doc pm cdv ct oc : Value} {an od : Option Addr} {osl : Array (Option Value)} {f : Addr} {args : Args} {binds : List (Str × Value)}
    (hA : A.frames = some (env :: outer)) (hf : env.frame = some L) (hke : env.scope.kind = .function)
    (B : Below A₀ base outer h₀) (F : Fr h₀ L s.heap m) (X₀ : K.In h₀) (N : News h₀ L s.heap news) (T : Top p loose mean mg mb h₀)
    (ho : K.lookup f = some ⟨oc, od, .func (fnOf name qual params body scope dV kV doc pm an cdv ct), osl⟩) (hcd : codeIn K cdv qual = true) (hroom : A.depth < recursionLimit)
    (hbind : BindsTo s (fnOf name qual params body scope dV kV doc pm an cdv ct) args binds) (hcell : ∀ x ∈ scope.names, x.2 ≠ .cell) (hloc : ∀ y ∈ binds, scope.names.lookup y.1 = some .local)
    (hco : scope.isCoroutine = false) (hgen : scope.isGenerator = false) (hk : scope.kind = .function)
    (h : ∀ g L' h₁, Fr h₀ L g m → Fr g L' h₁ (fun y => binds.reverse.lookup y) → News g L' h₁ news → Below A base (env :: outer) g → K.In g → Top p loose mean mg mb g →
      wpAny (model prog w) (A.deeper (envOf qual scope L' f cdv)) (execs body (envOf qual scope L' f cdv))
        (fun fl s' => LeaveK h₀ L m g R (match fl with | .ret v => v | _ => .none) s')
        (fun e s' => wpAny (model prog w) (A.deeper (envOf qual scope L' f cdv)) (leaving (envOf qual scope L' f cdv) e) (fun _ s'' => R (.error e) s'') (fun e' s'' => R (.error e') s'') s')
        { s with heap := h₁, toks := s.toks + binds.length }) : codeAny (model prog w) A (.call (.ref f) args) R s :=
  code_def B F X₀ N T hA hf hke ho hcd hroom hbind hloc h hco hgen hk hcell
/- Each of these lines hands its work to a row of k_with, laid at the head of the theorem that walks: a row costs no compiled code. -/
local macro_rules | `(tactic| walk_at $s:str) => `(tactic| k_extra $s)
local macro_rules | `(tactic| k_room) => `(tactic| k_extra "ROOM")
local macro_rules | `(tactic| k_all) => `(tactic| k_extra "ALL")
local macro_rules | `(tactic| cell_enter) => `(tactic| k_extra "CELL")
local macro_rules | `(tactic| k_lt $h:ident) => `(tactic| (have $h := allLt_of $h; dsimp only [AllLt] at $h:ident))
local macro_rules | `(tactic| k_lt2 $h:ident) => `(tactic| (change @LT.lt Nat _ _ _ at $h:ident))
-- Pre
section
open PySem PySem.W PyProof.Rows
section
local macro_rules | `(tactic| o_head $_) => `(tactic| skip)
/-- k_head lays the written part of the heap (pre.heap_1) and fills the library's table of it; the head itself is left for 'main' -/
theorem pre : Challenge.rw_il0182_01.row.Holds → True := fun h => by
  have _ : Challenge.rw_il0182_01.row.Holds := by (k_head; exact h)
  trivial
end
noncomputable abbrev PG : Program := Challenge.rw_il0182_01.row.prog
noncomputable def keepL : List Nat := [0,1,3,4,5,6,7,8,9,10,12,13,14,15,16,17,19,22,23,24,29,30,31,32,33,34,35,36,37,38,40,41,42,43,44,45,46,47,48]
/-- the view that o_head takes: the statements of the text that bind what the head pins -/
noncomputable def PV : Program := { PG with main := { PG.main with body := keepL.filterMap fun i => PG.main.body[i]? } }
noncomputable def as0 : List Nat := (nat_lit 2) :: (nat_lit 3) :: (nat_lit 33) :: (nat_lit 35) :: (nat_lit 36) :: (nat_lit 38) :: (nat_lit 39) :: (nat_lit 40) :: (nat_lit 42) :: (nat_lit 43) :: (nat_lit 45) :: (nat_lit 46) :: (nat_lit 47) :: (nat_lit 49) :: (nat_lit 50) :: (nat_lit 52) :: (nat_lit 53) :: (nat_lit 54) :: (nat_lit 61) :: (nat_lit 62) :: (nat_lit 63) :: (nat_lit 64) :: (nat_lit 74) :: (nat_lit 76) :: (nat_lit 77) :: (nat_lit 79) :: (nat_lit 80) :: (nat_lit 81) :: (nat_lit 82) :: (nat_lit 83) :: (nat_lit 84) :: (nat_lit 85) :: (nat_lit 86) :: (nat_lit 89) :: (nat_lit 96) :: (nat_lit 97) :: (nat_lit 98) :: (nat_lit 101) :: (nat_lit 108) :: (nat_lit 109) :: (nat_lit 110) :: (nat_lit 113) :: (nat_lit 120) :: (nat_lit 121) :: (nat_lit 123) :: (nat_lit 124) :: (nat_lit 126) :: (nat_lit 127) :: (nat_lit 128) :: (nat_lit 130) :: (nat_lit 131) :: (nat_lit 133) :: (nat_lit 134) :: (nat_lit 135) :: (nat_lit 137) :: (nat_lit 138) :: (nat_lit 140) :: (nat_lit 141) :: (nat_lit 142) :: (nat_lit 144) :: (nat_lit 145) :: (nat_lit 147) :: (nat_lit 148) :: (nat_lit 149) :: (nat_lit 150) :: (nat_lit 152) :: (nat_lit 153) :: (nat_lit 155) :: (nat_lit 156) :: (nat_lit 157) :: (nat_lit 159) :: (nat_lit 160) :: (nat_lit 162) :: (nat_lit 163) :: (nat_lit 164) :: (nat_lit 166) :: (nat_lit 167) :: (nat_lit 169) :: (nat_lit 170) :: (nat_lit 171) :: (nat_lit 173) :: (nat_lit 174) :: (nat_lit 176) :: (nat_lit 177) :: (nat_lit 178) :: (nat_lit 180) :: (nat_lit 181) :: (nat_lit 183) :: (nat_lit 184) :: (nat_lit 185) :: (nat_lit 187) :: (nat_lit 188) :: (nat_lit 190) :: (nat_lit 191) :: (nat_lit 192) :: (nat_lit 194) :: (nat_lit 195) :: (nat_lit 197) :: (nat_lit 198) :: (nat_lit 199) :: (nat_lit 201) :: (nat_lit 202) :: (nat_lit 204) :: (nat_lit 205) :: (nat_lit 206) :: (nat_lit 208) :: (nat_lit 209) :: (nat_lit 211) :: (nat_lit 212) :: (nat_lit 213) :: (nat_lit 215) :: (nat_lit 216) :: (nat_lit 218) :: (nat_lit 219) :: (nat_lit 220) :: (nat_lit 222) :: (nat_lit 223) :: (nat_lit 225) :: (nat_lit 226) :: (nat_lit 227) :: (nat_lit 229) :: (nat_lit 230) :: (nat_lit 232) :: (nat_lit 233) :: (nat_lit 234) :: (nat_lit 236) :: (nat_lit 237) :: (nat_lit 239) :: (nat_lit 240) :: (nat_lit 241) :: (nat_lit 242) :: (nat_lit 244) :: (nat_lit 245) :: (nat_lit 247) :: (nat_lit 248) :: (nat_lit 249) :: (nat_lit 250) :: (nat_lit 252) :: (nat_lit 253) :: (nat_lit 255) :: (nat_lit 256) :: (nat_lit 257) :: (nat_lit 258) :: (nat_lit 260) :: (nat_lit 261) :: (nat_lit 263) :: (nat_lit 264) :: (nat_lit 265) :: (nat_lit 266) :: (nat_lit 268) :: (nat_lit 269) :: (nat_lit 271) :: (nat_lit 272) :: (nat_lit 273) :: (nat_lit 275) :: (nat_lit 276) :: (nat_lit 278) :: (nat_lit 279) :: (nat_lit 280) :: (nat_lit 282) :: (nat_lit 283) :: (nat_lit 285) :: (nat_lit 286) :: (nat_lit 287) :: (nat_lit 288) :: (nat_lit 290) :: (nat_lit 291) :: (nat_lit 293) :: (nat_lit 294) :: (nat_lit 295) :: (nat_lit 296) :: (nat_lit 298) :: (nat_lit 299) :: (nat_lit 301) :: (nat_lit 302) :: (nat_lit 303) :: (nat_lit 305) :: (nat_lit 306) :: (nat_lit 308) :: (nat_lit 309) :: (nat_lit 310) :: (nat_lit 312) :: (nat_lit 313) :: (nat_lit 315) :: (nat_lit 316) :: (nat_lit 317) :: (nat_lit 319) :: (nat_lit 320) :: (nat_lit 322) :: (nat_lit 323) :: (nat_lit 324) :: (nat_lit 326) :: (nat_lit 327) :: (nat_lit 329) :: (nat_lit 330) :: (nat_lit 331) :: (nat_lit 333) :: (nat_lit 334) :: (nat_lit 336) :: (nat_lit 337) :: (nat_lit 338) :: (nat_lit 339) :: (nat_lit 340) :: (nat_lit 343) :: (nat_lit 350) :: (nat_lit 351) :: (nat_lit 353) :: (nat_lit 354) :: (nat_lit 356) :: (nat_lit 357) :: (nat_lit 358) :: (nat_lit 360) :: (nat_lit 361) :: (nat_lit 363) :: (nat_lit 364) :: (nat_lit 365) :: (nat_lit 367) :: (nat_lit 368) :: (nat_lit 370) :: (nat_lit 371) :: (nat_lit 372) :: (nat_lit 374) :: (nat_lit 375) :: (nat_lit 377) :: (nat_lit 378) :: (nat_lit 379) :: (nat_lit 381) :: (nat_lit 382) :: (nat_lit 384) :: (nat_lit 385) :: (nat_lit 386) :: (nat_lit 388) :: (nat_lit 389) :: (nat_lit 391) :: (nat_lit 392) :: (nat_lit 393) :: (nat_lit 394) :: (nat_lit 396) :: (nat_lit 397) :: (nat_lit 399) :: (nat_lit 400) :: (nat_lit 401) :: (nat_lit 402) :: (nat_lit 404) :: (nat_lit 405) :: (nat_lit 407) :: (nat_lit 408) :: (nat_lit 409) :: (nat_lit 410) :: (nat_lit 412) :: (nat_lit 413) :: (nat_lit 415) :: (nat_lit 416) :: (nat_lit 417) :: (nat_lit 418) :: (nat_lit 420) :: (nat_lit 421) :: (nat_lit 423) :: (nat_lit 424) :: (nat_lit 425) :: (nat_lit 426) :: (nat_lit 428) :: (nat_lit 429) :: (nat_lit 431) :: (nat_lit 432) :: (nat_lit 433) :: (nat_lit 435) :: (nat_lit 436) :: (nat_lit 438) :: (nat_lit 439) :: (nat_lit 440) :: (nat_lit 442) :: (nat_lit 443) :: (nat_lit 445) :: (nat_lit 446) :: (nat_lit 447) :: (nat_lit 449) :: (nat_lit 450) :: (nat_lit 452) :: (nat_lit 453) :: (nat_lit 454) :: (nat_lit 456) :: (nat_lit 457) :: (nat_lit 459) :: (nat_lit 460) :: (nat_lit 461) :: (nat_lit 463) :: (nat_lit 464) :: (nat_lit 466) :: (nat_lit 467) :: (nat_lit 468) :: (nat_lit 470) :: (nat_lit 471) :: (nat_lit 473) :: (nat_lit 474) :: (nat_lit 475) :: (nat_lit 477) :: (nat_lit 478) :: (nat_lit 480) :: (nat_lit 481) :: (nat_lit 482) :: (nat_lit 484) :: (nat_lit 485) :: (nat_lit 487) :: (nat_lit 488) :: (nat_lit 489) :: (nat_lit 491) :: (nat_lit 492) :: (nat_lit 494) :: (nat_lit 495) :: (nat_lit 496) :: (nat_lit 498) :: (nat_lit 499) :: (nat_lit 501) :: (nat_lit 502) :: (nat_lit 503) :: (nat_lit 505) :: (nat_lit 506) :: (nat_lit 508) :: (nat_lit 509) :: (nat_lit 510) :: (nat_lit 511) :: (nat_lit 513) :: (nat_lit 514) :: (nat_lit 516) :: (nat_lit 517) :: (nat_lit 518) :: (nat_lit 519) :: (nat_lit 521) :: (nat_lit 522) :: (nat_lit 524) :: (nat_lit 525) :: (nat_lit 526) :: (nat_lit 527) :: (nat_lit 529) :: (nat_lit 530) :: (nat_lit 532) :: (nat_lit 533) :: (nat_lit 534) :: (nat_lit 535) :: (nat_lit 537) :: (nat_lit 538) :: (nat_lit 540) :: (nat_lit 541) :: (nat_lit 542) :: (nat_lit 543) :: (nat_lit 545) :: (nat_lit 546) :: (nat_lit 548) :: (nat_lit 549) :: (nat_lit 550) :: (nat_lit 552) :: (nat_lit 553) :: (nat_lit 555) :: (nat_lit 556) :: (nat_lit 557) :: (nat_lit 559) :: (nat_lit 560) :: (nat_lit 562) :: (nat_lit 563) :: (nat_lit 564) :: (nat_lit 566) :: (nat_lit 567) :: (nat_lit 569) :: (nat_lit 570) :: (nat_lit 571) :: (nat_lit 573) :: (nat_lit 574) :: (nat_lit 576) :: (nat_lit 577) :: (nat_lit 578) :: (nat_lit 580) :: (nat_lit 581) :: (nat_lit 583) :: (nat_lit 584) :: (nat_lit 585) :: (nat_lit 586) :: (nat_lit 587) :: (nat_lit 590) :: (nat_lit 592) :: (nat_lit 593) :: (nat_lit 595) :: (nat_lit 596) :: (nat_lit 597) :: (nat_lit 599) :: (nat_lit 600) :: (nat_lit 602) :: (nat_lit 603) :: (nat_lit 604) :: (nat_lit 606) :: (nat_lit 607) :: (nat_lit 609) :: (nat_lit 610) :: (nat_lit 611) :: (nat_lit 613) :: (nat_lit 614) :: (nat_lit 616) :: (nat_lit 617) :: (nat_lit 618) :: (nat_lit 620) :: (nat_lit 621) :: (nat_lit 623) :: (nat_lit 624) :: (nat_lit 625) :: (nat_lit 627) :: (nat_lit 628) :: (nat_lit 630) :: (nat_lit 631) :: (nat_lit 639) :: (nat_lit 640) :: (nat_lit 642) :: (nat_lit 643) :: (nat_lit 645) :: (nat_lit 646) :: (nat_lit 647) :: (nat_lit 649) :: (nat_lit 650) :: (nat_lit 652) :: (nat_lit 653) :: (nat_lit 654) :: (nat_lit 655) :: (nat_lit 657) :: (nat_lit 658) :: (nat_lit 660) :: (nat_lit 661) :: (nat_lit 662) :: (nat_lit 663) :: (nat_lit 665) :: (nat_lit 666) :: (nat_lit 668) :: (nat_lit 669) :: (nat_lit 670) :: (nat_lit 672) :: (nat_lit 673) :: (nat_lit 675) :: (nat_lit 676) :: (nat_lit 677) :: (nat_lit 679) :: (nat_lit 680) :: (nat_lit 682) :: (nat_lit 683) :: (nat_lit 684) :: (nat_lit 686) :: (nat_lit 687) :: (nat_lit 689) :: (nat_lit 690) :: (nat_lit 691) :: (nat_lit 693) :: (nat_lit 694) :: (nat_lit 696) :: (nat_lit 697) :: (nat_lit 698) :: (nat_lit 699) :: (nat_lit 701) :: (nat_lit 702) :: (nat_lit 704) :: (nat_lit 705) :: (nat_lit 706) :: (nat_lit 708) :: (nat_lit 709) :: (nat_lit 711) :: (nat_lit 712) :: (nat_lit 713) :: (nat_lit 715) :: (nat_lit 716) :: (nat_lit 718) :: (nat_lit 719) :: (nat_lit 720) :: (nat_lit 721) :: (nat_lit 722) :: (nat_lit 723) :: (nat_lit 724) :: (nat_lit 727) :: (nat_lit 728) :: (nat_lit 730) :: (nat_lit 731) :: (nat_lit 733) :: (nat_lit 734) :: (nat_lit 735) :: (nat_lit 737) :: (nat_lit 738) :: (nat_lit 740) :: (nat_lit 741) :: (nat_lit 742) :: (nat_lit 744) :: (nat_lit 745) :: (nat_lit 747) :: (nat_lit 748) :: (nat_lit 749) :: (nat_lit 750) :: (nat_lit 752) :: (nat_lit 753) :: (nat_lit 755) :: (nat_lit 756) :: (nat_lit 757) :: (nat_lit 758) :: (nat_lit 760) :: (nat_lit 761) :: (nat_lit 763) :: (nat_lit 764) :: (nat_lit 765) :: (nat_lit 767) :: (nat_lit 768) :: (nat_lit 770) :: (nat_lit 771) :: (nat_lit 772) :: (nat_lit 774) :: (nat_lit 775) :: (nat_lit 777) :: (nat_lit 778) :: (nat_lit 779) :: (nat_lit 781) :: (nat_lit 782) :: (nat_lit 784) :: (nat_lit 785) :: (nat_lit 786) :: (nat_lit 788) :: (nat_lit 789) :: (nat_lit 791) :: (nat_lit 792) :: (nat_lit 793) :: (nat_lit 795) :: (nat_lit 796) :: (nat_lit 798) :: (nat_lit 799) :: (nat_lit 800) :: (nat_lit 802) :: (nat_lit 803) :: (nat_lit 805) :: (nat_lit 806) :: (nat_lit 807) :: (nat_lit 809) :: (nat_lit 810) :: (nat_lit 812) :: (nat_lit 813) :: (nat_lit 814) :: (nat_lit 816) :: (nat_lit 817) :: (nat_lit 819) :: (nat_lit 820) :: (nat_lit 821) :: (nat_lit 823) :: (nat_lit 824) :: (nat_lit 826) :: (nat_lit 827) :: (nat_lit 828) :: (nat_lit 830) :: (nat_lit 831) :: (nat_lit 833) :: (nat_lit 834) :: (nat_lit 835) :: (nat_lit 837) :: (nat_lit 838) :: (nat_lit 840) :: (nat_lit 841) :: (nat_lit 842) :: (nat_lit 845) :: (nat_lit 846) :: (nat_lit 847) :: (nat_lit 849) :: (nat_lit 850) :: (nat_lit 852) :: (nat_lit 853) :: (nat_lit 854) :: (nat_lit 856) :: (nat_lit 857) :: (nat_lit 859) :: (nat_lit 860) :: (nat_lit 861) :: (nat_lit 863) :: (nat_lit 864) :: (nat_lit 866) :: (nat_lit 867) :: (nat_lit 868) :: (nat_lit 870) :: (nat_lit 871) :: (nat_lit 873) :: (nat_lit 874) :: (nat_lit 875) :: (nat_lit 878) :: (nat_lit 879) :: (nat_lit 880) :: (nat_lit 883) :: (nat_lit 884) :: (nat_lit 885) :: (nat_lit 888) :: (nat_lit 889) :: []
end
-- Base
section
open PySem PySem.W PyProof.Rows
noncomputable abbrev LS : List Str := looseW Mine.PV
    [Str.ofString "UnsupportedOperation", Str.ofString "IOBase", Str.ofString "BufferedIOBase",
      Str.ofString "TextIOBase", Str.ofString "BytesIO", Str.ofString "StringIO", Str.ofString "shlex",
      Str.ofString "split", Str.ofString "b2a_base64", Str.ofString "b64encode"]
/-- what a call of the def at f with vs does, wherever it is called -/
noncomputable abbrev CT (w : World) (mean : ExcName → Option Value) (mg mb : Str → Option Value) (D U : Nat) (f : Addr) (vs : List Value) (news : List (Addr × Obj)) (ret : Heap → Addr → (Str → Option Value) → Shared → (Value → Shared → Prop) → Prop) : Prop :=
  ∀ (gd : Option (List Code)) (cn : Str) (cs : Scope) (a : Addr) (ccd : Value) (cl : List (Str × Addr)) (outer : List Env) (A₀ : Around) (base h₀ : Heap) (L : Addr) (m : Str → Option Value) (s : Shared) (Q E : Value → Shared → Prop),
    Below A₀ base outer h₀ → Fr h₀ L s.heap m → (Mine.pre.heap_1 w.params).In h₀ → News h₀ L s.heap news → Top Mine.PV LS mean mg mb h₀ → cs.kind = .function → ret h₀ L m s Q →
      wpAny (model PG w) (ktrTop D U gd cn cs L a ccd cl outer) (call (.ref f) vs) Q E s
/-- the StringIO's dict -/
noncomputable abbrev sioD (w : World) (k1 k2 k3 : Tok) (v1 v2 v3 : Value) : Obj := dictOf
  [⟨PyData.keyHash w.params (Str.ofString "_StringIO__newline"), .str (Str.ofString "_StringIO__newline") k1, v1⟩,
   ⟨PyData.keyHash w.params (Str.ofString "_StringIO__buf"), .str (Str.ofString "_StringIO__buf") k2, v2⟩,
   ⟨PyData.keyHash w.params (Str.ofString "_StringIO__pos"), .str (Str.ofString "_StringIO__pos") k3, v3⟩] 3
theorem news_drop34 {h₀ h : Heap} {L : Addr} {a b c d : Addr × Obj} {news : List (Addr × Obj)} (N : News h₀ L h (a :: b :: c :: d :: news)) : News h₀ L h (a :: b :: news) := fun p hp => N p (by
  rcases List.mem_cons.mp hp with rfl | hp
  · exact .head _
  · rcases List.mem_cons.mp hp with rfl | hp
    · exact .tail _ (.head _)
    · exact .tail _ (.tail _ (.tail _ (.tail _ hp))))
theorem news_of {h₀ h : Heap} {L : Addr} {news news' : List (Addr × Obj)} (N : News h₀ L h news') (hs : ∀ p ∈ news, p ∈ news') : News h₀ L h news := fun p hp => N p (hs p hp)
/-- the shlex's dict -/
noncomputable abbrev lexD (w : World) (κ τ : Nat → Tok) (sx pb fs : Addr) (state token : Value) : Obj := dictOf
  [⟨PyData.keyHash w.params (Str.ofString "instream"), .str (Str.ofString "instream") (κ 0), .ref sx⟩,
   ⟨PyData.keyHash w.params (Str.ofString "infile"), .str (Str.ofString "infile") (κ 1), .none⟩,
   ⟨PyData.keyHash w.params (Str.ofString "posix"), .str (Str.ofString "posix") (κ 2), .bool true⟩,
   ⟨PyData.keyHash w.params (Str.ofString "eof"), .str (Str.ofString "eof") (κ 3), .none⟩,
   ⟨PyData.keyHash w.params (Str.ofString "commenters"), .str (Str.ofString "commenters") (κ 4), .str (Str.ofString "") (τ 4)⟩,
   ⟨PyData.keyHash w.params (Str.ofString "wordchars"), .str (Str.ofString "wordchars") (κ 5), .str (Str.ofString "abcdfeghijklmnopqrstuvwxyzABCDEFGHIJKLMNOPQRSTUVWXYZ0123456789_ßàáâãäåæçèéêëìíîïðñòóôõöøùúûüýþÿÀÁÂÃÄÅÆÇÈÉÊËÌÍÎÏÐÑÒÓÔÕÖØÙÚÛÜÝÞ") (τ 5)⟩,
   ⟨PyData.keyHash w.params (Str.ofString "whitespace"), .str (Str.ofString "whitespace") (κ 6), .str (Str.ofString " \t\x0d\n") (τ 6)⟩,
   ⟨PyData.keyHash w.params (Str.ofString "whitespace_split"), .str (Str.ofString "whitespace_split") (κ 7), .bool true⟩,
   ⟨PyData.keyHash w.params (Str.ofString "quotes"), .str (Str.ofString "quotes") (κ 8), .str (Str.ofString "'\"") (τ 8)⟩,
   ⟨PyData.keyHash w.params (Str.ofString "escape"), .str (Str.ofString "escape") (κ 9), .str (Str.ofString "\\") (τ 9)⟩,
   ⟨PyData.keyHash w.params (Str.ofString "escapedquotes"), .str (Str.ofString "escapedquotes") (κ 10), .str (Str.ofString "\"") (τ 10)⟩,
   ⟨PyData.keyHash w.params (Str.ofString "state"), .str (Str.ofString "state") (κ 11), state⟩,
   ⟨PyData.keyHash w.params (Str.ofString "pushback"), .str (Str.ofString "pushback") (κ 12), .ref pb⟩,
   ⟨PyData.keyHash w.params (Str.ofString "lineno"), .str (Str.ofString "lineno") (κ 13), .int 1 (τ 13)⟩,
   ⟨PyData.keyHash w.params (Str.ofString "debug"), .str (Str.ofString "debug") (κ 14), .int 0 (τ 14)⟩,
   ⟨PyData.keyHash w.params (Str.ofString "token"), .str (Str.ofString "token") (κ 15), token⟩,
   ⟨PyData.keyHash w.params (Str.ofString "filestack"), .str (Str.ofString "filestack") (κ 16), .ref fs⟩,
   ⟨PyData.keyHash w.params (Str.ofString "source"), .str (Str.ofString "source") (κ 17), .none⟩,
   ⟨PyData.keyHash w.params (Str.ofString "_punctuation_chars"), .str (Str.ofString "_punctuation_chars") (κ 18), .str (Str.ofString "") (τ 18)⟩] 19
noncomputable abbrev dqObj : Obj := { cls := .type "collections.deque", dict := none, data := .fields #[.none, .int 0 0], slots := #[] }
/-- the ledger while the lexer works -/
noncomputable abbrev LEDS (w : World) (fs pb sx sd lx ld : Addr) (k1 k2 k3 u1 : Tok) (X : Str) (tx : Tok) (pos : Value) (κ τ : Nat → Tok) (state token : Value) (news : List (Addr × Obj)) : List (Addr × Obj) :=
  (fs, dqObj) :: (pb, dqObj) :: (sx, instObj 587 sd) :: (sd, sioD w k1 k2 k3 (.str (Str.ofString "\n") u1) (.str X tx) pos) :: (lx, instObj 722 ld) :: (ld, lexD w κ τ sx pb fs state token) :: news
noncomputable abbrev Ord (fs pb sx sd lx ld : Addr) (news : List (Addr × Obj)) : Prop := (@LT.lt Nat _ ld lx ∧ @LT.lt Nat _ lx sd ∧ @LT.lt Nat _ sd sx ∧ @LT.lt Nat _ sx pb ∧ @LT.lt Nat _ pb fs) ∧ (∀ p ∈ news, p.1 ≠ sd) ∧ (∀ p ∈ news, p.1 ≠ ld)
noncomputable def Halt (P : Prop) : Prop := P
theorem halt {P : Prop} (h : Halt P) : P := h
theorem unhalt {P : Prop} (h : P) : Halt P := h
theorem whl_ind {prog : Program} {w : World} {A : Around} {E : Value → Shared → Prop} {env : Env} {test : PySem.Expr} {body orelse : List Stmt} {Q : Flow → Shared → Prop} {σ : Type} (Inv : σ → Shared → Prop) (meas : σ → Nat)
    (step : ∀ c s k, Inv c s → (∀ c' s' k', meas c' < meas c → Inv c' s' → WhlRest prog w A E env test body orelse Q k' s') → WhlRest prog w A E env test body orelse Q k s) :
    ∀ c s k, Inv c s → WhlRest prog w A E env test body orelse Q k s := by
  have all : ∀ n c, meas c < n → ∀ s k, Inv c s → WhlRest prog w A E env test body orelse Q k s := by
    intro n
    induction n with
    | zero => intro c h; exact absurd h (Nat.not_lt_zero _)
    | succ n ih => exact fun c h s k hi => step c s k hi fun c' s' k' hm hi' => ih c' (Nat.lt_of_lt_of_le hm (Nat.le_of_lt_succ h)) s' k' hi'
  exact fun c s k hi => all _ c (Nat.lt_succ_self _) s k hi
structure Mark1 : Prop
structure Mark2 : Prop
/-- the same for one step of an iterator -/
noncomputable abbrev CTN (w : World) (mean : ExcName → Option Value) (mg mb : Str → Option Value) (D U : Nat) (x : Addr) (news : List (Addr × Obj)) (ret : Heap → Addr → (Str → Option Value) → Shared → (Option Value → Shared → Prop) → Prop) : Prop :=
  ∀ (gd : Option (List Code)) (cn : Str) (cs : Scope) (a : Addr) (ccd : Value) (cl : List (Str × Addr)) (outer : List Env) (A₀ : Around) (base h₀ : Heap) (L : Addr) (m : Str → Option Value) (s : Shared) (Q : Option Value → Shared → Prop) (E : Value → Shared → Prop),
    Below A₀ base outer h₀ → Fr h₀ L s.heap m → (Mine.pre.heap_1 w.params).In h₀ → News h₀ L s.heap news → Top Mine.PV LS mean mg mb h₀ → cs.kind = .function → ret h₀ L m s Q →
      wpAny (model PG w) (ktrTop D U gd cn cs L a ccd cl outer) (pyNext (.ref x)) Q E s
/-- the state brought to its plain form (the heap the frame speaks of, the rest the start's own) and its counter made a letter -/
theorem nst {α : Type} {M : Model} {A : Around} {E : Value → Shared → Prop} {t : Sem α} {Q : α → Shared → Prop} {s x : Shared} {h base : Heap} {L : Addr} {m : Str → Option Value} {T : Nat}
    (_F : Fr base L h m) (e : x = ⟨h, s.gens, s.drawn, T, s.os⟩) (k : ∀ tk, wpAny M A t Q E ⟨h, s.gens, s.drawn, tk, s.os⟩) : wpAny M A t Q E x := by
  subst e
  exact k T
end
-- T1
section
open PySem PySem.W PySem.Calls PyProof.Rows
noncomputable def at1 (X : Str) (p : Int) : Str := ⟨#[X.cps.getD p.toNat 0]⟩
noncomputable def rdStr (X : Str) (p : Int) : Str := if p < X.length then at1 X p else Str.ofString ""
noncomputable def rdPos (X : Str) (p : Int) : Int := if p < X.length then p + 1 else p
theorem str_space : Str.ofString " " = ⟨#[32]⟩ := by decide +kernel
theorem slice_one {X : Str} {p q : Int} (h0 : 0 ≤ p) (h1 : p < X.length) (hq : q = p + 1) : Txt.slice (Txt.slice X (some p) (some q) ++ Str.ofString " ") none (some (-1)) = at1 X p := by
  subst hq
  have hl : X.length = X.cps.toList.length := by simp [Str.length]
  have e1 : Txt.slice X (some p) (some (p + 1)) = ⟨#[X.cps.getD p.toNat 0]⟩ := by
    show StrLaws.sliceText X (some p) (some (p + 1)) = _
    rw [StrLaws.sliceText_plain ⟨h0, by omega, by omega⟩]
    have e : (p + 1 - p).toNat = 1 := by omega
    rw [e]
    have hlt : p.toNat < X.cps.toList.length := by omega
    rw [List.drop_eq_getElem_cons hlt]
    have hlt2 : p.toNat < X.cps.size := by simpa using hlt
    simp [hlt2]
  rw [e1, str_space]
  have e2 : (⟨#[X.cps.getD p.toNat 0]⟩ ++ ⟨#[32]⟩ : Str) = ⟨#[X.cps.getD p.toNat 0, 32]⟩ := by
    apply Str.ext'
    rw [Str.cps_append]
    rfl
  rw [e2]
  show StrLaws.sliceText _ none (some (-1)) = _
  rw [StrLaws.sliceText_to_neg (by decide) (by simp [Str.length])]
  simp [Str.length, at1]
theorem rdStr_in {X : Str} {p q : Int} (h0 : 0 ≤ p) (h1 : p < X.length) (hq : q = p + 1) : Txt.slice (Txt.slice X (some p) (some q) ++ Str.ofString " ") none (some (-1)) = rdStr X p := by
  unfold rdStr; rw [if_pos h1]; exact slice_one h0 h1 hq
theorem rdPos_in {X : Str} {p q : Int} (h1 : p < X.length) (hq : q = p + 1) : q = rdPos X p := by unfold rdPos; rw [if_pos h1]; exact hq
theorem rdStr_out {X : Str} {p : Int} (h1 : ¬ p < X.length) : Str.ofString "" = rdStr X p := by unfold rdStr; rw [if_neg h1]
theorem rdPos_out {X : Str} {p : Int} (h1 : ¬ p < X.length) : p = rdPos X p := by unfold rdPos; rw [if_neg h1]
end
-- T2
section
open PySem PySem.W PySem.Calls PyProof.Rows
/-- the lexer's places -/
inductive LS' where | sp | wd | sq | dq | esw | esd
noncomputable def isL (c : Nat) : Bool := (48 ≤ c && c ≤ 57) || (65 ≤ c && c ≤ 90) || (97 ≤ c && c ≤ 122)
noncomputable def lexRun : LS' → List Nat → List Nat → Option (List Nat)
  | .wd, acc, [] => some acc
  | _, _, [] => none
  | .sp, _, c :: r => if isL c then lexRun .wd [c] r else none
  | .wd, acc, c :: r => if isL c then lexRun .wd (acc ++ [c]) r else if c = 39 then lexRun .sq acc r else if c = 34 then lexRun .dq acc r else if c = 92 then lexRun .esw acc r else none
  | .sq, acc, c :: r => if c = 39 then lexRun .wd acc r else if isL c || c = 34 || c = 92 then lexRun .sq (acc ++ [c]) r else none
  | .dq, acc, c :: r => if c = 34 then lexRun .wd acc r else if c = 92 then lexRun .esd acc r else if isL c || c = 39 then lexRun .dq (acc ++ [c]) r else none
  | .esw, acc, c :: r => if c = 39 then lexRun .wd (acc ++ [39]) r else none
  | .esd, acc, c :: r => if c = 39 then lexRun .dq (acc ++ [92, 39]) r else none
noncomputable def LS'.str : LS' → Str
  | .sp => Str.ofString " " | .wd => Str.ofString "a" | .sq => Str.ofString "'" | .dq => Str.ofString "\"" | .esw => Str.ofString "\\" | .esd => Str.ofString "\\"
/-- what is said of the local escapedstate -/
noncomputable def LS'.esc : LS' → Str → Prop
  | .esw, e => e = Str.ofString "a" | .esd, e => e = Str.ofString "\"" | _, _ => True
structure LC where
  st : LS'
  acc : List Nat
  p : Int
  q : Bool
noncomputable def rest (X : Str) (p : Int) : List Nat := X.cps.toList.drop p.toNat
theorem rest_in {X : Str} {p : Int} (h0 : 0 ≤ p) (h1 : p < X.length) : ∃ c, rest X p = c :: rest X (p + 1) ∧ rdStr X p = ⟨#[c]⟩ := by
  have hlt : p.toNat < X.cps.toList.length := by simp [Str.length] at h1 ⊢; omega
  have hlt2 : p.toNat < X.cps.size := by simpa using hlt
  refine ⟨X.cps.toList[p.toNat], ?_, ?_⟩
  · unfold rest
    rw [List.drop_eq_getElem_cons hlt]
    have : (p + 1).toNat = p.toNat + 1 := by omega
    rw [this]
  · unfold rdStr; rw [if_pos h1]; unfold at1; simp [hlt2]
theorem rest_out {X : Str} {p : Int} (h1 : ¬ p < X.length) : rest X p = [] := by
  unfold rest
  apply List.drop_eq_nil_of_le
  simp [Str.length] at h1 ⊢; omega
theorem rdPos_eq {X : Str} {p : Int} (h1 : p < X.length) : rdPos X p = p + 1 := by unfold rdPos; rw [if_pos h1]
theorem rdPos_end {X : Str} {p : Int} (h1 : ¬ p < X.length) : rdPos X p = p := by unfold rdPos; rw [if_neg h1]
theorem rdStr_end {X : Str} {p : Int} (h1 : ¬ p < X.length) : rdStr X p = Str.ofString "" := by unfold rdStr; rw [if_neg h1]
theorem ite_no {c : Bool} {T F : Prop} (h : c = false) (f : F) : if c = true then T else F := by rw [h, if_neg Bool.false_ne_true]; exact f
theorem ite_yes {c : Bool} {T F : Prop} (h : c = true) (f : T) : if c = true then T else F := by rw [if_pos h]; exact f
theorem bnot_t {c : Bool} (h : c = true) : (!c) = false := by rw [h]; rfl
theorem bnot_f {c : Bool} (h : c = false) : (!c) = true := by rw [h]; rfl
theorem truthy_one {prog : Program} {w : World} {A : Around} {E : Value → Shared → Prop} {s : Shared} {y : Str} {t : Tok} {Q : Bool → Shared → Prop} (h1 : y.length = 1) (q : ∀ k, Q true { s with toks := k }) : wpAny (model prog w) A (truthy (.str y t)) Q E s := by
  refine P.truthy_str (by rw [h1]; decide) ?_
  have : ((y.length : Int) != 0) = true := by rw [h1]; decide
  rw [this]
  exact q _
noncomputable abbrev occ (X y : Str) : Bool := (Builtin.Str.occurrences X y 0 X.length 1).isEmpty
theorem occ_one (x : Str) (c : Nat) : occ x (Str.mk #[c]) = !decide (c ∈ x.cps.toList) := by
  rw [← StrLaws.found_one, Bool.not_not]
theorem L_mem : ∀ c : Fin 128, isL c.val = true → ((Str.mk #[c.val] == Str.ofString "\n") = false ∧ decide (c.val ∈ (Str.ofString " \t\x0d\n").cps.toList) = false ∧ decide (c.val ∈ (Str.ofString "").cps.toList) = false ∧ decide (c.val ∈ (Str.ofString "\\").cps.toList) = false ∧
    decide (c.val ∈ (Str.ofString "abcdfeghijklmnopqrstuvwxyzABCDEFGHIJKLMNOPQRSTUVWXYZ0123456789_ßàáâãäåæçèéêëìíîïðñòóôõöøùúûüýþÿÀÁÂÃÄÅÆÇÈÉÊËÌÍÎÏÐÑÒÓÔÕÖØÙÚÛÜÝÞ").cps.toList) = true ∧
    decide (c.val ∈ (Str.ofString "'\"").cps.toList) = false ∧ (Str.mk #[c.val] == Str.ofString "'") = false ∧ (Str.mk #[c.val] == Str.ofString "\"") = false) := by decide +kernel
theorem L_all : ∀ c : Fin 128, isL c.val = true → ((Str.mk #[c.val] == Str.ofString "\n") = false ∧ occ (Str.ofString " \t\x0d\n") (Str.mk #[c.val]) = true ∧ occ (Str.ofString "") (Str.mk #[c.val]) = true ∧ occ (Str.ofString "\\") (Str.mk #[c.val]) = true ∧
    occ (Str.ofString "abcdfeghijklmnopqrstuvwxyzABCDEFGHIJKLMNOPQRSTUVWXYZ0123456789_ßàáâãäåæçèéêëìíîïðñòóôõöøùúûüýþÿÀÁÂÃÄÅÆÇÈÉÊËÌÍÎÏÐÑÒÓÔÕÖØÙÚÛÜÝÞ") (Str.mk #[c.val]) = false ∧
    occ (Str.ofString "'\"") (Str.mk #[c.val]) = true ∧ (Str.mk #[c.val] == Str.ofString "'") = false ∧ (Str.mk #[c.val] == Str.ofString "\"") = false) := by
  intro c h
  obtain ⟨h1, h2, h3, h4, h5, h6, h7, h8⟩ := L_mem c h
  refine ⟨h1, ?_, ?_, ?_, ?_, ?_, h7, h8⟩
  · rw [occ_one, h2]; rfl
  · rw [occ_one, h3]; rfl
  · rw [occ_one, h4]; rfl
  · rw [occ_one, h5]; rfl
  · rw [occ_one, h6]; rfl
theorem L_facts {c : Nat} (h : isL c = true) : ((Str.mk #[c] == Str.ofString "\n") = false ∧ occ (Str.ofString " \t\x0d\n") (Str.mk #[c]) = true ∧ occ (Str.ofString "") (Str.mk #[c]) = true ∧ occ (Str.ofString "\\") (Str.mk #[c]) = true ∧
    occ (Str.ofString "abcdfeghijklmnopqrstuvwxyzABCDEFGHIJKLMNOPQRSTUVWXYZ0123456789_ßàáâãäåæçèéêëìíîïðñòóôõöøùúûüýþÿÀÁÂÃÄÅÆÇÈÉÊËÌÍÎÏÐÑÒÓÔÕÖØÙÚÛÜÝÞ") (Str.mk #[c]) = false ∧
    occ (Str.ofString "'\"") (Str.mk #[c]) = true ∧ (Str.mk #[c] == Str.ofString "'") = false ∧ (Str.mk #[c] == Str.ofString "\"") = false) := by
  have hc : c < 128 := by
    unfold isL at h
    simp only [Bool.or_eq_true, Bool.and_eq_true, decide_eq_true_eq] at h
    omega
  exact L_all ⟨c, hc⟩ h
theorem str_sq : Str.ofString "'" = ⟨#[39]⟩ := by decide +kernel
theorem str_dq : Str.ofString "\"" = ⟨#[34]⟩ := by decide +kernel
theorem str_bs : Str.ofString "\\" = ⟨#[92]⟩ := by decide +kernel
theorem str_nl : Str.ofString "\n" = ⟨#[10]⟩ := by decide +kernel
theorem str_e : Str.ofString "" = ⟨#[]⟩ := by decide +kernel
section
variable {X : Str} {p : Int} {acc W : List Nat} {st : LS'}
theorem run_in (p0 : 0 ≤ p) (hr : lexRun st acc (rest X p) = some W) (h : p < X.length) : ∃ c, rdStr X p = ⟨#[c]⟩ ∧ lexRun st acc (c :: rest X (p + 1)) = some W := by
  obtain ⟨c, e1, e2⟩ := rest_in p0 h
  exact ⟨c, e2, e1 ▸ hr⟩
theorem run_end (hr : lexRun st acc (rest X p) = some W) (h : ¬ p < X.length) : st = .wd ∧ acc = W := by
  rw [rest_out h] at hr
  cases st <;> simp [lexRun] at hr
  exact ⟨rfl, hr⟩
theorem cls_nl (p0 : 0 ≤ p) (hr : lexRun st acc (rest X p) = some W) : (rdStr X p == Str.ofString "\n") = false := by
  by_cases h : p < X.length
  · obtain ⟨c, e, hr⟩ := run_in p0 hr h
    rw [e, str_nl]
    have hc : c ≠ 10 := by
      rintro rfl
      cases st <;> simp [lexRun, isL] at hr
    simpa using hc
  · rw [rdStr_end h, str_e, str_nl]; decide
theorem cls_sp (p0 : 0 ≤ p) (hr : lexRun .sp acc (rest X p) = some W) : p < X.length ∧ rdPos X p = p + 1 ∧ ∃ c, rdStr X p = ⟨#[c]⟩ ∧ isL c = true ∧ lexRun .wd [c] (rest X (p + 1)) = some W := by
  by_cases h : p < X.length
  · obtain ⟨c, e, hr⟩ := run_in p0 hr h
    refine ⟨h, rdPos_eq h, c, e, ?_⟩
    simp only [lexRun] at hr
    split at hr
    · exact ⟨by assumption, hr⟩
    · cases hr
  · exact absurd (run_end hr h).1 (by simp)
theorem cls_wd (p0 : 0 ≤ p) (p1 : p ≤ X.length) (hr : lexRun .wd acc (rest X p) = some W) :
    (p = X.length ∧ rdPos X p = p ∧ rdStr X p = Str.ofString "" ∧ acc = W) ∨
    (p < X.length ∧ rdPos X p = p + 1 ∧ ((∃ c, rdStr X p = ⟨#[c]⟩ ∧ isL c = true ∧ lexRun .wd (acc ++ [c]) (rest X (p + 1)) = some W) ∨ (rdStr X p = Str.ofString "'" ∧ lexRun .sq acc (rest X (p + 1)) = some W) ∨
      (rdStr X p = Str.ofString "\"" ∧ lexRun .dq acc (rest X (p + 1)) = some W) ∨ (rdStr X p = Str.ofString "\\" ∧ lexRun .esw acc (rest X (p + 1)) = some W))) := by
  by_cases h : p < X.length
  · obtain ⟨c, e, hr⟩ := run_in p0 hr h
    refine .inr ⟨h, rdPos_eq h, ?_⟩
    simp only [lexRun] at hr
    split at hr
    · exact .inl ⟨c, e, by assumption, hr⟩
    · split at hr
      · rename_i hc; subst hc; exact .inr (.inl ⟨by rw [e, str_sq], hr⟩)
      · split at hr
        · rename_i hc; subst hc; exact .inr (.inr (.inl ⟨by rw [e, str_dq], hr⟩))
        · split at hr
          · rename_i hc; subst hc; exact .inr (.inr (.inr ⟨by rw [e, str_bs], hr⟩))
          · cases hr
  · exact .inl ⟨by omega, rdPos_end h, rdStr_end h, (run_end hr h).2⟩
theorem cls_sq (p0 : 0 ≤ p) (hr : lexRun .sq acc (rest X p) = some W) : p < X.length ∧ rdPos X p = p + 1 ∧
    ((∃ c, rdStr X p = ⟨#[c]⟩ ∧ isL c = true ∧ lexRun .sq (acc ++ [c]) (rest X (p + 1)) = some W) ∨ (rdStr X p = Str.ofString "'" ∧ lexRun .wd acc (rest X (p + 1)) = some W) ∨
      (rdStr X p = Str.ofString "\"" ∧ lexRun .sq (acc ++ [34]) (rest X (p + 1)) = some W) ∨ (rdStr X p = Str.ofString "\\" ∧ lexRun .sq (acc ++ [92]) (rest X (p + 1)) = some W)) := by
  by_cases h : p < X.length
  · obtain ⟨c, e, hr⟩ := run_in p0 hr h
    refine ⟨h, rdPos_eq h, ?_⟩
    simp only [lexRun] at hr
    split at hr
    · rename_i hc; subst hc; exact .inr (.inl ⟨by rw [e, str_sq], hr⟩)
    · split at hr
      · rename_i hc
        simp only [Bool.or_eq_true, decide_eq_true_eq] at hc
        rcases hc with (hc | hc) | hc
        · exact .inl ⟨c, e, hc, hr⟩
        · subst hc; exact .inr (.inr (.inl ⟨by rw [e, str_dq], hr⟩))
        · subst hc; exact .inr (.inr (.inr ⟨by rw [e, str_bs], hr⟩))
      · cases hr
  · exact absurd (run_end hr h).1 (by simp)
theorem cls_dq (p0 : 0 ≤ p) (hr : lexRun .dq acc (rest X p) = some W) : p < X.length ∧ rdPos X p = p + 1 ∧
    ((∃ c, rdStr X p = ⟨#[c]⟩ ∧ isL c = true ∧ lexRun .dq (acc ++ [c]) (rest X (p + 1)) = some W) ∨ (rdStr X p = Str.ofString "'" ∧ lexRun .dq (acc ++ [39]) (rest X (p + 1)) = some W) ∨
      (rdStr X p = Str.ofString "\"" ∧ lexRun .wd acc (rest X (p + 1)) = some W) ∨ (rdStr X p = Str.ofString "\\" ∧ lexRun .esd acc (rest X (p + 1)) = some W)) := by
  by_cases h : p < X.length
  · obtain ⟨c, e, hr⟩ := run_in p0 hr h
    refine ⟨h, rdPos_eq h, ?_⟩
    simp only [lexRun] at hr
    split at hr
    · rename_i hc; subst hc; exact .inr (.inr (.inl ⟨by rw [e, str_dq], hr⟩))
    · split at hr
      · rename_i hc; subst hc; exact .inr (.inr (.inr ⟨by rw [e, str_bs], hr⟩))
      · split at hr
        · rename_i hc
          simp only [Bool.or_eq_true, decide_eq_true_eq] at hc
          rcases hc with hc | hc
          · exact .inl ⟨c, e, hc, hr⟩
          · subst hc; exact .inr (.inl ⟨by rw [e, str_sq], hr⟩)
        · cases hr
  · exact absurd (run_end hr h).1 (by simp)
theorem cls_esw (p0 : 0 ≤ p) (hr : lexRun .esw acc (rest X p) = some W) : p < X.length ∧ rdPos X p = p + 1 ∧ rdStr X p = Str.ofString "'" ∧ lexRun .wd (acc ++ [39]) (rest X (p + 1)) = some W := by
  by_cases h : p < X.length
  · obtain ⟨c, e, hr⟩ := run_in p0 hr h
    refine ⟨h, rdPos_eq h, ?_⟩
    simp only [lexRun] at hr
    split at hr
    · rename_i hc; subst hc; exact ⟨by rw [e, str_sq], hr⟩
    · cases hr
  · exact absurd (run_end hr h).1 (by simp)
theorem cls_esd (p0 : 0 ≤ p) (hr : lexRun .esd acc (rest X p) = some W) : p < X.length ∧ rdPos X p = p + 1 ∧ rdStr X p = Str.ofString "'" ∧ lexRun .dq (acc ++ [92, 39]) (rest X (p + 1)) = some W := by
  by_cases h : p < X.length
  · obtain ⟨c, e, hr⟩ := run_in p0 hr h
    refine ⟨h, rdPos_eq h, ?_⟩
    simp only [lexRun] at hr
    split at hr
    · rename_i hc; subst hc; exact ⟨by rw [e, str_sq], hr⟩
    · cases hr
  · exact absurd (run_end hr h).1 (by simp)
end
theorem acc_snoc (acc : List Nat) (c : Nat) : (⟨acc.toArray⟩ ++ ⟨#[c]⟩ : Str) = ⟨(acc ++ [c]).toArray⟩ := by
  apply Str.ext'
  rw [Str.cps_append]
  simp
theorem len0 {acc : List Nat} {p : Int} (ha : (acc.length : Int) ≤ 2 * p) : (acc.length : Int) ≤ 2 * (p + 1) := by omega
theorem len1 {acc : List Nat} {p : Int} {c : Nat} (ha : (acc.length : Int) ≤ 2 * p) : ((acc ++ [c]).length : Int) ≤ 2 * (p + 1) := by rw [List.length_append]; simp only [List.length_cons, List.length_nil]; omega
theorem len2 {acc : List Nat} {p : Int} {c d : Nat} (ha : (acc.length : Int) ≤ 2 * p) : ((acc ++ [c, d]).length : Int) ≤ 2 * (p + 1) := by rw [List.length_append]; simp only [List.length_cons, List.length_nil]; omega
theorem lenS {c : Nat} {p : Int} (p0 : 0 ≤ p) : (([c] : List Nat).length : Int) ≤ 2 * (p + 1) := by simp only [List.length_cons, List.length_nil]; omega
theorem meas_lt {X : Str} {p : Int} (h : p < X.length) : ((X.length : Int) + 1 - (p + 1)).toNat < ((X.length : Int) + 1 - p).toNat := by omega
theorem news_tl {h₀ h : Heap} {L : Addr} {a : Addr × Obj} {l : List (Addr × Obj)} (N : News h₀ L h (a :: l)) : News h₀ L h l := fun p hp => N p (.tail _ hp)
end
-- S1
section
open PySem PySem.W PySem.Calls PyProof.Rows
set_option maxHeartbeats 0
section
variable {w : World} {h : Heap}
theorem made587 (X : (Mine.pre.heap_1 w.params).In h) : Looks (model PG w) h (Bind.madeBy (.ref 587)) none := Looks.of_peek X (by kernel_rfl)
theorem base587 (X : (Mine.pre.heap_1 w.params).In h) : Looks (model PG w) h (Bind.staticBase (.ref 587)) (.type "object") := Looks.of_peek X (by kernel_rfl)
theorem madeObj (X : (Mine.pre.heap_1 w.params).In h) : Looks (model PG w) h (Bind.madeBy (.type "object")) (some "object.__new__") := Looks.of_peek X (by kernel_rfl)
theorem call587 (X : (Mine.pre.heap_1 w.params).In h) : Looks (model PG w) h (specialOf (.ref 587) "__call__") (some (.builtin "type.__call__")) := Looks.of_peek X (by kernel_rfl)
theorem typ587 (X : (Mine.pre.heap_1 w.params).In h) : Looks (model PG w) h (isInstance (.ref 587) (.type "type")) true := Looks.of_peek X (by kernel_rfl)
theorem mro587 (X : (Mine.pre.heap_1 w.params).In h) : Looks (model PG w) h (mroOf (.ref 587)) [.ref 587, .ref 110, .ref 83, .type "object"] := Looks.of_peek X (by kernel_rfl)
theorem top587 (X : (Mine.pre.heap_1 w.params).In h) : Looks (model PG w) h (isSubtype (.ref 587) (.type "object")) true := Looks.of_peek X (by kernel_rfl)
theorem self587 (X : (Mine.pre.heap_1 w.params).In h) : Looks (model PG w) h (isSubtype (.ref 587) (.ref 587)) true := Looks.of_peek X (by kernel_rfl)
theorem isType587 (X : (Mine.pre.heap_1 w.params).In h) : Looks (model PG w) h (isType (.ref 587)) true := Looks.of_peek X (by kernel_rfl)
theorem init587 (X : (Mine.pre.heap_1 w.params).In h) : Looks (model PG w) h (typeLookup (.ref 587) "__init__") (some (.ref 357)) := Looks.of_peek X (by kernel_rfl)
noncomputable def clsOk (K : Frag) (C : Addr) : Bool := match K.lookup C with
  | some ⟨_, _, .cls cd, _⟩ => !cd.abstract && !cd.hasDel && !cd.mro.isEmpty
  | _ => false
theorem cls_of {K : Frag} {h : Heap} {C : Addr} (X : K.In h) (e : clsOk K C = true) : ∃ oc od cd sl, h.get? C = some ⟨oc, od, .cls cd, sl⟩ ∧ cd.abstract = false ∧ cd.hasDel = false ∧ cd.mro.isEmpty = false := by
  unfold clsOk at e
  split at e
  · rename_i oc od cd sl ho
    simp only [Bool.and_eq_true, Bool.not_eq_true'] at e
    exact ⟨oc, od, cd, sl, X _ _ ho, e.1.1, e.1.2, e.2⟩
  · cases e
theorem newObj587 {A : Around} {R : Result → Shared → Prop} {g : Array GenState} {d : Drawn} {t : Nat} {os : OsState} (X : (Mine.pre.heap_1 w.params).In h)
    (hq : R (.ok (.ret (.ref (h.objs.size + 1)))) ⟨(h.push emptyDict).push (instObj 587 h.objs.size), g, d, t, os⟩) :
    codeAny (model PG w) A (.call (.builtin "object.__new__") ⟨[.ref 587], []⟩) R ⟨h, g, d, t, os⟩ := by
  obtain ⟨oc, od, cd, sl, hC, e1, e2, e4⟩ := cls_of (C := 587) X (by kernel_rfl)
  have base := base587 X
  have made := madeObj X
  have typ := typ587 X
  have top := top587 X
  have ist := isType587 X
  have F := PySem.F.objNew
  refine codeAny_call_builtin_code (Code.quiet_builtin _ F.quiet) ?_
  simp only [checkBuiltinCall, F.kind, F.split, F.row]
  have here : Looks (model PG w) h (Bind.madeHere "object.__new__" (.ref 587)) () := base.andThen (made.andThen (Looks.of_pure (by simp only [Option.map_some, bne_self_eq_false, Bool.false_eq_true, if_false])))
  have args : Bind.checkArgs "object.__new__" ⟨.hand, "object.__new__", "__new__", .cls, []⟩ ⟨[.ref 587], []⟩ = pure () := by kernel_rfl
  rw [args]
  repeat (first | simp only [bne_self_eq_false, Bool.false_eq_true, if_false] | lk)
  refine codeAny_builtin F.entry ?_
  unfold Builtin.«object.__new__»
  repeat (first | simp only [bne_self_eq_false, Bool.false_eq_true, if_false] | lk)
  have fin : ∀ A', wpAny (model PG w) A' (do
      let d ← if typeHasDict (.ref 587) then some <$> alloc { cls := .type "dict", data := .dict #[] } else pure none
      ret (← newObj (.ref 587) .plain d)) (fun fin s' => match fin with | .done f => R (.ok f) s' | .again c' => c'.quiet = true ∧ codeAny (model PG w) A c' R s') (fun e s' => R (.error e) s') ⟨h, g, d, t, os⟩ := by
    intro A'
    show wpAny _ _ ((alloc emptyDict >>= fun x => pure (some x)) >>= _) _ _ _
    refine wpAny_bind (wpAny_bind (wpAny_alloc (wpAny_pure (wpAny_bind ?_))))
    show wpAny _ _ (newObjAsIs _ _ _) _ _ _
    unfold newObjAsIs classHasDel
    refine wpAny_bind (wpAny_alloc (wpAny_bind (wpAny_bind (wpAny_load (Heap.get?_push_of_some _ (Heap.get?_push_of_some _ hC)) (wpAny_pure ?_)))))
    rw [e2]
    refine wpAny_pure (wpAny_pure ?_)
    show R _ _
    rw [Heap.size_push]
    exact hq
  simp only [e1, Bool.false_eq_true, if_false]
  exact fin _
theorem init_tail {A : Around} {R : Result → Shared → Prop} {s : Shared} {x dx : Addr} {vs : List Value} (X : (Mine.pre.heap_1 w.params).In s.heap) (hx : s.heap.get? x = some (instObj 587 dx))
    (hq : codeAny (model PG w) A (.call (.ref 357) ⟨.ref x :: vs, []⟩) (InitBack x R) s) :
    wpAny (model PG w) A (callSpecial? (.ref x) "__init__" vs []) (fun r s' => r = some .none ∧ R (.ok (.ret (.ref x))) s') (fun e s' => R (.error e) s') s := by
  have hi := init587 X
  have hb : Looks (model PG w) s.heap (bindSpecial (.ref 357) (.ref x)) (.ref 357, [.ref x]) := bind_fn X _ (by kernel_rfl)
  obtain ⟨hh, g, d, t, os⟩ := s
  have t1 : Looks (model PG w) hh (typeOf (.ref x)) (.ref 587) := (Looks.ld hx).andThen .now
  unfold callSpecial? specialOf
  repeat (first | with_reducible refine wpAny_call ?_ | lk)
  refine codeAny_mono hq fun r s' z => ?_
  rcases r with e | (v | _ | _ | _) <;> first | exact z | exact z.elim | skip
  obtain ⟨rfl, z⟩ := z
  exact wpAny_pure ⟨rfl, z⟩
theorem isi_587 {A : Around} {E : Value → Shared → Prop} {Q : Bool → Shared → Prop} {s : Shared} {x dx : Addr} (X : (Mine.pre.heap_1 w.params).In s.heap) (hx : s.heap.get? x = some (instObj 587 dx)) (q : Q true s) :
    wpAny (model PG w) A (isInstance (.ref x) (.ref 587)) Q E s := by
  have z : Looks (model PG w) s.heap (isInstance (.ref x) (.ref 587)) true := Looks.andThen ((Looks.ld hx).andThen .now) (self587 X)
  exact z.here q
theorem new587K {A : Around} {s : Shared} {h₀ : Heap} {L : Addr} {m : Str → Option Value} {news : List (Addr × Obj)} {Q E : Value → Shared → Prop} (F : Fr h₀ L s.heap m) (N : News h₀ L s.heap news) (X₀ : (Mine.pre.heap_1 w.params).In h₀)
    (h : ∀ x dx h', Fr h₀ L h' m → News h₀ L h' ((x, instObj 587 dx) :: (dx, dictOf [] 0) :: news) → (∀ p ∈ news, p.1 < dx) → dx < x → Q (.ref x) { s with heap := h' }) :
    wpAny (model PG w) A (call (.builtin "object.__new__") [.ref 587]) Q E s := by
  obtain ⟨hh, g, d, t, os⟩ := s
  have N' := (N.push F emptyDict).push (F.push _) (instObj 587 hh.objs.size)
  rw [Heap.size_push] at N'
  exact wpAny_call (newObj587 (X₀.keeps F.keep) (h _ hh.objs.size _ ((F.push _).push _) N' (fun p hp => Heap.lt_size (N p hp).1) (Nat.lt_succ_self _)))
theorem make587 {mean : ExcName → Option Value} {mg mb : Str → Option Value} {D U : Nat} {news : List (Addr × Obj)} {x : Str} {tx : Tok} (hD : D < 500) :
    CT w mean mg mb D U 587 [.str x tx] news (fun h₀ L m s Q => ∀ sx sd h' tk' k1 k2 k3 u1 u3, Fr h₀ L h' m → News h₀ L h' ((sx, instObj 587 sd) :: (sd, sioD w k1 k2 k3 (.str (Str.ofString "\n") u1) (.str x tx) (.int 0 u3)) :: news) →
      (∀ p ∈ news, p.1 < sd) → sd < sx → Q (.ref sx) { s with heap := h', toks := tk' }) := by
  w_top off
  k_with_none
  k_with "ROOM" => first | ((try simp only [depth_under_make, depth_under_kw, depth_in1, depth_deeper, depth_caller]); decide) | (show (_ : Nat) < 1000; (try simp only [depth_under_make, depth_under_kw, depth_in1, depth_deeper, depth_caller]); (try dsimp only [ktrTop]); omega)
  k_with "CELL" => (refine' kx_def (by exact rfl) (by exact rfl) (by first | exact rfl | assumption) (by k_asm) (by k_asm) (by k_asm) (by k_asm) (by k_asm) (by k_is) (by k_is) (by k_room) (by first | exact BindsTo.of_eq rfl | exact binds_K (by k_in) rfl (by k_is) rfl rfl rfl) (by decide) (by exact locs rfl) (by exact rfl) (by exact rfl) (by exact rfl) ?_; k_whole; intro _ _ _ _ _ _ kxBq _ _; (try dsimp only); (try k_lift kxBq); (try k_fold))
  k_with "newList" => (k_here; refine' newList_K (by k_asm) (by k_asm) ?_; k_whole; intro _ _ _ _ kxl1; (try k_lt kxl1); (try k_sweep))
  k_with "eval Name" => (k_here; refine' name_K (by k_asm) (by k_asm) (by k_asm) (by k_is) ?_ (by with_unfolding_all rfl) (by kernel_rfl) (by kernel_rfl); k_whole)
  k_with "eval Name" => (k_here; refine' ld (by k_asm) (by with_unfolding_all rfl) ?_ (by with_unfolding_all rfl) (by kernel_rfl) (by kernel_rfl); k_whole)
  k_with "getAttr ref" => (k_here; refine' get_own (by k_asm) (by k_asm) (by k_inst) (by k_is) (by k_is) (by k_is) (by k_is) (by k_get) (by k_handed) ?_; k_whole)
  k_with "setAttr ref" => (k_here; refine' set_dict (by k_asm) (by k_asm) (by k_asm) (by k_inst) (by with_unfolding_all exact rfl) (by k_is) (by k_is) (by k_is) (by k_is) (by k_get) (by k_put) (by k_upd) (by exact Nat.le_of_ble_eq_true rfl) ?_; k_whole; intro _ _ _; (try k_sweep))
  k_with "last exec While" => (k_here; with_reducible refine whl_start 100 ?_)
  k_with "execs cons" => (refine wpAny_execs_cons ?_)
  k_with "execs nil" => (refine wpAny_execs_nil ?_)
  k_with "execs cons" => (refine' nst (s := s) (by k_asm) (by with_unfolding_all exact rfl) ?_; intro _; refine wpAny_execs_cons ?_)
  k_with "call builtin:object.__new__" => (k_here; k_dflt (refine' new587K (by k_asm) (by k_asm) (by k_asm) ?_; k_whole); intro _ _ _ _ _ kxl1 kxl2; (try k_lt kxl1); (try k_lt2 kxl2); (try k_sweep))
  k_with "MAIN" =>
    dsimp only [CT]; intro gd cn cs a ccd cl outer A₀ base h₀ L m s Q E B F X N T hk hret
    have XS : (Mine.pre.heap_1 w.params).In s.heap := X.keeps F.keep
    obtain ⟨oc, od, cd, sl, hC, e1, e2, e4⟩ := cls_of (C := 587) XS (by kernel_rfl)
    have call := call587 XS
    have typ := typ587 XS
    have made := made587 XS
    obtain ⟨h, g, d, t, os⟩ := s
    refine wpAny_call ?_
    refine codeAny_of_tree ?_
    show wpAny _ _ (callAny (.ref 587) _) _ _ _
    refine nd_load hC ?_
    show wpAny _ _ (callAny.viaDunder (.ref 587) _) _ _ _
    unfold callAny.viaDunder
    refine wpAny_bind (call.at ?_)
    dsimp only
    rw [tc_bind]
    refine wpAny_bind (wpAny_pure (wpAny_bind (wpAny_pure ?_)))
    refine wpAny_pure (a := Fin.again (.call (.builtin "type.__call__") ⟨[.ref 587, .str x tx], []⟩)) (And.intro rfl ?_)
    refine codeAny_call_builtin_at (Code.quiet_builtin _ (by decide +kernel)) entry_typeCall (check_slot tc_kind tc_split typ (tc_args _ _ _) ?_)
    unfold Builtin.«type.__call__»
    have hm : Looks (model PG w) h (mroOf (.ref 587)) cd.mro := ((Looks.ld (part := none) hC).andThen .now).andThen .now
    repeat ((fail_if_success (with_reducible show wpAny _ _ (getAttr _ _ _) _ _ _)); first | simp only [e4, Bool.false_eq_true, if_false] | lk)
    k_dflt (refine' cls_sm ?k1 ?k2 ?k3 ?k4 ?k5 ?k6 ?k7 ?_; (case k1 => k_asm); (case k2 => k_asm); (case k3 => k_is); (case k4 => k_is); (case k5 => k_is); (case k6 => k_is); (case k7 => k_handed); k_whole)
    refine wpAny_bind (wpAny_holding (wpAny_call ?_))
    obtain ⟨ck, cnm, cgen, cco, cmo⟩ := cs
    dsimp only at hk; subst hk
    k_dflt k_enter
    k_steps
    refine wpAny_bind ?_
    with_reducible (rename News _ _ _ _ => N1)
    with_reducible (rename Fr _ _ _ _ => F1)
    refine isi_587 (by k_in) (N1 _ (by k_mem)).1 ?_
    simp only [Bool.not_true, Bool.false_eq_true, if_false]
    refine wpAny_bind (wpAny_holding ?_)
    refine wpAny_mono (init_tail (by k_in) (N1 _ (by k_mem)).1 (R := fun r s' => match r with | .ok (.ret v) => Q v s' | .ok _ => False | .error e => E e s') ?_) ?_ ?_
    · k_dflt k_enter
      k_steps
      with_reducible (rename News _ _ _ _ => N2)
      with_reducible (rename Fr _ _ _ _ => F2)
      with_reducible (rename _ < _ ∧ _ ∧ _ => hlt)
      exact hret _ _ _ _ _ _ _ _ _ F2 (news_drop34 N2) (fun p hp => by rename ∀ p ∈ news, _ => hl; exact Nat.lt_trans (hl p hp) hlt.2.1) (by assumption)
    · rintro r s' ⟨rfl, z⟩
      exact wpAny_pure z
    · intro e s' z
      exact z
  refine kx_out ?_
  simp (disch := k_dflt (k_extra "MAIN")) only [↓kx_in]
end
end
-- D1
section
open PySem PySem.W PySem.Calls PyProof.Rows
set_option maxHeartbeats 0
theorem dq_mro : mroOf (.type "collections.deque") = pure [.type "collections.deque", .type "object"] := by rw [mroOf_type]; kernel_rfl
theorem dq_lookup_new : typeLookup (.type "collections.deque") "__new__" = pure (some (.builtin "collections.deque.__new__")) := by rw [typeLookup_type, builtinLookup_eq_fast]; kernel_rfl
theorem dq_slot_init : Slot "collections.deque" "__init__" "collections.deque.__init__" :=
  .of (owner := "collections.deque") (n := "__init__") (by rw [typeLookup_type, builtinLookup_eq_fast]; kernel_rfl) (by decide +kernel) (by decide +kernel) (by decide +kernel)
    (by first | exact .inl (by decide +kernel) | exact .inr (by decide +kernel)) (by rw [isSubtype_type]; kernel_rfl)
theorem dq_called : TypeCalled "collections.deque" "collections.deque.__new__" "collections.deque.__init__" :=
  ⟨by decide +kernel, by decide +kernel, ⟨_, _, dq_mro⟩, madeBy_type dq_mro dq_lookup_new (by decide +kernel), by decide +kernel, by rw [isSubtype_type]; kernel_rfl, dq_slot_init⟩
theorem dq_typeCall : checkTypeCall "collections.deque" ⟨[], []⟩ = pure () := by kernel_rfl
theorem dq_newCall : checkBuiltinCall "collections.deque.__new__" ⟨[.type "collections.deque"], []⟩ = pure () := by kernel_rfl
theorem dq_plain : plainId "collections.deque.__new__" = true := by decide +kernel
theorem dq_entry : entryFor table "collections.deque.__new__" = some Builtin.«collections.deque.__new__» := by first | exact entryFor_of_fast (by kernel_rfl) | exact entryFor_of_tree (by kernel_rfl)
theorem dq_entry_init : entryFor table "collections.deque.__init__" = some Builtin.«collections.deque.__init__» := by first | exact entryFor_of_fast (by kernel_rfl) | exact entryFor_of_tree (by kernel_rfl)
theorem dq_initArgs (o : Value) : argsOk "collections.deque.__init__" ⟨[o], []⟩ := by unfold argsOk; kernel_rfl
theorem dq_sub : isSubtype (.type "collections.deque") (.type "collections.deque") = pure true := by rw [isSubtype_type]; kernel_rfl
section
variable {prog : Program} {w : World} {A : Around} {E : Value → Shared → Prop} {s : Shared}
theorem dq_code_new {Q₁ : Value → Shared → Prop} (hq : Q₁ (.ref s.heap.objs.size) { s with heap := s.heap.push dqObj }) :
    codeAny (model prog w) A (.call (.builtin "collections.deque.__new__") ⟨[.type "collections.deque"], []⟩) (wants Q₁ E) s := by
  refine codeAny_of_tree ?_
  show wpAny _ A.in1 (do checkBuiltinCall "collections.deque.__new__" ⟨[.type "collections.deque"], []⟩; again (.builtin "collections.deque.__new__" ⟨[.type "collections.deque"], []⟩)) _ _ s
  refine wpAny_bind (wpAny_of_eq dq_newCall (wpAny_pure ⟨plainId_quiet dq_plain _, codeAny_builtin dq_entry ?_⟩))
  rw [Around.under_plainId dq_plain _]
  obtain ⟨hp, g, d, tk, os⟩ := s
  have e : Builtin.«collections.deque.__new__» ⟨[.type "collections.deque"], []⟩ = (newObj (.type "collections.deque") (.fields #[.none, .int 0 0]) none >>= ret) := by kernel_rfl
  rw [e]
  refine wpAny_bind (wpAny_newObj_type ?_ (by size_fits))
  exact wpAny_pure hq
theorem dq_new {Q : Value → Shared → Prop} {h₀ : Heap} {L : Addr} {m : Str → Option Value} {news : List (Addr × Obj)} (F : Fr h₀ L s.heap m) (N : News h₀ L s.heap news)
    (h : ∀ x h', Fr h₀ L h' m → News h₀ L h' ((x, dqObj) :: news) → (∀ p ∈ news, p.1 < x) → Q (.ref x) { s with heap := h' }) :
    wpAny (model prog w) A (call (.type "collections.deque") []) Q E s := by
  refine ks_callType_codesW (Q₁ := fun obj s₁ => obj = .ref s.heap.objs.size ∧ s₁ = { s with heap := s.heap.push dqObj }) dq_called (fun hq => by rw [dq_typeCall]; exact wpAny_pure hq) dq_entry_init
    (dq_code_new ⟨rfl, rfl⟩) fun obj s₁ h₁ => ?_
  obtain ⟨rfl, rfl⟩ := h₁
  obtain ⟨hp, g, d, tk, os⟩ := s
  have hso : (hp.push dqObj).get? hp.objs.size = some dqObj := Heap.get?_push_at rfl rfl
  refine ⟨⟨_, hso, rfl⟩, dq_initArgs _, ?_⟩
  have e : Builtin.«collections.deque.__init__» ⟨[.ref hp.objs.size], []⟩ = (setField (.ref hp.objs.size) 0 .none >>= fun _ => Builtin.Deque.clear (.ref hp.objs.size) >>= fun _ => ret .none) := by kernel_rfl
  rw [e]
  refine wpAny_bind (wpAny_setField_rec hso (by simp) fun h1 e1 s1 => ?_)
  have e1' : h1.get? hp.objs.size = some dqObj := e1
  show wpAny _ _ (Sem.bind _ _) _ _ _
  refine wpAny_bind ?_
  unfold Builtin.Deque.clear Builtin.Deque.items fieldsOf
  refine wpAny_bind (wpAny_bind (wpAny_bind (wpAny_load e1' (wpAny_pure (wpAny_pure ?_)))))
  refine wpAny_pure (wpAny_pure ⟨rfl, ?_⟩)
  have F' := (F.push dqObj)
  have N' := N.push F dqObj
  refine h _ h1 ?_ ?_ (fun p hp => Heap.lt_size (N p hp).1)
  · have hL : L < hp.objs.size := F.ns.lt
    obtain ⟨oL, a1, a2, hLe, a3⟩ := F'.ns
    exact ⟨⟨oL, a1, a2, (s1.2 L (Nat.ne_of_lt hL)).trans hLe, a3⟩, fun b o e => (s1.2 b (Nat.ne_of_lt (Heap.lt_size (F.keep b o e)))).trans (F'.keep b o e), F'.above⟩
  · intro p hp'
    rcases List.mem_cons.mp hp' with rfl | hq
    · exact ⟨e1', (N' _ (.head _)).2⟩
    · exact ⟨(s1.2 _ (Nat.ne_of_lt (Heap.lt_size (N p hq).1))).trans (N' _ (.tail _ hq)).1, (N' _ (.tail _ hq)).2⟩
theorem dq_slot_len : Slot "collections.deque" "__len__" "collections.deque.__len__" :=
  .of (owner := "collections.deque") (n := "__len__") (by rw [typeLookup_type, builtinLookup_eq_fast]; kernel_rfl) (by decide +kernel) (by decide +kernel) (by decide +kernel)
    (by first | exact .inl (by decide +kernel) | exact .inr (by decide +kernel)) (by rw [isSubtype_type]; kernel_rfl)
theorem dq_entry_len : entryFor table "collections.deque.__len__" = some Builtin.«collections.deque.__len__» := by first | exact entryFor_of_fast (by kernel_rfl) | exact entryFor_of_tree (by kernel_rfl)
theorem dq_lenArgs (o : Value) : argsOk "collections.deque.__len__" ⟨[o], []⟩ := by unfold argsOk; kernel_rfl
theorem dq_noBool : typeLookup (.type "collections.deque") "__bool__" = pure none := by rw [typeLookup_type, builtinLookup_eq_fast]; kernel_rfl
theorem dq_len_body {l : Addr} {Q : Value → Shared → Prop} (ho : s.heap.get? l = some dqObj)
    (h : Q (.int 0 (s.toks + 1)) { s with toks := s.toks + 1 + 1 }) : wpAny (model prog w) A (Builtin.«len» ⟨[.ref l], []⟩) (fun fin s' => ∃ r, fin = .done (.ret r) ∧ Q r s') E s := by
  have hT : s.TypeIs (.ref l) "collections.deque" := ⟨_, ho, rfl⟩
  unfold Builtin.«len»
  refine wpAny_bind (m := oneArg "len" _) (wpAny_pure ?_)
  refine wpAny_bind (m := callSpecial? (.ref l) (Str.ofString "__len__")) (wpAny_callSpecial?_slot (name := Str.ofString "__len__") hT dq_slot_len
    (wpAny_call_entry dq_slot_len hT dq_entry_len ?_ (dq_lenArgs _)))
  · show wpAny _ _ (Builtin.Deque.size (.ref l) >>= fun n => retInt n) _ _ s
    unfold Builtin.Deque.size fieldsOf
    refine wpAny_bind (wpAny_bind (wpAny_bind (wpAny_load ho (wpAny_pure (wpAny_pure ?_)))))
    refine wpAny_bind (wpAny_mkInt (wpAny_pure ⟨_, rfl, ?_⟩))
    refine wpAny_bind (wpAny_holding (wpAny_pure ?_))
    refine wpAny_bind (wpAny_letGo ?_)
    exact wpAny_bind (wpAny_mkInt (wpAny_pure ⟨_, rfl, h⟩))
theorem dq_falsy {x : Addr} {Q : Bool → Shared → Prop} (hx : s.heap.get? x = some dqObj) (h : Q false { s with toks := s.toks + 1 + 1 }) : wpAny (model prog w) A (truthy (.ref x)) Q E s := by
  have hT : s.TypeIs (.ref x) "collections.deque" := ⟨_, hx, rfl⟩
  have key : wpAny (model prog w) A (runValue (.builtin "len" ⟨[.ref x], []⟩)) (fun r s' => r = .int 0 (s.toks + 1) ∧ Q false s') E s := by
    refine wpAny_runValue (codeAny_builtin entry_len ?_)
    rw [Around.under_plainId plain_len _]
    exact wpAny_mono (dq_len_body (Q := fun r s' => r = .int 0 (s.toks + 1) ∧ Q false s') hx ⟨rfl, h⟩)
      (fun fin s' h' => by obtain ⟨r, rfl, hq⟩ := h'; exact hq) fun _ _ e => e
  unfold truthy
  first
    | refine wpAny_bind (wpAny_callSpecial?_none (name := Str.ofString "__bool__") hT dq_noBool ?_)
    | refine wpAny_bind (wpAny_pure (wpAny_bind (wpAny_callSpecial?_none (name := Str.ofString "__bool__") hT dq_noBool ?_)))
  first
    | refine wpAny_bind (wpAny_specialOf (name := Str.ofString "__len__") hT dq_slot_len.lookup ?_)
    | refine wpAny_bind (wpAny_pure (wpAny_bind (wpAny_specialOf (name := Str.ofString "__len__") hT dq_slot_len.lookup ?_)))
  first
    | exact wpAny_bind (wpAny_mono key (fun r s' h' => by obtain ⟨rfl, hq⟩ := h'; exact wpAny_pure hq) fun _ _ e => e)
    | exact wpAny_bind (wpAny_pure (wpAny_bind (wpAny_mono key (fun r s' h' => by obtain ⟨rfl, hq⟩ := h'; exact wpAny_pure hq) fun _ _ e => e)))
end
end
-- L1
section
open PySem PySem.W PySem.Calls PyProof.Rows
set_option maxHeartbeats 0
section
variable {w : World} {A : Around} {E : Value → Shared → Prop} {s : Shared} {h₀ : Heap} {L : Addr} {m : Str → Option Value} {news : List (Addr × Obj)}
theorem upd_news {h : Heap} {S : Addr} {o : Obj} {f : Obj → Obj} {news : List (Addr × Obj)} (F : Fr h₀ L h m) (N : News h₀ L h ((S, o) :: news)) (hl : ∀ p ∈ news, p.1 < S) (hf : (f o).isFreed = false) :
    Fr h₀ L (h.update S f) m ∧ News h₀ L (h.update S f) ((S, f o) :: news) := by
  have n0 := N _ (.head _)
  have hs : Heap.SameBut S h (h.update S f) := Heap.SameBut.update ..
  obtain ⟨oL, a1, a2, hLe, a3⟩ := F.ns
  refine ⟨⟨⟨oL, a1, a2, (hs.2 L (Ne.symm n0.2.1)).trans hLe, a3⟩, fun b o' e => (hs.2 b (fun z => by rw [z] at e; rw [n0.2.2] at e; cases e)).trans (F.keep b o' e), F.above⟩, fun p hp => ?_⟩
  rcases List.mem_cons.mp hp with rfl | hq
  · exact ⟨Heap.get?_update_self f n0.1 hf, n0.2⟩
  · exact ⟨(hs.2 p.1 (Nat.ne_of_lt (hl p hq))).trans (N p (.tail _ hq)).1, (N p (.tail _ hq)).2⟩
theorem hint722 {x dx : Addr} {Q : Bool → Shared → Prop} (X : (Mine.pre.heap_1 w.params).In s.heap) (hx : s.heap.get? x = some (instObj 722 dx)) (q : Q true s) :
    wpAny (model PG w) A (Builtin.List.listLengthHint (.ref x)) Q E s := by
  have t1 : Looks (model PG w) s.heap (typeOf (.ref x)) (.ref 722) := (Looks.ld hx).andThen .now
  have l1 : Looks (model PG w) s.heap (typeLookup (.ref 722) "__len__") none := Looks.of_peek X (by kernel_rfl)
  have l2 : Looks (model PG w) s.heap (typeLookup (.ref 722) "__length_hint__") none := Looks.of_peek X (by kernel_rfl)
  unfold Builtin.List.listLengthHint specialOf
  refine wpAny_bind (wpAny_bind (t1.here (l1.here ?_)))
  show wpAny _ _ (specialOf (.ref x) (Str.ofString "__length_hint__") >>= _) _ _ _
  unfold specialOf
  exact wpAny_bind (wpAny_bind (t1.here (l2.here (wpAny_pure q))))
theorem list_lex {x dx : Addr} {Q : Value → Shared → Prop} (F : Fr h₀ L s.heap m) (N : News h₀ L s.heap news) (X₀ : (Mine.pre.heap_1 w.params).In h₀) (h1 : (x, instObj 722 dx) ∈ news)
    (hiter : ∀ (S : Addr) (c : Nat) (h : Heap) (tk : Nat) (Q' : Value → Shared → Prop), Fr h₀ L h m → News h₀ L h ((S, listOf #[] c) :: news) → (∀ p ∈ news, p.1 < S) →
      (∀ h' tk', Fr h₀ L h' m → News h₀ L h' ((S, listOf #[] c) :: news) → Q' (.ref x) { s with heap := h', toks := tk' }) → wpAny (model PG w) A.in1.in1 (pyIter (.ref x)) Q' E { s with heap := h, toks := tk })
    (hnext : ∀ (S : Addr) (c : Nat) (h : Heap) (tk : Nat), Fr h₀ L h m → News h₀ L h ((S, listOf #[] c) :: news) → (∀ p ∈ news, p.1 < S) →
      wpAny (model PG w) A.in1.in1 (pyNext (.ref x)) (fun r s2 => ∃ v h2 tk2 news2, r = some v ∧ s2 = { s with heap := h2, toks := tk2 } ∧ Fr h₀ L h2 m ∧ News h₀ L h2 ((S, listOf #[] c) :: news2) ∧ (∀ p ∈ news2, p.1 < S) ∧
        ∀ c' h3, Fr h₀ L h3 m → News h₀ L h3 ((S, listOf #[v] c') :: news2) → wpAny (model PG w) A.in1.in1 (pyNext (.ref x)) (fun r s4 => r = none ∧ Q (.ref S) s4) E { s with heap := h3, toks := tk2 }) E { s with heap := h, toks := tk }) :
    wpAny (model PG w) A (call (.type "list") [.ref x]) Q E s := by
  obtain ⟨hp, g, d, tk0, os⟩ := s
  refine callType_codes (Q₁ := fun obj s₁ => obj = .ref hp.objs.size ∧ s₁ = ⟨hp.push { cls := .type "list", data := .seq #[] }, g, d, tk0, os⟩) PySem.F.called_list (PySem.F.typeCall_list_1 _) PySem.F.entry_list_init
    (code_list_new _ ⟨rfl, rfl⟩) fun obj s₁ h₁ => ?_
  obtain ⟨rfl, rfl⟩ := h₁
  have hS : (hp.push { cls := .type "list", data := .seq #[] }).get? hp.objs.size = some { cls := .type "list", data := .seq #[] } := Heap.get?_push_size _ rfl
  refine ⟨⟨_, hS, rfl⟩, PySem.F.args_list_init_2 _ _, ?_⟩
  have lS : ∀ p ∈ news, p.1 < hp.objs.size := fun p hq => Heap.lt_size (N p hq).1
  have F1 := F.push (listOf #[] 0)
  have N1 := N.push F (listOf #[] 0)
  show wpAny _ _ (do let old ← Builtin.List.listItems (.ref hp.objs.size); Builtin.List.listUpdate (.ref hp.objs.size) (fun _ => #[]); letGo old.toList.reverse; Builtin.List.listExtendWith (.ref hp.objs.size) (.ref x) .none) _ _ _
  refine wpAny_bind ?_
  unfold Builtin.List.listItems
  refine wpAny_bind (wpAny_seqItems hS rfl (wpAny_pure ?_))
  show wpAny _ _ (updateSeq hp.objs.size (fun _ => #[]) >>= fun _ => letGo (#[] : Array Value).toList.reverse >>= fun _ => Builtin.List.listExtendWith (.ref hp.objs.size) (.ref x) .none) _ _ _
  refine wpAny_bind (wpAny_updateSeq hS rfl ?_)
  obtain ⟨F2, N2⟩ := upd_news (f := Obj.mapSeq (fun _ => (#[] : Array Value))) F1 N1 lS rfl
  refine wpAny_bind (wpAny_letGo ?_)
  generalize (hp.push (listOf #[] 0)).update hp.objs.size (Obj.mapSeq fun _ => #[]) = hA at F2 N2 ⊢
  generalize hp.objs.size = S at *
  have N2' : News h₀ L hA ((S, listOf #[] 0) :: news) := N2
  clear N2
  have hx2 : hA.get? x = some (instObj 722 dx) := (N2' _ (.tail _ h1)).1
  have hSx : S ≠ x := fun e => Nat.lt_irrefl _ (by have := lS _ h1; rw [← e] at this; exact this)
  unfold Builtin.List.listExtendWith
  have t1 : Looks (model PG w) hA (typeOf (.ref x)) (.ref 722) := (Looks.ld hx2).andThen .now
  refine wpAny_bind (t1.here ?_)
  have e1 : Builtin.List.listSameRef (.ref S) (.ref x) = false := by simp [Builtin.List.listSameRef, hSx]
  have e2 : (Value.ref 722 == Value.type "list") = false := by decide
  have e3 : (Value.ref 722 == Value.type "tuple") = false := by decide
  simp only [e1, e2, e3, Bool.or_false, Bool.false_eq_true, if_false]
  refine wpAny_bind (hiter S 0 hA tk0 _ F2 N2' lS fun h' tk' F3 N3 => ?_)
  have hx3 : h'.get? x = some (instObj 722 dx) := (N3 _ (.tail _ h1)).1
  refine wpAny_bind (wpAny_holding (hint722 (X₀.keeps F3.keep) hx3 ?_))
  simp only [Bool.true_or, if_true]
  refine wpAny_bind (wpAny_rule ?_)
  refine wpAny_bind ?_
  show wpAny _ _ (updateSeq S (·.push .none) >>= fun _ => updateSeq S (·.pop)) _ _ _
  have hS3 := (N3 _ (.head _)).1
  refine wpAny_bind (wpAny_updateSeq hS3 rfl ?_)
  obtain ⟨F4, N4⟩ := upd_news (f := Obj.mapSeq (·.push Value.none)) F3 N3 lS rfl
  have hS4 := (N4 _ (.head _)).1
  refine wpAny_updateSeq (hz := by seq_fits) hS4 rfl ?_
  obtain ⟨F5, N5⟩ := upd_news (f := Obj.mapSeq (·.pop)) F4 N4 lS rfl
  generalize (h'.update S (Obj.mapSeq (·.push Value.none))).update S (Obj.mapSeq (·.pop)) = hB at F5 N5 ⊢
  obtain ⟨c5, hc5⟩ : ∃ c, Obj.mapSeq (·.pop) (Obj.mapSeq (·.push Value.none) (listOf #[] 0)) = listOf #[] c := ⟨_, rfl⟩
  rw [hc5] at N5
  refine wpAny_pure ⟨plainId_quiet PySem.F.plain_extend_loop _, ?_⟩
  have turn : ∀ (h : Heap) (tk : Nat) (R : Result → Shared → Prop) (Aq : Around), wpAny (model PG w) Aq.in1 (pyNext (.ref x)) (fun r s2 => match r with
      | none => R (.ok (.ret .none)) s2
      | some v => wpAny (model PG w) Aq.in1 (updateSeq S (·.push v)) (fun _ s3 => codeAny (model PG w) Aq (.builtin "list.extend.loop" ⟨[.ref S, .ref x, .none], []⟩) R s3) (fun e s' => R (.error e) s') s2) (fun e s' => R (.error e) s') ⟨h, g, d, tk, os⟩ →
      codeAny (model PG w) Aq (.builtin "list.extend.loop" ⟨[.ref S, .ref x, .none], []⟩) R ⟨h, g, d, tk, os⟩ := by
    intro h tk R Aq hq
    refine codeAny_builtin PySem.F.entry_extend_loop ?_
    rw [Around.under_plainId PySem.F.plain_extend_loop _]
    unfold Builtin.«list.extend.loop»
    refine wpAny_bind (wpAny_mono hq (fun r s2 hr => ?_) fun _ _ z => z)
    cases r with
    | none => exact wpAny_pure hr
    | some v => exact wpAny_bind (wpAny_mono hr (fun _ s3 h3 => wpAny_pure ⟨plainId_quiet PySem.F.plain_extend_loop _, h3⟩) fun _ _ z => z)
  refine turn _ _ _ _ ?_
  refine wpAny_mono (hnext S c5 hB tk' F5 N5 lS) (fun r s2 hr => ?_) fun e s' z => z
  obtain ⟨v, h2, tk2, news2, rfl, rfl, F6, N6, l6, hr⟩ := hr
  dsimp only
  refine wpAny_updateSeq (hz := by seq_fits) (N6 _ (.head _)).1 rfl ?_
  obtain ⟨F7, N7⟩ := upd_news (f := Obj.mapSeq (·.push v)) F6 N6 l6 rfl
  obtain ⟨c7, hc7⟩ : ∃ c, Obj.mapSeq (·.push v) (listOf #[] c5) = listOf #[v] c := ⟨_, rfl⟩
  rw [hc7] at N7
  refine turn _ _ _ _ ?_
  refine wpAny_mono (hr c7 _ F7 N7) (fun r s4 h4 => ?_) fun e s' z => z
  obtain ⟨rfl, h4⟩ := h4
  exact ⟨rfl, h4⟩
end
end
-- R1
section
open PySem PySem.W PySem.Calls PyProof.Rows
set_option maxHeartbeats 0
noncomputable abbrev ReadRet (w : World) (news : List (Addr × Obj)) (fs pb sx sd lx ld : Addr) (k1 k2 k3 u1 tx : Tok) (X : Str) (p : Int) (κ τ : Nat → Tok) (state token : Value) (h₀ : Heap) (L : Addr) (m : Str → Option Value) (s : Shared) (Q : Value → Shared → Prop) : Prop :=
  ∀ h' tk' tv tp', Fr h₀ L h' m → News h₀ L h' (LEDS w fs pb sx sd lx ld k1 k2 k3 u1 X tx (.int (rdPos X p) tp') κ τ state token news) → Q (.str (rdStr X p) tv) { s with heap := h', toks := tk' }
theorem read_end {w : World} {news : List (Addr × Obj)} {fs pb sx sd lx ld : Addr} {k1 k2 k3 u1 tx tp' tv : Tok} {X v : Str} {p q : Int} {κ τ : Nat → Tok} {state token : Value} {h₀ h' : Heap} {L : Addr} {m : Str → Option Value} {s : Shared} {tk' : Nat} {Q : Value → Shared → Prop}
    (hret : ReadRet w news fs pb sx sd lx ld k1 k2 k3 u1 tx X p κ τ state token h₀ L m s Q) (ev : v = rdStr X p) (eq : q = rdPos X p) (F : Fr h₀ L h' m)
    (N : News h₀ L h' (LEDS w fs pb sx sd lx ld k1 k2 k3 u1 X tx (.int q tp') κ τ state token news)) : Q (.str v tv) { s with heap := h', toks := tk' } := by
  subst ev eq
  exact hret _ _ _ _ F N
theorem c_read {w : World} {mean : ExcName → Option Value} {mg mb : Str → Option Value} {D U : Nat} {news : List (Addr × Obj)} {fs pb sx sd lx ld : Addr} {k1 k2 k3 u1 tx tp t1 : Tok} {X : Str} {p : Int} {κ τ : Nat → Tok} {state token : Value} (hD : D < 500)
   (hO : Ord fs pb sx sd lx ld news) (hX : X.length ≤ 1000) (hp : 0 ≤ p) (hp2 : p ≤ X.length) :
    CT w mean mg mb D U 533 [.ref sx, .int 1 t1] (LEDS w fs pb sx sd lx ld k1 k2 k3 u1 X tx (.int p tp) κ τ state token news)
     (ReadRet w news fs pb sx sd lx ld k1 k2 k3 u1 tx X p κ τ state token) := by
  w_top off
  k_with_none
  k_with "ROOM" => first | ((try simp only [depth_under_make, depth_under_kw, depth_in1, depth_deeper, depth_caller]); decide) | (show (_ : Nat) < 1000; (try simp only [depth_under_make, depth_under_kw, depth_in1, depth_deeper, depth_caller]); (try dsimp only [ktrTop]); omega)
  k_with "CELL" => (refine' kx_def (by exact rfl) (by exact rfl) (by first | exact rfl | assumption) (by k_asm) (by k_asm) (by k_asm) (by k_asm) (by k_asm) (by k_is) (by k_is) (by k_room) (by first | exact BindsTo.of_eq rfl | exact binds_K (by k_in) rfl (by k_is) rfl rfl rfl) (by decide) (by exact locs rfl) (by exact rfl) (by exact rfl) (by exact rfl) ?_; k_whole; intro _ _ _ _ _ _ kxBq _ _; (try dsimp only); (try k_lift kxBq); (try k_fold))
  k_with "ALL" => (first | exact List.forall_mem_nil _ | with_reducible assumption | with_reducible exact kx_tl (by assumption) | with_reducible exact kx_tl (kx_tl (by assumption)) | with_reducible exact kx_tl (kx_tl (kx_tl (by assumption))) | (refine' List.forall_mem_cons.mpr ⟨(by k_ne), ?_⟩; k_all))
  k_with "newList" => (k_here; refine' newList_K (by k_asm) (by k_asm) ?_; k_whole; intro _ _ _ _ kxl1; (try k_lt kxl1); (try k_sweep))
  k_with "eval Name" => (k_here; refine' name_K (by k_asm) (by k_asm) (by k_asm) (by k_is) ?_ (by with_unfolding_all rfl) (by kernel_rfl) (by kernel_rfl); k_whole)
  k_with "eval Name" => (k_here; refine' ld (by k_asm) (by with_unfolding_all rfl) ?_ (by with_unfolding_all rfl) (by kernel_rfl) (by kernel_rfl); k_whole)
  k_with "getAttr ref" => (k_here; refine' get_own (by k_asm) (by k_asm) (by k_inst) (by k_is) (by k_is) (by k_is) (by k_is) (by k_get) (by k_handed) ?_; k_whole)
  k_with "setAttr ref" => (k_here; refine' set_dict (by k_asm) (by k_asm) (by k_asm) (by k_inst) (by with_unfolding_all exact rfl) (by k_is) (by k_is) (by k_is) (by k_is) (by k_get) (by k_put) (by k_upd) (by exact Nat.le_of_ble_eq_true rfl) ?_; k_whole; intro _ _ _; (try k_sweep))
  k_with "last exec While" => (k_here; with_reducible refine whl_start 100 ?_)
  k_with "execs cons" => (refine wpAny_execs_cons ?_)
  k_with "execs nil" => (refine wpAny_execs_nil ?_)
  k_with "execs cons" => (refine' nst (s := s) (by k_asm) (by with_unfolding_all exact rfl) ?_; intro _; refine wpAny_execs_cons ?_)
  k_with "MAIN" =>
    dsimp only [CT, LEDS]; intro gd cn cs a ccd cl outer A₀ base h₀ L m s Q E B F X0 N T hk hret
    obtain ⟨ck, cnm, cgen, cco, cmo⟩ := cs
    dsimp only at hk; subst hk
    obtain ⟨⟨o1, o2, o3, o4, o5⟩, o6, o7⟩ := hO
    refine wpAny_call ?_
    k_dflt k_enter
    k_steps
    all_goals with_reducible (rename News _ _ _ _ => N9)
    all_goals with_reducible (rename Fr _ _ _ _ => F9)
    all_goals (refine read_end hret ?_ ?_ F9 N9)
    all_goals (first | with_reducible exact rdStr_in hp (by omega) (by omega) | with_reducible exact rdPos_in (by omega) (by omega) | with_reducible exact rdStr_out (by omega) | with_reducible exact rdPos_out (by omega))
  refine kx_out ?_
  simp (disch := k_dflt (k_extra "MAIN")) only [↓kx_in]
end
-- RT
section
open PySem PySem.W PySem.Calls PyProof.Rows
set_option maxHeartbeats 0
/-- the loop's word -/
noncomputable def RTI (w : World) (g : Heap) (L1 : Addr) (s : Shared) (news : List (Addr × Obj)) (fs pb sx sd lx ld : Addr) (k1 k2 k3 u1 tx : Tok) (X : Str) (κ τ : Nat → Tok) (W : List Nat) (c : LC) (s' : Shared) : Prop :=
  ∃ h tk m' tS tT tp te e, s' = { s with heap := h, toks := tk } ∧ Fr g L1 h m' ∧ m' (Str.ofString "self") = some (.ref lx) ∧ m' (Str.ofString "quoted") = some (.bool c.q) ∧ m' (Str.ofString "escapedstate") = some (.str e te) ∧ c.st.esc e ∧
    News g L1 h (LEDS w fs pb sx sd lx ld k1 k2 k3 u1 X tx (.int c.p tp) κ τ (.str c.st.str tS) (.str ⟨c.acc.toArray⟩ tT) news) ∧ 0 ≤ c.p ∧ c.p ≤ X.length ∧ (c.acc.length : Int) ≤ 2 * c.p ∧ lexRun c.st c.acc (rest X c.p) = some W
theorem RTI.intro {w : World} {g : Heap} {L1 : Addr} {s : Shared} {news : List (Addr × Obj)} {fs pb sx sd lx ld : Addr} {k1 k2 k3 u1 tx : Tok} {X : Str} {κ τ : Nat → Tok} {W : List Nat} {h : Heap} {tk : Nat} {m' : Str → Option Value} {tS tT tp te : Tok} {e S Tk : Str} {q : Bool} {p : Int}
    (st : LS') (acc : List Nat) (F : Fr g L1 h m') (m1 : m' (Str.ofString "self") = some (.ref lx)) (m2 : m' (Str.ofString "quoted") = some (.bool q)) (m3 : m' (Str.ofString "escapedstate") = some (.str e te))
    (N : News g L1 h (LEDS w fs pb sx sd lx ld k1 k2 k3 u1 X tx (.int p tp) κ τ (.str S tS) (.str Tk tT) news)) (he : st.esc e) (hS : S = st.str) (hT : Tk = ⟨acc.toArray⟩) (p0 : 0 ≤ p) (p1 : p ≤ X.length) (ha : (acc.length : Int) ≤ 2 * p) (hr : lexRun st acc (rest X p) = some W) :
    RTI w g L1 s news fs pb sx sd lx ld k1 k2 k3 u1 tx X κ τ W ⟨st, acc, p, q⟩ { s with heap := h, toks := tk } := by
  subst hS hT
  exact ⟨h, tk, m', tS, tT, tp, te, e, rfl, F, m1, m2, m3, he, N, p0, p1, ha, hr⟩
theorem c_rt {w : World} {mean : ExcName → Option Value} {mg mb : Str → Option Value} {D U : Nat} {news : List (Addr × Obj)} {fs pb sx sd lx ld : Addr} {k1 k2 k3 u1 tx tp t1 t2 : Tok} {X : Str} {W : List Nat} {κ τ : Nat → Tok} (hD : D < 480)
   (hO : Ord fs pb sx sd lx ld news) (hX : X.length ≤ 1000) (hrun : lexRun .sp [] (rest X 0) = some W) (hW : W ≠ []) :
    CT w mean mg mb D U 690 [.ref lx] (LEDS w fs pb sx sd lx ld k1 k2 k3 u1 X tx (.int 0 tp) κ τ (.str (Str.ofString " ") t1) (.str (Str.ofString "") t2) news)
     (fun h₀ L m s Q => ∀ h' tk' tv tp' tt, Fr h₀ L h' m → News h₀ L h' (LEDS w fs pb sx sd lx ld k1 k2 k3 u1 X tx (.int X.length tp') κ τ .none (.str (Str.ofString "") tt) news) → Q (.str ⟨W.toArray⟩ tv) { s with heap := h', toks := tk' }) := by
  w_top off
  k_with_none
  k_with "ROOM" => first | ((try simp only [depth_under_make, depth_under_kw, depth_in1, depth_deeper, depth_caller]); decide) | (show (_ : Nat) < 1000; (try simp only [depth_under_make, depth_under_kw, depth_in1, depth_deeper, depth_caller]); (try dsimp only [ktrTop]); omega)
  k_with "CELL" => (refine' kx_def (by exact rfl) (by exact rfl) (by first | exact rfl | assumption) (by k_asm) (by k_asm) (by k_asm) (by k_asm) (by k_asm) (by k_is) (by k_is) (by k_room) (by first | exact BindsTo.of_eq rfl | exact binds_K (by k_in) rfl (by k_is) rfl rfl rfl) (by decide) (by exact locs rfl) (by exact rfl) (by exact rfl) (by exact rfl) ?_; k_whole; intro _ _ _ _ _ _ kxBq _ _; (try dsimp only); (try k_lift kxBq); (try k_fold))
  k_with "ALL" => (first | exact List.forall_mem_nil _ | with_reducible assumption | with_reducible exact kx_tl (by assumption) | with_reducible exact kx_tl (kx_tl (by assumption)) | with_reducible exact kx_tl (kx_tl (kx_tl (by assumption))) | (refine' List.forall_mem_cons.mpr ⟨(by k_ne), ?_⟩; k_all))
  k_with "newList" => (k_here; refine' newList_K (by k_asm) (by k_asm) ?_; k_whole; intro _ _ _ _ kxl1; (try k_lt kxl1); (try k_sweep))
  k_with "eval Name" => (k_here; refine' name_K (by k_asm) (by k_asm) (by k_asm) (by k_is) ?_ (by with_unfolding_all rfl) (by kernel_rfl) (by kernel_rfl); k_whole)
  k_with "eval Name" => (k_here; refine' ld (by k_asm) (by with_unfolding_all rfl) ?_ (by with_unfolding_all rfl) (by kernel_rfl) (by kernel_rfl); k_whole)
  k_with "getAttr ref" => (k_here; refine' get_own (by k_asm) (by k_asm) (by k_inst) (by k_is) (by k_is) (by k_is) (by k_is) (by k_get) (by k_handed) ?_; k_whole)
  k_with "setAttr ref" => (k_here; refine' set_dict (by k_asm) (by k_asm) (by k_asm) (by k_inst) (by with_unfolding_all exact rfl) (by k_is) (by k_is) (by k_is) (by k_is) (by k_get) (by k_put) (by k_upd) (by exact Nat.le_of_ble_eq_true rfl) ?_; k_whole; intro _ _ _; (try k_sweep))
  k_with "last exec While" => (k_here; with_reducible refine whl_start 100 ?_)
  k_with "execs cons" => (refine wpAny_execs_cons ?_; (try k_fold))
  k_with "execs nil" => (refine wpAny_execs_nil ?_)
  k_with "truthy ref" => (k_here; k_dflt (refine' dq_falsy (News.get (by k_asm) (by k_mem)) ?_; k_whole))
  k_with "exec If" => ((try k_fold); refine wpAny_If ?_; (try dsimp only); (try k_fold))
  k_with "WhlRest" => refine halt ?_
  k_with "exec If" => ((with_reducible show wpAny _ _ (exec (Stmt.If (Expr.Compare (Expr.Attribute (Expr.Name (Str.ofString "self") _) (Str.ofString "state") _) [CmpOp.Is] _ _) _ _ _) _) _ _ _); (with_reducible rename Mark1 => kxhMk1); refine halt ?_)
  k_with "exec If" => ((with_reducible show wpAny _ _ (exec (Stmt.If (Expr.UnaryOp _ (Expr.Name (Str.ofString "nextchar") _) _) _ _ _) _) _ _ _); (with_reducible rename Mark2 => kxhMk2); refine halt ?_)
  k_with "call ref" => (k_here; (with_reducible show wpAny _ _ (call (Value.ref 533) _) _ _ _); k_dflt (refine' c_read (by first | exact Nat.le_of_ble_eq_true rfl | (simp only [depth_under_make, depth_under_kw, depth_in1, depth_deeper, depth_caller]; (try dsimp only [ktrTop]); omega)) (by assumption) (by assumption) (by assumption) (by assumption) _ _ _ _ _ _ _ _ _ _ _ _ _ _ _ (by k_asm) (by k_asm) (by k_asm) (by k_asm) (by k_asm) (by exact rfl) ?_); intro _ _ _ _ _ _; (try dsimp only); (try k_sweep))
  k_with "ite" => first | with_reducible refine ite_no (by with_reducible assumption) ?_ | with_reducible refine ite_yes (by with_reducible assumption) ?_ | with_reducible refine ite_no (bnot_t (by with_reducible assumption)) ?_ | with_reducible refine ite_yes (bnot_f (by with_reducible assumption)) ?_ | (k_closed; first | with_reducible refine ite_yes (by decide +kernel) ?_ | with_reducible refine ite_no (by decide +kernel) ?_)
  k_with "truthy str" => (refine truthy_one (by with_reducible assumption) ?_; intro _; (try dsimp only))
  k_with "MAIN" =>
    dsimp only [CT, LEDS]; intro gd cn cs a ccd cl outer A₀ base h₀ L m s Q E B F X0 N T hk hret
    obtain ⟨ck, cnm, cgen, cco, cmo⟩ := cs
    dsimp only at hk; subst hk
    have hO' := hO
    obtain ⟨⟨o1, o2, o3, o4, o5⟩, o6, o7⟩ := hO'
    refine wpAny_call ?_
    k_dflt k_enter
    rename_i g L1 h1 FG F1 N1 B1 X1 T1
    k_steps
    with_reducible (rename News _ _ _ _ => N2)
    with_reducible (rename Fr _ _ _ _ => F2)
    refine unhalt ?_
    refine whl_ind (RTI w g L1 s news fs pb sx sd lx ld k1 k2 k3 u1 tx X κ τ W) (fun c => ((X.length : Int) + 1 - c.p).toNat) ?step ⟨.sp, [], 0, false⟩ _ _ ?start
    case start =>
      exact ⟨_, _, _, _, _, _, _, _, rfl, F2, rfl, rfl, rfl, trivial, N2, Int.le_refl _, Int.natCast_nonneg _, by simp, hrun⟩
    case step =>
      clear F2 N2
      rintro ⟨st, acc, p, q⟩ s' k ⟨h, tk, m', tS, tT, tp, te, e, rfl, F3, m1, m2, m3, hesc, N3, p0, p1, ha, hr⟩ IH
      dsimp only at hesc N3 p0 p1 ha hr m2 IH
      have em : m' = (fun y => if y = Str.ofString "escapedstate" then some (Value.str e te) else if y = Str.ofString "quoted" then some (Value.bool q) else if y = Str.ofString "self" then some (Value.ref lx) else m' y) := by
        funext y
        by_cases h1 : y = Str.ofString "escapedstate"
        · rw [if_pos h1, h1, m3]
        · rw [if_neg h1]
          by_cases h2 : y = Str.ofString "quoted"
          · rw [if_pos h2, h2, m2]
          · rw [if_neg h2]
            by_cases h3 : y = Str.ofString "self"
            · rw [if_pos h3, h3, m1]
            · rw [if_neg h3]
      rw [em] at F3
      clear em
      have hn := cls_nl p0 hr
      refine whl_turn (k := 0) (by first | passes_own | with_unfolding_all passes_own) ?_
      have hm1 : Mark1 := ⟨⟩
      k_steps
      generalize hy : rdStr X p = y at *
      generalize hz : rdPos X p = z at *
      with_reducible (rename Mark1 => hm2); clear hm2
      refine unhalt ?_
      have hacc : (Str.mk acc.toArray).length ≤ 2000 := by show acc.toArray.size ≤ 2000; rw [List.size_toArray]; omega
      cases st
      case sp =>
        dsimp only [LS'.str, LS'.esc] at *
        obtain ⟨hp, hz', c, hy', hc, hr'⟩ := cls_sp p0 hr
        rw [hy] at hy'; rw [hz] at hz'; subst hy' hz'
        clear hr
        obtain ⟨f1, f2, f3, f4, f5, f6, f7, f8⟩ := L_facts hc
        have hy1 : (Str.mk #[c]).length = 1 := rfl
        k_steps
        with_reducible (rename News _ _ _ _ => N9)
        with_reducible (rename Fr _ _ _ _ => F9)
        exact unhalt (IH ⟨LS'.wd, [c], p + 1, _⟩ _ _ (meas_lt hp) (RTI.intro LS'.wd [c] F9 rfl rfl rfl N9 trivial rfl rfl (Int.le_add_one p0) (Int.add_one_le_of_lt hp) (by first | exact len0 ha | exact len1 ha | exact len2 ha | exact lenS p0) hr'))
      case wd =>
        dsimp only [LS'.str, LS'.esc] at *
        have hk := cls_wd p0 p1 hr
        clear hr
        have hm2 : Mark2 := ⟨⟩
        k_steps
        with_reducible (rename Mark2 => hm3); clear hm3
        refine unhalt ?_
        rcases hk with ⟨hp, hz', hy', hW'⟩ | ⟨hp, hz', hk | hk | hk | hk⟩ <;> (rw [hz] at hz'; subst hz')
        · rw [hy] at hy'; subst hy' hW'
          have hWe : ((⟨acc.toArray⟩ : Str) == Str.ofString "") = false := by
            rw [str_e]
            cases acc with
            | nil => exact absurd rfl hW
            | cons a r => simp
          k_steps
          all_goals (with_reducible (rename News _ _ _ _ => N9))
          all_goals (with_reducible (rename Fr _ _ _ _ => F9))
          all_goals (subst hp)
          all_goals exact hret _ _ _ _ _ F9 (news_tl N9)
        · obtain ⟨c, hy', hc, hr'⟩ := hk
          rw [hy] at hy'; subst hy'
          obtain ⟨f1, f2, f3, f4, f5, f6, f7, f8⟩ := L_facts hc
          have hy1 : (Str.mk #[c]).length = 1 := rfl
          k_steps
          with_reducible (rename News _ _ _ _ => N9)
          with_reducible (rename Fr _ _ _ _ => F9)
          exact unhalt (IH ⟨LS'.wd, (acc ++ [c]), p + 1, _⟩ _ _ (meas_lt hp) (RTI.intro LS'.wd (acc ++ [c]) F9 rfl rfl rfl (news_tl N9) trivial rfl (acc_snoc _ _) (Int.le_add_one p0) (Int.add_one_le_of_lt hp) (by first | exact len0 ha | exact len1 ha | exact len2 ha | exact lenS p0) hr'))
        · obtain ⟨hy', hr'⟩ := hk
          rw [hy] at hy'; subst hy'
          k_steps
          with_reducible (rename News _ _ _ _ => N9)
          with_reducible (rename Fr _ _ _ _ => F9)
          exact unhalt (IH ⟨LS'.sq, acc, p + 1, _⟩ _ _ (meas_lt hp) (RTI.intro LS'.sq acc F9 rfl rfl rfl (news_tl N9) trivial rfl rfl (Int.le_add_one p0) (Int.add_one_le_of_lt hp) (by first | exact len0 ha | exact len1 ha | exact len2 ha | exact lenS p0) hr'))
        · obtain ⟨hy', hr'⟩ := hk
          rw [hy] at hy'; subst hy'
          k_steps
          with_reducible (rename News _ _ _ _ => N9)
          with_reducible (rename Fr _ _ _ _ => F9)
          exact unhalt (IH ⟨LS'.dq, acc, p + 1, _⟩ _ _ (meas_lt hp) (RTI.intro LS'.dq acc F9 rfl rfl rfl (news_tl N9) trivial rfl rfl (Int.le_add_one p0) (Int.add_one_le_of_lt hp) (by first | exact len0 ha | exact len1 ha | exact len2 ha | exact lenS p0) hr'))
        · obtain ⟨hy', hr'⟩ := hk
          rw [hy] at hy'; subst hy'
          k_steps
          with_reducible (rename News _ _ _ _ => N9)
          with_reducible (rename Fr _ _ _ _ => F9)
          exact unhalt (IH ⟨LS'.esw, acc, p + 1, _⟩ _ _ (meas_lt hp) (RTI.intro LS'.esw acc F9 rfl rfl rfl (news_tl N9) rfl rfl rfl (Int.le_add_one p0) (Int.add_one_le_of_lt hp) (by first | exact len0 ha | exact len1 ha | exact len2 ha | exact lenS p0) hr'))
      case sq =>
        dsimp only [LS'.str, LS'.esc] at *
        obtain ⟨hp, hz', hk⟩ := cls_sq p0 hr
        rw [hz] at hz'; subst hz'
        clear hr
        have hm2 : Mark2 := ⟨⟩
        k_steps
        with_reducible (rename Mark2 => hm3); clear hm3
        refine unhalt ?_
        rcases hk with hk | hk | hk | hk
        · obtain ⟨c, hy', hc, hr'⟩ := hk
          rw [hy] at hy'; subst hy'
          obtain ⟨f1, f2, f3, f4, f5, f6, f7, f8⟩ := L_facts hc
          have hy1 : (Str.mk #[c]).length = 1 := rfl
          k_steps
          with_reducible (rename News _ _ _ _ => N9)
          with_reducible (rename Fr _ _ _ _ => F9)
          exact unhalt (IH ⟨LS'.sq, (acc ++ [c]), p + 1, _⟩ _ _ (meas_lt hp) (RTI.intro LS'.sq (acc ++ [c]) F9 rfl rfl rfl N9 trivial rfl (acc_snoc _ _) (Int.le_add_one p0) (Int.add_one_le_of_lt hp) (by first | exact len0 ha | exact len1 ha | exact len2 ha | exact lenS p0) hr'))
        · obtain ⟨hy', hr'⟩ := hk
          rw [hy] at hy'; subst hy'
          k_steps
          with_reducible (rename News _ _ _ _ => N9)
          with_reducible (rename Fr _ _ _ _ => F9)
          exact unhalt (IH ⟨LS'.wd, acc, p + 1, _⟩ _ _ (meas_lt hp) (RTI.intro LS'.wd acc F9 rfl rfl rfl N9 trivial rfl rfl (Int.le_add_one p0) (Int.add_one_le_of_lt hp) (by first | exact len0 ha | exact len1 ha | exact len2 ha | exact lenS p0) hr'))
        · obtain ⟨hy', hr'⟩ := hk
          rw [hy] at hy'; subst hy'
          k_steps
          with_reducible (rename News _ _ _ _ => N9)
          with_reducible (rename Fr _ _ _ _ => F9)
          exact unhalt (IH ⟨LS'.sq, (acc ++ [34]), p + 1, _⟩ _ _ (meas_lt hp) (RTI.intro LS'.sq (acc ++ [34]) F9 rfl rfl rfl N9 trivial rfl (by rw [str_dq]; exact acc_snoc _ _) (Int.le_add_one p0) (Int.add_one_le_of_lt hp) (by first | exact len0 ha | exact len1 ha | exact len2 ha | exact lenS p0) hr'))
        · obtain ⟨hy', hr'⟩ := hk
          rw [hy] at hy'; subst hy'
          k_steps
          with_reducible (rename News _ _ _ _ => N9)
          with_reducible (rename Fr _ _ _ _ => F9)
          exact unhalt (IH ⟨LS'.sq, (acc ++ [92]), p + 1, _⟩ _ _ (meas_lt hp) (RTI.intro LS'.sq (acc ++ [92]) F9 rfl rfl rfl N9 trivial rfl (by rw [str_bs]; exact acc_snoc _ _) (Int.le_add_one p0) (Int.add_one_le_of_lt hp) (by first | exact len0 ha | exact len1 ha | exact len2 ha | exact lenS p0) hr'))
      case dq =>
        dsimp only [LS'.str, LS'.esc] at *
        obtain ⟨hp, hz', hk⟩ := cls_dq p0 hr
        rw [hz] at hz'; subst hz'
        clear hr
        have hm2 : Mark2 := ⟨⟩
        k_steps
        with_reducible (rename Mark2 => hm3); clear hm3
        refine unhalt ?_
        rcases hk with hk | hk | hk | hk
        · obtain ⟨c, hy', hc, hr'⟩ := hk
          rw [hy] at hy'; subst hy'
          obtain ⟨f1, f2, f3, f4, f5, f6, f7, f8⟩ := L_facts hc
          have hy1 : (Str.mk #[c]).length = 1 := rfl
          k_steps
          with_reducible (rename News _ _ _ _ => N9)
          with_reducible (rename Fr _ _ _ _ => F9)
          exact unhalt (IH ⟨LS'.dq, (acc ++ [c]), p + 1, _⟩ _ _ (meas_lt hp) (RTI.intro LS'.dq (acc ++ [c]) F9 rfl rfl rfl N9 trivial rfl (acc_snoc _ _) (Int.le_add_one p0) (Int.add_one_le_of_lt hp) (by first | exact len0 ha | exact len1 ha | exact len2 ha | exact lenS p0) hr'))
        · obtain ⟨hy', hr'⟩ := hk
          rw [hy] at hy'; subst hy'
          k_steps
          with_reducible (rename News _ _ _ _ => N9)
          with_reducible (rename Fr _ _ _ _ => F9)
          exact unhalt (IH ⟨LS'.dq, (acc ++ [39]), p + 1, _⟩ _ _ (meas_lt hp) (RTI.intro LS'.dq (acc ++ [39]) F9 rfl rfl rfl N9 trivial rfl (by rw [str_sq]; exact acc_snoc _ _) (Int.le_add_one p0) (Int.add_one_le_of_lt hp) (by first | exact len0 ha | exact len1 ha | exact len2 ha | exact lenS p0) hr'))
        · obtain ⟨hy', hr'⟩ := hk
          rw [hy] at hy'; subst hy'
          k_steps
          with_reducible (rename News _ _ _ _ => N9)
          with_reducible (rename Fr _ _ _ _ => F9)
          exact unhalt (IH ⟨LS'.wd, acc, p + 1, _⟩ _ _ (meas_lt hp) (RTI.intro LS'.wd acc F9 rfl rfl rfl N9 trivial rfl rfl (Int.le_add_one p0) (Int.add_one_le_of_lt hp) (by first | exact len0 ha | exact len1 ha | exact len2 ha | exact lenS p0) hr'))
        · obtain ⟨hy', hr'⟩ := hk
          rw [hy] at hy'; subst hy'
          k_steps
          with_reducible (rename News _ _ _ _ => N9)
          with_reducible (rename Fr _ _ _ _ => F9)
          exact unhalt (IH ⟨LS'.esd, acc, p + 1, _⟩ _ _ (meas_lt hp) (RTI.intro LS'.esd acc F9 rfl rfl rfl N9 rfl rfl rfl (Int.le_add_one p0) (Int.add_one_le_of_lt hp) (by first | exact len0 ha | exact len1 ha | exact len2 ha | exact lenS p0) hr'))
      case esw =>
        dsimp only [LS'.str, LS'.esc] at *
        obtain ⟨hp, hz', hy', hr'⟩ := cls_esw p0 hr
        rw [hy] at hy'; rw [hz] at hz'; subst hy' hz' hesc
        clear hr
        k_steps
        with_reducible (rename News _ _ _ _ => N9)
        with_reducible (rename Fr _ _ _ _ => F9)
        exact unhalt (IH ⟨LS'.wd, (acc ++ [39]), p + 1, _⟩ _ _ (meas_lt hp) (RTI.intro LS'.wd (acc ++ [39]) F9 rfl rfl rfl N9 trivial rfl (by rw [str_sq]; exact acc_snoc _ _) (Int.le_add_one p0) (Int.add_one_le_of_lt hp) (by first | exact len0 ha | exact len1 ha | exact len2 ha | exact lenS p0) hr'))
      case esd =>
        dsimp only [LS'.str, LS'.esc] at *
        obtain ⟨hp, hz', hy', hr'⟩ := cls_esd p0 hr
        rw [hy] at hy'; rw [hz] at hz'; subst hy' hz' hesc
        clear hr
        k_steps
        with_reducible (rename News _ _ _ _ => N9)
        with_reducible (rename Fr _ _ _ _ => F9)
        exact unhalt (IH ⟨LS'.dq, (acc ++ [92, 39]), p + 1, _⟩ _ _ (meas_lt hp) (RTI.intro LS'.dq (acc ++ [92, 39]) F9 rfl rfl rfl N9 trivial rfl (by rw [str_bs, str_sq, acc_snoc, acc_snoc, List.append_assoc]; rfl) (Int.le_add_one p0) (Int.add_one_le_of_lt hp) (by first | exact len0 ha | exact len1 ha | exact len2 ha | exact lenS p0) hr'))
  refine kx_out ?_
  simp (disch := k_dflt (k_extra "MAIN")) only [↓kx_in]
end
-- RT2
section
open PySem PySem.W PySem.Calls PyProof.Rows
set_option maxHeartbeats 0
/-- read_token at the end: state None -/
theorem c_rt2 {w : World} {mean : ExcName → Option Value} {mg mb : Str → Option Value} {D U : Nat} {news : List (Addr × Obj)} {fs pb sx sd lx ld : Addr} {k1 k2 k3 u1 tx tp t2 : Tok} {X : Str} {κ τ : Nat → Tok} (hD : D < 480)
   (hO : Ord fs pb sx sd lx ld news) (hX : X.length ≤ 1000) :
    CT w mean mg mb D U 690 [.ref lx] (LEDS w fs pb sx sd lx ld k1 k2 k3 u1 X tx (.int X.length tp) κ τ .none (.str (Str.ofString "") t2) news)
     (fun h₀ L m s Q => ∀ h' tk' tp' tt, Fr h₀ L h' m → News h₀ L h' (LEDS w fs pb sx sd lx ld k1 k2 k3 u1 X tx (.int X.length tp') κ τ .none (.str (Str.ofString "") tt) news) → Q .none { s with heap := h', toks := tk' }) := by
  w_top off
  k_with_none
  k_with "ROOM" => first | ((try simp only [depth_under_make, depth_under_kw, depth_in1, depth_deeper, depth_caller]); decide) | (show (_ : Nat) < 1000; (try simp only [depth_under_make, depth_under_kw, depth_in1, depth_deeper, depth_caller]); (try dsimp only [ktrTop]); omega)
  k_with "CELL" => (refine' kx_def (by exact rfl) (by exact rfl) (by first | exact rfl | assumption) (by k_asm) (by k_asm) (by k_asm) (by k_asm) (by k_asm) (by k_is) (by k_is) (by k_room) (by first | exact BindsTo.of_eq rfl | exact binds_K (by k_in) rfl (by k_is) rfl rfl rfl) (by decide) (by exact locs rfl) (by exact rfl) (by exact rfl) (by exact rfl) ?_; k_whole; intro _ _ _ _ _ _ kxBq _ _; (try dsimp only); (try k_lift kxBq); (try k_fold))
  k_with "ALL" => (first | exact List.forall_mem_nil _ | with_reducible assumption | with_reducible exact kx_tl (by assumption) | with_reducible exact kx_tl (kx_tl (by assumption)) | with_reducible exact kx_tl (kx_tl (kx_tl (by assumption))) | (refine' List.forall_mem_cons.mpr ⟨(by k_ne), ?_⟩; k_all))
  k_with "newList" => (k_here; refine' newList_K (by k_asm) (by k_asm) ?_; k_whole; intro _ _ _ _ kxl1; (try k_lt kxl1); (try k_sweep))
  k_with "eval Name" => (k_here; refine' name_K (by k_asm) (by k_asm) (by k_asm) (by k_is) ?_ (by with_unfolding_all rfl) (by kernel_rfl) (by kernel_rfl); k_whole)
  k_with "eval Name" => (k_here; refine' ld (by k_asm) (by with_unfolding_all rfl) ?_ (by with_unfolding_all rfl) (by kernel_rfl) (by kernel_rfl); k_whole)
  k_with "getAttr ref" => (k_here; refine' get_own (by k_asm) (by k_asm) (by k_inst) (by k_is) (by k_is) (by k_is) (by k_is) (by k_get) (by k_handed) ?_; k_whole)
  k_with "setAttr ref" => (k_here; refine' set_dict (by k_asm) (by k_asm) (by k_asm) (by k_inst) (by with_unfolding_all exact rfl) (by k_is) (by k_is) (by k_is) (by k_is) (by k_get) (by k_put) (by k_upd) (by exact Nat.le_of_ble_eq_true rfl) ?_; k_whole; intro _ _ _; (try k_sweep))
  k_with "last exec While" => (k_here; with_reducible refine whl_start 100 ?_)
  k_with "execs cons" => (refine wpAny_execs_cons ?_)
  k_with "execs nil" => (refine wpAny_execs_nil ?_)
  k_with "execs cons" => (refine' nst (s := s) (by k_asm) (by with_unfolding_all exact rfl) ?_; intro _; refine wpAny_execs_cons ?_)
  k_with "truthy ref" => (k_here; k_dflt (refine' dq_falsy (News.get (by k_asm) (by k_mem)) ?_; k_whole))
  k_with "exec If" => (refine wpAny_If ?_; (try dsimp only))
  k_with "ite" => first | with_reducible refine ite_no (by with_reducible assumption) ?_ | with_reducible refine ite_yes (by with_reducible assumption) ?_ | with_reducible refine ite_no (bnot_t (by with_reducible assumption)) ?_ | with_reducible refine ite_yes (bnot_f (by with_reducible assumption)) ?_ | (k_closed; first | with_reducible refine ite_yes (by decide +kernel) ?_ | with_reducible refine ite_no (by decide +kernel) ?_)
  k_with "truthy str" => (refine truthy_one (by with_reducible assumption) ?_; intro _; (try dsimp only))
  k_with "MAIN" =>
    dsimp only [CT, LEDS]; intro gd cn cs a ccd cl outer A₀ base h₀ L m s Q E B F X0 N T hk hret
    obtain ⟨ck, cnm, cgen, cco, cmo⟩ := cs
    dsimp only at hk; subst hk
    have hO' := hO
    obtain ⟨⟨o1, o2, o3, o4, o5⟩, o6, o7⟩ := hO'
    refine wpAny_call ?_
    k_dflt k_enter
    k_steps
    with_reducible (rename News _ _ _ _ => N9)
    with_reducible (rename Fr _ _ _ _ => F9)
    exact hret _ _ _ _ F9 N9
  refine kx_out ?_
  simp (disch := k_dflt (k_extra "MAIN")) only [↓kx_in]
end
-- TU
section
open PySem PySem.W PySem.Spec PySem.Calls PyProof.Rows
noncomputable abbrev frs (l : List Env) : List Addr := l.filterMap (·.frame)
/-- a def is left whose callees may have turned the frames' slots -/
noncomputable def LeaveT (A₀ : Around) (base : Heap) (env : Env) (outer : List Env) (h₀ : Heap) (L : Addr) (m : Str → Option Value) (g : Heap) (R : Result → Shared → Prop) (v : Value) (s' : Shared) : Prop :=
  ∃ g' L' m' news', KtsTurn (frs (env :: outer)) g g' ∧ Fr g' L' s'.heap m' ∧ News g' L' s'.heap news' ∧
    (∀ k', KtsTurn (frs outer) h₀ k' → Fr k' L s'.heap m → News k' L s'.heap news' → Below A₀ base outer k' → KtsDicts (frs outer) k' → R (.ok (.ret v)) s')
section
variable {prog : Program} {w : World} {A₀ A : Around} {s : Shared} {base h₀ : Heap} {outer : List Env} {L : Addr} {m : Str → Option Value} {env : Env} {news : List (Addr × Obj)} {K : Frag} {p : Program} {loose : List Str} {mean : ExcName → Option Value} {mg mb : Str → Option Value}
  {R : Result → Shared → Prop} {name qual : Str} {params : Arguments} {body : List Stmt} {scope : Scope} {dV kV doc pm cdv ct oc : Value} {an od : Option Addr} {osl : Array (Option Value)} {f : Addr} {args : Args} {binds : List (Str × Value)}
theorem leaveT_back (B : Below A₀ base outer h₀) (F : Fr h₀ L s.heap m) (D : KtsDicts (frs outer) h₀) (hf : env.frame = some L) {g : Heap} (FG : Fr h₀ L g m) {v : Value} {s' : Shared}
    (hl : LeaveT A₀ base env outer h₀ L m g R v s') : R (.ok (.ret v)) s' := by
  obtain ⟨g', L', m', news', T', F', N', k⟩ := hl
  have nL : h₀.get? L = none := kts_self F
  obtain ⟨oL, es, ep, hL, hLd, hLk, hLf⟩ := FG.ns
  have st := FG.keep
  have hin : ∀ b ∈ frs outer, b ∈ frs (env :: outer) := fun b hb => by
    obtain ⟨e, he, hfe⟩ := List.mem_filterMap.mp hb
    exact List.mem_filterMap.mpr ⟨e, .tail _ he, hfe⟩
  have hcase : ∀ b ∈ frs (env :: outer), b = L ∨ b ∈ frs outer := fun b hb => by
    obtain ⟨e, he, hfe⟩ := List.mem_filterMap.mp hb
    rcases List.mem_cons.mp he with rfl | he
    · exact .inl (Option.some.inj (hfe.symm.trans hf))
    · exact .inr (List.mem_filterMap.mpr ⟨e, he, hfe⟩)
  obtain ⟨sl, hs⟩ := T'.up hL
  have hL' := F'.keep _ _ hs
  obtain ⟨T₁, S₁⟩ := kts_turn_at (h := s'.heap) (fs := frs outer) (g := h₀)
    (fun b hb => by
      obtain ⟨_, o, ho', _⟩ := B.frames.mem hb
      exact ⟨o, ho'⟩)
    (fun b o e nm => F'.keep b o (T'.other b o (st b o e) (fun q => by
      rcases hcase b q with z | z
      · rw [z, nL] at e; cases e
      · exact nm z)))
    (fun b o e hm => by
      obtain ⟨sl', hs'⟩ := T'.frame b o (st b o e) (hin b hm)
      exact ⟨sl', F'.keep _ _ hs'⟩)
  have B' : Below A₀ base outer (ktsHeap s'.heap (frs outer) h₀) := ⟨B.stack, fun b o e => T₁.other b o (B.stays b o e) (fun hm => by
    rw [(B.frames.mem hm).1] at e
    cases e), B.frames.of_keeps fun b o e _ => by
      obtain ⟨sl', hs'⟩ := T₁.up e
      exact ⟨_, hs', rfl⟩⟩
  refine k _ T₁ ⟨⟨_, es, ep, hL', hLd, hLk, hLf⟩, S₁, by rw [T₁.size]; exact F.above⟩ (fun q hq => ⟨(N' q hq).1, fun z => ?_, T₁.none_ _ ?_⟩) B' (D.turn T₁)
  · have := (N' q hq).2.2; rw [z, hs] at this; cases this
  · cases e : h₀.get? q.1 with
    | none => rfl
    | some o =>
      obtain ⟨sl', hs'⟩ := T'.up (st _ _ e)
      have := (N' q hq).2.2
      rw [hs'] at this; cases this
theorem ktsDicts_push (D : KtsDicts (frs outer) h₀) (hf : env.frame = some L) {g : Heap} (FG : Fr h₀ L g m) : KtsDicts (frs (env :: outer)) g := fun b hb => by
  obtain ⟨e, he, hfe⟩ := List.mem_filterMap.mp hb
  rcases List.mem_cons.mp he with rfl | he
  · obtain rfl : L = b := Option.some.inj (hf.symm.trans hfe)
    obtain ⟨oL, es, ep, hL, hLd, _⟩ := FG.ns
    exact ⟨oL, es, ep, hL, hLd⟩
  · obtain ⟨o, es, n, ho, hd⟩ := D b (List.mem_filterMap.mpr ⟨e, he, hfe⟩)
    exact ⟨o, es, n, FG.keep b o ho, hd⟩
theorem code_T (B : Below A₀ base outer h₀) (F : Fr h₀ L s.heap m) (X₀ : K.In h₀) (N : News h₀ L s.heap news) (T : Top p loose mean mg mb h₀) (D : KtsDicts (frs outer) h₀) (hA : A.frames = some (env :: outer)) (hf : env.frame = some L) (hke : env.scope.kind = .function)
    (ho : K.lookup f = some ⟨oc, od, .func (fnOf name qual params body scope dV kV doc pm an cdv ct), osl⟩) (hcd : codeIn K cdv qual = true) (hroom : A.depth < recursionLimit)
    (hbind : BindsTo s (fnOf name qual params body scope dV kV doc pm an cdv ct) args binds) (hloc : ∀ y ∈ binds, scope.names.lookup y.1 = some .local)
    (h : ∀ g L' h₁, Fr h₀ L g m → Fr g L' h₁ (fun y => binds.reverse.lookup y) → News g L' h₁ news → Below A base (env :: outer) g → K.In g → Top p loose mean mg mb g → KtsDicts (frs (env :: outer)) g →
      wpAny (model prog w) (A.deeper (envOf qual scope L' f cdv)) (execs body (envOf qual scope L' f cdv))
        (fun fl s' => LeaveT A₀ base env outer h₀ L m g R (match fl with | .ret v => v | _ => .none) s')
        (fun e s' => wpAny (model prog w) (A.deeper (envOf qual scope L' f cdv)) (leaving (envOf qual scope L' f cdv) e) (fun _ s'' => R (.error e) s'') (fun e' s'' => R (.error e') s'') s')
        { s with heap := h₁, toks := s.toks + binds.length })
    (hco : scope.isCoroutine = false) (hgen : scope.isGenerator = false) (hk : scope.kind = .function)
    (hcell : ∀ x ∈ scope.names, x.2 ≠ .cell) : codeAny (model prog w) A (.call (.ref f) args) R s := by
  have X := X₀.keeps F.keep
  obtain ⟨FG, BG, st, _⟩ := groundX (R := R) B F N hA hf hke
  refine codeAny_call_def (fd := fnOf name qual params body scope dV kV doc pm an cdv ct) (body := body) (binds := binds) hroom (X _ _ ho) rfl (T.nolimit.keeps F.keep) (codeRec_of X hcd) rfl hbind hcell hloc (fun h₁ hns hk₁ => ?_) hco hgen hk
  exact wpAny_mono (h _ s.heap.objs.size h₁ FG ⟨hns, fun b o e => hk₁ b o (of_hideAll _ e), Nat.le_of_eq (hideAll_size _ _)⟩
    (fun p hp => ⟨hk₁ _ _ (N p hp).1, Nat.ne_of_lt (Heap.lt_size (N p hp).1), hideAll_none _ (List.mem_map_of_mem hp)⟩) BG (X₀.keeps st) (T.keeps st) (ktsDicts_push D hf FG)) (fun fl s' hl => leaveT_back B F D hf FG hl) fun _ _ y => y
end
end
-- TV
section
open PySem PySem.W PySem.Calls PyProof.Rows
theorem tl_lt {a : Addr × Obj} {l : List (Addr × Obj)} {d : Nat} (h : ∀ p ∈ a :: l, p.1 < d) : ∀ p ∈ l, p.1 < d := fun p hp => h p (.tail _ hp)
theorem ne_lt {l : List (Addr × Obj)} {d : Nat} (h : ∀ p ∈ l, p.1 < d) : ∀ p ∈ l, p.1 ≠ d := fun p hp => Nat.ne_of_lt (h p hp)
theorem news_mv {h₀ h : Heap} {L : Addr} {x a b c d e f : Addr × Obj} {news : List (Addr × Obj)} (N : News h₀ L h (x :: a :: b :: c :: d :: e :: f :: news)) : News h₀ L h (a :: b :: c :: d :: e :: f :: x :: news) := fun p hp => N p (by
  simp only [List.mem_cons] at hp ⊢
  rcases hp with h | h | h | h | h | h | h | h <;> simp [h])
theorem news_mb {h₀ h : Heap} {L : Addr} {x a b c d e f : Addr × Obj} {news : List (Addr × Obj)} (N : News h₀ L h (a :: b :: c :: d :: e :: f :: x :: news)) : News h₀ L h (x :: a :: b :: c :: d :: e :: f :: news) := fun p hp => N p (by
  simp only [List.mem_cons] at hp ⊢
  rcases hp with h | h | h | h | h | h | h | h <;> simp [h])
theorem to_leds {w : World} {g h : Heap} {L : Addr} {fs pb sx sd lx ld : Addr} {k1 k2 k3 u1 tx t1 t2 : Tok} {X : Str} {pos : Value} {news : List (Addr × Obj)} {a0 a1 a2 a3 a4 a5 a6 a7 a8 a9 a10 a11 a12 a13 a14 a15 a16 a17 a18 b4 b5 b6 b8 b9 b10 b13 b14 b18 : Tok}
    (N : News g L h ((fs, dqObj) :: (pb, dqObj) :: (sx, instObj 587 sd) :: (sd, sioD w k1 k2 k3 (.str (Str.ofString "\n") u1) (.str X tx) pos) :: (lx, instObj 722 ld) :: (ld, dictOf [⟨PyData.keyHash w.params (Str.ofString "instream"), .str (Str.ofString "instream") a0, .ref sx⟩,
   ⟨PyData.keyHash w.params (Str.ofString "infile"), .str (Str.ofString "infile") a1, .none⟩,
   ⟨PyData.keyHash w.params (Str.ofString "posix"), .str (Str.ofString "posix") a2, .bool true⟩,
   ⟨PyData.keyHash w.params (Str.ofString "eof"), .str (Str.ofString "eof") a3, .none⟩,
   ⟨PyData.keyHash w.params (Str.ofString "commenters"), .str (Str.ofString "commenters") a4, .str (Str.ofString "") b4⟩,
   ⟨PyData.keyHash w.params (Str.ofString "wordchars"), .str (Str.ofString "wordchars") a5, .str (Str.ofString "abcdfeghijklmnopqrstuvwxyzABCDEFGHIJKLMNOPQRSTUVWXYZ0123456789_ßàáâãäåæçèéêëìíîïðñòóôõöøùúûüýþÿÀÁÂÃÄÅÆÇÈÉÊËÌÍÎÏÐÑÒÓÔÕÖØÙÚÛÜÝÞ") b5⟩,
   ⟨PyData.keyHash w.params (Str.ofString "whitespace"), .str (Str.ofString "whitespace") a6, .str (Str.ofString " \t\x0d\n") b6⟩,
   ⟨PyData.keyHash w.params (Str.ofString "whitespace_split"), .str (Str.ofString "whitespace_split") a7, .bool true⟩,
   ⟨PyData.keyHash w.params (Str.ofString "quotes"), .str (Str.ofString "quotes") a8, .str (Str.ofString "'\"") b8⟩,
   ⟨PyData.keyHash w.params (Str.ofString "escape"), .str (Str.ofString "escape") a9, .str (Str.ofString "\\") b9⟩,
   ⟨PyData.keyHash w.params (Str.ofString "escapedquotes"), .str (Str.ofString "escapedquotes") a10, .str (Str.ofString "\"") b10⟩,
   ⟨PyData.keyHash w.params (Str.ofString "state"), .str (Str.ofString "state") a11, (.str (Str.ofString " ") t1)⟩,
   ⟨PyData.keyHash w.params (Str.ofString "pushback"), .str (Str.ofString "pushback") a12, .ref pb⟩,
   ⟨PyData.keyHash w.params (Str.ofString "lineno"), .str (Str.ofString "lineno") a13, .int 1 b13⟩,
   ⟨PyData.keyHash w.params (Str.ofString "debug"), .str (Str.ofString "debug") a14, .int 0 b14⟩,
   ⟨PyData.keyHash w.params (Str.ofString "token"), .str (Str.ofString "token") a15, (.str (Str.ofString "") t2)⟩,
   ⟨PyData.keyHash w.params (Str.ofString "filestack"), .str (Str.ofString "filestack") a16, .ref fs⟩,
   ⟨PyData.keyHash w.params (Str.ofString "source"), .str (Str.ofString "source") a17, .none⟩,
   ⟨PyData.keyHash w.params (Str.ofString "_punctuation_chars"), .str (Str.ofString "_punctuation_chars") a18, .str (Str.ofString "") b18⟩] 19) :: news)) :
    ∃ κ τ : Nat → Tok, News g L h (LEDS w fs pb sx sd lx ld k1 k2 k3 u1 X tx pos κ τ (.str (Str.ofString " ") t1) (.str (Str.ofString "") t2) news) :=
  ⟨fun i => [a0, a1, a2, a3, a4, a5, a6, a7, a8, a9, a10, a11, a12, a13, a14, a15, a16, a17, a18].getD i 0, fun i => [0, 0, 0, 0, b4, b5, b6, 0, b8, b9, b10, 0, 0, b13, b14, 0, 0, 0, b18].getD i 0, N⟩
theorem leds_lt {w : World} {fs pb sx sd lx ld : Addr} {k1 k2 k3 u1 tx : Tok} {X : Str} {pos pos' st st' tk tk' : Value} {κ τ : Nat → Tok} {news : List (Addr × Obj)} {S : Addr}
    (l : ∀ p ∈ LEDS w fs pb sx sd lx ld k1 k2 k3 u1 X tx pos κ τ st tk news, p.1 < S) : ∀ p ∈ LEDS w fs pb sx sd lx ld k1 k2 k3 u1 X tx pos' κ τ st' tk' news, p.1 < S := by
  simp only [LEDS, List.forall_mem_cons] at l ⊢
  exact l
theorem ord_of {fs pb sx sd lx ld S : Addr} {o : Obj} {news : List (Addr × Obj)} (h : @LT.lt Nat _ ld lx ∧ @LT.lt Nat _ lx sd ∧ @LT.lt Nat _ sd sx ∧ @LT.lt Nat _ sx pb ∧ @LT.lt Nat _ pb fs) (h1 : ∀ p ∈ news, p.1 < sd) (h2 : ∀ p ∈ news, p.1 < ld) (hS : @LT.lt Nat _ fs S) :
    Ord fs pb sx sd lx ld ((S, o) :: news) := by
  obtain ⟨a1, a2, a3, a4, a5⟩ := h
  refine ⟨⟨a1, a2, a3, a4, a5⟩, List.forall_mem_cons.mpr ⟨?_, ne_lt h1⟩, List.forall_mem_cons.mpr ⟨?_, ne_lt h2⟩⟩
  · show S ≠ sd; exact (Nat.ne_of_lt (by omega)).symm
  · show S ≠ ld; exact (Nat.ne_of_lt (by omega)).symm
theorem ord_mk {w : World} {g h : Heap} {L : Addr} {fs pb sx sd lx ld : Addr} {k1 k2 k3 u1 tx : Tok} {X : Str} {pos st tk : Value} {κ τ : Nat → Tok} {news : List (Addr × Obj)} (_ : News g L h (LEDS w fs pb sx sd lx ld k1 k2 k3 u1 X tx pos κ τ st tk news))
    (h0 : @LT.lt Nat _ ld lx ∧ @LT.lt Nat _ lx sd ∧ @LT.lt Nat _ sd sx ∧ @LT.lt Nat _ sx pb ∧ @LT.lt Nat _ pb fs) (h1 : ∀ p ∈ news, p.1 < sd) (h2 : ∀ p ∈ news, p.1 < ld) : ∀ (S : Addr) (o : Obj), @LT.lt Nat _ fs S → Ord fs pb sx sd lx ld ((S, o) :: news) := fun _ _ hS => ord_of h0 h1 h2 hS
end
-- NX
section
open PySem PySem.W PySem.Calls PyProof.Rows
set_option maxHeartbeats 0
theorem c_next1 {w : World} {mean : ExcName → Option Value} {mg mb : Str → Option Value} {D U : Nat} {news : List (Addr × Obj)} {fs pb sx sd lx ld : Addr} {k1 k2 k3 u1 tx tp t1 t2 : Tok} {X : Str} {W : List Nat} {κ τ : Nat → Tok} (hD : D < 470)
   (hO : Ord fs pb sx sd lx ld news) (hX : X.length ≤ 1000) (hrun : lexRun .sp [] (rest X 0) = some W) (hW : W ≠ []) :
    CTN w mean mg mb D U lx (LEDS w fs pb sx sd lx ld k1 k2 k3 u1 X tx (.int 0 tp) κ τ (.str (Str.ofString " ") t1) (.str (Str.ofString "") t2) news)
     (fun h₀ L m s Q => ∀ h' tk' tv tp' tt, Fr h₀ L h' m → News h₀ L h' (LEDS w fs pb sx sd lx ld k1 k2 k3 u1 X tx (.int X.length tp') κ τ .none (.str (Str.ofString "") tt) news) → Q (some (.str ⟨W.toArray⟩ tv)) { s with heap := h', toks := tk' }) := by
  w_top off
  k_with_none
  k_with "ROOM" => first | ((try simp only [depth_under_make, depth_under_kw, depth_in1, depth_deeper, depth_caller]); decide) | (show (_ : Nat) < 1000; (try simp only [depth_under_make, depth_under_kw, depth_in1, depth_deeper, depth_caller]); (try dsimp only [ktrTop]); omega)
  k_with "CELL" => (refine' kx_def (by exact rfl) (by exact rfl) (by first | exact rfl | assumption) (by k_asm) (by k_asm) (by k_asm) (by k_asm) (by k_asm) (by k_is) (by k_is) (by k_room) (by first | exact BindsTo.of_eq rfl | exact binds_K (by k_in) rfl (by k_is) rfl rfl rfl) (by decide) (by exact locs rfl) (by exact rfl) (by exact rfl) (by exact rfl) ?_; k_whole; intro _ _ _ _ _ _ kxBq _ _; (try dsimp only); (try k_lift kxBq); (try k_fold))
  k_with "ALL" => (first | exact List.forall_mem_nil _ | with_reducible assumption | with_reducible exact kx_tl (by assumption) | with_reducible exact kx_tl (kx_tl (by assumption)) | with_reducible exact kx_tl (kx_tl (kx_tl (by assumption))) | (refine' List.forall_mem_cons.mpr ⟨(by k_ne), ?_⟩; k_all))
  k_with "newList" => (k_here; refine' newList_K (by k_asm) (by k_asm) ?_; k_whole; intro _ _ _ _ kxl1; (try k_lt kxl1); (try k_sweep))
  k_with "eval Name" => (k_here; refine' name_K (by k_asm) (by k_asm) (by k_asm) (by k_is) ?_ (by with_unfolding_all rfl) (by kernel_rfl) (by kernel_rfl); k_whole)
  k_with "eval Name" => (k_here; refine' ld (by k_asm) (by with_unfolding_all rfl) ?_ (by with_unfolding_all rfl) (by kernel_rfl) (by kernel_rfl); k_whole)
  k_with "getAttr ref" => (k_here; refine' get_own (by k_asm) (by k_asm) (by k_inst) (by k_is) (by k_is) (by k_is) (by k_is) (by k_get) (by k_handed) ?_; k_whole)
  k_with "setAttr ref" => (k_here; refine' set_dict (by k_asm) (by k_asm) (by k_asm) (by k_inst) (by with_unfolding_all exact rfl) (by k_is) (by k_is) (by k_is) (by k_is) (by k_get) (by k_put) (by k_upd) (by exact Nat.le_of_ble_eq_true rfl) ?_; k_whole; intro _ _ _; (try k_sweep))
  k_with "last exec While" => (k_here; with_reducible refine whl_start 100 ?_)
  k_with "execs cons" => (refine wpAny_execs_cons ?_)
  k_with "execs nil" => (refine wpAny_execs_nil ?_)
  k_with "execs cons" => (refine' nst (s := s) (by k_asm) (by with_unfolding_all exact rfl) ?_; intro _; refine wpAny_execs_cons ?_)
  k_with "truthy ref" => (k_here; k_dflt (refine' dq_falsy (News.get (by k_asm) (by k_mem)) ?_; k_whole))
  k_with "exec If" => (refine wpAny_If ?_; (try dsimp only))
  k_with "ite" => first | with_reducible refine ite_no (by with_reducible assumption) ?_ | with_reducible refine ite_yes (by with_reducible assumption) ?_ | with_reducible refine ite_no (bnot_t (by with_reducible assumption)) ?_ | with_reducible refine ite_yes (bnot_f (by with_reducible assumption)) ?_ | (k_closed; first | with_reducible refine ite_yes (by decide +kernel) ?_ | with_reducible refine ite_no (by decide +kernel) ?_)
  k_with "truthy str" => (refine truthy_one (by with_reducible assumption) ?_; intro _; (try dsimp only))
  k_with "call ref" => (k_here; (with_reducible show wpAny _ _ (call (Value.ref 690) _) _ _ _); k_dflt (refine' c_rt (by first | exact Nat.le_of_ble_eq_true rfl | (simp only [depth_under_make, depth_under_kw, depth_in1, depth_deeper, depth_caller]; (try dsimp only [ktrTop]); omega)) (by assumption) (by assumption) (by assumption) (by assumption) _ _ _ _ _ _ _ _ _ _ _ _ _ _ _ (by k_asm) (by k_asm) (by k_asm) (by k_asm) (by k_asm) (by exact rfl) ?_); intro _ _ _ _ _ _ _; (try dsimp only); (try k_sweep))
  k_with "call ref" => (k_here; (with_reducible show wpAny _ _ (call (Value.ref 690) _) _ _ _); k_dflt (refine' c_rt2 (by first | exact Nat.le_of_ble_eq_true rfl | (simp only [depth_under_make, depth_under_kw, depth_in1, depth_deeper, depth_caller]; (try dsimp only [ktrTop]); omega)) (by assumption) (by assumption) _ _ _ _ _ _ _ _ _ _ _ _ _ _ _ (by k_asm) (by k_asm) (by k_asm) (by k_asm) (by k_asm) (by exact rfl) ?_); intro _ _ _ _ _ _; (try dsimp only); (try k_sweep))
  k_with "MAIN" =>
    dsimp only [CTN, LEDS]; intro gd cn cs a ccd cl outer A₀ base h₀ L m s Q E B F X0 N T hk hret
    obtain ⟨ck, cnm, cgen, cco, cmo⟩ := cs
    dsimp only at hk; subst hk
    have hO' := hO
    obtain ⟨⟨o1, o2, o3, o4, o5⟩, o6, o7⟩ := hO'
    k_dflt (refine' owit_next ?k1 ?k2 ?k3 ?k4 ?k5 ?_; (case k1 => k_asm); (case k2 => k_asm); (case k3 => k_inst); (case k4 => k_is); (case k5 => k_is))
    refine wpAny_call ?_
    k_dflt k_enter
    k_steps
    with_reducible (rename News _ _ _ _ => N9)
    with_reducible (rename Fr _ _ _ _ => F9)
    exact hret _ _ _ _ _ F9 N9
  refine kx_out ?_
  simp (disch := k_dflt (k_extra "MAIN")) only [↓kx_in]
theorem c_next2 {w : World} {mean : ExcName → Option Value} {mg mb : Str → Option Value} {D U : Nat} {news : List (Addr × Obj)} {fs pb sx sd lx ld : Addr} {k1 k2 k3 u1 tx tp t2 : Tok} {X : Str} {κ τ : Nat → Tok} {gd : Option (List Code)} {cn : Str} {cs : Scope} {a : Addr} {ccd : Value} {outer : List Env} {A₀ : Around} {base h₀ : Heap} {L : Addr} {m : Str → Option Value} {s : Shared} {Q : Option Value → Shared → Prop} {E : Value → Shared → Prop} (hD : D < 470)
   (hO : Ord fs pb sx sd lx ld news) (hX : X.length ≤ 1000)
   (B : Below A₀ base outer h₀) (F : Fr h₀ L s.heap m) (X0 : (Mine.pre.heap_1 w.params).In h₀) (N : News h₀ L s.heap (LEDS w fs pb sx sd lx ld k1 k2 k3 u1 X tx (.int X.length tp) κ τ .none (.str (Str.ofString "") t2) news))
   (T : Top Mine.PV LS mean mg mb h₀) (hk : cs.kind = .function) (KD : KtsDicts (outer.filterMap (·.frame)) h₀)
   (XB : (Mine.pre.heap_1 w.params).In base) (TB : Top Mine.PV LS mean mg mb base)
   (hret : ∀ g' h' tk', KtsTurn (outer.filterMap (·.frame)) h₀ g' → Fr g' L h' m → News g' L h' news → Below A₀ base outer g' → Q none { s with heap := h', toks := tk' }) :
   wpAny (model PG w) (ktrTop D U gd cn cs L a ccd [] outer) (pyNext (.ref lx)) Q E s := by
  w_top off
  k_with_none
  k_with "ROOM" => first | ((try simp only [depth_under_make, depth_under_kw, depth_in1, depth_deeper, depth_caller]); decide) | (show (_ : Nat) < 1000; (try simp only [depth_under_make, depth_under_kw, depth_in1, depth_deeper, depth_caller]); (try dsimp only [ktrTop]); omega)
  k_with "CELL" => (refine' kx_def (by exact rfl) (by exact rfl) (by first | exact rfl | assumption) (by k_asm) (by k_asm) (by k_asm) (by k_asm) (by k_asm) (by k_is) (by k_is) (by k_room) (by first | exact BindsTo.of_eq rfl | exact binds_K (by k_in) rfl (by k_is) rfl rfl rfl) (by decide) (by exact locs rfl) (by exact rfl) (by exact rfl) (by exact rfl) ?_; k_whole; intro _ _ _ _ _ _ kxBq _ _; (try dsimp only); (try k_lift kxBq); (try k_fold))
  k_with "ALL" => (first | exact List.forall_mem_nil _ | with_reducible assumption | with_reducible exact kx_tl (by assumption) | with_reducible exact kx_tl (kx_tl (by assumption)) | with_reducible exact kx_tl (kx_tl (kx_tl (by assumption))) | (refine' List.forall_mem_cons.mpr ⟨(by k_ne), ?_⟩; k_all))
  k_with "newList" => (k_here; refine' newList_K (by k_asm) (by k_asm) ?_; k_whole; intro _ _ _ _ kxl1; (try k_lt kxl1); (try k_sweep))
  k_with "eval Name" => (k_here; refine' name_K (by k_asm) (by k_asm) (by k_asm) (by k_is) ?_ (by with_unfolding_all rfl) (by kernel_rfl) (by kernel_rfl); k_whole)
  k_with "eval Name" => (k_here; refine' ld (by k_asm) (by with_unfolding_all rfl) ?_ (by with_unfolding_all rfl) (by kernel_rfl) (by kernel_rfl); k_whole)
  k_with "getAttr ref" => (k_here; refine' get_own (by k_asm) (by k_asm) (by k_inst) (by k_is) (by k_is) (by k_is) (by k_is) (by k_get) (by k_handed) ?_; k_whole)
  k_with "setAttr ref" => (k_here; refine' set_dict (by k_asm) (by k_asm) (by k_asm) (by k_inst) (by with_unfolding_all exact rfl) (by k_is) (by k_is) (by k_is) (by k_is) (by k_get) (by k_put) (by k_upd) (by exact Nat.le_of_ble_eq_true rfl) ?_; k_whole; intro _ _ _; (try k_sweep))
  k_with "last exec While" => (k_here; with_reducible refine whl_start 100 ?_)
  k_with "execs cons" => (refine wpAny_execs_cons ?_)
  k_with "execs nil" => (refine wpAny_execs_nil ?_)
  k_with "execs cons" => (refine' nst (s := s) (by k_asm) (by with_unfolding_all exact rfl) ?_; intro _; refine wpAny_execs_cons ?_)
  k_with "truthy ref" => (k_here; k_dflt (refine' dq_falsy (News.get (by k_asm) (by k_mem)) ?_; k_whole))
  k_with "exec If" => (refine wpAny_If ?_; (try dsimp only))
  k_with "ite" => first | with_reducible refine ite_no (by with_reducible assumption) ?_ | with_reducible refine ite_yes (by with_reducible assumption) ?_ | with_reducible refine ite_no (bnot_t (by with_reducible assumption)) ?_ | with_reducible refine ite_yes (bnot_f (by with_reducible assumption)) ?_ | (k_closed; first | with_reducible refine ite_yes (by decide +kernel) ?_ | with_reducible refine ite_no (by decide +kernel) ?_)
  k_with "truthy str" => (refine truthy_one (by with_reducible assumption) ?_; intro _; (try dsimp only))
  k_with "call ref" => (k_here; (with_reducible show wpAny _ _ (call (Value.ref 690) _) _ _ _); k_dflt (refine' c_rt (by first | exact Nat.le_of_ble_eq_true rfl | (simp only [depth_under_make, depth_under_kw, depth_in1, depth_deeper, depth_caller]; (try dsimp only [ktrTop]); omega)) (by assumption) (by assumption) (by assumption) (by assumption) _ _ _ _ _ _ _ _ _ _ _ _ _ _ _ (by k_asm) (by k_asm) (by k_asm) (by k_asm) (by k_asm) (by exact rfl) ?_); intro _ _ _ _ _ _ _; (try dsimp only); (try k_sweep))
  k_with "call ref" => (k_here; (with_reducible show wpAny _ _ (call (Value.ref 690) _) _ _ _); k_dflt (refine' c_rt2 (by first | exact Nat.le_of_ble_eq_true rfl | (simp only [depth_under_make, depth_under_kw, depth_in1, depth_deeper, depth_caller]; (try dsimp only [ktrTop]); omega)) (by assumption) (by assumption) _ _ _ _ _ _ _ _ _ _ _ _ _ _ _ (by k_asm) (by k_asm) (by k_asm) (by k_asm) (by k_asm) (by exact rfl) ?_); intro _ _ _ _ _ _; (try dsimp only); (try k_sweep))
  k_with "leaving ref" => (k_here; k_dflt (refine' leave_raiseS (by assumption) (by first | assumption | exact Heap.MadeExc.of (by assumption)) (by assumption) (by k_asm) ?_; k_whole); intro _ _ kxSq kxRq kxUq; (try dsimp only at kxSq kxRq kxUq ⊢); refine halt ?_)
  k_with "MAIN" =>
    obtain ⟨ck, cnm, cgen, cco, cmo⟩ := cs
    dsimp only at hk; subst hk
    dsimp only [LEDS] at N
    have hO' := hO
    obtain ⟨⟨o1, o2, o3, o4, o5⟩, o6, o7⟩ := hO'
    k_dflt (refine' owit_next ?k1 ?k2 ?k3 ?k4 ?k5 ?_; (case k1 => k_asm); (case k2 => k_asm); (case k3 => k_inst); (case k4 => k_is); (case k5 => k_is))
    refine wpAny_call ?_
    k_dflt k_enter
    k_steps
    refine unhalt ?_
    with_reducible (rename RaisedS _ _ _ _ _ _ _ _ _ => S5)
    with_reducible (rename Heap.UpToSlots _ _ => U5)
    obtain ⟨⟨B5, hB5, hBG, hl, hfl, hnew⟩, htup⟩ := S5
    have hL : B5.get? L = none := by
      obtain ⟨_, ⟨L', _, hf, hn', _⟩, _⟩ := hfl.2.2.1
      obtain rfl : L = L' := Option.some.inj hf
      exact hn'
    have fin : ∀ (g : Heap), Fr h₀ L g m → (∀ b o, g.get? b = some o → b ∉ (envOf cn ⟨.function, cnm, cgen, cco, cmo⟩ L a ccd :: outer).filterMap (·.frame) → B5.get? b = some o) → (∀ q ∈ news, g.get? q.1 = none) → g.UpToSlots _ → ∃ g6, KtsTurn (outer.filterMap (·.frame)) h₀ g6 ∧ Fr g6 L _ m ∧ Below A₀ base outer g6 ∧ ∀ q ∈ news, g6.get? q.1 = none :=
      fun g FG hBG hn U => by
        obtain ⟨g6, T6, F6, B6⟩ := kts_ground B FG hBG hfl.1 U
        exact ⟨g6, T6, F6, B6, fun q hq => T6.none_ _ (kts_none FG.keep (hn q hq))⟩
    obtain ⟨g6, T6, F6, B6, hn6⟩ := fin _ (by assumption) hBG (fun q hq => (hl q (.tail _ (.tail _ (.tail _ (.tail _ (.tail _ (.tail _ hq))))))).2.1) U5
    obtain ⟨ob, hob, hobc⟩ := (flyingW_base hB5 hfl).there
    unfold OwitStop
    refine wpAny_isInstance (T := "StopIteration") (b := true) ⟨ob, hob, hobc⟩ (by rw [isSubtype_type]; kernel_rfl) ?_
    rw [if_pos rfl]
    refine hret g6 _ _ T6 F6 (fun q hq => ?_) B6
    have hq' := hl q (.tail _ (.tail _ (.tail _ (.tail _ (.tail _ (.tail _ hq))))))
    exact ⟨hfl.1 _ _ hq'.1, (fun z => by have := hq'.1; rw [z, hL] at this; cases this), hn6 q hq⟩
  refine kx_out ?_
  simp (disch := k_dflt (k_extra "MAIN")) only [↓kx_in]
end
-- SP
section
open PySem PySem.W PySem.Calls PyProof.Rows
set_option maxHeartbeats 0
theorem c_split {w : World} {mean : ExcName → Option Value} {mg mb : Str → Option Value} {D U : Nat} {news : List (Addr × Obj)} {tx : Tok} {X : Str} {W : List Nat} {gd : Option (List Code)} {cn : Str} {cs : Scope} {a : Addr} {ccd : Value} {cl : List (Str × Addr)} {outer : List Env} {A₀ : Around} {base h₀ : Heap} {L : Addr} {m : Str → Option Value} {s : Shared} {Q E : Value → Shared → Prop} (hD : D < 400) (hU : U < 400)
   (hX : X.length ≤ 1000) (hrun : lexRun .sp [] (rest X 0) = some W) (hW : W ≠ [])
   (XB : (Mine.pre.heap_1 w.params).In base) (TB : Top Mine.PV LS mean mg mb base)
   (B : Below A₀ base outer h₀) (F : Fr h₀ L s.heap m) (X0 : (Mine.pre.heap_1 w.params).In h₀) (N : News h₀ L s.heap news)
   (T : Top Mine.PV LS mean mg mb h₀) (hk : cs.kind = .function) (KD : KtsDicts (frs outer) h₀)
   (hret : ∀ k' h' tk' S c tv, KtsTurn (frs outer) h₀ k' → Fr k' L h' m → News k' L h' ((S, listOf #[.str ⟨W.toArray⟩ tv] c) :: news) → (∀ p ∈ news, p.1 < S) → Below A₀ base outer k' → KtsDicts (frs outer) k' → Q (.ref S) { s with heap := h', toks := tk' }) :
   wpAny (model PG w) (ktrTop D U gd cn cs L a ccd cl outer) (call (.ref 734) [.str X tx]) Q E s := by
  w_top off
  k_with_none
  k_with "ROOM" => first | ((try simp only [depth_under_make, depth_under_kw, depth_in1, depth_deeper, depth_caller]); decide) | (show (_ : Nat) < 1000; (try simp only [depth_under_make, depth_under_kw, depth_in1, depth_deeper, depth_caller]); (try dsimp only [ktrTop]); omega)
  k_with "CELL" => (refine' kx_def (by exact rfl) (by exact rfl) (by first | exact rfl | assumption) (by k_asm) (by k_asm) (by k_asm) (by k_asm) (by k_asm) (by k_is) (by k_is) (by k_room) (by first | exact BindsTo.of_eq rfl | exact binds_K (by k_in) rfl (by k_is) rfl rfl rfl) (by decide) (by exact locs rfl) (by exact rfl) (by exact rfl) (by exact rfl) ?_; k_whole; intro _ _ _ _ _ _ kxBq _ _; (try dsimp only); (try k_lift kxBq); (try k_fold))
  k_with "ALL" => (first | exact List.forall_mem_nil _ | with_reducible assumption | with_reducible exact kx_tl (by assumption) | with_reducible exact kx_tl (kx_tl (by assumption)) | with_reducible exact kx_tl (kx_tl (kx_tl (by assumption))) | (refine' List.forall_mem_cons.mpr ⟨(by k_ne), ?_⟩; k_all))
  k_with "newList" => (k_here; refine' newList_K (by k_asm) (by k_asm) ?_; k_whole; intro _ _ _ _ kxl1; (try k_lt kxl1); (try k_sweep))
  k_with "eval Name" => (k_here; refine' name_K (by k_asm) (by k_asm) (by k_asm) (by k_is) ?_ (by with_unfolding_all rfl) (by kernel_rfl) (by kernel_rfl); k_whole)
  k_with "eval Name" => (k_here; refine' ld (by k_asm) (by with_unfolding_all rfl) ?_ (by with_unfolding_all rfl) (by kernel_rfl) (by kernel_rfl); k_whole)
  k_with "getAttr ref" => (k_here; refine' get_own (by k_asm) (by k_asm) (by k_inst) (by k_is) (by k_is) (by k_is) (by k_is) (by k_get) (by k_handed) ?_; k_whole)
  k_with "setAttr ref" => (k_here; refine' set_dict (by k_asm) (by k_asm) (by k_asm) (by k_inst) (by with_unfolding_all exact rfl) (by k_is) (by k_is) (by k_is) (by k_is) (by k_get) (by k_put) (by k_upd) (by exact Nat.le_of_ble_eq_true rfl) ?_; k_whole; intro _ _ _; (try k_sweep))
  k_with "last exec While" => (k_here; with_reducible refine whl_start 100 ?_)
  k_with "execs cons" => (refine wpAny_execs_cons ?_)
  k_with "execs nil" => (refine wpAny_execs_nil ?_)
  k_with "execs cons" => (refine' nst (s := s) (by k_asm) (by with_unfolding_all exact rfl) ?_; intro _; refine wpAny_execs_cons ?_)
  k_with "call ref" => (k_here; (with_reducible show wpAny _ _ (call (Value.ref 587) _) _ _ _); k_dflt (refine' make587 (by first | exact Nat.le_of_ble_eq_true rfl | (simp only [depth_under_make, depth_under_kw, depth_in1, depth_deeper, depth_caller]; (try dsimp only [ktrTop]); omega)) _ _ _ _ _ _ _ _ _ _ _ _ _ _ _ (by k_asm) (by k_asm) (by k_asm) (by k_asm) (by k_asm) (by exact rfl) ?_); intro _ _ _ _ _ _ _ _ _ _ _ kxl1 kxl2; (try k_lt kxl1); (try k_lt2 kxl2); (try dsimp only); (try k_sweep))
  k_with "call type:collections.deque" => (k_here; k_dflt (refine' dq_new (by k_asm) (by k_asm) ?_; k_whole); intro _ _ _ _ kxl1; (try k_lt kxl1); (try dsimp only); (try k_sweep))
  k_with "truthy ref" => (k_here; k_dflt (refine' dq_falsy (News.get (by k_asm) (by k_mem)) ?_; k_whole))
  k_with "exec If" => (refine wpAny_If ?_; (try dsimp only))
  k_with "ite" => first | with_reducible refine ite_no (by with_reducible assumption) ?_ | with_reducible refine ite_yes (by with_reducible assumption) ?_ | with_reducible refine ite_no (bnot_t (by with_reducible assumption)) ?_ | with_reducible refine ite_yes (bnot_f (by with_reducible assumption)) ?_ | (k_closed; first | with_reducible refine ite_yes (by decide +kernel) ?_ | with_reducible refine ite_no (by decide +kernel) ?_)
  k_with "truthy str" => (refine truthy_one (by with_reducible assumption) ?_; intro _; (try dsimp only))
  k_with "MAIN" =>
    obtain ⟨ck, cnm, cgen, cco, cmo⟩ := cs
    dsimp only at hk; subst hk
    refine wpAny_call ?_
    k_dflt (refine' code_T ?k1 ?k2 ?k3 ?k4 ?k5 ?kD ?kA ?kF ?kK ?k6 ?k7 ?k8 ?k9 ?kB ?_ ?c2 ?c3 ?c4 ?c5; (case kA => exact rfl); (case kF => exact rfl); (case kK => exact rfl); (case k1 => k_asm); (case k2 => k_asm); (case k3 => k_asm); (case k4 => k_asm); (case k5 => k_asm); (case kD => assumption); (case k6 => k_is); (case k7 => k_is); (case k8 => k_room); (case k9 => first | exact BindsTo.of_eq rfl | exact binds_K (by k_in) rfl (by k_is) rfl rfl rfl); (case c5 => decide); (case kB => exact locs rfl); (case c2 => exact rfl); (case c3 => exact rfl); (case c4 => exact rfl); k_whole)
    intro g L1 h1 FG F1 N1 B1 X1 T1 D1
    (try dsimp only); (try k_fold)
    k_steps
    with_reducible (rename News _ _ _ _ => N9)
    with_reducible (rename Fr _ _ _ _ => F9)
    obtain ⟨κ, τ, N8⟩ := to_leds N9
    clear N9
    have hO := ord_mk N8 ⟨by omega, by omega, by omega, by omega, by omega⟩ (by first | assumption | exact tl_lt (by assumption) | exact tl_lt (tl_lt (by assumption)) | exact tl_lt (tl_lt (tl_lt (by assumption))) | exact tl_lt (tl_lt (tl_lt (tl_lt (by assumption)))) | exact tl_lt (tl_lt (tl_lt (tl_lt (tl_lt (by assumption)))))) (by first | assumption | exact tl_lt (by assumption) | exact tl_lt (tl_lt (by assumption)) | exact tl_lt (tl_lt (tl_lt (by assumption))) | exact tl_lt (tl_lt (tl_lt (tl_lt (by assumption)))) | exact tl_lt (tl_lt (tl_lt (tl_lt (tl_lt (by assumption))))))
    refine list_lex F9 N8 X1 (.tail _ (.tail _ (.tail _ (.tail _ (.head _))))) ?it ?nx
    case it =>
      dsimp only [LEDS]
      intro S c h tk Q' F6 N6 l6 hq
      k_dflt (refine' owit_iter ?k1 ?k2 ?k3 ?k4 ?k5 ?_; (case k1 => k_asm); (case k2 => k_asm); (case k3 => k_inst); (case k4 => k_is); (case k5 => k_is))
      refine wpAny_call ?_
      k_dflt k_enter
      k_steps
      with_reducible (rename News _ _ _ _ => N7)
      with_reducible (rename Fr _ _ _ _ => F7)
      exact hq _ _ F7 N7
    case nx =>
      intro S c h tk F6 N6 l6
      have hOS := hO S (listOf #[] c) (l6 _ (.head _))
      refine c_next1 ?hD hOS hX hrun hW _ _ _ _ _ _ _ _ _ _ _ _ _ _ _ B1 F6 X1 (news_mv N6) T1 rfl ?_
      case hD => simp only [depth_in1, depth_deeper]; (try dsimp only [ktrTop]); omega
      intro h' tk' tv tp' tt F7 N7
      refine ⟨_, h', tk', _, rfl, rfl, F7, news_mb N7, leds_lt l6, ?_⟩
      intro c' h3 F8 N8
      refine c_next2 ?hD2 (hO S (listOf #[_] c') (l6 _ (.head _))) hX B1 F8 X1 (news_mv N8) T1 rfl D1 XB TB ?_
      case hD2 => simp only [depth_in1, depth_deeper]; (try dsimp only [ktrTop]); omega
      intro g6 h6 tk6 T6 F6' N6' B6
      refine ⟨rfl, ?_⟩
      refine ⟨g6, L1, _, _, T6, F6', N6', fun k' TK FK NK BK DK => ?_⟩
      exact hret k' h6 tk6 S c' _ TK FK NK (fun p hp => l6 p (.tail _ (.tail _ (.tail _ (.tail _ (.tail _ (.tail _ hp))))))) BK DK
  refine kx_out ?_
  simp (disch := k_dflt (k_extra "MAIN")) only [↓kx_in]
end
-- AP
section
open PySem PySem.W PySem.Calls PyProof.Rows
set_option maxHeartbeats 0
noncomputable def API (g : Heap) (L1 : Addr) (s : Shared) (news : List (Addr × Obj)) (x y : Int) (c : Int × Int) (s' : Shared) : Prop :=
  ∃ h tk m' t1 t2, s' = { s with heap := h, toks := tk } ∧ Fr g L1 h m' ∧ m' (Str.ofString "x") = some (.int c.1 t1) ∧ m' (Str.ofString "y") = some (.int c.2 t2) ∧ News g L1 h news ∧ 0 ≤ c.1 ∧ 0 ≤ c.2 ∧ Int.gcd c.1 c.2 = Int.gcd x y
theorem API.intro {g : Heap} {L1 : Addr} {s : Shared} {news : List (Addr × Obj)} {x y : Int} {h : Heap} {tk : Nat} {m' : Str → Option Value} {t1 t2 : Tok} {a b : Int} (F : Fr g L1 h m') (m1 : m' (Str.ofString "x") = some (.int a t1)) (m2 : m' (Str.ofString "y") = some (.int b t2)) (N : News g L1 h news) (ha : 0 ≤ a) (hb : 0 ≤ b) (hg : Int.gcd a b = Int.gcd x y) :
    API g L1 s news x y (a, b) { s with heap := h, toks := tk } := ⟨h, tk, m', t1, t2, rfl, F, m1, m2, N, ha, hb, hg⟩
theorem gcd_step {a b : Int} (ha0 : 0 ≤ a) (hb0 : 0 ≤ b) : Int.gcd b (Int.fmod a b) = Int.gcd a b := by
  rw [Int.fmod_eq_emod_of_nonneg a hb0]
  obtain ⟨m, rfl⟩ := Int.eq_ofNat_of_zero_le ha0
  obtain ⟨n, rfl⟩ := Int.eq_ofNat_of_zero_le hb0
  show Nat.gcd n (m % n) = Nat.gcd m n
  rw [Nat.gcd_comm n (m % n), Nat.gcd_comm m n, Nat.gcd_rec n m]
theorem fmod_meas {a b : Int} (hb : b ≠ 0) (hb0 : 0 ≤ b) : (Int.fmod a b).toNat < b.toNat := by
  rw [Int.fmod_eq_emod_of_nonneg a hb0]
  have := Int.emod_lt_of_pos a (show 0 < b by omega)
  have := Int.emod_nonneg a hb
  omega
theorem fmod_nn {a b : Int} (hb : b ≠ 0) (hb0 : 0 ≤ b) : 0 ≤ Int.fmod a b := by
  rw [Int.fmod_eq_emod_of_nonneg a hb0]
  exact Int.emod_nonneg a hb
theorem c_apart {w : World} {mean : ExcName → Option Value} {mg mb : Str → Option Value} {D U : Nat} {news : List (Addr × Obj)} {t1 t2 : Tok} {x y : Int} (hD : D < 480) (hx : 0 ≤ x) (hy : 0 ≤ y) :
    CT w mean mg mb D U 860 [.int x t1, .int y t2] news (fun h₀ L m s Q => ∀ h' tk', Fr h₀ L h' m → News h₀ L h' news → Q (.bool (decide (Int.gcd x y = 1))) { s with heap := h', toks := tk' }) := by
  w_top off
  k_with_none
  k_with "ROOM" => first | ((try simp only [depth_under_make, depth_under_kw, depth_in1, depth_deeper, depth_caller]); decide) | (show (_ : Nat) < 1000; (try simp only [depth_under_make, depth_under_kw, depth_in1, depth_deeper, depth_caller]); (try dsimp only [ktrTop]); omega)
  k_with "CELL" => (refine' kx_def (by exact rfl) (by exact rfl) (by first | exact rfl | assumption) (by k_asm) (by k_asm) (by k_asm) (by k_asm) (by k_asm) (by k_is) (by k_is) (by k_room) (by first | exact BindsTo.of_eq rfl | exact binds_K (by k_in) rfl (by k_is) rfl rfl rfl) (by decide) (by exact locs rfl) (by exact rfl) (by exact rfl) (by exact rfl) ?_; k_whole; intro _ _ _ _ _ _ kxBq _ _; (try dsimp only); (try k_lift kxBq); (try k_fold))
  k_with "ALL" => (first | exact List.forall_mem_nil _ | with_reducible assumption | with_reducible exact kx_tl (by assumption) | with_reducible exact kx_tl (kx_tl (by assumption)) | with_reducible exact kx_tl (kx_tl (kx_tl (by assumption))) | (refine' List.forall_mem_cons.mpr ⟨(by k_ne), ?_⟩; k_all))
  k_with "newList" => (k_here; refine' newList_K (by k_asm) (by k_asm) ?_; k_whole; intro _ _ _ _ kxl1; (try k_lt kxl1); (try k_sweep))
  k_with "eval Name" => (k_here; refine' name_K (by k_asm) (by k_asm) (by k_asm) (by k_is) ?_ (by with_unfolding_all rfl) (by kernel_rfl) (by kernel_rfl); k_whole)
  k_with "eval Name" => (k_here; refine' ld (by k_asm) (by with_unfolding_all rfl) ?_ (by with_unfolding_all rfl) (by kernel_rfl) (by kernel_rfl); k_whole)
  k_with "getAttr ref" => (k_here; refine' get_own (by k_asm) (by k_asm) (by k_inst) (by k_is) (by k_is) (by k_is) (by k_is) (by k_get) (by k_handed) ?_; k_whole)
  k_with "setAttr ref" => (k_here; refine' set_dict (by k_asm) (by k_asm) (by k_asm) (by k_inst) (by with_unfolding_all exact rfl) (by k_is) (by k_is) (by k_is) (by k_is) (by k_get) (by k_put) (by k_upd) (by exact Nat.le_of_ble_eq_true rfl) ?_; k_whole; intro _ _ _; (try k_sweep))
  k_with "last exec While" => (k_here; with_reducible refine whl_start 100 ?_)
  k_with "exec If" => (refine wpAny_If ?_; (try dsimp only))
  k_with "WhlRest" => refine halt ?_
  k_with "exec While" => (k_here; k_dflt (refine whl_start 0 ?_))
  k_with "exec While Compare" => (k_here; k_dflt (refine whl_start 0 ?_))
  k_with "exec While Compare cons nil" => (k_here; k_dflt (refine whl_start 0 ?_))
  k_with "MAIN" =>
    dsimp only [CT]; intro gd cn cs a ccd cl outer A₀ base h₀ L m s Q E B F X0 N T hk hret
    obtain ⟨ck, cnm, cgen, cco, cmo⟩ := cs
    dsimp only at hk; subst hk
    refine wpAny_call ?_
    k_dflt k_enter
    rename_i g L1 h1 FG F1 N1 B1 X1 T1
    k_steps
    with_reducible (rename News _ _ _ _ => N2)
    with_reducible (rename Fr _ _ _ _ => F2)
    refine unhalt ?_
    refine whl_ind (API g L1 s news x y) (fun c => c.2.toNat) ?step (x, y) _ _ ?start
    case start => exact API.intro F2 rfl rfl N2 hx hy rfl
    case step =>
      clear F2 N2
      rintro ⟨a, b⟩ s' k ⟨h, tk, m', u1, u2, rfl, F3, m1, m2, N3, p0, p1, hg⟩ IH
      dsimp only at m1 m2 p0 p1 hg IH
      have em : m' = (fun z => if z = Str.ofString "x" then some (Value.int a u1) else if z = Str.ofString "y" then some (Value.int b u2) else m' z) := by
        funext z
        by_cases h1 : z = Str.ofString "x"
        · rw [if_pos h1, h1, m1]
        · rw [if_neg h1]
          by_cases h2 : z = Str.ofString "y"
          · rw [if_pos h2, h2, m2]
          · rw [if_neg h2]
      rw [em] at F3
      clear em
      refine whl_turn (k := 0) (by first | passes_own | with_unfolding_all passes_own) ?_
      k_steps
      by_cases hb : b = 0
      · subst hb
        refine WhlIf.no (by decide) ?_
        k_steps
        with_reducible (rename News _ _ _ _ => N9)
        with_reducible (rename Fr _ _ _ _ => F9)
        have e : decide (Int.gcd x y = 1) = (a == 1) := by
          rw [← hg, Int.gcd_zero_right]
          by_cases h : a = 1
          · subst h; rfl
          · rw [beq_eq_false_iff_ne.mpr h, decide_eq_false]; omega
        rw [e] at hret
        exact hret _ _ F9 N9
      · refine WhlIf.yes (by simpa using hb) ?_
        k_steps
        with_reducible (rename News _ _ _ _ => N9)
        with_reducible (rename Fr _ _ _ _ => F9)
        exact unhalt (IH (b, Int.fmod a b) _ _ (fmod_meas hb p1) (API.intro F9 rfl rfl (news_tl N9) p1 (fmod_nn hb p1) ((gcd_step p0 p1).trans hg)))
  refine kx_out ?_
  simp (disch := k_dflt (k_extra "MAIN")) only [↓kx_in]
end
-- IX
section
open PySem PySem.W PySem.Calls PyProof.Rows
section
variable {prog : Program} {w : World} {A : Around} {E : Value → Shared → Prop} {s : Shared} {env : Env} {h₀ : Heap} {target : Expr} {body : List Stmt} {Q : Flow → Shared → Prop}
/-- Only a `return` leaves the loop. -/
noncomputable def OnlyRet (Q : Flow → Shared → Prop) (f : Flow) (s : Shared) : Prop := match f with | .ret v => Q (.ret v) s | _ => False
theorem loop_ret {orelse : List Stmt} {it : Value} (hE : PassesOwn (model prog w) A env E)
    (T : TurnsAt prog w A h₀ env target body (OnlyRet Q) E it s) : codeAny (model prog w) A (.forLoop target it body orelse env) (fun r s' => match r with | .ok f => Q f s' | .error e => cameBackBy (model prog w) A env E e s') s := by
  obtain ⟨I, fp, wr, n, P, Md, St, m, news, J, rfl, W, hLf, hwr, hnw, hst, F, N, h0, step, hQ⟩ := T
  refine codeAny_forLoop_any
    (fun k s' => ∃ h' tk m' news' i, s' = { s with heap := h', toks := tk } ∧ St i h' ∧ Fr h₀ env.locals h' m' ∧ News h₀ env.locals h' news' ∧ (∀ p ∈ news', p.1 ∉ wr) ∧ J i m' news' ∧ i ≤ n ∧ k = n - i) ?_ n
    ⟨s.heap, s.toks, m, news, 0, rfl, hst, F, N, hnw, h0, Nat.zero_le _, rfl⟩
  rintro k s' ⟨h', tk, m', news', i, rfl, hst', F', N', hnw', hJ, hi, rfl⟩
  by_cases hlt : i < n
  · have old : ∀ b o, h₀.get? b = some o → b ∉ wr := fun b o e hb => by rw [hwr b hb] at e; cases e
    have hLw : env.locals ∉ wr := fun h => hLf (W.sub _ h)
    refine W.item i _ _ _ hlt hst' fun v h₁ tk₁ hMd hk₁ => W.go i v _ _ _ hMd fun h₂ hP hst₂ hk₂ => ?_
    have hk : ∀ b o, b ∉ wr → h'.get? b = some o → h₂.get? b = some o := fun b o hb x => hk₂ b o hb (hk₁ b o hb x)
    have F₂ : Fr h₀ env.locals h₂ m' := ⟨F'.ns.at' fun o e => hk _ o hLw e, fun b o e => hk b o (old b o e) (F'.keep b o e), F'.above⟩
    have N₂ : News h₀ env.locals h₂ news' := fun p hp => ⟨hk _ _ (hnw' p hp) (N' p hp).1, (N' p hp).2⟩
    have No : News h₀ env.locals h₂ (PyProof.Rows.ownOf h₀ fp h₂) := news_ownOf hLf
    have back : ∀ s₃, LoopStepU h₀ env.locals wr (PyProof.Rows.ownOf h₀ fp h₂) (J (i + 1)) { s with heap := h₂, toks := tk₁ } .next s₃ →
        ∃ k', k' < n - i ∧ ∃ h' tk m' news' i, s₃ = { s with heap := h', toks := tk } ∧ St i h' ∧ Fr h₀ env.locals h' m' ∧ News h₀ env.locals h' news' ∧ (∀ p ∈ news', p.1 ∉ wr) ∧ J i m' news' ∧ i ≤ n ∧ k' = n - i := by
      rintro s₃ ⟨_, h₃, tk₃, m₃, news₃, rfl, F₃, N₃, ha₃, hJ₃⟩
      refine ⟨n - (i + 1), by omega, h₃, tk₃, m₃, news₃, i + 1, rfl, W.frame _ _ _ hst₂ fun b hb o e => ?_, F₃, N₃.right, ha₃, hJ₃, hlt, rfl⟩
      cases hn : h₀.get? b with
      | none => exact (N₃ _ (List.mem_append_left _ (mem_ownOf hb hn e))).1
      | some o₀ =>
        have q := F₂.keep b o₀ hn
        rw [e] at q
        cases q
        exact F₃.keep b _ hn
    refine wpAny_mono (step i v m' news' h₂ tk₁ (PyProof.Rows.ownOf h₀ fp h₂) hlt hP hJ hnw' ownOf_sub (fun p hp => (No p hp).1) (fun b hb hn o e => mem_ownOf hb hn e) hst₂ F₂ (No.append N₂))
      (fun _ s₂ x => wpAny_mono x (fun f s₃ y => ?_) hE) hE
    cases f with
    | ret v => exact y
    | brk => exact (show False from y).elim
    | cont => exact back _ y
    | next => exact back _ y
  · have e : i = n := by omega
    subst e
    exact (show False from hQ h' tk m' news' F' N' hnw' hJ).elim
theorem For_ret {iter : Expr} {orelse : List Stmt} {pos : Pos} {m : Str → Option Value} (_F : Fr h₀ env.locals s.heap m)
    (h : wpAny (model prog w) A (eval iter env) (fun xv s₁ => wpAny (model prog w) A (pyIter xv) (fun it s₂ => TurnsAt prog w A h₀ env target body (OnlyRet Q) E it s₂) E s₁) E s)
    (hs : ∀ x, foldedSetIterable iter env x = pure x := by intro _; rfl)
    (hE : PassesOwn (model prog w) A env E := by passes_own) :
    wpAny (model prog w) A (exec (.For target iter body orelse pos) env) Q E s :=
  wpAny_For (wpAny_mono h (fun _ _ h₁ => wpAny_mono h₁ (fun _ _ h₂ => loop_ret hE h₂) fun _ _ e => e) fun _ _ e => e) hs
theorem enum_ind {ws : List (Addr × String)} {keep : List (Addr × Obj)} (vs : List Value) (Inv : Nat → (Str → Option Value) → List (Addr × Obj) → Prop)
    (step : ∀ i v m news r, vs.drop i = v :: r → vs[i]? = some v → Inv i m news → (∀ m' news', Inv (i + 1) m' news' → ItemsRest prog w A E h₀ env target body Q s ws keep (enumItems (i + 1) r) m' news') →
      ItemsRest prog w A E h₀ env target body Q s ws keep (.pair (fun t => .int (i : Int) t) v :: enumItems (i + 1) r) m news)
    (stop : ∀ m news, Inv vs.length m news → ItemsRest prog w A E h₀ env target body Q s ws keep [] m news) :
    ∀ {m news}, Inv 0 m news → ItemsRest prog w A E h₀ env target body Q s ws keep (enumItems 0 vs) m news := by
  have go : ∀ (r : List Value) (i : Nat) m news, vs.drop i = r → i + r.length = vs.length → Inv i m news → ItemsRest prog w A E h₀ env target body Q s ws keep (enumItems i r) m news := by
    intro r
    induction r with
    | nil => intro i m news _ e h; exact stop _ _ (by rw [← e]; exact h)
    | cons v r ih =>
      intro i m news hd e h
      have hv : vs[i]? = some v := by rw [← List.head?_drop, hd]; rfl
      have hd' : vs.drop (i + 1) = r := by rw [← List.tail_drop, hd]; rfl
      exact step i v m news r hd hv h fun m' news' h' => ih (i + 1) m' news' hd' (by simpa [Nat.add_comm, Nat.add_left_comm] using e) h'
  intro m news h
  exact go vs 0 m news rfl (by simp) h
end
section
variable {M : Model} {A : Around} {E : Value → Shared → Prop} {s : Shared} {Q : Value → Shared → Prop} {p q : Int} {t u : Tok}
theorem is_int_eq (ht : t ≠ 0) (hu : u ≠ 0) (hs : smallInt p = true) (h : Q (.bool true) s) : wpAny M A (compareOp .Is (.int p t) (.int p u)) Q E s := by
  show wpAny M A (do return .bool (← isSame (.int p t) (.int p u))) Q E s
  refine wpAny_bind ?_
  show wpAny M A (if (p == p && smallInt p) = true then isSame.cachedInt t u else isSame.created (p == p) t u) _ E s
  rw [if_pos (by rw [beq_self_eq_true, hs]; rfl)]
  unfold isSame.cachedInt
  rw [if_neg (by simp [ht, hu])]
  exact wpAny_bind (wpAny_rule (wpAny_pure (wpAny_pure h)))
theorem is_int_ne (hpq : ¬p = q) (ht : t ≠ 0) (hu : u ≠ 0) (htu : t ≠ u) (h : Q (.bool false) s) : wpAny M A (compareOp .Is (.int p t) (.int q u)) Q E s := by
  show wpAny M A (do return .bool (← isSame (.int p t) (.int q u))) Q E s
  refine wpAny_bind ?_
  show wpAny M A (if (p == q && smallInt p) = true then isSame.cachedInt t u else isSame.created (p == q) t u) _ E s
  have e : (p == q) = false := beq_eq_false_iff_ne.mpr hpq
  rw [e, if_neg (by simp)]
  unfold isSame.created
  refine wpAny_ite ?_
  split
  · rename_i h1; simp [ht, hu] at h1
  refine wpAny_ite ?_
  split
  · rename_i h1; exact absurd (by simpa using h1) htu
  · exact wpAny_pure (wpAny_pure h)
end
end
-- IX2
section
open PySem PySem.W PySem.Calls PyProof.Rows
set_option maxHeartbeats 0
noncomputable def TokOk (b : Int) (tb : Tok) (v : Value) : Prop := ∃ n t, v = .int n t ∧ t ≠ 0 ∧ (n ≠ b → t ≠ tb)
noncomputable def IXI (ns : List Int) (b : Int) (tb : Tok) (news : List (Addr × Obj)) (i : Nat) (m : Str → Option Value) (news' : List (Addr × Obj)) : Prop :=
  m (Str.ofString "b") = some (.int b tb) ∧ news' = news ∧ b ∈ ns.drop i ∧ ns.idxOf b = i + (ns.drop i).idxOf b
theorem only_ret {Q : Flow → Shared → Prop} {v : Value} {s : Shared} (h : Q (.ret v) s) : OnlyRet Q (.ret v) s := h
theorem off_two {I : Addr} {o₁ o₂ : Obj} : ∀ {news : List (Addr × Obj)}, AllLt I news → ∀ p ∈ news, ∀ q ∈ [(I + 1, o₁), (I, o₂)], p.1 ≠ q.1
  | [], _, _, hp, _, _ => nomatch hp
  | a :: r, h, p, hp, q, hq => by
    rcases List.mem_cons.mp hp with rfl | hp
    · have h1 : @LT.lt Nat _ p.1 I := h.1
      rcases List.mem_cons.mp hq with rfl | hq
      · intro e
        have e' : @Eq Nat p.1 (I + 1) := e
        omega
      · rw [List.mem_singleton.mp hq]
        intro e
        have e' : @Eq Nat p.1 I := e
        omega
    · exact off_two h.2 p hp q hq
theorem c_index {w : World} {mean : ExcName → Option Value} {mg mb : Str → Option Value} {D U : Nat} {news : List (Addr × Obj)} {l : Addr} {c : Nat} {vs : List Value} {ns : List Int} {tb : Tok} {b : Int} (hD : D < 480) (hi : IntsAre vs ns) (hb : b ∈ ns) (ht : ∀ v ∈ vs, TokOk b tb v) (htb : tb ≠ 0) (hs : smallInt b = true) :
    CT w mean mg mb D U 834 [.ref l, .int b tb] ((l, listOf vs.toArray c) :: news) (fun h₀ L m s Q => ∀ h' tk' t, Fr h₀ L h' m → News h₀ L h' ((l, listOf vs.toArray c) :: news) → Q (.int (ns.idxOf b) t) { s with heap := h', toks := tk' }) := by
  w_top off
  k_with_none
  k_with "ROOM" => first | ((try simp only [depth_under_make, depth_under_kw, depth_in1, depth_deeper, depth_caller]); decide) | (show (_ : Nat) < 1000; (try simp only [depth_under_make, depth_under_kw, depth_in1, depth_deeper, depth_caller]); (try dsimp only [ktrTop]); omega)
  k_with "CELL" => (refine' kx_def (by exact rfl) (by exact rfl) (by first | exact rfl | assumption) (by k_asm) (by k_asm) (by k_asm) (by k_asm) (by k_asm) (by k_is) (by k_is) (by k_room) (by first | exact BindsTo.of_eq rfl | exact binds_K (by k_in) rfl (by k_is) rfl rfl rfl) (by decide) (by exact locs rfl) (by exact rfl) (by exact rfl) (by exact rfl) ?_; k_whole; intro _ _ _ _ _ _ kxBq _ _; (try dsimp only); (try k_lift kxBq); (try k_fold))
  k_with "ALL" => (first | exact List.forall_mem_nil _ | with_reducible assumption | with_reducible exact kx_tl (by assumption) | with_reducible exact kx_tl (kx_tl (by assumption)) | with_reducible exact kx_tl (kx_tl (kx_tl (by assumption))) | (refine' List.forall_mem_cons.mpr ⟨(by k_ne), ?_⟩; k_all))
  k_with "newList" => (k_here; refine' newList_K (by k_asm) (by k_asm) ?_; k_whole; intro _ _ _ _ kxl1; (try k_lt kxl1); (try k_sweep))
  k_with "eval Name" => (k_here; refine' name_K (by k_asm) (by k_asm) (by k_asm) (by k_is) ?_ (by with_unfolding_all rfl) (by kernel_rfl) (by kernel_rfl); k_whole)
  k_with "eval Name" => (k_here; refine' ld (by k_asm) (by with_unfolding_all rfl) ?_ (by with_unfolding_all rfl) (by kernel_rfl) (by kernel_rfl); k_whole)
  k_with "getAttr ref" => (k_here; refine' get_own (by k_asm) (by k_asm) (by k_inst) (by k_is) (by k_is) (by k_is) (by k_is) (by k_get) (by k_handed) ?_; k_whole)
  k_with "setAttr ref" => (k_here; refine' set_dict (by k_asm) (by k_asm) (by k_asm) (by k_inst) (by with_unfolding_all exact rfl) (by k_is) (by k_is) (by k_is) (by k_is) (by k_get) (by k_put) (by k_upd) (by exact Nat.le_of_ble_eq_true rfl) ?_; k_whole; intro _ _ _; (try k_sweep))
  k_with "last exec While" => (k_here; with_reducible refine whl_start 100 ?_)
  k_with "exec If" => ((try k_fold); refine wpAny_If ?_; (try dsimp only))
  k_with "ItemsRest" => (with_unfolding_all refine ItemsRest.pair (fun T' t' h' tk' hT' F' => ?_)); (try dsimp only at hT'); ktu_objs
  k_with "exec For Tuple Call cons cons" => (k_here; (with_reducible rename Fr _ _ _ _ => kxlFq); (with_unfolding_all refine' For_ret kxlFq ?_; k_whole))
  k_with "exec For" => (k_here; (with_reducible rename Fr _ _ _ _ => kxlFq); (with_unfolding_all refine' For_ret kxlFq ?_; k_whole))
  k_with "call type:enumerate" => (k_here; (with_reducible rename Fr _ _ _ _ => kxlFq); (with_reducible rename News _ _ _ _ => kxlNq); (with_unfolding_all refine ktu_enum (lo := listOf (Array.mk _) _) (vs := _) (by rfl) kxlFq kxlNq (by k_mem) (by rfl) (by rfl) (by rfl) ?_); clear kxlFq; intro _ kxl1; (try k_lt kxl1); refine halt ?_)
  k_with "compareOp Is" => (k_here; (with_reducible show wpAny _ _ (compareOp CmpOp.Is (Value.int _ _) (Value.int _ _)) _ _ _); first | (with_reducible refine is_int_eq (by assumption) (by assumption) (by assumption) ?_) | (with_reducible refine is_int_ne (by assumption) (by assumption) (by assumption) (by assumption) ?_))
  k_with "compareOp Is int int" => (k_here; first | (with_reducible refine is_int_eq (by assumption) (by assumption) (by assumption) ?_) | (with_reducible refine is_int_ne (by assumption) (by assumption) (by assumption) (by assumption) ?_))
  k_with "MAIN" =>
    dsimp only [CT]; intro gd cn cs a ccd cl outer A₀ base h₀ L m s Q E B F X0 N T hk hret
    obtain ⟨ck, cnm, cgen, cco, cmo⟩ := cs
    dsimp only at hk; subst hk
    refine wpAny_call ?_
    k_dflt k_enter
    rename_i g L1 h1 FG F1 N1 B1 X1 T1
    k_steps
    refine unhalt ?_
    refine enum_ind vs (IXI ns b tb ((l, W.listOf vs.toArray c) :: news)) ?step ?stop ?start
    case start => exact ⟨rfl, rfl, hb, by rw [List.drop_zero, Nat.zero_add]⟩
    case stop =>
      rintro m2 n2 ⟨-, -, h3, -⟩
      rw [IntsAre.length hi, List.drop_length] at h3
      exact absurd h3 (List.not_mem_nil)
    case step =>
      rintro i v m2 n2 r hd hv ⟨m1, rfl, h3, h4⟩ IH
      obtain ⟨n, tn, rfl, hn⟩ := IntsAre.at hi i v hv
      obtain ⟨n2, tn2, e2, h9, h10⟩ := ht _ (List.mem_of_getElem? hv)
      cases e2
      have hdn : ns.drop i = n :: ns.drop (i + 1) := by
        obtain ⟨h5, h6⟩ := List.getElem?_eq_some_iff.mp hn
        rw [List.drop_eq_getElem_cons h5, h6]
      have em : m2 = (fun z => if z = Str.ofString "b" then some (Value.int b tb) else m2 z) := by
        funext z
        by_cases h1 : z = Str.ofString "b"
        · rw [if_pos h1, h1, m1]
        · rw [if_neg h1]
      rw [em]
      clear em
      by_cases hnb : n = b
      · subst hnb
        clear IH
        k_steps
        refine only_ret ?_
        k_steps
        with_reducible (rename News _ _ _ _ => N9)
        with_reducible (rename Fr _ _ _ _ => F9)
        have e : ns.idxOf n = i := by rw [h4, hdn, List.idxOf_cons_self]; rfl
        rw [e] at hret
        exact hret _ _ _ F9 (news_tl (news_tl N9))
      · have h11 := h10 hnb
        k_steps
        all_goals first | exact absurd (by with_reducible assumption) hnb | skip
        with_reducible (rename News _ _ _ _ => N9)
        with_reducible (rename Fr _ _ _ _ => F9)
        with_reducible (rename _ ∧ AllLt _ _ => l1)
        refine ⟨_, _, _, (l, W.listOf vs.toArray c) :: news, rfl, F9, N9, off_two l1, ⟨⟨List.mem_cons_self, trivial⟩, IH _ _ ⟨rfl, rfl, ?_, ?_⟩⟩⟩
        · rw [hdn] at h3
          rcases List.mem_cons.mp h3 with h | h
          · exact absurd h.symm hnb
          · exact h
        · rw [h4, hdn, List.idxOf_cons, beq_eq_false_iff_ne.mpr hnb, cond_false]
          omega
  refine kx_out ?_
  simp (disch := k_dflt (k_extra "MAIN")) only [↓kx_in]
end
-- TN
section
open PySem PySem.W PySem.Calls PyProof.Rows
set_option maxHeartbeats 0
theorem gen_tk {α : Type} {M : Model} {A : Around} {t : Sem α} {h : Heap} {g : Array GenState} {d : Drawn} {os : OsState} {Q : α → Shared → Prop} {E : Value → Shared → Prop} {a b : Nat} (H : ∀ q, a ≤ q → wpAny M A t Q E ⟨h, g, d, q, os⟩) : wpAny M A t Q E ⟨h, g, d, a + b, os⟩ := H _ (Nat.le_add_right _ _)
theorem min_three' {prog : Program} {w : World} {A : Around} {E : Value → Shared → Prop} {s : Shared} {h₀ : Heap} {L l : Addr} {m : Str → Option Value} {news : List (Addr × Obj)} {Q : Value → Shared → Prop} {a b c : Int} {ta tb tc : Tok} {k : Nat} (hh : A.handled = none) (F : Fr h₀ L s.heap m) (N : News h₀ L s.heap news)
    (hm : (l, listOf #[.int a ta, .int b tb, .int c tc] k) ∈ news)
    (h : ∀ h' tk M t, Fr h₀ L h' m → News h₀ L h' news → ((M = a ∧ t = ta) ∨ (M = b ∧ t = tb) ∨ (M = c ∧ t = tc)) → (M ≤ a ∧ M ≤ b ∧ M ≤ c) → Q (.int M t) { s with heap := h', toks := tk }) :
    wpAny (model prog w) A (call (.builtin "min") [.ref l]) Q E s := by
  have hl : s.heap.IsList l (intItems #[(a, ta), (b, tb), (c, tc)]) := ⟨_, (N _ hm).1, rfl, k, congrArg (fun z => Data.seq z k) (by simp [intItems])⟩
  refine min_intList hh hl (by simp) fun v h' tk hv hk => ?_
  obtain ⟨h1, h2⟩ := argBest_lt (numAt #[(a, ta), (b, tb), (c, tc)]) 2
  have k0 := h2 0 (by omega)
  have k1 := h2 1 (by omega)
  have k2 := h2 2 (by omega)
  replace hv : (intItems #[(a, ta), (b, tb), (c, tc)])[argBest (fun i j => decide (numAt #[(a, ta), (b, tb), (c, tc)] i < numAt #[(a, ta), (b, tb), (c, tc)] j)) 2]? = some v := hv
  have e0 : numAt #[(a, ta), (b, tb), (c, tc)] 0 = a := rfl
  have e1 : numAt #[(a, ta), (b, tb), (c, tc)] 1 = b := rfl
  have e2 : numAt #[(a, ta), (b, tb), (c, tc)] 2 = c := rfl
  generalize argBest (fun i j => decide (numAt #[(a, ta), (b, tb), (c, tc)] i < numAt #[(a, ta), (b, tb), (c, tc)] j)) 2 = i at hv h1 k0 k1 k2
  rcases (show i = 0 ∨ i = 1 ∨ i = 2 by omega) with rfl | rfl | rfl
  · have e : v = .int a ta := by simpa [intItems] using hv.symm
    subst e
    exact h _ _ _ _ (F.keeps hk) (N.grown hk) (.inl ⟨rfl, rfl⟩) ⟨by omega, by omega, by omega⟩
  · have e : v = .int b tb := by simpa [intItems] using hv.symm
    subst e
    exact h _ _ _ _ (F.keeps hk) (N.grown hk) (.inr (.inl ⟨rfl, rfl⟩)) ⟨by omega, by omega, by omega⟩
  · have e : v = .int c tc := by simpa [intItems] using hv.symm
    subst e
    exact h _ _ _ _ (F.keeps hk) (N.grown hk) (.inr (.inr ⟨rfl, rfl⟩)) ⟨by omega, by omega, by omega⟩
noncomputable def lawTurns (s r n : Int) : Nat := if s ≤ (s * r).fmod n ∧ s ≤ (s * r * r).fmod n then 0 else if (s * r).fmod n ≤ (s * r * r).fmod n then 1 else 2
theorem idx3 {a b c M : Int} (h : M = a ∨ M = b ∨ M = c) (k : M ≤ a ∧ M ≤ b ∧ M ≤ c) : [a, b, c].idxOf M = (if a ≤ b ∧ a ≤ c then 0 else if b ≤ c then 1 else 2) := by
  obtain ⟨k1, k2, k3⟩ := k
  simp only [List.idxOf_cons]
  by_cases h1 : a ≤ b ∧ a ≤ c
  · rw [if_pos h1, show M = a by omega, beq_self_eq_true]; rfl
  · rw [if_neg h1]
    by_cases h2 : b ≤ c
    · rw [if_pos h2, show M = b by omega, beq_self_eq_true, beq_eq_false_iff_ne.mpr (show a ≠ b by omega)]; rfl
    · rw [if_neg h2, show M = c by omega, beq_self_eq_true, beq_eq_false_iff_ne.mpr (show a ≠ c by omega), beq_eq_false_iff_ne.mpr (show b ≠ c by omega)]; rfl
theorem c_turns {w : World} {mean : ExcName → Option Value} {mg mb : Str → Option Value} {D U : Nat} {news : List (Addr × Obj)} {ts t2 t3 : Tok} {x root norm : Int} (hD : D < 470) (hx : 0 ≤ x) (hx1 : x < norm) (hr : 0 ≤ root) (hr1 : root < norm) (hn : norm < 50) (hts : ts ≠ 0) :
    CT w mean mg mb D U 867 [.int x ts, .int root t2, .int norm t3] news (fun h₀ L m s Q => ts < s.toks ∧ ∀ h' tk' t, Fr h₀ L h' m → News h₀ L h' news → Q (.int (lawTurns x root norm : Nat) t) { s with heap := h', toks := tk' }) := by
  w_top off
  k_with_none
  k_with "ROOM" => first | ((try simp only [depth_under_make, depth_under_kw, depth_in1, depth_deeper, depth_caller]); decide) | (show (_ : Nat) < 1000; (try simp only [depth_under_make, depth_under_kw, depth_in1, depth_deeper, depth_caller]); (try dsimp only [ktrTop]); omega)
  k_with "CELL" => (refine' kx_def (by exact rfl) (by exact rfl) (by first | exact rfl | assumption) (by k_asm) (by k_asm) (by k_asm) (by k_asm) (by k_asm) (by k_is) (by k_is) (by k_room) (by first | exact BindsTo.of_eq rfl | exact binds_K (by k_in) rfl (by k_is) rfl rfl rfl) (by decide) (by exact locs rfl) (by exact rfl) (by exact rfl) (by exact rfl) ?_; k_whole; intro _ _ _ _ _ _ kxBq _ _; (try dsimp only); (try k_lift kxBq); (try k_fold))
  k_with "ALL" => (first | exact List.forall_mem_nil _ | with_reducible assumption | with_reducible exact kx_tl (by assumption) | with_reducible exact kx_tl (kx_tl (by assumption)) | with_reducible exact kx_tl (kx_tl (kx_tl (by assumption))) | (refine' List.forall_mem_cons.mpr ⟨(by k_ne), ?_⟩; k_all))
  k_with "newList" => (k_here; refine' newList_K (by k_asm) (by k_asm) ?_; k_whole; intro _ _ _ _ kxl1; (try k_lt kxl1); (try k_sweep))
  k_with "eval Name" => (k_here; refine' name_K (by k_asm) (by k_asm) (by k_asm) (by k_is) ?_ (by with_unfolding_all rfl) (by kernel_rfl) (by kernel_rfl); k_whole)
  k_with "eval Name" => (k_here; refine' ld (by k_asm) (by with_unfolding_all rfl) ?_ (by with_unfolding_all rfl) (by kernel_rfl) (by kernel_rfl); k_whole)
  k_with "getAttr ref" => (k_here; refine' get_own (by k_asm) (by k_asm) (by k_inst) (by k_is) (by k_is) (by k_is) (by k_is) (by k_get) (by k_handed) ?_; k_whole)
  k_with "setAttr ref" => (k_here; refine' set_dict (by k_asm) (by k_asm) (by k_asm) (by k_inst) (by with_unfolding_all exact rfl) (by k_is) (by k_is) (by k_is) (by k_is) (by k_get) (by k_put) (by k_upd) (by exact Nat.le_of_ble_eq_true rfl) ?_; k_whole; intro _ _ _; (try k_sweep))
  k_with "last exec While" => (k_here; with_reducible refine whl_start 100 ?_)
  k_with "exec If" => (refine wpAny_If ?_; (try dsimp only))
  k_with "call ref" => (k_here; (with_reducible show wpAny _ _ (call (Value.ref 834) _) _ _ _); refine halt ?_)
  k_with "call builtin:min" => (k_here; (with_reducible show wpAny _ _ (call (Value.builtin _) [Value.ref _]) _ _ _); k_dflt (refine' min_three' (by rfl) (by k_asm) (by k_asm) (by k_mem) ?_); intro _ _ _ _ _ _ _ _)
  k_with "MAIN" =>
    dsimp only [CT]; intro gd cn cs a ccd cl outer A₀ base h₀ L m s Q E B F X0 N T hk hret
    obtain ⟨hlt, hret⟩ := hret
    obtain ⟨ck, cnm, cgen, cco, cmo⟩ := cs
    dsimp only at hk; subst hk
    refine wpAny_call ?_
    k_dflt k_enter
    rename_i g L1 h1 FG F1 N1 B1 X1 T1
    refine gen_tk ?_
    intro q hq
    k_steps
    refine unhalt ?_
    with_reducible (rename News _ _ _ _ => N9)
    with_reducible (rename Fr _ _ _ _ => F9)
    rename_i d9 b9
    have e3 := idx3 (d9.imp And.left (Or.imp And.left And.left)) b9
    refine' c_index (mean := mean) (mg := mg) (mb := mb) (c := 0) (vs := [.int x ts, .int ((x * root).fmod norm) (q + 1), .int ((x * root * root).fmod norm) (q + 1 + 1 + 1 + 1)]) (ns := [x, (x * root).fmod norm, (x * root * root).fmod norm]) ?hD ?hi ?hb ?ht ?htb ?hs _ _ _ _ _ _ _ _ _ _ _ _ _ _ _ ?kB ?kF ?kX N9 ?kT ?kk ?_
    case hD => first | exact Nat.le_of_ble_eq_true rfl | (simp only [depth_under_make, depth_under_kw, depth_in1, depth_deeper, depth_caller]; (try dsimp only [ktrTop]); omega)
    case hi => exact .cons _ _ (.cons _ _ (.cons _ _ .nil))
    case hb => rcases d9 with ⟨h, -⟩ | ⟨h, -⟩ | ⟨h, -⟩ <;> rw [h] <;> simp
    case ht =>
      have p0 : @LT.lt Nat _ ts s.toks := hlt
      have p2 : @LE.le Nat _ s.toks q := hq
      have p1 : @LT.lt Nat _ ts q := Nat.lt_of_lt_of_le p0 p2
      have a1 : ts ≠ q + 1 := by intro e; have e' : @Eq Nat ts (q + 1) := e; omega
      have a2 : ts ≠ q + 1 + 1 + 1 + 1 := by intro e; have e' : @Eq Nat ts (q + 1 + 1 + 1 + 1) := e; omega
      have a3 : q + 1 ≠ q + 1 + 1 + 1 + 1 := by omega
      intro v hv
      rcases List.mem_cons.mp hv with rfl | hv
      · refine ⟨_, _, rfl, hts, ?_⟩
        intro hne
        rcases d9 with ⟨h, h'⟩ | ⟨h, h'⟩ | ⟨h, h'⟩ <;> rw [h'] <;> first | exact absurd h.symm hne | exact a1 | exact a2 | exact a3 | exact a1.symm | exact a2.symm | exact a3.symm
      · rcases List.mem_cons.mp hv with rfl | hv
        · refine ⟨_, _, rfl, Nat.succ_ne_zero _, ?_⟩
          intro hne
          rcases d9 with ⟨h, h'⟩ | ⟨h, h'⟩ | ⟨h, h'⟩ <;> rw [h'] <;> first | exact absurd h.symm hne | exact a1 | exact a2 | exact a3 | exact a1.symm | exact a2.symm | exact a3.symm
        · rw [List.mem_singleton.mp hv]
          refine ⟨_, _, rfl, Nat.succ_ne_zero _, ?_⟩
          intro hne
          rcases d9 with ⟨h, h'⟩ | ⟨h, h'⟩ | ⟨h, h'⟩ <;> rw [h'] <;> first | exact absurd h.symm hne | exact a1 | exact a2 | exact a3 | exact a1.symm | exact a2.symm | exact a3.symm
    case htb => rcases d9 with ⟨h, h'⟩ | ⟨h, h'⟩ | ⟨h, h'⟩ <;> rw [h'] <;> first | exact hts | exact Nat.succ_ne_zero _
    case hs =>
      have n1 := Int.fmod_nonneg (show 0 ≤ x * root from Int.mul_nonneg hx hr) (show 0 ≤ norm by omega)
      have n2 := Int.fmod_nonneg (show 0 ≤ x * root * root from Int.mul_nonneg (Int.mul_nonneg hx hr) hr) (show 0 ≤ norm by omega)
      have n3 := b9.1
      unfold smallInt
      rw [Bool.and_eq_true, decide_eq_true_eq, decide_eq_true_eq]
      constructor
      · rcases d9 with ⟨h, -⟩ | ⟨h, -⟩ | ⟨h, -⟩ <;> omega
      · omega
    case kB => k_asm
    case kF => k_asm
    case kX => k_asm
    case kT => k_asm
    case kk => exact rfl
    intro h2 tk2 tv F2 N2
    rw [e3]
    k_steps
    with_reducible (rename News _ _ _ _ => N3)
    with_reducible (rename Fr _ _ _ _ => F3)
    exact hret _ _ _ F3 (news_tl N3)
  refine kx_out ?_
  simp (disch := k_dflt (k_extra "MAIN")) only [↓kx_in]
end
-- RS
section
open PySem PySem.W PySem.Calls PyProof.Rows
set_option maxHeartbeats 0
theorem c_rest {w : World} {mean : ExcName → Option Value} {mg mb : Str → Option Value} {D U : Nat} {news : List (Addr × Obj)} {a b r n : Int} {t1 t2 t3 t4 : Tok} (hD : D < 470) (ha : -1000 ≤ a) (ha1 : a ≤ 1000) (hb : -1000 ≤ b) (hb1 : b ≤ 1000) (hr : -1000 ≤ r) (hr1 : r ≤ 1000) (hn : 0 < n) (hn1 : n ≤ 1000) :
    CT w mean mg mb D U 853 [.int a t1, .int b t2, .int r t3, .int n t4] news (fun h₀ L m s Q => ∀ h' tk' t, 0 < tk' → Fr h₀ L h' m → News h₀ L h' news → Q (.int (Int.fmod (a + b * r) n) t) { s with heap := h', toks := tk' }) := by
  w_top off
  k_with_none
  k_with "ROOM" => first | ((try simp only [depth_under_make, depth_under_kw, depth_in1, depth_deeper, depth_caller]); decide) | (show (_ : Nat) < 1000; (try simp only [depth_under_make, depth_under_kw, depth_in1, depth_deeper, depth_caller]); (try dsimp only [ktrTop]); omega)
  k_with "CELL" => (refine' kx_def (by exact rfl) (by exact rfl) (by first | exact rfl | assumption) (by k_asm) (by k_asm) (by k_asm) (by k_asm) (by k_asm) (by k_is) (by k_is) (by k_room) (by first | exact BindsTo.of_eq rfl | exact binds_K (by k_in) rfl (by k_is) rfl rfl rfl) (by decide) (by exact locs rfl) (by exact rfl) (by exact rfl) (by exact rfl) ?_; k_whole; intro _ _ _ _ _ _ kxBq _ _; (try dsimp only); (try k_lift kxBq); (try k_fold))
  k_with "ALL" => (first | exact List.forall_mem_nil _ | with_reducible assumption | with_reducible exact kx_tl (by assumption) | with_reducible exact kx_tl (kx_tl (by assumption)) | with_reducible exact kx_tl (kx_tl (kx_tl (by assumption))) | (refine' List.forall_mem_cons.mpr ⟨(by k_ne), ?_⟩; k_all))
  k_with "newList" => (k_here; refine' newList_K (by k_asm) (by k_asm) ?_; k_whole; intro _ _ _ _ kxl1; (try k_lt kxl1); (try k_sweep))
  k_with "eval Name" => (k_here; refine' name_K (by k_asm) (by k_asm) (by k_asm) (by k_is) ?_ (by with_unfolding_all rfl) (by kernel_rfl) (by kernel_rfl); k_whole)
  k_with "eval Name" => (k_here; refine' ld (by k_asm) (by with_unfolding_all rfl) ?_ (by with_unfolding_all rfl) (by kernel_rfl) (by kernel_rfl); k_whole)
  k_with "getAttr ref" => (k_here; refine' get_own (by k_asm) (by k_asm) (by k_inst) (by k_is) (by k_is) (by k_is) (by k_is) (by k_get) (by k_handed) ?_; k_whole)
  k_with "setAttr ref" => (k_here; refine' set_dict (by k_asm) (by k_asm) (by k_asm) (by k_inst) (by with_unfolding_all exact rfl) (by k_is) (by k_is) (by k_is) (by k_is) (by k_get) (by k_put) (by k_upd) (by exact Nat.le_of_ble_eq_true rfl) ?_; k_whole; intro _ _ _; (try k_sweep))
  k_with "last exec While" => (k_here; with_reducible refine whl_start 100 ?_)
  k_with "exec If" => (refine wpAny_If ?_; (try dsimp only))
  k_with "execs cons" => (refine wpAny_execs_cons ?_)
  k_with "execs nil" => (refine wpAny_execs_nil ?_)
  k_with "MAIN" =>
    dsimp only [CT]; intro gd cn cs c ccd cl outer A₀ base h₀ L m s Q E B F X0 N T hk hret
    obtain ⟨ck, cnm, cgen, cco, cmo⟩ := cs
    dsimp only at hk; subst hk
    refine wpAny_call ?_
    k_dflt k_enter
    rename_i g L1 h1 FG F1 N1 B1 X1 T1
    k_steps
    with_reducible (rename News _ _ _ _ => N9)
    with_reducible (rename Fr _ _ _ _ => F9)
    exact hret _ _ _ (Nat.succ_pos _) F9 N9
  refine kx_out ?_
  simp (disch := k_dflt (k_extra "MAIN")) only [↓kx_in]
end
-- FR
section
open PySem PySem.W PySem.Calls PyProof.Rows
section
variable {prog : Program} {w : World} {A : Around} {E : Value → Shared → Prop} {s : Shared} {env : Env} {h₀ : Heap} {x : Str} {body : List Stmt} {Q : Flow → Shared → Prop}
/-- the range's iterator with its step -/
noncomputable def itS (x left c : Int) : Obj := { cls := .type "range_iterator", data := .fields #[rawInt x, rawInt left, rawInt c] }
noncomputable def RgPost (h₀ : Heap) (L : Addr) (s₁ : Shared) (I : Addr) (it : Obj) (Inv : Nat → (Str → Option Value) → List (Addr × Obj) → Prop) (Q : Flow → Shared → Prop) (f : Flow) (s₂ : Shared) : Prop :=
  match f with
  | .ret v => Q (.ret v) s₂
  | .brk => Q .next s₂
  | _ => ∃ h' tk m' news', s₂ = { s₁ with heap := h', toks := tk } ∧ Fr h₀ L h' m' ∧ News h₀ L h' ((I, it) :: news') ∧ (∀ p ∈ news', p.1 ≠ I) ∧ Inv tk m' news'
noncomputable def RgAt0 (prog : Program) (w : World) (A : Around) (E : Value → Shared → Prop) (h₀ : Heap) (env : Env) (x : Str) (body : List Stmt) (Q : Flow → Shared → Prop) (it : Value) (s : Shared) : Prop :=
  ∃ (I : Addr) (a c : Int) (n : Nat) (m : Str → Option Value) (news : List (Addr × Obj)) (Inv : Nat → Nat → (Str → Option Value) → List (Addr × Obj) → Prop),
    it = .ref I ∧ A.handled = none ∧ Fr h₀ env.locals s.heap m ∧ News h₀ env.locals s.heap ((I, itS a n c) :: news) ∧ (∀ p ∈ news, p.1 ≠ I) ∧ Inv 0 s.toks m news ∧
    (∀ (i : Nat) (m₁ : Str → Option Value) news₁ h tk, i < n → Inv i tk m₁ news₁ → s.toks ≤ tk → (∀ p ∈ news₁, p.1 ≠ I) →
      Fr h₀ env.locals h (fun y => if y = x then some (.int (a + i * c) tk) else m₁ y) → News h₀ env.locals h ((I, itS (a + ((i + 1 : Nat) : Int) * c) ((n : Int) - ((i + 1 : Nat) : Int)) c) :: news₁) →
      wpAny (model prog w) A (execs body env) (RgPost h₀ env.locals { s with heap := h, toks := tk + 1 + 1 } I (itS (a + ((i + 1 : Nat) : Int) * c) ((n : Int) - ((i + 1 : Nat) : Int)) c) (Inv (i + 1)) Q) E { s with heap := h, toks := tk + 1 + 1 }) ∧
    ∀ h tk m' news', Inv n tk m' news' → Fr h₀ env.locals h m' → News h₀ env.locals h news' → Q .next { s with heap := h, toks := tk }
noncomputable def RgAt (lo : Nat) (prog : Program) (w : World) (A : Around) (E : Value → Shared → Prop) (h₀ : Heap) (env : Env) (x : Str) (body : List Stmt) (Q : Flow → Shared → Prop) (it : Value) (s : Shared) : Prop :=
  lo ≤ s.toks → RgAt0 prog w A E h₀ env x body Q it s
theorem loop_rg {it : Value} {px : Pos} (hx : env.kindOf x = some .local) (hp : (env.scope.kind == .class || (env.scope.kind == .module && env.locals != env.globals)) = false)
    (hE : PassesOwn (model prog w) A env E) (T : RgAt0 prog w A E h₀ env x body Q it s) :
    codeAny (model prog w) A (.forLoop (.Name x px) it body [] env) (fun r s' => match r with | .ok f => Q f s' | .error e => cameBackBy (model prog w) A env E e s') s := by
  obtain ⟨I, a, c, n, m, news, Inv, rfl, hh, F, N, off, h0, step, done⟩ := T
  have hI₀ : h₀.get? I = none := (N _ List.mem_cons_self).2.2
  have hIL : I ≠ env.locals := (N _ List.mem_cons_self).2.1
  refine codeAny_forLoop
    (fun k s' => ∃ h' tk m' news' i, s' = { s with heap := h', toks := tk } ∧ Fr h₀ env.locals h' m' ∧ News h₀ env.locals h' ((I, itS (a + ((i : Nat) : Int) * c) ((n : Int) - ((i : Nat) : Int)) c) :: news') ∧ (∀ p ∈ news', p.1 ≠ I) ∧ Inv i tk m' news' ∧ s.toks ≤ tk ∧ i ≤ n ∧ k = n - i) ?_ n
    ⟨s.heap, s.toks, m, news, 0, rfl, F, by simpa using N, off, h0, Nat.le_refl _, Nat.zero_le _, rfl⟩
  rintro k s' ⟨h', tk, m', news', i, rfl, F', N', off', hJ, htk, hi, rfl⟩
  have hit : IsRangeIter h' I (a + ((i : Nat) : Int) * c) ((n : Int) - ((i : Nat) : Int)) c := (N' _ List.mem_cons_self).1
  have N'' : News h₀ env.locals h' news' := fun p hp => N' p (List.mem_cons_of_mem _ hp)
  by_cases hlt : i < n
  · refine wpAny_pyNext_range_item hit (by omega) fun h₁ hit₁ hs₁ => ?_
    have F₁ : Fr h₀ env.locals h₁ m' := F'.change hs₁ hIL hI₀
    refine wpAny_assign_Name (wpAny_storeName_local hx F₁.ns (fun h₂ hn₂ hs₂ => ?_) hp)
    have F₂ := F₁.set hn₂ hs₂
    have N₁ : News h₀ env.locals h₁ ((I, itS (a + ((i + 1 : Nat) : Int) * c) ((n : Int) - ((i + 1 : Nat) : Int)) c) :: news') := fun p hp => by
      rcases List.mem_cons.mp hp with rfl | hp
      · refine ⟨?_, hIL, hI₀⟩
        have e1 : a + ((i + 1 : Nat) : Int) * c = a + (i : Int) * c + c := by push_cast; rw [Int.add_mul, Int.one_mul, Int.add_assoc]
        have e2 : (n : Int) - ((i + 1 : Nat) : Int) = (n : Int) - (i : Int) - 1 := by push_cast; omega
        rw [e1, e2]
        exact hit₁
      · exact ⟨hs₁.extBut _ _ (off' p hp) (N'' p hp).1, (N'' p hp).2⟩
    refine wpAny_mono (wpAny_toks_of (n := s.toks) (Nat.le_succ_of_le (Nat.le_succ_of_le htk)) (step i m' news' h₂ tk hlt hJ htk off' F₂ (N₁.set hs₂))) (fun f s₃ h₃ => ?_) fun e s' he => hE e s' he.2
    cases f with
    | ret v => exact h₃.2
    | brk => exact h₃.2
    | cont =>
      obtain ⟨htk₃, h₄, tk₄, m₄, news₄, rfl, F₄, N₄, off₄, hJ₄⟩ := h₃
      exact ⟨n - (i + 1), by omega, h₄, tk₄, m₄, news₄, i + 1, rfl, F₄, N₄, off₄, hJ₄, htk₃, hlt, rfl⟩
    | next =>
      obtain ⟨htk₃, h₄, tk₄, m₄, news₄, rfl, F₄, N₄, off₄, hJ₄⟩ := h₃
      exact ⟨n - (i + 1), by omega, h₄, tk₄, m₄, news₄, i + 1, rfl, F₄, N₄, off₄, hJ₄, htk₃, hlt, rfl⟩
  · have e : i = n := by omega
    subst e
    refine wpAny_pyNext_range_end hh hit (by omega) fun h₁ he => wpAny_execs_nil ?_
    have hk : ∀ b o, b ∉ [I] → h'.get? b = some o → h₁.get? b = some o := fun b o hb e => he b o (fun q => hb (by rw [q]; exact List.mem_cons_self)) e
    exact done h₁ tk m' news' hJ (LCg.fr_but F' hk (Ne.symm hIL) hI₀) (LCg.news_but N'' hk off')
noncomputable def LoTk (lo : Nat) (s : Shared) (P : Prop) : Prop := lo ≤ s.toks → P
theorem LoTk.intro {lo : Nat} {s : Shared} {P : Prop} (h : lo ≤ s.toks → P) : LoTk lo s P := h
theorem execs_cons_lo {st : Stmt} {rest : List Stmt} {lo : Nat} (hlo : lo ≤ s.toks)
    (h : wpAny (model prog w) A (exec st env) (fun f s' => match f with | .next => LoTk lo s' (wpAny (model prog w) A (execs rest env) Q E s') | f => Q f s') E s) : wpAny (model prog w) A (execs (st :: rest) env) Q E s :=
  wpAny_execs_cons (wpAny_mono (wpAny_toks_of hlo h) (fun f s' h' => by
    cases f with
    | next => exact h'.2 h'.1
    | brk => exact h'.2
    | cont => exact h'.2
    | ret v => exact h'.2) fun _ _ e => e.2)
noncomputable def RgGo (prog : Program) (w : World) (A : Around) (E : Value → Shared → Prop) (h₀ : Heap) (env : Env) (x : Str) (body : List Stmt) (Q : Flow → Shared → Prop) (s : Shared) (I : Addr) (a c : Int) (n : Nat) (m : Str → Option Value) (news : List (Addr × Obj)) : Prop :=
  ∃ Inv : Nat → Nat → (Str → Option Value) → List (Addr × Obj) → Prop, Inv 0 s.toks m news ∧
    (∀ (i : Nat) (m₁ : Str → Option Value) news₁ h tk, i < n → Inv i tk m₁ news₁ → s.toks ≤ tk → (∀ p ∈ news₁, p.1 ≠ I) →
      Fr h₀ env.locals h (fun y => if y = x then some (.int (a + i * c) tk) else m₁ y) → News h₀ env.locals h ((I, itS (a + ((i + 1 : Nat) : Int) * c) ((n : Int) - ((i + 1 : Nat) : Int)) c) :: news₁) →
      wpAny (model prog w) A (execs body env) (RgPost h₀ env.locals { s with heap := h, toks := tk + 1 + 1 } I (itS (a + ((i + 1 : Nat) : Int) * c) ((n : Int) - ((i + 1 : Nat) : Int)) c) (Inv (i + 1)) Q) E { s with heap := h, toks := tk + 1 + 1 }) ∧
    ∀ h tk m' news', Inv n tk m' news' → Fr h₀ env.locals h m' → News h₀ env.locals h news' → Q .next { s with heap := h, toks := tk }
theorem iter_rg {lo : Nat} {r : Addr} {a b c : Int} {t u v : Tok} {n : Nat} {m : Str → Option Value} {news : List (Addr × Obj)}
    (hh : A.handled = none) (hr : IsRange s.heap r a b c t u v) (hsmall : Builtin.Range.small a b c = true) (hn : Builtin.Range.rangeSize a b c = (n : Int)) (F : Fr h₀ env.locals s.heap m) (N : News h₀ env.locals s.heap news)
    (rest : ∀ I : Addr, (∀ p ∈ news, p.1 < I) → lo ≤ s.toks → RgGo prog w A E h₀ env x body Q s I a c n m news) :
    wpAny (model prog w) A (pyIter (.ref r)) (fun it s₂ => RgAt lo prog w A E h₀ env x body Q it s₂) E s := by
  refine wpAny_pyIter_range hr hsmall ?_
  intro hlo
  have lt : ∀ p ∈ news, p.1 < s.heap.objs.size := fun p hp => Heap.lt_size (N p hp).1
  obtain ⟨Inv, h0, step, done⟩ := rest s.heap.objs.size lt hlo
  refine ⟨s.heap.objs.size, a, c, n, m, news, Inv, rfl, hh, F.push _, ?_, fun p hp => Nat.ne_of_lt (lt p hp), h0, step, done⟩
  intro p hp
  rcases List.mem_cons.mp hp with rfl | hp
  · refine ⟨?_, fun e => absurd F.ns.lt (by rw [← e]; exact Nat.lt_irrefl _), next_is_new F⟩
    rw [hn]
    exact Heap.get?_push_size _ rfl
  · exact ⟨Heap.get?_push_of_some _ (N p hp).1, (N p hp).2⟩
theorem For_rg {iter : Expr} {px pos : Pos} {m : Str → Option Value} (_F : Fr h₀ env.locals s.heap m) (hx : env.kindOf x = some .local) (hp : (env.scope.kind == .class || (env.scope.kind == .module && env.locals != env.globals)) = false)
    (h : wpAny (model prog w) A (eval iter env) (fun xv s₁ => wpAny (model prog w) A (pyIter xv) (fun it s₂ => RgAt s.toks prog w A E h₀ env x body Q it s₂) E s₁) E s)
    (hs : ∀ x, foldedSetIterable iter env x = pure x := by intro _; rfl)
    (hE : PassesOwn (model prog w) A env E := by passes_own) :
    wpAny (model prog w) A (exec (.For (.Name x px) iter body [] pos) env) Q E s :=
  wpAny_For (wpAny_mono (wpAny_toks_of (Nat.le_refl s.toks) h) (fun _ _ h₁ => wpAny_mono (wpAny_toks_of h₁.1 h₁.2) (fun _ _ h₂ => loop_rg hx hp hE (h₂.2 h₂.1)) fun _ _ e => e.2) fun _ _ e => e.2) hs
end
end
-- CP
section
open PySem PySem.W PySem.Calls PyProof.Rows
section
variable {prog : Program} {w : World} {A : Around} {E : Value → Shared → Prop} {s : Shared} {h₀ : Heap} {L : Addr} {m : Str → Option Value} {env : Env}
noncomputable def CpE (h₀ : Heap) (L : Addr) (m : Str → Option Value) (s₁ : Shared) (led : List (Addr × Obj)) (J : Nat → List Value → Prop) (ys : List Value) (y : Value) (s₂ : Shared) : Prop :=
  ∃ h' tk', s₂ = { s₁ with heap := h', toks := tk' } ∧ Fr h₀ L h' m ∧ News h₀ L h' led ∧ J tk' (ys ++ [y])
/-- what a list comprehension over a range must show, with the counter -/
noncomputable def CpGo (prog : Program) (w : World) (A : Around) (h₀ : Heap) (L : Addr) (m : Str → Option Value) (env : Env) (elt : Expr) (x : Str) (scope : Scope) (cl : List (Str × Addr)) (a : Int) (n : Nat) (news : List (Addr × Obj)) (Q : Value → Shared → Prop) (s : Shared) : Prop :=
  ∃ J : Nat → Nat → List Value → Prop, J 0 s.toks [] ∧
    (∀ i tk ys I oI C oC D m₂ h (E' : Value → Shared → Prop), i < n → J i tk ys → ys.length = i → s.toks ≤ tk → LCg.NsObj oC m₂ → m₂ x = some (.int (a + (i : Int)) tk) → Fr h₀ L h m → News h₀ L h ((I, oI) :: (C, oC) :: (D, LCg.lst ys) :: news) →
      wpAny (model prog w) A (eval elt (compEnvC scope cl C env)) (CpE h₀ L m { s with heap := h, toks := tk + 1 + 1 } ((I, oI) :: (C, oC) :: (D, LCg.lst ys) :: news) (J (i + 1)) ys) E' { s with heap := h, toks := tk + 1 + 1 }) ∧
    (∀ D h tk ys, J n tk ys → ys.length = n → s.toks ≤ tk → Fr h₀ L h m → News h₀ L h ((D, LCg.lst ys) :: news) → LCg.Off1 D news → Q (.ref D) { s with heap := h, toks := tk })
noncomputable def CpSrc (prog : Program) (w : World) (A : Around) (h₀ : Heap) (L : Addr) (m : Str → Option Value) (env : Env) (elt : Expr) (x : Str) (scope : Scope) (cl : List (Str × Addr)) (Q : Value → Shared → Prop) (xv : Value) (s₁ : Shared) : Prop :=
  ∃ r a b t u v n news, xv = .ref r ∧ A.handled = none ∧ Fr h₀ L s₁.heap m ∧ News h₀ L s₁.heap news ∧ IsRange s₁.heap r a b 1 t u v ∧ Builtin.Range.small a b 1 = true ∧ Builtin.Range.rangeSize a b 1 = ((n : Nat) : Int) ∧ n ≤ sizeLine ∧
    CpGo prog w A h₀ L m env elt x scope cl a n news Q s₁
theorem cp_rg {elt iter : Expr} {x : Str} {px : Pos} {scope : Scope} {cl : List (Str × Addr)} {pos : Pos} {Q : Value → Shared → Prop} (F₀ : Fr h₀ L s.heap m)
    (hclos : closureFor scope env = pure cl) (hcell : ∀ y ∈ scope.names, y.2 ≠ .cell) (hkind : scope.kind = .function)
    (hnames : ∀ y ∈ scope.names, y.2 = .local → scope.names.lookup y.1 = some .local) (hx : scope.names.lookup x = some .local)
    (h : wpAny (model prog w) A (eval iter env) (CpSrc prog w A h₀ L m env elt x scope cl Q) E s)
    (hs : ∀ x, foldedSetIterable iter env x = pure x := by intro _; rfl) :
    wpAny (model prog w) A (eval (.ListComp elt [⟨.Name x px, iter, [], 0⟩] scope pos) env) Q E s := by
  rw [eval_ListComp]
  refine wpAny_comprehension_free (use := none) rfl hs hclos hkind hnames (wpAny_mono h (fun xv s₁ h₁ => ?_) fun _ _ e => e)
  obtain ⟨r, a, b, t, u, v, n, news, rfl, hh, F, N, hr, hsm, hn, hsz, J, hJ0, step, done⟩ := h₁
  refine wpAny_pyIter_range hr hsm ?_
  generalize hIe : s₁.heap.objs.size = I
  generalize hG : s₁.heap.push _ = G
  have hlt0 : ∀ p ∈ news, @LT.lt Nat _ p.1 I := fun p hp => hIe ▸ Heap.lt_size (N p hp).1
  have hLI : @LT.lt Nat _ L I := hIe ▸ F.ns.lt
  have hGI : IsRangeIter G I a (n : Int) 1 := by rw [← hG, ← hIe]; show _ = _; rw [← hn]; exact Heap.get?_push_size _ rfl
  have hGs : @Eq Nat G.objs.size (I + 1) := by rw [← hG, ← hIe]; exact Heap.size_push ..
  have hGo : ∀ b o, s₁.heap.get? b = some o → G.get? b = some o := fun b o e => by rw [← hG]; exact Heap.get?_push_of_some _ e
  refine wpAny_newObj_type (wpAny_newFunctionEnv hcell (by intro y hy; simp at hy) (fun h₁ hns₁ hsb₁ => ?_) hkind)
  dsimp only at hns₁ hsb₁ ⊢
  rw [hGs]
  generalize hH2 : G.push { cls := .type "list", dict := none, data := .seq ([] : List Value).toArray } = H2 at hns₁ hsb₁ ⊢
  have hC : @Eq Nat H2.objs.size (I + 1 + 1) := by rw [← hH2, Heap.size_push, hGs]
  rw [hC] at hns₁ hsb₁ ⊢
  have fresh₀ : ∀ a : Addr, @LE.le Nat _ I a → h₀.get? a = none := fun a ha => by
    cases e : h₀.get? a with
    | none => rfl
    | some o' => exact absurd (hIe ▸ Heap.lt_size (F.keep a o' e) : @LT.lt Nat _ a I) (Nat.not_lt.mpr ha)
  have hI₀ : h₀.get? I = none := fresh₀ _ (Nat.le_refl _)
  have hD₀ : h₀.get? (I + 1) = none := fresh₀ _ (Nat.le_succ _)
  have hC₀ : h₀.get? (I + 1 + 1) = none := fresh₀ _ (Nat.le_succ_of_le (Nat.le_succ _))
  have hIL : I ≠ L := by intro e; have e' : @Eq Nat I L := e; omega
  have hDL : I + 1 ≠ L := by intro e; have e' : @Eq Nat (I + 1) L := e; omega
  have hCL : I + 1 + 1 ≠ L := by intro e; have e' : @Eq Nat (I + 1 + 1) L := e; omega
  have hDC : I + 1 ≠ I + 1 + 1 := by intro e; have e' : @Eq Nat (I + 1) (I + 1 + 1) := e; omega
  have hIC : I ≠ I + 1 + 1 := by intro e; have e' : @Eq Nat I (I + 1 + 1) := e; omega
  have hID : I ≠ I + 1 := by intro e; have e' : @Eq Nat I (I + 1) := e; omega
  have old : ∀ b o, s₁.heap.get? b = some o → h₁.get? b = some o := fun b o e => hsb₁.extBut b o (by intro e2; have e3 : @Eq Nat b (I + 1 + 1) := e2; have e4 : @LT.lt Nat _ b I := hIe ▸ Heap.lt_size e; omega) (Heap.get?_push_of_some _ (by rw [← hH2]; exact Heap.get?_push_of_some _ (hGo b o e)))
  have hacc : h₁.get? (I + 1) = some (LCg.lst []) := hsb₁.extBut _ _ hDC (Heap.get?_push_of_some _ (by rw [← hH2, ← hGs]; exact Heap.get?_push_size _ rfl))
  have hit1 : IsRangeIter h₁ I a (n : Int) 1 := hsb₁.extBut _ _ hIC (Heap.get?_push_of_some _ (by rw [← hH2]; exact Heap.get?_push_of_some _ hGI))
  have offI : ∀ p ∈ news, p.1 ≠ I := fun p hp e => by have e' : @Eq Nat p.1 I := e; have := hlt0 p hp; omega
  have offD : ∀ p ∈ news, p.1 ≠ I + 1 := fun p hp e => by have e' : @Eq Nat p.1 (I + 1) := e; have := hlt0 p hp; omega
  have offC : ∀ p ∈ news, p.1 ≠ I + 1 + 1 := fun p hp e => by have e' : @Eq Nat p.1 (I + 1 + 1) := e; have := hlt0 p hp; omega
  have off1 : LCg.Off1 (I + 1) news := by
    have all : ∀ {l : List (Addr × Obj)}, (∀ p ∈ l, p.1 ≠ I + 1) → LCg.Off1 (I + 1) l := by
      intro l
      induction l with
      | nil => intro _; trivial
      | cons p r ih => intro h; exact ⟨h p List.mem_cons_self, ih fun q hq => h q (List.mem_cons_of_mem _ hq)⟩
    exact all offD
  have loop : ∀ s₃ : Shared, s₃ = { s₁ with heap := h₁, toks := s₁.toks + ([] : List (Str × Value)).length } →
      codeAny (model prog w) A (.compLoop (.ListComp elt [⟨.Name x px, iter, [], 0⟩] scope pos) 0 (.ref I) (.ref (I + 1)) (compEnvC scope cl (I + 1 + 1) env))
        (compPost (model prog w) A E none Q (.ref (I + 1)) (I + 1 + 1)) s₃ := by
    rintro s₃ rfl
    refine codeAny_compLoop_tests
      (fun k s' => ∃ h' tk i ys m', s' = { s₁ with heap := h', toks := tk } ∧ i ≤ n ∧ k = n - i ∧ ys.length = i ∧ s₁.toks ≤ tk ∧ IsRangeIter h' I (a + ((i : Nat) : Int) * 1) ((n : Int) - ((i : Nat) : Int)) 1 ∧ Fr h₀ L h' m ∧ h'.Ns (I + 1 + 1) m' ∧ News h₀ L h' ((I + 1, LCg.lst ys) :: news) ∧ J i tk ys) ?_ n
      ⟨h₁, _, 0, [], _, rfl, Nat.zero_le _, rfl, rfl, Nat.le_refl _, by simpa using hit1, F.keeps old, hns₁, fun p hp => ?_, hJ0⟩
    · rintro k s' ⟨h', tk, i, ys, m', rfl, hi, rfl, hyl, htk, hit, F', hn', N', hJ⟩
      by_cases hlt : i < n
      · refine wpAny_pyNext_range_item hit (by omega) fun h₂ hit₂ hs₂ => ?_
        refine wpAny_assign_Name (wpAny_storeName_local (lookup_relabel_local hx) (hn'.sameBut hs₂ (Ne.symm hIC)) (fun h₃ hn₃ hs₃ => ?_) (by simp [compEnvC, relabel, hkind]))
        refine wpAny_tests_nil ?_
        simp only [if_true]
        obtain ⟨oC, heC, hoC⟩ := LCg.ns_obj hn₃
        have F₂ : Fr h₀ L h₂ m := F'.change hs₂ hIL hI₀
        have F₃ : Fr h₀ L h₃ m := F₂.change hs₃ hCL hC₀
        generalize hoI : ({ cls := .type "range_iterator", data := .fields #[rawInt (a + ((i : Nat) : Int) * 1 + 1), rawInt ((n : Int) - ((i : Nat) : Int) - 1), rawInt 1] } : Obj) = oI
        have hit₃ : h₃.get? I = some oI := hs₃.extBut _ _ hIC (hoI ▸ hit₂)
        have N₃ : News h₀ L h₃ ((I, oI) :: (I + 1 + 1, oC) :: (I + 1, LCg.lst ys) :: news) := fun p hp => by
          rcases List.mem_cons.mp hp with rfl | hp
          · exact ⟨hit₃, hIL, hI₀⟩
          · rcases List.mem_cons.mp hp with rfl | hp
            · exact ⟨heC, hCL, hC₀⟩
            · refine ⟨hs₃.extBut _ _ ?_ (hs₂.extBut _ _ ?_ (N' p hp).1), (N' p hp).2⟩
              · rcases List.mem_cons.mp hp with rfl | hp
                · exact hDC
                · exact offC p hp
              · rcases List.mem_cons.mp hp with rfl | hp
                · exact Ne.symm hID
                · exact offI p hp
        refine wpAny_mono (wpAny_toks_of (n := s₁.toks) (Nat.le_succ_of_le (Nat.le_succ_of_le htk)) (step i tk ys I oI (I + 1 + 1) oC (I + 1) _ h₃ _ hlt hJ hyl htk hoC (by simp) F₃ N₃)) (fun y s₄ h₄ => ?_) fun _ _ e => e.2
        obtain ⟨htk₄, h₄, tk₄, rfl, F₄, N₄, hJ₄⟩ := h₄
        have zD := (N₄ (I + 1, LCg.lst ys) (List.mem_cons_of_mem _ (List.mem_cons_of_mem _ List.mem_cons_self))).1
        have zI := (N₄ (I, oI) List.mem_cons_self).1
        have zC := (N₄ (I + 1 + 1, oC) (List.mem_cons_of_mem _ List.mem_cons_self)).1
        refine append_at (hsz := by show ys.toArray.size ≤ sizeLine; rw [List.size_toArray, hyl]; exact Nat.le_trans hi hsz) zD fun h₅ hs₅ hD₅ => ?_
        refine ⟨n - (i + 1), by omega, h₅, tk₄, i + 1, ys ++ [y], _, rfl, hlt, rfl, by rw [List.length_append, List.length_singleton, hyl], htk₄, ?_, F₄.change hs₅ hDL hD₀, (hoC.ns zC).sameBut hs₅ (Ne.symm hDC), fun p hp => ?_, hJ₄⟩
        · have e1 : a + ((i + 1 : Nat) : Int) * 1 = a + (i : Int) * 1 + 1 := by omega
          have e2 : (n : Int) - ((i + 1 : Nat) : Int) = (n : Int) - (i : Int) - 1 := by omega
          rw [e1, e2]
          exact hs₅.extBut _ _ hID (hoI ▸ zI)
        · rcases List.mem_cons.mp hp with rfl | hp
          · exact ⟨hD₅.trans (congrArg some (LCg.lst_snoc ys y)), hDL, hD₀⟩
          · have z := N₄ p (List.mem_cons_of_mem _ (List.mem_cons_of_mem _ (List.mem_cons_of_mem _ hp)))
            exact ⟨hs₅.extBut _ _ (offD p hp) z.1, z.2⟩
      · have e : i = n := by omega
        subst e
        refine wpAny_pyNext_range_end hh hit (by omega) fun h₂ he => ?_
        have hk : ∀ b o, b ∉ [I] → h'.get? b = some o → h₂.get? b = some o := fun b o hb e => he b o (fun q => hb (by rw [q]; exact List.mem_cons_self)) e
        have N₂ : News h₀ L h₂ ((I + 1, LCg.lst ys) :: news) := LCg.news_but N' hk fun p hp => by
          rcases List.mem_cons.mp hp with rfl | hp
          · exact Ne.symm hID
          · exact offI p hp
        refine ⟨m', hn'.at' fun o e => hk _ o (by simpa using Ne.symm hIC) e, fun h'' hs'' => done (I + 1) h'' tk ys hJ hyl htk ((LCg.fr_but F' hk (Ne.symm hIL) hI₀).change hs'' hCL hC₀) (fun p hp => ?_) off1⟩
        refine ⟨hs''.extBut _ _ ?_ (N₂ p hp).1, (N₂ p hp).2⟩
        rcases List.mem_cons.mp hp with rfl | hp
        · exact hDC
        · exact offC p hp
    · rcases List.mem_cons.mp hp with rfl | hp
      · exact ⟨hacc, hDL, hD₀⟩
      · exact ⟨old _ _ (N p hp).1, (N p hp).2⟩
  refine codeAny_compStart_list (loop _ rfl) ?_
  exact (Walks.range hh I a 1 n).self 0 _ _ _ (by simpa using hit1) (loop _ rfl)
end
end
-- CG
section
open PySem PySem.W PySem.Calls PyProof.Rows
section
variable {prog : Program} {w : World} {A : Around} {E : Value → Shared → Prop} {s : Shared} {h₀ : Heap} {L : Addr} {m : Str → Option Value} {env : Env}
/-- one turn's end: the ledger as it was, J for the elements so far -/
noncomputable def CgE (h₀ : Heap) (L : Addr) (m : Str → Option Value) (s₁ : Shared) (led : List (Addr × Obj)) (J : List Value → Prop) (ys : List Value) (y : Value) (s₂ : Shared) : Prop :=
  ∃ h' tk', s₂ = { s₁ with heap := h', toks := tk' } ∧ Fr h₀ L h' m ∧ News h₀ L h' led ∧ J (ys ++ [y])
noncomputable def CgN (h₀ : Heap) (L : Addr) (m : Str → Option Value) (s₁ : Shared) (led : List (Addr × Obj)) (J : List Value → Prop) (ys : List Value) (s₂ : Shared) : Prop :=
  ∃ h' tk', s₂ = { s₁ with heap := h', toks := tk' } ∧ Fr h₀ L h' m ∧ News h₀ L h' led ∧ J ys
noncomputable def CgT (prog : Program) (w : World) (A : Around) (h₀ : Heap) (L : Addr) (m : Str → Option Value) (env : Env) (elt : Expr) (C : Addr) (scope : Scope) (cl : List (Str × Addr)) (s₁ : Shared) (led : List (Addr × Obj)) (J : List Value → Prop) (ys : List Value) (E' : Value → Shared → Prop) (ok : Bool) (s' : Shared) : Prop :=
  (ok = true → wpAny (model prog w) A (eval elt (compEnvC scope cl C env)) (CgE h₀ L m s₁ led J ys) E' s') ∧ (ok = false → CgN h₀ L m s₁ led J ys s')
theorem rest_T {ct elt : Expr} {x : Str} {scope : Scope} {cl : List (Str × Addr)} {S : List (Addr × Obj) → Prop} {P : Nat → Value → Prop} {Fin : List Value → List (Addr × Obj) → Prop} {n : Nat} {news : List (Addr × Obj)} (J : Nat → List Value → Prop)
    (hS : S news) (h0 : J 0 [])
    (step : ∀ i v ys I oI C oC D m₂ h tk (E' : Value → Shared → Prop), i < n → P i v → J i ys → LCg.NsObj oC m₂ → m₂ x = some v → Fr h₀ L h m → News h₀ L h ((I, oI) :: (C, oC) :: (D, LCg.lst ys) :: news) →
      wpAny (model prog w) A (isTrue ct (compEnvC scope cl C env) (eval ct (compEnvC scope cl C env))) (CgT prog w A h₀ L m env elt C scope cl { s with heap := h, toks := tk } ((I, oI) :: (C, oC) :: (D, LCg.lst ys) :: news) (J (i + 1)) ys E') E' { s with heap := h, toks := tk })
    (fin : ∀ ys, J n ys → Fin ys news) :
    LCt.CompRestT prog w A h₀ L m env ct elt x scope cl s S P Fin n 0 [] news := by
  have key : ∀ (j i : Nat) (ys : List Value), i + j = n → J i ys → LCt.CompRestT prog w A h₀ L m env ct elt x scope cl s S P Fin j i ys news := by
    intro j
    induction j with
    | zero =>
      intro i ys hi hJ
      have e : i = n := by omega
      subst e
      exact LCt.CompRestT.zero (fin ys hJ)
    | succ j ih =>
      intro i ys hi hJ
      refine LCt.CompRestT.succ ?_
      intro v I oI C oC D m₂ h tk E' hv hC hx F N off ne
      refine wpAny_mono (step i v ys I oI C oC D m₂ h tk E' (by omega) hv hJ hC hx F N) (fun ok s' h' => ?_) fun _ _ e => e
      cases ok with
      | true =>
        rw [if_pos rfl]
        refine wpAny_mono (h'.1 rfl) (fun y s'' h'' => ?_) fun _ _ e => e
        obtain ⟨h2, tk2, rfl, F2, N2, J2⟩ := h''
        exact ⟨h2, tk2, news, rfl, F2, N2, off, hS, ih (i + 1) _ (by omega) J2⟩
      | false =>
        rw [if_neg (by decide)]
        obtain ⟨h2, tk2, rfl, F2, N2, J2⟩ := h'.2 rfl
        exact ⟨h2, tk2, news, rfl, F2, N2, off, hS, ih (i + 1) _ (by omega) J2⟩
  exact key n 0 [] (by omega) h0
theorem rest_U {elt : Expr} {x : Str} {scope : Scope} {cl : List (Str × Addr)} {S : List (Addr × Obj) → Prop} {P : Nat → Value → Prop} {Fin : List Value → List (Addr × Obj) → Prop} {n : Nat} {news : List (Addr × Obj)} (J : Nat → List Value → Prop)
    (hS : S news) (h0 : J 0 [])
    (step : ∀ i v ys I oI C oC D m₂ h tk (E' : Value → Shared → Prop), i < n → P i v → J i ys → LCg.NsObj oC m₂ → m₂ x = some v → Fr h₀ L h m → News h₀ L h ((I, oI) :: (C, oC) :: (D, LCg.lst ys) :: news) →
      wpAny (model prog w) A (eval elt (compEnvC scope cl C env)) (CgE h₀ L m { s with heap := h, toks := tk } ((I, oI) :: (C, oC) :: (D, LCg.lst ys) :: news) (J (i + 1)) ys) E' { s with heap := h, toks := tk })
    (fin : ∀ ys, J n ys → Fin ys news) :
    LCg.CompRest prog w A h₀ L m env elt x scope cl s S P Fin n 0 [] news := by
  have key : ∀ (j i : Nat) (ys : List Value), i + j = n → J i ys → LCg.CompRest prog w A h₀ L m env elt x scope cl s S P Fin j i ys news := by
    intro j
    induction j with
    | zero =>
      intro i ys hi hJ
      have e : i = n := by omega
      subst e
      exact LCg.CompRest.zero (fin ys hJ)
    | succ j ih =>
      intro i ys hi hJ
      refine LCg.CompRest.succ ?_
      intro v I oI C oC D m₂ h tk E' hv hC hx F N off ne
      refine wpAny_mono (step i v ys I oI C oC D m₂ h tk E' (by omega) hv hJ hC hx F N) (fun y s'' h'' => ?_) fun _ _ e => e
      obtain ⟨h2, tk2, rfl, F2, N2, J2⟩ := h''
      exact ⟨h2, tk2, news, rfl, F2, N2, off, hS, ih (i + 1) _ (by omega) J2⟩
  exact key n 0 [] (by omega) h0
theorem iter_st {I : Addr} {St : Nat → Heap → Prop} (hO : ∀ i h h', St i h → h.get? I = h'.get? I → St i h') : ∀ i (h h' : Heap) (o : Obj) (nw : List (Addr × Obj)), St i h → h.get? I = some o → h'.get? I = some o → (∀ b o, h₀.get? b = some o → h'.get? b = some o) → News h₀ L h' nw → True → St i h' :=
  fun i h h' _ _ st e e' _ _ _ => hO i h h' st (e.trans e'.symm)
/-- what a comprehension's source must show, over a text with a test -/
noncomputable def CgStr (prog : Program) (w : World) (A : Around) (h₀ : Heap) (L : Addr) (m : Str → Option Value) (env : Env) (ct elt : Expr) (x : Str) (scope : Scope) (cl : List (Str × Addr)) (Q : Value → Shared → Prop) (xv : Value) (s₁ : Shared) : Prop :=
  ∃ y t news, xv = .str y t ∧ A.handled = none ∧ Fr h₀ L s₁.heap m ∧ News h₀ L s₁.heap news ∧ y.cps.size ≤ sizeLine ∧
    ∀ g, LCt.CompRestT prog w A h₀ L m env ct elt x scope cl { s₁ with heap := g } (fun _ => True) (SignAt y) (LCg.FinE h₀ L m { s₁ with heap := g } Q) y.cps.size 0 [] news
theorem cg_str {ct elt iter : Expr} {x : Str} {px : Pos} {scope : Scope} {cl : List (Str × Addr)} {pos : Pos} {Q : Value → Shared → Prop} (_F₀ : Fr h₀ L s.heap m)
    (hclos : closureFor scope env = pure cl) (hcell : ∀ y ∈ scope.names, y.2 ≠ .cell) (hkind : scope.kind = .function)
    (hnames : ∀ y ∈ scope.names, y.2 = .local → scope.names.lookup y.1 = some .local) (hx : scope.names.lookup x = some .local)
    (h : wpAny (model prog w) A (eval iter env) (CgStr prog w A h₀ L m env ct elt x scope cl Q) E s)
    (hs : ∀ x, foldedSetIterable iter env x = pure x := by intro _; rfl) :
    wpAny (model prog w) A (eval (.ListComp elt [⟨.Name x px, iter, [ct], 0⟩] scope pos) env) Q E s := by
  rw [eval_ListComp]
  refine wpAny_comprehension_free (use := none) rfl hs hclos hkind hnames (wpAny_mono h (fun xv s₁ h₁ => ?_) fun _ _ e => e)
  obtain ⟨y, t, news, rfl, hh, F, N, hsz, R⟩ := h₁
  have go : ∀ (o : Obj) (St : Nat → Heap → Prop), Walks prog w A s₁.heap.objs.size [s₁.heap.objs.size] [s₁.heap.objs.size] y.cps.size (SignAt y) St → St 0 (s₁.heap.push o) →
      (∀ i h h', St i h → h.get? s₁.heap.objs.size = h'.get? s₁.heap.objs.size → St i h') → (∀ i h, St i h → ∃ o, h.get? s₁.heap.objs.size = some o) →
      wpAny (model prog w) A (newList []) (fun acc s₃ => wpAny (model prog w) A (newFunctionEnv scope env.globals cl [] env.qual none .none (some env)) (fun cenv s₄ =>
        codeAny (model prog w) A (.compStart (.ListComp elt [⟨.Name x px, iter, [ct], 0⟩] scope pos) 0 (.ref s₁.heap.objs.size) acc { cenv with scope := relabel scope env }) (compPost (model prog w) A E none Q acc cenv.locals) s₄) E s₃) E { s₁ with heap := s₁.heap.push o } := by
    intro o St W hst hO hIo
    refine LCt.block_T W hsz hIo (iter_st hO) hcell hkind hx hst (fun b hb => ?_) (F.push _) (N.grown fun _ _ e => Heap.get?_push_of_some _ e) (Nat.ne_of_lt F.ns.lt) (next_is_new F) (fun p hp => Nat.ne_of_lt (Heap.lt_size (N p hp).1)) trivial (R _) ?_
    · rw [List.mem_singleton.mp hb]
      show s₁.heap.objs.size < (s₁.heap.push _).objs.size
      rw [Heap.size_push]; exact Nat.lt_succ_self _
    · intro D C h tk m' ys news' F' N' o1 hn hC₀ hD₀ hCL hDL hCD offC fin
      refine ⟨m', hn, fun h'' hs'' => fin D h'' tk (F'.change hs'' hCL hC₀) (fun p hp => ?_) o1⟩
      refine ⟨hs''.extBut _ _ ?_ (N' p hp).1, (N' p hp).2⟩
      rcases List.mem_cons.mp hp with rfl | hp
      · exact Ne.symm hCD
      · exact offC p hp
  cases ha : y.cps.all (· < 128)
  · exact wpAny_pyIter_wide ha (go _ _ (Walks.strWide hh _ y t) ⟨_, Heap.get?_push_size _ rfl, rfl, rfl⟩ (fun i h h' ⟨o, ho, r⟩ e => ⟨o, e ▸ ho, r⟩) (fun i h ⟨o, ho, _⟩ => ⟨o, ho⟩))
  · exact wpAny_pyIter_ascii ha (go _ _ (Walks.strAscii hh _ y t) ⟨_, Heap.get?_push_size _ rfl, rfl, rfl⟩ (fun i h h' ⟨o, ho, r⟩ e => ⟨o, e ▸ ho, r⟩) (fun i h ⟨o, ho, _⟩ => ⟨o, ho⟩))
/-- the same over bytes, with no test -/
noncomputable def CgBytes (prog : Program) (w : World) (A : Around) (h₀ : Heap) (L : Addr) (m : Str → Option Value) (env : Env) (elt : Expr) (x : Str) (scope : Scope) (cl : List (Str × Addr)) (Q : Value → Shared → Prop) (xv : Value) (s₁ : Shared) : Prop :=
  ∃ y t news, xv = .bytes y t ∧ A.handled = none ∧ Fr h₀ L s₁.heap m ∧ News h₀ L s₁.heap news ∧ y.size ≤ sizeLine ∧
    ∀ g, LCg.CompRest prog w A h₀ L m env elt x scope cl { s₁ with heap := g } (fun _ => True) (fun i v => ∃ c u, y[i]? = some c ∧ v = .int (c.toNat : Int) u) (LCg.FinE h₀ L m { s₁ with heap := g } Q) y.size 0 [] news
theorem cg_bytes {elt iter : Expr} {x : Str} {px : Pos} {scope : Scope} {cl : List (Str × Addr)} {pos : Pos} {Q : Value → Shared → Prop} (_F₀ : Fr h₀ L s.heap m)
    (hclos : closureFor scope env = pure cl) (hcell : ∀ y ∈ scope.names, y.2 ≠ .cell) (hkind : scope.kind = .function)
    (hnames : ∀ y ∈ scope.names, y.2 = .local → scope.names.lookup y.1 = some .local) (hx : scope.names.lookup x = some .local)
    (h : wpAny (model prog w) A (eval iter env) (CgBytes prog w A h₀ L m env elt x scope cl Q) E s)
    (hs : ∀ x, foldedSetIterable iter env x = pure x := by intro _; rfl) :
    wpAny (model prog w) A (eval (.ListComp elt [⟨.Name x px, iter, [], 0⟩] scope pos) env) Q E s := by
  rw [eval_ListComp]
  refine wpAny_comprehension_free (use := none) rfl hs hclos hkind hnames (wpAny_mono h (fun xv s₁ h₁ => ?_) fun _ _ e => e)
  obtain ⟨y, t, news, rfl, hh, F, N, hsz, R⟩ := h₁
  refine KBw.pyIter_bytes ?_
  refine LCg.block_U (KBw.walks hh _ y t) hsz (fun i h ⟨o, ho, _⟩ => ⟨o, ho⟩) (iter_st fun i h h' ⟨o, ho, r⟩ e => ⟨o, e ▸ ho, r⟩) hcell hkind hx ⟨_, Heap.get?_push_size _ rfl, rfl, rfl⟩ (fun b hb => ?_) (F.push _) (N.grown fun _ _ e => Heap.get?_push_of_some _ e) (Nat.ne_of_lt F.ns.lt) (next_is_new F) (fun p hp => Nat.ne_of_lt (Heap.lt_size (N p hp).1)) trivial (R _) ?_
  · rw [List.mem_singleton.mp hb]
    show s₁.heap.objs.size < (s₁.heap.push _).objs.size
    rw [Heap.size_push]; exact Nat.lt_succ_self _
  · intro D C h tk m' ys news' F' N' o1 hn hC₀ hD₀ hCL hDL hCD offC fin
    refine ⟨m', hn, fun h'' hs'' => fin D h'' tk (F'.change hs'' hCL hC₀) (fun p hp => ?_) o1⟩
    refine ⟨hs''.extBut _ _ ?_ (N' p hp).1, (N' p hp).2⟩
    rcases List.mem_cons.mp hp with rfl | hp
    · exact Ne.symm hCD
    · exact offC p hp
end
end
-- BT
section
open PySem PySem.W PySem.Calls PyProof.Rows
theorem nat_and_low (a f k : Nat) (h : f < 2 ^ k) : (a * 2 ^ k) &&& f = 0 := by
  refine Nat.eq_of_testBit_eq fun i => ?_
  rw [Nat.testBit_and, Nat.zero_testBit, Nat.testBit_mul_two_pow]
  by_cases hi : k ≤ i
  · rw [Nat.testBit_lt_two_pow (Nat.lt_of_lt_of_le h (Nat.pow_le_pow_right (by decide) hi)), Bool.and_false]
  · rw [decide_eq_false hi, Bool.false_and, Bool.false_and]
theorem or_low {a f : Int} (k : Nat) (h0 : 0 ≤ a) (hf : 0 ≤ f) (hf1 : f < 2 ^ k) : Builtin.bitOr (a * 2 ^ k) f = a * 2 ^ k + f := by
  have hp := kbt_pos k
  rw [bitOr_and, bitAnd_pp (Int.mul_nonneg h0 (Int.le_of_lt hp)) hf]
  have hc := kbt_cast k
  have e1 : (a * 2 ^ k).toNat = a.toNat * 2 ^ k := by
    obtain ⟨n, rfl⟩ := Int.eq_ofNat_of_zero_le h0
    rw [← hc]
    rfl
  have h2 : f.toNat < 2 ^ k := by omega
  rw [e1, nat_and_low _ _ _ h2]
  omega
section
variable {prog : Program} {w : World} {A : Around} {E : Value → Shared → Prop} {s : Shared} {Q : Value → Shared → Prop} {a f n c : Int} {t u : Tok}
theorem shl_int (c : Int) (hn : 0 ≤ n) (hn2 : n ≤ 1000000) (hc : (2 : Int) ^ n.toNat = c) (h0 : 0 ≤ a) (h1 : a < 1099511627776) (h : Q (.int (a * c) s.toks) { s with toks := s.toks + 1 }) :
    wpAny (model prog w) A (binaryOp .LShift (.int a t) (.int n u)) Q E s := by
  refine lshift_int_small hn hn2 (by omega) ?_
  rw [hc]
  exact h
theorem shr_int (c : Int) (hn : 0 ≤ n) (hc : (2 : Int) ^ n.toNat = c) (h : Q (.int (a / c) s.toks) { s with toks := s.toks + 1 }) :
    wpAny (model prog w) A (binaryOp .RShift (.int a t) (.int n u)) Q E s := by
  refine rshift_int hn ?_
  rw [hc, Int.fdiv_eq_ediv_of_nonneg _ (by rw [← hc]; exact Int.le_of_lt (kbt_pos _))]
  exact h
theorem or_K (k : Nat) (c : Int) (hc : (2 : Int) ^ k = c) (h0 : 0 ≤ a) (hf : 0 ≤ f) (hf1 : f < c) (h : Q (.int (a * c + f) s.toks) { s with toks := s.toks + 1 }) :
    wpAny (model prog w) A (binaryOp .BitOr (.int (a * c) t) (.int f u)) Q E s := by
  refine or_int ?_
  subst hc
  rw [or_low k h0 hf hf1]
  exact h
theorem and_K (k : Nat) (c : Int) (hc : (2 : Int) ^ k = c) (hm : c - 1 = n) (h : Q (.int (a % c) s.toks) { s with toks := s.toks + 1 }) :
    wpAny (model prog w) A (binaryOp .BitAnd (.int a t) (.int n u)) Q E s := by
  refine and_int ?_
  subst hm hc
  rw [kbt_mask]
  exact h
end
end
-- TL
section
open PySem PySem.W PySem.Calls PyProof.Rows
theorem tl_slot : Slot "bytes" "translate" "bytes.translate" :=
  .of (owner := "bytes") (n := "translate") (by rw [typeLookup_type, builtinLookup_eq_fast]; kernel_rfl) (by decide +kernel) (by decide +kernel) (by decide +kernel)
    (by first | exact .inl (by decide +kernel) | exact .inr (by decide +kernel)) (by rw [isSubtype_type]; kernel_rfl)
theorem tl_type : typeOf (.builtin "bytes.translate") = pure (.type "method_descriptor") := by show builtinType _ = _; rw [builtinType_eq_fast]; kernel_rfl
theorem tl_entry : entryFor table "bytes.translate" = some Builtin.«bytes.translate» := by first | exact entryFor_of_fast (by kernel_rfl) | exact entryFor_of_tree (by kernel_rfl)
theorem tl_args (a b : Value) : argsOk "bytes.translate" ⟨[a, b], []⟩ := by unfold argsOk; kernel_rfl
theorem mt_type : typeOf (.builtin "bytes.maketrans") = pure (.type "builtin_function_or_method") := by show builtinType _ = _; rw [builtinType_eq_fast]; kernel_rfl
theorem mt_entry : entryFor table "bytes.maketrans" = some Builtin.«bytes.maketrans» := by first | exact entryFor_of_fast (by kernel_rfl) | exact entryFor_of_tree (by kernel_rfl)
theorem mt_args (a b : Value) : argsOk "bytes.maketrans" ⟨[a, b], []⟩ := by unfold argsOk; kernel_rfl
theorem mt_plain : plainId "bytes.maketrans" = true := by decide +kernel
section
variable {prog : Program} {w : World} {M : Model} {A : Around} {E : Value → Shared → Prop} {s : Shared} {b tab : Array UInt8} {t u : Tok}
theorem tl_method {pl : Sem Bool} {Q : Value × List Value → Shared → Prop} (h : Q (.builtin "bytes.translate", [.bytes b t]) s) : wpAny M A (getMethod (.bytes b t) "translate" pl) Q E s := by
  with_reducible exact KBd.method_of (.bytes b t) (typeIs_bytes _ _ _) tl_slot tl_type KBd.noRef h
theorem filter_all (b : Array UInt8) : b.filter (fun c => !(#[] : Array UInt8).contains c) = b := by simp
theorem tl_call {Q : Value → Shared → Prop} (htab : tab.size = 256) (hb : b.size ≤ sizeLine) (h : ∀ t' k, Q (.bytes (b.map fun c => tab.getD c.toNat c) t') { s with toks := k }) :
    wpAny (model prog w) A (call (.builtin "bytes.translate") [.bytes b t, .bytes tab u]) Q E s := by
  refine wpAny_call_entry tl_slot (typeIs_bytes _ _ _) tl_entry ?_ (tl_args _ _)
  show wpAny _ _ (Builtin.Bytes.bytesLike _ (.bytes tab u) >>= fun r => _) _ _ s
  refine wpAny_bind (wpAny_of_eq KBd.like_eq ?_)
  refine KFB.if_not (by rw [htab]; rfl) ?_
  refine wpAny_bind (wpAny_of_eq (a := some tab) rfl ?_)
  refine wpAny_bind (wpAny_of_eq (a := #[]) rfl ?_)
  refine wpAny_bind (wpAny_of_eq (a := b) rfl ?_)
  dsimp only
  rw [filter_all]
  by_cases he : (b.map (fun c => tab.getD c.toNat c) == b) = true
  · refine KFB.if_so he ?_
    have e := eq_of_beq he
    rw [e] at h
    refine wpAny_bind (wpAny_rule ?_)
    refine wpAny_bind (wpAny_of_eq (a := .bytes b t) (by rfl) ?_)
    exact wpAny_pure ⟨_, rfl, h _ _⟩
  · refine KFB.if_not (by simpa using he) ?_
    exact wpAny_bind (wpAny_mkBytes (wpAny_pure ⟨_, rfl, h _ _⟩) (by rw [Array.size_map]; exact hb))
noncomputable def mtab : Array UInt8 := (([43, 47] : List UInt8).zip [39, 34]).foldl (fun t (f, x) => t.setIfInBounds f.toNat x) ((Array.range 256).map (·.toUInt8))
theorem mtab_eq : mtab = (((Array.range 256).map (·.toUInt8)).setIfInBounds 43 39).setIfInBounds 47 34 := rfl
theorem mtab_size : mtab.size = 256 := by rw [mtab_eq, Array.size_setIfInBounds, Array.size_setIfInBounds, Array.size_map, Array.size_range]
theorem mt_check (a b : Value) : checkBuiltinCall "bytes.maketrans" ⟨[a, b], []⟩ = pure () := by kernel_rfl
theorem mt_call {Q : Value → Shared → Prop} (h : ∀ t' k, Q (.bytes mtab t') { s with toks := k }) :
    wpAny (model prog w) A (call (.builtin "bytes.maketrans") [.bytes [43, 47].toArray t, .bytes [39, 34].toArray u]) Q E s := by
  refine wpAny_call (codeAny_call_builtin mt_plain mt_entry ?_)
  rw [mt_check]
  refine wpAny_pure ?_
  show wpAny _ _ (Builtin.Bytes.bytesLike _ (.bytes [43, 47].toArray t) >>= fun r => _) _ _ s
  refine wpAny_bind (wpAny_of_eq KBd.like_eq ?_)
  refine wpAny_bind (wpAny_of_eq KBd.like_eq ?_)
  refine KFB.if_not rfl ?_
  exact wpAny_bind (wpAny_mkBytes (wpAny_pure (h _ _)) (by rw [sizeLine_eq]; show mtab.size ≤ _; rw [mtab_size]; decide))
end
theorem mtab_at : ∀ n < 256, (mtab.getD n n.toUInt8).toNat = if n = 43 then 39 else if n = 47 then 34 else n := by
  intro n hn
  rw [mtab_eq, Array.getD_eq_getD_getElem?, Array.getElem?_setIfInBounds, Array.getElem?_setIfInBounds, Array.size_setIfInBounds, Array.size_map, Array.size_range, Array.getElem?_map, Array.getElem?_range]
  by_cases h7 : n = 47
  · subst h7; rfl
  · by_cases h3 : n = 43
    · subst h3; rfl
    · rw [if_neg (fun e => h7 e.symm), if_neg (fun e => h3 e.symm), if_neg h3, if_neg h7, if_pos hn]
      show (n.toUInt8).toNat = n
      exact Nat.mod_eq_of_lt hn
end
-- SL
section
open PySem PySem.W PySem.Calls PyProof.Rows
section
variable {prog : Program} {w : World} {A : Around} {E : Value → Shared → Prop} {s : Shared} {h₀ : Heap} {L : Addr} {m : Str → Option Value} {news : List (Addr × Obj)}
/-- a slice of a list that stands for no name -/
theorem slice_tmp {value slice : Expr} {l : Addr} {its : Array Value} {zs : List Value} {vl vu : Value} {lo hi : Option Int} {Q : Value → Shared → Prop}
    (F : Fr h₀ L s.heap m) (N : News h₀ L s.heap news) (hl : s.heap.IsList l its) (pl : IsPart vl lo) (pu : IsPart vu hi) (e : kms_pick its.toList lo hi = zs)
    (h : ∀ D h', Fr h₀ L h' m → News h₀ L h' ((D, listOf zs.toArray 0) :: news) → (∀ p ∈ news, p.1 < D) → Q (.ref D) { s with heap := h' })
    (hs : subscripted slice false (.ref l) (.ref s.heap.objs.size) = operate [.ref s.heap.objs.size, .ref l] (getItem (.ref l) (.ref s.heap.objs.size))) (hz : its.size ≤ sizeLine) :
    wpAny (model prog w) A (subscriptTail value slice (.ref l) (.ref s.heap.objs.size)) Q E { s with heap := s.heap.push { cls := .type "slice", data := .fields #[vl, vu, .none] } } := by
  refine tail_any (Heap.IsList.typeIs (s := { s with heap := s.heap.push { cls := .type "slice", data := .fields #[vl, vu, .none] } }) (hl.push _)) list_getitem_lookup
    (wpAny_getItem_list_slice (hl.push _) (Heap.IsSliceOf.new ..) pl pu .none (by simp) ?_ hz) hs
  have N1 := News.push (F.push { cls := .type "slice", data := .fields #[vl, vu, .none] }) (N.grown fun _ _ e => Heap.get?_push_of_some _ e) { cls := .type "list", data := .seq (slicePick its lo hi none) }
  rw [Heap.size_push] at N1
  show Q (.ref (s.heap.push _).objs.size) _
  rw [Heap.size_push]
  refine h _ _ ((F.push _).push _) ?_ fun p hp => Nat.lt_succ_of_lt (Heap.lt_size (N p hp).1)
  rw [← e, ← kms_pick_eq]
  exact N1
end
end
-- ST
section
open PySem PySem.W PySem.Calls PyProof.Rows
noncomputable abbrev D3 := Int × Int × Int
noncomputable abbrev tup3 (d : D3) (t1 t2 t3 : Tok) : Obj := { cls := .type "tuple", data := .seq #[.int d.1 t1, .int d.2.1 t2, .int d.2.2 t3] }
noncomputable def TupsAre (news : List (Addr × Obj)) : List Value → List D3 → Prop
  | [], [] => True
  | v :: vs, d :: ds => (∃ r t1 t2 t3, v = .ref r ∧ (r, tup3 d t1 t2 t3) ∈ news) ∧ TupsAre news vs ds
  | _, _ => False
theorem TupsAre.length {news : List (Addr × Obj)} : ∀ {vs : List Value} {ds : List D3}, TupsAre news vs ds → vs.length = ds.length
  | [], [], _ => rfl
  | [], _ :: _, h => h.elim
  | _ :: _, [], h => h.elim
  | _ :: _, _ :: _, h => congrArg (· + 1) (TupsAre.length h.2)
theorem TupsAre.at {news : List (Addr × Obj)} : ∀ {vs : List Value} {ds : List D3}, TupsAre news vs ds → ∀ (i : Nat) (d : D3), ds[i]? = some d → ∃ r t1 t2 t3, vs[i]? = some (.ref r) ∧ (r, tup3 d t1 t2 t3) ∈ news
  | [], [], _, i, d, e => by simp at e
  | [], _ :: _, h, _, _, _ => h.elim
  | _ :: _, [], h, _, _, _ => h.elim
  | v :: vs, d' :: ds, h, 0, d, e => by
    obtain ⟨⟨r, t1, t2, t3, rfl, hm⟩, _⟩ := h
    simp at e
    subst e
    exact ⟨r, t1, t2, t3, rfl, hm⟩
  | v :: vs, d' :: ds, h, i + 1, d, e => by simpa using TupsAre.at h.2 i d (by simpa using e)
theorem TupsAre.mono {news news' : List (Addr × Obj)} (hs : ∀ p ∈ news, p ∈ news') : ∀ {vs : List Value} {ds : List D3}, TupsAre news vs ds → TupsAre news' vs ds
  | [], [], _ => trivial
  | [], _ :: _, h => h.elim
  | _ :: _, [], h => h.elim
  | _ :: _, _ :: _, ⟨⟨r, t1, t2, t3, e, hm⟩, h⟩ => ⟨⟨r, t1, t2, t3, e, hs _ hm⟩, TupsAre.mono hs h⟩
theorem TupsAre.snoc {news : List (Addr × Obj)} {d : D3} {r : Addr} {t1 t2 t3 : Tok} (hm : (r, tup3 d t1 t2 t3) ∈ news) : ∀ {vs : List Value} {ds : List D3}, TupsAre news vs ds → TupsAre news (vs ++ [.ref r]) (ds ++ [d])
  | [], [], _ => ⟨⟨r, t1, t2, t3, rfl, hm⟩, trivial⟩
  | [], _ :: _, h => h.elim
  | _ :: _, [], h => h.elim
  | _ :: _, _ :: _, ⟨x, h⟩ => ⟨x, TupsAre.snoc hm h⟩
noncomputable def lt3 (d e : D3) : Bool := if d.1 = e.1 then (if d.2.1 = e.2.1 then decide (d.2.2 < e.2.2) else decide (d.2.1 < e.2.1)) else decide (d.1 < e.1)
noncomputable def evalT {α : Type} (n : Nat) (f : Nat → Nat → Bool) : KasT α → Option α
  | .ret a => some a
  | .ask i j k => if i < n ∧ j < n then evalT n f (k (f i j)) else none
section
variable {prog : Program} {w : World} {A : Around} {E : Value → Shared → Prop} {s : Shared} {h₀ : Heap} {L : Addr} {m : Str → Option Value} {news : List (Addr × Obj)}
theorem kas_eval {α : Type} {n : Nat} {f : Nat → Nat → Bool} {cmp : Nat → Nat → (Bool → Shared → Prop) → Shared → Prop} {Q : α → Shared → Prop} (hc : ∀ i j C, i < n → j < n → C (f i j) s → cmp i j C s) :
    ∀ (t : KasT α) (a : α), evalT n f t = some a → Q a s → t.kasWp cmp Q s
  | .ret b, a, e, h => by
    cases e
    exact h
  | .ask i j k, a, e, h => by
    unfold evalT at e
    split at e
    · rename_i hij
      exact hc i j _ hij.1 hij.2 (kas_eval hc (k (f i j)) a e h)
    · cases e
theorem cmp3 {x y : Addr} {d e : D3} {t1 t2 t3 u1 u2 u3 : Tok} {Q : Bool → Shared → Prop} (hx : s.heap.get? x = some (tup3 d t1 t2 t3)) (hy : s.heap.get? y = some (tup3 e u1 u2 u3)) (h : Q (lt3 d e) s) :
    wpAny (model prog w) A (keyLt' (tuples' true) (.ref x) (.ref y)) Q E s := by
  refine kat_lt hx rfl hy rfl ?_
  refine kat_cons (wpAny_eqBool_int ?_)
  by_cases h1 : d.1 = e.1
  · rw [beq_iff_eq.mpr h1]
    refine kat_yes (kat_cons (wpAny_eqBool_int ?_))
    by_cases h2 : d.2.1 = e.2.1
    · rw [beq_iff_eq.mpr h2]
      refine kat_yes (kat_cons (wpAny_eqBool_int ?_))
      by_cases h3 : d.2.2 = e.2.2
      · rw [beq_iff_eq.mpr h3]
        refine kat_yes (kat_nil ?_)
        have e0 : lt3 d e = false := by unfold lt3; rw [if_pos h1, if_pos h2]; exact decide_eq_false (by omega)
        rw [e0] at h
        exact h
      · rw [beq_eq_false_iff_ne.mpr h3]
        have e0 : lt3 d e = decide (d.2.2 < e.2.2) := by unfold lt3; rw [if_pos h1, if_pos h2]
        rw [e0] at h
        refine kat_no (kat_one _ _ ?_)
        exact wpAny_lt_int h
    · rw [beq_eq_false_iff_ne.mpr h2]
      have e0 : lt3 d e = decide (d.2.1 < e.2.1) := by unfold lt3; rw [if_pos h1, if_neg h2]
      rw [e0] at h
      refine kat_no (kat_one _ _ ?_)
      exact wpAny_lt_int h
  · rw [beq_eq_false_iff_ne.mpr h1]
    have e0 : lt3 d e = decide (d.1 < e.1) := by unfold lt3; rw [if_neg h1]
    rw [e0] at h
    exact kat_no (oneLt_int h)
theorem firsts3 {h : Heap} (N : News h₀ L h news) : ∀ {vs : List Value} {ds : List D3}, TupsAre news vs ds → ∃ fs, KatTups h vs fs ∧ fs.length = vs.length ∧ ∀ v ∈ fs, ∃ n t, v = .int n t
  | [], [], _ => ⟨[], trivial, rfl, fun v hv => absurd hv List.not_mem_nil⟩
  | [], _ :: _, h => h.elim
  | _ :: _, [], h => h.elim
  | _ :: _, d :: _, ⟨⟨r, t1, t2, t3, e, hm⟩, hr⟩ => by
    obtain ⟨fs, h1, h2, h3⟩ := firsts3 N hr
    subst e
    refine ⟨.int d.1 t1 :: fs, KatTups.cons (N _ hm).1 rfl rfl rfl h1, congrArg (· + 1) h2, fun v hv => ?_⟩
    rcases List.mem_cons.mp hv with rfl | hv
    · exact ⟨_, _, rfl⟩
    · exact h3 v hv
theorem sort3 {l : Addr} {vs : List Value} {ds : List D3} {p : Array Nat} {Q : Value → Shared → Prop} (F : Fr h₀ L s.heap m) (N : News h₀ L s.heap news) (hl : s.heap.IsList l vs.toArray) (ht : TupsAre news vs ds) (h2 : 2 ≤ ds.length) (h64 : ds.length < 64)
    (hp : evalT ds.length (fun i j => lt3 (ds.getD i (0, 0, 0)) (ds.getD j (0, 0, 0))) (kas_sort ds.length) = some p)
    (h : ∀ D h' c, Fr h₀ L h' m → News h₀ L h' ((D, listOf (List.toArray (p.toList.map fun i => vs.getD i Value.none)) c) :: news) → (∀ q ∈ news, q.1 < D) → Q (.ref D) { s with heap := h' }) :
    wpAny (model prog w) A (call (.builtin "sorted") [.ref l]) Q E s := by
  have hlen := ht.length
  refine kat_sorted F N hl (by rw [hlen]; exact h2) (by rw [hlen]; exact h64) fun D e1 h' F' N' l1 => ?_
  have N'' : News h₀ L h' news := fun q hq => N' q (List.mem_cons_of_mem _ hq)
  obtain ⟨fs, k1, k2, k3⟩ := firsts3 N'' ht
  refine kat_kind (T := .type "int") k1 (by rw [k2, hlen]; omega) (fun v hv => ?_) rfl ?_
  · obtain ⟨n, t, rfl⟩ := k3 v hv
    exact Looks.of_pure rfl
  rw [hlen]
  refine kas_eval (n := ds.length) (f := fun i j => lt3 (ds.getD i (0, 0, 0)) (ds.getD j (0, 0, 0))) (fun i j C hi hj hC => ?_) _ p hp ?_
  · obtain ⟨r, t1, t2, t3, e1, m1⟩ := ht.at i (ds.getD i (0, 0, 0)) (by rw [List.getD_eq_getElem?_getD, List.getElem?_eq_getElem hi]; rfl)
    obtain ⟨r', u1, u2, u3, e2, m2⟩ := ht.at j (ds.getD j (0, 0, 0)) (by rw [List.getD_eq_getElem?_getD, List.getElem?_eq_getElem hj]; rfl)
    have z1 : vs.getD i Value.none = .ref r := by rw [List.getD_eq_getElem?_getD, e1]; rfl
    have z2 : vs.getD j Value.none = .ref r' := by rw [List.getD_eq_getElem?_getD, e2]; rfl
    unfold kas_ask
    rw [z1, z2]
    exact cmp3 (N'' _ m1).1 (N'' _ m2).1 hC
  · exact KasFin.intro F' N' (UpdF.head fun q hq => Nat.ne_of_lt (l1 q hq)) fun h3 c F3 N3 => h D h3 c F3 N3 l1
end
end
-- OP
section
open PySem PySem.W PySem.Calls PyProof.Rows
set_option maxHeartbeats 0
theorem o_lsh {w : World} {mean : ExcName → Option Value} {mg mb : Str → Option Value} {D U : Nat} {news : List (Addr × Obj)} {a : Int} {t1 t2 : Tok} (hD : D < 470) (h0 : 0 ≤ a) (h1 : a < 1099511627776) :
    CT w mean mg mb D U 785 [.int a t1, .int 6 t2] news (fun h₀ L m s Q => ∀ h' tk' t, 0 < t → @LT.lt Nat _ t tk' → @LE.le Nat _ s.toks tk' → Fr h₀ L h' m → News h₀ L h' news → Q (.int (a * 64) t) { s with heap := h', toks := tk' }) := by
  w_top off
  k_with_none
  k_with "ROOM" => first | ((try simp only [depth_under_make, depth_under_kw, depth_in1, depth_deeper, depth_caller]); decide) | (show (_ : Nat) < 1000; (try simp only [depth_under_make, depth_under_kw, depth_in1, depth_deeper, depth_caller]); (try dsimp only [ktrTop]); omega)
  k_with "CELL" => (refine' kx_def (by exact rfl) (by exact rfl) (by first | exact rfl | assumption) (by k_asm) (by k_asm) (by k_asm) (by k_asm) (by k_asm) (by k_is) (by k_is) (by k_room) (by first | exact BindsTo.of_eq rfl | exact binds_K (by k_in) rfl (by k_is) rfl rfl rfl) (by decide) (by exact locs rfl) (by exact rfl) (by exact rfl) (by exact rfl) ?_; k_whole; intro _ _ _ _ _ _ kxBq _ _; (try dsimp only); (try k_lift kxBq); (try k_fold))
  k_with "ALL" => (first | exact List.forall_mem_nil _ | with_reducible assumption | with_reducible exact kx_tl (by assumption) | with_reducible exact kx_tl (kx_tl (by assumption)) | with_reducible exact kx_tl (kx_tl (kx_tl (by assumption))) | (refine' List.forall_mem_cons.mpr ⟨(by k_ne), ?_⟩; k_all))
  k_with "newList" => (k_here; refine' newList_K (by k_asm) (by k_asm) ?_; k_whole; intro _ _ _ _ kxl1; (try k_lt kxl1); (try k_sweep))
  k_with "eval Name" => (k_here; refine' name_K (by k_asm) (by k_asm) (by k_asm) (by k_is) ?_ (by with_unfolding_all rfl) (by kernel_rfl) (by kernel_rfl); k_whole)
  k_with "eval Name" => (k_here; refine' ld (by k_asm) (by with_unfolding_all rfl) ?_ (by with_unfolding_all rfl) (by kernel_rfl) (by kernel_rfl); k_whole)
  k_with "getAttr ref" => (k_here; refine' get_own (by k_asm) (by k_asm) (by k_inst) (by k_is) (by k_is) (by k_is) (by k_is) (by k_get) (by k_handed) ?_; k_whole)
  k_with "setAttr ref" => (k_here; refine' set_dict (by k_asm) (by k_asm) (by k_asm) (by k_inst) (by with_unfolding_all exact rfl) (by k_is) (by k_is) (by k_is) (by k_is) (by k_get) (by k_put) (by k_upd) (by exact Nat.le_of_ble_eq_true rfl) ?_; k_whole; intro _ _ _; (try k_sweep))
  k_with "last exec While" => (k_here; with_reducible refine whl_start 100 ?_)
  k_with "exec If" => (refine wpAny_If ?_; (try dsimp only))
  k_with "binaryOp LShift int int" => (k_here; (first | (with_reducible refine' shl_int (n := 6) 64 (by decide) (by decide) (by decide) (by omega) (by omega) ?_) | (with_reducible refine' shl_int (n := 8) 256 (by decide) (by decide) (by decide) (by omega) (by omega) ?_)))
  k_with "binaryOp BitOr int int" => (k_here; (first | (with_reducible refine' or_K 6 64 (by decide) (by omega) (by omega) (by omega) ?_) | (with_reducible refine' or_K 8 256 (by decide) (by omega) (by omega) (by omega) ?_)))
  k_with "binaryOp RShift int int" => (k_here; (first | (with_reducible refine' shr_int (n := 16) 65536 (by decide) (by decide) ?_) | (with_reducible refine' shr_int (n := 8) 256 (by decide) (by decide) ?_) | (with_reducible refine' shr_int (n := 0 + 8 - 6) 4 (by decide) (by decide) ?_) | (with_reducible refine' shr_int (n := 2 + 8 - 6) 16 (by decide) (by decide) ?_) | (with_reducible refine' shr_int (n := 4 + 8 - 6) 64 (by decide) (by decide) ?_) | (with_reducible refine' shr_int (n := 4 + 8 - 6 - 6) 1 (by decide) (by decide) ?_)))
  k_with "binaryOp BitAnd int int" => (k_here; (first | (with_reducible refine' and_K (n := 255) 8 256 (by decide) (by decide) ?_) | (with_reducible refine' and_K (n := 63) 6 64 (by decide) (by decide) ?_) | (with_reducible refine' and_K (n := 65535) 16 65536 (by decide) (by decide) ?_)))
  k_with "execs cons" => (refine wpAny_execs_cons ?_)
  k_with "execs nil" => (refine wpAny_execs_nil ?_)
  k_with "MAIN" =>
    dsimp only [CT]; intro gd cn cs c ccd cl outer A₀ base h₀ L m s Q E B F X0 N T hk hret
    obtain ⟨ck, cnm, cgen, cco, cmo⟩ := cs
    dsimp only at hk; subst hk
    refine wpAny_call ?_
    k_dflt k_enter
    rename_i g L1 h1 FG F1 N1 B1 X1 T1
    k_steps
    with_reducible (rename News _ _ _ _ => N9)
    with_reducible (rename Fr _ _ _ _ => F9)
    refine hret _ _ _ ?_ ?_ ?_ F9 N9
    · exact Nat.succ_pos _
    · exact Nat.lt_succ_self _
    · exact Nat.le_trans (Nat.le_add_right _ _) (Nat.le_add_right _ _)
  refine kx_out ?_
  simp (disch := k_dflt (k_extra "MAIN")) only [↓kx_in]
theorem o_or {w : World} {mean : ExcName → Option Value} {mg mb : Str → Option Value} {D U : Nat} {news : List (Addr × Obj)} {a f : Int} {t1 t2 : Tok} (hD : D < 470) (h0 : 0 ≤ a) (hf : 0 ≤ f) (hf1 : f < 64) :
    CT w mean mg mb D U 813 [.int (a * 64) t1, .int f t2] news (fun h₀ L m s Q => ∀ h' tk' t, 0 < t → @LT.lt Nat _ t tk' → @LE.le Nat _ s.toks tk' → Fr h₀ L h' m → News h₀ L h' news → Q (.int (a * 64 + f) t) { s with heap := h', toks := tk' }) := by
  w_top off
  k_with_none
  k_with "ROOM" => first | ((try simp only [depth_under_make, depth_under_kw, depth_in1, depth_deeper, depth_caller]); decide) | (show (_ : Nat) < 1000; (try simp only [depth_under_make, depth_under_kw, depth_in1, depth_deeper, depth_caller]); (try dsimp only [ktrTop]); omega)
  k_with "CELL" => (refine' kx_def (by exact rfl) (by exact rfl) (by first | exact rfl | assumption) (by k_asm) (by k_asm) (by k_asm) (by k_asm) (by k_asm) (by k_is) (by k_is) (by k_room) (by first | exact BindsTo.of_eq rfl | exact binds_K (by k_in) rfl (by k_is) rfl rfl rfl) (by decide) (by exact locs rfl) (by exact rfl) (by exact rfl) (by exact rfl) ?_; k_whole; intro _ _ _ _ _ _ kxBq _ _; (try dsimp only); (try k_lift kxBq); (try k_fold))
  k_with "ALL" => (first | exact List.forall_mem_nil _ | with_reducible assumption | with_reducible exact kx_tl (by assumption) | with_reducible exact kx_tl (kx_tl (by assumption)) | with_reducible exact kx_tl (kx_tl (kx_tl (by assumption))) | (refine' List.forall_mem_cons.mpr ⟨(by k_ne), ?_⟩; k_all))
  k_with "newList" => (k_here; refine' newList_K (by k_asm) (by k_asm) ?_; k_whole; intro _ _ _ _ kxl1; (try k_lt kxl1); (try k_sweep))
  k_with "eval Name" => (k_here; refine' name_K (by k_asm) (by k_asm) (by k_asm) (by k_is) ?_ (by with_unfolding_all rfl) (by kernel_rfl) (by kernel_rfl); k_whole)
  k_with "eval Name" => (k_here; refine' ld (by k_asm) (by with_unfolding_all rfl) ?_ (by with_unfolding_all rfl) (by kernel_rfl) (by kernel_rfl); k_whole)
  k_with "getAttr ref" => (k_here; refine' get_own (by k_asm) (by k_asm) (by k_inst) (by k_is) (by k_is) (by k_is) (by k_is) (by k_get) (by k_handed) ?_; k_whole)
  k_with "setAttr ref" => (k_here; refine' set_dict (by k_asm) (by k_asm) (by k_asm) (by k_inst) (by with_unfolding_all exact rfl) (by k_is) (by k_is) (by k_is) (by k_is) (by k_get) (by k_put) (by k_upd) (by exact Nat.le_of_ble_eq_true rfl) ?_; k_whole; intro _ _ _; (try k_sweep))
  k_with "last exec While" => (k_here; with_reducible refine whl_start 100 ?_)
  k_with "exec If" => (refine wpAny_If ?_; (try dsimp only))
  k_with "binaryOp LShift int int" => (k_here; (first | (with_reducible refine' shl_int (n := 6) 64 (by decide) (by decide) (by decide) (by omega) (by omega) ?_) | (with_reducible refine' shl_int (n := 8) 256 (by decide) (by decide) (by decide) (by omega) (by omega) ?_)))
  k_with "binaryOp BitOr int int" => (k_here; (first | (with_reducible refine' or_K 6 64 (by decide) (by omega) (by omega) (by omega) ?_) | (with_reducible refine' or_K 8 256 (by decide) (by omega) (by omega) (by omega) ?_)))
  k_with "binaryOp RShift int int" => (k_here; (first | (with_reducible refine' shr_int (n := 16) 65536 (by decide) (by decide) ?_) | (with_reducible refine' shr_int (n := 8) 256 (by decide) (by decide) ?_) | (with_reducible refine' shr_int (n := 0 + 8 - 6) 4 (by decide) (by decide) ?_) | (with_reducible refine' shr_int (n := 2 + 8 - 6) 16 (by decide) (by decide) ?_) | (with_reducible refine' shr_int (n := 4 + 8 - 6) 64 (by decide) (by decide) ?_) | (with_reducible refine' shr_int (n := 4 + 8 - 6 - 6) 1 (by decide) (by decide) ?_)))
  k_with "binaryOp BitAnd int int" => (k_here; (first | (with_reducible refine' and_K (n := 255) 8 256 (by decide) (by decide) ?_) | (with_reducible refine' and_K (n := 63) 6 64 (by decide) (by decide) ?_) | (with_reducible refine' and_K (n := 65535) 16 65536 (by decide) (by decide) ?_)))
  k_with "execs cons" => (refine wpAny_execs_cons ?_)
  k_with "execs nil" => (refine wpAny_execs_nil ?_)
  k_with "MAIN" =>
    dsimp only [CT]; intro gd cn cs c ccd cl outer A₀ base h₀ L m s Q E B F X0 N T hk hret
    obtain ⟨ck, cnm, cgen, cco, cmo⟩ := cs
    dsimp only at hk; subst hk
    refine wpAny_call ?_
    k_dflt k_enter
    rename_i g L1 h1 FG F1 N1 B1 X1 T1
    k_steps
    with_reducible (rename News _ _ _ _ => N9)
    with_reducible (rename Fr _ _ _ _ => F9)
    refine hret _ _ _ ?_ ?_ ?_ F9 N9
    · exact Nat.succ_pos _
    · exact Nat.lt_succ_self _
    · exact Nat.le_trans (Nat.le_add_right _ _) (Nat.le_add_right _ _)
  refine kx_out ?_
  simp (disch := k_dflt (k_extra "MAIN")) only [↓kx_in]
theorem o_rsh8 {w : World} {mean : ExcName → Option Value} {mg mb : Str → Option Value} {D U : Nat} {news : List (Addr × Obj)} {a : Int} {t1 t2 : Tok} (hD : D < 470) :
    CT w mean mg mb D U 820 [.int a t1, .int 8 t2] news (fun h₀ L m s Q => ∀ h' tk' t, 0 < t → @LT.lt Nat _ t tk' → @LE.le Nat _ s.toks tk' → Fr h₀ L h' m → News h₀ L h' news → Q (.int (a / 256) t) { s with heap := h', toks := tk' }) := by
  w_top off
  k_with_none
  k_with "ROOM" => first | ((try simp only [depth_under_make, depth_under_kw, depth_in1, depth_deeper, depth_caller]); decide) | (show (_ : Nat) < 1000; (try simp only [depth_under_make, depth_under_kw, depth_in1, depth_deeper, depth_caller]); (try dsimp only [ktrTop]); omega)
  k_with "CELL" => (refine' kx_def (by exact rfl) (by exact rfl) (by first | exact rfl | assumption) (by k_asm) (by k_asm) (by k_asm) (by k_asm) (by k_asm) (by k_is) (by k_is) (by k_room) (by first | exact BindsTo.of_eq rfl | exact binds_K (by k_in) rfl (by k_is) rfl rfl rfl) (by decide) (by exact locs rfl) (by exact rfl) (by exact rfl) (by exact rfl) ?_; k_whole; intro _ _ _ _ _ _ kxBq _ _; (try dsimp only); (try k_lift kxBq); (try k_fold))
  k_with "ALL" => (first | exact List.forall_mem_nil _ | with_reducible assumption | with_reducible exact kx_tl (by assumption) | with_reducible exact kx_tl (kx_tl (by assumption)) | with_reducible exact kx_tl (kx_tl (kx_tl (by assumption))) | (refine' List.forall_mem_cons.mpr ⟨(by k_ne), ?_⟩; k_all))
  k_with "newList" => (k_here; refine' newList_K (by k_asm) (by k_asm) ?_; k_whole; intro _ _ _ _ kxl1; (try k_lt kxl1); (try k_sweep))
  k_with "eval Name" => (k_here; refine' name_K (by k_asm) (by k_asm) (by k_asm) (by k_is) ?_ (by with_unfolding_all rfl) (by kernel_rfl) (by kernel_rfl); k_whole)
  k_with "eval Name" => (k_here; refine' ld (by k_asm) (by with_unfolding_all rfl) ?_ (by with_unfolding_all rfl) (by kernel_rfl) (by kernel_rfl); k_whole)
  k_with "getAttr ref" => (k_here; refine' get_own (by k_asm) (by k_asm) (by k_inst) (by k_is) (by k_is) (by k_is) (by k_is) (by k_get) (by k_handed) ?_; k_whole)
  k_with "setAttr ref" => (k_here; refine' set_dict (by k_asm) (by k_asm) (by k_asm) (by k_inst) (by with_unfolding_all exact rfl) (by k_is) (by k_is) (by k_is) (by k_is) (by k_get) (by k_put) (by k_upd) (by exact Nat.le_of_ble_eq_true rfl) ?_; k_whole; intro _ _ _; (try k_sweep))
  k_with "last exec While" => (k_here; with_reducible refine whl_start 100 ?_)
  k_with "exec If" => (refine wpAny_If ?_; (try dsimp only))
  k_with "binaryOp LShift int int" => (k_here; (first | (with_reducible refine' shl_int (n := 6) 64 (by decide) (by decide) (by decide) (by omega) (by omega) ?_) | (with_reducible refine' shl_int (n := 8) 256 (by decide) (by decide) (by decide) (by omega) (by omega) ?_)))
  k_with "binaryOp BitOr int int" => (k_here; (first | (with_reducible refine' or_K 6 64 (by decide) (by omega) (by omega) (by omega) ?_) | (with_reducible refine' or_K 8 256 (by decide) (by omega) (by omega) (by omega) ?_)))
  k_with "binaryOp RShift int int" => (k_here; (first | (with_reducible refine' shr_int (n := 16) 65536 (by decide) (by decide) ?_) | (with_reducible refine' shr_int (n := 8) 256 (by decide) (by decide) ?_) | (with_reducible refine' shr_int (n := 0 + 8 - 6) 4 (by decide) (by decide) ?_) | (with_reducible refine' shr_int (n := 2 + 8 - 6) 16 (by decide) (by decide) ?_) | (with_reducible refine' shr_int (n := 4 + 8 - 6) 64 (by decide) (by decide) ?_) | (with_reducible refine' shr_int (n := 4 + 8 - 6 - 6) 1 (by decide) (by decide) ?_)))
  k_with "binaryOp BitAnd int int" => (k_here; (first | (with_reducible refine' and_K (n := 255) 8 256 (by decide) (by decide) ?_) | (with_reducible refine' and_K (n := 63) 6 64 (by decide) (by decide) ?_) | (with_reducible refine' and_K (n := 65535) 16 65536 (by decide) (by decide) ?_)))
  k_with "execs cons" => (refine wpAny_execs_cons ?_)
  k_with "execs nil" => (refine wpAny_execs_nil ?_)
  k_with "MAIN" =>
    dsimp only [CT]; intro gd cn cs c ccd cl outer A₀ base h₀ L m s Q E B F X0 N T hk hret
    obtain ⟨ck, cnm, cgen, cco, cmo⟩ := cs
    dsimp only at hk; subst hk
    refine wpAny_call ?_
    k_dflt k_enter
    rename_i g L1 h1 FG F1 N1 B1 X1 T1
    k_steps
    with_reducible (rename News _ _ _ _ => N9)
    with_reducible (rename Fr _ _ _ _ => F9)
    refine hret _ _ _ ?_ ?_ ?_ F9 N9
    · exact Nat.succ_pos _
    · exact Nat.lt_succ_self _
    · exact Nat.le_trans (Nat.le_add_right _ _) (Nat.le_add_right _ _)
  refine kx_out ?_
  simp (disch := k_dflt (k_extra "MAIN")) only [↓kx_in]
theorem o_rsh16 {w : World} {mean : ExcName → Option Value} {mg mb : Str → Option Value} {D U : Nat} {news : List (Addr × Obj)} {a : Int} {t1 t2 : Tok} (hD : D < 470) :
    CT w mean mg mb D U 820 [.int a t1, .int 16 t2] news (fun h₀ L m s Q => ∀ h' tk' t, 0 < t → @LT.lt Nat _ t tk' → @LE.le Nat _ s.toks tk' → Fr h₀ L h' m → News h₀ L h' news → Q (.int (a / 65536) t) { s with heap := h', toks := tk' }) := by
  w_top off
  k_with_none
  k_with "ROOM" => first | ((try simp only [depth_under_make, depth_under_kw, depth_in1, depth_deeper, depth_caller]); decide) | (show (_ : Nat) < 1000; (try simp only [depth_under_make, depth_under_kw, depth_in1, depth_deeper, depth_caller]); (try dsimp only [ktrTop]); omega)
  k_with "CELL" => (refine' kx_def (by exact rfl) (by exact rfl) (by first | exact rfl | assumption) (by k_asm) (by k_asm) (by k_asm) (by k_asm) (by k_asm) (by k_is) (by k_is) (by k_room) (by first | exact BindsTo.of_eq rfl | exact binds_K (by k_in) rfl (by k_is) rfl rfl rfl) (by decide) (by exact locs rfl) (by exact rfl) (by exact rfl) (by exact rfl) ?_; k_whole; intro _ _ _ _ _ _ kxBq _ _; (try dsimp only); (try k_lift kxBq); (try k_fold))
  k_with "ALL" => (first | exact List.forall_mem_nil _ | with_reducible assumption | with_reducible exact kx_tl (by assumption) | with_reducible exact kx_tl (kx_tl (by assumption)) | with_reducible exact kx_tl (kx_tl (kx_tl (by assumption))) | (refine' List.forall_mem_cons.mpr ⟨(by k_ne), ?_⟩; k_all))
  k_with "newList" => (k_here; refine' newList_K (by k_asm) (by k_asm) ?_; k_whole; intro _ _ _ _ kxl1; (try k_lt kxl1); (try k_sweep))
  k_with "eval Name" => (k_here; refine' name_K (by k_asm) (by k_asm) (by k_asm) (by k_is) ?_ (by with_unfolding_all rfl) (by kernel_rfl) (by kernel_rfl); k_whole)
  k_with "eval Name" => (k_here; refine' ld (by k_asm) (by with_unfolding_all rfl) ?_ (by with_unfolding_all rfl) (by kernel_rfl) (by kernel_rfl); k_whole)
  k_with "getAttr ref" => (k_here; refine' get_own (by k_asm) (by k_asm) (by k_inst) (by k_is) (by k_is) (by k_is) (by k_is) (by k_get) (by k_handed) ?_; k_whole)
  k_with "setAttr ref" => (k_here; refine' set_dict (by k_asm) (by k_asm) (by k_asm) (by k_inst) (by with_unfolding_all exact rfl) (by k_is) (by k_is) (by k_is) (by k_is) (by k_get) (by k_put) (by k_upd) (by exact Nat.le_of_ble_eq_true rfl) ?_; k_whole; intro _ _ _; (try k_sweep))
  k_with "last exec While" => (k_here; with_reducible refine whl_start 100 ?_)
  k_with "exec If" => (refine wpAny_If ?_; (try dsimp only))
  k_with "binaryOp LShift int int" => (k_here; (first | (with_reducible refine' shl_int (n := 6) 64 (by decide) (by decide) (by decide) (by omega) (by omega) ?_) | (with_reducible refine' shl_int (n := 8) 256 (by decide) (by decide) (by decide) (by omega) (by omega) ?_)))
  k_with "binaryOp BitOr int int" => (k_here; (first | (with_reducible refine' or_K 6 64 (by decide) (by omega) (by omega) (by omega) ?_) | (with_reducible refine' or_K 8 256 (by decide) (by omega) (by omega) (by omega) ?_)))
  k_with "binaryOp RShift int int" => (k_here; (first | (with_reducible refine' shr_int (n := 16) 65536 (by decide) (by decide) ?_) | (with_reducible refine' shr_int (n := 8) 256 (by decide) (by decide) ?_) | (with_reducible refine' shr_int (n := 0 + 8 - 6) 4 (by decide) (by decide) ?_) | (with_reducible refine' shr_int (n := 2 + 8 - 6) 16 (by decide) (by decide) ?_) | (with_reducible refine' shr_int (n := 4 + 8 - 6) 64 (by decide) (by decide) ?_) | (with_reducible refine' shr_int (n := 4 + 8 - 6 - 6) 1 (by decide) (by decide) ?_)))
  k_with "binaryOp BitAnd int int" => (k_here; (first | (with_reducible refine' and_K (n := 255) 8 256 (by decide) (by decide) ?_) | (with_reducible refine' and_K (n := 63) 6 64 (by decide) (by decide) ?_) | (with_reducible refine' and_K (n := 65535) 16 65536 (by decide) (by decide) ?_)))
  k_with "execs cons" => (refine wpAny_execs_cons ?_)
  k_with "execs nil" => (refine wpAny_execs_nil ?_)
  k_with "MAIN" =>
    dsimp only [CT]; intro gd cn cs c ccd cl outer A₀ base h₀ L m s Q E B F X0 N T hk hret
    obtain ⟨ck, cnm, cgen, cco, cmo⟩ := cs
    dsimp only at hk; subst hk
    refine wpAny_call ?_
    k_dflt k_enter
    rename_i g L1 h1 FG F1 N1 B1 X1 T1
    k_steps
    with_reducible (rename News _ _ _ _ => N9)
    with_reducible (rename Fr _ _ _ _ => F9)
    refine hret _ _ _ ?_ ?_ ?_ F9 N9
    · exact Nat.succ_pos _
    · exact Nat.lt_succ_self _
    · exact Nat.le_trans (Nat.le_add_right _ _) (Nat.le_add_right _ _)
  refine kx_out ?_
  simp (disch := k_dflt (k_extra "MAIN")) only [↓kx_in]
theorem o_and {w : World} {mean : ExcName → Option Value} {mg mb : Str → Option Value} {D U : Nat} {news : List (Addr × Obj)} {a : Int} {t1 t2 : Tok} (hD : D < 470) :
    CT w mean mg mb D U 778 [.int a t1, .int 255 t2] news (fun h₀ L m s Q => ∀ h' tk' t, 0 < t → @LT.lt Nat _ t tk' → @LE.le Nat _ s.toks tk' → Fr h₀ L h' m → News h₀ L h' news → Q (.int (a % 256) t) { s with heap := h', toks := tk' }) := by
  w_top off
  k_with_none
  k_with "ROOM" => first | ((try simp only [depth_under_make, depth_under_kw, depth_in1, depth_deeper, depth_caller]); decide) | (show (_ : Nat) < 1000; (try simp only [depth_under_make, depth_under_kw, depth_in1, depth_deeper, depth_caller]); (try dsimp only [ktrTop]); omega)
  k_with "CELL" => (refine' kx_def (by exact rfl) (by exact rfl) (by first | exact rfl | assumption) (by k_asm) (by k_asm) (by k_asm) (by k_asm) (by k_asm) (by k_is) (by k_is) (by k_room) (by first | exact BindsTo.of_eq rfl | exact binds_K (by k_in) rfl (by k_is) rfl rfl rfl) (by decide) (by exact locs rfl) (by exact rfl) (by exact rfl) (by exact rfl) ?_; k_whole; intro _ _ _ _ _ _ kxBq _ _; (try dsimp only); (try k_lift kxBq); (try k_fold))
  k_with "ALL" => (first | exact List.forall_mem_nil _ | with_reducible assumption | with_reducible exact kx_tl (by assumption) | with_reducible exact kx_tl (kx_tl (by assumption)) | with_reducible exact kx_tl (kx_tl (kx_tl (by assumption))) | (refine' List.forall_mem_cons.mpr ⟨(by k_ne), ?_⟩; k_all))
  k_with "newList" => (k_here; refine' newList_K (by k_asm) (by k_asm) ?_; k_whole; intro _ _ _ _ kxl1; (try k_lt kxl1); (try k_sweep))
  k_with "eval Name" => (k_here; refine' name_K (by k_asm) (by k_asm) (by k_asm) (by k_is) ?_ (by with_unfolding_all rfl) (by kernel_rfl) (by kernel_rfl); k_whole)
  k_with "eval Name" => (k_here; refine' ld (by k_asm) (by with_unfolding_all rfl) ?_ (by with_unfolding_all rfl) (by kernel_rfl) (by kernel_rfl); k_whole)
  k_with "getAttr ref" => (k_here; refine' get_own (by k_asm) (by k_asm) (by k_inst) (by k_is) (by k_is) (by k_is) (by k_is) (by k_get) (by k_handed) ?_; k_whole)
  k_with "setAttr ref" => (k_here; refine' set_dict (by k_asm) (by k_asm) (by k_asm) (by k_inst) (by with_unfolding_all exact rfl) (by k_is) (by k_is) (by k_is) (by k_is) (by k_get) (by k_put) (by k_upd) (by exact Nat.le_of_ble_eq_true rfl) ?_; k_whole; intro _ _ _; (try k_sweep))
  k_with "last exec While" => (k_here; with_reducible refine whl_start 100 ?_)
  k_with "exec If" => (refine wpAny_If ?_; (try dsimp only))
  k_with "binaryOp LShift int int" => (k_here; (first | (with_reducible refine' shl_int (n := 6) 64 (by decide) (by decide) (by decide) (by omega) (by omega) ?_) | (with_reducible refine' shl_int (n := 8) 256 (by decide) (by decide) (by decide) (by omega) (by omega) ?_)))
  k_with "binaryOp BitOr int int" => (k_here; (first | (with_reducible refine' or_K 6 64 (by decide) (by omega) (by omega) (by omega) ?_) | (with_reducible refine' or_K 8 256 (by decide) (by omega) (by omega) (by omega) ?_)))
  k_with "binaryOp RShift int int" => (k_here; (first | (with_reducible refine' shr_int (n := 16) 65536 (by decide) (by decide) ?_) | (with_reducible refine' shr_int (n := 8) 256 (by decide) (by decide) ?_) | (with_reducible refine' shr_int (n := 0 + 8 - 6) 4 (by decide) (by decide) ?_) | (with_reducible refine' shr_int (n := 2 + 8 - 6) 16 (by decide) (by decide) ?_) | (with_reducible refine' shr_int (n := 4 + 8 - 6) 64 (by decide) (by decide) ?_) | (with_reducible refine' shr_int (n := 4 + 8 - 6 - 6) 1 (by decide) (by decide) ?_)))
  k_with "binaryOp BitAnd int int" => (k_here; (first | (with_reducible refine' and_K (n := 255) 8 256 (by decide) (by decide) ?_) | (with_reducible refine' and_K (n := 63) 6 64 (by decide) (by decide) ?_) | (with_reducible refine' and_K (n := 65535) 16 65536 (by decide) (by decide) ?_)))
  k_with "execs cons" => (refine wpAny_execs_cons ?_)
  k_with "execs nil" => (refine wpAny_execs_nil ?_)
  k_with "MAIN" =>
    dsimp only [CT]; intro gd cn cs c ccd cl outer A₀ base h₀ L m s Q E B F X0 N T hk hret
    obtain ⟨ck, cnm, cgen, cco, cmo⟩ := cs
    dsimp only at hk; subst hk
    refine wpAny_call ?_
    k_dflt k_enter
    rename_i g L1 h1 FG F1 N1 B1 X1 T1
    k_steps
    with_reducible (rename News _ _ _ _ => N9)
    with_reducible (rename Fr _ _ _ _ => F9)
    refine hret _ _ _ ?_ ?_ ?_ F9 N9
    · exact Nat.succ_pos _
    · exact Nat.lt_succ_self _
    · exact Nat.le_trans (Nat.le_add_right _ _) (Nat.le_add_right _ _)
  refine kx_out ?_
  simp (disch := k_dflt (k_extra "MAIN")) only [↓kx_in]
theorem o_mul {w : World} {mean : ExcName → Option Value} {mg mb : Str → Option Value} {D U : Nat} {news : List (Addr × Obj)} {a b : Int} {t1 t2 : Tok} (hD : D < 470) (ha : -1000 ≤ a) (ha1 : a ≤ 1000) (hb : -1000 ≤ b) (hb1 : b ≤ 1000) :
    CT w mean mg mb D U 799 [.int a t1, .int b t2] news (fun h₀ L m s Q => ∀ h' tk' t, 0 < t → @LT.lt Nat _ t tk' → @LE.le Nat _ s.toks tk' → Fr h₀ L h' m → News h₀ L h' news → Q (.int (a * b) t) { s with heap := h', toks := tk' }) := by
  w_top off
  k_with_none
  k_with "ROOM" => first | ((try simp only [depth_under_make, depth_under_kw, depth_in1, depth_deeper, depth_caller]); decide) | (show (_ : Nat) < 1000; (try simp only [depth_under_make, depth_under_kw, depth_in1, depth_deeper, depth_caller]); (try dsimp only [ktrTop]); omega)
  k_with "CELL" => (refine' kx_def (by exact rfl) (by exact rfl) (by first | exact rfl | assumption) (by k_asm) (by k_asm) (by k_asm) (by k_asm) (by k_asm) (by k_is) (by k_is) (by k_room) (by first | exact BindsTo.of_eq rfl | exact binds_K (by k_in) rfl (by k_is) rfl rfl rfl) (by decide) (by exact locs rfl) (by exact rfl) (by exact rfl) (by exact rfl) ?_; k_whole; intro _ _ _ _ _ _ kxBq _ _; (try dsimp only); (try k_lift kxBq); (try k_fold))
  k_with "ALL" => (first | exact List.forall_mem_nil _ | with_reducible assumption | with_reducible exact kx_tl (by assumption) | with_reducible exact kx_tl (kx_tl (by assumption)) | with_reducible exact kx_tl (kx_tl (kx_tl (by assumption))) | (refine' List.forall_mem_cons.mpr ⟨(by k_ne), ?_⟩; k_all))
  k_with "newList" => (k_here; refine' newList_K (by k_asm) (by k_asm) ?_; k_whole; intro _ _ _ _ kxl1; (try k_lt kxl1); (try k_sweep))
  k_with "eval Name" => (k_here; refine' name_K (by k_asm) (by k_asm) (by k_asm) (by k_is) ?_ (by with_unfolding_all rfl) (by kernel_rfl) (by kernel_rfl); k_whole)
  k_with "eval Name" => (k_here; refine' ld (by k_asm) (by with_unfolding_all rfl) ?_ (by with_unfolding_all rfl) (by kernel_rfl) (by kernel_rfl); k_whole)
  k_with "getAttr ref" => (k_here; refine' get_own (by k_asm) (by k_asm) (by k_inst) (by k_is) (by k_is) (by k_is) (by k_is) (by k_get) (by k_handed) ?_; k_whole)
  k_with "setAttr ref" => (k_here; refine' set_dict (by k_asm) (by k_asm) (by k_asm) (by k_inst) (by with_unfolding_all exact rfl) (by k_is) (by k_is) (by k_is) (by k_is) (by k_get) (by k_put) (by k_upd) (by exact Nat.le_of_ble_eq_true rfl) ?_; k_whole; intro _ _ _; (try k_sweep))
  k_with "last exec While" => (k_here; with_reducible refine whl_start 100 ?_)
  k_with "exec If" => (refine wpAny_If ?_; (try dsimp only))
  k_with "binaryOp LShift int int" => (k_here; (first | (with_reducible refine' shl_int (n := 6) 64 (by decide) (by decide) (by decide) (by omega) (by omega) ?_) | (with_reducible refine' shl_int (n := 8) 256 (by decide) (by decide) (by decide) (by omega) (by omega) ?_)))
  k_with "binaryOp BitOr int int" => (k_here; (first | (with_reducible refine' or_K 6 64 (by decide) (by omega) (by omega) (by omega) ?_) | (with_reducible refine' or_K 8 256 (by decide) (by omega) (by omega) (by omega) ?_)))
  k_with "binaryOp RShift int int" => (k_here; (first | (with_reducible refine' shr_int (n := 16) 65536 (by decide) (by decide) ?_) | (with_reducible refine' shr_int (n := 8) 256 (by decide) (by decide) ?_) | (with_reducible refine' shr_int (n := 0 + 8 - 6) 4 (by decide) (by decide) ?_) | (with_reducible refine' shr_int (n := 2 + 8 - 6) 16 (by decide) (by decide) ?_) | (with_reducible refine' shr_int (n := 4 + 8 - 6) 64 (by decide) (by decide) ?_) | (with_reducible refine' shr_int (n := 4 + 8 - 6 - 6) 1 (by decide) (by decide) ?_)))
  k_with "binaryOp BitAnd int int" => (k_here; (first | (with_reducible refine' and_K (n := 255) 8 256 (by decide) (by decide) ?_) | (with_reducible refine' and_K (n := 63) 6 64 (by decide) (by decide) ?_) | (with_reducible refine' and_K (n := 65535) 16 65536 (by decide) (by decide) ?_)))
  k_with "execs cons" => (refine wpAny_execs_cons ?_)
  k_with "execs nil" => (refine wpAny_execs_nil ?_)
  k_with "MAIN" =>
    dsimp only [CT]; intro gd cn cs c ccd cl outer A₀ base h₀ L m s Q E B F X0 N T hk hret
    obtain ⟨ck, cnm, cgen, cco, cmo⟩ := cs
    dsimp only at hk; subst hk
    refine wpAny_call ?_
    k_dflt k_enter
    rename_i g L1 h1 FG F1 N1 B1 X1 T1
    k_steps
    with_reducible (rename News _ _ _ _ => N9)
    with_reducible (rename Fr _ _ _ _ => F9)
    refine hret _ _ _ ?_ ?_ ?_ F9 N9
    · exact Nat.succ_pos _
    · exact Nat.lt_succ_self _
    · exact Nat.le_trans (Nat.le_add_right _ _) (Nat.le_add_right _ _)
  refine kx_out ?_
  simp (disch := k_dflt (k_extra "MAIN")) only [↓kx_in]
theorem o_neg {w : World} {mean : ExcName → Option Value} {mg mb : Str → Option Value} {D U : Nat} {news : List (Addr × Obj)} {a : Int} {t1 : Tok} (hD : D < 470) :
    CT w mean mg mb D U 806 [.int a t1] news (fun h₀ L m s Q => ∀ h' tk' t, 0 < t → @LT.lt Nat _ t tk' → @LE.le Nat _ s.toks tk' → Fr h₀ L h' m → News h₀ L h' news → Q (.int (-a) t) { s with heap := h', toks := tk' }) := by
  w_top off
  k_with_none
  k_with "ROOM" => first | ((try simp only [depth_under_make, depth_under_kw, depth_in1, depth_deeper, depth_caller]); decide) | (show (_ : Nat) < 1000; (try simp only [depth_under_make, depth_under_kw, depth_in1, depth_deeper, depth_caller]); (try dsimp only [ktrTop]); omega)
  k_with "CELL" => (refine' kx_def (by exact rfl) (by exact rfl) (by first | exact rfl | assumption) (by k_asm) (by k_asm) (by k_asm) (by k_asm) (by k_asm) (by k_is) (by k_is) (by k_room) (by first | exact BindsTo.of_eq rfl | exact binds_K (by k_in) rfl (by k_is) rfl rfl rfl) (by decide) (by exact locs rfl) (by exact rfl) (by exact rfl) (by exact rfl) ?_; k_whole; intro _ _ _ _ _ _ kxBq _ _; (try dsimp only); (try k_lift kxBq); (try k_fold))
  k_with "ALL" => (first | exact List.forall_mem_nil _ | with_reducible assumption | with_reducible exact kx_tl (by assumption) | with_reducible exact kx_tl (kx_tl (by assumption)) | with_reducible exact kx_tl (kx_tl (kx_tl (by assumption))) | (refine' List.forall_mem_cons.mpr ⟨(by k_ne), ?_⟩; k_all))
  k_with "newList" => (k_here; refine' newList_K (by k_asm) (by k_asm) ?_; k_whole; intro _ _ _ _ kxl1; (try k_lt kxl1); (try k_sweep))
  k_with "eval Name" => (k_here; refine' name_K (by k_asm) (by k_asm) (by k_asm) (by k_is) ?_ (by with_unfolding_all rfl) (by kernel_rfl) (by kernel_rfl); k_whole)
  k_with "eval Name" => (k_here; refine' ld (by k_asm) (by with_unfolding_all rfl) ?_ (by with_unfolding_all rfl) (by kernel_rfl) (by kernel_rfl); k_whole)
  k_with "getAttr ref" => (k_here; refine' get_own (by k_asm) (by k_asm) (by k_inst) (by k_is) (by k_is) (by k_is) (by k_is) (by k_get) (by k_handed) ?_; k_whole)
  k_with "setAttr ref" => (k_here; refine' set_dict (by k_asm) (by k_asm) (by k_asm) (by k_inst) (by with_unfolding_all exact rfl) (by k_is) (by k_is) (by k_is) (by k_is) (by k_get) (by k_put) (by k_upd) (by exact Nat.le_of_ble_eq_true rfl) ?_; k_whole; intro _ _ _; (try k_sweep))
  k_with "last exec While" => (k_here; with_reducible refine whl_start 100 ?_)
  k_with "exec If" => (refine wpAny_If ?_; (try dsimp only))
  k_with "binaryOp LShift int int" => (k_here; (first | (with_reducible refine' shl_int (n := 6) 64 (by decide) (by decide) (by decide) (by omega) (by omega) ?_) | (with_reducible refine' shl_int (n := 8) 256 (by decide) (by decide) (by decide) (by omega) (by omega) ?_)))
  k_with "binaryOp BitOr int int" => (k_here; (first | (with_reducible refine' or_K 6 64 (by decide) (by omega) (by omega) (by omega) ?_) | (with_reducible refine' or_K 8 256 (by decide) (by omega) (by omega) (by omega) ?_)))
  k_with "binaryOp RShift int int" => (k_here; (first | (with_reducible refine' shr_int (n := 16) 65536 (by decide) (by decide) ?_) | (with_reducible refine' shr_int (n := 8) 256 (by decide) (by decide) ?_) | (with_reducible refine' shr_int (n := 0 + 8 - 6) 4 (by decide) (by decide) ?_) | (with_reducible refine' shr_int (n := 2 + 8 - 6) 16 (by decide) (by decide) ?_) | (with_reducible refine' shr_int (n := 4 + 8 - 6) 64 (by decide) (by decide) ?_) | (with_reducible refine' shr_int (n := 4 + 8 - 6 - 6) 1 (by decide) (by decide) ?_)))
  k_with "binaryOp BitAnd int int" => (k_here; (first | (with_reducible refine' and_K (n := 255) 8 256 (by decide) (by decide) ?_) | (with_reducible refine' and_K (n := 63) 6 64 (by decide) (by decide) ?_) | (with_reducible refine' and_K (n := 65535) 16 65536 (by decide) (by decide) ?_)))
  k_with "execs cons" => (refine wpAny_execs_cons ?_)
  k_with "execs nil" => (refine wpAny_execs_nil ?_)
  k_with "MAIN" =>
    dsimp only [CT]; intro gd cn cs c ccd cl outer A₀ base h₀ L m s Q E B F X0 N T hk hret
    obtain ⟨ck, cnm, cgen, cco, cmo⟩ := cs
    dsimp only at hk; subst hk
    refine wpAny_call ?_
    k_dflt k_enter
    rename_i g L1 h1 FG F1 N1 B1 X1 T1
    k_steps
    with_reducible (rename News _ _ _ _ => N9)
    with_reducible (rename Fr _ _ _ _ => F9)
    refine hret _ _ _ ?_ ?_ ?_ F9 N9
    · exact Nat.succ_pos _
    · exact Nat.lt_succ_self _
    · exact Nat.le_trans (Nat.le_add_right _ _) (Nat.le_add_right _ _)
  refine kx_out ?_
  simp (disch := k_dflt (k_extra "MAIN")) only [↓kx_in]
theorem o_mod {w : World} {mean : ExcName → Option Value} {mg mb : Str → Option Value} {D U : Nat} {news : List (Addr × Obj)} {a n : Int} {t1 t2 : Tok} (hD : D < 470) (hn : 0 < n) (hn1 : n ≤ 1000) :
    CT w mean mg mb D U 792 [.int a t1, .int n t2] news (fun h₀ L m s Q => ∀ h' tk' t, 0 < t → @LT.lt Nat _ t tk' → @LE.le Nat _ s.toks tk' → Fr h₀ L h' m → News h₀ L h' news → Q (.int (Int.fmod a n) t) { s with heap := h', toks := tk' }) := by
  w_top off
  k_with_none
  k_with "ROOM" => first | ((try simp only [depth_under_make, depth_under_kw, depth_in1, depth_deeper, depth_caller]); decide) | (show (_ : Nat) < 1000; (try simp only [depth_under_make, depth_under_kw, depth_in1, depth_deeper, depth_caller]); (try dsimp only [ktrTop]); omega)
  k_with "CELL" => (refine' kx_def (by exact rfl) (by exact rfl) (by first | exact rfl | assumption) (by k_asm) (by k_asm) (by k_asm) (by k_asm) (by k_asm) (by k_is) (by k_is) (by k_room) (by first | exact BindsTo.of_eq rfl | exact binds_K (by k_in) rfl (by k_is) rfl rfl rfl) (by decide) (by exact locs rfl) (by exact rfl) (by exact rfl) (by exact rfl) ?_; k_whole; intro _ _ _ _ _ _ kxBq _ _; (try dsimp only); (try k_lift kxBq); (try k_fold))
  k_with "ALL" => (first | exact List.forall_mem_nil _ | with_reducible assumption | with_reducible exact kx_tl (by assumption) | with_reducible exact kx_tl (kx_tl (by assumption)) | with_reducible exact kx_tl (kx_tl (kx_tl (by assumption))) | (refine' List.forall_mem_cons.mpr ⟨(by k_ne), ?_⟩; k_all))
  k_with "newList" => (k_here; refine' newList_K (by k_asm) (by k_asm) ?_; k_whole; intro _ _ _ _ kxl1; (try k_lt kxl1); (try k_sweep))
  k_with "eval Name" => (k_here; refine' name_K (by k_asm) (by k_asm) (by k_asm) (by k_is) ?_ (by with_unfolding_all rfl) (by kernel_rfl) (by kernel_rfl); k_whole)
  k_with "eval Name" => (k_here; refine' ld (by k_asm) (by with_unfolding_all rfl) ?_ (by with_unfolding_all rfl) (by kernel_rfl) (by kernel_rfl); k_whole)
  k_with "getAttr ref" => (k_here; refine' get_own (by k_asm) (by k_asm) (by k_inst) (by k_is) (by k_is) (by k_is) (by k_is) (by k_get) (by k_handed) ?_; k_whole)
  k_with "setAttr ref" => (k_here; refine' set_dict (by k_asm) (by k_asm) (by k_asm) (by k_inst) (by with_unfolding_all exact rfl) (by k_is) (by k_is) (by k_is) (by k_is) (by k_get) (by k_put) (by k_upd) (by exact Nat.le_of_ble_eq_true rfl) ?_; k_whole; intro _ _ _; (try k_sweep))
  k_with "last exec While" => (k_here; with_reducible refine whl_start 100 ?_)
  k_with "exec If" => (refine wpAny_If ?_; (try dsimp only))
  k_with "binaryOp LShift int int" => (k_here; (first | (with_reducible refine' shl_int (n := 6) 64 (by decide) (by decide) (by decide) (by omega) (by omega) ?_) | (with_reducible refine' shl_int (n := 8) 256 (by decide) (by decide) (by decide) (by omega) (by omega) ?_)))
  k_with "binaryOp BitOr int int" => (k_here; (first | (with_reducible refine' or_K 6 64 (by decide) (by omega) (by omega) (by omega) ?_) | (with_reducible refine' or_K 8 256 (by decide) (by omega) (by omega) (by omega) ?_)))
  k_with "binaryOp RShift int int" => (k_here; (first | (with_reducible refine' shr_int (n := 16) 65536 (by decide) (by decide) ?_) | (with_reducible refine' shr_int (n := 8) 256 (by decide) (by decide) ?_) | (with_reducible refine' shr_int (n := 0 + 8 - 6) 4 (by decide) (by decide) ?_) | (with_reducible refine' shr_int (n := 2 + 8 - 6) 16 (by decide) (by decide) ?_) | (with_reducible refine' shr_int (n := 4 + 8 - 6) 64 (by decide) (by decide) ?_) | (with_reducible refine' shr_int (n := 4 + 8 - 6 - 6) 1 (by decide) (by decide) ?_)))
  k_with "binaryOp BitAnd int int" => (k_here; (first | (with_reducible refine' and_K (n := 255) 8 256 (by decide) (by decide) ?_) | (with_reducible refine' and_K (n := 63) 6 64 (by decide) (by decide) ?_) | (with_reducible refine' and_K (n := 65535) 16 65536 (by decide) (by decide) ?_)))
  k_with "execs cons" => (refine wpAny_execs_cons ?_)
  k_with "execs nil" => (refine wpAny_execs_nil ?_)
  k_with "MAIN" =>
    dsimp only [CT]; intro gd cn cs c ccd cl outer A₀ base h₀ L m s Q E B F X0 N T hk hret
    obtain ⟨ck, cnm, cgen, cco, cmo⟩ := cs
    dsimp only at hk; subst hk
    refine wpAny_call ?_
    k_dflt k_enter
    rename_i g L1 h1 FG F1 N1 B1 X1 T1
    k_steps
    with_reducible (rename News _ _ _ _ => N9)
    with_reducible (rename Fr _ _ _ _ => F9)
    refine hret _ _ _ ?_ ?_ ?_ F9 N9
    · exact Nat.succ_pos _
    · exact Nat.lt_succ_self _
    · exact Nat.le_trans (Nat.le_add_right _ _) (Nat.le_add_right _ _)
  refine kx_out ?_
  simp (disch := k_dflt (k_extra "MAIN")) only [↓kx_in]
theorem o_sub {w : World} {mean : ExcName → Option Value} {mg mb : Str → Option Value} {D U : Nat} {news : List (Addr × Obj)} {a b : Int} {t1 t2 : Tok} (hD : D < 470) :
    CT w mean mg mb D U 827 [.int a t1, .int b t2] news (fun h₀ L m s Q => ∀ h' tk' t, 0 < t → @LT.lt Nat _ t tk' → @LE.le Nat _ s.toks tk' → Fr h₀ L h' m → News h₀ L h' news → Q (.int (a - b) t) { s with heap := h', toks := tk' }) := by
  w_top off
  k_with_none
  k_with "ROOM" => first | ((try simp only [depth_under_make, depth_under_kw, depth_in1, depth_deeper, depth_caller]); decide) | (show (_ : Nat) < 1000; (try simp only [depth_under_make, depth_under_kw, depth_in1, depth_deeper, depth_caller]); (try dsimp only [ktrTop]); omega)
  k_with "CELL" => (refine' kx_def (by exact rfl) (by exact rfl) (by first | exact rfl | assumption) (by k_asm) (by k_asm) (by k_asm) (by k_asm) (by k_asm) (by k_is) (by k_is) (by k_room) (by first | exact BindsTo.of_eq rfl | exact binds_K (by k_in) rfl (by k_is) rfl rfl rfl) (by decide) (by exact locs rfl) (by exact rfl) (by exact rfl) (by exact rfl) ?_; k_whole; intro _ _ _ _ _ _ kxBq _ _; (try dsimp only); (try k_lift kxBq); (try k_fold))
  k_with "ALL" => (first | exact List.forall_mem_nil _ | with_reducible assumption | with_reducible exact kx_tl (by assumption) | with_reducible exact kx_tl (kx_tl (by assumption)) | with_reducible exact kx_tl (kx_tl (kx_tl (by assumption))) | (refine' List.forall_mem_cons.mpr ⟨(by k_ne), ?_⟩; k_all))
  k_with "newList" => (k_here; refine' newList_K (by k_asm) (by k_asm) ?_; k_whole; intro _ _ _ _ kxl1; (try k_lt kxl1); (try k_sweep))
  k_with "eval Name" => (k_here; refine' name_K (by k_asm) (by k_asm) (by k_asm) (by k_is) ?_ (by with_unfolding_all rfl) (by kernel_rfl) (by kernel_rfl); k_whole)
  k_with "eval Name" => (k_here; refine' ld (by k_asm) (by with_unfolding_all rfl) ?_ (by with_unfolding_all rfl) (by kernel_rfl) (by kernel_rfl); k_whole)
  k_with "getAttr ref" => (k_here; refine' get_own (by k_asm) (by k_asm) (by k_inst) (by k_is) (by k_is) (by k_is) (by k_is) (by k_get) (by k_handed) ?_; k_whole)
  k_with "setAttr ref" => (k_here; refine' set_dict (by k_asm) (by k_asm) (by k_asm) (by k_inst) (by with_unfolding_all exact rfl) (by k_is) (by k_is) (by k_is) (by k_is) (by k_get) (by k_put) (by k_upd) (by exact Nat.le_of_ble_eq_true rfl) ?_; k_whole; intro _ _ _; (try k_sweep))
  k_with "last exec While" => (k_here; with_reducible refine whl_start 100 ?_)
  k_with "exec If" => (refine wpAny_If ?_; (try dsimp only))
  k_with "binaryOp LShift int int" => (k_here; (first | (with_reducible refine' shl_int (n := 6) 64 (by decide) (by decide) (by decide) (by omega) (by omega) ?_) | (with_reducible refine' shl_int (n := 8) 256 (by decide) (by decide) (by decide) (by omega) (by omega) ?_)))
  k_with "binaryOp BitOr int int" => (k_here; (first | (with_reducible refine' or_K 6 64 (by decide) (by omega) (by omega) (by omega) ?_) | (with_reducible refine' or_K 8 256 (by decide) (by omega) (by omega) (by omega) ?_)))
  k_with "binaryOp RShift int int" => (k_here; (first | (with_reducible refine' shr_int (n := 16) 65536 (by decide) (by decide) ?_) | (with_reducible refine' shr_int (n := 8) 256 (by decide) (by decide) ?_) | (with_reducible refine' shr_int (n := 0 + 8 - 6) 4 (by decide) (by decide) ?_) | (with_reducible refine' shr_int (n := 2 + 8 - 6) 16 (by decide) (by decide) ?_) | (with_reducible refine' shr_int (n := 4 + 8 - 6) 64 (by decide) (by decide) ?_) | (with_reducible refine' shr_int (n := 4 + 8 - 6 - 6) 1 (by decide) (by decide) ?_)))
  k_with "binaryOp BitAnd int int" => (k_here; (first | (with_reducible refine' and_K (n := 255) 8 256 (by decide) (by decide) ?_) | (with_reducible refine' and_K (n := 63) 6 64 (by decide) (by decide) ?_) | (with_reducible refine' and_K (n := 65535) 16 65536 (by decide) (by decide) ?_)))
  k_with "execs cons" => (refine wpAny_execs_cons ?_)
  k_with "execs nil" => (refine wpAny_execs_nil ?_)
  k_with "MAIN" =>
    dsimp only [CT]; intro gd cn cs c ccd cl outer A₀ base h₀ L m s Q E B F X0 N T hk hret
    obtain ⟨ck, cnm, cgen, cco, cmo⟩ := cs
    dsimp only at hk; subst hk
    refine wpAny_call ?_
    k_dflt k_enter
    rename_i g L1 h1 FG F1 N1 B1 X1 T1
    k_steps
    with_reducible (rename News _ _ _ _ => N9)
    with_reducible (rename Fr _ _ _ _ => F9)
    refine hret _ _ _ ?_ ?_ ?_ F9 N9
    · exact Nat.succ_pos _
    · exact Nat.lt_succ_self _
    · exact Nat.le_trans (Nat.le_add_right _ _) (Nat.le_add_right _ _)
  refine kx_out ?_
  simp (disch := k_dflt (k_extra "MAIN")) only [↓kx_in]
end
-- FG
section
open PySem PySem.W PySem.Calls PyProof.Rows
set_option maxHeartbeats 0
theorem canon4 {m : Str → Option Value} {a b c d : Str} {u v x y : Value} (h1 : m a = some u) (h2 : m b = some v) (h3 : m c = some x) (h4 : m d = some y) : m = (fun z => if z = a then some u else if z = b then some v else if z = c then some x else if z = d then some y else m z) := by
  funext z
  by_cases e1 : z = a
  · rw [if_pos e1, e1, h1]
  · rw [if_neg e1]
    by_cases e2 : z = b
    · rw [if_pos e2, e2, h2]
    · rw [if_neg e2]
      by_cases e3 : z = c
      · rw [if_pos e3, e3, h3]
      · rw [if_neg e3]
        by_cases e4 : z = d
        · rw [if_pos e4, e4, h4]
        · rw [if_neg e4]
theorem allLt_ne {d : Addr} : ∀ {l : List (Addr × Obj)}, AllLt d l → ∀ p ∈ l, p.1 ≠ d
  | [], _, _, hp => nomatch hp
  | a :: r, h, p, hp => by
    rcases List.mem_cons.mp hp with rfl | hp
    · exact Nat.ne_of_lt h.1
    · exact allLt_ne h.2 p hp
theorem allLt_lt {d : Addr} : ∀ {l : List (Addr × Obj)}, AllLt d l → ∀ p ∈ l, p.1 < d
  | [], _, _, hp => nomatch hp
  | a :: r, h, p, hp => by
    rcases List.mem_cons.mp hp with rfl | hp
    · exact h.1
    · exact allLt_lt h.2 p hp
theorem ext_no {vs : List Value} {b : Array Value} (h : vs.length ≤ 1000) (hb : b.size ≤ 1000) : ¬(!vs.toArray.isEmpty && Builtin.List.listTooLong (vs.toArray.size + b.size)) = true := by
  have e : Builtin.List.listTooLong (vs.toArray.size + b.size) = false := by
    unfold Builtin.List.listTooLong
    refine decide_eq_false ?_
    rw [sizeLine_eq]
    simp only [List.size_toArray]
    omega
  rw [e, Bool.and_false]
  exact Bool.false_ne_true
theorem ext_z {vs : List Value} (h : vs.length ≤ 1000) : vs.toArray.toList.length ≤ sizeLine := by
  rw [sizeLine_eq]
  show vs.length ≤ _
  omega
theorem ext_y {vs : List Value} {b : Array Value} (h : vs.length ≤ 1000) (hb : b.size ≤ 1000) : vs.toArray.size + b.size ≤ sizeLine + 1 := by
  rw [sizeLine_eq, List.size_toArray]
  omega
theorem rep_z (n : Nat) (v : Value) : (List.replicate ((-(n : Int)).fmod 4).toNat [v]).flatten.length ≤ 1000 := by
  have e2 := Int.fmod_lt_of_pos (-(n : Int)) (show (0 : Int) < 4 by decide)
  have h : ∀ k : Nat, (List.replicate k [v]).flatten.length = k := by
    intro k
    induction k with
    | zero => rfl
    | succ k ih => rw [List.replicate_succ, List.flatten_cons, List.length_append, ih, List.length_singleton]; omega
  rw [h]
  omega
theorem lt62 {vs : List Value} (h : vs.length ≤ 1000) : vs.length < 2 ^ 62 := Nat.lt_of_le_of_lt h (by decide)
theorem add_z {vs : List Value} {b : List Value} (h : vs.length ≤ 1000) (hb : b.length ≤ 1000) : vs.toArray.toList.length + b.length ≤ sizeLine := by
  rw [sizeLine_eq]
  show vs.length + b.length ≤ _
  omega
theorem ints_append {vs us : List Value} {ks ls : List Int} (h : IntsAre vs ks) (h2 : IntsAre us ls) : IntsAre (vs ++ us) (ks ++ ls) := by
  induction h with
  | nil => exact h2
  | cons n t _ ih => exact .cons n t ih
theorem ints_zeros (t : Tok) : ∀ k : Nat, IntsAre (List.replicate k [Value.int 0 t]).flatten (List.replicate k 0)
  | 0 => .nil
  | k + 1 => .cons _ _ (ints_zeros t k)
theorem range_small_1 {n : Int} (h : n < 50) (h0 : 0 < n) : Builtin.Range.small 1 n 1 = true := by
  exact small_one (by omega) (by omega) (by omega) (by omega)
theorem range_size_1 {n : Int} (h0 : 0 < n) : Builtin.Range.rangeSize 1 n 1 = ((n - 1).toNat : Int) := by
  unfold Builtin.Range.rangeSize
  rw [if_pos (by decide)]
  split
  · rw [Int.ediv_one]; omega
  · omega
noncomputable def figStep (n root y s : Int) : List Int := if lawTurns s root n = 0 then s :: (match lawTurns ((s * y).fmod n) root n with | 0 => [] | 1 => [62, 63] | _ => [63, 62]) else []
noncomputable def figUp (n root y : Int) (i : Nat) : List Int := (List.range i).flatMap fun (k : Nat) => figStep n root y (1 + (k : Int))
noncomputable def lawFigs (n root y : Int) : List Int := figUp n root y (n - 1).toNat ++ List.replicate ((-((figUp n root y (n - 1).toNat).length : Int)).fmod 4).toNat 0
theorem figStep_length (n root y s : Int) : (figStep n root y s).length ≤ 3 := by
  unfold figStep
  split
  · split <;> simp
  · simp
theorem figUp_length (n root y : Int) : ∀ i : Nat, (figUp n root y i).length ≤ 3 * i
  | 0 => by simp [figUp]
  | i + 1 => by
    have h := figUp_length n root y i
    have h2 := figStep_length n root y (1 + (i : Int))
    unfold figUp at *
    rw [List.range_succ, List.flatMap_append, List.length_append]
    simp only [List.flatMap_cons, List.flatMap_nil, List.append_nil]
    omega
theorem figUp_succ (n root y : Int) (i : Nat) : figUp n root y (i + 1) = figUp n root y i ++ figStep n root y (1 + (i : Int)) := by
  unfold figUp
  rw [List.range_succ, List.flatMap_append]
  simp
noncomputable def FGI (n root y : Int) (t1 t2 t3 : Tok) (l : Addr) (news : List (Addr × Obj)) (i _tk : Nat) (m : Str → Option Value) (news' : List (Addr × Obj)) : Prop :=
  ∃ vs c, IntsAre vs (figUp n root y i) ∧ news' = (l, listOf vs.toArray c) :: news ∧ m (Str.ofString "norm") = some (.int n t1) ∧ m (Str.ofString "root") = some (.int root t2) ∧ m (Str.ofString "y") = some (.int y t3) ∧ m (Str.ofString "figures") = some (.ref l)
theorem c_figures {w : World} {mean : ExcName → Option Value} {mg mb : Str → Option Value} {D U : Nat} {news : List (Addr × Obj)} {t1 t2 t3 : Tok} {n root y : Int} (hD : D < 450) (hr : 0 ≤ root) (hr1 : root < n) (hy : 0 ≤ y) (hy1 : y < n) (hn : n < 50) :
    CT w mean mg mb D U 874 [.int n t1, .int root t2, .int y t3] news (fun h₀ L m s Q => 0 < s.toks ∧ ∀ h' tk' l us, Fr h₀ L h' m → IntsAre us (lawFigs n root y) → News h₀ L h' ((l, listOf us.toArray 0) :: news) → (∀ p ∈ news, p.1 < l) → Q (.ref l) { s with heap := h', toks := tk' }) := by
  w_top off
  k_with_none
  k_with "ROOM" => first | ((try simp only [depth_under_make, depth_under_kw, depth_in1, depth_deeper, depth_caller]); decide) | (show (_ : Nat) < 1000; (try simp only [depth_under_make, depth_under_kw, depth_in1, depth_deeper, depth_caller]); (try dsimp only [ktrTop]); omega)
  k_with "CELL" => (refine' kx_def (by exact rfl) (by exact rfl) (by first | exact rfl | assumption) (by k_asm) (by k_asm) (by k_asm) (by k_asm) (by k_asm) (by k_is) (by k_is) (by k_room) (by first | exact BindsTo.of_eq rfl | exact binds_K (by k_in) rfl (by k_is) rfl rfl rfl) (by decide) (by exact locs rfl) (by exact rfl) (by exact rfl) (by exact rfl) ?_; k_whole; intro _ _ _ _ _ _ kxBq _ _; (try dsimp only); (try k_lift kxBq); (try k_fold))
  k_with "ALL" => (first | exact List.forall_mem_nil _ | with_reducible assumption | with_reducible exact kx_tl (by assumption) | with_reducible exact kx_tl (kx_tl (by assumption)) | with_reducible exact kx_tl (kx_tl (kx_tl (by assumption))) | (refine' List.forall_mem_cons.mpr ⟨(by k_ne), ?_⟩; k_all))
  k_with "newList" => (k_here; refine' newList_K (by k_asm) (by k_asm) ?_; k_whole; intro _ _ _ _ kxl1; (try k_lt kxl1); (try k_sweep))
  k_with "eval Name" => (k_here; refine' name_K (by k_asm) (by k_asm) (by k_asm) (by k_is) ?_ (by with_unfolding_all rfl) (by kernel_rfl) (by kernel_rfl); k_whole)
  k_with "eval Name" => (k_here; refine' ld (by k_asm) (by with_unfolding_all rfl) ?_ (by with_unfolding_all rfl) (by kernel_rfl) (by kernel_rfl); k_whole)
  k_with "getAttr ref" => (k_here; refine' get_own (by k_asm) (by k_asm) (by k_inst) (by k_is) (by k_is) (by k_is) (by k_is) (by k_get) (by k_handed) ?_; k_whole)
  k_with "setAttr ref" => (k_here; refine' set_dict (by k_asm) (by k_asm) (by k_asm) (by k_inst) (by with_unfolding_all exact rfl) (by k_is) (by k_is) (by k_is) (by k_is) (by k_get) (by k_put) (by k_upd) (by exact Nat.le_of_ble_eq_true rfl) ?_; k_whole; intro _ _ _; (try k_sweep))
  k_with "last exec While" => (k_here; with_reducible refine whl_start 100 ?_)
  k_with "exec If" => ((try k_fold); refine wpAny_If ?_; (try dsimp only))
  k_with "exec For Name Call cons nil" => (k_here; (with_reducible rename Fr _ _ _ _ => kxlFq); (with_unfolding_all refine' For_rg kxlFq (by exact rfl) (by exact rfl) ?_; k_whole))
  k_with "pyIter ref" => ((with_reducible show wpAny _ _ (pyIter (Value.ref _)) (fun it s₂ => RgAt _ _ _ _ _ _ _ _ _ _ it s₂) _ _); refine halt ?_)
  k_with "LoTk" => (refine LoTk.intro ?_; intro kxhLoq; (try dsimp only at kxhLoq))
  k_with "execs cons" => (refine wpAny_execs_cons ?_; (try k_fold))
  k_with "execs nil" => (refine wpAny_execs_nil ?_)
  k_with "call ref" => (k_here; (first | ((with_reducible show wpAny _ _ (call (Value.ref 799) _) _ _ _); k_dflt (refine' o_mul (by first | exact Nat.le_of_ble_eq_true rfl | decide | (simp only [depth_under_make, depth_under_kw, depth_in1, depth_deeper, depth_caller]; (try dsimp only [ktrTop]); omega)) (by omega) (by omega) (by omega) (by omega) _ _ _ _ _ _ _ _ _ _ _ _ _ _ _ (by k_asm) (by k_asm) (by k_asm) (by k_asm) (by k_asm) (by k_dflt exact rfl) ?_); skip) | ((with_reducible show wpAny _ _ (call (Value.ref 792) _) _ _ _); k_dflt (refine' o_mod (by first | exact Nat.le_of_ble_eq_true rfl | decide | (simp only [depth_under_make, depth_under_kw, depth_in1, depth_deeper, depth_caller]; (try dsimp only [ktrTop]); omega)) (by omega) (by omega) _ _ _ _ _ _ _ _ _ _ _ _ _ _ _ (by k_asm) (by k_asm) (by k_asm) (by k_asm) (by k_asm) (by k_dflt exact rfl) ?_); skip) | ((with_reducible show wpAny _ _ (call (Value.ref 806) _) _ _ _); k_dflt (refine' o_neg (by first | exact Nat.le_of_ble_eq_true rfl | decide | (simp only [depth_under_make, depth_under_kw, depth_in1, depth_deeper, depth_caller]; (try dsimp only [ktrTop]); omega))  _ _ _ _ _ _ _ _ _ _ _ _ _ _ _ (by k_asm) (by k_asm) (by k_asm) (by k_asm) (by k_asm) (by k_dflt exact rfl) ?_);  skip)); intro _ _ _ _ _ _ _ _; (try k_sweep))
  k_with "call ref" => (k_here; (with_reducible show wpAny _ _ (call (Value.ref 867) _) _ _ _); refine halt ?_)
  k_with "call builtin:list.extend" => (k_here; (with_reducible show wpAny _ _ (call (Value.builtin _) [Value.ref _, Value.ref _]) _ _ _); k_dflt (refine' kl_extend (by k_asm) (by k_asm) (by k_mem) (by exact rfl) (by kl_some) (by k_upd) (by exact ext_no (by assumption) (Nat.le_of_ble_eq_true rfl)) (by exact ext_z (by assumption)) (by exact ext_y (by assumption) (Nat.le_of_ble_eq_true rfl)) ?_); intro _ _ kxNq; (try dsimp only [List.nil_append, List.cons_append] at kxNq))
  k_with "call builtin:len" => (k_here; (with_reducible show wpAny _ _ (call (Value.builtin "len") [Value.ref _]) _ _ _); (refine KM.len_K (by k_asm) (by k_dflt k_mem) List.size_toArray (lt62 (by assumption)) ?_))
  k_with "binaryOp Add ref ref" => (k_here; (with_reducible show wpAny _ _ (binaryOp _ (Value.ref _) (Value.ref _)) _ _ _); k_dflt (refine' kmk_add_lit (by k_asm) (by k_asm) (by exact News.isList (by k_asm) (by k_mem)) (by exact News.isList (by k_asm) (by k_mem)) (by exact rfl) ?_ (by first | kl_room | exact add_z (by assumption) (rep_z _ _))); intro _ _ _ kxNq kxl1; (try dsimp only at kxNq); (try k_lt kxl1))
  k_with "binaryOp Add ref ref" => (k_here; (with_reducible show wpAny _ _ (binaryOp _ (Value.ref _) (Value.ref _)) _ _ _); (with_reducible rename News _ _ _ ((_, W.listOf (List.toArray (List.flatten _)) _) :: _) => kxN77); refine halt ?_)
  k_with "MAIN" =>
    dsimp only [CT]; intro gd cn cs a ccd cl outer A₀ base h₀ L m s Q E B F X0 N T hk hret
    obtain ⟨hlt, hret⟩ := hret
    obtain ⟨ck, cnm, cgen, cco, cmo⟩ := cs
    dsimp only at hk; subst hk
    refine wpAny_call ?_
    k_dflt k_enter
    rename_i g L1 h1 FG F1 N1 B1 X1 T1
    refine gen_tk ?_
    intro q hq
    with_unfolding_all refine execs_cons_lo (lo := s.toks) hq ?_
    k_steps
    refine unhalt ?_
    with_reducible (rename News _ _ _ _ => N9)
    with_reducible (rename Fr _ _ _ _ => F9)
    with_reducible (rename IsRange _ _ _ _ _ _ _ _ => R9)
    refine iter_rg (n := (n - 1).toNat) rfl R9 ?hs ?hn F9 N9 ?rest
    case hs => exact range_small_1 (by omega) (by omega)
    case hn => exact range_size_1 (by omega)
    intro I lI hlo
    with_reducible (rename ∀ p ∈ news, p.1 < _ => lA)
    have lne : ∀ p ∈ news, p.1 ≠ _ := fun p hp => Nat.ne_of_lt (lA p hp)
    have lI1 : @LT.lt Nat _ _ I := lI _ List.mem_cons_self
    dsimp only at lI1
  
    refine ⟨FGI n root y t1 t2 t3 _ news, ⟨[], 0, .nil, rfl, rfl, rfl, rfl, rfl⟩, ?step, ?done⟩
    case done =>
      intro h tk m' news' hI F3 N3
      obtain ⟨vs, c, hv, rfl, m1, m3, m4, m5⟩ := hI
      rw [canon4 m1 m3 m4 m5] at F3
      have hV : vs.length ≤ 1000 := by
        have e1 := hv.length
        have e2 := figUp_length n root y (n - 1).toNat
        omega
      k_steps
      refine unhalt ?_
      refine' kmk_add_lit ?F ?N ?a ?b ?e ?_ ?z
      case F => k_asm
      case N => k_asm
      case a => exact News.isList (by k_asm) (by k_mem)
      case b => exact News.isList (by k_asm) (by k_mem)
      case e => exact rfl
      case z => exact add_z hV (rep_z _ _)
      intro D' h' F' N' l1
      dsimp only at N'
      k_lt l1
      k_steps
      with_reducible (rename News _ _ _ _ => N9)
      with_reducible (rename Fr _ _ _ _ => F9)
      have hu : IntsAre (vs ++ (List.replicate ((-(vs.length : Int)).fmod 4).toNat [Value.int 0 tk]).flatten) (lawFigs n root y) := by
        unfold lawFigs
        rw [hv.length]
        exact ints_append hv (ints_zeros _ _)
      refine hret _ _ _ _ F9 hu ?_ ?_
      · intro p hp
        rcases List.mem_cons.mp hp with rfl | hp
        · exact N9 _ List.mem_cons_self
        · exact N9 _ (List.mem_cons_of_mem _ (List.mem_cons_of_mem _ (List.mem_cons_of_mem _ (List.mem_cons_of_mem _ hp))))
      · with_reducible (rename _ ∧ _ ∧ _ ∧ AllLt _ _ => l9)
        exact allLt_lt l9.2.2.2
    case step =>
      rintro i m2 n2 h tk hi ⟨vs, c, hv, rfl, m1, m3, m4, m5⟩ htk off F3 N3
      clear F9 N9 R9
      rw [canon4 m1 m3 m4 m5] at F3
      rw [Int.mul_one] at F3
      k_steps
      refine unhalt ?_
      with_reducible (rename News _ _ _ _ => N3)
      with_reducible (rename Fr _ _ _ _ => F3)
      have hin : (i : Int) < n - 1 := by omega
      have hV : vs.length ≤ 1000 := by
        have e1 := hv.length
        have e2 := figUp_length n root y i
        omega
      refine' c_turns (mean := mean) (mg := mg) (mb := mb) (ts := tk) ?hD ?hx ?hx1 ?hr ?hr1 ?hn ?hts _ _ _ _ _ _ _ _ _ _ _ _ _ _ _ ?kB ?kF ?kX N3 ?kT ?kk ?_
      case hD => first | exact Nat.le_of_ble_eq_true rfl | (simp only [depth_under_make, depth_under_kw, depth_in1, depth_deeper, depth_caller]; (try dsimp only [ktrTop]); omega)
      case hx => omega
      case hx1 => omega
      case hr => exact hr
      case hr1 => exact hr1
      case hn => exact hn
      case hts => (show tk ≠ 0); exact Nat.ne_of_gt (Nat.lt_of_lt_of_le (Nat.succ_pos _) (Nat.le_trans hlo htk))
      case kB => k_asm
      case kF => k_asm
      case kX => k_asm
      case kT => k_asm
      case kk => exact rfl
      refine ⟨by show @LT.lt Nat _ tk _; dsimp only; omega, ?_⟩
      intro h4 tk4 tv4 F4 N4
      clear F3 N3
      by_cases hz : lawTurns (1 + (i : Int)) root n = 0
      · rw [hz]
        k_steps
        refine unhalt ?_
        (try clear N4); (try clear F4)
        with_reducible (rename News _ _ _ _ => N4)
        with_reducible (rename Fr _ _ _ _ => F4)
        refine' c_turns (mean := mean) (mg := mg) (mb := mb) ?hD ?hx ?hx1 ?hr ?hr1 ?hn ?hts _ _ _ _ _ _ _ _ _ _ _ _ _ _ _ ?kB ?kF ?kX N4 ?kT ?kk ?_
        case hD => first | exact Nat.le_of_ble_eq_true rfl | (simp only [depth_under_make, depth_under_kw, depth_in1, depth_deeper, depth_caller]; (try dsimp only [ktrTop]); omega)
        case hx => exact Int.fmod_nonneg (Int.mul_nonneg (by omega) hy) (by omega)
        case hx1 => exact Int.fmod_lt_of_pos _ (by omega)
        case hr => exact hr
        case hr1 => exact hr1
        case hn => exact hn
        case hts => exact Nat.ne_of_gt (by assumption)
        case kB => k_asm
        case kF => k_asm
        case kX => k_asm
        case kT => k_asm
        case kk => exact rfl
        refine ⟨by assumption, ?_⟩
        intro h5 tk5 tv5 F5 N5
        clear F4 N4
        generalize hT : lawTurns (((1 + (i : Int)) * y).fmod n) root n = T2
        have hT2 : T2 = 0 ∨ T2 = 1 ∨ T2 = 2 := by
          rw [← hT]; unfold lawTurns; split
          · exact .inl rfl
          · split
            · exact .inr (.inl rfl)
            · exact .inr (.inr rfl)
        rcases hT2 with e | e | e <;> subst e
        · k_steps
          with_reducible (rename News _ _ _ _ => N9)
          with_reducible (rename Fr _ _ _ _ => F9)
          refine ⟨_, _, _, (_, _) :: news, rfl, F9, news_tl (news_tl (news_tl (news_tl (news_tl (news_tl N9))))), ?_, ⟨_, _, ?_, rfl, rfl, rfl, rfl, rfl⟩⟩
          · intro p hp
            rcases List.mem_cons.mp hp with rfl | hp
            · exact Nat.ne_of_lt lI1
            · exact off p (List.mem_cons_of_mem _ hp)
          · rw [figUp_succ]
            unfold figStep
            rw [if_pos hz, hT]
            exact ints_append hv (.cons _ _ .nil)
        · k_steps
          with_reducible (rename News _ _ _ _ => N9)
          with_reducible (rename Fr _ _ _ _ => F9)
          refine ⟨_, _, _, (_, _) :: news, rfl, F9, news_tl (news_tl (news_tl (news_tl (news_tl (news_tl N9))))), ?_, ⟨_, _, ?_, rfl, rfl, rfl, rfl, rfl⟩⟩
          · intro p hp
            rcases List.mem_cons.mp hp with rfl | hp
            · exact Nat.ne_of_lt lI1
            · exact off p (List.mem_cons_of_mem _ hp)
          · rw [figUp_succ]
            unfold figStep
            rw [if_pos hz, hT]
            exact ints_append hv (.cons _ _ (.cons _ _ (.cons _ _ .nil)))
        · k_steps
          with_reducible (rename News _ _ _ _ => N9)
          with_reducible (rename Fr _ _ _ _ => F9)
          refine ⟨_, _, _, (_, _) :: news, rfl, F9, news_tl (news_tl (news_tl (news_tl (news_tl (news_tl N9))))), ?_, ⟨_, _, ?_, rfl, rfl, rfl, rfl, rfl⟩⟩
          · intro p hp
            rcases List.mem_cons.mp hp with rfl | hp
            · exact Nat.ne_of_lt lI1
            · exact off p (List.mem_cons_of_mem _ hp)
          · rw [figUp_succ]
            unfold figStep
            rw [if_pos hz, hT]
            exact ints_append hv (.cons _ _ (.cons _ _ (.cons _ _ .nil)))
      · k_steps
        all_goals first | exact absurd (Int.ofNat_eq_zero.mp (by assumption)) hz | skip
        with_reducible (rename News _ _ _ _ => N9)
        with_reducible (rename Fr _ _ _ _ => F9)
        refine ⟨_, _, _, (_, _) :: news, rfl, F9, N9, off, ⟨_, _, ?_, rfl, rfl, rfl, rfl, rfl⟩⟩
        rw [figUp_succ]
        unfold figStep
        rw [if_neg hz, List.append_nil]
        exact hv
  refine kx_out ?_
  simp (disch := k_dflt (k_extra "MAIN")) only [↓kx_in]
end
-- RO
section
open PySem PySem.W PySem.Calls PyProof.Rows
set_option maxHeartbeats 0
theorem ne_up {x d : Addr} {k : Nat} (h : x < d) : x ≠ d + (k + 1) := by
  intro e
  have h' : @LT.lt Nat _ x d := h
  have e' : @Eq Nat x (d + (k + 1)) := e
  omega
theorem range_small_0 {n : Int} (h0 : 0 < n) (h : n < 50) : Builtin.Range.small 0 n 1 = true := small_one (by omega) (by omega) (by omega) (by omega)
theorem range_size_0 {n : Int} (h0 : 0 < n) : Builtin.Range.rangeSize 0 n 1 = ((n.toNat : Nat) : Int) := by
  unfold Builtin.Range.rangeSize
  rw [if_pos (by decide)]
  split
  · rw [Int.ediv_one]; omega
  · omega
noncomputable def RootJ (n a b : Int) (i tk : Nat) (ys : List Value) : Prop := IntsAre ys ((List.range i).map fun (k : Nat) => (a + b * (k : Int)).fmod n) ∧ (∀ y ∈ ys, ∃ v t, y = .int v t ∧ @LT.lt Nat _ 0 t ∧ @LT.lt Nat _ t tk) ∧ (0 < i → @LT.lt Nat _ 0 tk)
theorem news_drop4 {h₀ h : Heap} {L : Addr} {a b c d : Addr × Obj} {news : List (Addr × Obj)} (N : News h₀ L h (a :: b :: c :: d :: news)) : News h₀ L h news := news_tl (news_tl (news_tl (news_tl N)))
noncomputable def lawRoot (n a b : Int) : Nat := ((List.range n.toNat).map fun (i : Nat) => (a + b * (i : Int)).fmod n).idxOf 0
theorem c_root {w : World} {mean : ExcName → Option Value} {mg mb : Str → Option Value} {D U : Nat} {news : List (Addr × Obj)} {l : Addr} {t1 t2 t3 : Tok} {n a b : Int} (hD : D < 470)
   (hn : 0 < n) (hn1 : n < 50) (ha : -10 ≤ a) (ha1 : a ≤ 10) (hb : -10 ≤ b) (hb1 : b ≤ 10) (hl : ∀ p ∈ news, p.1 ≠ l) (h0 : ∃ i : Nat, (i : Int) < n ∧ (a + b * (i : Int)).fmod n = 0) :
    CT w mean mg mb D U 846 [.ref l] ((l, { cls := .type "tuple", data := .seq #[.int n t1, .int a t2, .int b t3] }) :: news) (fun h₀ L m s Q => ∀ h' tk' t, Fr h₀ L h' m → News h₀ L h' ((l, { cls := .type "tuple", data := .seq #[.int n t1, .int a t2, .int b t3] }) :: news) → Q (.int (lawRoot n a b : Nat) t) { s with heap := h', toks := tk' }) := by
  w_top off
  k_with_none
  k_with "ROOM" => first | ((try simp only [depth_under_make, depth_under_kw, depth_in1, depth_deeper, depth_caller]); decide) | (show (_ : Nat) < 1000; (try simp only [depth_under_make, depth_under_kw, depth_in1, depth_deeper, depth_caller]); (try dsimp only [ktrTop]); omega)
  k_with "CELL" => (refine' kx_def (by exact rfl) (by exact rfl) (by first | exact rfl | assumption) (by k_asm) (by k_asm) (by k_asm) (by k_asm) (by k_asm) (by k_is) (by k_is) (by k_room) (by first | exact BindsTo.of_eq rfl | exact binds_K (by k_in) rfl (by k_is) rfl rfl rfl) (by decide) (by exact locs rfl) (by exact rfl) (by exact rfl) (by exact rfl) ?_; k_whole; intro _ _ _ _ _ _ kxBq _ _; (try dsimp only); (try k_lift kxBq); (try k_fold))
  k_with "ALL" => (first | exact List.forall_mem_nil _ | with_reducible assumption | with_reducible exact kx_tl (by assumption) | with_reducible exact kx_tl (kx_tl (by assumption)) | with_reducible exact kx_tl (kx_tl (kx_tl (by assumption))) | (refine' List.forall_mem_cons.mpr ⟨(by k_ne), ?_⟩; k_all))
  k_with "newList" => (k_here; refine' newList_K (by k_asm) (by k_asm) ?_; k_whole; intro _ _ _ _ kxl1; (try k_lt kxl1); (try k_sweep))
  k_with "eval Name" => (k_here; refine' name_K (by k_asm) (by k_asm) (by k_asm) (by k_is) ?_ (by with_unfolding_all rfl) (by kernel_rfl) (by kernel_rfl); k_whole)
  k_with "eval Name" => (k_here; refine' ld (by k_asm) (by with_unfolding_all rfl) ?_ (by with_unfolding_all rfl) (by kernel_rfl) (by kernel_rfl); k_whole)
  k_with "getAttr ref" => (k_here; refine' get_own (by k_asm) (by k_asm) (by k_inst) (by k_is) (by k_is) (by k_is) (by k_is) (by k_get) (by k_handed) ?_; k_whole)
  k_with "setAttr ref" => (k_here; refine' set_dict (by k_asm) (by k_asm) (by k_asm) (by k_inst) (by with_unfolding_all exact rfl) (by k_is) (by k_is) (by k_is) (by k_is) (by k_get) (by k_put) (by k_upd) (by exact Nat.le_of_ble_eq_true rfl) ?_; k_whole; intro _ _ _; (try k_sweep))
  k_with "last exec While" => (k_here; with_reducible refine whl_start 100 ?_)
  k_with "exec If" => ((try k_fold); refine wpAny_If ?_; (try dsimp only))
  k_with "call ref" => (k_here; (with_reducible show wpAny _ _ (call (Value.ref 834) _) _ _ _); refine halt ?_)
  k_with "execs cons" => (refine wpAny_execs_cons ?_; (try k_fold))
  k_with "execs nil" => (refine wpAny_execs_nil ?_)
  k_with "eval ListComp" => (k_here; k_dflt (refine cp_rg (F₀ := by k_asm) (by with_unfolding_all rfl) (by decide) (by rfl) (by decide) (by rfl) ?_))
  k_with "MAIN" =>
    dsimp only [CT]; intro gd cn cs ad ccd cl outer A₀ base h₀ L m s Q E B F X0 N T hk hret
    obtain ⟨ck, cnm, cgen, cco, cmo⟩ := cs
    dsimp only at hk; subst hk
    refine wpAny_call ?_
    k_dflt k_enter
    with_reducible (rename ∀ p ∈ _ :: news, p.1 < _ => g)
    have g1 : ∀ p ∈ news, p.1 ≠ _ + 1 := fun p hp => ne_up (k := 0) (g p (List.mem_cons_of_mem _ hp))
    have g2 : ∀ p ∈ news, p.1 ≠ _ + 1 + 1 := fun p hp => ne_up (k := 1) (g p (List.mem_cons_of_mem _ hp))
    have g3 : ∀ p ∈ news, p.1 ≠ _ + 1 + 1 + 1 := fun p hp => ne_up (k := 2) (g p (List.mem_cons_of_mem _ hp))
    k_steps
    with_reducible (rename News _ _ _ _ => N9)
    with_reducible (rename Fr _ _ _ _ => F9)
    with_reducible (rename IsRange _ _ _ _ _ _ _ _ => R9)
    refine ⟨_, _, _, _, _, _, n.toNat, _, rfl, rfl, F9, N9, R9, range_small_0 hn hn1, range_size_0 hn, ?hz, RootJ n a b, ⟨.nil, (fun y hy => absurd hy List.not_mem_nil), (fun h => absurd h (Nat.lt_irrefl 0))⟩, ?step, ?done⟩
    case hz => rw [sizeLine_eq]; omega
    case step =>
      rintro i tk ys I oI C oC D m₂ h E' hi ⟨hJ, hJ2, hJ3⟩ hy htk hC hm F3 N3
      clear F9 N9 R9
      k_steps
      refine ⟨_, _, rfl, F3, N3, ?_, ?_, ?_⟩
      · rw [List.range_succ, List.map_append]
        refine Mine.ints_append hJ ?_
        rw [Int.zero_add]
        exact .cons _ _ .nil
      · intro y hy
        rcases List.mem_append.mp hy with hy | hy
        · obtain ⟨v, t, rfl, h1, h2⟩ := hJ2 y hy
          exact ⟨v, t, rfl, h1, by dsimp only; omega⟩
        · rw [List.mem_singleton.mp hy]
          exact ⟨_, _, rfl, by dsimp only; omega, by dsimp only; omega⟩
      · intro _
        dsimp only
        omega
    case done =>
      rintro D h tk ys ⟨hJ, hJ2, hJ3⟩ hy htk F3 N3 off
      clear F9 N9 R9
      k_steps
      refine unhalt ?_
      have h00 : (0 : Int) ∈ (List.range n.toNat).map fun (k : Nat) => (a + b * (k : Int)).fmod n := by
        obtain ⟨i, hi, e⟩ := h0
        exact List.mem_map.mpr ⟨i, List.mem_range.mpr (by omega), e⟩
      refine' c_index (mean := mean) (mg := mg) (mb := mb) ?hD hJ h00 ?ht ?htb rfl _ _ _ _ _ _ _ _ _ _ _ _ _ _ _ ?kB ?kF ?kX N3 ?kT ?kk ?_
      case hD => first | exact Nat.le_of_ble_eq_true rfl | (simp only [depth_under_make, depth_under_kw, depth_in1, depth_deeper, depth_caller]; (try dsimp only [ktrTop]); omega)
      case ht =>
        intro v hv
        obtain ⟨z, t, rfl, h1, h2⟩ := hJ2 v hv
        exact ⟨z, t, rfl, Nat.ne_of_gt h1, fun _ => Nat.ne_of_lt h2⟩
      case htb => exact Nat.ne_of_gt (hJ3 (by omega))
      case kB => k_asm
      case kF => k_asm
      case kX => k_asm
      case kT => k_asm
      case kk => exact rfl
      intro h2 tk2 tv F2 N2
      clear F3 N3
      k_steps
      with_reducible (rename News _ _ _ _ => N9)
      with_reducible (rename Fr _ _ _ _ => F9)
      exact hret _ _ _ F9 (news_drop4 N9)
  refine kx_out ?_
  simp (disch := k_dflt (k_extra "MAIN")) only [↓kx_in]
end
-- B6
section
open PySem PySem.W PySem.Calls PyProof.Rows
set_option maxHeartbeats 0
noncomputable def B64C (x : Int) : Int := (((([65, 66, 67, 68, 69, 70, 71, 72, 73, 74, 75, 76, 77, 78, 79, 80, 81, 82, 83, 84, 85, 86, 87, 88, 89, 90, 97, 98, 99, 100, 101, 102, 103, 104, 105, 106, 107, 108, 109, 110, 111, 112, 113, 114, 115, 116, 117, 118, 119, 120, 121, 122, 48, 49, 50, 51, 52, 53, 54, 55, 56, 57, 43, 47] : List UInt8).getD x.toNat 0).toNat : Nat) : Int)
noncomputable def b6Ch (ks : List Int) : Nat → Int
  | 0 => 0
  | i + 1 => (b6Ch ks i * 256 + ks.getD i 0) % 65536
noncomputable def b6One (p : Nat) (ch : Int) : List Int := match p with
  | 0 => [B64C (ch / 4 % 64)]
  | 1 => [B64C (ch / 16 % 64)]
  | _ => [B64C (ch / 64 % 64), B64C (ch / 1 % 64)]
noncomputable def b6Out (ks : List Int) : Nat → List Int
  | 0 => []
  | i + 1 => b6Out ks i ++ b6One (i % 3) (b6Ch ks (i + 1))
theorem b6Ch_in (ks : List Int) : ∀ i, 0 ≤ b6Ch ks i ∧ b6Ch ks i < 65536
  | 0 => by simp [b6Ch]
  | i + 1 => by unfold b6Ch; omega
theorem b6One_length (p : Nat) (ch : Int) : (b6One p ch).length ≤ 2 := by
  unfold b6One
  split <;> simp
theorem b6Out_length (ks : List Int) : ∀ i, (b6Out ks i).length ≤ 2 * i
  | 0 => by simp [b6Out]
  | i + 1 => by
    have h := b6Out_length ks i
    have h2 := b6One_length (i % 3) (b6Ch ks (i + 1))
    unfold b6Out
    rw [List.length_append]
    omega
noncomputable def B6J (ks : List Int) (l : Addr) (news : List (Addr × Obj)) (i : Nat) (m : Str → Option Value) (nw : List (Addr × Obj)) : Prop :=
  ∃ us c lb tl tc, IntsAre us (b6Out ks i) ∧ nw = (l, listOf us.toArray c) :: news ∧ lb = 2 * ((i % 3 : Nat) : Int) ∧ m (Str.ofString "leftbits") = some (.int lb tl) ∧ m (Str.ofString "leftchar") = some (.int (b6Ch ks i) tc) ∧ m (Str.ofString "out") = some (.ref l) ∧ m (Str.ofString "newline") = some (.bool false)
theorem lno_of {l : Addr} {o : Obj} {news own : List (Addr × Obj)} (h : ∀ p ∈ news, p.1 < l) (ho : OwnOff own (((l, o) :: news).map (·.1))) : ∀ p ∈ news ++ own, p.1 ≠ l := by
  intro p hp
  rcases List.mem_append.mp hp with hp | hp
  · exact Nat.ne_of_lt (h p hp)
  · exact ho p hp _ List.mem_cons_self
theorem sub_own {x : Addr × Obj} {news : List (Addr × Obj)} (own : List (Addr × Obj)) : ∀ p ∈ x :: news, p ∈ x :: (news ++ own) := fun p hp => by
  rcases List.mem_cons.mp hp with rfl | hp
  · exact List.mem_cons_self
  · exact List.mem_cons_of_mem _ (List.mem_append.mpr (.inl hp))
theorem own_sub {x : Addr × Obj} {news : List (Addr × Obj)} (own : List (Addr × Obj)) : ∀ p ∈ own, p ∈ x :: (news ++ own) := fun p hp => List.mem_cons_of_mem _ (List.mem_append.mpr (.inr hp))
theorem inv_end {h₀ h' : Heap} {L l : Addr} {o o0 : Obj} {J : (Str → Option Value) → List (Addr × Obj) → Prop} {m' : Str → Option Value} {own news : List (Addr × Obj)} {s₁ : Shared} {tk : Nat} (F : Fr h₀ L h' m') (N : News h₀ L h' ((l, o) :: (news ++ own))) (hj : J m' ((l, o) :: news)) :
    InvEndN h₀ L J own (((l, o0) :: news).map (·.1)) s₁ { s₁ with heap := h', toks := tk } := InvEndN.intro (nx := (l, o) :: news) F N hj rfl (sub_own _) (own_sub _)
theorem app_z {vs : List Value} (h : vs.length ≤ 1000) : vs.toArray.size ≤ sizeLine := by
  rw [sizeLine_eq, List.size_toArray]
  omega
theorem app_len {vs : List Value} {x : Value} (h : vs.length ≤ 998) : (vs ++ [x]).length ≤ 1000 := by
  rw [List.length_append, List.length_singleton]
  omega
theorem app_len0 {vs : List Value} (h : vs.length ≤ 998) : vs.length ≤ 1000 := by omega
theorem B64C_in (x : Int) : 0 ≤ B64C x ∧ B64C x < 256 := by
  unfold B64C
  refine ⟨Int.natCast_nonneg _, ?_⟩
  have h := UInt8.toNat_lt (([65, 66, 67, 68, 69, 70, 71, 72, 73, 74, 75, 76, 77, 78, 79, 80, 81, 82, 83, 84, 85, 86, 87, 88, 89, 90, 97, 98, 99, 100, 101, 102, 103, 104, 105, 106, 107, 108, 109, 110, 111, 112, 113, 114, 115, 116, 117, 118, 119, 120, 121, 122, 48, 49, 50, 51, 52, 53, 54, 55, 56, 57, 43, 47] : List UInt8).getD x.toNat 0)
  omega
theorem b6One_in (p : Nat) (ch : Int) : ∀ x ∈ b6One p ch, 0 ≤ x ∧ x < 256 := by
  intro x hx
  unfold b6One at hx
  split at hx
  · rw [List.mem_singleton.mp hx]; exact B64C_in _
  · rw [List.mem_singleton.mp hx]; exact B64C_in _
  · rcases List.mem_cons.mp hx with rfl | hx
    · exact B64C_in _
    · rw [List.mem_singleton.mp hx]; exact B64C_in _
theorem b6Out_in (ks : List Int) : ∀ i, KBa.In (b6Out ks i)
  | 0 => fun x hx => absurd hx List.not_mem_nil
  | i + 1 => fun x hx => by
    unfold b6Out at hx
    rcases List.mem_append.mp hx with hx | hx
    · exact b6Out_in ks i x hx
    · exact b6One_in _ _ x hx
theorem meta_bytes : typeOf (.type "bytes") = pure (.type "type") := by kernel_rfl
noncomputable def b6Swap (x : Int) : Int := if x = 43 then 39 else if x = 47 then 34 else x
theorem swap_at (c : UInt8) : (((mtab.getD c.toNat c).toNat : Nat) : Int) = b6Swap ((c.toNat : Nat) : Int) := by
  have h := mtab_at c.toNat c.toNat_lt
  have e : c.toNat.toUInt8 = c := by simp
  rw [e] at h
  rw [h]
  unfold b6Swap
  (repeat' split) <;> omega
theorem swap_ints {b : Array UInt8} {ns : List Int} (h : KBw.bInts b = ns) : KBw.bInts (b.map fun c => mtab.getD c.toNat c) = ns.map b6Swap := by
  subst h
  unfold KBw.bInts
  rw [Array.toList_map, List.map_map, List.map_map]
  refine List.map_congr_left fun c _ => swap_at c
theorem c_b64 {w : World} {mean : ExcName → Option Value} {mg mb : Str → Option Value} {D U : Nat} {news : List (Addr × Obj)} {b : Array UInt8} {ks : List Int} {q : Nat} {t u : Tok} (hD : D < 440) (hb : KBw.bInts b = ks) (hq : ks.length = 3 * q) (hq1 : q ≤ 50) :
    CT w mean mg mb D U 764 [.bytes b t, .bytes [39, 34].toArray u] news (fun h₀ L m s Q => ∀ h' tk' r t', Fr h₀ L h' m → News h₀ L h' news → KBw.bInts r = (b6Out ks ks.length).map b6Swap → Q (.bytes r t') { s with heap := h', toks := tk' }) := by
  w_top off
  k_with_none
  k_with "ROOM" => first | ((try simp only [depth_under_make, depth_under_kw, depth_in1, depth_deeper, depth_caller]); decide) | (show (_ : Nat) < 1000; (try simp only [depth_under_make, depth_under_kw, depth_in1, depth_deeper, depth_caller]); (try dsimp only [ktrTop]); omega)
  k_with "CELL" => (refine' kx_def (by exact rfl) (by exact rfl) (by first | exact rfl | assumption) (by k_asm) (by k_asm) (by k_asm) (by k_asm) (by k_asm) (by k_is) (by k_is) (by k_room) (by first | exact BindsTo.of_eq rfl | exact binds_K (by k_in) rfl (by k_is) rfl rfl rfl) (by decide) (by exact locs rfl) (by exact rfl) (by exact rfl) (by exact rfl) ?_; k_whole; intro _ _ _ _ _ _ kxBq _ _; (try dsimp only); (try k_lift kxBq); (try k_fold))
  k_with "ALL" => (first | exact List.forall_mem_nil _ | with_reducible assumption | with_reducible exact kx_tl (by assumption) | with_reducible exact kx_tl (kx_tl (by assumption)) | with_reducible exact kx_tl (kx_tl (kx_tl (by assumption))) | (refine' List.forall_mem_cons.mpr ⟨(by k_ne), ?_⟩; k_all))
  k_with "newList" => (k_here; refine' newList_K (by k_asm) (by k_asm) ?_; k_whole; intro _ _ _ _ kxl1; (try k_lt kxl1); (try k_sweep))
  k_with "eval Name" => (k_here; refine' name_K (by k_asm) (by k_asm) (by k_asm) (by k_is) ?_ (by with_unfolding_all rfl) (by kernel_rfl) (by kernel_rfl); k_whole)
  k_with "eval Name" => (k_here; refine' ld (by k_asm) (by with_unfolding_all rfl) ?_ (by with_unfolding_all rfl) (by kernel_rfl) (by kernel_rfl); k_whole)
  k_with "getAttr ref" => (k_here; refine' get_own (by k_asm) (by k_asm) (by k_inst) (by k_is) (by k_is) (by k_is) (by k_is) (by k_get) (by k_handed) ?_; k_whole)
  k_with "setAttr ref" => (k_here; refine' set_dict (by k_asm) (by k_asm) (by k_asm) (by k_inst) (by with_unfolding_all exact rfl) (by k_is) (by k_is) (by k_is) (by k_is) (by k_get) (by k_put) (by k_upd) (by exact Nat.le_of_ble_eq_true rfl) ?_; k_whole; intro _ _ _; (try k_sweep))
  k_with "last exec While" => (k_here; with_reducible refine whl_start 100 ?_)
  k_with "exec If" => ((try k_fold); refine wpAny_If ?_; (try dsimp only))
  k_with "binaryOp LShift int int" => (k_here; (first | (with_reducible refine' shl_int (n := 6) 64 (by decide) (by decide) (by decide) (by omega) (by omega) ?_) | (with_reducible refine' shl_int (n := 8) 256 (by decide) (by decide) (by decide) (by omega) (by omega) ?_)))
  k_with "binaryOp BitOr int int" => (k_here; (first | (with_reducible refine' or_K 6 64 (by decide) (by omega) (by omega) (by omega) ?_) | (with_reducible refine' or_K 8 256 (by decide) (by omega) (by omega) (by omega) ?_)))
  k_with "binaryOp RShift int int" => (k_here; (first | (with_reducible refine' shr_int (n := 16) 65536 (by decide) (by decide) ?_) | (with_reducible refine' shr_int (n := 8) 256 (by decide) (by decide) ?_) | (with_reducible refine' shr_int (n := 0 + 8 - 6) 4 (by decide) (by decide) ?_) | (with_reducible refine' shr_int (n := 2 + 8 - 6) 16 (by decide) (by decide) ?_) | (with_reducible refine' shr_int (n := 4 + 8 - 6) 64 (by decide) (by decide) ?_) | (with_reducible refine' shr_int (n := 4 + 8 - 6 - 6) 1 (by decide) (by decide) ?_)))
  k_with "binaryOp BitAnd int int" => (k_here; (first | (with_reducible refine' and_K (n := 255) 8 256 (by decide) (by decide) ?_) | (with_reducible refine' and_K (n := 63) 6 64 (by decide) (by decide) ?_) | (with_reducible refine' and_K (n := 65535) 16 65536 (by decide) (by decide) ?_)))
  k_with "execs cons" => (refine' nst (s := s) (by k_asm) (by with_unfolding_all exact rfl) ?_; intro _; refine wpAny_execs_cons ?_; (try k_fold))
  k_with "call type:type" => ((with_reducible show wpAny _ _ (call _ [Value.bytes _ _]) _ _ _); refine call_type_of (Tx := "bytes") rfl (by decide +kernel) ?_)
  k_with "pyIter bytes" => ((with_reducible show wpAny _ _ (pyIter (Value.bytes _ _)) _ _ _); refine halt ?_)
  k_with "InvPostN" => (dsimp only [InvPostN])
  k_with "InvEndN" => (refine halt ?_)
  k_with "call builtin:list.append" => (k_here; (with_reducible show wpAny _ _ (call (Value.builtin _) [Value.ref _, _]) _ _ _); k_dflt (refine' append_K (by k_asm) (by k_asm) (by k_upd) ?_ (by exact app_z (by first | exact app_len0 (by assumption) | exact app_len (by assumption)))); intro _ _ kxNq; (try simp only [List.push_toArray] at kxNq))
  k_with "call type:bytes" => (k_here; (with_reducible show wpAny _ _ (call (Value.type "bytes") [Value.ref _]) _ _ _); k_dflt (refine' KBa.make_K (by k_asm) (by k_asm) (by rfl) (by exact News.isList (by k_asm) (by k_mem)) (by assumption) (by assumption) (by assumption) ?_); intro _ _ _ _ _ _)
  k_with "getMethod bytes" => (k_here; (with_reducible refine tl_method ?_))
  k_with "getMethod type:bytes" => (k_here; refine' method_type (by k_asm) (by k_asm) (by exact meta_bytes) (by decide +kernel) (by k_dflt k_is) (by k_handed) ?_)
  k_with "call builtin:bytes.maketrans" => (k_here; (refine mt_call ?_); intro _ _)
  k_with "call builtin:bytes.translate" => (k_here; (refine tl_call mtab_size (by rw [byteArr_size, sizeLine_eq]; assumption) ?_); intro _ _)
  k_with "MAIN" =>
    dsimp only [CT]; intro gd cn cs a ccd cl outer A₀ base h₀ L m s Q E B F X0 N T hk hret
    obtain ⟨ck, cnm, cgen, cco, cmo⟩ := cs
    dsimp only at hk; subst hk
    refine wpAny_call ?_
    k_dflt k_enter
    rename_i g L1 h1 FG F1 N1 B1 X1 T1
    k_steps
    refine unhalt ?_
    with_reducible (rename News _ _ _ _ => N9)
    with_reducible (rename Fr _ _ _ _ => F9)
    with_reducible (rename ∀ p ∈ news, p.1 < _ => lA)
    refine KBmo.iter_bytesN (B6J ks _ news) hb rfl F9 N9 ⟨[], 0, 0, _, _, .nil, rfl, rfl, rfl, rfl, rfl, rfl⟩ ?turn ?done
    case done =>
      rintro m1 nw h tk ⟨us, c, lb, tl, tc, hu, rfl, hlb, e1, e2, e3, e4⟩ F3 N3
      clear F9 N9
      rw [canon4 e1 e2 e3 e4] at F3
      have hlb2 : lb = 0 := by omega
      subst hlb2
      have hIn := b6Out_in ks ks.length
      have hSz : (b6Out ks ks.length).length ≤ 16777216 := by
        have := b6Out_length ks ks.length
        omega
      k_steps
      with_reducible (rename News _ _ _ _ => N9)
      with_reducible (rename Fr _ _ _ _ => F9)
      exact hret _ _ _ _ F9 (news_tl N9) (swap_ints (KBa.ints_make hIn))
    case turn =>
      rintro i k t m1 nw h tk own hi hk0 hk1 hown ⟨us, c, lb, tl, tc, hu, rfl, hlb, e1, e2, e3, e4⟩ F3 N3
      clear F9 N9
      rw [List.cons_append] at N3
      have lno := lno_of lA hown
      have hin : i < 3 * q := by
        have := (List.getElem?_eq_some_iff.mp hi).1
        omega
      have hU : us.length ≤ 998 := by
        have h1 := hu.length
        have h2 := b6Out_length ks i
        omega
      rw [canon4 e1 e2 e3 e4] at F3
      have hch := b6Ch_in ks i
      have hc1 : b6Ch ks (i + 1) = (b6Ch ks i * 256 + k) % 65536 := by
        show (b6Ch ks i * 256 + ks.getD i 0) % 65536 = _
        rw [List.getD_eq_getElem?_getD, hi]
        rfl
      generalize hCH : b6Ch ks i = ch at F3 hch hc1
      have h3 : i % 3 = 0 ∨ i % 3 = 1 ∨ i % 3 = 2 := by omega
      rcases h3 with h3 | h3 | h3
      · rw [h3] at hlb
        have hlb2 : lb = 0 := by omega
        clear hlb
        subst hlb2
        k_steps
        refine unhalt ?_
        with_reducible (rename News _ _ _ _ => N9)
        with_reducible (rename Fr _ _ _ _ => F9)
        refine inv_end F9 N9 ⟨_, _, _, _, _, ?hu, rfl, ?hl, rfl, by rw [hc1]; rfl, rfl, rfl⟩
        case hl => omega
        case hu =>
          unfold b6Out
          rw [h3, hc1]
          exact Mine.ints_append hu (.cons _ _ .nil)
      · rw [h3] at hlb
        have hlb2 : lb = 2 := by omega
        clear hlb
        subst hlb2
        k_steps
        refine unhalt ?_
        with_reducible (rename News _ _ _ _ => N9)
        with_reducible (rename Fr _ _ _ _ => F9)
        refine inv_end F9 N9 ⟨_, _, _, _, _, ?hu, rfl, ?hl, rfl, by rw [hc1]; rfl, rfl, rfl⟩
        case hl => omega
        case hu =>
          unfold b6Out
          rw [h3, hc1]
          exact Mine.ints_append hu (.cons _ _ .nil)
      · rw [h3] at hlb
        have hlb2 : lb = 4 := by omega
        clear hlb
        subst hlb2
        k_steps
        refine unhalt ?_
        with_reducible (rename News _ _ _ _ => N9)
        with_reducible (rename Fr _ _ _ _ => F9)
        refine inv_end F9 N9 ⟨_, _, _, _, _, ?hu, rfl, ?hl, rfl, by rw [hc1]; rfl, rfl, rfl⟩
        case hl => omega
        case hu =>
          unfold b6Out
          rw [h3, hc1]
          rw [List.append_assoc]
          exact Mine.ints_append hu (.cons _ _ (.cons _ _ .nil))
  refine kx_out ?_
  simp (disch := k_dflt (k_extra "MAIN")) only [↓kx_in]
end
-- LN
section
open PySem PySem.W PySem.Calls PyProof.Rows
set_option maxHeartbeats 0
theorem off_one {I : Addr} {o : Obj} {news : List (Addr × Obj)} (h : ∀ p ∈ news, p.1 < I) : ∀ p ∈ news, ∀ q ∈ [(I, o)], p.1 ≠ q.1 := fun p hp q hq => by
  rw [List.mem_singleton.mp hq]
  exact Nat.ne_of_lt (h p hp)
theorem pick4 {vs zs : List Value} {i : Nat} {x y : Int} (hx : x = 0 + (i : Int) * 4) (hy : y = 0 + (i : Int) * 4 + 4) (hl : 4 * i + 4 ≤ vs.length) (h : (vs.drop (4 * i)).take 4 = zs) : kms_pick vs.toArray.toList (some x) (some y) = zs := by
  subst hx hy
  unfold kms_pick kms_lo kms_hi
  simp only [if_neg (show ¬ (0 + (i : Int) * 4 < 0) by omega), if_neg (show ¬ (0 + (i : Int) * 4 + 4 < 0) by omega)]
  show (vs.drop (min (0 + (i : Int) * 4).toNat vs.length)).take (min (0 + (i : Int) * 4 + 4).toNat vs.length - min (0 + (i : Int) * 4).toNat vs.length) = zs
  rw [← h, show min (0 + (i : Int) * 4).toNat vs.length = 4 * i by omega, show min (0 + (i : Int) * 4 + 4).toNat vs.length - 4 * i = 4 by omega]
theorem canon2 {m : Str → Option Value} {a b : Str} {u v : Value} (h1 : m a = some u) (h2 : m b = some v) : m = (fun z => if z = a then some u else if z = b then some v else m z) := by
  funext z
  by_cases e1 : z = a
  · rw [if_pos e1, e1, h1]
  · rw [if_neg e1]
    by_cases e2 : z = b
    · rw [if_pos e2, e2, h2]
    · rw [if_neg e2]
theorem ints_cons {vs : List Value} {n : Int} {ns : List Int} (h : IntsAre vs (n :: ns)) : ∃ t us, vs = .int n t :: us ∧ IntsAre us ns := by
  cases h with
  | cons n t h => exact ⟨t, _, rfl, h⟩
theorem ints_drop {vs : List Value} {ns : List Int} (h : IntsAre vs ns) : ∀ k, IntsAre (vs.drop k) (ns.drop k) := by
  induction h with
  | nil => intro k; rw [List.drop_nil, List.drop_nil]; exact .nil
  | cons n t h ih =>
    intro k
    cases k with
    | zero => exact .cons n t h
    | succ k => exact ih k
theorem four {vs : List Value} {ns : List Int} (h : IntsAre vs ns) {i : Nat} (hl : 4 * i + 4 ≤ ns.length) :
    ∃ f0 f1 f2 f3 t0 t1 t2 t3 r, (vs.drop (4 * i)).take 4 = [.int f0 t0, .int f1 t1, .int f2 t2, .int f3 t3] ∧ ns.drop (4 * i) = f0 :: f1 :: f2 :: f3 :: r := by
  have h2 := ints_drop h (4 * i)
  match e : ns.drop (4 * i) with
  | [] => have := congrArg List.length e; rw [List.length_drop] at this; simp at this; omega
  | [_] => have := congrArg List.length e; rw [List.length_drop] at this; simp at this; omega
  | [_, _] => have := congrArg List.length e; rw [List.length_drop] at this; simp at this; omega
  | [_, _, _] => have := congrArg List.length e; rw [List.length_drop] at this; simp at this; omega
  | f0 :: f1 :: f2 :: f3 :: r =>
    rw [e] at h2
    obtain ⟨t0, u0, e0, h3⟩ := ints_cons h2
    obtain ⟨t1, u1, e1, h4⟩ := ints_cons h3
    obtain ⟨t2, u2, e2, h5⟩ := ints_cons h4
    obtain ⟨t3, u3, e3, h6⟩ := ints_cons h5
    refine ⟨f0, f1, f2, f3, t0, t1, t2, t3, r, ?_, rfl⟩
    rw [e0, e1, e2, e3]
    rfl
noncomputable def oct4 (f0 f1 f2 f3 : Int) : List Int := [((((0 * 64 + f0) * 64 + f1) * 64 + f2) * 64 + f3) / 65536, ((((0 * 64 + f0) * 64 + f1) * 64 + f2) * 64 + f3) / 256 % 256, ((((0 * 64 + f0) * 64 + f1) * 64 + f2) * 64 + f3) % 256]
noncomputable def oct1 : List Int → List Int
  | f0 :: f1 :: f2 :: f3 :: _ => oct4 f0 f1 f2 f3
  | _ => []
noncomputable def octUp (fs : List Int) (i : Nat) : List Int := (List.range i).flatMap fun k => oct1 (fs.drop (4 * k))
theorem octUp_succ (fs : List Int) (i : Nat) : octUp fs (i + 1) = octUp fs i ++ oct1 (fs.drop (4 * i)) := by
  unfold octUp
  rw [List.range_succ, List.flatMap_append]
  simp
theorem oct1_length (fs : List Int) : (oct1 fs).length ≤ 3 := by
  unfold oct1
  split <;> simp [oct4]
theorem octUp_length (fs : List Int) : ∀ i : Nat, (octUp fs i).length ≤ 3 * i
  | 0 => by simp [octUp]
  | i + 1 => by
    have h := octUp_length fs i
    have h2 := oct1_length (fs.drop (4 * i))
    rw [octUp_succ, List.length_append]
    omega
theorem off2 {I a b : Addr} {o o' : Obj} {news : List (Addr × Obj)} (h1 : a < I) (h2 : b < I) (h : ∀ p ∈ news, p.1 ≠ I) : ∀ p ∈ (a, o) :: (b, o') :: news, p.1 ≠ I := by
  intro p hp
  rcases List.mem_cons.mp hp with rfl | hp
  · exact Nat.ne_of_lt h1
  · rcases List.mem_cons.mp hp with rfl | hp
    · exact Nat.ne_of_lt h2
    · exact h p hp
theorem range_size_4 {n q : Nat} (h : n = 4 * q) : Builtin.Range.rangeSize 0 (n : Int) 4 = (q : Int) := by
  unfold Builtin.Range.rangeSize
  rw [if_pos (by decide)]
  split <;> omega
theorem fits {x : Int} (h : -1000 ≤ x) (h1 : x ≤ 1000) : Builtin.Range.rangeFitsLong x = true := by
  unfold Builtin.Range.rangeFitsLong
  rw [Bool.and_eq_true, decide_eq_true_eq, decide_eq_true_eq]
  omega
theorem range_small_4 {n q : Nat} (h : n = 4 * q) (hq : q ≤ 50) : Builtin.Range.small 0 (n : Int) 4 = true := by
  unfold Builtin.Range.small
  rw [range_size_4 h, fits (by omega) (by omega), fits (by omega) (by omega), fits (by omega) (by omega), fits (by omega) (by omega), if_pos (by decide), fits (by omega) (by omega), Bool.or_true]
  rfl
noncomputable def LNI (fs : List Int) (l lf : Addr) (vs : List Value) (c : Nat) (news : List (Addr × Obj)) (i _tk : Nat) (m : Str → Option Value) (news' : List (Addr × Obj)) : Prop :=
  ∃ us d, IntsAre us (octUp fs i) ∧ news' = (l, listOf us.toArray d) :: (lf, listOf vs.toArray c) :: news ∧ m (Str.ofString "figures") = some (.ref lf) ∧ m (Str.ofString "octets") = some (.ref l)
theorem oct4_in {f0 f1 f2 f3 : Int} (h0 : 0 ≤ f0 ∧ f0 < 64) (h1 : 0 ≤ f1 ∧ f1 < 64) (h2 : 0 ≤ f2 ∧ f2 < 64) (h3 : 0 ≤ f3 ∧ f3 < 64) : ∀ x ∈ oct4 f0 f1 f2 f3, 0 ≤ x ∧ x < 256 := by
  intro x hx
  unfold oct4 at hx
  rcases List.mem_cons.mp hx with rfl | hx
  · omega
  · rcases List.mem_cons.mp hx with rfl | hx
    · omega
    · rw [List.mem_singleton.mp hx]; omega
theorem oct1_in : ∀ {fs : List Int}, (∀ f ∈ fs, 0 ≤ f ∧ f < 64) → ∀ x ∈ oct1 fs, 0 ≤ x ∧ x < 256
  | f0 :: f1 :: f2 :: f3 :: r, h, x, hx => oct4_in (h _ (.head _)) (h _ (.tail _ (.head _))) (h _ (.tail _ (.tail _ (.head _)))) (h _ (.tail _ (.tail _ (.tail _ (.head _))))) x hx
  | [], _, _, hx => absurd hx List.not_mem_nil
  | [_], _, _, hx => absurd hx List.not_mem_nil
  | [_, _], _, _, hx => absurd hx List.not_mem_nil
  | [_, _, _], _, _, hx => absurd hx List.not_mem_nil
theorem octUp_in {fs : List Int} (h : ∀ f ∈ fs, 0 ≤ f ∧ f < 64) : ∀ i, KBa.In (octUp fs i)
  | 0 => fun x hx => absurd hx List.not_mem_nil
  | i + 1 => fun x hx => by
    rw [octUp_succ] at hx
    rcases List.mem_append.mp hx with hx | hx
    · exact octUp_in h i x hx
    · exact oct1_in (fun f hf => h f (List.mem_of_mem_drop hf)) x hx
theorem octUp_len {fs : List Int} {q : Nat} (h : fs.length = 4 * q) : ∀ i ≤ q, (octUp fs i).length = 3 * i
  | 0, _ => rfl
  | i + 1, hi => by
    rw [octUp_succ, List.length_append, octUp_len h i (by omega)]
    have e : (oct1 (fs.drop (4 * i))).length = 3 := by
      match e : fs.drop (4 * i) with
      | [] => have := congrArg List.length e; rw [List.length_drop] at this; simp at this; omega
      | [_] => have := congrArg List.length e; rw [List.length_drop] at this; simp at this; omega
      | [_, _] => have := congrArg List.length e; rw [List.length_drop] at this; simp at this; omega
      | [_, _, _] => have := congrArg List.length e; rw [List.length_drop] at this; simp at this; omega
      | f0 :: f1 :: f2 :: f3 :: r => rfl
    omega
noncomputable def ChJ (ks : List Int) (i : Nat) (ys : List Value) : Prop := StrsAre ys ((ks.take i).map fun (k : Int) => (⟨#[k.toNat]⟩ : Str))
theorem signs_weight (w : Str) : ((signs w).map (·.length)).sum + (signs w).length = w.length + w.length := by
  have h : ∀ l : List Nat, (((l.map fun n => (⟨#[n]⟩ : Str)).map (·.length)).sum) = l.length := by
    intro l
    induction l with
    | nil => rfl
    | cons a r ih => rw [List.map_cons, List.map_cons, List.sum_cons, ih, List.length_cons]; show 1 + _ = _; omega
  rw [signs_length]
  unfold signs
  rw [h, Array.length_toList]
  rfl
noncomputable def lawLine (fs : List Int) (q : Nat) : List Nat := (b6Out (octUp fs q) (octUp fs q).length).map (Int.toNat ∘ b6Swap)
theorem c_line {w : World} {mean : ExcName → Option Value} {mg mb : Str → Option Value} {D U : Nat} {news : List (Addr × Obj)} {lf : Addr} {vs : List Value} {fs : List Int} {c q : Nat} (hD : D < 430) (hv : IntsAre vs fs) (hq : fs.length = 4 * q) (hq1 : q ≤ 50) (hf : ∀ f ∈ fs, 0 ≤ f ∧ f < 64) (hn : ∀ p ∈ news, p.1 ≠ lf) :
    CT w mean mg mb D U 879 [.ref lf] ((lf, listOf vs.toArray c) :: news) (fun h₀ L m s Q => ∀ h' tk' t', Fr h₀ L h' m → News h₀ L h' ((lf, listOf vs.toArray c) :: news) → Q (.str ⟨(lawLine fs q).toArray⟩ t') { s with heap := h', toks := tk' }) := by
  w_top off
  k_with_none
  k_with "ROOM" => first | ((try simp only [depth_under_make, depth_under_kw, depth_in1, depth_deeper, depth_caller]); decide) | (show (_ : Nat) < 1000; (try simp only [depth_under_make, depth_under_kw, depth_in1, depth_deeper, depth_caller]); (try dsimp only [ktrTop]); omega)
  k_with "CELL" => (refine' kx_def (by exact rfl) (by exact rfl) (by first | exact rfl | assumption) (by k_asm) (by k_asm) (by k_asm) (by k_asm) (by k_asm) (by k_is) (by k_is) (by k_room) (by first | exact BindsTo.of_eq rfl | exact binds_K (by k_in) rfl (by k_is) rfl rfl rfl) (by decide) (by exact locs rfl) (by exact rfl) (by exact rfl) (by exact rfl) ?_; k_whole; intro _ _ _ _ _ _ kxBq _ _; (try dsimp only); (try k_lift kxBq); (try k_fold))
  k_with "ALL" => (first | exact List.forall_mem_nil _ | with_reducible assumption | with_reducible exact kx_tl (by assumption) | with_reducible exact kx_tl (kx_tl (by assumption)) | with_reducible exact kx_tl (kx_tl (kx_tl (by assumption))) | (refine' List.forall_mem_cons.mpr ⟨(by k_ne), ?_⟩; k_all))
  k_with "newList" => (k_here; refine' newList_K (by k_asm) (by k_asm) ?_; k_whole; intro _ _ _ _ kxl1; (try k_lt kxl1); (try k_sweep))
  k_with "eval Name" => (k_here; refine' name_K (by k_asm) (by k_asm) (by k_asm) (by k_is) ?_ (by with_unfolding_all rfl) (by kernel_rfl) (by kernel_rfl); k_whole)
  k_with "eval Name" => (k_here; refine' ld (by k_asm) (by with_unfolding_all rfl) ?_ (by with_unfolding_all rfl) (by kernel_rfl) (by kernel_rfl); k_whole)
  k_with "getAttr ref" => (k_here; refine' get_own (by k_asm) (by k_asm) (by k_inst) (by k_is) (by k_is) (by k_is) (by k_is) (by k_get) (by k_handed) ?_; k_whole)
  k_with "setAttr ref" => (k_here; refine' set_dict (by k_asm) (by k_asm) (by k_asm) (by k_inst) (by with_unfolding_all exact rfl) (by k_is) (by k_is) (by k_is) (by k_is) (by k_get) (by k_put) (by k_upd) (by exact Nat.le_of_ble_eq_true rfl) ?_; k_whole; intro _ _ _; (try k_sweep))
  k_with "last exec While" => (k_here; with_reducible refine whl_start 100 ?_)
  k_with "exec If" => ((try k_fold); refine wpAny_If ?_; (try dsimp only))
  k_with "exec For Name Call cons nil" => (k_here; (with_reducible rename Fr _ _ _ _ => kxlFq); (with_unfolding_all refine' For_rg kxlFq (by exact rfl) (by exact rfl) ?_; k_whole))
  k_with "pyIter ref" => ((with_reducible show wpAny _ _ (pyIter (Value.ref _)) (fun it s₂ => RgAt _ _ _ _ _ _ _ _ _ _ it s₂) _ _); refine halt ?_)
  k_with "binaryOp LShift int int" => (k_here; (first | (with_reducible refine' shl_int (n := 6) 64 (by decide) (by decide) (by decide) (by omega) (by omega) ?_) | (with_reducible refine' shl_int (n := 8) 256 (by decide) (by decide) (by decide) (by omega) (by omega) ?_)))
  k_with "binaryOp BitOr int int" => (k_here; (first | (with_reducible refine' or_K 6 64 (by decide) (by omega) (by omega) (by omega) ?_) | (with_reducible refine' or_K 8 256 (by decide) (by omega) (by omega) (by omega) ?_)))
  k_with "binaryOp RShift int int" => (k_here; (first | (with_reducible refine' shr_int (n := 16) 65536 (by decide) (by decide) ?_) | (with_reducible refine' shr_int (n := 8) 256 (by decide) (by decide) ?_) | (with_reducible refine' shr_int (n := 0 + 8 - 6) 4 (by decide) (by decide) ?_) | (with_reducible refine' shr_int (n := 2 + 8 - 6) 16 (by decide) (by decide) ?_) | (with_reducible refine' shr_int (n := 4 + 8 - 6) 64 (by decide) (by decide) ?_) | (with_reducible refine' shr_int (n := 4 + 8 - 6 - 6) 1 (by decide) (by decide) ?_)))
  k_with "binaryOp BitAnd int int" => (k_here; (first | (with_reducible refine' and_K (n := 255) 8 256 (by decide) (by decide) ?_) | (with_reducible refine' and_K (n := 63) 6 64 (by decide) (by decide) ?_) | (with_reducible refine' and_K (n := 65535) 16 65536 (by decide) (by decide) ?_)))
  k_with "call builtin:list.extend" => (k_here; (with_reducible show wpAny _ _ (call (Value.builtin _) [Value.ref _, Value.ref _]) _ _ _); k_dflt (refine' kl_extend (by k_asm) (by k_asm) (by k_mem) (by exact rfl) (by kl_some) (by k_upd) (by exact ext_no (by assumption) (Nat.le_of_ble_eq_true rfl)) (by exact ext_z (by assumption)) (by exact ext_y (by assumption) (Nat.le_of_ble_eq_true rfl)) ?_); intro _ _ kxNq; (try dsimp only [List.nil_append, List.cons_append] at kxNq))
  k_with "call ref" => (k_here; (first | ((with_reducible show wpAny _ _ (call (Value.ref 785) _) _ _ _); k_dflt (refine' o_lsh (by first | exact Nat.le_of_ble_eq_true rfl | decide | (simp only [depth_under_make, depth_under_kw, depth_in1, depth_deeper, depth_caller]; (try dsimp only [ktrTop]); omega)) (by omega) (by omega) _ _ _ _ _ _ _ _ _ _ _ _ _ _ _ (by k_asm) (by k_asm) (by k_asm) (by k_asm) (by k_asm) (by k_dflt exact rfl) ?_); skip) | ((with_reducible show wpAny _ _ (call (Value.ref 813) _) _ _ _); k_dflt (refine' o_or (by first | exact Nat.le_of_ble_eq_true rfl | decide | (simp only [depth_under_make, depth_under_kw, depth_in1, depth_deeper, depth_caller]; (try dsimp only [ktrTop]); omega)) (by omega) (by omega) (by omega) _ _ _ _ _ _ _ _ _ _ _ _ _ _ _ (by k_asm) (by k_asm) (by k_asm) (by k_asm) (by k_asm) (by k_dflt exact rfl) ?_); skip) | ((with_reducible show wpAny _ _ (call (Value.ref 820) _) _ _ _); k_dflt (refine' o_rsh8 (by first | exact Nat.le_of_ble_eq_true rfl | decide | (simp only [depth_under_make, depth_under_kw, depth_in1, depth_deeper, depth_caller]; (try dsimp only [ktrTop]); omega))  _ _ _ _ _ _ _ _ _ _ _ _ _ _ _ (by k_asm) (by k_asm) (by k_asm) (by k_asm) (by k_asm) (by k_dflt exact rfl) ?_);  skip) | ((with_reducible show wpAny _ _ (call (Value.ref 820) _) _ _ _); k_dflt (refine' o_rsh16 (by first | exact Nat.le_of_ble_eq_true rfl | decide | (simp only [depth_under_make, depth_under_kw, depth_in1, depth_deeper, depth_caller]; (try dsimp only [ktrTop]); omega))  _ _ _ _ _ _ _ _ _ _ _ _ _ _ _ (by k_asm) (by k_asm) (by k_asm) (by k_asm) (by k_asm) (by k_dflt exact rfl) ?_);  skip) | ((with_reducible show wpAny _ _ (call (Value.ref 778) _) _ _ _); k_dflt (refine' o_and (by first | exact Nat.le_of_ble_eq_true rfl | decide | (simp only [depth_under_make, depth_under_kw, depth_in1, depth_deeper, depth_caller]; (try dsimp only [ktrTop]); omega))  _ _ _ _ _ _ _ _ _ _ _ _ _ _ _ (by k_asm) (by k_asm) (by k_asm) (by k_asm) (by k_asm) (by k_dflt exact rfl) ?_);  skip)); intro _ _ _ kxp0 kxp1 kxp2 _ _; clear kxp0 kxp1 kxp2; (try k_sweep))
  k_with "execs cons" => (refine' nst (s := s) (by k_asm) (by with_unfolding_all exact rfl) ?_; intro _; refine wpAny_execs_cons ?_; (try k_fold))
  k_with "call ref" => (k_here; (with_reducible show wpAny _ _ (call (Value.ref 764) _) _ _ _); refine halt ?_)
  k_with "call builtin:len" => (k_here; (with_reducible show wpAny _ _ (call (Value.builtin "len") [Value.ref _]) _ _ _); (refine KM.len_K (by k_asm) (by k_dflt k_mem) List.size_toArray (lt62 (by assumption)) ?_))
  k_with "exec For Name Subscript cons nil" => (k_here; (with_reducible rename Fr _ _ _ _ => kxlFq); (with_unfolding_all refine' For_turns kxlFq ?_; k_whole))
  k_with "pyIter ref" => (k_here; (with_reducible show wpAny _ _ (pyIter (Value.ref _)) (fun it s₂ => TurnsAt _ _ _ _ _ _ _ _ _ it s₂) _ _); (with_reducible rename Fr _ _ _ _ => kxlFq); (with_reducible rename News _ _ _ _ => kxlNq); (with_unfolding_all refine' iter_listTurns (by exact rfl) kxlFq kxlNq (by k_mem) (by exact rfl) (by exact rfl) ?_); clear kxlFq; intro _ kxl1; (try k_lt kxl1))
  k_with "UnrEndW" => ((with_reducible rename Fr _ _ _ _ => kxlFq); (with_reducible rename News _ _ _ _ => kxlNq); (refine ⟨_, _, _, _, rfl, kxlFq, kxlNq, off_one (by with_reducible assumption), ⟨(by k_subL), ?_⟩⟩); clear kxlFq)
  k_with "subscriptTail Name Slice ref ref" => (k_here; (with_reducible show wpAny _ _ (subscriptTail _ (PySem.Expr.Slice _ _ none _) (Value.ref _) (Value.ref _)) _ _ _); k_dflt (refine' kms_slice_lit (by k_asm) (by k_asm) (by exact News.isList (by k_asm) (by k_mem)) (by exact IsPart.int _ _) (by exact IsPart.int _ _) (by exact pick4 rfl rfl (by assumption) (by assumption)) ?_ (by with_unfolding_all rfl) (by kmk_pure) (by exact ext_z (by assumption))); intro _ _ _ _ kxl1; (try k_lt kxl1); (try k_sweep))
  k_with "eval ListComp" => (k_here; k_dflt (refine cg_bytes (_F₀ := by k_asm) (by with_unfolding_all rfl) (by decide) (by rfl) (by decide) (by rfl) ?_))
  k_with "call type:bytes" => (k_here; (with_reducible show wpAny _ _ (call (Value.type "bytes") [Value.ref _]) _ _ _); k_dflt (refine' KBa.make_K (by k_asm) (by k_asm) (by rfl) (by exact News.isList (by k_asm) (by k_mem)) (by assumption) (by assumption) (by assumption) ?_); intro _ _ _ _ _ _)
  k_with "call builtin:chr" => (k_here; (with_reducible refine chr_of_range (by omega) (by omega) ?_))
  k_with "call builtin:str.join" => (k_here; (with_reducible show wpAny _ _ (call (Value.builtin "str.join") [Value.str _ _, Value.ref _]) _ _ _); k_dflt (refine' join_listW (by exact News.isList (by k_asm) (by k_mem)) (by assumption) (by decide) (by assumption) ?_); intro _ _)
  k_with "MAIN" =>
    dsimp only [CT]; intro gd cn cs a ccd cl outer A₀ base h₀ L m s Q E B F X0 N T hk hret
    obtain ⟨ck, cnm, cgen, cco, cmo⟩ := cs
    dsimp only at hk; subst hk
    have hvl : vs.length = 4 * q := hv.length.trans hq
    have hV : vs.length ≤ 1000 := by omega
    refine wpAny_call ?_
    k_dflt k_enter
    rename_i g L1 h1 FG F1 N1 B1 X1 T1
    refine gen_tk ?_
    intro qk hqk
    k_steps
    refine unhalt ?_
    with_reducible (rename News _ _ _ _ => N9)
    with_reducible (rename Fr _ _ _ _ => F9)
    with_reducible (rename IsRange _ _ _ _ _ _ _ _ => R9)
    refine iter_rg (n := q) rfl R9 ?hs ?hn F9 N9 ?rest
    case hs => exact range_small_4 hvl hq1
    case hn => exact range_size_4 hvl
    with_reducible (rename ∀ p ∈ _ :: news, p.1 < _ => lA)
    have lne : ∀ p ∈ news, p.1 ≠ _ := fun p hp => Nat.ne_of_lt (lA p (List.mem_cons_of_mem _ hp))
    intro I lI hlo
    have lI1 : @LT.lt Nat _ _ I := lI _ List.mem_cons_self
    have lI2 : @LT.lt Nat _ _ I := lI _ (List.mem_cons_of_mem _ List.mem_cons_self)
    dsimp only at lI1 lI2
    refine ⟨LNI fs _ lf vs c news, ⟨[], 0, .nil, rfl, rfl, rfl⟩, ?step, ?done⟩
    case done =>
      rintro h tk m' news' ⟨us, d, hu, rfl, m1, m2⟩ F3 N3
      clear F9 N9 R9
      rw [canon2 m1 m2] at F3
      have hIn := octUp_in hf q
      have hLen := octUp_len hq q (Nat.le_refl _)
      have hSz : (octUp fs q).length ≤ 16777216 := by omega
      k_steps
      refine unhalt ?_
      clear F3 N3
      with_reducible (rename News _ _ _ _ => N3)
      with_reducible (rename Fr _ _ _ _ => F3)
      refine' c_b64 (mean := mean) (mg := mg) (mb := mb) (ks := octUp fs q) (q := q) ?hD (KBa.ints_make hIn) hLen hq1 _ _ _ _ _ _ _ _ _ _ _ _ _ _ _ ?kB ?kF ?kX N3 ?kT ?kk ?_
      case hD => first | exact Nat.le_of_ble_eq_true rfl | (simp only [depth_under_make, depth_under_kw, depth_in1, depth_deeper, depth_caller]; (try dsimp only [ktrTop]); omega)
      case kB => k_asm
      case kF => k_asm
      case kX => k_asm
      case kT => k_asm
      case kk => exact rfl
      intro h4 tk4 rb tr F4 N4 hrb
      clear F3 N3
      k_steps
      generalize hKS : (b6Out (octUp fs q) (octUp fs q).length).map b6Swap = ks at hrb
      have hRs : rb.size = ks.length := by rw [← hrb, KBw.ints_length]
      have hKl : ks.length ≤ 1000 := by
        rw [← hKS, List.length_map]
        have e1 := b6Out_length (octUp fs q) (octUp fs q).length
        omega
      refine ⟨_, _, _, rfl, rfl, F4, N4, by rw [sizeLine_eq]; omega, fun gg => rest_U (ChJ ks) trivial .nil ?cstep ?cfin⟩
      case cstep =>
        rintro i v ys I' oI C oC D' m₂ h' tk' E' hi ⟨cc, u, hcc, rfl⟩ hJ hC hm F5 N5
        have hbd := cc.toNat_lt
        clear F4 N4
        k_steps
        refine ⟨_, _, rfl, F5, N5, ?_⟩
        have e := KBw.ints_get hcc
        rw [hrb] at e
        unfold ChJ
        rw [List.take_add_one, e, List.map_append]
        exact hJ.append' (.cons _ _ .nil)
      case cfin =>
        rintro ys hJ D' h' tk' F5 N5 off5
        clear F4 N4
        have hJ2 : StrsAre ys (signs ⟨(ks.map Int.toNat).toArray⟩) := by
          have e : signs ⟨(ks.map Int.toNat).toArray⟩ = (ks.take rb.size).map fun (k : Int) => (⟨#[k.toNat]⟩ : Str) := by
            rw [hRs, List.take_length]
            unfold signs
            rw [List.map_map]
            rfl
          rw [e]
          exact hJ
        have hW : ((signs ⟨(ks.map Int.toNat).toArray⟩).map (·.length)).sum + (signs ⟨(ks.map Int.toNat).toArray⟩).length ≤ 1048576 := by
          rw [signs_weight]
          show (ks.map Int.toNat).toArray.size + (ks.map Int.toNat).toArray.size ≤ _
          rw [List.size_toArray, List.length_map]
          omega
        k_steps
        with_reducible (rename News _ _ _ _ => N9)
        with_reducible (rename Fr _ _ _ _ => F9)
        rw [show Txt.join (Str.ofString "") (signs ⟨(ks.map Int.toNat).toArray⟩) = ⟨(ks.map Int.toNat).toArray⟩ from (eq_of_beq (join_plain_closes _ _)).trans (join_nil_signs _)]
        subst hKS
        rw [List.map_map]
        exact hret _ _ _ F9 (news_tl (news_tl N9))
    case step =>
      rintro i m2 n2 h tk hi ⟨us, d, hu, rfl, m1, m2⟩ htk off F3 N3
      clear F9 N9 R9
      rw [canon2 m1 m2] at F3
      obtain ⟨f0, f1, f2, f3, t0, t1, t2, t3, r, ht4, hd4⟩ := four hv (i := i) (by omega)
      have hb0 := hf f0 (List.mem_of_mem_drop (by rw [hd4]; exact .head _))
      have hb1 := hf f1 (List.mem_of_mem_drop (by rw [hd4]; exact .tail _ (.head _)))
      have hb2 := hf f2 (List.mem_of_mem_drop (by rw [hd4]; exact .tail _ (.tail _ (.head _))))
      have hb3 := hf f3 (List.mem_of_mem_drop (by rw [hd4]; exact .tail _ (.tail _ (.tail _ (.head _)))))
      have hl4 : 4 * i + 4 ≤ vs.length := by omega
      have hU : us.length ≤ 1000 := by
        have e1 := hu.length
        have e2 := octUp_length fs i
        omega
      k_steps
      with_reducible (rename News _ _ _ _ => N9)
      with_reducible (rename Fr _ _ _ _ => F9)
      refine ⟨_, _, _, (_, _) :: (_, _) :: news, rfl, F9, news_tl (news_tl N9), off2 lI1 lI2 (fun p hp => off p (List.mem_cons_of_mem _ (List.mem_cons_of_mem _ hp))), ⟨_, _, ?_, rfl, rfl, rfl⟩⟩
      rw [octUp_succ, hd4]
      exact Mine.ints_append hu (.cons _ _ (.cons _ _ (.cons _ _ .nil)))
  refine kx_out ?_
  simp (disch := k_dflt (k_extra "MAIN")) only [↓kx_in]
end
-- TC
section
open PySem PySem.W PySem.Spec PySem.Calls PyProof.Rows
section
variable {prog : Program} {w : World} {A₀ A : Around} {s : Shared} {base h₀ : Heap} {outer : List Env} {L : Addr} {m : Str → Option Value} {env : Env} {news : List (Addr × Obj)} {K : Frag} {p : Program} {loose : List Str} {mean : ExcName → Option Value} {mg mb : Str → Option Value}
  {R : Result → Shared → Prop} {name qual : Str} {params : Arguments} {body : List Stmt} {scope : Scope} {dV kV doc pm cdv ct oc : Value} {an od : Option Addr} {osl : Array (Option Value)} {f : Addr} {args : Args} {binds : List (Str × Value)}
/-- the same for a def with cells -/
theorem code_TC (B : Below A₀ base outer h₀) (F : Fr h₀ L s.heap m) (X₀ : K.In h₀) (N : News h₀ L s.heap news) (T : Top p loose mean mg mb h₀) (D : KtsDicts (frs outer) h₀) (hA : A.frames = some (env :: outer)) (hf : env.frame = some L) (hke : env.scope.kind = .function)
    (ho : K.lookup f = some ⟨oc, od, .func (fnOf name qual params body scope dV kV doc pm an cdv ct), osl⟩) (hcd : codeIn K cdv qual = true) (hroom : A.depth < recursionLimit)
    (hbind : BindsTo s (fnOf name qual params body scope dV kV doc pm an cdv ct) args binds) (hkind : (binds.all fun y => scope.names.lookup y.1 == some .local || scope.names.lookup y.1 == some .cell) = true)
    (hnd : ((cellsFrom 0 scope.names []).map (·.1)).Nodup)
    (h : ∀ g L' h₁ tk cells, Fr h₀ L g m → Fr g L' h₁ (bindL (envOfC qual scope L' f cdv).kindOf binds fun _ => none) → News g L' h₁ (cells ++ news) →
      CellsAre (bindC (envOfC qual scope L' f cdv).kindOf binds fun _ => none) (cellsFrom (L' + 1) scope.names []) cells → Below A base (env :: outer) g → K.In g → Top p loose mean mg mb g → (∀ p ∈ news, p.1 < L') → KtsDicts (frs (env :: outer)) g → s.toks ≤ tk →
      wpAny (model prog w) (A.deeper (envOfC qual scope L' f cdv)) (execs body (envOfC qual scope L' f cdv))
        (fun fl s' => LeaveT A₀ base env outer h₀ L m g R (match fl with | .ret v => v | _ => .none) s')
        (fun e s' => wpAny (model prog w) (A.deeper (envOfC qual scope L' f cdv)) (leaving (envOfC qual scope L' f cdv) e) (fun _ s'' => R (.error e) s'') (fun e' s'' => R (.error e') s'') s')
        { s with heap := h₁, toks := tk })
    (hco : scope.isCoroutine = false) (hgen : scope.isGenerator = false) (hk : scope.kind = .function) : codeAny (model prog w) A (.call (.ref f) args) R s := by
  have X := X₀.keeps F.keep
  obtain ⟨FG, BG, st, _⟩ := groundX (R := R) B F N hA hf hke
  refine codeAny_call_function (fd := fnOf name qual params body scope dV kV doc pm an cdv ct) hroom (X _ _ ho) rfl hco hgen rfl (codeRec_of X hcd) (hbind _ _ _ _ ?_)
  refine wpAny_mono (wpAny_toks_of (Nat.le_refl _) (wpAny_newFunctionEnv_cells (Q := fun env' s' => env' = newEnv scope s.heap.objs.size mainGlobals (cellsFrom (s.heap.objs.size + 1) scope.names []) (qual ++ Str.ofString ".<locals>.") (some f) cdv none builtinsNs ∧ InCallC s env'.locals (bindL env'.kindOf binds fun _ => none) env'.cells (bindC env'.kindOf binds fun _ => none) s') hk (kindsX hkind _) fun env' he s' x => ⟨he, x⟩)) (fun env' s' hx => ?_) fun _ _ e => e.2
  obtain ⟨htk, he, x⟩ := hx
  subst he
  refine ⟨(T.nolimit.keeps F.keep).keeps x.toInCall.keep, codeAny_func ?_⟩
  obtain ⟨h₁, tk, rfl, _⟩ := x.done
  have hk₁ := x.toInCall.keep
  obtain ⟨cells, NC, Y⟩ := Cl.news (h₀ := s.heap) (Nat.le_refl _) fun n c hm => ⟨x.cell n c (lookup_of_mem_nodup (cellsFrom_names scope.names 0 (s.heap.objs.size + 1) [] [] rfl ▸ hnd) hm), x.above n c hm⟩
  refine wpAny_mono (h _ s.heap.objs.size h₁ tk cells FG ⟨x.toInCall.ns, fun b o e => hk₁ b o (of_hideAll _ e), Nat.le_of_eq (hideAll_size _ _)⟩ (fun p hp => ?_) Y BG (X₀.keeps st) (T.keeps st) (fun p hp => Heap.lt_size (N p hp).1) (ktsDicts_push D hf FG) ?_) (fun fl s' hl => leaveT_back B F D hf FG hl) fun _ _ y => y
  · rcases List.mem_append.mp hp with hp | hp
    · refine ⟨(NC p hp).1, (NC p hp).2.1, ?_⟩
      cases q : (hideAll s.heap (news.map (·.1))).get? p.1 with
      | none => rfl
      | some o => have := of_hideAll _ q; rw [(NC p hp).2.2] at this; cases this
    · exact ⟨hk₁ _ _ (N p hp).1, Nat.ne_of_lt (Heap.lt_size (N p hp).1), hideAll_none _ (List.mem_map_of_mem hp)⟩
  · exact htk
end
end
-- TD
section
open PySem PySem.W PySem.Calls PyProof.Rows
set_option maxHeartbeats 0
theorem join_one' {prog : Program} {w : World} {A : Around} {E : Value → Shared → Prop} {s : Shared} {D : Addr} {y : Str} {t u : Tok} {Q : Value → Shared → Prop} (hl : s.heap.IsList D #[.str y u]) (hw : y.length ≤ 1000) (h : ∀ t' k, Q (.str y t') { s with toks := k }) :
    wpAny (model prog w) A (call (.builtin "str.join") [.str (Str.ofString "") t, .ref D]) Q E s := by
  refine join_listW (items := #[.str y u]) (ys := [y]) hl (.cons _ _ .nil) (by decide) (by simp only [List.map_cons, List.map_nil, List.sum_cons, List.sum_nil, List.length_singleton]; omega) ?_
  rw [show Txt.join (Str.ofString "") [y] = y from (eq_of_beq (join_plain_closes _ _)).trans rfl]
  exact h
noncomputable def sgn (l : List Nat) : List Str := l.map fun n => ⟨#[n]⟩
theorem join_sg {prog : Program} {w : World} {A : Around} {E : Value → Shared → Prop} {s : Shared} {D : Addr} {ys : List Value} {l : List Nat} {t : Tok} {Q : Value → Shared → Prop} (hl : s.heap.IsList D ys.toArray) (hi : StrsAre ys (sgn l)) (hw : l.length ≤ 1000) (h : ∀ t' k, Q (.str ⟨l.toArray⟩ t') { s with toks := k }) :
    wpAny (model prog w) A (call (.builtin "str.join") [.str (Str.ofString "") t, .ref D]) Q E s := by
  have e : sgn l = signs ⟨l.toArray⟩ := rfl
  refine join_listW hl hi (by decide) ?_ ?_
  · rw [e, signs_weight]
    show l.toArray.size + l.toArray.size ≤ _
    rw [List.size_toArray]
    omega
  · rw [e, show Txt.join (Str.ofString "") (signs ⟨l.toArray⟩) = ⟨l.toArray⟩ from (eq_of_beq (join_plain_closes _ _)).trans (join_nil_signs _)]
    exact h
theorem mem_isL : ∀ c < 128, decide (c ∈ (Str.ofString "ABCDEFGHIJKLMNOPQRSTUVWXYZabcdefghijklmnopqrstuvwxyz0123456789").cps.toList) = isL c := by decide +kernel
theorem occ_isL : ∀ c < 128, (!(Builtin.Str.occurrences (Str.ofString "ABCDEFGHIJKLMNOPQRSTUVWXYZabcdefghijklmnopqrstuvwxyz0123456789") { cps := #[c] } 0 (Str.ofString "ABCDEFGHIJKLMNOPQRSTUVWXYZabcdefghijklmnopqrstuvwxyz0123456789").length 1).isEmpty) = isL c := by
  intro c hc
  rw [show ({ cps := #[c] } : Str) = ⟨#[c]⟩ from rfl, StrLaws.found_one]
  exact mem_isL c hc
noncomputable def letAt (f : Int) : Nat := (PySem.Txt.charAt (Str.ofString "ABCDEFGHIJKLMNOPQRSTUVWXYZabcdefghijklmnopqrstuvwxyz0123456789") f).getD 0
theorem letters_len : (Str.ofString "ABCDEFGHIJKLMNOPQRSTUVWXYZabcdefghijklmnopqrstuvwxyz0123456789").length = 62 := by decide +kernel
noncomputable def TJB (fs : List Int) (i : Nat) (ys : List Value) : Prop := StrsAre ys (sgn (((fs.take i).filter fun f => decide (f < 62)).map letAt))
noncomputable def toldTail : Nat → Str
  | 0 => Str.ofString "'\"\\"
  | 1 => Str.ofString "\\\"\\"
  | _ => Str.ofString "\\'''"
noncomputable def toldEnd (W : List Nat) (k : Nat) : Bool := PySem.Txt.endswith ⟨W.toArray⟩ (toldTail k)
noncomputable def toldUp (W : List Nat) (i : Nat) : List Int := ((List.range i).filter (toldEnd W)).map fun (k : Nat) => (k : Int)
noncomputable def TJC (W : List Nat) (i : Nat) (ys : List Value) : Prop := IntsAre ys (toldUp W i)
theorem tjc_yes {W : List Nat} {k : Nat} {ys : List Value} (h : toldEnd W k = true) : TJC W (k + 1) ys = IntsAre ys (toldUp W k ++ [(k : Int)]) := by
  unfold TJC toldUp
  rw [List.range_succ, List.filter_append, List.filter_cons, if_pos h, List.map_append]
  rfl
theorem tjc_no {W : List Nat} {k : Nat} {ys : List Value} (h : toldEnd W k = false) : TJC W (k + 1) ys = TJC W k ys := by
  unfold TJC toldUp
  rw [List.range_succ, List.filter_append, List.filter_cons, if_neg (by rw [h]; decide), List.filter_nil, List.append_nil]
theorem news_told {h₀ h : Heap} {L : Addr} {a b c d e f g : Addr × Obj} {news : List (Addr × Obj)} (N : News h₀ L h (a :: b :: c :: d :: e :: f :: g :: news)) : News h₀ L h (a :: g :: news) := fun p hp => N p (by
  rcases List.mem_cons.mp hp with rfl | hp
  · exact .head _
  · exact .tail _ (.tail _ (.tail _ (.tail _ (.tail _ (.tail _ hp))))))
theorem off1_mem {D : Addr} : ∀ {l : List (Addr × Obj)}, LCg.Off1 D l → ∀ p ∈ l, p.1 ≠ D
  | [], _, _, h => nomatch h
  | _ :: _, x, p, h => by
    rcases List.mem_cons.mp h with rfl | h
    · exact x.1
    · exact off1_mem x.2 p h
theorem off_told {D : Addr} {b c d e f : Addr × Obj} {l : List (Addr × Obj)} (h : LCg.Off1 D (b :: c :: d :: e :: f :: l)) : ∀ p ∈ l, p.1 ≠ D := off1_mem h.2.2.2.2.2
noncomputable def TJA (W : List Nat) (i : Nat) (ys : List Value) : Prop := StrsAre ys (sgn ((W.take i).filter isL))
theorem mem5 {h₀ h : Heap} {L : Addr} {x a b c d : Addr × Obj} {news : List (Addr × Obj)} (N : News h₀ L h (x :: a :: b :: c :: d :: news)) : d ∈ x :: a :: b :: c :: d :: news := .tail _ (.tail _ (.tail _ (.tail _ (.head _))))
theorem news_l3 {h₀ h : Heap} {L : Addr} {a b c : Addr × Obj} {news : List (Addr × Obj)} (N : News h₀ L h (a :: b :: c :: news)) : News h₀ L h (c :: ([a, b] ++ news)) := fun p hp => N p (by
  simp only [List.mem_cons, List.cons_append, List.nil_append] at hp ⊢
  rcases hp with h | h | h | h <;> simp [h])
theorem news_l3b {h₀ h : Heap} {L : Addr} {a b c : Addr × Obj} {news : List (Addr × Obj)} (N : News h₀ L h (c :: ([a, b] ++ news))) : News h₀ L h (a :: b :: c :: news) := fun p hp => N p (by
  simp only [List.mem_cons, List.cons_append, List.nil_append] at hp ⊢
  rcases hp with h | h | h | h <;> simp [h])
noncomputable abbrev lawTail : Str := Str.ofString "\\''\"\\'"
noncomputable def lawText (fs : List Int) (q : Nat) : Str := ⟨(lawLine fs q).toArray⟩ ++ lawTail
theorem c_told {w : World} {mean : ExcName → Option Value} {mg mb : Str → Option Value} {D U : Nat} {news : List (Addr × Obj)} {lf : Addr} {vs : List Value} {fs : List Int} {c q : Nat} {W : List Nat} {gd : Option (List Code)} {cn : Str} {cs : Scope} {a : Addr} {ccd : Value} {cl : List (Str × Addr)} {outer : List Env} {A₀ : Around} {base h₀ : Heap} {L : Addr} {m : Str → Option Value} {s : Shared} {Q E : Value → Shared → Prop} (hD : D < 380) (hU : U < 380)
   (hv : IntsAre vs fs) (hq : fs.length = 4 * q) (hq1 : q ≤ 50) (hf : ∀ f ∈ fs, 0 ≤ f ∧ f < 64) (hn : ∀ p ∈ news, p.1 ≠ lf)
   (hX : (lawText fs q).length ≤ 1000) (hrun : lexRun .sp [] (rest (lawText fs q) 0) = some W) (hW : W ≠ []) (hWc : ∀ c ∈ W, c < 128) (hplain : W.filter isL = (fs.filter fun f => decide (f < 62)).map letAt) (hWl : (⟨W.toArray⟩ : Str).length ≤ 1000)
   (XB : (Mine.pre.heap_1 w.params).In base) (TB : Top Mine.PV LS mean mg mb base)
   (B : Below A₀ base outer h₀) (F : Fr h₀ L s.heap m) (X0 : (Mine.pre.heap_1 w.params).In h₀) (N : News h₀ L s.heap ((lf, listOf vs.toArray c) :: news))
   (T : Top Mine.PV LS mean mg mb h₀) (hk : cs.kind = .function) (KD : KtsDicts (frs outer) h₀) (hret : ∀ k' h' tk' l us c', KtsTurn (frs outer) h₀ k' → Fr k' L h' m → IntsAre us (toldUp W 3) → News k' L h' ((l, PySem.W.listOf us.toArray c') :: (lf, PySem.W.listOf vs.toArray c) :: news) → (∀ p ∈ (lf, PySem.W.listOf vs.toArray c) :: news, p.1 ≠ l) → Below A₀ base outer k' → KtsDicts (frs outer) k' → Q (.ref l) { s with heap := h', toks := tk' }) :
   wpAny (model PG w) (ktrTop D U gd cn cs L a ccd cl outer) (call (.ref 884) [.ref lf]) Q E s := by
  w_top off
  k_with_none
  k_with "ROOM" => first | ((try simp only [depth_under_make, depth_under_kw, depth_in1, depth_deeper, depth_caller]); decide) | (show (_ : Nat) < 1000; (try simp only [depth_under_make, depth_under_kw, depth_in1, depth_deeper, depth_caller]); (try dsimp only [ktrTop]); omega)
  k_with "CELL" => (refine' kx_def (by exact rfl) (by exact rfl) (by first | exact rfl | assumption) (by k_asm) (by k_asm) (by k_asm) (by k_asm) (by k_asm) (by k_is) (by k_is) (by k_room) (by first | exact BindsTo.of_eq rfl | exact binds_K (by k_in) rfl (by k_is) rfl rfl rfl) (by decide) (by exact locs rfl) (by exact rfl) (by exact rfl) (by exact rfl) ?_; k_whole; intro _ _ _ _ _ _ kxBq _ _; (try dsimp only); (try k_lift kxBq); (try k_fold))
  k_with "ALL" => (first | exact List.forall_mem_nil _ | with_reducible assumption | with_reducible exact kx_tl (by assumption) | with_reducible exact kx_tl (kx_tl (by assumption)) | with_reducible exact kx_tl (kx_tl (kx_tl (by assumption))) | (refine' List.forall_mem_cons.mpr ⟨(by k_ne), ?_⟩; k_all))
  k_with "newList" => (k_here; refine' newList_K (by k_asm) (by k_asm) ?_; k_whole; intro _ _ _ _ kxl1; (try k_lt kxl1); (try k_sweep))
  k_with "eval Name" => (k_here; refine' name_K (by k_asm) (by k_asm) (by k_asm) (by k_is) ?_ (by with_unfolding_all rfl) (by kernel_rfl) (by kernel_rfl); k_whole)
  k_with "eval Name" => (k_here; refine' ld (by k_asm) (by with_unfolding_all rfl) ?_ (by with_unfolding_all rfl) (by kernel_rfl) (by kernel_rfl); k_whole)
  k_with "getAttr ref" => (k_here; refine' get_own (by k_asm) (by k_asm) (by k_inst) (by k_is) (by k_is) (by k_is) (by k_is) (by k_get) (by k_handed) ?_; k_whole)
  k_with "setAttr ref" => (k_here; refine' set_dict (by k_asm) (by k_asm) (by k_asm) (by k_inst) (by with_unfolding_all exact rfl) (by k_is) (by k_is) (by k_is) (by k_is) (by k_get) (by k_put) (by k_upd) (by exact Nat.le_of_ble_eq_true rfl) ?_; k_whole; intro _ _ _; (try k_sweep))
  k_with "last exec While" => (k_here; with_reducible refine whl_start 100 ?_)
  k_with "exec If" => ((try k_fold); refine wpAny_If ?_; (try dsimp only))
  k_with "execs cons" => (refine wpAny_execs_cons ?_; (try k_fold))
  k_with "execs nil" => (refine wpAny_execs_nil ?_)
  k_with "call ref" => (k_here; (with_reducible show wpAny _ _ (call (Value.ref 879) _) _ _ _); refine halt ?_)
  k_with "call ref" => (k_here; (with_reducible show wpAny _ _ (call (Value.ref 734) _) _ _ _); refine halt ?_)
  k_with "binaryOp Add str str" => (k_here; (with_reducible show wpAny _ _ (binaryOp Operator.Add (Value.str _ _) (Value.str _ _)) _ _ _); (refine PyProof.Rows.add_str (hsz := by assumption) ?_); intro _ _)
  k_with "call builtin:str.join" => (k_here; (with_reducible show wpAny _ _ (call (Value.builtin "str.join") [Value.str _ _, Value.ref _]) _ _ _); k_dflt (refine' join_sg (by exact News.isList (by k_asm) (by k_mem)) (by assumption) (by assumption) ?_); intro _ _)
  k_with "CompSrcT" => (k_here; refine halt ?_)
  k_with "call builtin:str.join" => (k_here; (with_reducible show wpAny _ _ (call (Value.builtin "str.join") [Value.str _ _, Value.ref _]) _ _ _); k_dflt (refine' join_one' (by exact News.isList (by k_asm) (by k_mem)) (by assumption) ?_); intro _ _)
  k_with "eval ListComp" => (k_here; refine halt ?_)
  k_with "subscriptTail Name Name str int" => (k_here; (refine item_str (fitsSsize_of (N := 1000) (by omega) (by omega) (by decide)) (by rw [letters_len]; omega) (by rw [letters_len]; omega) ?_); intro _)
  k_with "MAIN" =>
    obtain ⟨ck, cnm, cgen, cco, cmo⟩ := cs
    dsimp only at hk; subst hk
    have hvl : vs.length = 4 * q := hv.length.trans hq
    have hV : vs.length ≤ 1000 := by omega
    have hXl : (⟨(lawLine fs q).toArray⟩ : Str).length + lawTail.length ≤ sizeLine := by
      have e : (lawText fs q).length = (⟨(lawLine fs q).toArray⟩ : Str).length + lawTail.length := Str.length_append _ _
      rw [sizeLine_eq]
      omega
    refine wpAny_call ?_
    k_dflt (refine' code_TC ?k1 ?k2 ?k3 ?k4 ?k5 ?kd ?kA ?kF ?kK ?k6 ?k7 ?k8 ?k9 ?kB ?kD ?_ ?c2 ?c3 ?c4; (case kA => exact rfl); (case kF => exact rfl); (case kK => exact rfl); (case k1 => k_asm); (case k2 => k_asm); (case k3 => k_asm); (case k4 => k_asm); (case k5 => k_asm); (case kd => assumption); (case k6 => k_is); (case k7 => k_is); (case k8 => k_room); (case k9 => first | exact BindsTo.of_eq rfl | exact binds_K (by k_in) rfl (by k_is) rfl rfl rfl); (case kB => exact rfl); (case kD => decide +kernel); (case c2 => exact rfl); (case c3 => exact rfl); (case c4 => exact rfl); k_whole)
    intro g L1 h1 tk1 cells FG F1 N1 Y1 B1 X1 T1 l1 D1 htk1
    have lA := l1
    (try k_lt l1)
    k_cells Y1
    (try simp only [List.cons_append, List.nil_append] at N1)
    (try dsimp only)
    (try k_fold)
    have g1 : ∀ p ∈ news, p.1 ≠ _ + 1 := fun p hp => ne_up (k := 0) (lA p (List.mem_cons_of_mem _ hp))
    have g2 : ∀ p ∈ news, p.1 ≠ _ + 1 + 1 := fun p hp => ne_up (k := 1) (lA p (List.mem_cons_of_mem _ hp))
    have g3 : ∀ p ∈ (lf, PySem.W.listOf vs.toArray c) :: news, p.1 ≠ _ + 1 + 1 := fun p hp => ne_up (k := 1) (lA p hp)
    k_steps
    refine unhalt ?_
    with_reducible (rename News _ _ _ _ => N3)
    with_reducible (rename Fr _ _ _ _ => F3)
    refine' c_line (mean := mean) (mg := mg) (mb := mb) (news := [_, _] ++ news) ?hD hv hq hq1 hf ?hn _ _ _ _ _ _ _ _ _ _ _ _ _ _ _ ?kB ?kF ?kX (news_l3 N3) ?kT ?kk ?_
    case hD => first | exact Nat.le_of_ble_eq_true rfl | (simp only [depth_under_make, depth_under_kw, depth_in1, depth_deeper, depth_caller]; (try dsimp only [ktrTop]); omega)
    case hn =>
      refine List.forall_mem_cons.mpr ⟨?_, List.forall_mem_cons.mpr ⟨?_, hn⟩⟩
      · k_ne
      · k_ne
    case kB => k_asm
    case kF => k_asm
    case kX => k_asm
    case kT => k_asm
    case kk => exact rfl
    intro h4 tk4 tl4 F4 N4
    replace N4 := news_l3b N4
    clear N3 F3
    k_steps
    refine unhalt ?_
    with_reducible (rename News _ _ _ _ => N3)
    with_reducible (rename Fr _ _ _ _ => F3)
    refine c_split ?hD ?hU hX hrun hW XB TB B1 F3 X1 N3 T1 rfl D1 ?_
    case hD => first | exact Nat.le_of_ble_eq_true rfl | (simp only [depth_under_make, depth_under_kw, depth_in1, depth_deeper, depth_caller]; (try dsimp only [ktrTop]); omega)
    case hU => (try dsimp only [ktrTop]); omega
    intro k' h5 tk5 S c5 tv5 T6 F5 N5 l5 B5 D5
    have X5 := XB.keeps B5.stays
    have T5 := TB.keeps B5.stays
    (try k_lt l5)
    try clear F3
    try clear N3
    try clear FG
    try clear F1
    try clear N1
    try clear X1
    try clear T1
    try clear B1
    try clear D1
    try clear F
    try clear N
    try clear X0
    try clear T
    try clear B
    k_steps
    refine unhalt ?_
    with_reducible (rename News _ _ _ _ => N3)
    with_reducible (rename Fr _ _ _ _ => F3)
    k_dflt (refine cg_str (_F₀ := F3) (by with_unfolding_all rfl) (by decide) (by rfl) (by decide) (by rfl) ?_)
    k_steps
    refine ⟨_, _, _, rfl, rfl, F3, N3, Nat.le_trans hWl (by rw [sizeLine_eq]; decide), fun gg => rest_T (TJA W) trivial .nil ?astep ?afin⟩
    case astep =>
      rintro i v ys I' oI C oC D' m₂ h' tk' E' hi ⟨cc, u, hcc, rfl⟩ hJ hC hm F5 N5
      clear F3 N3
      k_steps
      have hcc' : W[i]? = some cc := by rw [← hcc]; exact (List.getElem?_toArray ..).symm
      rw [occ_isL cc (hWc cc (List.mem_of_getElem? hcc'))]
      have ht : (W.take (i + 1)).filter isL = (W.take i).filter isL ++ [cc].filter isL := by
        rw [List.take_add_one, hcc', List.filter_append]; rfl
      refine ⟨fun hok => ?_, fun hno => ?_⟩
      · k_steps
        refine ⟨_, _, rfl, F5, N5, ?_⟩
        unfold TJA
        rw [ht, List.filter_cons, if_pos hok]
        unfold sgn
        rw [List.map_append]
        exact hJ.append' (.cons _ _ .nil)
      · refine ⟨_, _, rfl, F5, N5, ?_⟩
        unfold TJA
        rw [ht, List.filter_cons, if_neg (by rw [hno]; decide), List.filter_nil, List.append_nil]
        exact hJ
    case afin =>
      rintro ys hJ D' h' tk' F5 N5 off5
      clear F3 N3
      have hJ2 : StrsAre ys (sgn (W.filter isL)) := by
        have e : W.take W.toArray.size = W := by rw [List.size_toArray, List.take_length]
        have h9 : StrsAre ys (sgn ((W.take W.toArray.size).filter isL)) := hJ
        rw [e] at h9
        exact h9
      have hWf : (W.filter isL).length ≤ 1000 := by
        have h1 := List.length_filter_le isL W
        have h2 : W.length ≤ 1000 := by
          have h3 : W.toArray.size ≤ 1000 := hWl
          rwa [List.size_toArray] at h3
        omega
      k_steps
      clear hJ hJ2
      refine unhalt ?_
      with_reducible (rename News _ _ _ _ => N3)
      with_reducible (rename Fr _ _ _ _ => F3)
      k_dflt (refine LCt.ListComp_T (F₀ := F3) (by with_unfolding_all rfl) (by decide) (by rfl) (by decide) (by rfl) ?_)
      k_steps
      refine unhalt ?_
      have hmf := mem5 N3
      refine LCt.CompSrcT.ledger rfl F3 N3 hmf (by rw [sizeLine_eq, List.size_toArray]; omega) (fun gg => rest_T (TJB fs) (.inr ⟨_, hmf, rfl, _, rfl⟩) .nil ?bstep ?bfin)
      case bstep =>
        rintro i v ys I' oI C oC D'' m₂ h' tk' E' hi hvi hJ hC hm F5 N5
        have hvi' : vs[i]? = some v := by rw [← hvi]; exact (List.getElem?_toArray ..).symm
        obtain ⟨f, tf, rfl, hfi⟩ := IntsAre.at hv i v hvi'
        have hfb := hf f (List.mem_of_getElem? hfi)
        clear F3 N3
        k_steps
        have ht : (fs.take (i + 1)).filter (fun f => decide (f < 62)) = (fs.take i).filter (fun f => decide (f < 62)) ++ [f].filter (fun f => decide (f < 62)) := by
          rw [List.take_add_one, hfi, List.filter_append]; rfl
        refine ⟨fun hok => ?_, fun hno => ?_⟩
        · have hlt : f < 62 := of_decide_eq_true hok
          k_steps
          refine ⟨_, _, rfl, F5, N5, ?_⟩
          unfold TJB
          rw [ht, List.filter_cons, if_pos hok, List.map_append]
          unfold sgn
          rw [List.map_append]
          exact hJ.append' (.cons _ _ .nil)
        · refine ⟨_, _, rfl, F5, N5, ?_⟩
          unfold TJB
          rw [ht, List.filter_cons, if_neg (by rw [hno]; decide), List.filter_nil, List.append_nil]
          exact hJ
      case bfin =>
        rintro ys hJ D'' h' tk' F5 N5 off5
        clear F3 N3
        have hJ2 : StrsAre ys (sgn (W.filter isL)) := by
          have e : fs.take vs.toArray.size = fs := by rw [List.size_toArray, hv.length, List.take_length]
          have h9 : StrsAre ys (sgn (((fs.take vs.toArray.size).filter fun f => decide (f < 62)).map letAt)) := hJ
          rw [e, ← hplain] at h9
          exact h9
        k_steps
        · with_reducible (rename (_ != _) = true => hbad)
          rw [bne_self_eq_false] at hbad
          cases hbad
        refine unhalt ?_
        with_reducible (rename News _ _ _ _ => N5)
        with_reducible (rename Fr _ _ _ _ => F5)
        k_dflt (refine LCt.ListComp_T (F₀ := F5) (by with_unfolding_all rfl) (by decide) (by rfl) (by decide) (by rfl) ?_)
        k_steps
        refine unhalt ?_
        with_reducible (rename News _ _ _ _ => N5)
        with_reducible (rename Fr _ _ _ _ => F5)
        with_reducible (rename IsRange _ _ _ _ _ _ _ _ => R5)
        refine LCt.CompSrcT.range (n := 3) rfl F5 N5 R5 rfl rfl (by rw [sizeLine_eq]; decide) (fun gg => rest_T (TJC W) trivial .nil ?cstep ?cfin)
        case cstep =>
          rintro i v ys I' oI C oC D3 m₂ h' tk' E' hi ⟨tv, rfl⟩ hJ hC hm F6 N6
          clear F5 N5
          have hi3 : i = 0 ∨ i = 1 ∨ i = 2 := by omega
          rcases hi3 with rfl | rfl | rfl
          · k_steps
            refine ⟨fun hok => ?_, fun hno => ?_⟩
            · k_steps
              with_reducible (rename News _ _ _ _ => N7)
              with_reducible (rename Fr _ _ _ _ => F7)
              refine ⟨_, _, rfl, F7, news_tl N7, ?_⟩
              rw [tjc_yes (k := 0) hok]
              exact Mine.ints_append hJ (.cons _ _ .nil)
            · with_reducible (rename News _ _ _ _ => N7)
              with_reducible (rename Fr _ _ _ _ => F7)
              refine ⟨_, _, rfl, F7, news_tl N7, ?_⟩
              rw [tjc_no (k := 0) hno]
              exact hJ
          · k_steps
            refine ⟨fun hok => ?_, fun hno => ?_⟩
            · k_steps
              with_reducible (rename News _ _ _ _ => N7)
              with_reducible (rename Fr _ _ _ _ => F7)
              refine ⟨_, _, rfl, F7, news_tl N7, ?_⟩
              rw [tjc_yes (k := 1) hok]
              exact Mine.ints_append hJ (.cons _ _ .nil)
            · with_reducible (rename News _ _ _ _ => N7)
              with_reducible (rename Fr _ _ _ _ => F7)
              refine ⟨_, _, rfl, F7, news_tl N7, ?_⟩
              rw [tjc_no (k := 1) hno]
              exact hJ
          · k_steps
            refine ⟨fun hok => ?_, fun hno => ?_⟩
            · k_steps
              with_reducible (rename News _ _ _ _ => N7)
              with_reducible (rename Fr _ _ _ _ => F7)
              refine ⟨_, _, rfl, F7, news_tl N7, ?_⟩
              rw [tjc_yes (k := 2) hok]
              exact Mine.ints_append hJ (.cons _ _ .nil)
            · with_reducible (rename News _ _ _ _ => N7)
              with_reducible (rename Fr _ _ _ _ => F7)
              refine ⟨_, _, rfl, F7, news_tl N7, ?_⟩
              rw [tjc_no (k := 2) hno]
              exact hJ
        case cfin =>
          rintro ys hJ D3 h' tk' F6 N6 off6
          clear F5 N5
          k_steps
          exact ⟨k', L1, _, _, T6, F6, N6, fun k'' TK FK NK BK DK => hret k'' _ _ D3 ys _ TK FK hJ (news_told NK) (off_told off6) BK DK⟩
  refine kx_out ?_
  simp (disch := k_dflt (k_extra "MAIN")) only [↓kx_in]
end
-- NU
section
open PySem PySem.W PySem.Calls PyProof.Rows
set_option maxHeartbeats 0
theorem app_z' {vs : List Value} (h : vs.length ≤ 1000) : vs.toArray.size ≤ sizeLine := by
  rw [sizeLine_eq, List.size_toArray]
  omega
theorem ite_case {c : Prop} [Decidable c] {X Y : Prop} (h1 : c → X) (h2 : ¬ c → Y) : if c then X else Y := by
  by_cases h : c
  · rw [if_pos h]; exact h1 h
  · rw [if_neg h]; exact h2 h
structure Hold (p : Prop) : Prop where
  h : p
theorem ite_dec {p : Prop} [Decidable p] {X Y : Prop} (h1 : Hold p → X) (h2 : Hold (¬ p) → Y) : if decide p = true then X else Y := by
  by_cases h : p
  · rw [if_pos (decide_eq_true h)]; exact h1 ⟨h⟩
  · rw [if_neg (by rw [decide_eq_false h]; decide)]; exact h2 ⟨h⟩
theorem ite_bne {a b : Int} {X Y : Prop} (h1 : Hold (a ≠ b) → X) (h2 : Hold (a = b) → Y) : if (a != b) = true then X else Y := by
  by_cases h : a = b
  · rw [if_neg (by simp [h])]; exact h2 ⟨h⟩
  · rw [if_pos (by simp [h])]; exact h1 ⟨h⟩
noncomputable def numStep (b a : Int) : List D3 := if a * a - a * b + b * b < 50 ∧ a.fmod 3 ≠ 0 ∧ (a.fmod 2 ≠ 0 ∨ b.fmod 2 ≠ 0) then [(a * a - a * b + b * b, a, b)] else []
noncomputable def numRow (b : Int) (i : Nat) : List D3 := (List.range i).flatMap fun (k : Nat) => numStep b (-8 + (k : Int) * 1)
theorem numRow_succ (b : Int) (i : Nat) : numRow b (i + 1) = numRow b i ++ numStep b (-8 + (i : Int) * 1) := by
  unfold numRow
  rw [List.range_succ, List.flatMap_append]
  simp
theorem numStep_length (b a : Int) : (numStep b a).length ≤ 1 := by
  unfold numStep
  split <;> simp
theorem numRow_length (b : Int) : ∀ i : Nat, (numRow b i).length ≤ i
  | 0 => by simp [numRow]
  | i + 1 => by
    have h := numRow_length b i
    have h2 := numStep_length b (-8 + (i : Int) * 1)
    rw [numRow_succ, List.length_append]
    omega
theorem lno3 {l i' : Addr} {TL news : List (Addr × Obj)} (lA : ∀ p ∈ news, p.1 < l) (hT : ∀ p ∈ TL, @LT.lt Nat _ i' p.1) (h : @LT.lt Nat _ l i') : ∀ p ∈ TL ++ news, p.1 ≠ l := by
  intro p hp
  rcases List.mem_append.mp hp with hp | hp
  · intro e
    have e' : @Eq Nat p.1 l := e
    have := hT p hp
    omega
  · exact Nat.ne_of_lt (lA p hp)
theorem numStep_no {b a : Int} (h : ¬ (a * a - a * b + b * b < 50) ∨ a.fmod 3 = 0 ∨ (a.fmod 2 = 0 ∧ b.fmod 2 = 0)) : numStep b a = [] := by
  unfold numStep
  refine if_neg ?_
  rintro ⟨h1, h2, h3⟩
  rcases h with h | h | ⟨h, h'⟩
  · exact h h1
  · exact h2 h
  · rcases h3 with h3 | h3
    · exact h3 h
    · exact h3 h'
theorem nu_news {h₀ h : Heap} {L : Addr} {T I i' D l : Addr × Obj} {TL news : List (Addr × Obj)} (N : News h₀ L h (T :: I :: i' :: D :: l :: (TL ++ news))) : News h₀ L h (I :: i' :: D :: l :: ((TL ++ [T]) ++ news)) := fun p hp => N p (by
  simp only [List.mem_cons, List.mem_append] at hp ⊢
  rcases hp with h | h | h | h | (h | h | h) | h <;> first | (simp [h]; done) | cases h)
theorem nu_off {T : Addr × Obj} {I : Addr} {i' D l l' : Addr × Obj} {TL news : List (Addr × Obj)} (hT : T.1 ≠ I) (h : ∀ p ∈ i' :: D :: l :: (TL ++ news), p.1 ≠ I) (hl : l'.1 = l.1 := by rfl) : ∀ p ∈ i' :: D :: l' :: ((TL ++ [T]) ++ news), p.1 ≠ I := by
  intro p hp
  simp only [List.mem_cons, List.mem_append] at hp
  rcases hp with e | e | e | (e | e | e) | e
  · exact h p (by simp [e])
  · exact h p (by simp [e])
  · rw [e, hl]; exact h l (by simp)
  · exact h p (by simp [e])
  · rw [e]; exact hT
  · cases e
  · exact h p (by simp [e])
theorem nu_lt {i' T : Addr} {o : Obj} {TL : List (Addr × Obj)} (h : ∀ p ∈ TL, @LT.lt Nat _ i' p.1) (hT : @LT.lt Nat _ i' T) : ∀ p ∈ TL ++ [(T, o)], @LT.lt Nat _ i' p.1 := by
  intro p hp
  rcases List.mem_append.mp hp with hp | hp
  · exact h p hp
  · rw [List.mem_singleton.mp hp]; exact hT
theorem nu_offw {i' : Addr} {D l o' : Obj} {aD al : Addr} {TL news : List (Addr × Obj)} (h1 : @LT.lt Nat _ aD i') (h2 : @LT.lt Nat _ al i') (lA : ∀ p ∈ news, p.1 < al) (hT : ∀ p ∈ TL, @LT.lt Nat _ i' p.1) : ∀ p ∈ (aD, D) :: (al, l) :: (TL ++ news), ∀ q ∈ [(i', o')], p.1 ≠ q.1 := by
  intro p hp q hq e
  rw [List.mem_singleton.mp hq] at e
  have e' : @Eq Nat p.1 i' := e
  simp only [List.mem_cons, List.mem_append] at hp
  rcases hp with h | h | h | h
  · subst h; dsimp only at e'; omega
  · subst h; dsimp only at e'; omega
  · have := hT p h; omega
  · have h3 : @LT.lt Nat _ p.1 al := lA p h; omega
noncomputable def numIn : List D3 := [] ++ numRow (-6) 17 ++ numRow (-3) 17 ++ numRow 3 17 ++ numRow 6 17
noncomputable def numPerm : Array Nat := #[8, 9, 18, 19, 7, 17, 10, 20, 6, 16, 11, 21, 1, 2, 25, 26, 5, 15, 12, 22, 0, 24, 3, 27, 4, 14, 13, 23]
noncomputable def numTab : List D3 := [(7, -2, -3), (7, -1, -3), (7, 1, 3), (7, 2, 3), (13, -4, -3), (13, -1, 3), (13, 1, -3), (13, 4, 3), (19, -5, -3), (19, -2, 3), (19, 2, -3), (19, 5, 3), (31, -5, -6), (31, -1, -6), (31, 1, 6), (31, 5, 6), (37, -7, -3), (37, -4, 3), (37, 4, -3), (37, 7, 3), (43, -7, -6), (43, -1, 6), (43, 1, -6), (43, 7, 6), (49, -8, -3), (49, -5, 3), (49, 5, -3), (49, 8, 3)]
theorem num_perm : evalT numIn.length (fun i j => lt3 (numIn.getD i (0, 0, 0)) (numIn.getD j (0, 0, 0))) (kas_sort numIn.length) = some numPerm := by decide +kernel
theorem numTab_eq : numPerm.toList.map (fun i => numIn.getD i (0, 0, 0)) = numTab := by decide +kernel
theorem tups_perm {TL : List (Addr × Obj)} {vs : List Value} {ds : List D3} (h : TupsAre TL vs ds) : ∀ (is : List Nat), (∀ i ∈ is, i < ds.length) → TupsAre TL (is.map fun i => vs.getD i Value.none) (is.map fun i => ds.getD i (0, 0, 0))
  | [], _ => trivial
  | i :: r, hi => by
    have hlt := hi i (.head _)
    obtain ⟨x, t1, t2, t3, e, hm⟩ := h.at i (ds.getD i (0, 0, 0)) (by rw [List.getD_eq_getElem?_getD, List.getElem?_eq_getElem hlt]; rfl)
    refine ⟨⟨x, t1, t2, t3, ?_, hm⟩, tups_perm h r fun j hj => hi j (.tail _ hj)⟩
    show vs.getD i Value.none = _
    rw [List.getD_eq_getElem?_getD, e]
    rfl
theorem nu_sub {l l' : Addr × Obj} {TL news : List (Addr × Obj)} : ∀ p ∈ TL, p ∈ l :: l' :: (TL ++ news) := fun p hp => .tail _ (.tail _ (List.mem_append.mpr (.inl hp)))
theorem nu_fin {h₀ h : Heap} {L : Addr} {D l l' : Addr × Obj} {r : List (Addr × Obj)} (N : News h₀ L h (D :: l :: l' :: r)) : News h₀ L h (D :: r) := fun p hp => N p (by
  rcases List.mem_cons.mp hp with rfl | hp
  · exact .head _
  · exact .tail _ (.tail _ (.tail _ hp)))
noncomputable def NUI (b : Int) (ds0 : List D3) (l D i' : Addr) (oD o' : Obj) (news : List (Addr × Obj)) (i _tk : Nat) (m : Str → Option Value) (news' : List (Addr × Obj)) : Prop :=
  ∃ TL vs c tb, TupsAre TL vs (ds0 ++ numRow b i) ∧ news' = (i', o') :: (D, oD) :: (l, PySem.W.listOf vs.toArray c) :: (TL ++ news) ∧ (∀ p ∈ TL, @LT.lt Nat _ i' p.1) ∧ m (Str.ofString "numbers") = some (.ref l) ∧ m (Str.ofString "b") = some (.int b tb)
/-- one turn of the inner loop, for any b -/
noncomputable def NuStep (w : World) (A : Around) (h₀ : Heap) (env : Env) (body : List Stmt) (x : Str) (news : List (Addr × Obj)) : Prop :=
  ∀ (b : Int) (ds0 : List D3) (I l D i' : Addr) (oD o' : Obj) (s : Shared) (Q : Flow → Shared → Prop) (E : Value → Shared → Prop),
    -6 ≤ b → b ≤ 6 → ds0.length ≤ 500 → (∀ p ∈ news, p.1 < l) → @LT.lt Nat _ l D → @LT.lt Nat _ l i' → @LT.lt Nat _ l I → @LT.lt Nat _ D I → @LT.lt Nat _ i' I →
    ∀ (i : Nat) (m₁ : Str → Option Value) news₁ h tk, i < 17 → NUI b ds0 l D i' oD o' news i tk m₁ news₁ → s.toks ≤ tk → (∀ p ∈ news₁, p.1 ≠ I) →
      Fr h₀ env.locals h (fun y => if y = x then some (.int (-8 + i * 1) tk) else m₁ y) → News h₀ env.locals h ((I, itS (-8 + ((i + 1 : Nat) : Int) * 1) (((17 : Nat) : Int) - ((i + 1 : Nat) : Int)) 1) :: news₁) →
      wpAny (model PG w) A (execs body env) (RgPost h₀ env.locals { s with heap := h, toks := tk + 1 + 1 } I (itS (-8 + ((i + 1 : Nat) : Int) * 1) (((17 : Nat) : Int) - ((i + 1 : Nat) : Int)) 1) (NUI b ds0 l D i' oD o' news (i + 1)) Q) E { s with heap := h, toks := tk + 1 + 1 }
theorem nu_share {w : World} {A : Around} {h₀ : Heap} {env : Env} {body : List Stmt} {x : Str} {news : List (Addr × Obj)} {R : Prop} (k : NuStep w A h₀ env body x news) (h : NuStep w A h₀ env body x news → R) : R := h k
theorem c_numbers {w : World} {mean : ExcName → Option Value} {mg mb : Str → Option Value} {D U : Nat} {news : List (Addr × Obj)} (hD : D < 450) :
    CT w mean mg mb D U 841 [] news (fun h₀ L m s Q => ∀ h' tk' l us c TL, Fr h₀ L h' m → TupsAre TL us numTab → News h₀ L h' ((l, PySem.W.listOf us.toArray c) :: (TL ++ news)) → (∀ p ∈ TL, ∀ q ∈ news, q.1 < p.1) → (∀ q ∈ news, q.1 < l) → Q (.ref l) { s with heap := h', toks := tk' }) := by
  w_top off
  k_with_none
  k_with "ROOM" => first | ((try simp only [depth_under_make, depth_under_kw, depth_in1, depth_deeper, depth_caller]); decide) | (show (_ : Nat) < 1000; (try simp only [depth_under_make, depth_under_kw, depth_in1, depth_deeper, depth_caller]); (try dsimp only [ktrTop]); omega)
  k_with "CELL" => (refine' kx_def (by exact rfl) (by exact rfl) (by first | exact rfl | assumption) (by k_asm) (by k_asm) (by k_asm) (by k_asm) (by k_asm) (by k_is) (by k_is) (by k_room) (by first | exact BindsTo.of_eq rfl | exact binds_K (by k_in) rfl (by k_is) rfl rfl rfl) (by decide) (by exact locs rfl) (by exact rfl) (by exact rfl) (by exact rfl) ?_; k_whole; intro _ _ _ _ _ _ kxBq _ _; (try dsimp only); (try k_lift kxBq); (try k_fold))
  k_with "ALL" => (first | exact List.forall_mem_nil _ | with_reducible assumption | with_reducible exact kx_tl (by assumption) | with_reducible exact kx_tl (kx_tl (by assumption)) | with_reducible exact kx_tl (kx_tl (kx_tl (by assumption))) | (refine' List.forall_mem_cons.mpr ⟨(by k_ne), ?_⟩; k_all))
  k_with "newList" => (k_here; refine' newList_K (by k_asm) (by k_asm) ?_; k_whole; intro _ _ _ _ kxl1; (try k_lt kxl1); (try k_sweep))
  k_with "eval Name" => (k_here; refine' name_K (by k_asm) (by k_asm) (by k_asm) (by k_is) ?_ (by with_unfolding_all rfl) (by kernel_rfl) (by kernel_rfl); k_whole)
  k_with "eval Name" => (k_here; refine' ld (by k_asm) (by with_unfolding_all rfl) ?_ (by with_unfolding_all rfl) (by kernel_rfl) (by kernel_rfl); k_whole)
  k_with "getAttr ref" => (k_here; refine' get_own (by k_asm) (by k_asm) (by k_inst) (by k_is) (by k_is) (by k_is) (by k_is) (by k_get) (by k_handed) ?_; k_whole)
  k_with "setAttr ref" => (k_here; refine' set_dict (by k_asm) (by k_asm) (by k_asm) (by k_inst) (by with_unfolding_all exact rfl) (by k_is) (by k_is) (by k_is) (by k_is) (by k_get) (by k_put) (by k_upd) (by exact Nat.le_of_ble_eq_true rfl) ?_; k_whole; intro _ _ _; (try k_sweep))
  k_with "last exec While" => (k_here; with_reducible refine whl_start 100 ?_)
  k_with "exec If" => ((try k_fold); refine wpAny_If ?_; (try dsimp only))
  k_with "exec For Name Call cons nil" => (k_here; (with_reducible rename Fr _ _ _ _ => kxlFq); (with_unfolding_all refine' For_rg kxlFq (by exact rfl) (by exact rfl) ?_; k_whole))
  k_with "pyIter ref" => ((with_reducible show wpAny _ _ (pyIter (Value.ref _)) (fun it s₂ => RgAt _ _ _ _ _ _ _ _ _ _ it s₂) _ _); refine halt ?_)
  k_with "exec For Name List cons nil" => (k_here; (with_reducible rename Fr _ _ _ _ => kxlFq); (with_unfolding_all refine' For_turns kxlFq ?_; k_whole))
  k_with "pyIter ref" => (k_here; (with_reducible show wpAny _ _ (pyIter (Value.ref _)) (fun it s₂ => TurnsAt _ _ _ _ _ _ _ _ _ it s₂) _ _); (with_reducible rename Fr _ _ _ _ => kxlFq); (with_reducible rename News _ _ _ _ => kxlNq); (with_unfolding_all refine' iter_listTurns (by exact rfl) kxlFq kxlNq (by k_mem) (by exact rfl) (by exact rfl) ?_); clear kxlFq; intro _ kxl1; (try k_lt kxl1))
  k_with "call builtin:list.append" => (k_here; (with_reducible show wpAny _ _ (call (Value.builtin _) [Value.ref _, _]) _ _ _); k_dflt (refine' append_K (by k_asm) (by k_asm) (by k_upd) ?_ (by exact app_z' (by assumption))); intro _ _ kxNq; (try simp only [List.push_toArray] at kxNq))
  k_with "call builtin:sorted" => (k_here; refine halt ?_)
  k_with "UnrEndW" => (refine halt ?_)
  k_with "execs cons" => (refine wpAny_execs_cons ?_)
  k_with "execs cons" => (refine' nst (s := s) (by k_asm) (by with_unfolding_all exact rfl) ?_; intro _; refine wpAny_execs_cons ?_; (try k_fold))
  k_with "execs nil" => (refine wpAny_execs_nil ?_)
  k_with "ite" => first | with_reducible refine ite_no Bool.false_ne_true ?_ | with_reducible refine ite_yes rfl ?_ | (k_closed; first | with_reducible refine ite_yes (by decide +kernel) ?_ | with_reducible refine ite_no (by decide +kernel) ?_) | (with_reducible refine ite_dec ?_ ?_ <;> intro kxhcI) | (with_reducible refine ite_bne ?_ ?_ <;> intro kxhcI) | (refine halt ?_)
  k_with "MAIN" =>
    dsimp only [CT]; intro gd cn cs a ccd cl outer A₀ base h₀ L m s Q E B F X0 N T hk hret
    obtain ⟨ck, cnm, cgen, cco, cmo⟩ := cs
    dsimp only at hk; subst hk
    refine wpAny_call ?_
    k_dflt k_enter
    rename_i g L1 h1 FG F1 N1 B1 X1 T1
    refine gen_tk ?_
    intro qz hqz
    clear hqz
    refine' nu_share ?key (fun KEY => ?use)
    case use =>
      k_steps
      with_reducible (rename ∀ p ∈ news, p.1 < _ => lA)
      refine unhalt ?_
      with_reducible (rename News _ _ _ _ => N9)
      with_reducible (rename Fr _ _ _ _ => F9)
      with_reducible (rename IsRange _ _ _ _ _ _ _ _ => R9)
      refine iter_rg (n := 17) rfl R9 rfl rfl F9 N9 ?_
      intro I lI hlo
      refine ⟨NUI (-6) ([]) _ _ _ _ _ news, ⟨[], [], _, _, trivial, rfl, fun p hp => absurd hp List.not_mem_nil, rfl, rfl⟩, ?step, ?done⟩
      case step =>
        have lI0 : @LT.lt Nat _ _ I := lI _ List.mem_cons_self
        have lI1 : @LT.lt Nat _ _ I := lI _ (.tail _ List.mem_cons_self)
        have lI2 : @LT.lt Nat _ _ I := lI _ (.tail _ (.tail _ List.mem_cons_self))
        dsimp only at lI0 lI1 lI2
        exact KEY (-6) ([]) I _ _ _ _ _ _ _ _ (by decide) (by decide) (by decide +kernel) lA (by omega) (by omega) lI2 lI1 lI0
      case done =>
        skip
        rintro h tk m' nw ⟨TL, vs, c, tb, ht, rfl, hT, m1, m3⟩ F3 N3
        clear F9 N9 R9
        rw [canon2 m1 m3] at F3
        k_steps
        refine unhalt ?_
        with_reducible (rename News _ _ _ _ => N9)
        with_reducible (rename Fr _ _ _ _ => F9)
        with_reducible (rename _ ∧ _ ∧ AllLt _ news => l9)
        refine ⟨_, _, _, _, rfl, F9, N9, nu_offw l9.1 l9.2.1 lA hT, ⟨⟨List.mem_cons_self, trivial⟩, ?_⟩⟩
        k_steps
        refine unhalt ?_
        with_reducible (rename News _ _ _ _ => N9)
        with_reducible (rename Fr _ _ _ _ => F9)
        with_reducible (rename IsRange _ _ _ _ _ _ _ _ => R9)
        refine iter_rg (n := 17) rfl R9 rfl rfl F9 N9 ?_
        intro I lI hlo
        refine ⟨NUI (-3) ([] ++ numRow (-6) 17) _ _ _ _ _ news, ⟨TL, vs, _, _, (by rw [show numRow (-3) 0 = [] from rfl, List.append_nil]; exact ht), rfl, hT, rfl, rfl⟩, ?step, ?done⟩
        case step =>
          have lI0 : @LT.lt Nat _ _ I := lI _ List.mem_cons_self
          have lI1 : @LT.lt Nat _ _ I := lI _ (.tail _ List.mem_cons_self)
          have lI2 : @LT.lt Nat _ _ I := lI _ (.tail _ (.tail _ List.mem_cons_self))
          dsimp only at lI0 lI1 lI2
          exact KEY (-3) ([] ++ numRow (-6) 17) I _ _ _ _ _ _ _ _ (by decide) (by decide) (by decide +kernel) lA (by omega) (by omega) lI2 lI1 lI0
        case done =>
          rintro h tk m' nw ⟨TL, vs, c, tb, ht, rfl, hT, m1, m3⟩ F3 N3
          clear F9 N9 R9
          rw [canon2 m1 m3] at F3
          k_steps
          refine unhalt ?_
          with_reducible (rename News _ _ _ _ => N9)
          with_reducible (rename Fr _ _ _ _ => F9)
          with_reducible (rename _ ∧ _ ∧ AllLt _ news => l9)
          refine ⟨_, _, _, _, rfl, F9, N9, nu_offw l9.1 l9.2.1 lA hT, ⟨⟨List.mem_cons_self, trivial⟩, ?_⟩⟩
          k_steps
          refine unhalt ?_
          with_reducible (rename News _ _ _ _ => N9)
          with_reducible (rename Fr _ _ _ _ => F9)
          with_reducible (rename IsRange _ _ _ _ _ _ _ _ => R9)
          refine iter_rg (n := 17) rfl R9 rfl rfl F9 N9 ?_
          intro I lI hlo
          refine ⟨NUI 3 ([] ++ numRow (-6) 17 ++ numRow (-3) 17) _ _ _ _ _ news, ⟨TL, vs, _, _, (by rw [show numRow 3 0 = [] from rfl, List.append_nil]; exact ht), rfl, hT, rfl, rfl⟩, ?step, ?done⟩
          case step =>
            have lI0 : @LT.lt Nat _ _ I := lI _ List.mem_cons_self
            have lI1 : @LT.lt Nat _ _ I := lI _ (.tail _ List.mem_cons_self)
            have lI2 : @LT.lt Nat _ _ I := lI _ (.tail _ (.tail _ List.mem_cons_self))
            dsimp only at lI0 lI1 lI2
            exact KEY (3) ([] ++ numRow (-6) 17 ++ numRow (-3) 17) I _ _ _ _ _ _ _ _ (by decide) (by decide) (by decide +kernel) lA (by omega) (by omega) lI2 lI1 lI0
          case done =>
            rintro h tk m' nw ⟨TL, vs, c, tb, ht, rfl, hT, m1, m3⟩ F3 N3
            clear F9 N9 R9
            rw [canon2 m1 m3] at F3
            k_steps
            refine unhalt ?_
            with_reducible (rename News _ _ _ _ => N9)
            with_reducible (rename Fr _ _ _ _ => F9)
            with_reducible (rename _ ∧ _ ∧ AllLt _ news => l9)
            refine ⟨_, _, _, _, rfl, F9, N9, nu_offw l9.1 l9.2.1 lA hT, ⟨⟨List.mem_cons_self, trivial⟩, ?_⟩⟩
            k_steps
            refine unhalt ?_
            with_reducible (rename News _ _ _ _ => N9)
            with_reducible (rename Fr _ _ _ _ => F9)
            with_reducible (rename IsRange _ _ _ _ _ _ _ _ => R9)
            refine iter_rg (n := 17) rfl R9 rfl rfl F9 N9 ?_
            intro I lI hlo
            refine ⟨NUI 6 ([] ++ numRow (-6) 17 ++ numRow (-3) 17 ++ numRow 3 17) _ _ _ _ _ news, ⟨TL, vs, _, _, (by rw [show numRow 6 0 = [] from rfl, List.append_nil]; exact ht), rfl, hT, rfl, rfl⟩, ?step, ?done⟩
            case step =>
              have lI0 : @LT.lt Nat _ _ I := lI _ List.mem_cons_self
              have lI1 : @LT.lt Nat _ _ I := lI _ (.tail _ List.mem_cons_self)
              have lI2 : @LT.lt Nat _ _ I := lI _ (.tail _ (.tail _ List.mem_cons_self))
              dsimp only at lI0 lI1 lI2
              exact KEY (6) ([] ++ numRow (-6) 17 ++ numRow (-3) 17 ++ numRow 3 17) I _ _ _ _ _ _ _ _ (by decide) (by decide) (by decide +kernel) lA (by omega) (by omega) lI2 lI1 lI0
            case done =>
              rintro h tk m' nw ⟨TL, vs, c, tb, ht, rfl, hT, m1, m3⟩ F3 N3
              clear F9 N9 R9
              rw [canon2 m1 m3] at F3
              k_steps
              refine unhalt ?_
              with_reducible (rename News _ _ _ _ => N9)
              with_reducible (rename Fr _ _ _ _ => F9)
              with_reducible (rename _ ∧ _ ∧ AllLt _ news => l9)
              refine ⟨_, _, _, _, rfl, F9, N9, nu_offw l9.1 l9.2.1 lA hT, ⟨⟨List.mem_cons_self, trivial⟩, ?_⟩⟩
              k_steps
              refine unhalt ?_
              clear F9 N9
              with_reducible (rename News _ _ _ _ => N9)
              with_reducible (rename Fr _ _ _ _ => F9)
              refine sort3 (ds := numIn) F9 N9 (News.isList N9 (by k_mem)) (ht.mono nu_sub) (by decide +kernel) (by decide +kernel) num_perm ?_
              intro D9 h9 c9 F10 N10 l10
              k_steps
              with_reducible (rename News _ _ _ _ => N9)
              with_reducible (rename Fr _ _ _ _ => F9)
              refine hret _ _ _ _ _ TL F9 (numTab_eq ▸ tups_perm ht _ (by decide +kernel)) (nu_fin N9) ?_ ?_
              · intro p hp q hq
                have h3 : @LT.lt Nat _ q.1 _ := lA q hq
                have h4 := hT p hp
                with_reducible (rename _ ∧ _ ∧ AllLt _ news => l9)
                have h5 := l9.2.1
                show @LT.lt Nat _ q.1 p.1
                omega
              · intro q hq
                exact l10 q (.tail _ (.tail _ (List.mem_append.mpr (.inr hq))))
  
    case key =>
      intro b ds0 I l D i' oD o' s Q9 E9 hb1 hb2 hd lA lD li lI2 lI1 lI0
      rintro i m2 nw h tk hi ⟨TL', vs', c', tb', ht', rfl, hT', m1', m3'⟩ htk off F3 N3
      rw [canon2 m1' m3'] at F3
      have hvl := ht'.length
      have hV : vs'.length ≤ 1000 := by
        have e1 := numRow_length b i
        rw [List.length_append] at hvl
        omega
      have lno := lno3 lA hT' li
      k_steps
      · with_reducible (rename News _ _ _ _ => N9)
        with_reducible (rename Fr _ _ _ _ => F9)
        with_reducible (rename Hold (_ < _) => c1)
        with_reducible (rename Hold (Int.fmod _ 3 ≠ 0) => c2)
        with_reducible (rename Hold (Int.fmod _ 2 ≠ 0) => c3)
        with_reducible (rename _ ∧ _ => l9)
        refine ⟨_, _, _, _, rfl, F9, nu_news N9, nu_off (Nat.ne_of_gt l9.1) off, ⟨TL' ++ [(_, _)], vs' ++ [.ref _], _, _, ?_, rfl, nu_lt hT' l9.2.1, rfl, rfl⟩⟩
        rw [numRow_succ b i, show numStep b (-8 + (i : Int) * 1) = [_] from if_pos ⟨c1.h, c2.h, .inl c3.h⟩, ← List.append_assoc]
        exact TupsAre.snoc (d := ((-8 + (i : Int) * 1) * (-8 + (i : Int) * 1) - (-8 + (i : Int) * 1) * b + b * b, -8 + (i : Int) * 1, b)) (List.mem_append.mpr (.inr (List.mem_singleton.mpr rfl))) (ht'.mono fun p hp => List.mem_append.mpr (.inl hp))
      · with_reducible (rename News _ _ _ _ => N9)
        with_reducible (rename Fr _ _ _ _ => F9)
        with_reducible (rename Hold (_ < _) => c1)
        with_reducible (rename Hold (Int.fmod _ 3 ≠ 0) => c2)
        with_reducible (rename Hold (Int.fmod _ 2 ≠ 0) => c3)
        with_reducible (rename _ ∧ _ => l9)
        refine ⟨_, _, _, _, rfl, F9, nu_news N9, nu_off (Nat.ne_of_gt l9.1) off, ⟨TL' ++ [(_, _)], vs' ++ [.ref _], _, _, ?_, rfl, nu_lt hT' l9.2.1, rfl, rfl⟩⟩
        rw [numRow_succ b i, show numStep b (-8 + (i : Int) * 1) = [_] from if_pos ⟨c1.h, c2.h, .inr c3.h⟩, ← List.append_assoc]
        exact TupsAre.snoc (d := ((-8 + (i : Int) * 1) * (-8 + (i : Int) * 1) - (-8 + (i : Int) * 1) * b + b * b, -8 + (i : Int) * 1, b)) (List.mem_append.mpr (.inr (List.mem_singleton.mpr rfl))) (ht'.mono fun p hp => List.mem_append.mpr (.inl hp))
      all_goals
        with_reducible (rename News _ _ _ _ => N9)
        with_reducible (rename Fr _ _ _ _ => F9)
        refine ⟨_, _, _, _, rfl, F9, N9, off, ⟨TL', vs', _, _, ?_, rfl, hT', rfl, rfl⟩⟩
        rw [numRow_succ b i, numStep_no ?_, List.append_nil]
        · exact ht'
        · first
          | (with_reducible (rename Hold (¬ _) => c1); exact .inl c1.h)
          | (with_reducible (rename Hold (Int.fmod _ 3 = 0) => c1); exact .inr (.inl c1.h))
          | (with_reducible (rename Hold (Int.fmod b 2 = 0) => c2); with_reducible (rename Hold (Int.fmod (_ + _) 2 = 0) => c1); exact .inr (.inr ⟨c1.h, c2.h⟩))
  refine kx_out ?_
  simp (disch := k_dflt (k_extra "MAIN")) only [↓kx_in]
end
-- PL
section
open PySem PySem.W PySem.Calls PyProof.Rows
noncomputable def toldW (fs : List Int) : List Nat := (lexRun .sp [] (rest (lawText fs (fs.length / 4)) 0)).getD []
noncomputable def toldOK (fs : List Int) : Bool :=
  (fs.length == 4 * (fs.length / 4)) && decide (fs.length / 4 ≤ 50) && fs.all (fun f => decide (0 ≤ f) && decide (f < 64)) && decide ((lawText fs (fs.length / 4)).length ≤ 1000) &&
  (lexRun .sp [] (rest (lawText fs (fs.length / 4)) 0) == some (toldW fs)) && !(toldW fs).isEmpty && (toldW fs).all (fun c => decide (c < 128)) && decide ((⟨(toldW fs).toArray⟩ : Str).length ≤ 1000) &&
  ((toldW fs).filter isL == (fs.filter fun f => decide (f < 62)).map letAt)
noncomputable def toldOf (fs : List Int) : List Int := toldUp (toldW fs) 3
noncomputable def numAt (k : Nat) : D3 := numTab.getD k (0, 0, 0)
noncomputable def rootAt (k : Nat) : Nat := lawRoot (numAt k).1 (numAt k).2.1 (numAt k).2.2
noncomputable def restAt (k0 k1 : Nat) : Int := Int.fmod ((numAt k1).2.1 + (numAt k1).2.2 * (rootAt k0 : Int)) (numAt k0).1
noncomputable def apartAt (k0 k1 : Nat) : Bool := decide (Int.gcd (numAt k0).1 (restAt k0 k1) = 1)
noncomputable def cubesAt (n y : Int) : List Int := ((List.range n.toNat).filter fun (x : Nat) => ((x : Int) * x * x).fmod n == y).map fun (x : Nat) => (x : Int)
noncomputable def thirdOf (a : Int) : Int := if a.fmod 3 = 2 then (a + 1).fdiv 3 else (1 - a).fdiv 3
noncomputable def lawOK (k0 k1 : Nat) : Bool :=
  let n := (numAt k0).1
  let f1 := lawFigs n (rootAt k0) (restAt k0 k1)
  let f2 := lawFigs (numAt k1).1 (rootAt k1) (restAt k1 k0)
  toldOK f1 && toldOK f2 && ((toldOf f1).length == 1) && (toldOf f2 == toldOf f1) && ((toldOf f1 == [0]) == !(cubesAt n (restAt k0 k1)).isEmpty)
noncomputable def supOK (k0 : Nat) : Bool :=
  let n := (numAt k0).1
  let f3 := lawFigs n (rootAt k0) ((1 - (rootAt k0 : Int)).fmod n)
  toldOK f3 && (toldOf f3 == [(thirdOf (numAt k0).2.1).fmod 3])
theorem num_b : ∀ k < 28, (0 < (numAt k).1 ∧ (numAt k).1 < 50 ∧ -10 ≤ (numAt k).2.1 ∧ (numAt k).2.1 ≤ 10 ∧ -10 ≤ (numAt k).2.2 ∧ (numAt k).2.2 ≤ 10) ∧ ((rootAt k : Int) < (numAt k).1 ∧ ((numAt k).2.1 + (numAt k).2.2 * (rootAt k : Int)).fmod (numAt k).1 = 0) := by decide +kernel
theorem told_facts {fs : List Int} (h : toldOK fs = true) : fs.length = 4 * (fs.length / 4) ∧ fs.length / 4 ≤ 50 ∧ (∀ f ∈ fs, 0 ≤ f ∧ f < 64) ∧ (lawText fs (fs.length / 4)).length ≤ 1000 ∧
    lexRun .sp [] (rest (lawText fs (fs.length / 4)) 0) = some (toldW fs) ∧ toldW fs ≠ [] ∧ (∀ c ∈ toldW fs, c < 128) ∧ (toldW fs).filter isL = (fs.filter fun f => decide (f < 62)).map letAt ∧ (⟨(toldW fs).toArray⟩ : Str).length ≤ 1000 := by
  unfold toldOK at h
  simp only [Bool.and_eq_true, beq_iff_eq, decide_eq_true_eq, List.all_eq_true, Bool.not_eq_true'] at h
  obtain ⟨⟨⟨⟨⟨⟨⟨⟨h1, h2⟩, h3⟩, h4⟩, h5⟩, h6⟩, h7⟩, h8⟩, h9⟩ := h
  exact ⟨h1, h2, h3, h4, h5, (fun e => absurd h6 (by rw [e]; decide)), h7, h9, h8⟩
theorem idx28 (d : Int) : ∃ k : Nat, k < 28 ∧ d.fmod 28 = (k : Int) := by
  have h1 := Int.fmod_nonneg_of_pos d (show (0 : Int) < 28 by decide)
  have h2 := Int.fmod_lt_of_pos d (show (0 : Int) < 28 by decide)
  exact ⟨(d.fmod 28).toNat, by omega, by omega⟩
theorem apart_some : ∀ k0 < 28, ∃ j < 28, apartAt k0 j = true := by decide +kernel
noncomputable def lineAt (k0 k1 : Nat) : List Int := lawFigs (numAt k0).1 (rootAt k0) (restAt k0 k1)
end
-- PLL
section
open PySem PySem.W PySem.Calls PyProof.Rows
noncomputable def tellTab : List (List Int) := [[9, 0, 0, 9, 2, 1, 1, 2, 1, 1, 1, 1, 0, 1, 1, 0, 2, 0, 0, 2, 1, 2, 2, 1, 0, 9, 9, 0], [0, 9, 9, 0, 2, 1, 1, 2, 2, 2, 2, 2, 2, 0, 0, 2, 0, 1, 1, 0, 1, 2, 2, 1, 9, 0, 0, 9], [0, 9, 9, 0, 2, 1, 1, 2, 2, 2, 2, 2, 2, 0, 0, 2, 0, 1, 1, 0, 1, 2, 2, 1, 9, 0, 0, 9], [9, 0, 0, 9, 2, 1, 1, 2, 1, 1, 1, 1, 0, 1, 1, 0, 2, 0, 0, 2, 1, 2, 2, 1, 0, 9, 9, 0], [2, 2, 2, 2, 9, 0, 0, 9, 0, 1, 1, 0, 2, 1, 1, 2, 2, 0, 0, 2, 0, 1, 1, 0, 1, 1, 1, 1], [1, 1, 1, 1, 0, 9, 9, 0, 2, 0, 0, 2, 2, 1, 1, 2, 0, 1, 1, 0, 2, 0, 0, 2, 2, 2, 2, 2], [1, 1, 1, 1, 0, 9, 9, 0, 2, 0, 0, 2, 2, 1, 1, 2, 0, 1, 1, 0, 2, 0, 0, 2, 2, 2, 2, 2], [2, 2, 2, 2, 9, 0, 0, 9, 0, 1, 1, 0, 2, 1, 1, 2, 2, 0, 0, 2, 0, 1, 1, 0, 1, 1, 1, 1], [1, 2, 2, 1, 0, 2, 2, 0, 9, 0, 0, 9, 1, 2, 2, 1, 1, 2, 2, 1, 1, 0, 0, 1, 1, 2, 2, 1], [1, 2, 2, 1, 1, 0, 0, 1, 0, 9, 9, 0, 1, 2, 2, 1, 1, 2, 2, 1, 0, 2, 2, 0, 1, 2, 2, 1], [1, 2, 2, 1, 1, 0, 0, 1, 0, 9, 9, 0, 1, 2, 2, 1, 1, 2, 2, 1, 0, 2, 2, 0, 1, 2, 2, 1], [1, 2, 2, 1, 0, 2, 2, 0, 9, 0, 0, 9, 1, 2, 2, 1, 1, 2, 2, 1, 1, 0, 0, 1, 1, 2, 2, 1], [0, 2, 2, 0, 2, 2, 2, 2, 1, 1, 1, 1, 9, 0, 0, 9, 1, 1, 1, 1, 0, 2, 2, 0, 1, 0, 0, 1], [1, 0, 0, 1, 1, 1, 1, 1, 2, 2, 2, 2, 0, 9, 9, 0, 2, 2, 2, 2, 1, 0, 0, 1, 0, 2, 2, 0], [1, 0, 0, 1, 1, 1, 1, 1, 2, 2, 2, 2, 0, 9, 9, 0, 2, 2, 2, 2, 1, 0, 0, 1, 0, 2, 2, 0], [0, 2, 2, 0, 2, 2, 2, 2, 1, 1, 1, 1, 9, 0, 0, 9, 1, 1, 1, 1, 0, 2, 2, 0, 1, 0, 0, 1], [2, 0, 0, 2, 2, 0, 0, 2, 1, 1, 1, 1, 1, 2, 2, 1, 9, 0, 0, 9, 2, 1, 1, 2, 0, 1, 1, 0], [0, 1, 1, 0, 0, 1, 1, 0, 2, 2, 2, 2, 1, 2, 2, 1, 0, 9, 9, 0, 2, 1, 1, 2, 2, 0, 0, 2], [0, 1, 1, 0, 0, 1, 1, 0, 2, 2, 2, 2, 1, 2, 2, 1, 0, 9, 9, 0, 2, 1, 1, 2, 2, 0, 0, 2], [2, 0, 0, 2, 2, 0, 0, 2, 1, 1, 1, 1, 1, 2, 2, 1, 9, 0, 0, 9, 2, 1, 1, 2, 0, 1, 1, 0], [1, 1, 1, 1, 0, 2, 2, 0, 1, 0, 0, 1, 0, 1, 1, 0, 2, 2, 2, 2, 9, 0, 0, 9, 2, 2, 2, 2], [2, 2, 2, 2, 1, 0, 0, 1, 0, 2, 2, 0, 2, 0, 0, 2, 1, 1, 1, 1, 0, 9, 9, 0, 1, 1, 1, 1], [2, 2, 2, 2, 1, 0, 0, 1, 0, 2, 2, 0, 2, 0, 0, 2, 1, 1, 1, 1, 0, 9, 9, 0, 1, 1, 1, 1], [1, 1, 1, 1, 0, 2, 2, 0, 1, 0, 0, 1, 0, 1, 1, 0, 2, 2, 2, 2, 9, 0, 0, 9, 2, 2, 2, 2], [0, 9, 9, 0, 1, 2, 2, 1, 1, 1, 1, 1, 1, 0, 0, 1, 0, 2, 2, 0, 2, 1, 1, 2, 9, 0, 0, 9], [9, 0, 0, 9, 1, 2, 2, 1, 2, 2, 2, 2, 0, 2, 2, 0, 1, 0, 0, 1, 2, 1, 1, 2, 0, 9, 9, 0], [9, 0, 0, 9, 1, 2, 2, 1, 2, 2, 2, 2, 0, 2, 2, 0, 1, 0, 0, 1, 2, 1, 1, 2, 0, 9, 9, 0], [0, 9, 9, 0, 1, 2, 2, 1, 1, 1, 1, 1, 1, 0, 0, 1, 0, 2, 2, 0, 2, 1, 1, 2, 9, 0, 0, 9]]
noncomputable def tabAt (k0 k1 : Nat) : Int := (tellTab.getD k0 []).getD k1 9
/-- norm and root, each pair once -/
noncomputable def clsTab : List (Int × Nat) := [(7, 4), (7, 2), (13, 3), (13, 9), (19, 11), (19, 7), (31, 25), (31, 5), (37, 10), (37, 26), (43, 6), (43, 36), (49, 30), (49, 18)]
/-- the pair of the k-th number -/
noncomputable def clsOf (k : Nat) : Nat := [0, 1, 1, 0, 2, 3, 3, 2, 4, 5, 5, 4, 6, 7, 7, 6, 8, 9, 9, 8, 10, 11, 11, 10, 12, 13, 13, 12].getD k 0
/-- what the line of y tells by the i-th pair; 9: not asked -/
noncomputable def yTab : List (List Int) := [[9, 0, 2, 1, 1, 2, 0], [9, 0, 1, 2, 2, 1, 0], [9, 0, 2, 2, 1, 0, 1, 1, 0, 1, 2, 2, 0], [9, 0, 1, 1, 2, 0, 2, 2, 0, 2, 1, 1, 0], [9, 0, 1, 1, 2, 1, 2, 0, 0, 2, 2, 0, 0, 2, 1, 2, 1, 1, 0], [9, 0, 2, 2, 1, 2, 1, 0, 0, 1, 1, 0, 0, 1, 2, 1, 2, 2, 0], [9, 9, 0, 9, 0, 9, 2, 2, 0, 1, 1, 1, 2, 1, 2, 0, 0, 2, 1, 2, 1, 1, 1, 0, 9, 2, 9, 0, 9, 0, 9], [9, 9, 0, 9, 0, 9, 1, 9, 0, 2, 2, 2, 1, 2, 1, 0, 0, 1, 2, 1, 2, 2, 2, 0, 9, 1, 9, 0, 9, 0, 9], [9, 0, 1, 2, 9, 2, 0, 2, 0, 1, 9, 0, 1, 2, 9, 1, 9, 9, 9, 9, 9, 9, 1, 9, 2, 1, 0, 9, 1, 0, 2, 0, 2, 9, 2, 1, 0], [9, 0, 2, 1, 9, 1, 0, 1, 0, 2, 9, 0, 2, 1, 9, 2, 9, 9, 9, 9, 9, 9, 2, 9, 1, 2, 0, 9, 2, 0, 1, 0, 1, 9, 1, 2, 0], [9, 9, 0, 9, 9, 9, 1, 9, 0, 9, 9, 9, 9, 2, 2, 9, 0, 2, 2, 1, 1, 0, 0, 1, 1, 2, 2, 0, 9, 2, 2, 9, 9, 9, 9, 0, 9, 1, 1, 9, 9, 0, 9], [9, 9, 0, 9, 9, 9, 2, 9, 0, 9, 9, 9, 9, 1, 1, 9, 0, 1, 1, 2, 2, 0, 0, 2, 2, 1, 1, 0, 9, 1, 1, 9, 9, 9, 9, 0, 9, 2, 9, 9, 9, 0, 9], [9, 0, 9, 1, 1, 9, 0, 9, 9, 2, 1, 1, 2, 0, 9, 0, 9, 1, 9, 9, 0, 9, 9, 9, 9, 9, 9, 9, 9, 9, 9, 9, 1, 9, 0, 9, 0, 2, 1, 1, 2, 9, 9, 0, 9, 1, 1, 9, 0], [9, 0, 9, 2, 2, 9, 0, 9, 9, 1, 2, 2, 1, 0, 9, 0, 9, 2, 9, 9, 9, 9, 9, 9, 9, 9, 9, 9, 9, 9, 9, 9, 2, 9, 0, 9, 0, 1, 2, 2, 1, 9, 9, 0, 9, 2, 2, 9, 0]]
noncomputable def yAt (i : Nat) (y : Int) : Int := (yTab.getD i []).getD y.toNat 9
noncomputable def cN (i : Nat) : Int := (clsTab.getD i (0, 0)).1
noncomputable def cR (i : Nat) : Nat := (clsTab.getD i (0, 0)).2
noncomputable def oneOK (f : List Int) (t : Int) : Bool := toldOK f && (toldOf f == [t])
noncomputable def rowOK (i : Nat) : Bool := (List.range (cN i).toNat).all fun (y : Nat) => yAt i (y : Int) == 9 || oneOK (lawFigs (cN i) (cR i) (y : Int)) (yAt i (y : Int))
theorem rowN0 : rowOK 0 = true := by decide +kernel
theorem rowN1 : rowOK 1 = true := by decide +kernel
theorem rowN2 : rowOK 2 = true := by decide +kernel
theorem rowN3 : rowOK 3 = true := by decide +kernel
theorem rowN4 : rowOK 4 = true := by decide +kernel
theorem rowN5 : rowOK 5 = true := by decide +kernel
theorem rowN6 : rowOK 6 = true := by decide +kernel
theorem rowN7 : rowOK 7 = true := by decide +kernel
theorem rowN8 : rowOK 8 = true := by decide +kernel
theorem rowN9 : rowOK 9 = true := by decide +kernel
theorem rowN10 : rowOK 10 = true := by decide +kernel
theorem rowN11 : rowOK 11 = true := by decide +kernel
theorem rowN12 : rowOK 12 = true := by decide +kernel
theorem rowN13 : rowOK 13 = true := by decide +kernel
theorem row_all : ∀ i < 14, rowOK i = true := by
  intro i h
  match i, h with
  | 0, _ => exact rowN0
  | 1, _ => exact rowN1
  | 2, _ => exact rowN2
  | 3, _ => exact rowN3
  | 4, _ => exact rowN4
  | 5, _ => exact rowN5
  | 6, _ => exact rowN6
  | 7, _ => exact rowN7
  | 8, _ => exact rowN8
  | 9, _ => exact rowN9
  | 10, _ => exact rowN10
  | 11, _ => exact rowN11
  | 12, _ => exact rowN12
  | 13, _ => exact rowN13
  | n + 14, h => exact absurd h (by omega)
theorem cls_ok : ((List.range 28).all fun k0 => decide (clsOf k0 < 14) && (cN (clsOf k0) == (numAt k0).1) && (cR (clsOf k0) == rootAt k0) && decide (0 < (numAt k0).1) && (yAt (clsOf k0) ((1 - (rootAt k0 : Int)).fmod (numAt k0).1) == (thirdOf (numAt k0).2.1).fmod 3) && ((thirdOf (numAt k0).2.1).fmod 3 != 9)) = true := by decide +kernel
theorem tab_ok : ((List.range 28).all fun k0 => (List.range 28).all fun k1 => !apartAt k0 k1 || (apartAt k1 k0 && (tabAt k0 k1 == tabAt k1 k0) && decide (0 ≤ tabAt k0 k1) && decide (tabAt k0 k1 ≤ 2) && (yAt (clsOf k0) (restAt k0 k1) == tabAt k0 k1) && (decide (tabAt k0 k1 = 0) == !(cubesAt (numAt k0).1 (restAt k0 k1)).isEmpty))) = true := by decide +kernel
theorem cls_at {k0 : Nat} (h0 : k0 < 28) : clsOf k0 < 14 ∧ cN (clsOf k0) = (numAt k0).1 ∧ cR (clsOf k0) = rootAt k0 ∧ 0 < (numAt k0).1 ∧ yAt (clsOf k0) ((1 - (rootAt k0 : Int)).fmod (numAt k0).1) = (thirdOf (numAt k0).2.1).fmod 3 ∧ (thirdOf (numAt k0).2.1).fmod 3 ≠ 9 := by
  have h := List.all_eq_true.mp cls_ok k0 (List.mem_range.mpr h0)
  simp only [Bool.and_eq_true, beq_iff_eq, decide_eq_true_eq, bne_iff_ne] at h
  obtain ⟨⟨⟨⟨⟨a, b⟩, c⟩, d⟩, e⟩, f⟩ := h
  exact ⟨a, b, c, d, e, f⟩
theorem y_line {k0 : Nat} {y : Int} (h0 : k0 < 28) (hy : 0 ≤ y) (hy1 : y < (numAt k0).1) (ht : yAt (clsOf k0) y ≠ 9) : toldOK (lawFigs (numAt k0).1 (rootAt k0) y) = true ∧ toldOf (lawFigs (numAt k0).1 (rootAt k0) y) = [yAt (clsOf k0) y] := by
  obtain ⟨a, b, c, d, _, _⟩ := cls_at h0
  have h := row_all _ a
  unfold rowOK at h
  rw [b, c] at h
  have h2 := List.all_eq_true.mp h y.toNat (List.mem_range.mpr (by omega))
  rw [Int.toNat_of_nonneg hy] at h2
  unfold oneOK at h2
  simp only [Bool.or_eq_true, Bool.and_eq_true, beq_iff_eq] at h2
  rcases h2 with h2 | h2
  · exact absurd h2 ht
  · exact h2
theorem line_at {k0 k1 : Nat} (h0 : k0 < 28) (h1 : k1 < 28) (ha : apartAt k0 k1 = true) : toldOK (lineAt k0 k1) = true ∧ toldOf (lineAt k0 k1) = [tabAt k0 k1] := by
  have h := List.all_eq_true.mp (List.all_eq_true.mp tab_ok k0 (List.mem_range.mpr h0)) k1 (List.mem_range.mpr h1)
  rw [ha] at h
  simp only [Bool.not_true, Bool.false_or, Bool.and_eq_true, beq_iff_eq, decide_eq_true_eq] at h
  obtain ⟨⟨⟨⟨⟨_, _⟩, e3⟩, e4⟩, e5⟩, _⟩ := h
  have hn := (cls_at h0).2.2.2.1
  have q := y_line h0 (y := restAt k0 k1) (Int.fmod_nonneg_of_pos _ hn) (Int.fmod_lt_of_pos _ hn) (by rw [e5]; omega)
  rw [e5] at q
  exact q
theorem law_lines : ∀ k0 < 28, ∀ k1 < 28, apartAt k0 k1 = true → ∃ tv : Int, toldOK (lineAt k0 k1) = true ∧ toldOf (lineAt k0 k1) = [tv] ∧ (toldOK (lineAt k1 k0) = true ∧ toldOf (lineAt k1 k0) = [tv] ∧ 0 ≤ tv ∧ tv ≤ 2 ∧ ((tv = 0) ↔ cubesAt (numAt k0).1 (restAt k0 k1) ≠ [])) := by
  intro k0 h0 k1 h1 ha
  have h := List.all_eq_true.mp (List.all_eq_true.mp tab_ok k0 (List.mem_range.mpr h0)) k1 (List.mem_range.mpr h1)
  rw [ha] at h
  simp only [Bool.not_true, Bool.false_or, Bool.and_eq_true, beq_iff_eq, decide_eq_true_eq] at h
  obtain ⟨⟨⟨⟨⟨e1, e2⟩, e3⟩, e4⟩, _⟩, e5⟩ := h
  obtain ⟨a1, a2⟩ := line_at h0 h1 ha
  obtain ⟨c1, c2⟩ := line_at h1 h0 e1
  refine ⟨tabAt k0 k1, a1, a2, c1, by rw [c2, e2], e3, e4, ?_⟩
  cases hc : cubesAt (numAt k0).1 (restAt k0 k1) with
  | nil =>
    rw [hc] at e5
    constructor
    · intro h; rw [decide_eq_true h] at e5; cases e5
    · intro h; exact absurd rfl h
  | cons x r =>
    rw [hc] at e5
    constructor
    · intro _; exact List.cons_ne_nil _ _
    · intro _; exact of_decide_eq_true e5
theorem law_sup : ∀ k0 < 28, toldOK (lawFigs (numAt k0).1 (rootAt k0) ((1 - (rootAt k0 : Int)).fmod (numAt k0).1)) = true ∧ toldOf (lawFigs (numAt k0).1 (rootAt k0) ((1 - (rootAt k0 : Int)).fmod (numAt k0).1)) = [(thirdOf (numAt k0).2.1).fmod 3] := by
  intro k0 h0
  obtain ⟨_, _, _, hn, e, f⟩ := cls_at h0
  have q := y_line h0 (y := (1 - (rootAt k0 : Int)).fmod (numAt k0).1) (Int.fmod_nonneg_of_pos _ hn) (Int.fmod_lt_of_pos _ hn) (by rw [e]; exact f)
  rw [e] at q
  exact q
end
-- SB
section
open PySem PySem.W PySem.Calls PyProof.Rows
set_option maxHeartbeats 0
theorem c_sub {w : World} {mean : ExcName → Option Value} {mg mb : Str → Option Value} {D U : Nat} {news : List (Addr × Obj)} {a b : Int} {t1 t2 : Tok} (hD : D < 470) :
    CT w mean mg mb D U 827 [.int a t1, .int b t2] news (fun h₀ L m s Q => ∀ h' tk' t, 0 < tk' → Fr h₀ L h' m → News h₀ L h' news → Q (.int (a - b) t) { s with heap := h', toks := tk' }) := by
  w_top off
  k_with_none
  k_with "ROOM" => first | ((try simp only [depth_under_make, depth_under_kw, depth_in1, depth_deeper, depth_caller]); decide) | (show (_ : Nat) < 1000; (try simp only [depth_under_make, depth_under_kw, depth_in1, depth_deeper, depth_caller]); (try dsimp only [ktrTop]); omega)
  k_with "CELL" => (refine' kx_def (by exact rfl) (by exact rfl) (by first | exact rfl | assumption) (by k_asm) (by k_asm) (by k_asm) (by k_asm) (by k_asm) (by k_is) (by k_is) (by k_room) (by first | exact BindsTo.of_eq rfl | exact binds_K (by k_in) rfl (by k_is) rfl rfl rfl) (by decide) (by exact locs rfl) (by exact rfl) (by exact rfl) (by exact rfl) ?_; k_whole; intro _ _ _ _ _ _ kxBq _ _; (try dsimp only); (try k_lift kxBq); (try k_fold))
  k_with "ALL" => (first | exact List.forall_mem_nil _ | with_reducible assumption | with_reducible exact kx_tl (by assumption) | with_reducible exact kx_tl (kx_tl (by assumption)) | with_reducible exact kx_tl (kx_tl (kx_tl (by assumption))) | (refine' List.forall_mem_cons.mpr ⟨(by k_ne), ?_⟩; k_all))
  k_with "newList" => (k_here; refine' newList_K (by k_asm) (by k_asm) ?_; k_whole; intro _ _ _ _ kxl1; (try k_lt kxl1); (try k_sweep))
  k_with "eval Name" => (k_here; refine' name_K (by k_asm) (by k_asm) (by k_asm) (by k_is) ?_ (by with_unfolding_all rfl) (by kernel_rfl) (by kernel_rfl); k_whole)
  k_with "eval Name" => (k_here; refine' ld (by k_asm) (by with_unfolding_all rfl) ?_ (by with_unfolding_all rfl) (by kernel_rfl) (by kernel_rfl); k_whole)
  k_with "getAttr ref" => (k_here; refine' get_own (by k_asm) (by k_asm) (by k_inst) (by k_is) (by k_is) (by k_is) (by k_is) (by k_get) (by k_handed) ?_; k_whole)
  k_with "setAttr ref" => (k_here; refine' set_dict (by k_asm) (by k_asm) (by k_asm) (by k_inst) (by with_unfolding_all exact rfl) (by k_is) (by k_is) (by k_is) (by k_is) (by k_get) (by k_put) (by k_upd) (by exact Nat.le_of_ble_eq_true rfl) ?_; k_whole; intro _ _ _; (try k_sweep))
  k_with "last exec While" => (k_here; with_reducible refine whl_start 100 ?_)
  k_with "exec If" => (refine wpAny_If ?_; (try dsimp only))
  k_with "execs cons" => (refine wpAny_execs_cons ?_)
  k_with "execs nil" => (refine wpAny_execs_nil ?_)
  k_with "MAIN" =>
    dsimp only [CT]; intro gd cn cs c ccd cl outer A₀ base h₀ L m s Q E B F X0 N T hk hret
    obtain ⟨ck, cnm, cgen, cco, cmo⟩ := cs
    dsimp only at hk; subst hk
    refine wpAny_call ?_
    k_dflt k_enter
    rename_i g L1 h1 FG F1 N1 B1 X1 T1
    k_steps
    with_reducible (rename News _ _ _ _ => N9)
    with_reducible (rename Fr _ _ _ _ => F9)
    exact hret _ _ _ (Nat.succ_pos _) F9 N9
  refine kx_out ?_
  simp (disch := k_dflt (k_extra "MAIN")) only [↓kx_in]
theorem c_mod {w : World} {mean : ExcName → Option Value} {mg mb : Str → Option Value} {D U : Nat} {news : List (Addr × Obj)} {a n : Int} {t1 t2 : Tok} (hD : D < 470) (hn : 0 < n) (hn1 : n ≤ 1000) :
    CT w mean mg mb D U 792 [.int a t1, .int n t2] news (fun h₀ L m s Q => ∀ h' tk' t, 0 < tk' → Fr h₀ L h' m → News h₀ L h' news → Q (.int (Int.fmod a n) t) { s with heap := h', toks := tk' }) := by
  w_top off
  k_with_none
  k_with "ROOM" => first | ((try simp only [depth_under_make, depth_under_kw, depth_in1, depth_deeper, depth_caller]); decide) | (show (_ : Nat) < 1000; (try simp only [depth_under_make, depth_under_kw, depth_in1, depth_deeper, depth_caller]); (try dsimp only [ktrTop]); omega)
  k_with "CELL" => (refine' kx_def (by exact rfl) (by exact rfl) (by first | exact rfl | assumption) (by k_asm) (by k_asm) (by k_asm) (by k_asm) (by k_asm) (by k_is) (by k_is) (by k_room) (by first | exact BindsTo.of_eq rfl | exact binds_K (by k_in) rfl (by k_is) rfl rfl rfl) (by decide) (by exact locs rfl) (by exact rfl) (by exact rfl) (by exact rfl) ?_; k_whole; intro _ _ _ _ _ _ kxBq _ _; (try dsimp only); (try k_lift kxBq); (try k_fold))
  k_with "ALL" => (first | exact List.forall_mem_nil _ | with_reducible assumption | with_reducible exact kx_tl (by assumption) | with_reducible exact kx_tl (kx_tl (by assumption)) | with_reducible exact kx_tl (kx_tl (kx_tl (by assumption))) | (refine' List.forall_mem_cons.mpr ⟨(by k_ne), ?_⟩; k_all))
  k_with "newList" => (k_here; refine' newList_K (by k_asm) (by k_asm) ?_; k_whole; intro _ _ _ _ kxl1; (try k_lt kxl1); (try k_sweep))
  k_with "eval Name" => (k_here; refine' name_K (by k_asm) (by k_asm) (by k_asm) (by k_is) ?_ (by with_unfolding_all rfl) (by kernel_rfl) (by kernel_rfl); k_whole)
  k_with "eval Name" => (k_here; refine' ld (by k_asm) (by with_unfolding_all rfl) ?_ (by with_unfolding_all rfl) (by kernel_rfl) (by kernel_rfl); k_whole)
  k_with "getAttr ref" => (k_here; refine' get_own (by k_asm) (by k_asm) (by k_inst) (by k_is) (by k_is) (by k_is) (by k_is) (by k_get) (by k_handed) ?_; k_whole)
  k_with "setAttr ref" => (k_here; refine' set_dict (by k_asm) (by k_asm) (by k_asm) (by k_inst) (by with_unfolding_all exact rfl) (by k_is) (by k_is) (by k_is) (by k_is) (by k_get) (by k_put) (by k_upd) (by exact Nat.le_of_ble_eq_true rfl) ?_; k_whole; intro _ _ _; (try k_sweep))
  k_with "last exec While" => (k_here; with_reducible refine whl_start 100 ?_)
  k_with "exec If" => (refine wpAny_If ?_; (try dsimp only))
  k_with "execs cons" => (refine wpAny_execs_cons ?_)
  k_with "execs nil" => (refine wpAny_execs_nil ?_)
  k_with "MAIN" =>
    dsimp only [CT]; intro gd cn cs c ccd cl outer A₀ base h₀ L m s Q E B F X0 N T hk hret
    obtain ⟨ck, cnm, cgen, cco, cmo⟩ := cs
    dsimp only at hk; subst hk
    refine wpAny_call ?_
    k_dflt k_enter
    rename_i g L1 h1 FG F1 N1 B1 X1 T1
    k_steps
    with_reducible (rename News _ _ _ _ => N9)
    with_reducible (rename Fr _ _ _ _ => F9)
    exact hret _ _ _ (Nat.succ_pos _) F9 N9
  refine kx_out ?_
  simp (disch := k_dflt (k_extra "MAIN")) only [↓kx_in]
end
-- LW
section
open PySem PySem.W PySem.Calls PyProof.Rows
set_option maxHeartbeats 0
noncomputable def DrawnPost (h₀ : Heap) (L : Addr) (m : Str → Option Value) (news : List (Addr × Obj)) (s : Shared) (f : Flow) (s' : Shared) : Prop :=
  f = .next ∧ ∃ h' tk D c d0 d1 t0 t1, s' = { s with heap := h', toks := tk } ∧ Fr h₀ L h' (fun y => if y = Str.ofString "drawn" then some (.ref D) else m y) ∧ News h₀ L h' ((D, PySem.W.listOf #[.int d0 t0, .int d1 t1] c) :: news) ∧ ∀ p ∈ news, p.1 < D
theorem drawn_mono {M : Model} {A : Around} {t : Sem Flow} {E : Value → Shared → Prop} {s : Shared} {h₀ : Heap} {L : Addr} {m : Str → Option Value} {news : List (Addr × Obj)} {Q : Flow → Shared → Prop} (F : Fr h₀ L s.heap m) (N : News h₀ L s.heap news)
    (h : wpAny M A t (DrawnPost h₀ L m news s) E s) (k : ∀ f s', DrawnPost h₀ L m news s f s' → Q f s') : wpAny M A t Q E s := wpAny_mono h k fun _ _ e => e
theorem szI {a b : Value} {n1 n2 : Int} {vs : List Value} {ns : List Int} (hI : IntsAre vs ns) (hc : ¬ ((63 : Nat) : Int) < (((n1 :: n2 :: ns).length : Nat) : Int)) : (a :: b :: vs).toArray.size ≤ sizeLine := by
  have h := hI.length
  rw [sizeLine_eq, List.size_toArray]
  simp only [List.length_cons] at hc ⊢
  omega
theorem news_hd5 {h₀ h : Heap} {L : Addr} {D a b c d : Addr × Obj} {r : List (Addr × Obj)} (N : News h₀ L h (D :: a :: b :: c :: d :: r)) : News h₀ L h (D :: r) := fun p hp => N p (by
  rcases List.mem_cons.mp hp with rfl | hp
  · exact .head _
  · exact .tail _ (.tail _ (.tail _ (.tail _ (.tail _ hp)))))
theorem news_tail2 {h₀ h : Heap} {L : Addr} {a b c : Addr × Obj} {TL : List (Addr × Obj)} (N : News h₀ L h (a :: (TL ++ [b, c]))) : News h₀ L h (a :: b :: c :: TL) := fun p hp => N p (by
  simp only [List.mem_cons, List.mem_append] at hp ⊢
  rcases hp with h | h | h | h <;> simp [h])
theorem news_keep2 {h₀ h : Heap} {L : Addr} {a b c d e f x y : Addr × Obj} {TL : List (Addr × Obj)} (N : News h₀ L h (a :: b :: c :: d :: e :: f :: x :: y :: TL)) : News h₀ L h [x, y] := fun p hp => N p (by
  simp only [List.mem_cons, List.not_mem_nil, or_false] at hp ⊢
  rcases hp with hp | hp <;> simp [hp])
theorem news_d2 {h₀ h : Heap} {L : Addr} {a b : Addr × Obj} {l : List (Addr × Obj)} (N : News h₀ L h (a :: b :: l)) : News h₀ L h (a :: l) := fun p hp => N p (by
  rcases List.mem_cons.mp hp with rfl | hp
  · exact .head _
  · exact .tail _ (.tail _ hp))
theorem news_add {h₀ h : Heap} {L : Addr} {a : Addr × Obj} {l : List (Addr × Obj)} (N : News h₀ L h l) (hm : a ∈ l) : News h₀ L h (a :: l) := fun p hp => by
  rcases List.mem_cons.mp hp with rfl | hp
  · exact N _ hm
  · exact N p hp
theorem numTab_get {k : Nat} (h : k < 28) : numTab[k]? = some (numAt k) := by
  have e : numTab.length = 28 := rfl
  unfold numAt
  rw [List.getD_eq_getElem?_getD, List.getElem?_eq_getElem (by rw [e]; exact h)]
  rfl
theorem ltp {h₀ h : Heap} {L D : Addr} {o : Obj} {l : List (Addr × Obj)} (_N : News h₀ L h ((D, o) :: l)) (h : ∀ p ∈ l, p.1 < D) : ∀ p ∈ l, p.1 < D := h
theorem target {k0 k1 : Nat} (h0 : k0 < 28) (h1 : k1 < 28) : ∃ T0, k1 ≤ T0 ∧ apartAt k0 (T0 % 28) = true := by
  obtain ⟨j, hj, e⟩ := apart_some k0 h0
  by_cases h : k1 ≤ j
  · exact ⟨j, h, by rw [Nat.mod_eq_of_lt hj]; exact e⟩
  · exact ⟨j + 28, by omega, by rw [Nat.add_mod_right, Nat.mod_eq_of_lt hj]; exact e⟩
theorem fmod28 (c : Nat) : ((c : Int)).fmod 28 = ((c % 28 : Nat) : Int) := by
  rw [Int.fmod_eq_emod_of_nonneg _ (by decide)]
  omega
theorem canon5 {m : Str → Option Value} {a b c d e : Str} {u v x y q : Value} (h1 : m a = some u) (h2 : m b = some v) (h3 : m c = some x) (h4 : m d = some y) (h5 : m e = some q) : m = (fun z => if z = a then some u else if z = b then some v else if z = c then some x else if z = d then some y else if z = e then some q else m z) := by
  funext z
  by_cases e1 : z = a
  · rw [if_pos e1, e1, h1]
  · rw [if_neg e1]
    by_cases e2 : z = b
    · rw [if_pos e2, e2, h2]
    · rw [if_neg e2]
      by_cases e3 : z = c
      · rw [if_pos e3, e3, h3]
      · rw [if_neg e3]
        by_cases e4 : z = d
        · rw [if_pos e4, e4, h4]
        · rw [if_neg e4]
          by_cases e5 : z = e
          · rw [if_pos e5, e5, h5]
          · rw [if_neg e5]
theorem mem6 {h₀ h : Heap} {L : Addr} {a b c d e f : Addr × Obj} {TL : List (Addr × Obj)} (_N : News h₀ L h (a :: b :: c :: d :: e :: f :: TL)) {x : Addr × Obj} (hx : x ∈ TL) : x ∈ a :: b :: c :: d :: e :: f :: TL := .tail _ (.tail _ (.tail _ (.tail _ (.tail _ (.tail _ hx)))))
noncomputable def LWI (h₀ : Heap) (L : Addr) (gn : Array GenState) (dr : Drawn) (os : OsState) (news : List (Addr × Obj)) (vr vn va vb : Value) (T0 : Nat) (c : Nat) (s' : Shared) : Prop :=
  ∃ h tk m' tp, s' = ⟨h, gn, dr, tk, os⟩ ∧ Fr h₀ L h m' ∧ News h₀ L h news ∧ c ≤ T0 ∧ m' (Str.ofString "place") = some (.int (c : Int) tp) ∧ m' (Str.ofString "root") = some vr ∧ m' (Str.ofString "numbers") = some vn ∧ m' (Str.ofString "a") = some va ∧ m' (Str.ofString "b") = some vb
theorem LWI.intro {h₀ : Heap} {L : Addr} {gn : Array GenState} {dr : Drawn} {os : OsState} {news : List (Addr × Obj)} {vr vn va vb : Value} {T0 c : Nat} {h : Heap} {tk : Nat} {m' : Str → Option Value} {tp : Tok} (F : Fr h₀ L h m') (N : News h₀ L h news) (hc : c ≤ T0) (e1 : m' (Str.ofString "place") = some (.int (c : Int) tp)) (e2 : m' (Str.ofString "root") = some vr) (e3 : m' (Str.ofString "numbers") = some vn) (e4 : m' (Str.ofString "a") = some va) (e5 : m' (Str.ofString "b") = some vb) :
    LWI h₀ L gn dr os news vr vn va vb T0 c ⟨h, gn, dr, tk, os⟩ := ⟨h, tk, m', tp, rfl, F, N, hc, e1, e2, e3, e4, e5⟩
theorem unturnF {h₀ k' h : Heap} {L : Addr} {m : Str → Option Value} (T : KtsTurn (frs []) h₀ k') (F : Fr k' L h m) : Fr h₀ L h m :=
  ⟨F.ns, fun b o e => F.keep b o (T.other b o e List.not_mem_nil), by have := F.above; rw [T.size] at this; exact this⟩
theorem unturnN {h₀ k' h : Heap} {L : Addr} {news : List (Addr × Obj)} (T : KtsTurn (frs []) h₀ k') (N : News k' L h news) : News h₀ L h news := fun p hp => ⟨(N p hp).1, (N p hp).2.1, by
  cases e : h₀.get? p.1 with
  | none => rfl
  | some o =>
    have := (N p hp).2.2
    rw [T.other _ _ e List.not_mem_nil] at this
    cases this⟩
noncomputable def cubUp (n y : Int) (i : Nat) : List Int := ((List.range i).filter fun (x : Nat) => ((x : Int) * x * x).fmod n == y).map fun (x : Nat) => (x : Int)
noncomputable def CubJ (n y : Int) (i : Nat) (ys : List Value) : Prop := IntsAre ys (cubUp n y i)
theorem cub_yes {n y : Int} {k : Nat} {ys : List Value} (h : ((k : Int) * k * k).fmod n = y) : CubJ n y (k + 1) ys = IntsAre ys (cubUp n y k ++ [(k : Int)]) := by
  unfold CubJ cubUp
  rw [List.range_succ, List.filter_append, List.filter_cons, if_pos (beq_iff_eq.mpr h), List.map_append]
  rfl
theorem cub_no {n y : Int} {k : Nat} {ys : List Value} (h : ((k : Int) * k * k).fmod n ≠ y) : CubJ n y (k + 1) ys = CubJ n y k ys := by
  unfold CubJ cubUp
  rw [List.range_succ, List.filter_append, List.filter_cons, if_neg (by simpa using h), List.filter_nil, List.append_nil]
noncomputable def StPost (h₀ : Heap) (L : Addr) (m : Str → Option Value) (news : List (Addr × Obj)) (s : Shared) (f : Flow) (s' : Shared) : Prop :=
  f = .next ∧ ∃ h' tk, s' = { s with heap := h', toks := tk } ∧ Fr h₀ L h' m ∧ News h₀ L h' news
theorem st_mono {M : Model} {A : Around} {t : Sem Flow} {E : Value → Shared → Prop} {s : Shared} {h₀ : Heap} {L : Addr} {m : Str → Option Value} {news : List (Addr × Obj)} {Q : Flow → Shared → Prop} (_F : Fr h₀ L s.heap m) (_N : News h₀ L s.heap news)
    (h : wpAny M A t (StPost h₀ L m news s) E s) (k : ∀ f s', StPost h₀ L m news s f s' → Q f s') : wpAny M A t Q E s := wpAny_mono h k fun _ _ e => e
noncomputable def ThPost (h₀ : Heap) (L : Addr) (m : Str → Option Value) (news : List (Addr × Obj)) (v : Int) (s : Shared) (f : Flow) (s' : Shared) : Prop :=
  f = .next ∧ ∃ h' tk t, s' = { s with heap := h', toks := tk } ∧ Fr h₀ L h' (fun y => if y = Str.ofString "third" then some (.int v t) else m y) ∧ News h₀ L h' news
theorem th_mono {M : Model} {A : Around} {t : Sem Flow} {E : Value → Shared → Prop} {s : Shared} {h₀ : Heap} {L : Addr} {m : Str → Option Value} {news : List (Addr × Obj)} {Q : Flow → Shared → Prop} (v : Int) (_F : Fr h₀ L s.heap m) (_N : News h₀ L s.heap news)
    (h : wpAny M A t (ThPost h₀ L m news v s) E s) (k : ∀ f s', ThPost h₀ L m news v s f s' → Q f s') : wpAny M A t Q E s := wpAny_mono h k fun _ _ e => e
theorem pick0 : kms_pick (#[] : Array Value).toList none (some 2) = [] := rfl
theorem pick1 (a : Value) : kms_pick ([a] : List Value).toArray.toList none (some 2) = [a] := rfl
theorem pick2 (a b : Value) (r : List Value) : kms_pick (a :: b :: r).toArray.toList none (some 2) = [a, b] := by
  unfold kms_pick kms_lo kms_hi
  simp only [if_neg (show ¬ ((2 : Int) < 0) by decide)]
  show ((a :: b :: r).drop 0).take (min (2 : Int).toNat (a :: b :: r).length - 0) = [a, b]
  rw [show min (2 : Int).toNat (a :: b :: r).length - 0 = 2 by simp only [List.length_cons]; omega]
  rfl
/- These names stand ahead of main so that the library, when it lays the head of main, finds the names of its twins taken and goes on without them: the twins of the written states are of no use to the proof and would make the compiled file larger than it may be. -/
theorem main.tw5038764109367625727 {p : Prop} (h : p) : p := h
theorem main.tw14672674291997333471 {p : Prop} (h : p) : p := h
theorem main.tw13355152605343272895 {p : Prop} (h : p) : p := h
theorem main.tw6162249291895867263 {p : Prop} (h : p) : p := h
theorem main.tw15491723280356408159 {p : Prop} (h : p) : p := h
theorem main.tw10231336680788121439 {p : Prop} (h : p) : p := h
theorem main.tw17057053908230417247 {p : Prop} (h : p) : p := h
theorem main.tw8989776476301544223 {p : Prop} (h : p) : p := h
theorem main.tw18287795668848337631 {p : Prop} (h : p) : p := h
theorem main.tw11712081513822626495 {p : Prop} (h : p) : p := h
theorem main.tw13227784636351994527 {p : Prop} (h : p) : p := h
theorem main.tw12134908399292295839 {p : Prop} (h : p) : p := h
theorem main.tw4126091431370883743 {p : Prop} (h : p) : p := h
theorem main.tw495442525896006271 {p : Prop} (h : p) : p := h
theorem main.tw15312040371321221727 {p : Prop} (h : p) : p := h
theorem main.tw3314904115985164895 {p : Prop} (h : p) : p := h
theorem main.tw12273490649430754879 {p : Prop} (h : p) : p := h
theorem main.tw18332899500509843999 {p : Prop} (h : p) : p := h
theorem main.tw13989496423458381343 {p : Prop} (h : p) : p := h
theorem main.tw9265829497004654079 {p : Prop} (h : p) : p := h
theorem main.tw17091655785135471103 {p : Prop} (h : p) : p := h
theorem main.tw14504180641510445567 {p : Prop} (h : p) : p := h
theorem main.tw221909299271738847 {p : Prop} (h : p) : p := h
theorem main.tw4948327476702027199 {p : Prop} (h : p) : p := h
theorem main.tw10939538800803721631 {p : Prop} (h : p) : p := h
theorem main.tw18234761425742761375 {p : Prop} (h : p) : p := h
theorem main.tw13187166440333854079 {p : Prop} (h : p) : p := h
theorem main.tw7293298908176781663 {p : Prop} (h : p) : p := h
theorem main.tw7332330508316399935 {p : Prop} (h : p) : p := h
theorem main.tw9067231828042526015 {p : Prop} (h : p) : p := h
theorem main.tw3731879374237491455 {p : Prop} (h : p) : p := h
theorem main.tw2704602940660078815 {p : Prop} (h : p) : p := h
theorem main.tw5268168578311729375 {p : Prop} (h : p) : p := h
theorem main.tw16235428439501865183 {p : Prop} (h : p) : p := h
theorem main.tw6512923179152221375 {p : Prop} (h : p) : p := h
theorem main.tw5106512470501171327 {p : Prop} (h : p) : p := h
theorem main.tw11544348965984651327 {p : Prop} (h : p) : p := h
theorem main.tw6898400011967081535 {p : Prop} (h : p) : p := h
theorem main.tw15806524323241146399 {p : Prop} (h : p) : p := h
theorem main.tw3299218664060906527 {p : Prop} (h : p) : p := h
theorem main.tw7554534293552944094 {p : Prop} (h : p) : p := h
theorem main.tw14368271195830560734 {p : Prop} (h : p) : p := h
theorem main.tw8079908401900000222 {p : Prop} (h : p) : p := h
theorem main.tw1121519763818294206 {p : Prop} (h : p) : p := h
theorem main.tw6361450105264607166 {p : Prop} (h : p) : p := h
theorem main.tw11221353774195762014 {p : Prop} (h : p) : p := h
theorem main.tw14699326698120687454 {p : Prop} (h : p) : p := h
theorem main.tw1236483940969888574 {p : Prop} (h : p) : p := h
theorem main.tw8006537069960932158 {p : Prop} (h : p) : p := h
theorem main.tw8394416109485655870 {p : Prop} (h : p) : p := h
theorem main.tw5623159541915647742 {p : Prop} (h : p) : p := h
theorem main.tw12543713266681445118 {p : Prop} (h : p) : p := h
theorem main.tw10554957952762445534 {p : Prop} (h : p) : p := h
theorem main.tw12574995316784493246 {p : Prop} (h : p) : p := h
theorem main.tw8427638858588021438 {p : Prop} (h : p) : p := h
theorem main.tw8492455212021363390 {p : Prop} (h : p) : p := h
theorem main.tw12023146180999706270 {p : Prop} (h : p) : p := h
theorem main.tw12361340156312767134 {p : Prop} (h : p) : p := h
theorem main.tw6124416833075167902 {p : Prop} (h : p) : p := h
theorem main.tw15949526494057022110 {p : Prop} (h : p) : p := h
theorem main.tw10876375607700338302 {p : Prop} (h : p) : p := h
theorem main.tw7701450462656399998 {p : Prop} (h : p) : p := h
theorem main.tw9563168847844234846 {p : Prop} (h : p) : p := h
theorem main.tw2759098988195820126 {p : Prop} (h : p) : p := h
theorem main.tw13270728482189477470 {p : Prop} (h : p) : p := h
theorem main.tw17600866488970185278 {p : Prop} (h : p) : p := h
theorem main.tw17336282652733537790 {p : Prop} (h : p) : p := h
theorem main.tw4385281892830598654 {p : Prop} (h : p) : p := h
theorem main.tw308427716283879934 {p : Prop} (h : p) : p := h
theorem main.tw12751799325998411230 {p : Prop} (h : p) : p := h
theorem main.tw18418235949754561950 {p : Prop} (h : p) : p := h
theorem main.tw11399646045708457374 {p : Prop} (h : p) : p := h
theorem main.tw15060185592220127646 {p : Prop} (h : p) : p := h
theorem main.tw3544752959273917758 {p : Prop} (h : p) : p := h
theorem main.tw17280665378484479262 {p : Prop} (h : p) : p := h
theorem main.tw18425317256667529438 {p : Prop} (h : p) : p := h
theorem main.tw4333880214566435006 {p : Prop} (h : p) : p := h
theorem main.tw7054876372555587774 {p : Prop} (h : p) : p := h
theorem main.tw6418098437765475518 {p : Prop} (h : p) : p := h
theorem main.tw7623511443260959870 {p : Prop} (h : p) : p := h
theorem main.tw3374421720907634814 {p : Prop} (h : p) : p := h
theorem main.tw9668287257029764190 {p : Prop} (h : p) : p := h
theorem main.tw17128291446047057950 {p : Prop} (h : p) : p := h
theorem main.tw14788915703135433725 {p : Prop} (h : p) : p := h
theorem main.tw12741915089075350525 {p : Prop} (h : p) : p := h
theorem main.tw6660377722381337597 {p : Prop} (h : p) : p := h
theorem main.tw9693634834776466397 {p : Prop} (h : p) : p := h
theorem main.tw3343439749351644125 {p : Prop} (h : p) : p := h
theorem main.tw3005481590069690301 {p : Prop} (h : p) : p := h
theorem main.tw14640416626631428029 {p : Prop} (h : p) : p := h
theorem main.tw7761410557224570781 {p : Prop} (h : p) : p := h
theorem main.tw12338497608069007261 {p : Prop} (h : p) : p := h
theorem main.tw15485851114877660061 {p : Prop} (h : p) : p := h
theorem main.tw1259162542039736189 {p : Prop} (h : p) : p := h
theorem main.tw7560665506337697597 {p : Prop} (h : p) : p := h
theorem main.tw6914184659022975773 {p : Prop} (h : p) : p := h
theorem main.tw2815835355862285053 {p : Prop} (h : p) : p := h
theorem main.tw5838101520590548733 {p : Prop} (h : p) : p := h
theorem main.tw12927740378394474205 {p : Prop} (h : p) : p := h
theorem main.tw12130321265151566525 {p : Prop} (h : p) : p := h
theorem main.tw7624122152786673341 {p : Prop} (h : p) : p := h
theorem main.tw16676564476587882173 {p : Prop} (h : p) : p := h
theorem main.tw3864431920445960829 {p : Prop} (h : p) : p := h
theorem main.tw896017019891655293 {p : Prop} (h : p) : p := h
theorem main.tw9558744834307401277 {p : Prop} (h : p) : p := h
theorem main.tw16480584520131690045 {p : Prop} (h : p) : p := h
theorem main.tw3724484323120607773 {p : Prop} (h : p) : p := h
theorem main.tw6246033870358800893 {p : Prop} (h : p) : p := h
theorem main.tw9880953963774564861 {p : Prop} (h : p) : p := h
theorem main.tw440032029612755421 {p : Prop} (h : p) : p := h
theorem main.tw12969668354314190301 {p : Prop} (h : p) : p := h
theorem main.tw15356762974548107741 {p : Prop} (h : p) : p := h
theorem main.tw6582852498587848125 {p : Prop} (h : p) : p := h
theorem main.tw2599750674813586877 {p : Prop} (h : p) : p := h
theorem main.tw5606335509386194333 {p : Prop} (h : p) : p := h
theorem main.tw9747897558166968733 {p : Prop} (h : p) : p := h
theorem main.tw15326346284793698685 {p : Prop} (h : p) : p := h
theorem main.tw9264652385812556125 {p : Prop} (h : p) : p := h
theorem main.tw12681957500809781501 {p : Prop} (h : p) : p := h
theorem main.tw13116522157475607773 {p : Prop} (h : p) : p := h
theorem main.tw8344883900605922461 {p : Prop} (h : p) : p := h
theorem main.tw6112859857366181021 {p : Prop} (h : p) : p := h
theorem main.tw3958507339218470045 {p : Prop} (h : p) : p := h
theorem main.tw4766233809647381661 {p : Prop} (h : p) : p := h
theorem main.tw4917070330192852093 {p : Prop} (h : p) : p := h
theorem main.tw14027531716089632829 {p : Prop} (h : p) : p := h
theorem main.tw9321267617633783869 {p : Prop} (h : p) : p := h
theorem main.tw4210618832060959676 {p : Prop} (h : p) : p := h
theorem main.tw16962576782160293788 {p : Prop} (h : p) : p := h
theorem main.tw14439473939278146460 {p : Prop} (h : p) : p := h
theorem main.tw5649967823195072380 {p : Prop} (h : p) : p := h
theorem main.tw796168687070700412 {p : Prop} (h : p) : p := h
theorem main.tw6394338452064613244 {p : Prop} (h : p) : p := h
theorem main.tw11273777480241942364 {p : Prop} (h : p) : p := h
theorem main.tw432790634136133436 {p : Prop} (h : p) : p := h
theorem main.tw9155575984036265788 {p : Prop} (h : p) : p := h
theorem main.tw10186938856007831324 {p : Prop} (h : p) : p := h
theorem main.tw11548542833958708988 {p : Prop} (h : p) : p := h
theorem main.tw14080665800827857628 {p : Prop} (h : p) : p := h
theorem main.tw302440914744352476 {p : Prop} (h : p) : p := h
theorem main.tw14859100970857779836 {p : Prop} (h : p) : p := h
theorem main.tw17920292393507637884 {p : Prop} (h : p) : p := h
theorem main.tw11251407683458634364 {p : Prop} (h : p) : p := h
theorem main.tw1840948754752181852 {p : Prop} (h : p) : p := h
theorem main.tw2021556316718937628 {p : Prop} (h : p) : p := h
theorem main.tw5571399437266216444 {p : Prop} (h : p) : p := h
theorem main.tw2406621943657119228 {p : Prop} (h : p) : p := h
theorem main.tw8060562821785662972 {p : Prop} (h : p) : p := h
theorem main.tw6183352029847204284 {p : Prop} (h : p) : p := h
theorem main.tw1253437644075932092 {p : Prop} (h : p) : p := h
theorem main.tw11904941031934877020 {p : Prop} (h : p) : p := h
theorem main.tw16057503054469045564 {p : Prop} (h : p) : p := h
theorem main.tw13154001654789283132 {p : Prop} (h : p) : p := h
theorem main.tw16305672181175384284 {p : Prop} (h : p) : p := h
theorem main.tw4310270188432123100 {p : Prop} (h : p) : p := h
theorem main.tw16778611742570070204 {p : Prop} (h : p) : p := h
theorem main.tw14721343552236136636 {p : Prop} (h : p) : p := h
theorem main.tw16551855485269240956 {p : Prop} (h : p) : p := h
theorem main.tw12900284412222446716 {p : Prop} (h : p) : p := h
theorem main.tw9942282790977331292 {p : Prop} (h : p) : p := h
theorem main.tw4886955015573163100 {p : Prop} (h : p) : p := h
theorem main.tw9303439499767911484 {p : Prop} (h : p) : p := h
theorem main.tw3911810758690780188 {p : Prop} (h : p) : p := h
theorem main.tw1098248734344127483 {p : Prop} (h : p) : p := h
theorem main.tw2261811237465622523 {p : Prop} (h : p) : p := h
theorem main.tw9939699701984659387 {p : Prop} (h : p) : p := h
theorem main.tw10204856939554784155 {p : Prop} (h : p) : p := h
theorem main.tw4492577900981701499 {p : Prop} (h : p) : p := h
theorem main.tw17223442867436993403 {p : Prop} (h : p) : p := h
theorem main.tw17695171507069755227 {p : Prop} (h : p) : p := h
theorem main.tw1548279923187021627 {p : Prop} (h : p) : p := h
theorem main.tw6106196091520820027 {p : Prop} (h : p) : p := h
theorem main.tw8546124895413445307 {p : Prop} (h : p) : p := h
theorem main.tw15098031235356848795 {p : Prop} (h : p) : p := h
theorem main.tw10453263994017694363 {p : Prop} (h : p) : p := h
theorem main.tw1590763530083325563 {p : Prop} (h : p) : p := h
theorem main.tw6590341273101898363 {p : Prop} (h : p) : p := h
theorem main.tw3491332818749588091 {p : Prop} (h : p) : p := h
theorem main.tw2354262462317623899 {p : Prop} (h : p) : p := h
theorem main.tw8883465813499100731 {p : Prop} (h : p) : p := h
theorem main.tw15446329576048744955 {p : Prop} (h : p) : p := h
theorem main.tw5865035375444044283 {p : Prop} (h : p) : p := h
theorem main.tw16035907590883218939 {p : Prop} (h : p) : p := h
theorem main.tw2399826469436781019 {p : Prop} (h : p) : p := h
theorem main.tw11213863890663495067 {p : Prop} (h : p) : p := h
theorem main.tw17413806152003534235 {p : Prop} (h : p) : p := h
theorem main.tw6741292078354696603 {p : Prop} (h : p) : p := h
theorem main.tw13194694976546938235 {p : Prop} (h : p) : p := h
theorem main.tw3583811862363856187 {p : Prop} (h : p) : p := h
theorem main.tw17353955331779342651 {p : Prop} (h : p) : p := h
theorem main.tw2373237607127697691 {p : Prop} (h : p) : p := h
theorem main.tw11707585526205722907 {p : Prop} (h : p) : p := h
theorem main.tw4540862073306924251 {p : Prop} (h : p) : p := h
theorem main.tw5473700226181020891 {p : Prop} (h : p) : p := h
theorem main.tw2068819091333853403 {p : Prop} (h : p) : p := h
theorem main.tw15465920861327815835 {p : Prop} (h : p) : p := h
theorem main.tw4966469486753893531 {p : Prop} (h : p) : p := h
theorem main.tw17144978775634262171 {p : Prop} (h : p) : p := h
theorem main.tw6222487380544312443 {p : Prop} (h : p) : p := h
theorem main.tw16923884221124529275 {p : Prop} (h : p) : p := h
theorem main.tw16891041157754790011 {p : Prop} (h : p) : p := h
theorem main.tw12431561837914552411 {p : Prop} (h : p) : p := h
theorem main.tw12922898485456448571 {p : Prop} (h : p) : p := h
theorem main.tw15803610866087392283 {p : Prop} (h : p) : p := h
theorem main.tw16008457594558532635 {p : Prop} (h : p) : p := h
theorem main.tw13803360072150633466 {p : Prop} (h : p) : p := h
theorem main.tw3554760562371715034 {p : Prop} (h : p) : p := h
theorem main.tw1606137496264982490 {p : Prop} (h : p) : p := h
theorem main.tw1827765177636990938 {p : Prop} (h : p) : p := h
theorem main.tw8903568455446660058 {p : Prop} (h : p) : p := h
theorem main.tw14014001219877531578 {p : Prop} (h : p) : p := h
theorem main.tw10987386120367425466 {p : Prop} (h : p) : p := h
theorem main.tw11670399090076514202 {p : Prop} (h : p) : p := h
theorem main.tw16022572192331126682 {p : Prop} (h : p) : p := h
theorem main.tw13713940216889387898 {p : Prop} (h : p) : p := h
theorem main.tw9515011664573035354 {p : Prop} (h : p) : p := h
theorem main.tw14457758005677747962 {p : Prop} (h : p) : p := h
theorem main.tw6519269512792494810 {p : Prop} (h : p) : p := h
theorem main.tw1707505545463187130 {p : Prop} (h : p) : p := h
theorem main.tw48596604365144762 {p : Prop} (h : p) : p := h
theorem main.tw1118068078248606362 {p : Prop} (h : p) : p := h
theorem main.tw66260789543402106 {p : Prop} (h : p) : p := h
theorem main.tw9131807755668617818 {p : Prop} (h : p) : p := h
theorem main.tw17734603463515337306 {p : Prop} (h : p) : p := h
theorem main.tw716429049611869786 {p : Prop} (h : p) : p := h
theorem main.tw15062679425460387418 {p : Prop} (h : p) : p := h
theorem main.tw4839478117068044826 {p : Prop} (h : p) : p := h
theorem main.tw3934531018447913466 {p : Prop} (h : p) : p := h
theorem main.tw6886502059237256666 {p : Prop} (h : p) : p := h
theorem main.tw12646911602827044314 {p : Prop} (h : p) : p := h
theorem main.tw6655696309031964122 {p : Prop} (h : p) : p := h
theorem main.tw13219505800766818778 {p : Prop} (h : p) : p := h
theorem main.tw9482835179454861754 {p : Prop} (h : p) : p := h
theorem main.tw5995161000843957690 {p : Prop} (h : p) : p := h
theorem main.tw16026775910206950810 {p : Prop} (h : p) : p := h
theorem main.tw7590696779544312186 {p : Prop} (h : p) : p := h
theorem main.tw14713023043418418522 {p : Prop} (h : p) : p := h
theorem main.tw656089360051881306 {p : Prop} (h : p) : p := h
theorem main.tw7165207203227711834 {p : Prop} (h : p) : p := h
theorem main.tw5665735395497279834 {p : Prop} (h : p) : p := h
theorem main.tw12450111651097656602 {p : Prop} (h : p) : p := h
theorem main.tw10642606787283503386 {p : Prop} (h : p) : p := h
theorem main.tw5102715291955495162 {p : Prop} (h : p) : p := h
theorem main.tw765107192605250810 {p : Prop} (h : p) : p := h
theorem main.tw9658885295015712986 {p : Prop} (h : p) : p := h
theorem main.tw1545906260438175962 {p : Prop} (h : p) : p := h
theorem main.tw1255815211270559930 {p : Prop} (h : p) : p := h
theorem main.tw7647378279178456250 {p : Prop} (h : p) : p := h
theorem main.tw10003221463802097818 {p : Prop} (h : p) : p := h
theorem main.tw8952462522180670554 {p : Prop} (h : p) : p := h
theorem main.tw7173623326730630234 {p : Prop} (h : p) : p := h
theorem main.tw3078062877239007290 {p : Prop} (h : p) : p := h
theorem main.tw2724176850512262202 {p : Prop} (h : p) : p := h
theorem main.tw13914785722749861914 {p : Prop} (h : p) : p := h
theorem main.tw10044588960856096794 {p : Prop} (h : p) : p := h
theorem main.tw10474107093616326617 {p : Prop} (h : p) : p := h
theorem main.tw7019240024125815769 {p : Prop} (h : p) : p := h
theorem main.tw10298723112805639129 {p : Prop} (h : p) : p := h
theorem main.tw4977165927707633593 {p : Prop} (h : p) : p := h
theorem main.tw1552421926411342777 {p : Prop} (h : p) : p := h
theorem main.tw3422715526262721465 {p : Prop} (h : p) : p := h
theorem main.tw9211707205177423737 {p : Prop} (h : p) : p := h
theorem main.tw5460091804258272057 {p : Prop} (h : p) : p := h
theorem main.tw17431719831054627609 {p : Prop} (h : p) : p := h
theorem main.tw2337230598321646361 {p : Prop} (h : p) : p := h
theorem main.tw16452447596832230105 {p : Prop} (h : p) : p := h
theorem main.tw11487549891475536569 {p : Prop} (h : p) : p := h
theorem main.tw7943094425149488825 {p : Prop} (h : p) : p := h
theorem main.tw12741544251441588921 {p : Prop} (h : p) : p := h
theorem main.tw15810667371194948217 {p : Prop} (h : p) : p := h
theorem main.tw4924694640843408985 {p : Prop} (h : p) : p := h
theorem main.tw13110970153573199417 {p : Prop} (h : p) : p := h
theorem main.tw16046730324260685337 {p : Prop} (h : p) : p := h
theorem main.tw7483713754202142201 {p : Prop} (h : p) : p := h
theorem main.tw15565075772751903193 {p : Prop} (h : p) : p := h
theorem main.tw14793117695081215449 {p : Prop} (h : p) : p := h
theorem main.tw4800332088761170393 {p : Prop} (h : p) : p := h
theorem main.tw962193829226610041 {p : Prop} (h : p) : p := h
theorem main.tw15023316991559800185 {p : Prop} (h : p) : p := h
theorem main.tw9247501659233101145 {p : Prop} (h : p) : p := h
theorem main.tw10455743928339290457 {p : Prop} (h : p) : p := h
theorem main.tw3609762217373132089 {p : Prop} (h : p) : p := h
theorem main.tw16989488325979979065 {p : Prop} (h : p) : p := h
theorem main.tw11531331273489700057 {p : Prop} (h : p) : p := h
theorem main.tw17445186720391901401 {p : Prop} (h : p) : p := h
theorem main.tw10876229203375891673 {p : Prop} (h : p) : p := h
theorem main.tw15984706205718930553 {p : Prop} (h : p) : p := h
theorem main.tw15087427406127887449 {p : Prop} (h : p) : p := h
theorem main.tw8440099810896429113 {p : Prop} (h : p) : p := h
theorem main.tw9369988214560726041 {p : Prop} (h : p) : p := h
theorem main.tw11815829001073249272 {p : Prop} (h : p) : p := h
theorem main.tw16922381011570985944 {p : Prop} (h : p) : p := h
theorem main.tw7624293977416268664 {p : Prop} (h : p) : p := h
theorem main.tw11692516046256081784 {p : Prop} (h : p) : p := h
theorem main.tw2672093188730551128 {p : Prop} (h : p) : p := h
theorem main.tw3651295723282942808 {p : Prop} (h : p) : p := h
theorem main.tw15225127925928830808 {p : Prop} (h : p) : p := h
theorem main.tw2744014450722944760 {p : Prop} (h : p) : p := h
theorem main.tw9848185148710128376 {p : Prop} (h : p) : p := h
theorem main.tw12106859168716417752 {p : Prop} (h : p) : p := h
theorem main.tw11183452524601008856 {p : Prop} (h : p) : p := h
theorem main.tw16098250325252768472 {p : Prop} (h : p) : p := h
theorem main.tw13626721169425172152 {p : Prop} (h : p) : p := h
theorem main.tw9293455121233016472 {p : Prop} (h : p) : p := h
theorem main.tw17236958762192778904 {p : Prop} (h : p) : p := h
theorem main.tw4644634924443464280 {p : Prop} (h : p) : p := h
theorem main.tw1409966394225722968 {p : Prop} (h : p) : p := h
theorem main.tw5839530249802149432 {p : Prop} (h : p) : p := h
theorem main.tw10737556833816505880 {p : Prop} (h : p) : p := h
theorem main.tw2022962002417519128 {p : Prop} (h : p) : p := h
theorem main.tw645136716886899192 {p : Prop} (h : p) : p := h
theorem main.tw6283666216762299864 {p : Prop} (h : p) : p := h
theorem main.tw13689083923384677848 {p : Prop} (h : p) : p := h
theorem main.tw17684480571264902616 {p : Prop} (h : p) : p := h
theorem main.tw11041547156204584376 {p : Prop} (h : p) : p := h
theorem main.tw14136325212780177784 {p : Prop} (h : p) : p := h
theorem main.tw10963309281646881144 {p : Prop} (h : p) : p := h
theorem main.tw17110241357884498264 {p : Prop} (h : p) : p := h
theorem main.tw1157997071576566072 {p : Prop} (h : p) : p := h
theorem main.tw17067035981215421688 {p : Prop} (h : p) : p := h
theorem main.tw7530017696762252536 {p : Prop} (h : p) : p := h
theorem main.tw5102693214775723256 {p : Prop} (h : p) : p := h
theorem main.tw15282798724139172088 {p : Prop} (h : p) : p := h
theorem main.tw7472237861779093752 {p : Prop} (h : p) : p := h
theorem main.tw6254453501864316152 {p : Prop} (h : p) : p := h
theorem main.tw1531012537173254328 {p : Prop} (h : p) : p := h
theorem main.tw10825838108423173272 {p : Prop} (h : p) : p := h
theorem main.tw2433702464844828792 {p : Prop} (h : p) : p := h
theorem main.tw10225356144477167704 {p : Prop} (h : p) : p := h
theorem main.tw16641786646906312760 {p : Prop} (h : p) : p := h
theorem main.tw15580989882048331800 {p : Prop} (h : p) : p := h
theorem main.tw10877679251791092727 {p : Prop} (h : p) : p := h
theorem main.tw15342904991969174519 {p : Prop} (h : p) : p := h
theorem main.tw6862492499505807319 {p : Prop} (h : p) : p := h
theorem main.tw3351348548013738967 {p : Prop} (h : p) : p := h
theorem main.tw1198661942849946583 {p : Prop} (h : p) : p := h
theorem main.tw11469148683815294839 {p : Prop} (h : p) : p := h
theorem main.tw2442105787152858967 {p : Prop} (h : p) : p := h
theorem main.tw6981580820607432535 {p : Prop} (h : p) : p := h
theorem main.tw9994787619460420439 {p : Prop} (h : p) : p := h
theorem main.tw5396361742852586263 {p : Prop} (h : p) : p := h
theorem main.tw2921621734765799159 {p : Prop} (h : p) : p := h
theorem main.tw2895952525429962455 {p : Prop} (h : p) : p := h
theorem main.tw5517759331935216279 {p : Prop} (h : p) : p := h
theorem main.tw18325589031809861271 {p : Prop} (h : p) : p := h
theorem main.tw7394006948641179287 {p : Prop} (h : p) : p := h
theorem main.tw18063282731904131703 {p : Prop} (h : p) : p := h
theorem main.tw18218335207050127959 {p : Prop} (h : p) : p := h
theorem main.tw1216228984421328439 {p : Prop} (h : p) : p := h
theorem main.tw5401703158475992631 {p : Prop} (h : p) : p := h
theorem main.tw8834365191522931223 {p : Prop} (h : p) : p := h
theorem main.tw1645717771770832407 {p : Prop} (h : p) : p := h
theorem main.tw7974275031393228247 {p : Prop} (h : p) : p := h
theorem main.tw14106445559736802775 {p : Prop} (h : p) : p := h
theorem main.tw6596593509180878263 {p : Prop} (h : p) : p := h
theorem main.tw8652556701797213591 {p : Prop} (h : p) : p := h
theorem main.tw7380652910202371479 {p : Prop} (h : p) : p := h
theorem main.tw18385570937342765463 {p : Prop} (h : p) : p := h
theorem main.tw1150287232629052791 {p : Prop} (h : p) : p := h
theorem main.tw17453503289922162039 {p : Prop} (h : p) : p := h
theorem main.tw7074144079889050967 {p : Prop} (h : p) : p := h
theorem main.tw14327529596952217943 {p : Prop} (h : p) : p := h
theorem main.tw785246043732427063 {p : Prop} (h : p) : p := h
theorem main.tw2238316416991798583 {p : Prop} (h : p) : p := h
theorem main.tw10821422270917381399 {p : Prop} (h : p) : p := h
theorem main.tw6663778134991626487 {p : Prop} (h : p) : p := h
theorem main.tw2136821422063795447 {p : Prop} (h : p) : p := h
theorem main.tw7297187181890747607 {p : Prop} (h : p) : p := h
theorem main.tw16128220689672181975 {p : Prop} (h : p) : p := h
theorem main.tw16790050636404226231 {p : Prop} (h : p) : p := h
theorem main.tw496732070673839287 {p : Prop} (h : p) : p := h
theorem main.tw8281396171620568247 {p : Prop} (h : p) : p := h
theorem main.tw15510692781650021527 {p : Prop} (h : p) : p := h
theorem main.tw1610520696219057239 {p : Prop} (h : p) : p := h
theorem main.tw16832360635688203351 {p : Prop} (h : p) : p := h
theorem main.tw4403422008829781079 {p : Prop} (h : p) : p := h
theorem main.tw18328743936084910167 {p : Prop} (h : p) : p := h
theorem main.tw4193505271845495863 {p : Prop} (h : p) : p := h
theorem main.tw2190695567426971638 {p : Prop} (h : p) : p := h
theorem main.tw11388154006635350966 {p : Prop} (h : p) : p := h
theorem main.tw4026956272090484662 {p : Prop} (h : p) : p := h
theorem main.tw11129844816282181526 {p : Prop} (h : p) : p := h
theorem main.tw710736813940856726 {p : Prop} (h : p) : p := h
theorem main.tw16320729459185622934 {p : Prop} (h : p) : p := h
theorem main.tw3549514262204291990 {p : Prop} (h : p) : p := h
theorem main.tw1850612553970854742 {p : Prop} (h : p) : p := h
theorem main.tw14966384500751655702 {p : Prop} (h : p) : p := h
theorem main.tw15556330048392946422 {p : Prop} (h : p) : p := h
theorem main.tw5534937755968359062 {p : Prop} (h : p) : p := h
theorem main.tw16396084126727719574 {p : Prop} (h : p) : p := h
theorem main.tw7884331609784382070 {p : Prop} (h : p) : p := h
theorem main.tw12867379429370454646 {p : Prop} (h : p) : p := h
theorem main.tw10101900104965146230 {p : Prop} (h : p) : p := h
theorem main.tw17864028415675338326 {p : Prop} (h : p) : p := h
theorem main.tw14805756002866571830 {p : Prop} (h : p) : p := h
theorem main.tw3486660061925241366 {p : Prop} (h : p) : p := h
theorem main.tw7238065321881607702 {p : Prop} (h : p) : p := h
theorem main.tw13590572293223372214 {p : Prop} (h : p) : p := h
theorem main.tw3848698983108048278 {p : Prop} (h : p) : p := h
theorem main.tw17904854198161793398 {p : Prop} (h : p) : p := h
theorem main.tw9392487213469676918 {p : Prop} (h : p) : p := h
theorem main.tw4719957520787936630 {p : Prop} (h : p) : p := h
theorem main.tw13514204307011423542 {p : Prop} (h : p) : p := h
theorem main.tw9561784451562097942 {p : Prop} (h : p) : p := h
theorem main.tw14061640607465278742 {p : Prop} (h : p) : p := h
theorem main.tw6904022412929994966 {p : Prop} (h : p) : p := h
theorem main.tw14492832472218066102 {p : Prop} (h : p) : p := h
theorem main.tw6674893403203295414 {p : Prop} (h : p) : p := h
theorem main.tw15554039934745177238 {p : Prop} (h : p) : p := h
theorem main.tw17298425922696826006 {p : Prop} (h : p) : p := h
theorem main.tw8557395850702784662 {p : Prop} (h : p) : p := h
theorem main.tw2173562974560187446 {p : Prop} (h : p) : p := h
theorem main.tw12205347405646519318 {p : Prop} (h : p) : p := h
theorem main.tw18344032359734412310 {p : Prop} (h : p) : p := h
theorem main.tw9287587430799945685 {p : Prop} (h : p) : p := h
theorem main.tw2583023086579268501 {p : Prop} (h : p) : p := h
theorem main.tw15371371512377873269 {p : Prop} (h : p) : p := h
theorem main.tw10159738436595150677 {p : Prop} (h : p) : p := h
theorem main.tw3137596982192898869 {p : Prop} (h : p) : p := h
theorem main.tw4113755845371447061 {p : Prop} (h : p) : p := h
theorem main.tw15425874342098770709 {p : Prop} (h : p) : p := h
theorem main.tw9009144486520063765 {p : Prop} (h : p) : p := h
theorem main.tw10363585996791799541 {p : Prop} (h : p) : p := h
theorem main.tw2794983428953441941 {p : Prop} (h : p) : p := h
theorem main.tw13293747886898857621 {p : Prop} (h : p) : p := h
theorem main.tw3454311308915712629 {p : Prop} (h : p) : p := h
theorem main.tw5363903885879670357 {p : Prop} (h : p) : p := h
theorem main.tw1075715825243056693 {p : Prop} (h : p) : p := h
theorem main.tw17232878180008095221 {p : Prop} (h : p) : p := h
theorem main.tw4887914996728235509 {p : Prop} (h : p) : p := h
theorem main.tw8732486101406053781 {p : Prop} (h : p) : p := h
theorem main.tw3136416535801588117 {p : Prop} (h : p) : p := h
theorem main.tw13724616953566380437 {p : Prop} (h : p) : p := h
theorem main.tw1486339892855113045 {p : Prop} (h : p) : p := h
theorem main.tw3027586509356016917 {p : Prop} (h : p) : p := h
theorem main.tw14535484193269619989 {p : Prop} (h : p) : p := h
theorem main.tw7591743695986301205 {p : Prop} (h : p) : p := h
theorem main.tw8436210846270712021 {p : Prop} (h : p) : p := h
theorem main.tw18442785490491869365 {p : Prop} (h : p) : p := h
theorem main.tw14722489848711283861 {p : Prop} (h : p) : p := h
theorem main.tw15928290008803537013 {p : Prop} (h : p) : p := h
theorem main.tw15684375888932747349 {p : Prop} (h : p) : p := h
theorem main.tw2341703837736514645 {p : Prop} (h : p) : p := h
theorem main.tw8844999433837080629 {p : Prop} (h : p) : p := h
theorem main.tw16863156106696720372 {p : Prop} (h : p) : p := h
theorem main.tw3288582142898991060 {p : Prop} (h : p) : p := h
theorem main.tw9189880136782149556 {p : Prop} (h : p) : p := h
theorem main.tw6584820252761975732 {p : Prop} (h : p) : p := h
theorem main.tw3464709057266567092 {p : Prop} (h : p) : p := h
theorem main.tw10896356407431480244 {p : Prop} (h : p) : p := h
theorem main.tw2195194259037543316 {p : Prop} (h : p) : p := h
theorem main.tw17025424565251489684 {p : Prop} (h : p) : p := h
theorem main.tw4026173324967665524 {p : Prop} (h : p) : p := h
theorem main.tw10864377008497418100 {p : Prop} (h : p) : p := h
theorem main.tw9467819958616349556 {p : Prop} (h : p) : p := h
theorem main.tw1519992759497675636 {p : Prop} (h : p) : p := h
theorem main.tw16218864148678617972 {p : Prop} (h : p) : p := h
theorem main.tw13572980719466306388 {p : Prop} (h : p) : p := h
theorem main.tw17958375852430007124 {p : Prop} (h : p) : p := h
theorem main.tw12870486517592710932 {p : Prop} (h : p) : p := h
theorem main.tw1615045767204293396 {p : Prop} (h : p) : p := h
theorem main.tw2821470743931037460 {p : Prop} (h : p) : p := h
theorem main.tw10242657825688863476 {p : Prop} (h : p) : p := h
theorem main.tw5461779845614304980 {p : Prop} (h : p) : p := h
theorem main.tw17675563975411571412 {p : Prop} (h : p) : p := h
theorem main.tw7010351842590255796 {p : Prop} (h : p) : p := h
theorem main.tw15540984915698410164 {p : Prop} (h : p) : p := h
theorem main.tw15788135083398108852 {p : Prop} (h : p) : p := h
theorem main.tw17128476026691140212 {p : Prop} (h : p) : p := h
theorem main.tw2629084897520917108 {p : Prop} (h : p) : p := h
theorem main.tw4554758830490901076 {p : Prop} (h : p) : p := h
theorem main.tw1496695287857109588 {p : Prop} (h : p) : p := h
theorem main.tw11735423636902730196 {p : Prop} (h : p) : p := h
theorem main.tw9483120023164983764 {p : Prop} (h : p) : p := h
theorem main.tw9184045479044318644 {p : Prop} (h : p) : p := h
theorem main.tw4894068254849221012 {p : Prop} (h : p) : p := h
theorem main.tw17561526911342447988 {p : Prop} (h : p) : p := h
theorem main.tw3160845607165458772 {p : Prop} (h : p) : p := h
theorem main.tw5378808338967829844 {p : Prop} (h : p) : p := h
theorem main.tw15270170921892066516 {p : Prop} (h : p) : p := h
theorem main.tw6862268138105152660 {p : Prop} (h : p) : p := h
theorem main.tw2796952317120133236 {p : Prop} (h : p) : p := h
theorem main.tw8627561154394265716 {p : Prop} (h : p) : p := h
theorem main.tw3532412968194664532 {p : Prop} (h : p) : p := h
theorem main.tw3867218068155391060 {p : Prop} (h : p) : p := h
theorem main.tw15660686498588105780 {p : Prop} (h : p) : p := h
theorem main.tw6868236387235032019 {p : Prop} (h : p) : p := h
theorem main.tw2524017781993486291 {p : Prop} (h : p) : p := h
theorem main.tw2287093442842179507 {p : Prop} (h : p) : p := h
theorem main.tw4216741518440994707 {p : Prop} (h : p) : p := h
theorem main.tw17016820405989369747 {p : Prop} (h : p) : p := h
theorem main.tw5585478044538960755 {p : Prop} (h : p) : p := h
theorem main.tw15845428651173386099 {p : Prop} (h : p) : p := h
theorem main.tw10665089971535097683 {p : Prop} (h : p) : p := h
theorem main.tw16755849432154420019 {p : Prop} (h : p) : p := h
theorem main.tw5890889631881817875 {p : Prop} (h : p) : p := h
theorem main.tw8207831470162742035 {p : Prop} (h : p) : p := h
theorem main.tw8928990268580360915 {p : Prop} (h : p) : p := h
theorem main.tw793299525264137939 {p : Prop} (h : p) : p := h
theorem main.tw1084114956928915155 {p : Prop} (h : p) : p := h
theorem main.tw5352104535322881683 {p : Prop} (h : p) : p := h
theorem main.tw9706551924872666739 {p : Prop} (h : p) : p := h
theorem main.tw13711685867348743795 {p : Prop} (h : p) : p := h
theorem main.tw8312829660672013939 {p : Prop} (h : p) : p := h
theorem main.tw7884273913378172499 {p : Prop} (h : p) : p := h
theorem main.tw1289389943133740499 {p : Prop} (h : p) : p := h
theorem main.tw6785657489111691699 {p : Prop} (h : p) : p := h
theorem main.tw10114013102757674387 {p : Prop} (h : p) : p := h
theorem main.tw4365514962571936147 {p : Prop} (h : p) : p := h
theorem main.tw2156145737304315219 {p : Prop} (h : p) : p := h
theorem main.tw5450094653865882931 {p : Prop} (h : p) : p := h
theorem main.tw11405101455947879731 {p : Prop} (h : p) : p := h
theorem main.tw16102231251864390963 {p : Prop} (h : p) : p := h
theorem main.tw8127475511531132179 {p : Prop} (h : p) : p := h
theorem main.tw2714283472998740243 {p : Prop} (h : p) : p := h
theorem main.tw16142765227538719955 {p : Prop} (h : p) : p := h
theorem main.tw17275675667316583603 {p : Prop} (h : p) : p := h
theorem main.tw4651154628705390771 {p : Prop} (h : p) : p := h
theorem main.tw6252391252262179987 {p : Prop} (h : p) : p := h
theorem main.tw12590340796369385619 {p : Prop} (h : p) : p := h
theorem main.tw6341409668436394099 {p : Prop} (h : p) : p := h
theorem main.tw17679725944135375923 {p : Prop} (h : p) : p := h
theorem main.tw13227692790652741651 {p : Prop} (h : p) : p := h
theorem main.tw10652611922669240339 {p : Prop} (h : p) : p := h
theorem main.tw11332626419695707122 {p : Prop} (h : p) : p := h
theorem main.tw1781223760143429554 {p : Prop} (h : p) : p := h
theorem main.tw14962632401376961426 {p : Prop} (h : p) : p := h
theorem main.tw8984930932524396370 {p : Prop} (h : p) : p := h
theorem main.tw5900072995565114194 {p : Prop} (h : p) : p := h
theorem main.tw9470667924834194258 {p : Prop} (h : p) : p := h
theorem main.tw7929128423345735474 {p : Prop} (h : p) : p := h
theorem main.tw2484414159333256978 {p : Prop} (h : p) : p := h
theorem main.tw6880717277089553138 {p : Prop} (h : p) : p := h
theorem main.tw12332102779922042578 {p : Prop} (h : p) : p := h
theorem main.tw15688281317961992914 {p : Prop} (h : p) : p := h
theorem main.tw7668756792840097458 {p : Prop} (h : p) : p := h
theorem main.tw10063615490667107986 {p : Prop} (h : p) : p := h
theorem main.tw14027650596787315314 {p : Prop} (h : p) : p := h
theorem main.tw11490900464029743698 {p : Prop} (h : p) : p := h
theorem main.tw4189750870438640210 {p : Prop} (h : p) : p := h
theorem main.tw17647351573629430322 {p : Prop} (h : p) : p := h
theorem main.tw4370652028205933106 {p : Prop} (h : p) : p := h
theorem main.tw14161465996007527954 {p : Prop} (h : p) : p := h
theorem main.tw9508770018378322450 {p : Prop} (h : p) : p := h
theorem main.tw14909365282108701170 {p : Prop} (h : p) : p := h
theorem main.tw13738235750113832370 {p : Prop} (h : p) : p := h
theorem main.tw918671981122897330 {p : Prop} (h : p) : p := h
theorem main.tw1179421589518002546 {p : Prop} (h : p) : p := h
theorem main.tw341453280667917650 {p : Prop} (h : p) : p := h
theorem main.tw3635900802997115186 {p : Prop} (h : p) : p := h
theorem main.tw12608185968620612914 {p : Prop} (h : p) : p := h
theorem main.tw13995172100960836882 {p : Prop} (h : p) : p := h
theorem main.tw16304157974115477746 {p : Prop} (h : p) : p := h
theorem main.tw5567732340971880690 {p : Prop} (h : p) : p := h
theorem main.tw5518243967957118194 {p : Prop} (h : p) : p := h
theorem main.tw11403970630465759474 {p : Prop} (h : p) : p := h
theorem main.tw11685015443652150514 {p : Prop} (h : p) : p := h
theorem main.tw14636892021812066514 {p : Prop} (h : p) : p := h
theorem main.tw11229075413691439314 {p : Prop} (h : p) : p := h
theorem main.tw12958428809211121842 {p : Prop} (h : p) : p := h
theorem main.tw11789403723227289746 {p : Prop} (h : p) : p := h
theorem main.tw16817993663026736274 {p : Prop} (h : p) : p := h
theorem main.tw587328917346081906 {p : Prop} (h : p) : p := h
theorem main.tw12690843524423533682 {p : Prop} (h : p) : p := h
theorem main.tw4812270449578504274 {p : Prop} (h : p) : p := h
theorem main.tw17767330081159143506 {p : Prop} (h : p) : p := h
theorem main.tw6642858168728409138 {p : Prop} (h : p) : p := h
theorem main.tw14112269089397522482 {p : Prop} (h : p) : p := h
theorem main.tw7093617532817203218 {p : Prop} (h : p) : p := h
theorem main.tw17028514697001254897 {p : Prop} (h : p) : p := h
theorem main.tw11120327062377616369 {p : Prop} (h : p) : p := h
theorem main.tw13934608090901567409 {p : Prop} (h : p) : p := h
theorem main.tw12885385263037960081 {p : Prop} (h : p) : p := h
theorem main.tw17147588175821073265 {p : Prop} (h : p) : p := h
theorem main.tw16338599768312175441 {p : Prop} (h : p) : p := h
theorem main.tw13503263706703578961 {p : Prop} (h : p) : p := h
theorem main.tw11967333016625521393 {p : Prop} (h : p) : p := h
theorem main.tw3960113756560652017 {p : Prop} (h : p) : p := h
theorem main.tw18392154025008590481 {p : Prop} (h : p) : p := h
theorem main.tw1429040668314091153 {p : Prop} (h : p) : p := h
theorem main.tw13980345723018547825 {p : Prop} (h : p) : p := h
theorem main.tw1355085073191494161 {p : Prop} (h : p) : p := h
theorem main.tw12839114828313443825 {p : Prop} (h : p) : p := h
theorem main.tw14235155234550121937 {p : Prop} (h : p) : p := h
theorem main.tw16251939892948500945 {p : Prop} (h : p) : p := h
theorem main.tw358491910552652209 {p : Prop} (h : p) : p := h
theorem main.tw2179619686303460721 {p : Prop} (h : p) : p := h
theorem main.tw14893090268090260817 {p : Prop} (h : p) : p := h
theorem main.tw9986019674649008433 {p : Prop} (h : p) : p := h
theorem main.tw5921134243170700561 {p : Prop} (h : p) : p := h
theorem main.tw10283388844273144081 {p : Prop} (h : p) : p := h
theorem main.tw6569515737239586001 {p : Prop} (h : p) : p := h
theorem main.tw6559806142732475569 {p : Prop} (h : p) : p := h
theorem main.tw2544328076492683441 {p : Prop} (h : p) : p := h
theorem main.tw10747446730583883921 {p : Prop} (h : p) : p := h
theorem main.tw13807522157400373393 {p : Prop} (h : p) : p := h
theorem main.tw15616401959046598769 {p : Prop} (h : p) : p := h
theorem main.tw452746233719593009 {p : Prop} (h : p) : p := h
theorem main.tw16572128252103988241 {p : Prop} (h : p) : p := h
theorem main.tw13667920496262714385 {p : Prop} (h : p) : p := h
theorem main.tw12343854547171428336 {p : Prop} (h : p) : p := h
theorem main.tw16008252555379753968 {p : Prop} (h : p) : p := h
theorem main.tw12564604832814323664 {p : Prop} (h : p) : p := h
theorem main.tw8651587035891514320 {p : Prop} (h : p) : p := h
theorem main.tw2653321512126949328 {p : Prop} (h : p) : p := h
theorem main.tw11614107205274993552 {p : Prop} (h : p) : p := h
theorem main.tw6542085627976250192 {p : Prop} (h : p) : p := h
theorem main.tw5871769198996169552 {p : Prop} (h : p) : p := h
theorem main.tw6897311013810396976 {p : Prop} (h : p) : p := h
theorem main.tw8905992674379837232 {p : Prop} (h : p) : p := h
theorem main.tw17118054049896295152 {p : Prop} (h : p) : p := h
theorem main.tw7904437144335635152 {p : Prop} (h : p) : p := h
theorem main.tw12942913107403878096 {p : Prop} (h : p) : p := h
theorem main.tw15649996292582860464 {p : Prop} (h : p) : p := h
theorem main.tw9608646114965807792 {p : Prop} (h : p) : p := h
theorem main.tw12748397558918655664 {p : Prop} (h : p) : p := h
theorem main.tw15432235134303409840 {p : Prop} (h : p) : p := h
theorem main.tw6768520987592691376 {p : Prop} (h : p) : p := h
theorem main.tw1092785777240315536 {p : Prop} (h : p) : p := h
theorem main.tw10219080375879083632 {p : Prop} (h : p) : p := h
theorem main.tw17974016328880235120 {p : Prop} (h : p) : p := h
theorem main.tw11933201153402537488 {p : Prop} (h : p) : p := h
theorem main.tw2702614204127132176 {p : Prop} (h : p) : p := h
theorem main.tw4926259647451002352 {p : Prop} (h : p) : p := h
theorem main.tw10825349956297869744 {p : Prop} (h : p) : p := h
theorem main.tw11218778669853930896 {p : Prop} (h : p) : p := h
theorem main.tw4681395471914393968 {p : Prop} (h : p) : p := h
theorem main.tw18190005008629794160 {p : Prop} (h : p) : p := h
theorem main.tw15734200111481486640 {p : Prop} (h : p) : p := h
theorem main.tw13260870731297125680 {p : Prop} (h : p) : p := h
theorem main.tw6565609875121592624 {p : Prop} (h : p) : p := h
theorem main.tw6877560268529008848 {p : Prop} (h : p) : p := h
theorem main.tw9805168224760091760 {p : Prop} (h : p) : p := h
theorem main.tw5418533224930618480 {p : Prop} (h : p) : p := h
theorem main.tw6072795283324543088 {p : Prop} (h : p) : p := h
theorem main.tw6437645805973890128 {p : Prop} (h : p) : p := h
theorem main.tw5477019107358212144 {p : Prop} (h : p) : p := h
theorem main.tw14798791472264738832 {p : Prop} (h : p) : p := h
theorem main.tw5400957986263281647 {p : Prop} (h : p) : p := h
theorem main.tw14554314840745968623 {p : Prop} (h : p) : p := h
theorem main.tw7514964652732493775 {p : Prop} (h : p) : p := h
theorem main.tw17725498274588495791 {p : Prop} (h : p) : p := h
theorem main.tw3485684062173492111 {p : Prop} (h : p) : p := h
theorem main.tw9964214247947446159 {p : Prop} (h : p) : p := h
theorem main.tw15461212566085484399 {p : Prop} (h : p) : p := h
theorem main.tw13180746182150919023 {p : Prop} (h : p) : p := h
theorem main.tw9458421452666605423 {p : Prop} (h : p) : p := h
theorem main.tw5289026146741335887 {p : Prop} (h : p) : p := h
theorem main.tw4350604851675314991 {p : Prop} (h : p) : p := h
theorem main.tw6696893160125735727 {p : Prop} (h : p) : p := h
theorem main.tw5303952258864922383 {p : Prop} (h : p) : p := h
theorem main.tw3332543467307319023 {p : Prop} (h : p) : p := h
theorem main.tw474381771622712015 {p : Prop} (h : p) : p := h
theorem main.tw3829396358689915599 {p : Prop} (h : p) : p := h
theorem main.tw1269329923203890863 {p : Prop} (h : p) : p := h
theorem main.tw7108953243070827183 {p : Prop} (h : p) : p := h
theorem main.tw17262041522474090127 {p : Prop} (h : p) : p := h
theorem main.tw13876859957761632879 {p : Prop} (h : p) : p := h
theorem main.tw4946776927847147119 {p : Prop} (h : p) : p := h
theorem main.tw10548918766592180815 {p : Prop} (h : p) : p := h
theorem main.tw10234815189450012239 {p : Prop} (h : p) : p := h
theorem main.tw9272984997812220495 {p : Prop} (h : p) : p := h
theorem main.tw9394770849952503311 {p : Prop} (h : p) : p := h
theorem main.tw17871620999419790863 {p : Prop} (h : p) : p := h
theorem main.tw4038928485795849711 {p : Prop} (h : p) : p := h
theorem main.tw3203809635103463919 {p : Prop} (h : p) : p := h
theorem main.tw17510229520200029679 {p : Prop} (h : p) : p := h
theorem main.tw11982392923317675503 {p : Prop} (h : p) : p := h
theorem main.tw17456035664235451855 {p : Prop} (h : p) : p := h
theorem main.tw12692632004510240207 {p : Prop} (h : p) : p := h
theorem main.tw7268301785047649679 {p : Prop} (h : p) : p := h
theorem main.tw15387884906608193903 {p : Prop} (h : p) : p := h
theorem main.tw526373878138232175 {p : Prop} (h : p) : p := h
theorem main.tw14637806741061077295 {p : Prop} (h : p) : p := h
theorem main.tw73751810991705359 {p : Prop} (h : p) : p := h
theorem main.tw8478376212529829071 {p : Prop} (h : p) : p := h
theorem main.tw5632948755005780175 {p : Prop} (h : p) : p := h
theorem main.tw18120430973489738927 {p : Prop} (h : p) : p := h
theorem main.tw17096532924672817327 {p : Prop} (h : p) : p := h
theorem main.tw2923286348875671695 {p : Prop} (h : p) : p := h
theorem main.tw13148611719377898607 {p : Prop} (h : p) : p := h
theorem main.tw9368617206455126095 {p : Prop} (h : p) : p := h
theorem main.tw4630824681090250767 {p : Prop} (h : p) : p := h
theorem main.tw18406820200293129166 {p : Prop} (h : p) : p := h
theorem main.tw1678875084529416142 {p : Prop} (h : p) : p := h
theorem main.tw8748973510418095054 {p : Prop} (h : p) : p := h
theorem main.tw14500621930108132270 {p : Prop} (h : p) : p := h
theorem main.tw3779293765908593550 {p : Prop} (h : p) : p := h
theorem main.tw5532463470591059822 {p : Prop} (h : p) : p := h
theorem main.tw17749094844149355310 {p : Prop} (h : p) : p := h
theorem main.tw6455149578367423246 {p : Prop} (h : p) : p := h
theorem main.tw13972245371655741198 {p : Prop} (h : p) : p := h
theorem main.tw13642826006792871662 {p : Prop} (h : p) : p := h
theorem main.tw7063012966373851854 {p : Prop} (h : p) : p := h
theorem main.tw983542388872702638 {p : Prop} (h : p) : p := h
theorem main.tw8249873531624179374 {p : Prop} (h : p) : p := h
theorem main.tw15244097889725654702 {p : Prop} (h : p) : p := h
theorem main.tw6564366825971848878 {p : Prop} (h : p) : p := h
theorem main.tw7276690615722977934 {p : Prop} (h : p) : p := h
theorem main.tw12667108692942931566 {p : Prop} (h : p) : p := h
theorem main.tw5127751686995613262 {p : Prop} (h : p) : p := h
theorem main.tw8565580760176719406 {p : Prop} (h : p) : p := h
theorem main.tw18046886581883190830 {p : Prop} (h : p) : p := h
theorem main.tw16026485685270457870 {p : Prop} (h : p) : p := h
theorem main.tw4650958065196391918 {p : Prop} (h : p) : p := h
theorem main.tw14925635105145352654 {p : Prop} (h : p) : p := h
theorem main.tw2019394398466159022 {p : Prop} (h : p) : p := h
theorem main.tw7332552209862256014 {p : Prop} (h : p) : p := h
theorem main.tw13974046611088194958 {p : Prop} (h : p) : p := h
theorem main.tw1826329307503635854 {p : Prop} (h : p) : p := h
theorem main.tw6912675738884088206 {p : Prop} (h : p) : p := h
theorem main.tw2847738043507502446 {p : Prop} (h : p) : p := h
theorem main.tw451873465583785326 {p : Prop} (h : p) : p := h
theorem main.tw3437493826131796334 {p : Prop} (h : p) : p := h
theorem main.tw2287757881348798766 {p : Prop} (h : p) : p := h
theorem main.tw979501456738626862 {p : Prop} (h : p) : p := h
theorem main.tw3562595001068472590 {p : Prop} (h : p) : p := h
theorem main.tw4409510580461579534 {p : Prop} (h : p) : p := h
theorem main.tw3459380146013217038 {p : Prop} (h : p) : p := h
theorem main.tw15643365686152983790 {p : Prop} (h : p) : p := h
theorem main.tw13965128551521907918 {p : Prop} (h : p) : p := h
theorem main.tw16959884160788844718 {p : Prop} (h : p) : p := h
theorem main.tw6570437773673931950 {p : Prop} (h : p) : p := h
theorem main.tw657867468410044558 {p : Prop} (h : p) : p := h
theorem main.tw6053611964639427726 {p : Prop} (h : p) : p := h
theorem main.tw13962693860625380366 {p : Prop} (h : p) : p := h
theorem main.tw9175052073728820173 {p : Prop} (h : p) : p := h
theorem main.tw5507402815253087181 {p : Prop} (h : p) : p := h
theorem main.tw4587069139193485165 {p : Prop} (h : p) : p := h
theorem main.tw8634654232796393261 {p : Prop} (h : p) : p := h
theorem main.tw1886080085820668685 {p : Prop} (h : p) : p := h
theorem main.tw10056485391180722925 {p : Prop} (h : p) : p := h
theorem main.tw13611986716879344365 {p : Prop} (h : p) : p := h
theorem main.tw15445229340043853549 {p : Prop} (h : p) : p := h
theorem main.tw18317609476662902477 {p : Prop} (h : p) : p := h
theorem main.tw10047389527955405517 {p : Prop} (h : p) : p := h
theorem main.tw1632041292262086317 {p : Prop} (h : p) : p := h
theorem main.tw8484041278411425421 {p : Prop} (h : p) : p := h
theorem main.tw17413556829735388813 {p : Prop} (h : p) : p := h
theorem main.tw8681388529863501421 {p : Prop} (h : p) : p := h
theorem main.tw6209493598595665485 {p : Prop} (h : p) : p := h
theorem main.tw17465928265306105389 {p : Prop} (h : p) : p := h
theorem main.tw13255245976751338989 {p : Prop} (h : p) : p := h
theorem main.tw13978478705568000493 {p : Prop} (h : p) : p := h
theorem main.tw5456330333991267789 {p : Prop} (h : p) : p := h
theorem main.tw4585930131862741453 {p : Prop} (h : p) : p := h
theorem main.tw16798207577519904205 {p : Prop} (h : p) : p := h
theorem main.tw9324701786144819629 {p : Prop} (h : p) : p := h
theorem main.tw7875838824674609581 {p : Prop} (h : p) : p := h
theorem main.tw11239335112260394413 {p : Prop} (h : p) : p := h
theorem main.tw14443092014599818573 {p : Prop} (h : p) : p := h
theorem main.tw5181119749688162637 {p : Prop} (h : p) : p := h
theorem main.tw3466206800631347469 {p : Prop} (h : p) : p := h
theorem main.tw854977524454699277 {p : Prop} (h : p) : p := h
theorem main.tw16274502184877008141 {p : Prop} (h : p) : p := h
theorem main.tw7221758910455160077 {p : Prop} (h : p) : p := h
theorem main.tw6384028539975533837 {p : Prop} (h : p) : p := h
theorem main.tw1800746815547063501 {p : Prop} (h : p) : p := h
theorem main.tw9381886862466946253 {p : Prop} (h : p) : p := h
theorem main.tw17298271098590275757 {p : Prop} (h : p) : p := h
theorem main.tw16332121612629036173 {p : Prop} (h : p) : p := h
theorem main.tw2542808073141276813 {p : Prop} (h : p) : p := h
theorem main.tw1191263595243908205 {p : Prop} (h : p) : p := h
theorem main.tw18134284020713443437 {p : Prop} (h : p) : p := h
theorem main.tw7186131708394509389 {p : Prop} (h : p) : p := h
theorem main.tw12093647306153771053 {p : Prop} (h : p) : p := h
theorem main.tw10813080517026676716 {p : Prop} (h : p) : p := h
theorem main.tw12582173479537470380 {p : Prop} (h : p) : p := h
theorem main.tw9730157408454304684 {p : Prop} (h : p) : p := h
theorem main.tw15595112118272840620 {p : Prop} (h : p) : p := h
theorem main.tw6690441779611380620 {p : Prop} (h : p) : p := h
theorem main.tw16097269412956081036 {p : Prop} (h : p) : p := h
theorem main.tw9811667543942387436 {p : Prop} (h : p) : p := h
theorem main.tw16357356043003861740 {p : Prop} (h : p) : p := h
theorem main.tw12530995576970511020 {p : Prop} (h : p) : p := h
theorem main.tw14313897822631088780 {p : Prop} (h : p) : p := h
theorem main.tw10985888656933367436 {p : Prop} (h : p) : p := h
theorem main.tw9274054859765456524 {p : Prop} (h : p) : p := h
theorem main.tw734625210370093676 {p : Prop} (h : p) : p := h
theorem main.tw12324921354453157484 {p : Prop} (h : p) : p := h
theorem main.tw3197156666308221516 {p : Prop} (h : p) : p := h
theorem main.tw14814594519894181452 {p : Prop} (h : p) : p := h
theorem main.tw10199874654664476236 {p : Prop} (h : p) : p := h
theorem main.tw14639212616227390028 {p : Prop} (h : p) : p := h
theorem main.tw8090509862211737132 {p : Prop} (h : p) : p := h
theorem main.tw17438294365789470252 {p : Prop} (h : p) : p := h
theorem main.tw7139307881021679148 {p : Prop} (h : p) : p := h
theorem main.tw3062356812957192748 {p : Prop} (h : p) : p := h
theorem main.tw8707812797481193996 {p : Prop} (h : p) : p := h
theorem main.tw1130211791997205004 {p : Prop} (h : p) : p := h
theorem main.tw9512817274939609580 {p : Prop} (h : p) : p := h
theorem main.tw18315214858253571532 {p : Prop} (h : p) : p := h
theorem main.tw15656275678258859468 {p : Prop} (h : p) : p := h
theorem main.tw13591255225166038476 {p : Prop} (h : p) : p := h
theorem main.tw1318968915056948652 {p : Prop} (h : p) : p := h
theorem main.tw9389665374557996460 {p : Prop} (h : p) : p := h
theorem main.tw12941917028564957548 {p : Prop} (h : p) : p := h
theorem main.tw14623576949289902444 {p : Prop} (h : p) : p := h
theorem main.tw8930851030842425676 {p : Prop} (h : p) : p := h
theorem main.tw6801380410627298636 {p : Prop} (h : p) : p := h
theorem main.tw8663697691656813868 {p : Prop} (h : p) : p := h
theorem main.tw12732289081945773324 {p : Prop} (h : p) : p := h
theorem main.tw3262662943086543052 {p : Prop} (h : p) : p := h
theorem main.tw7070123817558143148 {p : Prop} (h : p) : p := h
theorem main.tw269281003513860268 {p : Prop} (h : p) : p := h
theorem main.tw14020873708864708748 {p : Prop} (h : p) : p := h
theorem main.tw6425626318312657004 {p : Prop} (h : p) : p := h
theorem main.tw6921685317656363116 {p : Prop} (h : p) : p := h
theorem main.tw7521444476212097132 {p : Prop} (h : p) : p := h
theorem main.tw4420394385881154636 {p : Prop} (h : p) : p := h
theorem main.tw4244067443239231564 {p : Prop} (h : p) : p := h
theorem main.tw15970538086172389420 {p : Prop} (h : p) : p := h
theorem main.tw16721930046160240684 {p : Prop} (h : p) : p := h
theorem main.tw11646826074482590764 {p : Prop} (h : p) : p := h
theorem main.tw16689149305811164139 {p : Prop} (h : p) : p := h
theorem main.tw17708487481403421675 {p : Prop} (h : p) : p := h
theorem main.tw8102450764968551371 {p : Prop} (h : p) : p := h
theorem main.tw15015129292197451723 {p : Prop} (h : p) : p := h
theorem main.tw5790326737455844299 {p : Prop} (h : p) : p := h
theorem main.tw3905226178654972811 {p : Prop} (h : p) : p := h
theorem main.tw18403998269306519403 {p : Prop} (h : p) : p := h
theorem main.tw11676816360460091147 {p : Prop} (h : p) : p := h
theorem main.tw5004366561265856203 {p : Prop} (h : p) : p := h
theorem main.tw6788530277367551627 {p : Prop} (h : p) : p := h
theorem main.tw4047586217144654443 {p : Prop} (h : p) : p := h
theorem main.tw11689664321512496715 {p : Prop} (h : p) : p := h
theorem main.tw832900586485598795 {p : Prop} (h : p) : p := h
theorem main.tw2279707942289718827 {p : Prop} (h : p) : p := h
theorem main.tw7563215957194029611 {p : Prop} (h : p) : p := h
theorem main.tw4592260682591058475 {p : Prop} (h : p) : p := h
theorem main.tw2697862583947947531 {p : Prop} (h : p) : p := h
theorem main.tw4330594992337426955 {p : Prop} (h : p) : p := h
theorem main.tw750237026923860459 {p : Prop} (h : p) : p := h
theorem main.tw18102518702248102347 {p : Prop} (h : p) : p := h
theorem main.tw2496676261509829067 {p : Prop} (h : p) : p := h
theorem main.tw833945537157984683 {p : Prop} (h : p) : p := h
theorem main.tw16501172079758305675 {p : Prop} (h : p) : p := h
theorem main.tw10739967774149034379 {p : Prop} (h : p) : p := h
theorem main.tw3404965551341049163 {p : Prop} (h : p) : p := h
theorem main.tw14336716466608126219 {p : Prop} (h : p) : p := h
theorem main.tw2127038452521536779 {p : Prop} (h : p) : p := h
theorem main.tw5842977544298395883 {p : Prop} (h : p) : p := h
theorem main.tw11049269918873537771 {p : Prop} (h : p) : p := h
theorem main.tw33614349342159083 {p : Prop} (h : p) : p := h
theorem main.tw10435530978670571659 {p : Prop} (h : p) : p := h
theorem main.tw12987577155417789579 {p : Prop} (h : p) : p := h
theorem main.tw12519306246395310219 {p : Prop} (h : p) : p := h
theorem main.tw17398713541454457963 {p : Prop} (h : p) : p := h
theorem main.tw6087835443962453003 {p : Prop} (h : p) : p := h
theorem main.tw16356685582667847594 {p : Prop} (h : p) : p := h
theorem main.tw7697417962357392202 {p : Prop} (h : p) : p := h
theorem main.tw1319676515408343850 {p : Prop} (h : p) : p := h
theorem main.tw8125125469695226666 {p : Prop} (h : p) : p := h
theorem main.tw16203622797070002922 {p : Prop} (h : p) : p := h
theorem main.tw13777938177461255882 {p : Prop} (h : p) : p := h
theorem main.tw16765925921980633802 {p : Prop} (h : p) : p := h
theorem main.tw10924716458440934090 {p : Prop} (h : p) : p := h
theorem main.tw5502569546826302122 {p : Prop} (h : p) : p := h
theorem main.tw14286279103370969706 {p : Prop} (h : p) : p := h
theorem main.tw11463369355524808266 {p : Prop} (h : p) : p := h
theorem main.tw13113777628852026922 {p : Prop} (h : p) : p := h
theorem main.tw17290568124846718506 {p : Prop} (h : p) : p := h
theorem main.tw31828345220925962 {p : Prop} (h : p) : p := h
theorem main.tw12570134572688502250 {p : Prop} (h : p) : p := h
theorem main.tw14406990849044604362 {p : Prop} (h : p) : p := h
theorem main.tw7698036289167662538 {p : Prop} (h : p) : p := h
theorem main.tw3240935880901042570 {p : Prop} (h : p) : p := h
theorem main.tw8548823596671561066 {p : Prop} (h : p) : p := h
theorem main.tw4871624949866520906 {p : Prop} (h : p) : p := h
theorem main.tw6237627108579964202 {p : Prop} (h : p) : p := h
theorem main.tw161903638078081290 {p : Prop} (h : p) : p := h
theorem main.tw9626384672669237482 {p : Prop} (h : p) : p := h
theorem main.tw18431692314602308842 {p : Prop} (h : p) : p := h
theorem main.tw2033968301974640842 {p : Prop} (h : p) : p := h
theorem main.tw6855474311058116810 {p : Prop} (h : p) : p := h
theorem main.tw2566753976717531306 {p : Prop} (h : p) : p := h
theorem main.tw14218914174604095658 {p : Prop} (h : p) : p := h
theorem main.tw14992222465124788362 {p : Prop} (h : p) : p := h
theorem main.tw5240536507193477226 {p : Prop} (h : p) : p := h
theorem main.tw13447304073604360266 {p : Prop} (h : p) : p := h
theorem main.tw8567518541235275850 {p : Prop} (h : p) : p := h
theorem main.tw1627914004837282890 {p : Prop} (h : p) : p := h
theorem main.tw10092017014551392330 {p : Prop} (h : p) : p := h
theorem main.tw11390293659975261258 {p : Prop} (h : p) : p := h
theorem main.tw4156125974679941130 {p : Prop} (h : p) : p := h
theorem main.tw11728771520666845194 {p : Prop} (h : p) : p := h
theorem main.tw10625486282989778954 {p : Prop} (h : p) : p := h
theorem main.tw14755733875199540201 {p : Prop} (h : p) : p := h
theorem main.tw18446094637698972617 {p : Prop} (h : p) : p := h
theorem main.tw2428412748925179849 {p : Prop} (h : p) : p := h
theorem main.tw11595355409239048105 {p : Prop} (h : p) : p := h
theorem main.tw4990475226369331113 {p : Prop} (h : p) : p := h
theorem main.tw2900998541784483753 {p : Prop} (h : p) : p := h
theorem main.tw3557749057250611081 {p : Prop} (h : p) : p := h
theorem main.tw10483362588635715401 {p : Prop} (h : p) : p := h
theorem main.tw11020365191643786025 {p : Prop} (h : p) : p := h
theorem main.tw6164561884633627433 {p : Prop} (h : p) : p := h
theorem main.tw1454224541498743561 {p : Prop} (h : p) : p := h
theorem main.tw6702130215012162313 {p : Prop} (h : p) : p := h
theorem main.tw5677329702179833609 {p : Prop} (h : p) : p := h
theorem main.tw588950844065142505 {p : Prop} (h : p) : p := h
theorem main.tw2402762420636078793 {p : Prop} (h : p) : p := h
theorem main.tw15737690656516749961 {p : Prop} (h : p) : p := h
theorem main.tw12992176717851604617 {p : Prop} (h : p) : p := h
theorem main.tw8828626079734051433 {p : Prop} (h : p) : p := h
theorem main.tw2343935838158425641 {p : Prop} (h : p) : p := h
theorem main.tw13693970394777133609 {p : Prop} (h : p) : p := h
theorem main.tw613567027398061577 {p : Prop} (h : p) : p := h
theorem main.tw17493723678399337961 {p : Prop} (h : p) : p := h
theorem main.tw15589955886551607785 {p : Prop} (h : p) : p := h
theorem main.tw4261964983698606537 {p : Prop} (h : p) : p := h
theorem main.tw17268439761433841065 {p : Prop} (h : p) : p := h
theorem main.tw13077236301305049449 {p : Prop} (h : p) : p := h
theorem main.tw16459181004822140265 {p : Prop} (h : p) : p := h
theorem main.tw10450603732522932521 {p : Prop} (h : p) : p := h
theorem main.tw7436448052282571913 {p : Prop} (h : p) : p := h
theorem main.tw7860819179221955721 {p : Prop} (h : p) : p := h
theorem main.tw1453356044741674121 {p : Prop} (h : p) : p := h
theorem main.tw3056878081241006185 {p : Prop} (h : p) : p := h
theorem main.tw563973728909168745 {p : Prop} (h : p) : p := h
theorem main.tw1415428593365352553 {p : Prop} (h : p) : p := h
theorem main.tw6535589618603614281 {p : Prop} (h : p) : p := h
theorem main.tw18438843042052247593 {p : Prop} (h : p) : p := h
theorem main.tw17052023290607921161 {p : Prop} (h : p) : p := h
theorem main.tw10487773566786069416 {p : Prop} (h : p) : p := h
theorem main.tw1980160206288974728 {p : Prop} (h : p) : p := h
theorem main.tw7142256002058171272 {p : Prop} (h : p) : p := h
theorem main.tw10418042200766032776 {p : Prop} (h : p) : p := h
theorem main.tw1270039299266317192 {p : Prop} (h : p) : p := h
theorem main.tw10140136200207757160 {p : Prop} (h : p) : p := h
theorem main.tw12247406853277913960 {p : Prop} (h : p) : p := h
theorem main.tw3706830351922483016 {p : Prop} (h : p) : p := h
theorem main.tw8283060676807011144 {p : Prop} (h : p) : p := h
theorem main.tw7972779244933481256 {p : Prop} (h : p) : p := h
theorem main.tw6404898279339705064 {p : Prop} (h : p) : p := h
theorem main.tw997282325285248744 {p : Prop} (h : p) : p := h
theorem main.tw17477492558424962760 {p : Prop} (h : p) : p := h
theorem main.tw15734660467963936456 {p : Prop} (h : p) : p := h
theorem main.tw7742616358663508648 {p : Prop} (h : p) : p := h
theorem main.tw14097447854668400296 {p : Prop} (h : p) : p := h
theorem main.tw7308723440029596264 {p : Prop} (h : p) : p := h
theorem main.tw5768018617931124328 {p : Prop} (h : p) : p := h
theorem main.tw957831766286570088 {p : Prop} (h : p) : p := h
theorem main.tw4139100593308808776 {p : Prop} (h : p) : p := h
theorem main.tw16355746345580011080 {p : Prop} (h : p) : p := h
theorem main.tw16320215318167395912 {p : Prop} (h : p) : p := h
theorem main.tw14161005256144132680 {p : Prop} (h : p) : p := h
theorem main.tw4452170602077327944 {p : Prop} (h : p) : p := h
theorem main.tw244467455267321384 {p : Prop} (h : p) : p := h
theorem main.tw12057704586751987240 {p : Prop} (h : p) : p := h
theorem main.tw18238007617527299592 {p : Prop} (h : p) : p := h
theorem main.tw1615956725737779560 {p : Prop} (h : p) : p := h
theorem main.tw12455012482086183272 {p : Prop} (h : p) : p := h
theorem main.tw8496349624203035976 {p : Prop} (h : p) : p := h
theorem main.tw6161133996638707016 {p : Prop} (h : p) : p := h
theorem main.tw11403851563620829512 {p : Prop} (h : p) : p := h
theorem main.tw11923525502935528744 {p : Prop} (h : p) : p := h
theorem main.tw12675357926760492328 {p : Prop} (h : p) : p := h
theorem main.tw6788695710022549768 {p : Prop} (h : p) : p := h
theorem main.tw15079240505294077160 {p : Prop} (h : p) : p := h
theorem main.tw52199770228462824 {p : Prop} (h : p) : p := h
theorem main.tw14562738103837258888 {p : Prop} (h : p) : p := h
theorem main.tw16153842264607907944 {p : Prop} (h : p) : p := h
theorem main.tw9573086628692744296 {p : Prop} (h : p) : p := h
theorem main.tw13132915859168520264 {p : Prop} (h : p) : p := h
theorem main.tw7577966442626303048 {p : Prop} (h : p) : p := h
theorem main.tw12594366453804578888 {p : Prop} (h : p) : p := h
theorem main.tw4039676971129161736 {p : Prop} (h : p) : p := h
theorem main.tw5781596087445459943 {p : Prop} (h : p) : p := h
theorem main.tw2279047495162143687 {p : Prop} (h : p) : p := h
theorem main.tw16049902774474827687 {p : Prop} (h : p) : p := h
theorem main.tw7299474751278700455 {p : Prop} (h : p) : p := h
theorem main.tw4324958949535026087 {p : Prop} (h : p) : p := h
theorem main.tw13555666566803518343 {p : Prop} (h : p) : p := h
theorem main.tw10463206416058312583 {p : Prop} (h : p) : p := h
theorem main.tw11261727412033496967 {p : Prop} (h : p) : p := h
theorem main.tw10564528347858357063 {p : Prop} (h : p) : p := h
theorem main.tw17644181745481072423 {p : Prop} (h : p) : p := h
theorem main.tw1115709014448894727 {p : Prop} (h : p) : p := h
theorem main.tw18178676814319149831 {p : Prop} (h : p) : p := h
theorem main.tw16519101796099990279 {p : Prop} (h : p) : p := h
theorem main.tw5870225077901225703 {p : Prop} (h : p) : p := h
theorem main.tw65644731488775911 {p : Prop} (h : p) : p := h
theorem main.tw17227442419121036007 {p : Prop} (h : p) : p := h
theorem main.tw1544020853599562407 {p : Prop} (h : p) : p := h
theorem main.tw8561791615846529671 {p : Prop} (h : p) : p := h
theorem main.tw15267601115554557575 {p : Prop} (h : p) : p := h
theorem main.tw8220997788571121255 {p : Prop} (h : p) : p := h
theorem main.tw16965079339398995527 {p : Prop} (h : p) : p := h
theorem main.tw9432497158254318119 {p : Prop} (h : p) : p := h
theorem main.tw11814867827210800679 {p : Prop} (h : p) : p := h
theorem main.tw7472368607099979303 {p : Prop} (h : p) : p := h
theorem main.tw4741876487499883015 {p : Prop} (h : p) : p := h
theorem main.tw8475525182357872103 {p : Prop} (h : p) : p := h
theorem main.tw13350764725976880583 {p : Prop} (h : p) : p := h
theorem main.tw5061512775090418087 {p : Prop} (h : p) : p := h
theorem main.tw17737603089517620647 {p : Prop} (h : p) : p := h
theorem main.tw16629339528299215175 {p : Prop} (h : p) : p := h
theorem main.tw12653679108036650311 {p : Prop} (h : p) : p := h
theorem main.tw12518504611687188807 {p : Prop} (h : p) : p := h
theorem main.tw13465503431842376007 {p : Prop} (h : p) : p := h
theorem main.tw5372645768047454471 {p : Prop} (h : p) : p := h
theorem main.tw15642941266545998023 {p : Prop} (h : p) : p := h
theorem main.tw11716418206903941319 {p : Prop} (h : p) : p := h
theorem main.tw11476092923266045095 {p : Prop} (h : p) : p := h
theorem main.tw3033261876257692807 {p : Prop} (h : p) : p := h
theorem main.tw15514936471743626214 {p : Prop} (h : p) : p := h
theorem main.tw5873463020976553958 {p : Prop} (h : p) : p := h
theorem main.tw17272174723667511238 {p : Prop} (h : p) : p := h
theorem main.tw10184206183319678886 {p : Prop} (h : p) : p := h
theorem main.tw2363833142923657126 {p : Prop} (h : p) : p := h
theorem main.tw9161159452563919750 {p : Prop} (h : p) : p := h
theorem main.tw14806125269305119590 {p : Prop} (h : p) : p := h
theorem main.tw6117098260805541702 {p : Prop} (h : p) : p := h
theorem main.tw12909650291622432550 {p : Prop} (h : p) : p := h
theorem main.tw2852251193174398662 {p : Prop} (h : p) : p := h
theorem main.tw9681375758050803366 {p : Prop} (h : p) : p := h
theorem main.tw10452441009100146310 {p : Prop} (h : p) : p := h
theorem main.tw10567084921333377638 {p : Prop} (h : p) : p := h
theorem main.tw10652863235454686790 {p : Prop} (h : p) : p := h
theorem main.tw471287901995484742 {p : Prop} (h : p) : p := h
theorem main.tw14009396871252706886 {p : Prop} (h : p) : p := h
theorem main.tw17297283025540448806 {p : Prop} (h : p) : p := h
theorem main.tw15670109119070698982 {p : Prop} (h : p) : p := h
theorem main.tw7273056430967151046 {p : Prop} (h : p) : p := h
theorem main.tw4044139247061151142 {p : Prop} (h : p) : p := h
theorem main.tw16952715711813285254 {p : Prop} (h : p) : p := h
theorem main.tw10707853282979444102 {p : Prop} (h : p) : p := h
theorem main.tw8528285597010949478 {p : Prop} (h : p) : p := h
theorem main.tw6511744376749373798 {p : Prop} (h : p) : p := h
theorem main.tw4458048076830672230 {p : Prop} (h : p) : p := h
theorem main.tw12298629886278197574 {p : Prop} (h : p) : p := h
theorem main.tw10750994468655217958 {p : Prop} (h : p) : p := h
theorem main.tw11554813239044494598 {p : Prop} (h : p) : p := h
theorem main.tw6639522245352263942 {p : Prop} (h : p) : p := h
theorem main.tw16707527281638135014 {p : Prop} (h : p) : p := h
theorem main.tw13597483153833180358 {p : Prop} (h : p) : p := h
theorem main.tw16533047252010144966 {p : Prop} (h : p) : p := h
theorem main.tw16411370214107742406 {p : Prop} (h : p) : p := h
theorem main.tw12969983923199422630 {p : Prop} (h : p) : p := h
theorem main.tw3750506576032048294 {p : Prop} (h : p) : p := h
theorem main.tw13466023306477048966 {p : Prop} (h : p) : p := h
theorem main.tw15350898050860989542 {p : Prop} (h : p) : p := h
theorem main.tw10542905334921785414 {p : Prop} (h : p) : p := h
theorem main.tw9903775340124721222 {p : Prop} (h : p) : p := h
theorem main.tw6545385358150927430 {p : Prop} (h : p) : p := h
theorem main.tw365850788961202214 {p : Prop} (h : p) : p := h
theorem main.tw18162592725011693541 {p : Prop} (h : p) : p := h
theorem main.tw2456247091588846565 {p : Prop} (h : p) : p := h
theorem main.tw13402765919934010277 {p : Prop} (h : p) : p := h
theorem main.tw16806246253224384389 {p : Prop} (h : p) : p := h
theorem main.tw6935676897619631941 {p : Prop} (h : p) : p := h
theorem main.tw11119146913839337285 {p : Prop} (h : p) : p := h
theorem main.tw1469836325065767749 {p : Prop} (h : p) : p := h
theorem main.tw5665406974723832613 {p : Prop} (h : p) : p := h
theorem main.tw12429675835336498981 {p : Prop} (h : p) : p := h
theorem main.tw11028137302277699333 {p : Prop} (h : p) : p := h
theorem main.tw11434472132146493189 {p : Prop} (h : p) : p := h
theorem main.tw1714950047550659301 {p : Prop} (h : p) : p := h
theorem main.tw15957597259013190341 {p : Prop} (h : p) : p := h
theorem main.tw14759895335926876869 {p : Prop} (h : p) : p := h
theorem main.tw3305931106042330821 {p : Prop} (h : p) : p := h
theorem main.tw5491092008493831813 {p : Prop} (h : p) : p := h
theorem main.tw6418202794160714309 {p : Prop} (h : p) : p := h
theorem main.tw3298483428156984901 {p : Prop} (h : p) : p := h
theorem main.tw4258463428174104133 {p : Prop} (h : p) : p := h
theorem main.tw14377180257169084997 {p : Prop} (h : p) : p := h
theorem main.tw16544489699163171333 {p : Prop} (h : p) : p := h
theorem main.tw7083192437325867461 {p : Prop} (h : p) : p := h
theorem main.tw8467378866343419333 {p : Prop} (h : p) : p := h
theorem main.tw10367043833027533253 {p : Prop} (h : p) : p := h
theorem main.tw16451033083921036709 {p : Prop} (h : p) : p := h
theorem main.tw9253799994812790149 {p : Prop} (h : p) : p := h
theorem main.tw7788533954027902341 {p : Prop} (h : p) : p := h
theorem main.tw2906824675625879941 {p : Prop} (h : p) : p := h
theorem main.tw10149618387772673413 {p : Prop} (h : p) : p := h
theorem main.tw6640438233256266117 {p : Prop} (h : p) : p := h
theorem main.tw10953687544409504101 {p : Prop} (h : p) : p := h
theorem main.tw917386388269078853 {p : Prop} (h : p) : p := h
theorem main.tw9190990891756207365 {p : Prop} (h : p) : p := h
theorem main.tw14510055921401542917 {p : Prop} (h : p) : p := h
theorem main.tw746619569347964165 {p : Prop} (h : p) : p := h
theorem main.tw12623159325031504133 {p : Prop} (h : p) : p := h
theorem main.tw7487416344156704005 {p : Prop} (h : p) : p := h
theorem main.tw8211959896082780389 {p : Prop} (h : p) : p := h
theorem main.tw15277975159832343749 {p : Prop} (h : p) : p := h
theorem main.tw11001617756164336837 {p : Prop} (h : p) : p := h
theorem main.tw17102163115385810085 {p : Prop} (h : p) : p := h
theorem main.tw6910295442248876197 {p : Prop} (h : p) : p := h
theorem main.tw14364048958407549093 {p : Prop} (h : p) : p := h
theorem main.tw12974819211118642341 {p : Prop} (h : p) : p := h
theorem main.tw15312394840280087653 {p : Prop} (h : p) : p := h
theorem main.tw8947760058931562597 {p : Prop} (h : p) : p := h
theorem main.tw7780446386730421317 {p : Prop} (h : p) : p := h
theorem main.tw1390771862084280389 {p : Prop} (h : p) : p := h
theorem main.tw15017983477296125989 {p : Prop} (h : p) : p := h
theorem main.tw17659147809683748901 {p : Prop} (h : p) : p := h
theorem main.tw22632409874275333 {p : Prop} (h : p) : p := h
theorem main.tw6516198228755648517 {p : Prop} (h : p) : p := h
theorem main.tw9417822746687237092 {p : Prop} (h : p) : p := h
theorem main.tw372505627349444580 {p : Prop} (h : p) : p := h
theorem main.tw11125538497796368324 {p : Prop} (h : p) : p := h
theorem main.tw834873547066669988 {p : Prop} (h : p) : p := h
theorem main.tw12252054271945606052 {p : Prop} (h : p) : p := h
theorem main.tw15575723056732996420 {p : Prop} (h : p) : p := h
theorem main.tw9756827057097773860 {p : Prop} (h : p) : p := h
theorem main.tw1046443281632482020 {p : Prop} (h : p) : p := h
theorem main.tw14539993770535171780 {p : Prop} (h : p) : p := h
theorem main.tw4046449949787424452 {p : Prop} (h : p) : p := h
theorem main.tw9840939614602229412 {p : Prop} (h : p) : p := h
theorem main.tw12222963475772708484 {p : Prop} (h : p) : p := h
theorem main.tw6234934611588079204 {p : Prop} (h : p) : p := h
theorem main.tw10843882697959080548 {p : Prop} (h : p) : p := h
theorem main.tw16757190730947197508 {p : Prop} (h : p) : p := h
theorem main.tw3985830497718990404 {p : Prop} (h : p) : p := h
theorem main.tw10663580350406149668 {p : Prop} (h : p) : p := h
theorem main.tw2215267417292685860 {p : Prop} (h : p) : p := h
theorem main.tw5160751907100791332 {p : Prop} (h : p) : p := h
theorem main.tw16940653100087695844 {p : Prop} (h : p) : p := h
theorem main.tw4502447428920916452 {p : Prop} (h : p) : p := h
theorem main.tw7113585516715319716 {p : Prop} (h : p) : p := h
theorem main.tw2729793432009153956 {p : Prop} (h : p) : p := h
theorem main.tw15022946984557111684 {p : Prop} (h : p) : p := h
theorem main.tw2855982326401850692 {p : Prop} (h : p) : p := h
theorem main.tw11374851513655246148 {p : Prop} (h : p) : p := h
theorem main.tw13313126695403321540 {p : Prop} (h : p) : p := h
theorem main.tw962032349192862916 {p : Prop} (h : p) : p := h
theorem main.tw8905464785575363620 {p : Prop} (h : p) : p := h
theorem main.tw7214478077546791972 {p : Prop} (h : p) : p := h
theorem main.tw11857135199678951331 {p : Prop} (h : p) : p := h
theorem main.tw7280229744369011555 {p : Prop} (h : p) : p := h
theorem main.tw16952484285578525507 {p : Prop} (h : p) : p := h
theorem main.tw11101190512080308003 {p : Prop} (h : p) : p := h
theorem main.tw5496428617142288131 {p : Prop} (h : p) : p := h
theorem main.tw17146568849442343683 {p : Prop} (h : p) : p := h
theorem main.tw387501639795913443 {p : Prop} (h : p) : p := h
theorem main.tw49674306023711395 {p : Prop} (h : p) : p := h
theorem main.tw17403364634526059139 {p : Prop} (h : p) : p := h
theorem main.tw8934699018898702947 {p : Prop} (h : p) : p := h
theorem main.tw12702744160499308131 {p : Prop} (h : p) : p := h
theorem main.tw8419495778230234659 {p : Prop} (h : p) : p := h
theorem main.tw13429379312604010019 {p : Prop} (h : p) : p := h
theorem main.tw5837888446457221635 {p : Prop} (h : p) : p := h
theorem main.tw4475767826048309731 {p : Prop} (h : p) : p := h
theorem main.tw2647654807098235363 {p : Prop} (h : p) : p := h
theorem main.tw14849204138880929251 {p : Prop} (h : p) : p := h
theorem main.tw10819019510126429635 {p : Prop} (h : p) : p := h
theorem main.tw12959741745000181155 {p : Prop} (h : p) : p := h
theorem main.tw14771111431291430275 {p : Prop} (h : p) : p := h
theorem main.tw15558288988949320067 {p : Prop} (h : p) : p := h
theorem main.tw1211270941048087907 {p : Prop} (h : p) : p := h
theorem main.tw13406003279186336099 {p : Prop} (h : p) : p := h
theorem main.tw17185042187573640451 {p : Prop} (h : p) : p := h
theorem main.tw9957550378297406723 {p : Prop} (h : p) : p := h
theorem main.tw4900431672193113347 {p : Prop} (h : p) : p := h
theorem main.tw3626430660855392483 {p : Prop} (h : p) : p := h
theorem main.tw2007339730380871907 {p : Prop} (h : p) : p := h
theorem main.tw4817600198373253283 {p : Prop} (h : p) : p := h
theorem main.tw11409991511011244131 {p : Prop} (h : p) : p := h
theorem main.tw15467891735981029475 {p : Prop} (h : p) : p := h
theorem main.tw7293704977770490947 {p : Prop} (h : p) : p := h
theorem main.tw18284262389922463811 {p : Prop} (h : p) : p := h
theorem main.tw5527929279227188259 {p : Prop} (h : p) : p := h
theorem main.tw2442773178527959075 {p : Prop} (h : p) : p := h
theorem main.tw10818010828618221571 {p : Prop} (h : p) : p := h
theorem main.tw8402242094647718915 {p : Prop} (h : p) : p := h
theorem main.tw9331444716242157538 {p : Prop} (h : p) : p := h
theorem main.tw9355243762808164322 {p : Prop} (h : p) : p := h
theorem main.tw4967792270526972898 {p : Prop} (h : p) : p := h
theorem main.tw3220561703981169602 {p : Prop} (h : p) : p := h
theorem main.tw15672986146971166658 {p : Prop} (h : p) : p := h
theorem main.tw8624498521744291746 {p : Prop} (h : p) : p := h
theorem main.tw3951913103685366658 {p : Prop} (h : p) : p := h
theorem main.tw6508729118710982530 {p : Prop} (h : p) : p := h
theorem main.tw1084220662915027778 {p : Prop} (h : p) : p := h
theorem main.tw8996212591421123362 {p : Prop} (h : p) : p := h
theorem main.tw961187720498965250 {p : Prop} (h : p) : p := h
theorem main.tw10669944970481658594 {p : Prop} (h : p) : p := h
theorem main.tw6385024630547198690 {p : Prop} (h : p) : p := h
theorem main.tw11785714552879321826 {p : Prop} (h : p) : p := h
theorem main.tw6264281720289328834 {p : Prop} (h : p) : p := h
theorem main.tw11092141859048813250 {p : Prop} (h : p) : p := h
theorem main.tw16950194794029067938 {p : Prop} (h : p) : p := h
theorem main.tw1142173933681417890 {p : Prop} (h : p) : p := h
theorem main.tw4297412468100583042 {p : Prop} (h : p) : p := h
theorem main.tw16292202817602668162 {p : Prop} (h : p) : p := h
theorem main.tw1306636233014830658 {p : Prop} (h : p) : p := h
theorem main.tw14907226015203709474 {p : Prop} (h : p) : p := h
theorem main.tw13306352142949925410 {p : Prop} (h : p) : p := h
theorem main.tw7298748307773712898 {p : Prop} (h : p) : p := h
theorem main.tw11752208632293872130 {p : Prop} (h : p) : p := h
theorem main.tw9302470337196694018 {p : Prop} (h : p) : p := h
theorem main.tw3546150205236023746 {p : Prop} (h : p) : p := h
theorem main.tw6384206874565194146 {p : Prop} (h : p) : p := h
theorem main.tw5613160597433933154 {p : Prop} (h : p) : p := h
theorem main.tw7411558596216406370 {p : Prop} (h : p) : p := h
theorem main.tw10391951854915411234 {p : Prop} (h : p) : p := h
theorem main.tw15303317825217679618 {p : Prop} (h : p) : p := h
theorem main.tw4038153913678941442 {p : Prop} (h : p) : p := h
theorem main.tw561929256534903042 {p : Prop} (h : p) : p := h
theorem main.tw14698241182937546978 {p : Prop} (h : p) : p := h
theorem main.tw15950006927108054178 {p : Prop} (h : p) : p := h
theorem main.tw223528310411579522 {p : Prop} (h : p) : p := h
theorem main.tw16135426469972691074 {p : Prop} (h : p) : p := h
theorem main.tw5671064798259553346 {p : Prop} (h : p) : p := h
theorem main.tw14168887731352723522 {p : Prop} (h : p) : p := h
theorem main.tw1402309974066972641 {p : Prop} (h : p) : p := h
theorem main.tw15109750227778091905 {p : Prop} (h : p) : p := h
theorem main.tw11387536720948717409 {p : Prop} (h : p) : p := h
theorem main.tw4638281056170512193 {p : Prop} (h : p) : p := h
theorem main.tw15624239662980076321 {p : Prop} (h : p) : p := h
theorem main.tw892681787802806017 {p : Prop} (h : p) : p := h
theorem main.tw15608450976537380609 {p : Prop} (h : p) : p := h
theorem main.tw15365013842991253249 {p : Prop} (h : p) : p := h
theorem main.tw3078964553284005601 {p : Prop} (h : p) : p := h
theorem main.tw4784553394551972577 {p : Prop} (h : p) : p := h
theorem main.tw12077450504624328385 {p : Prop} (h : p) : p := h
theorem main.tw6137908229700043457 {p : Prop} (h : p) : p := h
theorem main.tw16193401482309157537 {p : Prop} (h : p) : p := h
theorem main.tw1242282695825638017 {p : Prop} (h : p) : p := h
theorem main.tw8421283082012440161 {p : Prop} (h : p) : p := h
theorem main.tw6635558491612396129 {p : Prop} (h : p) : p := h
theorem main.tw9716624006974247489 {p : Prop} (h : p) : p := h
theorem main.tw9406782406253462049 {p : Prop} (h : p) : p := h
theorem main.tw2538046985915079169 {p : Prop} (h : p) : p := h
theorem main.tw6907636171062424033 {p : Prop} (h : p) : p := h
theorem main.tw15768048840197415361 {p : Prop} (h : p) : p := h
theorem main.tw9376575566392132001 {p : Prop} (h : p) : p := h
theorem main.tw14216407083858561409 {p : Prop} (h : p) : p := h
theorem main.tw11614346279706655073 {p : Prop} (h : p) : p := h
theorem main.tw17585224947871030625 {p : Prop} (h : p) : p := h
theorem main.tw14513571923725367585 {p : Prop} (h : p) : p := h
theorem main.tw3370190323706015969 {p : Prop} (h : p) : p := h
theorem main.tw7682646441695089857 {p : Prop} (h : p) : p := h
theorem main.tw13676971244355772609 {p : Prop} (h : p) : p := h
theorem main.tw17715262827843222689 {p : Prop} (h : p) : p := h
theorem main.tw2110754180369666209 {p : Prop} (h : p) : p := h
theorem main.tw12986061983710234785 {p : Prop} (h : p) : p := h
theorem main.tw6214117541549086881 {p : Prop} (h : p) : p := h
theorem main.tw3222223853247747169 {p : Prop} (h : p) : p := h
theorem main.tw4413345314126155841 {p : Prop} (h : p) : p := h
theorem main.tw15772080087578916929 {p : Prop} (h : p) : p := h
theorem main.tw17402982504261768225 {p : Prop} (h : p) : p := h
theorem main.tw17292155258170135553 {p : Prop} (h : p) : p := h
theorem main.tw12245857906982125569 {p : Prop} (h : p) : p := h
theorem main.tw11354040483645079520 {p : Prop} (h : p) : p := h
theorem main.tw1309525014197594016 {p : Prop} (h : p) : p := h
theorem main.tw12670839924663504800 {p : Prop} (h : p) : p := h
theorem main.tw3796207824708393856 {p : Prop} (h : p) : p := h
theorem main.tw9483696857397876608 {p : Prop} (h : p) : p := h
theorem main.tw3627144658338631552 {p : Prop} (h : p) : p := h
theorem main.tw10201359505653846880 {p : Prop} (h : p) : p := h
theorem main.tw6449824600675878752 {p : Prop} (h : p) : p := h
theorem main.tw16508919721030705984 {p : Prop} (h : p) : p := h
theorem main.tw1027651156746619712 {p : Prop} (h : p) : p := h
theorem main.tw12747388180105724736 {p : Prop} (h : p) : p := h
theorem main.tw17495560712657236704 {p : Prop} (h : p) : p := h
theorem main.tw9808303207383738048 {p : Prop} (h : p) : p := h
theorem main.tw7439787175107056256 {p : Prop} (h : p) : p := h
theorem main.tw17035731627637430848 {p : Prop} (h : p) : p := h
theorem main.tw6541472054586571296 {p : Prop} (h : p) : p := h
theorem main.tw12142246244290616864 {p : Prop} (h : p) : p := h
theorem main.tw11501822485730972192 {p : Prop} (h : p) : p := h
theorem main.tw1677766988990989824 {p : Prop} (h : p) : p := h
theorem main.tw9976160756891316704 {p : Prop} (h : p) : p := h
theorem main.tw5084117380071580128 {p : Prop} (h : p) : p := h
theorem main.tw54841869916938688 {p : Prop} (h : p) : p := h
theorem main.tw6981815665589151136 {p : Prop} (h : p) : p := h
theorem main.tw8404659333953806752 {p : Prop} (h : p) : p := h
theorem main.tw2058021452347087232 {p : Prop} (h : p) : p := h
theorem main.tw13157206579259725088 {p : Prop} (h : p) : p := h
theorem main.tw15438212644395081984 {p : Prop} (h : p) : p := h
theorem main.tw9557352009045844224 {p : Prop} (h : p) : p := h
theorem main.tw5240779543111244032 {p : Prop} (h : p) : p := h
theorem main.tw12029141425527573696 {p : Prop} (h : p) : p := h
theorem main.tw11774690029378154688 {p : Prop} (h : p) : p := h
theorem main.tw480701840831765632 {p : Prop} (h : p) : p := h
theorem main.tw3881243767933311072 {p : Prop} (h : p) : p := h
theorem main.tw11003572833241299968 {p : Prop} (h : p) : p := h
theorem main.tw7675930258259734528 {p : Prop} (h : p) : p := h
theorem main.tw8627818249909847354 {p : Prop} (h : p) : p := h
theorem main.tw11539556534233449701 {p : Prop} (h : p) : p := h
set_option Elab.async true in
set_option maxHeartbeats 0 in
theorem main : PySem.Challenge.rw_il0182_01.Holds := by
  k_with_none
  k_with "ROOM" => first | ((try simp only [depth_under_make, depth_under_kw, depth_in1, depth_deeper, depth_caller]); decide) | (show (_ : Nat) < 1000; (try simp only [depth_under_make, depth_under_kw, depth_in1, depth_deeper, depth_caller]); (try dsimp only [ktrTop]); omega)
  k_with "CELL" => (refine' kx_def (by exact rfl) (by exact rfl) (by first | exact rfl | assumption) (by k_asm) (by k_asm) (by k_asm) (by k_asm) (by k_asm) (by k_is) (by k_is) (by k_room) (by first | exact BindsTo.of_eq rfl | exact binds_K (by k_in) rfl (by k_is) rfl rfl rfl) (by decide) (by exact locs rfl) (by exact rfl) (by exact rfl) (by exact rfl) ?_; k_whole; intro _ _ _ _ _ _ kxBq _ _; (try dsimp only); (try k_lift kxBq); (try k_fold))
  k_with "ALL" => (first | exact List.forall_mem_nil _ | with_reducible assumption | with_reducible exact kx_tl (by assumption) | with_reducible exact kx_tl (kx_tl (by assumption)) | with_reducible exact kx_tl (kx_tl (kx_tl (by assumption))) | (refine' List.forall_mem_cons.mpr ⟨(by k_ne), ?_⟩; k_all))
  k_with "newList" => (k_here; refine' newList_K (by k_asm) (by k_asm) ?_; k_whole; intro _ _ _ _ kxl1; (try k_lt kxl1); (try k_sweep))
  k_with "eval Name" => (k_here; refine' name_K (by k_asm) (by k_asm) (by k_asm) (by k_is) ?_ (by with_unfolding_all rfl) (by kernel_rfl) (by kernel_rfl); k_whole)
  k_with "eval Name" => (k_here; refine' ld (by k_asm) (by with_unfolding_all rfl) ?_ (by with_unfolding_all rfl) (by kernel_rfl) (by kernel_rfl); k_whole)
  k_with "getAttr ref" => (k_here; refine' get_own (by k_asm) (by k_asm) (by k_inst) (by k_is) (by k_is) (by k_is) (by k_is) (by k_get) (by k_handed) ?_; k_whole)
  k_with "setAttr ref" => (k_here; refine' set_dict (by k_asm) (by k_asm) (by k_asm) (by k_inst) (by with_unfolding_all exact rfl) (by k_is) (by k_is) (by k_is) (by k_is) (by k_get) (by k_put) (by k_upd) (by exact Nat.le_of_ble_eq_true rfl) ?_; k_whole; intro _ _ _; (try k_sweep))
  k_with "last exec While" => (k_here; with_reducible refine whl_start 100 ?_)
  k_with "exec If" => ((try k_fold); refine wpAny_If ?_; (try dsimp only))
  k_with "call ref" => (k_here; (with_reducible show wpAny _ _ (call (Value.ref 841) _) _ _ _); refine halt ?_)
  k_with "call ref" => (k_here; (with_reducible show wpAny _ _ (call (Value.ref 846) _) _ _ _); refine halt ?_)
  k_with "call ref" => (k_here; (with_reducible show wpAny _ _ (call (Value.ref 853) _) _ _ _); refine halt ?_)
  k_with "call ref" => (k_here; (with_reducible show wpAny _ _ (call (Value.ref 860) _) _ _ _); refine halt ?_)
  k_with "call ref" => (k_here; (with_reducible show wpAny _ _ (call (Value.ref 874) _) _ _ _); refine halt ?_)
  k_with "call ref" => (k_here; (with_reducible show wpAny _ _ (call (Value.ref 884) _) _ _ _); refine halt ?_)
  k_with "call ref" => (k_here; (with_reducible show wpAny _ _ (call (Value.ref 827) _) _ _ _); refine halt ?_)
  k_with "call ref" => (k_here; (with_reducible show wpAny _ _ (call (Value.ref 792) _) _ _ _); refine halt ?_)
  k_with "execs cons" => first | ((with_reducible show wpAny _ _ (execs [Stmt.Return _ _] _) _ _ _); refine wpAny_execs_cons ?_) | (refine halt ?_)
  k_with "execs nil" => (refine wpAny_execs_nil ?_)
  k_with "subscriptTail Name BinOp ref int" => (refine halt ?_)
  k_with "WhlRest" => refine halt ?_
  k_with "exec While" => (k_here; k_dflt (refine whl_start 0 ?_))
  k_with "exec While UnaryOp" => (k_here; k_dflt (refine whl_start 0 ?_))
  k_with "exec While UnaryOp cons nil" => (k_here; k_dflt (refine whl_start 0 ?_))
  k_with "exec Assign cons ListComp" => (k_here; refine halt ?_)
  k_with "eval ListComp" => (k_here; refine halt ?_)
  k_with "CompSrcT" => (k_here; refine halt ?_)
  k_with "subscriptTail Name Slice ref ref" => (k_here; (with_reducible show wpAny _ _ (subscriptTail _ (PySem.Expr.Slice _ _ none _) (Value.ref _) (Value.ref _)) _ _ _); k_dflt (refine' kms_slice_lit (by k_asm) (by k_asm) (by kmk_list) (by kmk_part) (by kmk_part) (by first | exact pick2 _ _ _ | exact pick1 _ | exact pick0) ?_ (by with_unfolding_all rfl) (by kmk_pure) (by first | assumption | exact Nat.le_of_ble_eq_true rfl | (rw [sizeLine_eq]; exact Nat.le_of_ble_eq_true rfl))); intro _ _ _ _ kxl1; (try k_lt kxl1))
  k_with "subscriptTail" => (k_here; (with_reducible show wpAny _ _ (subscriptTail (PySem.Expr.List _ _) (PySem.Expr.Slice _ _ none _) (Value.ref _) (Value.ref _)) _ _ _); k_dflt (refine' slice_tmp (by k_asm) (by k_asm) (by exact News.isList (by k_asm) (by k_mem)) (by kmk_part) (by kmk_part) (by first | exact (rfl : _ = [_, _]) | exact (rfl : _ = [_]) | exact (rfl : _ = [])) ?_ (by with_unfolding_all rfl) (by first | exact Nat.le_of_ble_eq_true rfl | (rw [sizeLine_eq]; exact Nat.le_of_ble_eq_true rfl))); intro _ _ _ _ kxl1; (try k_lt kxl1))
  k_with "subscriptTail List cons Slice ref ref" => (k_here; (with_reducible show wpAny _ _ (subscriptTail (PySem.Expr.List _ _) (PySem.Expr.Slice _ _ none _) (Value.ref _) (Value.ref _)) _ _ _); k_dflt (refine' slice_tmp (by k_asm) (by k_asm) (by exact News.isList (by k_asm) (by k_mem)) (by kmk_part) (by kmk_part) (by first | exact (rfl : _ = [_, _]) | exact (rfl : _ = [_]) | exact (rfl : _ = [])) ?_ (by with_unfolding_all rfl) (by first | exact Nat.le_of_ble_eq_true rfl | (rw [sizeLine_eq]; exact Nat.le_of_ble_eq_true rfl))); intro _ _ _ _ kxl1; (try k_lt kxl1))
  k_with "subscriptTail List Slice" => (k_here; (with_reducible show wpAny _ _ (subscriptTail (PySem.Expr.List _ _) (PySem.Expr.Slice _ _ none _) (Value.ref _) (Value.ref _)) _ _ _); k_dflt (refine' slice_tmp (by k_asm) (by k_asm) (by exact News.isList (by k_asm) (by k_mem)) (by kmk_part) (by kmk_part) (by first | exact (rfl : _ = [_, _]) | exact (rfl : _ = [_]) | exact (rfl : _ = [])) ?_ (by with_unfolding_all rfl) (by first | exact Nat.le_of_ble_eq_true rfl | (rw [sizeLine_eq]; exact Nat.le_of_ble_eq_true rfl))); intro _ _ _ _ kxl1; (try k_lt kxl1))
  w_on; o_law; o_head (kHook pre.heap_1 as0 (fun _ => by kernel_rfl)); (case hw => w_witness2)
  w_top off
  k_go0
  (all_goals try k_fold)
  have hq : Mine.main.view_1_39 = PV := by kernel_rfl
  with_reducible (rename Top _ _ _ _ _ _ => TQ)
  rw [hq] at TQ
  k_steps
  refine unhalt ?_
  refine wpAny_execs_cons ?_
  try k_fold
  k_steps
  refine unhalt ?_
  with_reducible (rename News _ _ _ _ => N3)
  with_reducible (rename Fr _ _ _ _ => F3)
  refine' c_numbers ?hD _ _ _ _ _ _ _ _ _ _ _ _ _ _ _ ?kB ?kF ?kX N3 ?kT ?kk ?_
  case hD => first | exact Nat.le_of_ble_eq_true rfl | decide | (simp only [depth_under_make, depth_under_kw, depth_in1, depth_deeper, depth_caller]; (try dsimp only [ktrTop]); omega)
  case kB => k_asm
  case kF => k_asm
  case kX => k_asm
  case kT => k_asm
  case kk => exact rfl
  intro h4 tk4 lN us cN TL F4 ht N4 hTL hlN
  clear N3 F3
  replace N4 := news_tail2 N4
  have tl1 : ∀ p ∈ TL, p.1 ≠ _ := fun p hp => Nat.ne_of_gt (hTL p hp _ (.head _))
  have tl2 : ∀ p ∈ TL, p.1 ≠ _ := fun p hp => Nat.ne_of_gt (hTL p hp _ (.tail _ (.head _)))
  have ll1 : @LT.lt Nat _ _ lN := hlN _ (.head _)
  have ll2 : @LT.lt Nat _ _ lN := hlN _ (.tail _ (.head _))
  dsimp only at tl1 tl2 ll1 ll2
  k_steps
  refine unhalt ?_
  refine wpAny_execs_cons ?_
  try k_fold
  with_reducible (rename News _ _ _ _ => N3)
  with_reducible (rename Fr _ _ _ _ => F3)
  refine drawn_mono F3 N3 ?_ ?_
  · with_reducible (rename IntsAre _ _ => hI)
    cases hI with
    | nil =>
      k_steps
      with_reducible (rename News _ _ _ _ => N6)
      with_reducible (rename Fr _ _ _ _ => F6)
      have hd9 := ltp N6 (allLt_lt (by with_unfolding_all assumption))
      exact ⟨rfl, _, _, _, _, _, _, _, _, rfl, F6, news_hd5 N6, fun p hp => hd9 p (.tail _ (.tail _ (.tail _ (.tail _ hp))))⟩
    | cons n1 t1 hI =>
      cases hI with
      | nil =>
        k_steps
        with_reducible (rename News _ _ _ _ => N6)
        with_reducible (rename Fr _ _ _ _ => F6)
        have hd9 := ltp N6 (allLt_lt (by with_unfolding_all assumption))
        exact ⟨rfl, _, _, _, _, _, _, _, _, rfl, F6, news_hd5 N6, fun p hp => hd9 p (.tail _ (.tail _ (.tail _ (.tail _ hp))))⟩
      | cons n2 t2 hI =>
        have hz := szI (a := Value.int n1 t1) (b := Value.int n2 t2) hI (by assumption)
        k_steps
        with_reducible (rename News _ _ _ _ => N6)
        with_reducible (rename Fr _ _ _ _ => F6)
        have hd9 := ltp N6 (allLt_lt (by with_unfolding_all assumption))
        exact ⟨rfl, _, _, _, _, _, _, _, _, rfl, F6, news_hd5 N6, fun p hp => hd9 p (.tail _ (.tail _ (.tail _ (.tail _ hp))))⟩
  rintro f s' ⟨rfl, h5, tk5, D5, c5, d0, d1, t0, t1, rfl, F5, N5, lD5⟩
  have ld1 : @LT.lt Nat _ _ D5 := lD5 _ (.tail _ (.head _))
  have ld2 : @LT.lt Nat _ _ D5 := lD5 _ (.tail _ (.tail _ (.head _)))
  dsimp only at ld1 ld2
  clear F3 N3
  k_steps
  refine unhalt ?_
  refine wpAny_execs_cons ?_
  try k_fold
  k_steps
  refine unhalt ?_
  obtain ⟨k0, hk0, ek0⟩ := idx28 ([d0, d1].getD (Int.toNat 0) 0)
  rw [ek0]
  obtain ⟨r0, u1, u2, u3, eu0, hm0⟩ := ht.at k0 (numAt k0) (numTab_get hk0)
  have hr1 : @LT.lt Nat _ _ r0 := hTL _ hm0 _ (.head _)
  have hr2 : @LT.lt Nat _ _ r0 := hTL _ hm0 _ (.tail _ (.head _))
  dsimp only at hr1 hr2
  obtain ⟨⟨b1, b2, b3, b4, b5, b6⟩, b7, b8⟩ := num_b k0 hk0
  with_reducible (rename News _ _ _ _ => N3)
  with_reducible (rename Fr _ _ _ _ => F3)
  refine item_listL (News.isList N3 (.tail _ (.head _))) (Int.natCast_nonneg _) (by omega) eu0 ?_
  have N6 := news_add N3 (.tail _ (.tail _ (.tail _ (.tail _ hm0))))
  clear N3
  rcases hA : numAt k0 with ⟨n0, a0, b0⟩
  have hRA : rootAt k0 = lawRoot n0 a0 b0 := by unfold rootAt; rw [hA]
  rw [hA] at N6 b1 b2 b3 b4 b5 b6 b7 b8
  rw [hRA] at b7 b8
  dsimp only at N6 b1 b2 b3 b4 b5 b6 b7 b8
  k_steps
  refine unhalt ?_
  refine wpAny_execs_cons ?_
  try k_fold
  k_steps
  refine unhalt ?_
  with_reducible (rename News _ _ _ _ => N3)
  with_reducible (rename Fr _ _ _ _ => F3)
  have lT := ltp N3 (allLt_lt (by with_unfolding_all assumption))
  refine' c_root ?zD b1 b2 b3 b4 b5 b6 (fun p hp => Nat.ne_of_lt (lT p hp)) ⟨_, b7, b8⟩ _ _ _ _ _ _ _ _ _ _ _ _ _ _ _ ?kB ?kF ?kX N3 ?kT ?kk ?_
  case zD => first | exact Nat.le_of_ble_eq_true rfl | decide | (simp only [depth_under_make, depth_under_kw, depth_in1, depth_deeper, depth_caller]; (try dsimp only [ktrTop]); omega)
  case kB => k_asm
  case kF => k_asm
  case kX => k_asm
  case kT => k_asm
  case kk => exact rfl
  intro h6 tk6 t6 F6 N7
  clear N3 F3
  k_steps
  refine unhalt ?_
  refine wpAny_execs_cons ?_
  try k_fold
  k_steps
  refine unhalt ?_
  refine wpAny_execs_cons ?_
  try k_fold
  k_steps
  obtain ⟨k1, hk1, ek1⟩ := idx28 ([d0, d1].getD (Int.toNat 1) 0)
  obtain ⟨T0, hT0, hT1⟩ := target hk0 hk1
  refine unhalt ?_
  with_reducible (rename News _ _ _ _ => N3)
  with_reducible (rename Fr _ _ _ _ => F3)
  rw [ek1] at F3
  refine whl_ind (LWI _ _ _ _ _ _ (.int (lawRoot n0 a0 b0 : Nat) t6) (.ref lN) (.int a0 u2) (.int b0 u3) T0) (fun c => T0 - c) ?step k1 _ _ (LWI.intro F3 N3 hT0 rfl rfl rfl rfl rfl)
  case step =>
    clear F3 N3
    rintro c s' k ⟨h7, tk7, m7, tp, rfl, F3, N3, hcT, e1, e2, e3, e4, e5⟩ IH
    rw [canon5 e1 e2 e3 e4 e5] at F3
    refine whl_turn (k := 0) (by first | passes_own | with_unfolding_all passes_own) ?_
    have hkc : c % 28 < 28 := Nat.mod_lt _ (by decide)
    obtain ⟨r1, v1, v2, v3, ev1, hm1⟩ := ht.at (c % 28) (numAt (c % 28)) (numTab_get hkc)
    obtain ⟨⟨B1, B2, B3, B4, B5, B6⟩, B7, B8⟩ := num_b (c % 28) hkc
    have hs1 : @LT.lt Nat _ _ r1 := hTL _ hm1 _ (.head _)
    have hs2 : @LT.lt Nat _ _ r1 := hTL _ hm1 _ (.tail _ (.head _))
    dsimp only at hs1 hs2
    have ev1' : us[((c : Int).fmod 28).toNat]? = some (.ref r1) := by rw [fmod28 c]; exact ev1
    have hf0 : 0 ≤ (c : Int).fmod 28 := by rw [fmod28 c]; omega
    have hf1 : (c : Int).fmod 28 < 2 ^ 63 := by rw [fmod28 c]; omega
    have N6 := news_add N3 (mem6 N3 hm1)
    clear N3
    k_steps
    refine unhalt ?_
    with_reducible (rename News _ _ _ _ => N3)
    refine item_listL (News.isList N3 (by k_mem)) hf0 hf1 ev1' ?_
    k_steps
    refine unhalt ?_
    refine item_listL (News.isList N3 (by k_mem)) hf0 hf1 ev1' ?_
    k_steps
    refine unhalt ?_
    refine' c_rest ?zD (by omega) (by omega) (by omega) (by omega) (by omega) (by omega) b1 (by omega) _ _ _ _ _ _ _ _ _ _ _ _ _ _ _ ?kB ?kF ?kX N3 ?kT ?kk ?_
    case zD => first | exact Nat.le_of_ble_eq_true rfl | decide | (simp only [depth_under_make, depth_under_kw, depth_in1, depth_deeper, depth_caller]; (try dsimp only [ktrTop]); omega)
    case kB => k_asm
    case kF => k_asm
    case kX => k_asm
    case kT => k_asm
    case kk => exact rfl
    intro h8 tk8 t8 hp8 F8 N8
    clear N3 F3
    k_steps
    refine unhalt ?_
    with_reducible (rename News _ _ _ _ => N3)
    refine' c_apart ?zD (by omega) (Int.fmod_nonneg_of_pos _ b1) _ _ _ _ _ _ _ _ _ _ _ _ _ _ _ ?kB ?kF ?kX N3 ?kT ?kk ?_
    case zD => first | exact Nat.le_of_ble_eq_true rfl | decide | (simp only [depth_under_make, depth_under_kw, depth_in1, depth_deeper, depth_caller]; (try dsimp only [ktrTop]); omega)
    case kB => k_asm
    case kF => k_asm
    case kX => k_asm
    case kT => k_asm
    case kk => exact rfl
    intro h9 tk9 F9 N9
    by_cases hap : Int.gcd n0 (Int.fmod ((numAt (c % 28)).2.1 + (numAt (c % 28)).2.2 * ((lawRoot n0 a0 b0 : Nat) : Int)) n0) = 1
    · rw [decide_eq_true hap]
      k_steps
      rcases hA1 : numAt (c % 28) with ⟨n1, c1, d1⟩
      have hRB : rootAt (c % 28) = lawRoot n1 c1 d1 := by unfold rootAt; rw [hA1]
      rw [hA1] at N9 B1 B2 B3 B4 B5 B6 B7 B8 hap
      rw [hRB] at B7 B8
      dsimp only at N9 B1 B2 B3 B4 B5 B6 B7 B8 hap
      try clear N3
      refine unhalt ?_
      refine wpAny_execs_cons ?_
      try k_fold
      k_steps
      refine unhalt ?_
      with_reducible (rename News _ _ _ _ => N3)
      refine item_listL (News.isList N3 (by k_mem)) hf0 hf1 ev1' ?_
      k_steps
      refine unhalt ?_
      refine wpAny_execs_cons ?_
      try k_fold
      k_steps
      refine unhalt ?_
      with_reducible (rename News _ _ _ _ => N3)
      have lT := ltp N3 (allLt_lt (by with_unfolding_all assumption))
      refine' c_root ?zD B1 B2 B3 B4 B5 B6 (fun p hp => Nat.ne_of_lt (lT p hp)) ⟨_, B7, B8⟩ _ _ _ _ _ _ _ _ _ _ _ _ _ _ _ ?kB ?kF ?kX N3 ?kT ?kk ?_
      case zD => first | exact Nat.le_of_ble_eq_true rfl | decide | (simp only [depth_under_make, depth_under_kw, depth_in1, depth_deeper, depth_caller]; (try dsimp only [ktrTop]); omega)
      case kB => k_asm
      case kF => k_asm
      case kX => k_asm
      case kT => k_asm
      case kk => exact rfl
      intro h10 tk10 t10 F10 N10
      replace N10 := news_keep2 N10
      try clear N3
      k_steps
      refine unhalt ?_
      refine wpAny_execs_cons ?_
      try k_fold
      k_steps
      refine unhalt ?_
      with_reducible (rename News _ _ _ _ => N3)
      refine' c_rest ?zD (by omega) (by omega) (by omega) (by omega) (by omega) (by omega) b1 (by omega) _ _ _ _ _ _ _ _ _ _ _ _ _ _ _ ?kB ?kF ?kX N3 ?kT ?kk ?_
      case zD => first | exact Nat.le_of_ble_eq_true rfl | decide | (simp only [depth_under_make, depth_under_kw, depth_in1, depth_deeper, depth_caller]; (try dsimp only [ktrTop]); omega)
      case kB => k_asm
      case kF => k_asm
      case kX => k_asm
      case kT => k_asm
      case kk => exact rfl
      intro h11 tk11 t11 hp11 F11 N11
      try clear N3
      k_steps
      refine unhalt ?_
      refine wpAny_execs_cons ?_
      try k_fold
      k_steps
      refine unhalt ?_
      have hY0 := Int.fmod_nonneg_of_pos (c1 + d1 * ((lawRoot n0 a0 b0 : Nat) : Int)) b1
      have hY1 := Int.fmod_lt_of_pos (c1 + d1 * ((lawRoot n0 a0 b0 : Nat) : Int)) b1
      have hap0 : apartAt k0 (c % 28) = true := by
        unfold apartAt restAt
        rw [hA, hA1, hRA]
        exact decide_eq_true hap
      obtain ⟨tv, ok1, ok2, hsym⟩ := law_lines k0 hk0 (c % 28) hkc hap0
      unfold lineAt restAt at ok1 ok2
      rw [hA, hA1, hRA] at ok1 ok2
      dsimp only at ok1 ok2
      with_reducible (rename News _ _ _ _ => N3)
      refine' c_figures ?zD (by omega) b7 hY0 hY1 b2 _ _ _ _ _ _ _ _ _ _ _ _ _ _ _ ?kB ?kF ?kX N3 ?kT ?kk ?_
      case zD => first | exact Nat.le_of_ble_eq_true rfl | decide | (simp only [depth_under_make, depth_under_kw, depth_in1, depth_deeper, depth_caller]; (try dsimp only [ktrTop]); omega)
      case kB => k_asm
      case kF => k_asm
      case kX => k_asm
      case kT => k_asm
      case kk => exact rfl
      refine ⟨hp11, ?_⟩
      intro h12 tk12 lF1 uF1 F12 iF1 N12 lt12
      try clear N3
      k_steps
      refine unhalt ?_
      obtain ⟨g1, g2, g3, g4, g5, g6, g7, g8, g9⟩ := told_facts ok1
      with_reducible (rename News _ _ _ _ => N3)
      with_reducible (rename Fr _ _ _ _ => F3)
      refine' c_told (outer := []) ?zD (by decide) iF1 g1 g2 g3 (fun p hp => Nat.ne_of_lt (lt12 p hp)) g4 g5 g6 g7 g8 g9 ?kX ?kT ?kB F3 ?kX2 N3 ?kT2 rfl (fun b hb => absurd hb List.not_mem_nil) ?_
      case zD => first | exact Nat.le_of_ble_eq_true rfl | decide
      case kB => k_asm
      case kX => k_asm
      case kX2 => k_asm
      case kT => k_asm
      case kT2 => k_asm
      intro k' h13 tk13 lT1 uT1 cT1 TK FK IU NK off13 BK DK
      replace FK := unturnF TK FK
      replace NK := unturnN TK NK
      replace NK := news_d2 NK
      rw [show toldUp (toldW _) 3 = [tv] from ok2] at IU
      obtain ⟨tt1, uu, rfl, hnil⟩ := ints_cons IU
      cases hnil
      try clear N3
      try clear F3
      k_steps
      refine unhalt ?_
      refine wpAny_execs_cons ?_
      try k_fold
      obtain ⟨ok3, ok4, hv0, hv2, hcub⟩ := hsym
      unfold lineAt restAt at ok3 ok4
      rw [hA, hA1, hRB] at ok3 ok4
      dsimp only at ok3 ok4
      unfold restAt at hcub
      rw [hA, hA1, hRA] at hcub
      dsimp only at hcub
      have hZ0 := Int.fmod_nonneg_of_pos (a0 + b0 * ((lawRoot n1 c1 d1 : Nat) : Int)) B1
      have hZ1 := Int.fmod_lt_of_pos (a0 + b0 * ((lawRoot n1 c1 d1 : Nat) : Int)) B1
      k_steps
      refine unhalt ?_
      with_reducible (rename News _ _ _ _ => N3)
      refine' c_rest ?zD (by omega) (by omega) (by omega) (by omega) (by omega) (by omega) B1 (by omega) _ _ _ _ _ _ _ _ _ _ _ _ _ _ _ ?kB ?kF ?kX N3 ?kT ?kk ?_
      case zD => first | exact Nat.le_of_ble_eq_true rfl | decide | (simp only [depth_under_make, depth_under_kw, depth_in1, depth_deeper, depth_caller]; (try dsimp only [ktrTop]); omega)
      case kB => k_asm
      case kF => k_asm
      case kX => k_asm
      case kT => k_asm
      case kk => exact rfl
      intro h14 tk14 t14 hp14 F14 N14
      try clear N3
      k_steps
      refine unhalt ?_
      with_reducible (rename News _ _ _ _ => N3)
      refine' c_figures ?zD (by omega) B7 hZ0 hZ1 B2 _ _ _ _ _ _ _ _ _ _ _ _ _ _ _ ?kB ?kF ?kX N3 ?kT ?kk ?_
      case zD => first | exact Nat.le_of_ble_eq_true rfl | decide | (simp only [depth_under_make, depth_under_kw, depth_in1, depth_deeper, depth_caller]; (try dsimp only [ktrTop]); omega)
      case kB => k_asm
      case kF => k_asm
      case kX => k_asm
      case kT => k_asm
      case kk => exact rfl
      refine ⟨hp14, ?_⟩
      intro h15 tk15 lF2 uF2 F15 iF2 N15 lt15
      try clear N3
      k_steps
      refine unhalt ?_
      obtain ⟨g1', g2', g3', g4', g5', g6', g7', g8', g9'⟩ := told_facts ok3
      with_reducible (rename News _ _ _ _ => N3)
      with_reducible (rename Fr _ _ _ _ => F3)
      refine' c_told (outer := []) ?zD (by decide) iF2 g1' g2' g3' (fun p hp => Nat.ne_of_lt (lt15 p hp)) g4' g5' g6' g7' g8' g9' ?kX ?kT ?kB F3 ?kX2 N3 ?kT2 rfl (fun b hb => absurd hb List.not_mem_nil) ?_
      case zD => first | exact Nat.le_of_ble_eq_true rfl | decide
      case kB => k_asm
      case kX => k_asm
      case kX2 => k_asm
      case kT => k_asm
      case kT2 => k_asm
      intro k'2 h16 tk16 lT2 uT2 cT2 TK2 FK2 IU2 NK2 off16 BK2 DK2
      replace FK2 := unturnF TK2 FK2
      replace NK2 := unturnN TK2 NK2
      replace NK2 := news_d2 NK2
      rw [show toldUp (toldW _) 3 = [tv] from ok4] at IU2
      obtain ⟨tt2, uu2, rfl, hnil2⟩ := ints_cons IU2
      cases hnil2
      try clear N3
      try clear F3
      k_steps
      refine unhalt ?_
      refine wpAny_execs_cons ?_
      try k_fold
      k_steps
      refine unhalt ?_
      with_reducible (rename News _ _ _ _ => N3)
      with_reducible (rename Fr _ _ _ _ => F3)
      k_dflt (refine LCt.Assign_ListComp_T (F₀ := F3) (by rfl) (by with_unfolding_all rfl) (by with_unfolding_all rfl) (by decide) (by rfl) (by decide) (by rfl) (by rfl) (by rfl) ?_)
      k_steps
      refine unhalt ?_
      with_reducible (rename News _ _ _ _ => N3)
      with_reducible (rename Fr _ _ _ _ => F3)
      with_reducible (rename IsRange _ _ _ _ _ _ _ _ => R5)
      refine LCt.CompSrcT.range (n := n0.toNat) rfl F3 N3 R5 (range_small_0 b1 b2) (range_size_0 b1) (by rw [sizeLine_eq]; omega) (fun gg => rest_T (CubJ n0 (Int.fmod (c1 + d1 * ((lawRoot n0 a0 b0 : Nat) : Int)) n0)) trivial .nil ?ustep ?ufin)
      case ustep =>
        rintro i v ys I' oI C oC D9 m₂ h' tk' E' hi ⟨tv9, rfl⟩ hJ hC hm F5 N5
        clear F3 N3
        k_steps
        refine ⟨fun hok => ?_, fun hno => ?_⟩
        · have e := eq_of_beq hok
          dsimp only at e
          rw [Int.zero_add] at e
          k_steps
          refine ⟨_, _, rfl, F5, N5, ?_⟩
          rw [cub_yes e, Int.zero_add]
          exact Mine.ints_append hJ (.cons _ _ .nil)
        · have e := beq_eq_false_iff_ne.mp hno
          dsimp only at e
          rw [Int.zero_add] at e
          refine ⟨_, _, rfl, F5, N5, ?_⟩
          rw [cub_no e]
          exact hJ
      case ufin =>
        rintro ys hJ D9 h' tk' F5 N5 off5
        clear F3 N3
        replace hJ : IntsAre ys (cubesAt n0 (Int.fmod (c1 + d1 * ((lawRoot n0 a0 b0 : Nat) : Int)) n0)) := hJ
        k_steps
        refine unhalt ?_
        refine wpAny_execs_cons ?_
        try k_fold
        with_reducible (rename News _ _ _ _ => N3)
        with_reducible (rename Fr _ _ _ _ => F3)
        refine st_mono F3 N3 ?_ ?_
        · generalize cubesAt n0 (Int.fmod (c1 + d1 * ((lawRoot n0 a0 b0 : Nat) : Int)) n0) = cu at hJ hcub
          have h3 : tv = 0 ∨ tv = 1 ∨ tv = 2 := by omega
          cases hJ with
          | nil =>
            rcases h3 with rfl | rfl | rfl
            · exact absurd rfl (hcub.mp rfl)
            · k_steps
              with_reducible (rename News _ _ _ _ => N9)
              with_reducible (rename Fr _ _ _ _ => F9)
              exact ⟨rfl, _, _, rfl, F9, news_tl (news_tl N9)⟩
            · k_steps
              with_reducible (rename News _ _ _ _ => N9)
              with_reducible (rename Fr _ _ _ _ => F9)
              exact ⟨rfl, _, _, rfl, F9, news_tl (news_tl N9)⟩
          | cons z zt hJ =>
            have e0 : tv = 0 := hcub.mpr (List.cons_ne_nil _ _)
            subst e0
            k_steps
            · with_reducible (rename (true != !decide (_ = [])) = true => hx)
              rw [decide_eq_false (List.cons_ne_nil _ _)] at hx
              exact absurd hx (by decide)
            · with_reducible (rename News _ _ _ _ => N9)
              with_reducible (rename Fr _ _ _ _ => F9)
              exact ⟨rfl, _, _, rfl, F9, news_tl (news_tl N9)⟩
        · rintro f s' ⟨rfl, h20, tk20, rfl, F20, N20⟩
          try clear N3
          try clear F3
          k_steps
          refine unhalt ?_
          refine wpAny_execs_cons ?_
          try k_fold
          with_reducible (rename News _ _ _ _ => N3)
          with_reducible (rename Fr _ _ _ _ => F3)
          refine th_mono (thirdOf a0) F3 N3 ?_ ?_
          · by_cases h3 : a0.fmod 3 = 2
            · rw [show thirdOf a0 = (a0 + 1).fdiv 3 from if_pos h3]
              k_steps
              all_goals first
                | exact absurd h3 (by assumption)
                | (with_reducible (rename News _ _ _ _ => N9)
                   with_reducible (rename Fr _ _ _ _ => F9)
                   exact ⟨rfl, _, _, _, rfl, F9, N9⟩)
            · rw [show thirdOf a0 = (1 - a0).fdiv 3 from if_neg h3]
              k_steps
              all_goals first
                | exact absurd (by assumption) h3
                | (with_reducible (rename News _ _ _ _ => N9)
                   with_reducible (rename Fr _ _ _ _ => F9)
                   exact ⟨rfl, _, _, _, rfl, F9, N9⟩)
          rintro f s' ⟨rfl, h21, tk21, t21, rfl, F21, N21⟩
          try clear N3
          try clear F3
          obtain ⟨sok1, sok2⟩ := law_sup k0 hk0
          rw [hA, hRA] at sok1 sok2
          dsimp only at sok1 sok2
          have hS0 := Int.fmod_nonneg_of_pos (1 - ((lawRoot n0 a0 b0 : Nat) : Int)) b1
          have hS1 := Int.fmod_lt_of_pos (1 - ((lawRoot n0 a0 b0 : Nat) : Int)) b1
          k_steps
          refine unhalt ?_
          with_reducible (rename News _ _ _ _ => N3)
          refine' c_sub ?zD _ _ _ _ _ _ _ _ _ _ _ _ _ _ _ ?kB ?kF ?kX N3 ?kT ?kk ?_
          case zD => first | exact Nat.le_of_ble_eq_true rfl | decide | (simp only [depth_under_make, depth_under_kw, depth_in1, depth_deeper, depth_caller]; (try dsimp only [ktrTop]); omega)
          case kB => k_asm
          case kF => k_asm
          case kX => k_asm
          case kT => k_asm
          case kk => exact rfl
          intro h24 tk24 t24 hp24 F24 N24
          try clear N3
          k_steps
          refine unhalt ?_
          with_reducible (rename News _ _ _ _ => N3)
          refine' c_mod ?zD b1 (by omega) _ _ _ _ _ _ _ _ _ _ _ _ _ _ _ ?kB ?kF ?kX N3 ?kT ?kk ?_
          case zD => first | exact Nat.le_of_ble_eq_true rfl | decide | (simp only [depth_under_make, depth_under_kw, depth_in1, depth_deeper, depth_caller]; (try dsimp only [ktrTop]); omega)
          case kB => k_asm
          case kF => k_asm
          case kX => k_asm
          case kT => k_asm
          case kk => exact rfl
          intro h25 tk25 t25 hp25 F25 N25
          try clear N3
          k_steps
          refine unhalt ?_
          with_reducible (rename News _ _ _ _ => N3)
          refine' c_figures ?zD (by omega) b7 hS0 hS1 b2 _ _ _ _ _ _ _ _ _ _ _ _ _ _ _ ?kB ?kF ?kX N3 ?kT ?kk ?_
          case zD => first | exact Nat.le_of_ble_eq_true rfl | decide | (simp only [depth_under_make, depth_under_kw, depth_in1, depth_deeper, depth_caller]; (try dsimp only [ktrTop]); omega)
          case kB => k_asm
          case kF => k_asm
          case kX => k_asm
          case kT => k_asm
          case kk => exact rfl
          refine ⟨hp25, ?_⟩
          intro h22 tk22 lF3 uF3 F22 iF3 N22 lt22
          try clear N3
          k_steps
          refine unhalt ?_
          obtain ⟨q1, q2, q3, q4, q5, q6, q7, q8, q9⟩ := told_facts sok1
          with_reducible (rename News _ _ _ _ => N3)
          with_reducible (rename Fr _ _ _ _ => F3)
          refine' c_told (outer := []) ?zD (by decide) iF3 q1 q2 q3 (fun p hp => Nat.ne_of_lt (lt22 p hp)) q4 q5 q6 q7 q8 q9 ?kX ?kT ?kB F3 ?kX2 N3 ?kT2 rfl (fun b hb => absurd hb List.not_mem_nil) ?_
          case zD => first | exact Nat.le_of_ble_eq_true rfl | decide
          case kB => k_asm
          case kX => k_asm
          case kX2 => k_asm
          case kT => k_asm
          case kT2 => k_asm
          intro k'3 h23 tk23 lT3 uT3 cT3 TK3 FK3 IU3 NK3 off23 BK3 DK3
          replace FK3 := unturnF TK3 FK3
          replace NK3 := unturnN TK3 NK3
          rw [show toldUp (toldW _) 3 = [(thirdOf a0).fmod 3] from sok2] at IU3
          obtain ⟨tt3, uu3, rfl, hnil3⟩ := ints_cons IU3
          cases hnil3
          try clear N3
          try clear F3
          k_steps
    · rw [decide_eq_false hap]
      k_steps
      refine unhalt ?_
      refine wpAny_execs_cons ?_
      try k_fold
      k_steps
      with_reducible (rename News _ _ _ _ => N3)
      with_reducible (rename Fr _ _ _ _ => F3)
      have hne : c ≠ T0 := by
        intro e
        have hq := hT1
        rw [← e] at hq
        unfold apartAt restAt at hq
        rw [hA, hRA] at hq
        exact hap (of_decide_eq_true hq)
      exact unhalt (IH (c + 1) _ _ (by omega) (LWI.intro F3 (news_tl N3) (by omega) rfl rfl rfl rfl rfl))
end
end Mine
theorem PySem.Challenge.cw_il0182_01_holds : PySem.Challenge.rw_il0182_01.Holds := by
  exact Mine.main
