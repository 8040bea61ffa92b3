import PyProof.Rows.All
import OpenK.KDescr
import OpenK.KMake
import OpenK.KCls
import KE.KLam
import KE.KFromBytes
import KE.KStopIter
import Wide.FinOn
import OpenK.AllK
import Wide.All
import Lean
import PySem.Challenge.RW_il0209_01
set_option Elab.async false
set_option maxRecDepth 100000
set_option maxHeartbeats 0
set_option linter.unusedVariables false
namespace Mine
open PySem PySem.W PyProof.Rows PySem.Calls PySem.SeqAt
open _root_.Array renaming length_toList->aM
open _root_.Bool renaming false_ne_true->ab,not_eq_true'->aN,and_eq_true->bf
open _root_.Int renaming natCast_nonneg->aX
open _root_.List renaming length_append->ae,length_map->ak,mem_cons->ao,mem_singleton->az,length_cons->aC,getElem?_eq_getElem->aD,mem_map->aE,map_map->aQ,append_assoc->aR,length_singleton->aV,all_eq_true->aW,getElem?_eq_some_iff->aY,map_append->be
open _root_.Nat renaming le_trans->aj,eq_of_beq_eq_true->au,le_add_left->aB,le_refl->aF,lt_of_lt_of_le->aI,le_of_eq->aO,lt_of_le_of_lt->aS,le_add_right->ba,mul_le_mul_left->bc,lt_succ_self->bh
open _root_.Option renaming isSome_iff_exists->ax
open _root_.Option.some renaming inj->ag
open _root_.PySem renaming Shared->af,wpAny_bind->ah,Value->ai,wpAny_mono->am,wpAny->an,World->aq,Params->aw,wpAny_pure->ay,bindArgs->aJ,Around->aL,wpAny_execs_cons->bg,DictEntry->bj
open _root_.PySem.Heap renaming get?_push_of_some->aA,get?_push_size->aT
open _root_.PySem.W.Fast renaming te14364793385576792824->aP,te10110043849684766642->a0
open _root_ renaming decide_eq_true->ac,of_decide_eq_true->ar,if_neg->av,decide_eq_false->aG,if_pos->aH,absurd->aK,congrArg->aU,decide_eq_true_iff->aZ
set_option compiler.extract_closed false
set_option hygiene false
local macro_rules (kind := Lean.Parser.Command.declaration)
  | s => let d := s[1]; let k := d[0].getAtomVal; if k == "theorem" && d[0].getPos?.isSome then return s.setArg 1 (d.setArg 0 (Lean.mkAtom k)) else if (k == "def" || k == "abbrev") && s[0][4].getNumArgs == 0 then return s.setArg 0 (s[0].setArg 4 (Lean.mkNullNode #[Lean.mkNode ``Lean.Parser.Command.«noncomputable» #[Lean.mkAtom "noncomputable"]])) else Lean.Macro.throwUnsupported
local macro_rules (kind := «term[_]»)
  | s => match s[1][0].isStrLit? with | some t => if t.front == '#' then return s.setArg 1 (Lean.mkNullNode (Lean.mkSepArray ((t.splitOn " ").tail.toArray.map fun x => Lean.mkNode `rawNatLit #[Lean.mkAtom "nat_lit", Lean.Syntax.mkNatLit (x.toList.foldl (fun n c => n * 71 + c.toNat - (if c.toNat < 58 then 48 else if c.toNat < 92 then 55 else 56)) 0)]) (Lean.mkAtom ","))) else Lean.Macro.throwUnsupported | none => Lean.Macro.throwUnsupported
universe u
theorem cps{P:Prop}(h:∀G:Prop,(P->G)->G):P:=h P id
@[elab_as_elim] theorem Yx{α:Sort u}{a b:α}{motive:α->Prop}(x:motive b)(h:a=b):motive a:=h▸x
@[elab_as_elim] theorem xr{α:Sort u}{motive:α->Prop}(e:α)(h:∀x,motive x):motive e:=h e
@[elab_as_elim] theorem xt{α:Sort u}{motive:α->Prop}(e:α)(h:∀x,e=x->motive x):motive e:=h e rfl
theorem nZ{α β:Type}{a c:α}{b d:β}(h:some (a,b)=some (c,d)):a=c/\b=d:=⟨aU Prod.fst (ag h),aU Prod.snd (ag h)⟩
theorem Sp{l r:Nat}(a:l<=r:=by simp+arith only):l<=r:=a
theorem ir{l r a x:Nat}(h:a<=x)(b:l+x<=r+a:=by simp+arith only):l<=r:=Nat.le_of_add_le_add_right (aj (Nat.add_le_add_left h l) b)
theorem k9{l r a x b y:Nat}(h:a<=x)(c:b<=y)(d:l+(x+y)<=r+(a+b):=by simp+arith only):l<=r:=ir (Nat.add_le_add h c) d
theorem AX{l r a x b y c z:Nat}(h:a<=x)(d:b<=y)(e:c<=z)(f:l+(x+(y+z))<=r+(a+(b+c)):=by simp+arith only):l<=r:=ir (Nat.add_le_add h (Nat.add_le_add d e)) f
theorem XI{a b c:Nat}(h:a=b+1-c)(k:c<b):b+1-(c+1)<a:=h▸Nat.sub_lt_sub_left (Nat.lt_succ_of_lt k) (bh c)
theorem Zc{a b c d:Nat}(h:a<=b)(k:c+d=b-a):b-c=a+d:=Nat.sub_eq_of_eq_add (by rw[<-Nat.sub_add_cancel h,<-k,Nat.add_comm,Nat.add_comm c,Nat.add_assoc])
theorem Zd{a b c d:Nat}(h:a+b=c-d):a<=c:=aj (ba a b) (h▸Nat.sub_le c d)
theorem Ze{a b c:Nat}(h:a<b)(k:c=b-(a+1)):b-c=a+1:=k▸Nat.sub_sub_self h
theorem Zf(b:Nat){a:Nat}(h:b<=a):min ((b:Int).toNat) a=b:=by rw[Int.toNat_natCast];exact Nat.min_eq_left h
theorem U4(k:Nat):((0:Int)+(k:Int)).toNat=k:=by rw[Int.zero_add,Int.toNat_natCast]
theorem Yy(k:Nat):((k:Int)-0).toNat=k:=by rw[Int.sub_zero,Int.toNat_natCast]
theorem XJ(k:Nat):((k:Int)+1-1).toNat=k:=by rw[Int.add_sub_cancel,Int.toNat_natCast]
abbrev pw:Program:=PySem.Challenge.pw_il0209_01
abbrev pF:Program:=PySem.Challenge.pw_il0209_01
theorem fu:PySem.Challenge.pw_il0209_01=pF:=rfl
def S(l:List Nat):Str:=⟨⟨l⟩⟩
def E(P:aw)(x:Str)(t:Nat)(v:ai):bj:=⟨PyData.keyHash P x,.str x t,v⟩
abbrev Ft:=Arguments×List Stmt×Scope
def Dc:Ft:=(⟨[],[],none,[],[],none,[]⟩,[],⟨.function,[],false,false,[]⟩)
def Sr:Option Stmt->Ft
 |some (.FunctionDef _ a b _ _ _ sc _ _ _)=>(a,b,sc)
 |_=>Dc
def ft(i:Nat):Ft:=Sr pF.main.body[i]?
def IC:Option Stmt->List Stmt
 |some (.ClassDef _ _ _ b _ _ _ _ _ _ _)=>b
 |_=>[]
def fm(i j:Nat):Ft:=Sr (IC pF.main.body[i]?)[j]?
def FD(x:Ft)(name c:Str)(a d e:ai)(g b:Addr):FuncData:=
 {name:=name,qualname:=c,params:=x.1,body:=.stmts x.2.1,scope:=x.2.2,globals:=g,closure:=[],defaults:=d,kwdefaults:=.none,pyModule:=e,code:=a,builtins:=b}
def YB:List Nat:=["# D03 DEX JZa pxm7 Gc6 J]U J]R ~N^L ~VyG JZd Jdf D3g ~P}Q 3]nQys D04 Hsy D7J D1z JZc g`n_ IcA D06 D96 IAt D9B D~i D9T KrP JxX JfR D2B Jdl K7v Kyc DCi DD8 Iqf J}x KT] IAl LWx D5X J}s H1y IAr K67 Ixg KbJ L`C FQM Ic6 Iqi Iqk II[ LPw IAd 4_SC{9 D95 IjT Ly4 MIH Ifg 34n5dL IcG D94 I3U H{M Iur IAs D5] MkE ILU IrF KZ[ JaG LP~ {OoY 1B64h D07 MGE"]
def V4:List (List Nat):=[
["# hK7ELMrT 2J|dBeWqMS DRlrS|k VvK^F3RQB_s2 2W8621[zyg DScvw3e L3X9XKHt6RL[LQmg DRxK9u] |0FS zkkB }7ry C8OBk_l K^4 8H`0LUse_x_ kD0eXO5I Irw 3z^e~L 44Lc3[ {r`e c6PXC`z_ 3R`Y]O 1BLR5 40CYye Ee[ydZz"],
["# 2JwoE09V1g Ee[yVLY 3O}IuB |yQ] I76 3WxAWm S]H7ThJU9g5k Tez^f5WH|mu9 NCf 1C`dG Id1 dx0N`~I5 |yCC K^F 3Wxhwh CYgHLcV |DJH I7y |lvf 3W}r`n {rzw B{YUx8n 44LcW^ 3MUShA"],
["# zyCx 3WGj^L yZyu 8FkhP^rQaaM 1Vd1B5Ib9Vaf}B 4Ei[u^ 3N01Iq 3Rc3Cf T|KPb7In|YU8 2MZCOHhzj4 1BgUk 1V`ptB_~by{zFW 3Zgtu] 3Wtt65 2Z`aFILfAU 4HO1w7 40Cr5q 2KYS^Pw1PE 8PF~fRXawnt IyR 3Wwo6u {WBs CZOW89F B}pqaOS"],
["# c9EtmG[a Iz4 B}nBCKb 5Et7|yiE`He2o2I MBh CTkiZ5d 3z_vXo 3M~7dK {W`u hKC2cmmW 1so`ZB}TuQY_[y Cr8UyWyfuxdOpHk8O[wG 2p6UTAofEX 1[CHMrR{tFwq_T C{{]Sf4VgMfINWBDLf|2 TkQjj0P[dE_a 6Z7mOjZzWFloMWi 2kuuP0pxTn 9sl`o2WjuIX 2kkityg4FW 49M^jY 49V42a 2kkXGHMBp_ ml1hEiOK"],
["# EwvsGDH 1APZA ZXKutaS~HyNJ 9sUnT[olF2c 1FR_|hyf[~a}|mFraw A4bcH~qS}12 2klUF}duL6 mkc~WHPb EwvspS~ mkOduR{1 EgLhN_3 1pxIOAz12}gZkx ZXiGefzL[pvG 6Z[Hz|yH[IAoh_h 9hYawBROAax N3_|~`Iui[fYby1i 1nvlk1tgU`z0F` 1nvlk1tg9Lre7Y 9hYawBR9ljN nusXCq6Zs^9VWZV6A3{xG 1C7t8nVAv^{M6VSm~j N3_|~`IJLjgfYc6N 6RwG5}hee_v7dnR 1nvlk1tg[BZklE"],
["# 9hYawBR9QPC 9suSXiSdXJT 1DV^IKN[[o3H}j_FMH 2kuuPllQIk 1pxB|^jB7jBv4N NTc0X1Woj0X3aXVR ZXJczUDElkTl 6ZEA`OgftUlXYSr NTy17X{sywsDlItK ZZVTmuj9ZkqK 4KXAaDAIrC[E9TKDnZs 9s]Mbx^fbwA 9t2BG5A3IQ3 1DVb22m^6GPDwl3s|G Ex4`Toi 49Vwu3 4KUuNuKSI^VBg~RZUr] 6Z86XW4VvBWJbNO 4Ki]jBCVj`LPrY[E^1g 2kuuMdaSNo 1DVBqCQ6S_}Lz|3UX7 mn7Zf|j| 1pw3^Tl99X5pDL NTcCMZ1Oqiy}cVO0"],
["# 1DUnMxpiQ1EQjKWLU8 6ZCl{v67poP8e]Q 49Rheo 1p}cyS2oW6tkvH 1p}cyV|UmMVXR8 1DXW75wa]upCJf~~`Z JT[ac0{a2lte0P]4 1pxJ0KtXJvT64Q MaM 18^|l 3Wu{io 3Wu{tU 8HKqdIOWu40 dxJV~0aY FCenbO0 3UG~Jr DSE9lvc 17W85 8GLFdnH^f5_ 1ASiax81xgkVM4YVFl Av|EDpJeyS2XyU7}szSNihWzF|]^xf1FxuOur Tm^eeFB4TeWD 2|ybO{6z|r~rbSk2JX`bTcWSkPK11DL5LGFa Ox2SD87}g74pXiViwKYU7ro0HL^[J"],
["# 49[Xq6BtiMZrqs7Dqjn 10jgViUYgwJKinfqdp 1_yKVGJgA5p}V66yGKH8l4uIKOZ E]R 6ZLJFz6^6f~gz7f3EPBew}9ldWJV 8~SX_T3T1vduJkq0C}dt 8^KC6Ak6NQ9X_C9_{|2tLZb7 3kJG5lezcpdsdT|wKxgKYriF11KQYf23 Up2kaCfErIGA}A_cZRH_P^`o[ hRh7uMfT|D4M7Kaqwma|DAmQCpA{OoHaP7 8~SX_T3T1w2AsjFkyY|p 1c{lZNqSFmnE^D Vvbr5M[ZA4C2 DSQisUG Jw7rgA4kSOrlnRbT 2W6P9479WH 3N01Gb 1{whKHof6J 1 3pEzbW S]mFnWBYvcY8 IpnxobWDeutkn}~y IpnxobWDexYDWLhz ~Q_j~5Y8]gD3bP8L9"],
["# ~Q_j~5Y8]gFh42U~A AsaQq42 7EO5VIegzE8 RBAcfCKYXoZ} R5q{DtsWgX2T 4vkex5x050Fs7kYEapiXg|BkLjBS{tD`t3[w|]bSD1L__8]R|}UoZThij7M^WX`s8mk 2WEWk_U6^H {NzAjvhv6DEW6q[pe 5sX4{jeqg2gE34M 23jWlyz9YE 2YCW3bmdT] 2mxEgYhDuj 1juHOR6KNuNxRy Xpetsz6DzbR[ mBQuy3g{ 1VtJnB559Jl`gU 1Vtb3leFaXYTA1 1juHOR6KNRgF]V 3tuBAUreyb}fJBcrF~} hKbq{ZrU 8sjx2aahjO| [W_8E`b_I4RN 8AYu4i|1M3bsrVbqSDH~]bm~dV4xs1m1p4L1CyfrO`A}6L^YF4_IeW0F2}0Se}]EAifDbqhP^K1DahzMZ]bz4PC_zQKYi^d~|X{nT1L|1rvABye~0eRZp[swCd{{wt9H]vQ2WDYzfOHum4mpiqlcaKDjXJQIP|JbqbQXqlUYa1PMlyX820L6RcgP[S{GPgT{Lj`Umy1l}NR_sr]Ynz~xyE1pESxcpBVttP`9wCWy6LTGjhAcn5fz}B[AZlS_aqdSr[A{9g^7}iJ0E^EmyNCZZYTQ^kH23u~ui|c7U}_FZk92jp`TVN~WbPwEiFV3jm92Dhs1i9zH[J5K6QY8cE`s`qOGVTn89BQHZEWAkc_GrHf`X|lheqWZtqpVDcygvjBsRAaeDf5vyx}Nw_y{xrde6s^jR`^ejw|A{eWAv9L0k2pLI2NDCwJP`Lq4Xuwkc{UFGZEQzbp{E`q|_uoF3FhZ3f0ON3QrS_`Cb8rae11vpftvk0YbhgxrNLcXr]a[58Ut4ylFb5{j8bC[B9Qqa[vXc_GBv4q6uDAe]K[er_HHyYYNYT4LcAgMzAQyQJczcy[0yIK]i8l3PCvVzx8BT}~__W`MCk[wR{K5xA|O5y3MM`j`AYQ`Vn2[5Ty1iaWUW^_kXedoVL2x75hoM0i9~SY7rD5Rt5SDJTF7idS5QvjhTC`OFWxBt0U{|Mg7{QjlOCQVbSs0Hlw5EWVd 7jUiF9UPzg6at[l9Q{lYNHpi}bP4t~22YH_5gxE}FjkMjZ{U[1XHoPo1xRWYN~R_]bG98UYxb[sZqScXiE|ykl9T8_fHGbKl^8Yx92Z}shNQz1ngiT]v|trrvX}tqE^azXi6{^O6`rvzgtxuZ__PBqW[Dtm4EdJMuqB^go{W3r5KMLrZW}Imh5Bpj]AZtisBgVnG[Asi`{immOz27o}rGTft]kD96ey4yaBDkWW~r|9na6gw}ucg5CmbHJdehA}nDxcatH7|YftlHKw]kzhh~LYTIuYh~7MetsiU5mED~nIs~sRb_j_wyBM_t8av__CvAAgQ{5Hw9~1FvI2X3cgLib^6mpgNeX`CIThj9^C0Db7{TDoPAN`pv6uI[NrZMYc5svs_TY2ebo9lKII~iXXK2Ci9iWxh7p9WfBtj_gIC|GrxF3kWn2R2Y`]5^V6{LGy]XN4NMaCbsFmp2Il]5q}Z_yDEW[ZmE2qSc]{WyG7]DjGp}Rn[PeN0bReqQwvb{m3J{Qt|_ay9n3~pdzmm1B8{XGVR6hFX8ZzD^9]~3``obFZtr8C3uEqJQ|F[1"],
["# 3M}^S^ CUYp]IH 3m~a}K 1fGlGvRlL1SHdo 1`15B_zCweJoXL84QSzXlbCAMyv 12JB~1zjcrUHn5vPnnaMlYTQaJq{mEC YtaKYD6TDjB~ c62ZR]MF 1nwi]3AX_GRyw3 DRx2F~U DRvknxd 3jk30x B{Sj26D CY`r^Xc [Ka0~lu3NKrI hKESLuV4 9{PW3}^GO1R 83JCa~A3Cakx6P[`pL~E9{nq9UXiQk^hIRP|V~JhSVfHy{ma1Igj~Drt4h}WESnjH_{yspOudzYwvRv8jQ2eILEIL{2QgMDEW39}I6jFTl8c0}KomwH_ob]^k]P2amTcv]_pwmGZaIxS`^G_oJT0LHQSFsAAZ[{PM^mGRi_wIT|]Yo3cE7Jop]yaLpFAl]Qn_w2qmzsWb}jOzSGHWDQElXinJ|o6[v]G|[Yoau4Kj{ggxOAi6OrevLYTzRP8saVuNe0lra8yjel29I1ND]lINFvEr[kVwHdvF[AoHPh{6krXbPAkOMub}m~je_Y4TAL]o~X~|cI4jfEzVtEH}ZSk]yk[}vc{v3I9dAhMOJ{{G4UcdJ|c^juLaJTb^vd9FlbXxH7Jg|iSQ{IJ7eiKO6W5orB9G2fIwh7d5^yzTITA_[orbw}jfj]ou]qOaTRWj[^JA_zxhHIt9WMQJw4zPXQ2Kli[GEHzcTjZeJ`jB~BuRG85n6QtYH^sSfLSr^pVzxGsUmQ6|R|ZTGvaJKDMk6pVHJfYdKK{dCX 7lDpSdCn[53|]8Ub0OoHq]skc]3BbJ1pN8Pn5GlAY4~]C}BDaVwfXBtXBQAR30Kegw|`gn`t3DUsDJ^E1DYD6EN5wgdSx3}`_hIbajrHfzQKZA9ZUObNFVRI]7]8Wvf2`W19ql6vTvWDHG]R427Tnyt4bW~DofI_BqPZgZb^~yLsUQMmjw~r5S^2k{7nai`E7JD3sF8_ccMOrkC{h~xttCrsbqc2]A{f[w]25wui5IMJH0V^DPskESH9FbIWbItNAdeYtv0ANzhxf1LFlt[uImYX5NlA]AMu5}9JBBOEeP8_RyqD1i|Onxn6DpvaOKa~j|hR6Syjk47svU89EVq1mB9tf0SJC3c{KLcoEel_3^2Iro7J7tQ|k_tT^^q5gX[WFa0jX^~t638n8QC0TmUWbf{hlc``qnXtLMl~QdoR95F1Dfl`GCZ~2Aw J`kjy5eE1q0JEhUV 1[Bm~ReUWAq~cx 1j4]XuS~wIfM3g lngeKNaF1tcSie3Per_]i [Ud_JqB{cGO7"],
["# TkHDegY0`Bfx 58 CF[DKFv 5L 17q_s yKmD S]Wle`hl_p]V IuI y5Ek 1czbDEo`EZgj{v 2C4h_|fOF{ FLaHzf~ |0kY 2Jxg]n~G00 1FkTRkZAIpHxLcRX]f 5Dmi6h4Da0CBuw4 7xlMjgfb8na L3PAVVbuah|4xdVy L3PA_0FpqLiB0G6U 2DoUBO4O5E 4_ 6439`q2sXyzs37u2CuUXF^07hwca 6439b}XEpmuxKkS}eOgQL21oCcGc 4SiQ||gk0t3~XY__h1u"],
["# {B1UY2Wvwtv}iJBjo z35C 3Q{C1y 42sb^` C6blT5b 7xmCfmXqZke 3WEjRs Ed||pMK na6yQlKl 5G 3aUSFmCsLERP[XI7W0y eHK[b4ftqXLpnRujJiq6F 2Il`_2N|j5 C^xY`[2q5Ua_UqWf|Ya7 4} 5D Ike 4~ 133wp 3[ER|{ 8HNvI_1r`Ys 56 2Dpd`F{G2a 3MKXV_"],
["# 2Dpd_b3]5u |DvP e1hxcJC| 4{ ~`3JODNOVVh[qtzQ3 |4i~ 2K2Hnp`]2G MYP C6by~c[ 1rcs25JjBp 62 107aBbd840`HQoOclRwG2bzPhNas_Se J0Tg|5^vu14c90M6 eHK[f3{7paKyZlWS|~9p] 1Fa2TMSnRS~M8vrDK4 F3` F7C HeW Hlg JIs JQ3 GFZ FAo FER"],
["# FLb JMV HpJ EtA Hi4 FPE E{P JTf Ep^ Eek DXp D]S DhF Da0 Ddc fEt~`lV1AstYgWM{DHL7Q 3TB9lS cE}AC{4b Lu0 3AMsqx HW`hVktod56bG|HJ Iv8 yIL} 5B"],
["# 50 57 C1CD7B] CWBgY0m 3Qz~Ot 2ZlLrKXN27 O0sloaI7vT8JLFWg 3QEf0G{9Xu}cLuRJ7y| cE^{XYag Ifm 3Zjmyu Fr6lU0QFCAS0xqKlN3Lc 4EgYLk DRz06[i dwsak1H5 1c|20t{qzA490[ 6cSZpYUqdzMHvEl A0}eoT1n|ef 4cZoVoSL}oY2Tk}iKC3|~[9j9DHP 5_IJm^1jmoPXm^PnMe5_JDb_EmZJ JtCZRIWrDtBWnE`V {J`V 3}TaNJ T2NUsJlJSDOc"],
["# S^N7Q}QbHq4M B|KE64l 4Ej5Ul 3j{1}F hKbu{Zp` kC~lS|Lj 2b^u480joH kC~lUH[n Cf]ugM2 C63pglQ CMgl9uX 4GfALd 7xph`AaLDu6 T_{e7`sAP{{t zkky z^RJ iHdtP]Mf yICF 2sdQY_ dT{F]c[T 1v9ag|i[A1 cGC{0KxK 2Jv{renXv~ 3jz}J0"],
["# hKc0qB]X 3o}ave 8Fi~_WZ8H{{ ydlL 1rygUlWumsu8|T Vvd8}7dm0kBt 3RBH_G 83iYdCWv^F5 CY]Pe5f CYcJN0I 3UH_3D 3N5h~M 7x~D}3nN8As SXkF`ATfOdse A14r6kIX_9e 8tMdgu}wX0{ 1c{p7CwvI34FT8 1jskc89qXOvM~R 6DMP5q^ASqy9tHE 1jskcBDzk5aJww U8|2yr7DQz2L SnbM`NiX5OvO TNBB2YY6ZH2G A5iYrjq|Q}d"],
["# IsPcpsmbGW3SB5}q ~Q_XM5qhHkM]VDIsf 2GtBxMtirK |0vY B}nO^9M 2GSS2BmXiW 3N0yr0 1fGku9JQfpY07v 2DOIoV3[o{ 6m|l_Q9zzc~ doDLq}tV 1Yl|p{0U]W97tk 4WyvW{CmoNVeT[C 1VxDLOST~k1PRa 5UQPL2}5^GLWzFy 8tMZtLEk[f3 yXmH 1c{pUeUzV|nV~G 91LqE2u~YCm 3WEQ8Z J`[2EvtJKMzM3ct^ Vva1wMHfy2Ud 3Nfvcn 3WGCLc"],
["# 17Noa Ip8cZRkj2dqLvic1 83iYdCS{WR5 JdRs~wFR]V2inIFk 7x~D}3jS2Ms 6RxPoEfy7yP7[mD 2Jv{req|6O 44n~JD |4YN 3m IsPcpsmX6RaSawH] cGC{3o7e 8spwG8FWlR] 7wV4]yTWCpo 5F0kVk[Hm}_n2m{ 2G_[o[lRz6 8HNtwKFXu6T 5VVtWiUN~sy7h{j |EC} I88 2DuOg~fiB~ 7wj^AttearZ 4Fh349y2M`meXL8eTxe 1ZvZaNvG6BY2Dd"],
["# 2hfT^VW19e dzY]`9xq 2oEymkfl4Z 2WIY1df1KJ Vvd8yiw1{iXi XpF}Q7jc65Su 1jskcF8y0oVgAx XpF}Q{zEkEJ9 8PG6xtF23xf 7}Zamwj3e5I 89XbkBoZ6Y} 2pZ5o7~VY| 5Fx[_O4N5{S{kQy d3y}iwE8 cz8NOOa^ W[]{}|cCAScb c5wkjFkJ S^N7LlqhlA|P |Fmr 1ZvZaNsyvX6G{E 2WIV`t[rB1 VvdFUde3v4v} 5A yeCQ"],
["# 2Za^vi3w9o 5UQPL3KMrN_XL`m 8sp2DSPTzc| 2DuOgnci_J 5H 3MTqoF cbq6pFp| cbq6|tCo CW5iF[M 5ZrfijaJX}`qqd8 3Zgphr ~`kqeJgLthH5D9kWT Ygm|MAMQs}Ob 5FsOIIyKZW4gix1 1VtJnB559JktCV 9cm[iSzADKQ 9cm[iSz7I6H 1Xaruf6Xd7DqBj 2JaweqgW_` dCASEE9{ 3z^ajt Cd3V9S7 1c{p7PCVzbCQ23 8]mAMCkMT8ZH07rlWo{kX}Vb"],
["# z^vE 4Dbq1YtjUQjBxXXndoW 86Hnh2oOd_N kDGVu[K2 dr|IyITfmS3]vF1Aver4} CUn~ANh~fUTwMLYU]ROZ |lCE 1BK}U 1B^F^9Rfig4tc|kdgH B{uYigd 5{jOOt~BiNs`wn[ 2JV^x4}H`E CY_Pl4S 1B^F^9RfOZ3mki`JHD CejV|otsG6TGKzFj3Ha4 3Tm|_Y J]|Jmx_elqVXFMd_ VxYAIP4_N1N] 42qasy 5sYVXXr^]uSxF]S 3aWtqrHx`poz_iQ4]ux 3aWtqrHqKWlFkCzZs0h d{76ZphI 3OMmoA"],
["# yduo 6bTyF{GXdWDQXmN 838OCTDugny 838OBqHDmeu 4E3El` cE^PHsVQ 3o|8}W 7xhrCqw[Qeg 3b8pOiV1sTOCue[z4Vh 2JxZjR_O~_ 2L9N|w|9ej5B3U|ZB2`3pjH 2FFNu{Axv7 5JHz^`jYU1NDTuf dxK9E[]c J95 CY]PWU{ 3o~i2d CFS}9BA 2DObXhfbF~ G5q5ntC_^NBiPCD3 2MZdIX1Ioy THh]atys4AIu 88WIFRz0641 2YUWqlQ7Vl"],
["# zzxP 1YZMlI^hE}ipLb 2DWO4sL8Yt 1VeJJXKO42K5[^ 3Wwai2 3[BTAq CWDdqsW 2HPKl1F2`e Ter6V3YugO5h SVdN1z3_Lh|T CW7j24V 8FpW`iZpsxX 2DqbMtwd}e 3WH~lu 3WTPKa }7Qc 8GEgqhQPO1g 3WEDzL 3WEzVU yL`3 8FkO^fQVXSJ 7wCB]N{3_Xb J5t 5FtDD}4cwVXY[oT"]]
def V5:List (List String):=[
[SL.s14018661285674007319x4,"builtins.__doc__:str#opaque","builtins.__package__:str#opaque","builtins.__loader__:shared#opaque",SL.s11665532747177232413x24,SL.s15183661809925369436x15,SL.s13915890719876406383x10,SL.s13459172003223722735x3,SL.s10557405761357834076x3,SL.s4233737765568776869x3,SL.s2508922471967985374x5,SL.s15574269061696679450x3,SL.s6016482663378992977x10,SL.s5596568736180474577x8],
[SL.s2839554839881490554x3,SL.s725004073602090463x7,SL.s9436932552931045734x7,SL.s2754603736356183583x3,SL.s15185746759980889043x6,SL.s8192189862530294059x4,SL.s7038307821325472102x4,SL.s5662562618415449548x6,SL.s15281542589158584767x7,SL.s17651547275483570877x7,SL.s4036449017235975746x7,SL.s8879979712987360175x4,SL.s1801250619170735830x3,SL.s17659931425627118568x2],
[SL.s6063217899685152688x5,SL.s8008927332132565319x10,SL.s3544116645089599534x10,SL.s13761710972054866084x4,SL.s12896375587409280029x5,SL.s13014049009108672802x3,SL.s13935586738268321596x6,SL.s8200498257699607233x3,SL.s14114244577727609259x3,SL.s1499430450269397089x4,SL.s8755793994789770505x5,SL.s15725212667919936108x3,SL.s15791221867095933363x3,SL.s81309575031448614x3],
[SL.s8069831620301644142x5,SL.s10061844253413749634x4,SL.s9496514870978017513x5,SL.s8899691144933366716x7,SL.s15201008993051130160x6,SL.s741896355592496720x3,SL.s17925004256654032244x4,SL.s11695548795398191787x4,SL.s4156966113859768872x10,SL.s9501651726347032510x9,SL.s15722918466584999320x5,SL.s591115383303110208x11,SL.s15721156781594690315x7,SL.s14340494229221121180x9],
[SL.s13429844117177748173x6,SL.s16463266125957815391x5,SL.s4922535414793169389x9,SL.s8101838861749082086x8,SL.s7066276694103001551x3,SL.s9222952809800978799x4,SL.s462964344163437139x3,SL.s2742458400755230247x6,SL.s1438033511350832697x5,SL.s14365286008749172514x8,SL.s3642769012341782148x3,SL.s4674234679698826739x5,SL.s16656946322747308186x12,SL.s10796804682411823810x3],
[SL.s4290257624100764138x5,SL.s2766695959194262286x5,SL.s17162191345867700912x4,SL.s14339709457334898076x3,SL.s4278001404047624695x13,SL.s6585700554429387442x18,SL.s5946037652744460706x9,SL.s7410770068591931388x13,SL.s11817881795495490833x17,SL.s15679963881808890155x10,SL.s3871700062485845797x15,SL.s7689518266570723881x14,SL.s9001593270443806431x14,SL.s6882542574934516792x11],
[SL.s14403400214490484960x8,SL.s14457978657717015782x11,SL.s1753610191782819921x11,SL.s14119380538032626715x11,SL.s11437920000406562045x9,SL.s10852414792293593619x7,SL.s14816307405966870543x14,SL.s8682627914449686677x12,SL.s4428170145600203450x18,SL.s5991306692159431302x13,SL.s16067994140765818257x11,SL.s2327743974964600596x11,SL.s2804747833354056582x9,SL.s6070975301684473832x10],
[SL.s14270485950484850486x7,SL.s12041534306414923332x18,SL.s2531307568338490285x13,SL.s631175304937289666x17,SL.s5144983644357021410x12,SL.s18039099521571816885x18,SL.s6011586214260557989x15,SL.s5430567037509283100x13,SL.s8117915138073963741x13,SL.s3423317712779056401x25,SL.s2007317383269046180x15,SL.s17481586968713580700x14,SL.s2450899226349176912x13,SL.s16626165730633575011x14],
[SL.s14288496050688921416x11,SL.s5735081916595925998x15,SL.s3865607918536308442x17,SL.s13337502604062700212x15,SL.s13114017843053701147x15,SL.s17467278006356818441x17,SL.s17722149559621369488x16,SL.s7855274175708717672x17,SL.s13351283678309829046x18,SL.s6668348653404991179x15,SL.s12913350958174193794x18,SL.s16115879512475548326x12,SL.s15920661018069861047x16,SL.s10779130036587390575x21],
[SL.s7801419657504700863x10,SL.s1688129525768580628x8,SL.s1031832959479892071x19,SL.s8991790508128307865x19,SL.s14539662485746970245x23,SL.s11643622729373238714x14,SL.s3386828779285465597x17,SL.s13042696260734638735x12,SL.s18239426817015966623x15,SL.s1270395311379034370x22,SL.s10696252587037064777x22,SL.s7852717498200857586x20,SL.s6377248116197321094x8,SL.s3834378056692298002x18],
[SL.s17586630440231065808x18,SL.s15234114252648025395x21,SL.s8496462677383758984x14,SL.s16789243406116112673x4,SL.s14400166428656793546x20,SL.s5857708277339239366x20,"builtins.copyright#opaque","builtins.credits#opaque","builtins.license#opaque",SL.s7804999707787243718x20,SL.s7097527257260152453x26,SL.s5314052453082223887x17,SL.s6658869562736209489x6,SL.s5856160107412720595x4],
[SL.s658472552662922059x5,SL.s492968859115322481x12,SL.s4732307381456220424x13,SL.s3100639726926479615x16,SL.s1824190863884607803x18,SL.s15517275503517908518x20,SL.s13462958993096105742x18,SL.s7205697838950415266x20,"_frozen_importlib.BuiltinImporter.__doc__:str#opaque","_frozen_importlib.BuiltinImporter.find_spec#opaque","_frozen_importlib.BuiltinImporter.create_module#opaque","_frozen_importlib.BuiltinImporter.exec_module#opaque","_frozen_importlib.BuiltinImporter.get_code#opaque","_frozen_importlib.BuiltinImporter.get_source#opaque"],
["_frozen_importlib.BuiltinImporter.is_package#opaque","_frozen_importlib.BuiltinImporter.load_module#opaque",SL.s14755015743595814543x17,SL.s6511155373996960695x17,SL.s12411053484034534018x21,SL.s10220274742760427390x26,"_frozen_importlib.ModuleSpec.__doc__:str#opaque","_frozen_importlib.ModuleSpec.__init__#opaque","_frozen_importlib.ModuleSpec.__repr__#opaque","_frozen_importlib.ModuleSpec.__eq__#opaque","_frozen_importlib.ModuleSpec.cached#opaque","_frozen_importlib.ModuleSpec.parent#opaque","_frozen_importlib.ModuleSpec.has_location#opaque","_collections.__doc__:str#opaque"],
[SL.s5957113450721151568x28,SL.s9278979716766391425x23,SL.s785887980594098412x27,SL.s16673295778679940629x35,SL.s13209474081997913071x24,SL.s8302156878143849030x23,"off-the-table:_sre.__loader__:shared#opaque","off-the-table:_sre.__spec__:shared#opaque","off-the-table:_sre.template:shared#opaque","off-the-table:_sre.getcodesize:shared#opaque","off-the-table:_sre.ascii_iscased:shared#opaque","off-the-table:_sre.unicode_iscased:shared#opaque","off-the-table:_sre.ascii_tolower:shared#opaque","off-the-table:_sre.unicode_tolower:shared#opaque"],
["off-the-table:_collections.__doc__:shared#opaque","off-the-table:_collections.__loader__:shared#opaque","off-the-table:_collections.__spec__:shared#opaque","off-the-table:_collections._deque_iterator:shared#opaque","off-the-table:_collections._deque_reverse_iterator:shared#opaque",SL.s7174869446012820540x8,SL.s11030030927630378310x26,SL.s10062305145149207511x16,SL.s2094845164707466600x12,SL.s4860613602091757760x24,SL.s12171344214640291687x10,SL.s1378417608194177226x14,SL.s2438369993680799366x15,SL.s11443829558043349243x14],
[SL.s9858327723941210770x17]]
def YC:Obj:=⟨.none,none,.plain,#[]⟩
def NL{α:Type}(n:Nat)(f:Nat->α):α:=Nat.rec (f 0) (λm _=>f (Nat.succ m)) n
def Dd{α:Type}(d:α)(l:List α)(i:Nat):α:=List.rec (λ_=>d) (λa _ b i=>Nat.rec a (λi _=>b i) i) l i
def YD(k n:Nat):List Nat:=
 Nat.rec (λ_=>[]) (λ_ c n=>Nat.rec (λ_=>[]) (λ_ a n=>bif Nat.ble n 1 then [] else NL (Nat.mod n 256) λb=>bif Nat.ble b 127 then NL (Nat.div n 256) λm=>b::a m else bif Nat.ble b 207 then NL (Nat.div n 256) λm=>List.append (c (Dd 1 YB (Nat.sub b 128))) (a m) else bif Nat.ble b 254 then NL (Nat.add (Nat.mul (Nat.sub b 208) 256) (Nat.add 128 (Nat.mod (Nat.div n 256) 256))) λb=>NL (Nat.div n 65536) λm=>b::a m else NL (Nat.mod (Nat.div n 256) 4294967296) λb=>NL (Nat.div n 1099511627776) λm=>b::a m) 9999 n) k n
def XX(n:Nat):List Nat:=YD 30 n
def NM(i:Nat):Str:=S (XX (Dd 1 (Dd [] V4 (Nat.div i 24)) (Nat.mod i 24)))
def XY(i:Nat):String:=Dd "" (Dd [] V5 (Nat.div i 14)) (Nat.mod i 14)
def kF(l:List Nat)(k:Nat->List Nat->Obj):Obj:=List.rec YC (λa r _=>k a r) l
def C5(l:List Nat)(k:ai->List Nat->Obj):Obj:=
 kF l λt l=>bif Nat.beq t 0 then kF l λa=>k (.ref a) else bif Nat.beq t 1 then k .none l else bif Nat.beq t 2 then kF l λi l=>kF l λt=>k (.str (NM i) t) else bif Nat.beq t 3 then kF l λi=>k (.type (XY i)) else bif Nat.beq t 4 then kF l λi l=>kF l λt=>k (.int i t) else bif Nat.beq t 5 then kF l λi l=>kF l λt=>k (.int (-i) t) else bif Nat.beq t 6 then k (.bool true) l else bif Nat.beq t 7 then k (.bool false) l else bif Nat.beq t 8 then kF l λi=>k (.builtin (XY i)) else bif Nat.beq t 9 then k .ellipsis l else k .notImplemented l
def M8{α:Type}(g:List Nat->(α->List Nat->Obj)->Obj)(l:List Nat)(k:List α->List Nat->Obj):Obj:=
 kF l λn l=>Nat.rec (λl k=>k [] l) (λ_ a l k=>g l λv l=>a l λvs=>k (v::vs)) n l k
def YE(i:Nat):Option Nat:=Nat.rec none (λa _=>some a) i
def YF(l:List Nat)(k:Option ai->List Nat->Obj):Obj:=kF l λt l=>bif Nat.beq t 0 then k none l else C5 l λv=>k (some v)
def rY(P:aw)(n:Nat):Obj:=
 C5 (XX n) λc l=>kF l λd l=>M8 YF l λs l=>kF l λt l=>
  let o:=λx=>(⟨c,YE d,x,⟨s⟩⟩:Obj)
  bif Nat.beq t 0 then o .plain else
  bif Nat.beq t 1 then M8 C5 l λv l=>kF l λn _=>o (.seq ⟨v⟩ n) else
  bif Nat.beq t 2 then M8 C5 l λv _=>o (.fields ⟨v⟩) else
  bif Nat.beq t 3 then kF l λi l=>kF l λj l=>kF l λn l=>kF l λq l=>C5 l λc l=>C5 l λd l=>C5 l λm l=>kF l λg l=>kF l λb _=>o (.func (FD (Nat.rec (ft i) (λj _=>fm i j) j) (NM n) (NM q) c d m g b)) else
  bif Nat.beq t 4 then M8 (λl k=>kF l λi l=>Nat.rec (kF l λa l=>kF l λt l=>C5 l λv=>k ⟨a,.int a t,v⟩) (λi _=>kF l λt l=>C5 l λv=>k (E P (NM i) t v)) i) l λe l=>kF l λn _=>o (.dict ⟨e⟩ n) else
  kF l λn l=>M8 C5 l λb l=>M8 C5 l λm l=>kF l λs l=>kF l λq l=>kF l λh l=>M8 (λl k=>kF l λi=>k (NM i)) l λz l=>M8 C5 l λu l=>kF l λa l=>kF l λx l=>kF l λe _=>o (.cls ⟨NM n,b,m,s,NM q,h.beq 1,z,u,a.beq 1,bif x.beq 0 then none else some (x.beq 2),e.beq 1⟩)
def De(P:aw)(l:List Nat):List Obj:=l.map (rY P)
def XZ(P:aw)(n:Nat)(k:Obj->List Obj):List Obj:=Obj.rec (λa b c d=>k ⟨a,b,c,d⟩) (rY P n)
def YG(P:aw)(i n j m:Nat):List (Nat×Obj):=Obj.rec (λa b c d=>Obj.rec (λe f g h=>[(i,⟨a,b,c,d⟩),(j,⟨e,f,g,h⟩)]) (rY P m)) (rY P n)
def YH(P:aw):List Obj:=De P ["# G4YPQD`pHGh4dF[aLH0c9CgNj_fnNw[RHxGIlWpmBzq_6AeACA_rgmoDUfh4mygDXN[IevsfRL`K4iR3aU}N2}uHQ5_Dy4KELmD8cqteCxca30saV14~YUss_w3Xf4Rat2ZyaBliGeFSDvab}4_syen28YJ{8N5x}l4~cskzrdvXrRChopgN}OhepGz14tUSyjhIN}3ANCgvq3QZlDth^cQd3xM6O87G8bj85VVHrT7uVMa3bZ9rDfEK0MJw^{cAn3[56E2ez30m{vjte{clAH{e`hell3kdV_~iMZnoFzdg0`lqbodrY[mAeV7DnQM`eDE{cnPLLoKdF_q0GrVZG9Qg7P[Y3T]5jx78ZWsRL4^1uFP6X``5^lq_HBs3La_[o7F^^`BZ`mP1mXR^nEsrfPJ06{FrAJ_E{_N3_5BKeGb{hYuz[[j}aRQI6_4QgpV_kqdh}lZcl`JAh|ieZ`t}c`OyffFoVOj_qAgqDad8Nq|OFuFsX`J3pAi`mINNOdzjhEP7[H^mDkZpX6l}}CTH3yFvn_4Ng2~Y_k76tG7_wL6B[K0eG68qTm[~]QwtsVE}6Gjq3Sz2LAHWzdmA|gTafbuR9S1|ZgcxmIH^`uWD|SbflO[`gE59O{WflNIMx|cMc5lefyOSN9q0nLxAoy8{rFDOa7VJwHo8sgqGVIUQV_Q1IVKoP{H]J9Is{lkWaMPxqdhcgLBfx_5lawDpww_p4E~AlPbzZkDMnp[1LsX]lsqSlsSo4|H3DKWgw``abEpWnXo9XLcFEAw40b1xPsfaqBVUxR9Bg{5`KQsdA5k8_B1L5F8]ACv[i}NOKGmkRexm]Zra{{YgXqH4z}~nh{h1pYV}tvOZiP|etHR5XF}o^LLw~X`iekDCJ_FX4f^JCNVS`Ih_GyDTkXGJEYAQL1yWIa01pRacCo~_qlPK6Y5hp 9RhZNQG`KQ7wXkw[~o`ZMY[mHXCjm]mbB IPPZZC|IfI4CW8oY}KGdn95kUVn3NqHg}S~KT9FEn0S2lYc15k1_95p`yqlMik3M585WtEEQ}9[MS[Mr4NIVVC_h`IoNEbMjU~nFIIfSVnj BC_VvKxyzcgdZwh~ABcpu1YH3SbgGVn4i`nEml8SlI8xD{sB1dkOpqjNx2EQ_1X3CAv220o8G4cN{_dM[_~0` 3axVRP 3f]`W5 JsI 5_ 5s ajFgzUxZqcNAW|[i7OYnV|v9{58c]z`fVCSnNdJBgS~tra| LHIwBc|LDyLq4~NVbTdo2mcLj"]++XZ P (nat_lit 0x1118cd045d0028dd01dd08ad03fffffffff048bd045d088d0ffffffffff0489d044d086d0040487d043d084d00134b1d4ff0485d042d021d00883d041d020d00882d040d01fd00881d03fd01ed00880d03ed01dd0087fd03dd01cd0087ed03cd01bd0087dd0111a007cd0060e007bd00579d03ad0027ad0040178d00376d021d00277d00111ca) λx=>x::De P ["# CvFyy6[ 10^oWuE0CG8k]KjygAiUNkrcHnf2^0L[tB0yM[bWT]EjYpMnwz]GJ^wj{uEgzDF5ssUq0EjY6UczQ1CkAt2O7en]4[qJcLgMoQ58^lMo8ndB_6iTqyUGmsD]H6L[lk2jT}1Q9~w 15b9O70MNZZn8qHR{FmiOIM_XWg 5_ 6x_l3W[K6f5GBiSxUroUV|sT WIX~oqcTLI2{p170t9H9J Ec2qUe2C6nfqMO09323sZ9F}4N]halYkTg{Cr}t^xI 3bCQ}k 741MWlrmaUuAJbEK3jPPFF9K3I|a3V4IZ^ygu{3Ije9dvDndqxXG7eYz4eLS7uH|_``[HwQLn|go J3UAnfO6KIz^}gmgBG{zht7VYU`U_6drvn|EZdLv~n~EL3QRPkXuEaEKsdwKboFc6sxlLTavFpO9H{6pzKEyz]x5EJCxeSczu{_0h4IL`w}2Y[0z_Wb~ZSsX 15b9OFbWElJt0GdItLi1uarST4n nTuWEb2BLbhLPofL2lKgAUKlbVJKuUmjzPrZKJ~Qf`WyBhY{bnGOwci7 6x_l3W[K750UlezRqB}oLwep WIX~or2OZr~YJRVFD~Bzf 3`a0dx Ed7oAfM0WR}oL5Eng5D]cFwe0}SX9swPH4ThcYoxUc 1`so8unte4"]++XZ P (nat_lit 0x10c3bd003b4d071d03ad003b3d070d039d003b2d06fd038d003b1d06ed037d003b0d06dd017d003afd039d036d008aed06cd02100add0060e00acd005aad03ad002abd00435d008a9d003a7d022d002a8d0010cca) λx=>x::De P ["# CvRqgsF 3bCQ}k 741TVLca|W|o]_B|ieLq4JeWV3LCaD|x_D1iq0q`EXOyN5DT^h4hrSjt~jQQYWs^FG|]b8Yhso}4 3`cEeT"]
def YI(P:aw):List (Nat×Obj):=YG P 11 (nat_lit 0x1118cd045d0028dd01dd08ad03fffffffff048bd045d088d0ffffffffff0489d044d086d0040487d043d084d00134b1d4ff0485d042d043d00883d041d042d00882d040d041d00881d03fd040d00880d03ed03fd0087fd03dd03ed0087ed03cd01bd0087dd0113dd0087cd0063cd0087bd00579d03ad0027ad0040178d00376d021d00277d00111ca) 29 (nat_lit 0x10c3bd003b4d071d03ad003b3d070d048d008b2d06fd047d008b1d06ed037d003b0d06dd017d003afd039d036d008aed06cd046d008add00645d008acd005aad03ad002abd00444d008a9d003a7d022d002a8d0010cca)
def YJ(P:aw):List Obj:=De P ["# 5_ 5s 1LUBLgV^]CgABDUp~TtIST9R2`FXiagjKLAcxJS]W3_~ LHIwBc|LDyLq4~NVnDFyXe6V}"]
def V6(P:aw):List Obj:=De P ["# 5_ 5s 1`yrKpX3CB 5_ 9DzaTQnWjl6 1MfL]|6n97|VBGeh|3uzm8jm3S]Uia`FrMskjcjpHD|q E6l5^Uk^^sjSQEcxc]EZ 5_ 5s 5wrU`SIsrl5b^JfemjKxc_d6 5_ 2_6m29}j8b 4up1jD0zG[4tZenQzKFQ^qGA97nzNI[I2Sgv[pQDwQeVU 3x~aA6{IOHNLiKqkZu[ 2REKGU 7I[yJ6u[32d 4ItfhXO{HTm[m5FKKsAhh^1{r2O4Qp~FpK0JDRlkwrenzSwyn2]e^K 5_ ^nNP9M29 1Q{MGrWb]P]b|~isRM~Jp0bkStZhR79eycBUNsY4VdYA 15bI8vS__`2TUqof}x~^xfwh|f2 5_ 5s hqe}a_AobWUR9|Gt3 5_ 9E0qpLJV81I 5718z{L0QwRoDsFuKx1}B775`jQs~lm7X|Inx[veH6J42 E8W1QeHzO0pXQ^XyHA_m 5_ F1HkWVAU0~a`ZyQ147ZtJnysmpNsd[BpEx}zX59BbD4HKR nVc7CYHkL9UdC9yz6|p~1E_iDvvGo~f0uMTe`CUdFCpY]tHYB}9]odOj Pu2~HjRlwa4R 7CFJ0QkyMV} 2RD_5V 7I[yJ6u[32d r0kTV[hkTx7[b0z`RIq^iW6KFsGp7D_F`LPXe7Bzl{hz9SJ[xmaopeFkF`7SEZI]wzfuW 5_ 3TJzwG7L~4ksQ~`KzF9 1WIz_}6xuumgJLdI518`DmE]Pqn16Qp|Zxy{UyhE1fsr 15bI93BYHrLJXov]B[DgbO~6f^] 5_ 5s 5vZqVETlM6YKiOxChaC|BHUI 5_ 9E3uUc]1MBw 2k7~px0ym8djij87SUj9^Y4wXIz]mneoSkjR7Xfc59loz E8ir~vC3qUVdxO5~LG{U 5_ 5s hf0BvvB0P0[c{Azky 5_ 9E4LQ{N7^CV 2q0z}Z`S5[~OZDKfHwYdKo3RJ3P9wKqDYvWyvteXmFuh{ E8ir~vC3q~81{l6`Nw4| 5_ 5s hfU6y5[eC0oGwdbiy 5_ 9E4lN164}B} 2vxwB60^ik2g~JO[MRyE_C4GqurjsQ5~qOshMEy95y6p0 E8ir~vC3r^oU08s7HmCY 5_ 2tBc8D}Y[xRKe2NVTJP]kiEaJ9g2Q6xgAMtDgoJvqO^ZUVFKOn5zluMiQJyr]_ F77QJRHElUuxffw`CmuqtJaXF}FpAac}I5}X87vXTmKtPZa80_RU9Wh SZ3WG^E4w^rn 7x5d|XbB0ib 5_ 5s 1`eRnTaFre 5_ 9E5CJmWNfHY s5qOgIj1]Wl]HE[7`YDBJqS`Lf7wBgfk2z0^to_DnBI E8ir~vC3sZo]EJKztkVh 5_ 5s jZftcK7h6|{|`HgxqeShJ5HEdD~L{7 5_ 9E6y56ggrQk u^6qEXB35_fdUANRiSuyQHw`XhN5{MgxkuqCaVeZm5s E6jj[m6TIyUPVDMJhWlQ 5_ 5s 67_`g7rUlEB786zPaPpXQvd9~_Xytw}1oVOTe 5_ 9E9]n7ZD5[} 2Ar6}mm[TvqBu{~C01W03kFjA0QMFcYDtDGTxn4{zr9T^09_i E6rzEoIVEzs^}reoU~oU 5_ 5s 1`idCl]EaZ 5_ 9EASfo7PBhq C9CkXI~IOxTmuXm_oVS]9}r2OiJy~kbKA3T^T~VB|^wN]] js84}QhiHCy4V7GFNM}oC 5_ 5s 67iUSZh3uov`f]yoQFgMOvrEM[F4bw_}^TV9J 5_ 9ED1OoyuToW JjVczuk]BvQeNUH]Em5PyAgj1JkNdvhs6eecnvyZky`Jl41O8RFTlJu js84}QhiJDzz2Q8YJzqgF 5_ 5s 5w2OoHdNYXRiQ|L`Lc8Dh0_r 5_ 9EDwHW^2Zwh 8]V1gbHIUAkX`]Jr{EEct9QCrU`7ewZ^uJkt3]0m[tmq5dVZWn js84}QhiLE|pbwFT1FX`s 5_ 5s 5w6Tp93nIJ1jg3NKFyg`7OI3 5_ 9EEnA9AEa|L 8mG~7]FstmEtT1O7dM9Xbrx[Rh8EW5A5ULbURJkkvw0BzqlUID js84}QhiNF~gCTMNmZ9Ut 5_ 5s j_7UF6jLjJ2fuyilF}kl}~czfxhflh 5_ 9EFe2pmQh1y 8~pcaZ9BTX|1t~s8h6tzo26ba_5cljN87poHXDSH^Mef[n^78W js84}QhiPH1]lzTIYnpKu 5_ 5s 6aI~[kqnoEY1uawocJB9AmZ[uzSWMYqGf{eG5BCC9QF228}KVRzmDZZKE]9WQ|m 5_ 9EJ8dYD41DD 9RwFOvsYov[`omyB1n6^q6}00G_k}{F}RHs1ab5o~FZqvkt2Kg js84}QhiRI3SP5EE3_jH] 2WHZt}Q1N[p`3nImBdkzHHreuzh5mLdJhnL8ff[BnjsySZ^EP_MQnPwjbEmE1Uyw`CEC3C}Unr0ha2|fFzBx8bGnODt0P2T9VUa{O}RnYHQAUoI2jbOUJ9LHAIXe0ZyRVxMB7S|]4sn{6rzAAf64nxI{Nlc_]ngjlSLSiS JsI 2RQfU6 4Mz[A6HC_5gCGrAuZ05FG}8s5R^E1EVIxGQ~y02[bl5LTqusWmhXw5v3MFnpzE4Q[~_Y_eV 5|M5oB~QYXh9FDcv4`j5kKvoCXUK"]
def V7(P:aw):List (Nat×Obj):=[(3,rY P (nat_lit 0x11c2bd000a2d1afd026d0007cd1a9d01fd0006dd1aed01fd0006cd1a1d018d00062d19fd011d00059d19dd00ad00050d1add00ad0004fd19bd003d00044d195d07c003bd1acd07c003ad193d075002dd18dd06e0021d189d065001ad181d04400efd07bd03300d5d077d02c00cad073d017d003bdd039d00c0093d022d0012ed038d02cd0832dd036d0812bd035d006002ad034d00129d00616d00828d0050127d0040126d003a3d1aad00225d0011cca)),(35,rY P (nat_lit 0x125d09176041ed0916d0417d091680410d0915a0409d091480402d09143047b913604749125046d9121044c91120439910d04329107042b9103042796))]
def V8(P:aw):List Obj:=De P ["# KVG7oOGmObPz h`vJ7fKHbRJDf2Lz{coT0eAT{jPMZh2~XqeUeLJTwvdGrpP4JN[_ohwUmyh7p3i4K3NKssNUjBs_wPzrSb8kGfbM71kWrqq1~cSGfAefctIcK^}MCIyEf1q][S}2vf0K6rXrmL0juym9iM`1zYWgkdWdk5FzOF8s~V_F0FGPLXwUWTofQW{hXG6o[_xVygDV7{62LUSZO]lsUuK}L9^^c3bbQuer7Cjh]yHHEGKF~}44sq8X0asV[lb7tCgAl~9JUa1va{2ge]BeDc}DmlI3Zsvf^c]cK gHDm 5_ 3miav3ITT1SDIu5"]
def V9(P:aw):List (Nat×Obj):=[(3,rY P (nat_lit 0x11d2dd00036d2c8d02bd000a2d1afd026d0007cd1a9d01fd0006dd1aed01fd0006cd1a1d018d00062d19fd011d00059d19dd00ad00050d1add00ad0004fd19bd003d00044d195d07c003bd1acd07c003ad193d075002dd18dd06e0021d189d065001ad181d04400efd07bd03300d5d077d02c00cad073d017d003bdd039d00c0093d022d0012ed038d02cd0832dd036d0812bd035d006002ad034d00129d00616d00828d0050127d0040126d003a3d1aad00225d0011dca))]
def Wa(P:aw):List Obj:=De P ["# 5_ 5s 1`ho9tSk}z 5_ 9EXZy^juTdO 1Ut}zFBOrWKTHSVPGe8xURwGPpci3BU^s8a_gk1AJmwE[TgDnRsno jviYfW4~DxYjy}ezWyTN{ 5_ 5s 75nk5JKJ[2tS_ITNaJfliK`7te4GbGK_MHIxEtBl{gJ~YOIwC|CGETc4rI]6h5aThwH^NLO|2`OrKljJJH3Sq_0jf 5_ 9E^lL`Pvyqe Jw03zLzWAFMpGj7vFReWOP5K]bWGV~c5XT46Rg}fH|v6G2f|Ap3hpjs jsD1acHuBxZilSn9mwHvs j86mfhBqMnFi]Pan|}XrlOHR40Ll}wyUFLR5]Vx}TgaBnZ|{WbDi0VERzPuHIOwUXtS5]~zv1[mLdp7^VlzH_{r|]{vmRAN0HQ`ywU7j2xEAEd7IDGG7OmY{qgQ8O5AB]rIsEJBoG60GCFeQZ_{cT5}X_3ds~Pi`fd}RzgLqYCII1v7kF JsI KHY AJlV~DoW7BvQ_g7zeNR^yxlKllErldTX~ekDXcDYmHwOHE{qPUIKGxFFGcv{vp7W9I3~tRLx^XP8 5|THbwK3EAFwT~mba]RqPxLxJQD4 5_ 5s hlFfYRdXcDHY~VdQG 5_ 9E`3A`oA3}} 6N`ZVMKNrGV4SpotRFLBIcAhP3[vb|~[51ZRc[37yw~hHq`jU~9q81 6X|jcm}{OKzGOzW 5_ 5s hlea^c0|}sjQ51u9d 5_ 9E`y3HRMA3b 6WszM_bO}d`uvmP|lyqs1^LvFtOpHCmNJsqdU{Xtt9Ze5nIDK9h|ji 6X~ked_XVFg[0pX 1`mRy{vLcQ 7I[yJ6u[32d 1ooXkDHdu6vfA968^NiMQa55C~ED4k[iWY4SHXK0{QR4_pRby 5_ 5s 2nez1i_Z3Uzts16AT|]JgHPwpe{utOKRmduc]AF~2Yzs}qJGa LHIwOmvQvh|01W0v9oaXEl9C_ 5_ N6kDr36UFGEFeRjwu_snNvVJte_a~aR6R2NO`uG{S_8QEAuMh[G pZ4^D]oNZ]0mC4KJjT3jgST]fVWTBU_~^~Mg7Rz`KvqF0ffWNTqssTkO{3q9{K7Jjy1K~ 1eMdaGV[DJYZsyOIDsWOou4 INJJpkj|6sQ||_AH Rm}N7595r|}0 5_ 7I[yJ6u[32d 2r5j`v[NVET2G_ZV9ilU8k_UjWWWn`ci_208FjfjIXVa}dBv06z]msjVcD 5_ 83o}M_DV~b~ 2yP`HO7{8yqe7aJ0UElnuwJvUnbGG16q_a2]vN]uwSz0h`T7K LHIwOmvQyBN3kc9AM1EDxOPvc 5_ 5s 5wenkWNl5fZm8d|~`8yySiA| 5_ 9Ec6otej]DC H9WSxGqFdg{OpHAFQ5LTEkB5[Jcwa08AK6vs{Wun4So`VXraRBbo~HEL[bD 6Y7ZMSWL]RU2M~` 5_ qIutsOC4PIW{[bhqWk1FCm|jNQK623FeEHRsVaBOYpK0M04~uE_ujw3tX5PIqTmos^xzB F77S{45L0EH5MXWePeosF72^lop5}PoZCQ_QKwn5yy9ZmK3wd|9FAOB d7J{O[zn 1y3qU5hwLJN1hv{cLISjo7x 8{HmD`{ha2J5FoTYog5P AEF3~AVdYLF 2reVhV_5fr g1^q 7I[yJ6u[32d 1otENsli6Tx0UNFq9b{FwLVl}Y[j|2^6V^D[rAN0^uCx~[iVS 5_ 5s 39z{KngEEUor0]g5pJGQRInZ53X8N2ctrzApxbKd]q3WZaP|D LHIwOmvQ}O74^CoxbkBlHFcGH 5_ 6LpHdymjV|p81y65r2Y~v}c72veTx]B2p4n`UGXfl 1BX4t42^Xj1_x{erXj5kqi72nfsMQzT~ZekndrIM|rspEkZZ5ZF4B KCFTTFPN`eyRa]cu U_MJBLY{a6]z g1^q 7I[yJ6u[32d 1ourSgJ}VUMMOdX5sTsfl~5{yG8U7CyCaB7oPmUqQf24jJj1z 5_ 5s 3IjKR8L4n~d`UlSWfkkIzriYW}1ik}gEDyGms^{PDGRuFfTHs LHIwOmvR0c}OOS[Gn0|YUHKTh 5_ 6LurcX0VwkWJz{RZ{B4Kw^afYootwfxdq^L0h9~6} 1BX4t4]8jDboCNJBWY2ApmZwDA3tzqf~0MQ0SC`ca{FArLbfzWf5M Kq80Hmby7cNo~qQ~ V[MPyZFTyRkd"]
def Wb(P:aw):List (Nat×Obj):=[(2,rY P (nat_lit 0x10f8e04a0d2e4d0005bd0049fd2e3d00032d002b7d032d006b5d031d006a6d030d00698d02fd0002dd00291d02dd0002bd002002bd01b0090d02ad0068ed029d0ce0475d028d0160058d027d012004ed026d00e0039d025d00637d024d00f0482)),(3,rY P (nat_lit 0x1268ad000e6d2e2d07ed000d4d2e1d0ccc2d2ddd05bd000a2d2dcd051d0008cd2dbd04ad00084d2d9d043d0007ad2e5d03ed00052d2d6d037d0003dd2cad02dd00036d2c8d02bd000a2d1afd026d0007cd1a9d01fd0006dd1aed01fd0006cd1a1d018d00062d19fd011d00059d19dd00ad00050d1add00ad0004fd19bd003d00044d195d07c003bd1acd07c003ad193d075002dd18dd06e0021d189d065001ad181d04400efd07bd03300d5d077d02c00cad073d017d003bdd039d00c0093d022d0012ed038d02cd0832dd036d0812bd035d006002ad034d00129d00616d00828d0050127d0040126d0038d0225d00126ca)),(35,rY P (nat_lit 0x186d09170d0047ad0916ed00464d09167d00457d09165d00450d0915ed00449d09159d0043dd09119d00436d09112d00425d09176041ed0916d0417d091680410d0915a0409d091480402d09143047b913604749125046d9121044c91120439910d04329107042b9103043f96))]
def Wc(P:aw):List Obj:=De P ["# 8bahdqc 7I[yJ6u[32d 4NDTkQ94vv}~HBJbfpKwz~sKNMMgk~mTDfWMZGNtl4NKN6Xhe4J2SdF91}xNEZsibREYV]3JFwghncvAUmptl3{~b2En|wxk`It9PKi2pfp^lYMrZ8LLAB~cqv6LgPof^~ibnQtrl^nd8xoh]DLjDbA6[~ozmlJF6`{38DjQsehgtL_Dpq2fqMwAwVr~R4_n44}8PT`G_NurJ}rL6nTkU~E^gcZ]ZfWEp48~eU1rn}aJ6dm}vvg^ai0sdwGvvT2Oo]j00zrfV|DZG8}mE_opHQxeYGZPqMzWlkU[9h_JObC8yt5Lg^GLlwhpl3{k[ZRSUs 5_ [1Se6h{c[LTKAuDKXeEK6WqB|1A0IM}cGfqwwDW3rWgzd3Pb^F~17OQmG2p7wkkOishRSO_FDm8{5[]xpL_zrfHQ]~H~FDP]~6Q9ztM[HaYpC0qQUGlC1im7Ue8uUoukanQJj6KKls]yGMo_YyWQ0fV~4Tr9^ctO8xk|5NStvK_CY[yJ6jor3}mp|Xxr^47CtKk^bU82wJo_5O9z]QsS5YtD99ofZv7nVM{`DtRwoZ5qf 3RXdXWyzO_XMt{9s]DFBZRdXtwaK9yj^_xMjnZcC90SHd2a24 LHIwOmvR2wtdAdG_yLnGcI|c8 KHY 5_ 5s 3mepWiKJ}s{V`Ot 5_ 9DJ5EZ^`qSr 8Kh1`qTU~S3eABllYulTLpvJXGr2olFLsIXOuvgd}LFAG6W`v^BphZ E~dQjzqKrddM3m5l[fUX 5_ 5s 2R1Hmm 5_ 9DJ{43n|oSx 1CF9O2QZhD[PoCApO{1BR2gseXxG3eq^0tTTgNPfbi6Yu]Xig3Lom 6YN2fyuWYi^^VOO 5_ 5s XNDml~w3_}|R}bGYrlkV`jl|def}dx2Rw7 5_ 9DM8pkpSCVY 4SoxQg_ptaq[BRQrtSC9fWolvDOMa~KiHW2RmeUz^xKS0E}11aeJ03 6YP3hpWKUdi5TCM 5_ 5s 2R4^n[ 5_ 9DM_tXhHMiG 1I00l6|JAK2MjaB0iwsEomGq^rUdVX0fzy0cJtIpc0gE2aNI_Ltn8 6YR4jg1Qhdj29FW 2^GUn}PxXxiOs2B|lPn 5_ 5s 2R60nt 5_ 9DM~pqYN^io 1K`dHFBGhK7oWWu`Ep2~JuWf^KpGPfx95h8lF5ZkA87wJ^Z4K]VTt 6YTQCF{TKhf]L9W 5_ 5s 2R7KoA 5_ 9DNUmAKTnjN 1MrT4U|Kmm4Pgd^jSHinGtA5B}|YT5kU`uDCUH798XapdLd^kT7_} 6YVRE6[ZVJak6zS 5_ 5s 3lpzfpYV0[6Rcmz 5_ 9DNuiY6Z~jv 3GXDeYAwmw^bld_M{on9KsgPEsWDl2bnpLU~cl}Q3JRxdngbaS~`eG3nap 6YXSF|5aau[xwlO 5_ 5s 2RA2oo 5_ 9DOLeqwbFkU 1ReqRn|MQF6Sdfr6RQ_vLERHvO^Zqb[l8Al7AaXuszlz^TjWomqWJ 6YZTHreglWW7i^K 5_ 5s 2RBMp5 5_ 9DOlbAihVk} 1TwbF0H{GHnvXKeC5kI|{yb4YXmLunm~u3d9M`^rqIpmH}ohlju_] 6Y]UJiEmw3RLZOG 5_ 5s 2RCbpQ 5_ 9DPC^YZngl] 1WAR2G^a6KWPLyWHo4}4cepv6b|7y{0Ib{[BY_conat_|^txigyfo 6Y_VL_nt2eMZLAC 5_ 5s 2RDvpg 5_ 9DPcYrLtwm5 1YSBtWsE{N9sA_JNXThBJQ0hilBx~8H]OtSDf^hlkxxQh7z9fd}n2 6YaWNUNzDGHi6{8 5_ 5s 2RFBp| 5_ 9DQ3VB7{8md 1[e{gi8sqPrL~D6TBnRHz6FZLuQk3KYp6mKFr]miiG|DRh0Pcb2uK 6YcXPKx1NrCvwm4 5_ 5s 2RGVqI 5_ 9DQYRYy2OnC 1^wlYxywvrnwEOn_PG31w4wxz_^}6jM6azOg2iP7gbV6lV9t3Xj0T 6YeYRBX7YT85i_0 5_ 5s 2RHkq_ 5_ 9DQyNrk8`nk 1aA]M9k{|KkXT[Vi^hipt3aN`HkGA99S68T7Ht{[e{y06EJNYPQA^ 6YgZT22De03JZO{ 5_ 5s 2RJ0qt 5_ 9DRPKB]EpoJ 1cSM9P^12mh3dh8slAP`q2ImDzwYD^{iaLX^X1^ydMRxU|SqyH2Kg 6Yi[UwbJoa}XLAw 5_ 5s 2RKKrA 5_ 9DRpGZNL1or 1ef6{aO58FddoqqTrqg62MT{SwGMb`qAz^YQ3`0EEH[b1|1SNOZd7 6XhtuUzQFzmwjy_ 5_ 5s 2RL`rV 5_ 9DSGCs9RHpQ 1gwvnqA9DhaE~}Y`1JMt~L7Q2aS`OpQEGVNxLpjD~JrnGQxXCQ4R7 6XjuwLZWQ]i6[kZ 8bYUib[ 5_ 5s WCFTShDa|_gv][_Dw0FIr 5_ 9DT^1nocPqh En9k0]}gsRUuR|`7c[x^^BzKWb}u49lhsxlDLj}EF[b6zMYotY`jbdBWd1n E~d14vAqeLUv_Re1}bOx KHY 5_ 5s 3mBIgZdmjE_unN~ 5_ 9DUSyT0n]rc 1BMlgl7mjC]hgKTsgpi`L5qX8WiA4XlQ1w9_1Ra3D|n3qgMo[}IIK3H2E E~d2apO3TxQOuAuBdRUU V0rQW3hH 5_ 5s 3wFv}6Q8oc7`7]Nm`615yr9pNGIi 5_ 9DUsulqtmsB 1Dual^Q]]FI7DyN6Xl]SYM~{S|hQnHMVIq]Nvp0A}ZP]x0dX6Kp54I^H{ E~d47j]KE[Lqk|ovEGZ` V1FzeGin 5_ 5s 3mHbCpgfoCNs1v1 5_ 9DVJr5cz}sj 1F~KpbW[KboK5683Fe__3cXrs|QSaEUbRORTq0awmxi`tqg{oUEfydhiq E~d5ddj[~8HJbojao5`j 5_ 5s 3wLu4FQAEw2MHFpsWLM0aqhfgq]E 5_ 9DWAjjt7Ate 1I7~tc0SYHNp[mztYL~NoBi`Ncl[4BzbWSSgVZ~NvBfcAhLjvCi{BIEGT 6Xv6mTqUl_8^nE| 5_ 5s 3mMn|S^7h9DrqUk 5_ 9DWag3fDQuD 1Jq_wuQZdGi5L|fPhzdUvnEi|mqSfM}hT4wF9r_S~LPEM0hI]BTn4E|co 6Xx7oKQ[wA3l`0x V2Bb4~mM 5_ 5s 3mPfKIxIb9Zi67A 5_ 9DX1cRWJbul 1LzI{uyRqvHamfF^74K7cs_YYE|AyPpVrF55DsLMh8^vtCdM}GBf^h^gc E~d9qSkTwJr42|RyVxJu KHY 5_ 5s 3mR{lrruI8iFr1c 5_ 9DXW_kIPrvK 1Nds072j9gI]rE57A_V}7r`AW~D}9lG3X~XW25YvY1N4ii~bfGv}OdCPF E~dBNMxfgvm[xoMe1mP0 5_ 5s 2R[nu{ 5_ 9DXw[44W3vs 23aYyqWuYe~uiT`Lm[9Za|sokM6fZ]BuWZX2mDSWdmuOiu9YFRXv^ 6X~kkJphHsvyiet 5_ 5s 3mWJGY1}o3vFoWv 5_ 9DYnK7wLtb9 26B7TB[OW2OrM1TR8fzG8hqZfZSz2bLYGjwJWj[ct4h7r]F7s]gae 6Y1lmAQEGAsw5A^ 5_ 5s 3w]6H{kRt4^hdd{qwVaA|F1508hv 5_ 9DZEGViS5bh 1Szb8}u{|qqX766JjVxSx0Lb1Ir~vQZJNt|xi0Y^lcQCoqjNi^nINDwZG 6Y3mo0zKQlo5u{Y 5_ 5s 3m]W14Mt0nMR|fG 5_ 9D[595y_Hcc 1UeBCHvjY`}THE81Ugvhce`1JbPgg4GUNGghCe82|N_DodpzS19kVf`TH 6Y5npvZqXe9Ocmq 5_ 5s 2RbqwO 5_ 9D[[8buV|eR 2EDndYrci2ElFRzPiSh|hrFI4BMv^OthBIZWjBgW`yG_tYQVcei_3 6Y7orm4wgTEOx`} hqf1R8^E9IcEvGj^O Dish5DQJOa|cBGI^DferMfeGljcny[UDTm6QCoY6dq]e}nFaWimsBU{ZE[cjFUBY0sopl7]E77AEq[Kq8fJZC6z6v1Sqo0FIc{x_iH5mrNqPwydr}z1q]Sc7NOpC^tUmcpJJw}RK`ng]IAv4x|GU0qFpf3wVfsWiTLc7]z6~7JYeQsLn8lBkZWQzlwEjwpz829GAg1YOjV^zTN]`9xsMZIGc3MC1hzFy`aYyD[7GkVv`5KQEfPzv[lk_1CWud5q073W`Jq9sZVS5Poh34i8VAkDZwpyXDVHqr7hQ4vxNUdw9iUCo8vEERsSeFx nVcaDh^_r}oOIWM~ff|fMBSx2jb7kfsEMqy]Zp1EnFZUzFLfIV3Zvf}} JUtbV6y8bHUxrRf8 TV04]5RrZshM"]
def Wd(P:aw):List (Nat×Obj):=[(3,rY P (nat_lit 0x12770d100ecd3e7d08ad000e6d2e2d07ed000d4d2e1d0ccc2d2ddd05bd000a2d2dcd051d0008cd2dbd04ad00084d2d9d043d0007ad2e5d03ed00052d2d6d037d0003dd2cad02dd00036d2c8d02bd000a2d1afd026d0007cd1a9d01fd0006dd1aed01fd0006cd1a1d018d00062d19fd011d00059d19dd00ad00050d1add00ad0004fd19bd003d00044d195d07c003bd1acd07c003ad193d075002dd18dd06e0021d189d065001ad181d04400efd07bd03300d5d077d02c00cad073d017d003bdd039d00c0093d022d0012ed038d02cd0832dd036d0812bd035d006002ad034d00129d00616d00828d0050127d0040126d0038d0225d00127ca)),(35,rY P (nat_lit 0x192d09172d00486d09170d0047ad0916ed00464d09167d00457d09165d00450d0915ed00449d09159d0043dd09119d00436d09112d00425d09176041ed0916d0417d091680410d0915a0409d091480402d09143047b913604749125046d9121044c91120439910d04329107042b9103044296)),(254,rY P (nat_lit 0x1008070d18e8ee0d07dd03f03cc7ed0956fd08ee0d00506018bcbd2e0d090c3d2e0d0900075d08e06004803))]
def We(P:aw):List Obj:=De P ["# 8bic9eT 7I[yJ6u[32d AmxkZcNjD2wxV0{byb^UO4[NglMmMm^rJkNhzc{~hsKx0|e1Y0}AL`os1_lt3R_Gf0h9LF1UQ68RYdf6H7mEqb9PZ7KyF9zfbjKQdDrzP0DWAYCEmkYInGmFjyZ`b9[DSs|A0X`3W8{hNB{`QVWKAb7TlJ3ZurT9adLQ^tGtDo3tQ3fPXNPoRHyqMNiA~ALTL}BYzA^`nI1|jEy^v}jo6kRB2E]Iacfo0h|yMT9P}~9SkAk1bgSh{Ye5RDXr]CIVsQCjDs3lO~cWjOYXl{QzrhkTtlEbFz`4CJMtmuhX^z6p2Wr~tm1lKJQGHRv3ShnZIRNuR8zp2IU^}pET[yrV 5_ 6gy4OW^m]pB7ho|Imu49AMEqh4P589i`9He]6S9P2]FTwkXNvdqL}xO{KRTGlLpO|5Nbw}dDB7s^CiuNNR2}Xr7lc6]}UBrnHd~sZ^BsOs`8]^bTXLP9hsRjADZEXwLKDo_GJU1xTOC]Zz^B]jaaGqA116P}ZKK|pc~aB45R5~bWtUKSup8keJqxGO`d^c{ON6Q}{P4dVKczUomqvo3I8gV~W7Xcn6tWZ0BG_5PjqE92D|gB]N|OLFTn|VlUX 3USEls0eqgc[11ay[p4l80]HQ[dhc6S{`M]_QStFMKtJA8DRP LHIwOmvQ||CIQF3WdC6RXZJ^_ hrit52rwkSOVqkKWb 5_ 5s W85Y_Bss4|c|L~DE^{i7C 5_ 9Dc3O6sSjmO FPDx4GTM1p60gZSVrb]wEMoU3{VYxB2_I3X`_Y_em14DyvnQgDNf^2i E~dLoIVSzKi3H1dWTfTv 5_ 5s W8RjynU8UerXz`XX8}6NL 5_ 9DcyFY~f7tS 4SpGCLkDqewpkaWDXYGb4cFEukCf|e|pQewlOo|pqIqiCJOre88ck2 6YF_Z]2|7trg}t[ 5_ 5s 2R4^r8 5_ 9DdP9{Yuqmt 1I073}m2i~CFeWkshIXaWKyB8[N[}Y_XhV{AEPjUxNK~FB1rpdlW0 6YH`]Rc3G`W0I_P 5_ 5s 2R5rrT 5_ 9DeG4ZSxbv0 1KHvvF2g`1tiY6^yQcCh818|ke^N2fplUOsCQOoRufOrZLnLC_r|1 6YJa_IC`PQZAdWx 5_ 5s ZwlCZZo7]kns~QPxKjr`9k^ZWWK2MbN~Z`SA|Ocq8k5j5A[OPKBT`hmG~wMM 5_ 9Df]vd[LRpX 4vT3tRYkBxDtrs9l[yg~jRjUn8DKnGr~ysK1y}6ih9OWX`HNvChZnl 6YLba8m]Qmke~Cn 5_ 5s 2R9tsO 5_ 9Df|zQSA^3F 1RN51{ZhbusczMM_liuocS7G7V^0qXz5KsZUCyrigcbH6P`bxla~_ 6YNcb~McdmlbjFx 2^L{2A7yz5XK`a6[NKa 5_ 5s 2RBMsh 5_ 9DgSpeO6ove 1Twh^4if9uy5hE28Hb5`7[N56xwckgr^Ubc_8B4dEk2zNMlSeZ2bH 6YPy4_HfAlr{w|o 2^NWxi^rsHUt^|yVxyn 5_ 5s 2RCot1 5_ 9Dgsl}AD0wD 1WXL3Cwcgu~^U5lgmYKObd^y6RIFeuk0`Pkh3RL^lrYd`JxEQjdH} 6YSF]8ChmpoW4vo 2^O}rwo}fcaSSLn9LCQ 5_ 5s 2REHtP 5_ 9DhJiL{JGwl 1Z2x_L6aEv50B|WGIQZ96lnn5tcr`4cXj8sp}c^XJyzMqH507zExj 6YU[}h7kPtk{Gpo 2^QZm729X}k{HebqhT} 5_ 5s 2RFjti 5_ 9DhjeemPWxK 1]c]4TK^lvAWxtBonIixat~c5M}UYIZzsv{yxsoRr2R13EGptAp`V 6YWrVH2m|xhVSjo 2^S1gLJKLOvZ6}VZ4ga 5_ 5s 2RHCu2 5_ 9DiAgxw]J5W 1`D9`]Y[JvFyfkvOJAxi5}FW4pO2SWSS}f53t51MP9rjKBSbarpK3 6YZ8wp|pfw}1ApS 5_ 5s 2RIWuN 5_ 9DiadHicZ60 1bUyRmK`POCZuw_YWc`X2{wuiY[KVvFjXs9Z4GckNZLcdy^61jWUC 6Y]9yg]vqYxE{bO 5_ 5s 3m3Z7v8dJk|dj|4 5_ 9Dj1`aZik6_ 3wB4fqiU^qAknzOvDsGwH88|bVA`k5HlbGz4JmN6Jlot6v1LwV_cgSp[9a 6Y_A{^6||5sSmSK 5_ 5s 2RLEu| 5_ 9DjW[yLo{77 1gIMk6Ka|qE^ryruVlUa7MA3St6LtS1118hTo`~X3|Wm_2d064BMX 6YaB}Sg47gnb_EG 5_ 5s 2RMYvI 5_ 9DjwXI7vC7f 1i[7^MaFrsw1g_e{A69gn2Ou0}L7x`IJn1`V{`4U1K[`IbiG31FTk 6YcD0JGAIIipP0C 5_ 5s 2RNnv_ 5_ 9DkNTax|S8E 1kmwP^uthv`Z[DX1sUsnTm_gd7Zx|lZ^ZyWY8_9Q}c`Q}BnV~}J[} 6YeE29pGStd~Aq8 5_ 5s 2RP3vt 5_ 9DknPyk3d8m 1n0hCoBY^yH}OrK7]o^u5XnYGGjk1xlqHrO[K^ENzzdDhksg{zNdG 6YgF40PM_V`C{c4 5_ 5s 2RQNwA 5_ 9DlEMI]9t9L 1pIX00W8S{zWDW7DG9H{lD}KsPy]65~4~kG^W]JKxIh0SKxwxwRkY 6YiG5uySj2ZQmT0 5_ 5s 2RRcwV 5_ 9DleIbNG59t 1r[HrGICYTw2OaonMp_W|Y9ZHM3u_XvjMUUq6{K8g0XEG[4iAX`YJ 6Xh`[TIZARJqCCg 5_ 5s 2RSwwl 5_ 9Dm5Ez9MLAS 1tn2eW4G_vsc_mWx[IFGyWqxh0UcHNS`eu6xLLU`JG7uDjT_C1Tqy 6Xja^JraK}E~|}c 5_ 5s 2RUCx2 5_ 9Dm[BIzS]A{ 1w0rWguKeOpDnyA3ijv0vVZNLibuKmFvA3BO[X1}Haan^X_2bx5|3 6Xlb`ARgV`ADno_ 5_ 5s 2RVWxN 5_ 9Dm{7e8ZtBd 1yIcJwgOjqln~5rDwC]osUClzRo8OC3CeGFokddRF{4gwGh]2oz7F 6Xncb0{mbDWSgad 8b~6Arg 5_ 5s WE6qNy4Ig1Z3NEfA^G77] 5_ 9DnR3|yb5CC GuBWfNbqPgffR32muEcwTg}1pd[JmEdL_[QL0slfwZ2FIvG8sHO4tizTsGo E~d3^K{EVB`7YK^1TCTy KHY 5_ 5s 3mQq6e~]oERTqco 5_ 9Dnr0LkhLCk 1MocAx8kgPY6KlX6hS}hc6g9eWnSjkf[CbG0h[jubh38cl0p}8EVLBd~y E~d54F9VFnZ`P7Wk~1Z4 V2dy{Hyx 5_ 5s 3wW0y6mY[nkYBGc_iGWizehKYd{w 5_ 9DoH{e]n]DJ 1PNWFjRZYSEZrQQOYOq[pNtcy|meTZGaT[cp^y9}REebj5MY^UlI5QzFg E~d6a9Mh0QV2FyRV_u`E V32Z9U{U 5_ 5s 3mX9c0mDsxTtuIu 5_ 9Dohx5Xx3EE 1RWBJnXYHokhi^BLGHsgPdNZP|VgGWOl^3XvX9kkBc}efvP}G`Aszmdgf E~d873Zxo}QZ6lTLD0ek V3QLKT|i 5_ 5s 3m[0{KixOcc^Nhr 5_ 9Dp_pjj4FF9 1T`uNpLhD|x]t2Ozg`CiLoCu8p[|v_^f1c6D7nbY4cABv1m9F1^pVTUTU E~d9c|iA`aL|SZeUrpkH 5_ 5s 2Rawzl 5_ 9Dp~m3[AVFh 2Cak]khypIKxdiN7JWPyH0flilcmDeCF3CXCwWMxQqUzfL`qM`NPq 6X|9xiCWkWjD^}N 5_ 5s 3m`NTcbqzrb1Yt| 5_ 9DqU`pxzKyb 2FBO2svwNIQQQ_yO58`IORFZoT1[^lAF6J{gSVcXFiK_TOy0VL4mM 6X~Az_l^mXH5}Xe 5_ 5s 4347}i_IaZ]bfB17kIBkOyJArhZF`Wle9YdhxnP8t 5_ 9DrlTl`BSzx 1ZLnYeYBJktvzS7rfs5HrJ|H}f1ZeheuavPbLWV42`dt8Q4z9n_qJrJTb 6Y1B|UMZpg1TgKO 5_ 5s 3mf64ada6]rrcJh 5_ 9DsCQ5QHd{W 1]0N]yWRuAls7Q7TfW4Kz}OcgnHOFBy99qviY3fhy_1^CuRpb7}7Bdgk7 6Y3C~Kva{H{cX6K 5_ 5s 2R1Uu0 5_ 9DscPbMAO}G 1C^9ieAQCgeta75OMQYCFQtZWvofoO_7B|liVqShYJ0|dVs_}Xm_d 6Y5E1BVhA21cmxW 5v]dOorAU8NJVtTFX}r8NJsE Xnju0XQ8dEc1gbzlB[ox[ySmKdaPHJ_sE]a}jRticu`yU1qXX}LFKOvIcEzu~GsyjhJ3vFPcrga8LK8Y[Q5pn61bzvPCHlxW[cshq5YLzL|lYSS3N4e2HDl4kTQg9g{}6E0zT]KCBdq7_4boQruliu3az`ZOCDxnx7sEYa0JpK`M9gqClyI1NglFnE5^IvkTNyTKkc[Sdi1[rys_BBYxhaiC5bIP30qmarzxCN5]Y4aSSSoSa~sh6[5BEimyAYI~8Ubq1I0LaQUD442cTmCXAMXj`~K2Vh9s5D3GNx8LSjY3ZdS5Z[HVkNXC3D7OWhlomIqjj7|BX{K_ nVc`QCDPJGTf1~^kXs95Xyn_VDE02]YgGx^[}w17GBTnrDbznfXhl3mQ I|Dz}c~rIHWPA]mC Sk1`2bORrWxS"]
def Wf(P:aw):List (Nat×Obj):=[(3,rY P (nat_lit 0x12867d2000bd531d170d100ecd3e7d08ad000e6d2e2d07ed000d4d2e1d0ccc2d2ddd05bd000a2d2dcd051d0008cd2dbd04ad00084d2d9d043d0007ad2e5d03ed00052d2d6d037d0003dd2cad02dd00036d2c8d02bd000a2d1afd026d0007cd1a9d01fd0006dd1aed01fd0006cd1a1d018d00062d19fd011d00059d19dd00ad00050d1add00ad0004fd19bd003d00044d195d07c003bd1acd07c003ad193d075002dd18dd06e0021d189d065001ad181d04400efd07bd03300d5d077d02c00cad073d017d003bdd039d00c0093d022d0012ed038d02cd0832dd036d0812bd035d006002ad034d00129d00616d00828d0050127d0040126d0038d0225d00128ca)),(35,rY P (nat_lit 0x178d1911cd10492d09172d00486d09170d0047ad0916ed00464d09167d00457d09165d00450d0915ed00449d09159d0043dd09119d00436d09112d00425d09176041ed0916d0417d091680410d0915a0409d091480402d09143047b913604749125046d9121044c91120439910d04329107042b9103044596)),(266,rY P (nat_lit 0x1008067d28e8ee1d089d03f03cc8ad0956fd08ee1d00506018bddd2e1d090d5d2e1d0900081d08e06004803))]
def Wg(P:aw):List Obj:=De P ["# 5_ 5s 5vc3kQjz7PX~lXu{cDOlA9M[ 5_ 9DtyEbk}MGR 4^4}zqlj7jHyawBWAv3m47v8RBUeKknFvhAoJws`VkrRcRqtW6dQml jqV^b9q32IJPGnVdJ]8]I 5_ 5s 5vg8leLq5jSVL10qWS|8nin4 5_ 9Dup7JOASL0 4hZkUj|KS6n]km5iIOu1MgU^akV|ipV3voU3]z8^u}X_l0PGHsz55u jqV^b9q34JLFqK^_0poRJ 5_ 5s jZVRLAK_0axhOd||oKmGZ1`P[T}tau 5_ 9E9]n7ZD73A 3ECbbnqN0rPg3puD37BWaMX5WUeAYtmFiTvWfTkPe6CoHm7|6Yn0FrY|32 jqV^b9q36KN6dhSeK{3yq 5_ 5s 1`gNGabz8} 5_ 9DvG3cAGVWN 1R0Nf~L`D3|xjpDZ4]LjrEyAwrPyHK8tTo3NOKMUgzaePQYW^R{7J jqV^b9q38LO{z1wS56}9R 5_ 5s 67`[rMk|mfKe^sWIwDcdavCjDgU4pTE0wiaK^ 5_ 9ED1OoyuVI1 3Sk2]J}{d{_2VDE6aZOK|tsBn4wUs`LN7_wva_^qssRH|BA0FMs2eTo6_[ jqV^b9q3AMQrpXRr}s^kX 5_ 5s j]5tL~dVj7K2`FK^DEm^fFNuzvKvLy 5_ 9EFe2pmQiSJ 1Y5[qeyhs1D5fTJwP|U}xj`h^Qz0w5DfKgqYhTFrzeWXv|sez~756 jqV^b9q3CNSiRlK6zWQg8 5_ 7I[yJ6u[32d 5mG7dQL1c^KHby1FtxuWSqN`ww5OFhkKdCbskd}hCm~sTIy_KEo~Lr|G30i~EEJ[2a|g`aO|Ns~1ESki}}Bo1WcqrPd7D1zRyNqZb4Vx7Cvwk|uUGg[l5GSOPLWD0v[UdrP~ggsyeqP9Jm{0T 5_ D_oG{8ZXN7lwhHRJec|0rZUhUS6ICFzbK`6f`rzISespw`JwNhdRRfwH_qq`UF1Q1sd7_2Rxep0[6zt6oFY_1e5rs 2M[U8ifBt7fQ^0dI3cVG[tvO{^PrgqKWMdJ4gseZ_Sm5GD6N_ LHIwUxJz`1edSrVvu64WZ}}26 U{^BBFT4 5_ 5s 42T`GuA9}MZ1Wz618cJYYRyCMgGfuf{7GSSkqcDc3 5_ 9D|NMbSVJgd Kryh[}H^kaBAbUpuphwqKjyDPODeonFv8ebLegKz]V4ctWcdB8_bUeI jwcCz6|mzPp|C5na8nvVl 5_ 5s 2RJyyJ 5_ 9D|nJGeNIt9 1e0dG9^XKCN3c]hwFmz0pV1j[Y^Kw`cwl3jQFI|1{4bv~xixWBUZ~ 166S8|SEM~Wfq]w2VS 2^WR~`]zugqLdHgih7e 5_ 5s 3m665MCz3zKNR0L 5_ 9D}eBuuYUu4 62j}{fo1YiMjAHZVUcXRuGeIk`^lNl^YSPjdUy[5[uVrBCI|w_fsED 166S8~ifvyzFBxWAPo KHY 5_ 5s WCC|fRLXm7FkyE5y]8}6e 5_ 9D~{0q[j^vQ MLTgXEHooOlDN5isjtb__KNZ~`UbwVf{qqXmP7yIVs0i5xmhWafhFdz jwcC~XG^lYpAniWPtVhaz 5_ 5s 2ROZzN 5_ 9E0Q|AMpnvy 1m3KVTzKrkpan9bwCdTjzcbIv9AdX0YIOcdK`hi}UwTH]AQpff`0c 166S941AMUyuTeK06Y 5_ 5s 42cEDq`5}CO]8YnJO0eyx34ChxqKDoiE2RpwHDE{t 5_ 9E1hq5}1vxG 1pxEj7FMTLeh0Ok_xFl~yrA0oIVw24e6Nh}QLBKbmyDsjizbwengJ 166S962CD0vxcTchxD 5_ 5s XSF2VouhQqqc|dr^T8LKGShtiMddf7W3~A 5_ 9E3u^dXRvzL 1tVLK2NY}RjiufuqeI[UYBuhnbJC[HZT0vGqq3_XUqrwL[SvjmdB| 166S983E3bjtT36Ikf 5_ 5s 3mJcS45O`7Kh6]| 5_ 9E4LY|JY7zt 6qEK`T02{Wwf{vFVc{2rbG6MDR`GjZj7]u2xYh72[wK5vQ[_Y1XTeA 166S9A4FyBp~~}K4]b 2RQfU6 5_ 5s WDr4LxV9~u]lbsxZlhgT5 5_ 9E5CRbZeJ{o P4uPTLYZbFyOBwl3PO5dP4AUfPGrUg1uwkjTf0Lfmi{N9BrZSA6wA~q jwcD6LuRL[[PwvlLy`E|0 5_ 5s 2RX7|M 5_ 9E5cSd`GV4I 1|B9p_01WpdWAZ453l5mv~HboQG^mzwFxMZ1vzSUXqH{i5Y[EMeE} 166S9EQjOgPne^^xOt 5_ 5s 3mQ[o5T{]mBfGue 5_ 9E6YChS6Gn_ 1~kmLfjTFF}1Iw[QO[GoKdJ|vbbn7KVIijAyV7FVNk]hfx_FFpa0j 166S9GRlFGvl{Z[Jt^ |2N1WZO~FOV5r1VvTIQzAbH[cSN`8Z5SUS^Pu|hP{6w0Gl{0SqK8DuPV`Z5R_GRtv_fDGgLTtHxhJY1wT]}_iCq1KyUprsh9mlz4F~`ITUl6D52|Nklcbh8wNvTaFr{3rLqb0R 1aNWJ5paC6JN4xFq`3vRHObT0oHO1ZlBHzUO{hB9B2QEw{fw[h]axiu_CQdbS}Gq]b]FIn^Thoc2RI7~MB~WZ1N~uMR6^AB6Oi`CNN|q9zD|v`{oMF^{Z6RJnc~`wo|bMJwe_0X3}tPUFstMz9jfccONAeYoF 1BX4sH`{wjLNQo{1[3Vqx8KcG|9894Zx|eL6WfPN^J}}^SgQDU}4G OxoIgXFs3hvg3x|DI_WzBZ_Bk 1eMdaGsVKUO1x9lByRjcPuA Q5JMxz2S]687^B`t _Z2e8nmCU55T"]
def Wh(P:aw):List (Nat×Obj):=[(3,rY P (nat_lit 0x12feed200d5d56bd193d20048d59dd18cd2003dd59cd185d20031d569d17ed2002ad59bd177d2001fd568d170d20016d566d167d2000bd531d170d100ecd3e7d08ad000e6d2e2d07ed000d4d2e1d0ccc2d2ddd05bd000a2d2dcd051d0008cd2dbd04ad00084d2d9d043d0007ad2e5d03ed00052d2d6d037d0003dd2cad02dd00036d2c8d02bd000a2d1afd026d0007cd1a9d01fd0006dd1aed093d2006cd1a1d018d00062d19fd011d00059d19dd00ad00050d1add08cd2004fd19bd003d00044d195d07c003bd1acd07ed2003ad193d075002dd18dd06e0021d189d065001ad181d04400efd07bd03300d5d077d02c00cad073d017d003bdd039d00c0093d022d0012ed038d02cd0832dd036d0812bd035d006002ad034d00129d00616d00828d0050127d0040126d003be0225d0012fca)),(35,rY P (nat_lit 0x199d2912cd20492d29122d2048bd2910dd20484d2910ad2047dd29104d20476d291ffd1046fd291ead10478d1911cd10492d09172d00486d09170d0047ad0916ed00464d09167d00457d09165d00450d0915ed00449d09159d0043dd09119d00436d09112d00425d09176041ed0916d0417d091680410d0915a0409d091480402d09143047b913604749125046d9121044c91120439910d04329107042b9103045a96))]
def Wi(P:aw):List Obj:=De P ["# 8aWzvjl 5_ 5s jeRyfOEVXQ1F5t4ikgCmx`raw_1Lbp 5_ 9EFEF3PxoEW SDRb{BxZ7{H{|ZjfgFmd1Qai0LuCZyS5Wq0LIB}An6pB0t[xhS9}v{v jwcDBr4q]}WIVlE]5cEi5 Ps}9aKbC{buv 5_ 5s 1`}V|GZynW 5_ 9EFeBRB~rMC 2EsbgS88y]ksZuhd]NDculvzQ978uwHOBMlF[t0mQu{kWgBRymeQg 166S8KO5v^w^7^`z}C 5_ 5s hr1H^7m]6oDg4NmUV 5_ 9EG[43oBxUS 2I3u_LaYBCo{zcH}|DOZSyliLnRv9DJMUzB}2MMavqp3WIIvfgKla 1665g[zr8v2}DIaaso 5_ 5s 9EHQ{kRN~Z1 |3IvBQRG0qFk2`LWqXqisj3Bb}fwj9rvwrbb]CcT35d1irj 1665g^Q}bjgBC|I[Xh 5_ 5s 9EHqx4DU2_9 |tpoxox~}rgzk762CM{_H3qbhFJmNqBjCum6~QIcKNTQJ75 1665g_rA5^tRsttS75 5_ 5s 9EIHtR~[5cH Z6aomaWV}wpNH85`4~{I_Fvg9xuBsPS]pKQdRi}y[saCa7G 1665gaIL_R2dZmVJkX 5_ 5s 9EIhpkpb8gP 9{}qJPQ5RJUHFA67V9mPzMxfQRA9VTsfHp|G7A[}Tbma7k 1665gbiX2FFuBf2BOu 5_ 5s 1`cWc93Y0[ 5_ 9EJ_iSSnEk} 1Gj||_dSM_udHa^KpSkF07VIc|HLq44TJpF`[u2HBH7lgjFI^sHX| 1665gdjYwol|6RLrEv 5_ 5s 9EJ~elEtHp6 AV_XvDjo8muvbzKIj4Sdp1{UBXjaOeEO8~`Hse9PQvx]V7 1665gfAfQczDmJwisJ 5_ 5s 9EKUb50zKtE ^XMHwWWfD1Ys_KK[Do6RVym_Wv8K1wyIDkYbzKw8S[w8WeL 1665ggaqtW8UTCYaWg 5_ 5s jZNe8[ZyReJwZZ]6]w4ln[|O_oB9YL 5_ 9EMCRTGJWys 1NpB8BOyizGdC[uBCTZHfxuwCUR]48[yUzIyY^^0xEfbkqQg[ms|k 1665gibsk2[U0[zNNi 5_ 5s 9EMcNm2PZ}{ `dlOznFHju_s57Eir{eZyLIMv]S|K5UmXY3M7jXgOsm|v}i 1665gk30DuifgT]E|6 5_ 5s 9EN3K5sV_34 aVJIjEQ3Sp2a3vWvIhSs]sGiwYzGtG|Tkr7mkT3]P5^nLCw 1665glYBgivwNM86aY 5_ 5s 5vtH8z7g4PEP0btHGgJnBGX8 5_ 9ENyCmVce7h 5B8uvx2cNlPIfEtXIArrF162btNnDZrGpxsuY{w7S7RL2kQZIG2kVm 1665gnZD^JS~I3RmVZ 5_ 5s 9EOP96HihBp cX7^dLH^dbF{0azz8i]aRy9DSOhaZFwPe~eb3y|~Xqg[nQb 1665gozP17bFxz}e4w 5_ 5s j]PJNR^brBLRpnU1m]Qtj]da1W4b~F 5_ 9EQ6yUX2tHU 1ZhlbIJhi|VJXDVLm]DujcNb7j1jrqdxh[a[L}sLC]_SjmLFHNBmM 1665gq{Qvh~F[KUQzy 5_ 5s j]x6iyk~l^w5szzwf]TE_Ei28kqEc0 5_ 9ERsjnhR1N4 1^x0YBm2zcZRwz0gJY]fq[CV4mz3q1NJ5ClhQ1W2W7FIpsr12[hov 1665gs|SmJRF7dv8q{ 5_ 5s 9ESJg7YX7Xg 2RRL_PJC3JK`8VkHtr3o30hUAx4q5HjvyAYq|qRZE6GLQSqQo 1665guS`G7`Vn]X3^H 5_ 5s 9ESjcVK_7VK DI12hg05bHVtzlQacLZdfjQaevKrwzClUeX[5I3xRs03C9 1665gvskizmhUU3w4l"]
def Wj(P:aw):List (Nat×Obj):=[(3,rY P (nat_lit 0x14363d30062d6bfd15ed3005cd6bed159d30056d6bdd152d3004cd6b9d14bd30042d6b5d146d3003cd6b4d13fd30033d6b2d13ad3002dd6b1d135d30027d6b0d12ed3001dd6acd129d30017d6abd124d30011d6aad11dd3000ad6a8d118d30004d6a7d113d300fed5a6d10ed300f8d5a5d109d300f2d5a3d102d300e8d5a1d1fbd200e1d5c0d1fad200dfd5a0d1eed200d5d56bd193d20048d59dd18cd2003dd59cd185d20031d569d17ed2002ad59bd177d2001fd568d170d20016d566d167d2000bd531d170d100ecd3e7d08ad000e6d2e2d07ed000d4d2e1d0ccc2d2ddd05bd000a2d2dcd051d0008cd2dbd04ad00084d2d9d043d0007ad2e5d03ed00052d2d6d037d0003dd2cad02dd00036d2c8d02bd000a2d1afd026d0007cd1a9d01fd0006dd1aed093d2006cd1a1d018d00062d19fd011d00059d19dd00ad00050d1add08cd2004fd19bd003d00044d195d07c003bd1acd07ed2003ad193d075002dd18dd06e0021d189d065001ad181d04400efd07bd03300d5d077d02c00cad073d017d003bdd039d00c0093d022d0012ed038d02cd0832dd036d0812bd035d006002ad034d00129d00616d00828d0050127d0040126d003b80225d00143ca)),(35,rY P (nat_lit 0x162d391a5d3045dd39196d30458d3918ed30451d39187d3044ad39185d30445d3917ed3043ed39171d30439d39169d30434d39159d3042dd39153d30428d39151d30423d39149d3041cd39147d30417d39145d30412d39142d3040dd3913fd30408d39138d30401d39131d304f9d29128d30499d2912cd20492d29122d2048bd2910dd20484d2910ad2047dd29104d20476d291ffd1046fd291ead10478d1911cd10492d09172d00486d09170d0047ad0916ed00464d09167d00457d09165d00450d0915ed00449d09159d0043dd09119d00436d09112d00425d09176041ed0916d0417d091680410d0915a0409d091480402d09143047b913604749125046d9121044c91120439910d04329107042b91030413d096))]
def ID:List Obj->List (Nat×Obj)->List Obj
 |l,[]=>l
 |l,(i,o)::r=>ID (l.set i o) r
def sp:List Obj->List Obj×List Obj
 |[]=>([],[])
 |a::l=>(a::(sp l).2,(sp l).1)
def tr:Nat->List Obj->BT
 |0,_=>.nil
 |_+1,[]=>.nil
 |k+1,v::r=>.node v (tr k (sp r).1) (tr k (sp r).2)
def Df(l:List Obj)(n a:Nat)(os:OsState):SharedT:=⟨tr 12 l,n,{},⟨[]⟩,{},a,os⟩
def gm:Env:={scope:=pw.main.scope,locals:=mainNs,globals:=mainNs,cells:=[],code:=.ref 36,frame:=some 37}
def bE:List Stmt:=behindTheImports pw
def cE:Code:=.body bE gm
def oi:List Frame:=[topFrame ⟨0,0,0,0⟩]
def LE(P:aw):List Obj:=YH P
def LF(P:aw):List Obj:=ID (LE P) (YI P)
def L0(P:aw):List Obj:=LF P++YJ P
def X0(P:aw):List Obj:=ID (L0 P++V6 P) (V7 P)
def X1(P:aw):List Obj:=ID (X0 P++V8 P) (V9 P)
def X2(P:aw):List Obj:=ID (X1 P++Wa P) (Wb P)
def X3(P:aw):List Obj:=ID (X2 P++Wc P) (Wd P)
def X4(P:aw):List Obj:=ID (X3 P++We P) (Wf P)
def X5(P:aw):List Obj:=ID (X4 P++Wg P) (Wh P)
def VL(P:aw):List Obj:=ID (X5 P++Wi P) (Wj P)
def sE(w:aq)(os:OsState):SharedT:=Df (LE w.params) 34 318 os
def sF(w:aq)(os:OsState):SharedT:=Df (LF w.params) 34 318 os
def s0(w:aq)(os:OsState):SharedT:=Df (L0 w.params) 38 324 os
def q0:Pos:=⟨0,0,0,0⟩
def Iu(w:aq)(os:OsState):SharedT:=Df (X0 w.params) 172 549 os
def Iv:Pos:=⟨144,0,144,8⟩
def Iw(w:aq)(os:OsState):SharedT:=Df (X1 w.params) 177 695 os
def Ix:Pos:=⟨145,0,145,18⟩
def Wk(w:aq)(os:OsState):SharedT:=Df (X2 w.params) 269 871 os
def Wl:Pos:=⟨240,0,241,21⟩
def Wm(w:aq)(os:OsState):SharedT:=Df (X3 w.params) 499 1133 os
def Wn:Pos:=⟨242,0,411,17⟩
def Wo(w:aq)(os:OsState):SharedT:=Df (X4 w.params) 746 1420 os
def Wp:Pos:=⟨412,0,616,17⟩
def Wq(w:aq)(os:OsState):SharedT:=Df (X5 w.params) 883 1622 os
def Wr:Pos:=⟨684,0,935,20⟩
def xV(w:aq)(os:OsState):SharedT:=Df (VL w.params) 996 1763 os
def Ws:Pos:=⟨1061,0,1068,60⟩
theorem Wt(w:aq)(os:OsState):segRunT treeTable pw w 34 (some (.ref 6)) 1 1500 (s0 w os) (piecesOf ((bE.drop 0).take 24) gm cE q0 oi)=some (.next,Iu w os,cE,Iv):=by unfold pw;rw[a0,aP,fu];kernel_rfl
theorem lR(w:aq)(os:OsState):segRunT treeTable pw ((w.withFollow "special-get-raises" false).withFollow "comprehension-iter-twice" false) 34 (some (.ref 6)) 1 1500 (Iu ((w.withFollow "special-get-raises" false).withFollow "comprehension-iter-twice" false) os) (piecesOf ((bE.drop 24).take 1) gm cE Iv oi)=some (.next,Iw ((w.withFollow "special-get-raises" false).withFollow "comprehension-iter-twice" false) os,cE,Ix):=by unfold pw;rw[a0,aP,fu];kernel_rfl
theorem mV(w:aq)(os:OsState):segRunT treeTable pw ((w.withFollow "special-get-raises" true).withFollow "comprehension-iter-twice" false) 34 (some (.ref 6)) 1 1500 (Iu ((w.withFollow "special-get-raises" true).withFollow "comprehension-iter-twice" false) os) (piecesOf ((bE.drop 24).take 1) gm cE Iv oi)=some (.next,Iw ((w.withFollow "special-get-raises" true).withFollow "comprehension-iter-twice" false) os,cE,Ix):=by unfold pw;rw[a0,aP,fu];kernel_rfl
theorem mW(w:aq)(os:OsState):segRunT treeTable pw ((w.withFollow "special-get-raises" false).withFollow "comprehension-iter-twice" true) 34 (some (.ref 6)) 1 1500 (Iu ((w.withFollow "special-get-raises" false).withFollow "comprehension-iter-twice" true) os) (piecesOf ((bE.drop 24).take 1) gm cE Iv oi)=some (.next,Iw ((w.withFollow "special-get-raises" false).withFollow "comprehension-iter-twice" true) os,cE,Ix):=by unfold pw;rw[a0,aP,fu];kernel_rfl
theorem oQ(w:aq)(os:OsState):segRunT treeTable pw ((w.withFollow "special-get-raises" true).withFollow "comprehension-iter-twice" true) 34 (some (.ref 6)) 1 1500 (Iu ((w.withFollow "special-get-raises" true).withFollow "comprehension-iter-twice" true) os) (piecesOf ((bE.drop 24).take 1) gm cE Iv oi)=some (.next,Iw ((w.withFollow "special-get-raises" true).withFollow "comprehension-iter-twice" true) os,cE,Ix):=by unfold pw;rw[a0,aP,fu];kernel_rfl
theorem Ss(w:aq)(os:OsState):segRunT treeTable pw w 34 (some (.ref 6)) 1 1500 (Iu w os) (piecesOf ((bE.drop 24).take 1) gm cE Iv oi)=some (.next,Iw w os,cE,Ix):=
 byRow2 "comprehension-iter-twice" (P:=λw=>segRunT treeTable pw w 34 (some (.ref 6)) 1 1500 (Iu w os) (piecesOf ((bE.drop 24).take 1) gm cE Iv oi)=some (.next,Iw w os,cE,Ix))
  (byRow2 "special-get-raises" (P:=λw=>segRunT treeTable pw (w.withFollow "comprehension-iter-twice" false) 34 (some (.ref 6)) 1 1500 (Iu (w.withFollow "comprehension-iter-twice" false) os) (piecesOf ((bE.drop 24).take 1) gm cE Iv oi)=some (.next,Iw (w.withFollow "comprehension-iter-twice" false) os,cE,Ix)) (λw=>lR w os) (λw=>mV w os))
  (byRow2 "special-get-raises" (P:=λw=>segRunT treeTable pw (w.withFollow "comprehension-iter-twice" true) 34 (some (.ref 6)) 1 1500 (Iu (w.withFollow "comprehension-iter-twice" true) os) (piecesOf ((bE.drop 24).take 1) gm cE Iv oi)=some (.next,Iw (w.withFollow "comprehension-iter-twice" true) os,cE,Ix)) (λw=>mW w os) (λw=>oQ w os))
  w
theorem Su(w:aq)(os:OsState):segRunT treeTable pw w 34 (some (.ref 6)) 1 1500 (Iw w os) (piecesOf ((bE.drop 25).take 11) gm cE Ix oi)=some (.next,Wk w os,cE,Wl):=by unfold pw;rw[a0,aP,fu];kernel_rfl
theorem Sv(w:aq)(os:OsState):segRunT treeTable pw w 34 (some (.ref 6)) 1 1500 (Wk w os) (piecesOf ((bE.drop 36).take 1) gm cE Wl oi)=some (.next,Wm w os,cE,Wn):=by unfold pw;rw[a0,aP,fu];kernel_rfl
theorem Sw(w:aq)(os:OsState):segRunT treeTable pw w 34 (some (.ref 6)) 1 1800 (Wm w os) (piecesOf ((bE.drop 37).take 1) gm cE Wn oi)=some (.next,Wo w os,cE,Wp):=by unfold pw;rw[a0,aP,fu];kernel_rfl
theorem Sy(w:aq)(os:OsState):segRunT treeTable pw w 34 (some (.ref 6)) 1 1500 (Wo w os) (piecesOf ((bE.drop 38).take 12) gm cE Wp oi)=some (.next,Wq w os,cE,Wr):=by unfold pw;rw[a0,aP,fu];kernel_rfl
theorem Sz(w:aq)(os:OsState):segRunT treeTable pw w 34 (some (.ref 6)) 1 1500 (Wq w os) (piecesOf ((bE.drop 50).take 21) gm cE Wr oi)=some (.next,xV w os,cE,Ws):=by unfold pw;rw[a0,aP,fu];kernel_rfl
def sZ(os:OsState):SharedT:=⟨.nil,0,{},⟨[]⟩,{},1,os⟩
theorem Wu(w:aq):(impGoT treeTable (opening pw) w 1085 (sZ (start (opening pw)).1.os) (start (opening pw)).2).map (λr=>(r.1,r.2.atExitBegin))=some (sE w (start (opening pw)).1.os,some []):=by unfold pw;rw[PySem.W.Fast.te14789777615569096658,aP,PySem.W.Fast.te1435165496053646825,PySem.W.Fast.te3805553451399329143,fu];kernel_rfl
theorem Wv(w:aq):importEnds treeTable (opening pw) w (1085+1) (start (opening pw)).1 (start (opening pw)).2=some (sE w (start (opening pw)).1.os).abs:=by obtain⟨⟨s,t⟩,h,e⟩:=Option.map_eq_some_iff.mp (Wu w);obtain⟨a,b⟩:=Prod.mk.inj e;dsimp only at a b;subst a;refine imp_go (s':=(sE w (start (opening pw)).1.os).abs) (t':=t) (impGo_of (s:=sZ (start (opening pw)).1.os) h) ?_;unfold importEnds;rw[b]
theorem NN(w:aq)(os:OsState):fenceModules? pw (sE w os).abs=some (sF w os).abs:=by unfold pw;rw[PySem.W.Fast.te14289696077712309145,fu];kernel_rfl
theorem SA(w:aq):(fencedOpening treeTable pw w 20000).map (λs=>(s.heap,s.gens,s.drawn,s.toks))=some (absHeap (tr 12 (LF w.params)) 34 {},⟨[]⟩,{},318):=
 open_cut (p:=pw) (N:=20000) (M:=1085+1) (He:=λP=>absHeap (tr 12 (LE P)) 34 {}) (H₀:=λP=>absHeap (tr 12 (LF P)) 34 {}) (ge:=⟨[]⟩) (g₀:=⟨[]⟩) (de:={}) (d₀:={}) (ke:=318) (k₀:=318)
  (λw=>Wv w) (by decide) (λw=>funext λos=>by have:=NN w os;unfold sE Df SharedT.abs at this;rw[this];rfl) w
theorem Ww(w:aq)(os:OsState):topGo treeTable pw w 34 (some (.ref 6)) 12 (sF w os).abs (topStub pw)=some ((s0 w os).abs,⟨denote treeTable cE,cE,⟨0,0,0,0⟩,oi⟩):=by unfold cE gm bE pw;rw[PySem.W.Fast.te15667345088766844465,aP,PySem.W.Fast.te11892475500146522536,fu];kernel_rfl
theorem NO(w:aq)(os:OsState):segRun treeTable pw w 34 (some (.ref 6)) 1 1 (s0 w os).abs (blockOf bE gm cE ⟨0,0,0,0⟩ oi)=some (.next,(s0 w os).abs,cE,q0):=by unfold pw;rw[PySem.W.Fast.te14374325043358763698,aP,fu];kernel_rfl
theorem Wx(w:aq)(os:OsState):topRun treeTable pw w 34 (some (.ref 6)) 2 (xV w os).abs ⟨doneF .next,cE,Ws,oi⟩=some (xV w os).abs:=by kernel_rfl
theorem NP:bE.drop 71=[]:=by unfold bE pw;rw[fu];kernel_rfl
theorem tk(i k:Nat):bE.drop i=(bE.drop i).take k++bE.drop (i+k):=by rw[<-List.drop_drop,List.take_append_drop]
theorem SD(w:aq)(os:OsState):topRun treeTable pw w 34 (some (.ref 6)) 2 (xV w os).abs (restOf (bE.drop 71) gm cE Ws oi)=some (xV w os).abs:=by rw[NP];exact piece_nil (Wx w os)
theorem SE(w:aq)(os:OsState):topRun treeTable pw w 34 (some (.ref 6)) (1500+2) (Wq w os).abs (restOf (bE.drop 50) gm cE Wr oi)=some (xV w os).abs:=by rw[tk 50 21];exact piece_app (segRun_of (Sz w os)) (SD w os)
theorem SF(w:aq)(os:OsState):topRun treeTable pw w 34 (some (.ref 6)) (1500+(1500+2)) (Wo w os).abs (restOf (bE.drop 38) gm cE Wp oi)=some (xV w os).abs:=by rw[tk 38 12];exact piece_app (segRun_of (Sy w os)) (SE w os)
theorem SG(w:aq)(os:OsState):topRun treeTable pw w 34 (some (.ref 6)) (1800+(1500+(1500+2))) (Wm w os).abs (restOf (bE.drop 37) gm cE Wn oi)=some (xV w os).abs:=by rw[tk 37 1];exact piece_app (segRun_of (Sw w os)) (SF w os)
theorem SH(w:aq)(os:OsState):topRun treeTable pw w 34 (some (.ref 6)) (1500+(1800+(1500+(1500+2)))) (Wk w os).abs (restOf (bE.drop 36) gm cE Wl oi)=some (xV w os).abs:=by rw[tk 36 1];exact piece_app (segRun_of (Sv w os)) (SG w os)
theorem SI(w:aq)(os:OsState):topRun treeTable pw w 34 (some (.ref 6)) (1500+(1500+(1800+(1500+(1500+2))))) (Iw w os).abs (restOf (bE.drop 25) gm cE Ix oi)=some (xV w os).abs:=by rw[tk 25 11];exact piece_app (segRun_of (Su w os)) (SH w os)
theorem SJ(w:aq)(os:OsState):topRun treeTable pw w 34 (some (.ref 6)) (1500+(1500+(1500+(1800+(1500+(1500+2)))))) (Iu w os).abs (restOf (bE.drop 24) gm cE Iv oi)=some (xV w os).abs:=by rw[tk 24 1];exact piece_app (segRun_of (Ss w os)) (SI w os)
theorem Wy(w:aq)(os:OsState):topRun treeTable pw w 34 (some (.ref 6)) (1500+(1500+(1500+(1500+(1800+(1500+(1500+2))))))) (s0 w os).abs (restOf (bE.drop 0) gm cE q0 oi)=some (xV w os).abs:=by rw[tk 0 24];exact piece_app (segRun_of (Wt w os)) (SJ w os)
theorem IF(w:aq)(os:OsState):topRun treeTable pw w 34 (some (.ref 6)) (12+(1+(1500+(1500+(1500+(1500+(1800+(1500+(1500+2))))))))) (sF w os).abs (topStub pw)=some (xV w os).abs:=by have a:=Wy w os;rw[List.drop_zero] at a;have c:topRun treeTable pw w 34 (some (.ref 6)) (1+(1500+(1500+(1500+(1500+(1800+(1500+(1500+2)))))))) (s0 w os).abs ⟨denote treeTable cE,cE,⟨0,0,0,0⟩,oi⟩=some (xV w os).abs:=piece_block (b:=bE) (env:=gm) (NO w os) a;exact go_top (s:=(sF w os).abs) (s':=(s0 w os).abs) (r:=(xV w os).abs) (Ww w os) c
theorem Wz(w:aq)(os:OsState):(sF w os).abs=⟨absHeap (tr 12 (LF w.params)) 34 {},⟨[]⟩,{},318,os⟩:=by kernel_rfl
theorem SK(w:aq)(os:OsState):(xV w os).abs=⟨absHeap (tr 12 (VL w.params)) 996 {},⟨[]⟩,{},1763,os⟩:=by kernel_rfl
theorem NQ(w:aq)(os:OsState):topRun treeTable pw w 34 (some (.ref 6)) (12+(1+(1500+(1500+(1500+(1500+(1800+(1500+(1500+2))))))))) ⟨absHeap (tr 12 (LF w.params)) 34 {},⟨[]⟩,{},318,os⟩ (topStub pw)=some ⟨absHeap (tr 12 (VL w.params)) 996 {},⟨[]⟩,{},1763,os⟩:=by have h:=IF w os;rw[Wz,SK] at h;exact h
theorem SM(w:aq):((absHeap (tr 12 (LF w.params)) 34 {}).isNs mainGlobals&&(⟨[]⟩:Array GenState).size==0,(absHeap (tr 12 (LF w.params)) 34 {}).objs.size,(absHeap (tr 12 (LF w.params)) 34 {}).nsMap mainGlobals "__annotations__")=(true,34,some (.ref 6)):=by rw[PySem.W.Fast.te8920871248978507458];kernel_rfl
def uk:List Str:=[S [95,115,114,101],
 S [100,101,113,117,101],
 S [95,119,97,108,108],
 S [95,112,108,97,105,110,95,110,97,109,101],
 S [65,66,67,77,101,116,97],
 S [95,65,66,67,76,105,107,101],
 S [95,97,98,99,95,112,108,97,105,110,95,109,101,116,97],
 S [102,115,112,97,116,104],
 S [95,99,104,101,99,107,95,97,114,103,95,116,121,112,101,115],
 S [99,104,101,99,107,95,97,114,103,95,116,121,112,101,115,95,103,101,110,101,114,105,99,112,97,116,104],
 S [95,103,101,116,95,115,101,112],
 S [106,111,105,110],
 S [106,111,105,110,95,112,111,115,105,120,112,97,116,104],
 S [115,112,108,105,116,114,111,111,116],
 S [98,97,115,101,110,97,109,101],
 S [100,105,114,110,97,109,101],
 S [100,105,114,110,97,109,101,95,112,111,115,105,120,112,97,116,104],
 S [110,111,114,109,112,97,116,104],
 S [116,119,105,110,95,114,101,95,49,95,102,110,109,97,116,99,104],
 S [95,115,112,101,99,105,97,108,95,99,104,97,114,115,95,109,97,112],
 S [101,115,99,97,112,101],
 S [95,116,114,97,110,115,108,97,116,101],
 S [116,119,105,110,95,114,101,95,49,95,115,104,108,101,120],
 S [95,119,104,101,110,99,101],
 S [95,105,110,100,101,120],
 S [85,110,115,117,112,112,111,114,116,101,100,79,112,101,114,97,116,105,111,110],
 S [73,79,66,97,115,101],
 S [66,117,102,102,101,114,101,100,73,79,66,97,115,101],
 S [84,101,120,116,73,79,66,97,115,101],
 S [66,121,116,101,115,73,79],
 S [83,116,114,105,110,103,73,79],
 S [95,107,105,110,100],
 S [95,102,115,112,97,116,104],
 S [99,104,101,99,107,95,97,114,103,95,116,121,112,101,115,95,112,97,116,104],
 S [105,115,97,98,115],
 S [106,111,105,110,95,112,97,116,104],
 S [100,105,114,110,97,109,101,95,112,97,116,104],
 S [115,104,108,101,120],
 S [115,112,108,105,116],
 S [95,102,105,110,100,95,117,110,115,97,102,101],
 S [113,117,111,116,101],
 S [95,108,97,119,95,111,100,100],
 S [95,108,97,119,95,107,101,121],
 S [95,108,97,119,95,100,114,97,119,110],
 S [95,108,97,119,95,112,97,116,116,101,114,110],
 S [95,108,97,119,95,112,108,97,105,110],
 S [95,108,97,119,95,119,114,105,116,116,101,110],
 S [95,108,97,119,95,119,111,114,100],
 S [95,108,97,119,95,115,112,101,108,108,101,100],
 S [95,108,97,119,95,105,116,101,109],
 S [95,108,97,119,95,109,101,97,110,115],
 S [95,108,97,119,95,111,112,101,110,101,100],
 S [95,108,97,119,95,102,105,116,115],
 S [95,108,97,119,95,100,117,101],
 S [95,108,97,119,95,110,111,100,101,115],
 S [95,108,97,119,95,112,97,116,104,115],
 S [95,108,97,119,95,104,101,108,100]]
def hF(P:aw):Heap:=absHeap (tr 12 (LF P)) 34 {}
def hT(P:aw):Heap:=absHeap (tr 12 (VL P)) 996 {}
def qv:Program:=view pF [72]
theorem YK(w:aq):staticsOk (importedModules pw.main.body) (hF w.params) (hT w.params)=true:=by unfold pw;rw[PySem.W.Fast.te5923862056798008813,fu];kernel_rfl
theorem YL(w:aq):namesBound pw (hT w.params)=true:=by unfold pw namesBound;rw[PySem.W.Fast.te18344453789297297638,fu,PySem.W.Fast.sDec_eq];kernel_rfl
theorem YM(w:aq):laidKept (hF w.params) (hT w.params)=true:=by kernel_rfl
theorem YN(w:aq)(os:OsState):openSeen qv uk (importedModules pw.main.body) (λ_=>true) true ⟨hT w.params,⟨[]⟩,{},1763,os⟩=openGood qv uk:=by unfold pw;rw[PySem.W.Fast.te4187177175401517315,PySem.W.Fast.te5923862056798008813,fu];kernel_rfl
theorem SN:LeftO pw qv uk (λ_=>true) (λs=>s.heap) (λw=>hT w.params) 20000:=
 LeftO.of_pieces (H₀:=hF) (H₁:=hT) (gs₀:=⟨[]⟩) (gs₁:=⟨[]⟩) (d₀:={}) (d₁:={}) (k₀:=318) (k₁:=1763) (m₀:=34) (ann:=some (.ref 6)) (M:=10815)
  (λw=>SA w) (λw=>SM w) (λw os=>NQ w os) (by decide)
  (λw=>funext λos=>by rw[YK,YL,YM,YN];rfl)
abbrev pA:OpenLaw:=PySem.Challenge.rw_il0209_01
def rC:DefRec:=(qv.main.body.head?.bind DefRec.ofStmt?).getD ⟨S [],(Dc).1,[],(Dc).2.2,⟨0,0,0,0⟩⟩
theorem SO:defOf qv pA.row.name=some (rC,[]):=by unfold pA PySem.Challenge.rw_il0209_01;kernel_rfl
theorem WA:pA.row.prog.theDef pA.row.name=some (rC.params,rC.body,rC.scope):=by unfold pA PySem.Challenge.rw_il0209_01;rw[PySem.W.Fast.te10235530238920679567,fu];kernel_rfl
theorem YO:kwWritten? rC.params.kwonlyargs rC.params.kw_defaults=some []:=by kernel_rfl
theorem YQ:(chainsOk qv&&opensWell pA.row.prog&&(frees pA.row.toRowW&&pA.row.within.isEmpty))=true:=by unfold pA PySem.Challenge.rw_il0209_01;rw[fu];kernel_rfl
theorem SQ:pA.row.prog.bare:=⟨rfl,rfl,rfl,rfl,rfl,by unfold pA PySem.Challenge.rw_il0209_01;rw[fu];kernel_rfl⟩
theorem SR:pA.row.toRowW.promised:=⟨[.list []],by decide+kernel,by decide+kernel⟩
theorem NR(A:pA.row.wellSaid=true)
 (j:∀(w:aq) (d c:af) (l t:Str->Option ai),Ground qv uk [] (λ_ _=>True) w d l t c.heap->(∀b o,(hT w.params).get? b=some o->c.heap.get? b=some o)->
  ∀(a:Addr),l rC.name=some (.ref a)->c.gens=#[]->∀(args:List WData) (f:List ai) (as:List Addr),pA.row.toRowW.claim.pre args=true->WData.layableAll args=true->
   ReadsAllW [] (classAt d.heap) c.heap f args as->WellAll w.params c.heap f args->(∀a∈as,(a==sysModules)=false)->
   an (model pw w) callerA (PySem.call (.ref a) f) (λv s'=>GoodWG pA.row.toRowW.claim (classAt d.heap) (ExcName.means d.heap) args c (.ok (.ret v)) s')
    (λe s'=>GoodWG pA.row.toRowW.claim (classAt d.heap) (ExcName.means d.heap) args c (.error e) s') c):pA.row.Holds:=
 holds_open (r:=pA.row) (XP:=λ_ _=>True) (YP:=λw h=>∀b o,(hT w.params).get? b=some o->h.get? b=some o) SN
  (λw s e b o h=>by rw[e];exact h) (λw h h' x k b o e=>k b o (x b o e)) (λ_ _=>trivial) (λ_ _ _ _ _=>trivial)
  SO WA YO (λs _=>recFacts_nil rfl) rfl A YQ SQ SR
  (λw d c l t G Y a o I B u C H F E y D n z args f as i g p q m=>j w d c l t G Y a n z args f as i g p q m)
abbrev pR:Program:=pA.row.prog
theorem VG:(sreFenced pR.main&&((moduleNames pR.main.body).isEmpty||lookedIntoSs (moduleNames pR.main.body) pR.main.body)&&namesResolve pR&&pR.boundNames.all (λn=>!worldNames.contains n))=true:=by rw[PySem.W.Fast.te11788848310118352699,PySem.W.Fast.te8377067652309620493];kernel_rfl
theorem VH:noRoadLSs {strict:=!(importedModules pR.main.body).all cThrough.contains,foot:=none,bare:=(["vars","dir","locals"]:List Str).filter (readsOut pR pR.main.body)} pR.main.body=true:=by rw[PySem.W.Fast.te8326940854005059898];kernel_rfl
theorem VI:namesMeet pR pR.main.body (λ_ n=>attrL n)=true:=by rw[PySem.W.Fast.te17119622794617984870];kernel_rfl
theorem VJ:pA.row.wellSaid=true:=by unfold OpenRow.wellSaid OpenRow.partSaid;rw[show looksOpen pA.row.prog=true from look_both (look_both VG VH) VI,Bool.true_and,PySem.W.Fast.te13582783067957832011];kernel_rfl
theorem VK:pA.wellSaid=true:=by unfold OpenLaw.wellSaid;rw[VJ,Bool.true_and,PySem.W.Fast.te8326940854005059898,PySem.W.Fast.te16286561074155671207,PySem.W.Fast.te17119622794617984870];kernel_rfl
set_option compiler.extract_closed false
set_option hygiene false
set_option tactic.hygienic false
local macro_rules
  | `(tactic| obtain ⟨$a:rcasesPatLo, $b:rcasesPatLo, $c:rcasesPatLo, $ds:rcasesPatLo,*⟩ := $e:term) => `(tactic| first | (refine Mine.cps fun zG zk => ?_; rcases $e:term with ⟨$a, $b, $c, $ds,*⟩ <;> (refine zk ?_; clear zk zG)) | rcases $e:term with ⟨$a, $b, $c, $ds,*⟩)
local macro_rules
  | `(tactic| cases $h:ident) => `(tactic| first | exact Mine.cX $h | exact (Bool.false_ne_true $h).elim | (replace $h:ident := Option.some.inj $h; subst $h:ident) | (have hh := Mine.nZ $h; clear $h; rcases hh with ⟨hh1, hh2⟩; subst hh1; subst hh2) | rcases $h:ident with ⟨⟩)
local macro_rules
  | `(tactic| omega) => `(tactic| lia)
local macro_rules
  | `(tactic| exists $e) => `(tactic| first | with_reducible_and_instances refine Mine.Yx ?_ ($e ..) | with_reducible_and_instances refine Mine.Yx ?_ (propext ($e ..)) | rewrite [$e:term])
local macro_rules
  | `(tactic| rw [$e:term]) => `(tactic| (exists $e; with_reducible try rfl))
  | `(tactic| rw [$e:term, $es,*]) => `(tactic| (exists $e; rw [$es,*]))
local macro_rules
  | `(tactic| wp_step) => `(tactic| first | with_reducible (first | refine PySem.wpAny_pure ?_ | refine PySem.wpAny_bind ?_ | refine PySem.wpAny_holding ?_ | refine PySem.wpAny_standAt ?_ | refine PySem.wpAny_point ?_ | refine PySem.wpAny_rule ?_ | refine PySem.wpAny_letGo ?_ | refine PySem.wpAny_mkInt' ?_ | refine PySem.wpAny_fresh' ?_ | refine PySem.wpAny_alloc' ?_ | refine PySem.wpAny_attempt ?_ | refine PySem.wpAny_throw ?_ | refine PySem.wpAny_call ?_ | refine PySem.wpAny_runValue ?_ | refine PySem.wpAny_run ?_ | refine PySem.wpAny_of_eq (by assumption) ?_ | refine PySem.wpAny_typeOf (by assumption) ?_ | refine PySem.wpAny_specialOf_val (by assumption) (by assumption) ?_ | refine PySem.wpAny_specialOf (by assumption) (by assumption) ?_ | refine PySem.wpAny_isInstance_val (by assumption) (by assumption) ?_ | refine PySem.wpAny_isInstance (by assumption) (by assumption) ?_) | ((with_reducible refine PySem.wpAny_mkStr' (hx := ?hx) ?_); case hx => size_fits) | ((with_reducible apply PySem.wpAny_load'); focus (heap_get; done)) | ((with_reducible apply PySem.wpAny_update'); focus (heap_get; done)) | ((with_reducible apply PySem.wpAny_loadPart'); focus (heap_get; done)) | ((with_reducible apply PySem.wpAny_updatePart'); focus (heap_get; done)) | ((with_reducible apply PySem.wpAny_handled_none); focus (assumption; done)) | ((with_reducible apply PySem.wpAny_ite_false); focus (rfl; done)) | ((with_reducible apply PySem.wpAny_ite_true); focus (rfl; done)) | ((with_reducible apply PySem.wpAny_ite_false); focus (simp [*]; done)) | ((with_reducible apply PySem.wpAny_ite_true); focus (simp [*]; done)) | wp_delta | with_reducible_and_instances refine PySem.wpAny_pure ?_ | with_reducible_and_instances refine PySem.wpAny_bind ?_)
abbrev dM:Addr:=185
def Xn(w:aq)(ps:Array ai):Prop:=TriplesOk ps.toList/\∀vs:Array ai,(hT w.params).get? dM=some {cls:=.none,data:=.fields vs}->∃a:Array ai,ps=vs++a
structure cT(w:aq)(h:Heap):Prop where
 keep:∀b o,(hT w.params).get? b=some o->b≠dM->h.get? b=some o
 lam:∃ps:Array ai,h.get? dM=some {cls:=.none,data:=.fields ps}/\Xn w ps
theorem cT.keeps{w:aq}{h h':Heap}(B:cT w h)(k:∀b o,h.get? b=some o->h'.get? b=some o):cT w h':=
 ⟨λb o e n=>k _ _ (B.keep b o e n),let⟨ps,b,c⟩:=B.lam;⟨ps,k _ _ b,c⟩⟩
theorem cT.notPL{w:aq}{h:Heap}(B:cT w h){b:Addr}{o:Obj}(e:h.get? b=some o)(n:o.cls≠.none):b≠dM:=λq=>by obtain⟨d,a,c⟩:=B.lam;rw[q,a] at e;cases e;exact n rfl
theorem cT.notPL'{w:aq}{h:Heap}(B:cT w h){b:Addr}{o:Obj}(e:h.get? b=some o)(n:∀ps,o.data≠.fields ps):b≠dM:=λq=>by obtain⟨d,a,c⟩:=B.lam;rw[q,a] at e;cases e;exact n _ rfl
def kr:Option Obj->List bj
 |some ⟨_,_,.dict es _,_⟩=>es.toList
 |_=>[]
def Yt(P:aw):List bj:=kr ((hT P).get? 0)
def Y3(P:aw):List bj:=kr ((hT P).get? 2)
def Xo(P:aw):List bj:=kr ((hT P).get? 3)
def pt:bj->Bool
 |⟨_,.str _ _,_⟩=>true
 |_=>false
def pv:Option Obj->Bool
 |some ⟨_,_,.dict _ _,_⟩=>true
 |_=>false
theorem nQ{h:Heap}{a:Addr}(f:pv (h.get? a)=true)(g:(kr (h.get? a)).all pt=true):h.Ns a (λn=>nsFind ⟨kr (h.get? a)⟩ n):=by
 cases q:h.get? a with
 |none=>rw[q] at f;cases f
 |some o=>
  obtain⟨c,d,x,j⟩:=o;rw[q] at f g;cases x<;>first
   |exact(ab f).elim
   |(refine⟨_,_,_,q,rfl,?_,λn=>rfl⟩
     intro e i;have:=aW.mp g e (Array.mem_toList_iff.mpr i);obtain⟨a,b,c⟩:=e;cases b<;>first|exact⟨_,_,rfl⟩|exact(ab this).elim)
def tX(w:aq)(n:Str):Option ai:=nsFind ⟨Xo w.params⟩ n
def L9(w:aq)(n:Str):Option ai:=nsFind ⟨Yt w.params⟩ n
theorem d0(P:aw):pv ((hT P).get? 0)=true:=by kernel_rfl
theorem d2(P:aw):pv ((hT P).get? 2)=true:=by kernel_rfl
theorem d3(P:aw):pv ((hT P).get? 3)=true:=by kernel_rfl
theorem Y4(P:aw):(kr ((hT P).get? 0)).all pt=true:=by kernel_rfl
theorem Y5(P:aw):(kr ((hT P).get? 2)).all pt=true:=by kernel_rfl
theorem Y6(P:aw):(kr ((hT P).get? 3)).all pt=true:=by kernel_rfl
theorem UN{w:aq}{h:Heap}(k:cT w h):h.Ns mainGlobals (tX w):=(nQ (d3 w.params) (Y6 w.params)).at' λo e=>k.keep _ _ e (by decide)
theorem Yu{w:aq}{h:Heap}(k:cT w h):h.Ns builtinsNs (L9 w):=(nQ (d0 w.params) (Y4 w.params)).at' λo e=>k.keep _ _ e (by decide)
theorem Rp:("sys.recursionlimit":Str)=S [115,121,115,46,114,101,99,117,114,115,105,111,110,108,105,109,105,116]:=by decide+kernel
theorem Xp(P:aw):nsFind ⟨Y3 P⟩ (S [115,121,115,46,114,101,99,117,114,115,105,111,110,108,105,109,105,116])=none:=by kernel_rfl
theorem UO{w:aq}{h:Heap}(k:cT w h):h.NoLimit:=⟨_,(nQ (d2 w.params) (Y5 w.params)).at' λo e=>k.keep _ _ e (by decide),by rw[Rp];exact Xp w.params⟩
theorem CG(w:aq):tX w (S [66,121,116,101,115,73,79])=some (.ref 496):=by kernel_rfl
theorem qZ(w:aq):tX w (S [83,116,114,105,110,103,73,79])=some (.ref 743):=by kernel_rfl
theorem bx{a b:Bool}{G:Prop}(h:(a&&b)=true)(q:a=true->b=true->G):G:=q (Bool.and_eq_true_iff.mp h).1 (Bool.and_eq_true_iff.mp h).2
abbrev Nm:=List Nat
abbrev bm(x:Str):Nm:=x.cps.toList
theorem NS(x:Str):S (bm x)=x:=rfl
def cr:List Nat->List Nat->Bool
 |[],[]=>true
 |a::x,b::y=>(Nat.beq a b)&&cr x y
 |_,_=>false
theorem dW:∀{x y:List Nat},cr x y=true->x=y
 |[],[],_=>rfl
 |a::x,b::y,h=>bx h λc d=>by rw[au c,dW d]
 |[],_::_,h=>(ab h).elim
 |_::_,[],h=>(ab h).elim
theorem g7:∀x:List Nat,cr x x=true
 |[]=>rfl
 |a::x=>Bool.and_eq_true_iff.mpr ⟨Nat.beq_refl a,g7 x⟩
theorem eC{x y:List Nat}:cr x y=true↔x=y:=⟨dW,λh=>h▸g7 x⟩
theorem eM{x y:List Nat}:cr x y=false↔x≠y:=by rw[<-Bool.not_eq_true,eC]
def dR{α:Type}:List (Nm×α)->Nm->Option α
 |[],_=>none
 |(k,v)::r,x=>if cr k x then some v else dR r x
theorem cg{α:Type}{k x:Nm}{v:α}{r:List (Nm×α)}:dR ((k,v)::r) x=if k=x then some v else dR r x:=by
 show(if cr k x then some v else dR r x)=_;by_cases h:k=x
 .rw[aH h,aH (eC.mpr h)]
 .rw[av h,av (λq=>h (dW q))]
inductive BI where
 |isinstance|issubclass|len|sorted|sum|chr|range|list|str|bytes|type|int|bool|stop|deque
def BI.val:BI->ai
 |.isinstance=>.builtin "isinstance"
 |.issubclass=>.builtin "issubclass"
 |.len=>.builtin "len"
 |.sorted=>.builtin "sorted"
 |.sum=>.builtin "sum"
 |.chr=>.builtin "chr"
 |.range=>.type "range"
 |.list=>.type "list"
 |.str=>.type "str"
 |.bytes=>.type "bytes"
 |.type=>.type "type"
 |.int=>.type "int"
 |.bool=>.type "bool"
 |.stop=>.type "StopIteration"
 |.deque=>.type "collections.deque"
inductive D where
 |none
 |bool(b:Bool)
 |int(i:Int)
 |str(x:List Nat)
 |list(ds:List D)
 |tup(ds:List D)
 |rng(a b:Int)
 |bi(k:BI)
 |raw(a:Addr)
 |obj(i:Nat)
 |deq
 |nn
 |fn
 |any
structure Ob where
 C:Addr
 at_:List (Nm×D)
structure St where
 v:List (Nm×D)
 ow:Option (Nm×Option Nm×List D):=none
 ob:List Ob
inductive T(α:Type) where
 |fail
 |ret(a:α)
 |ask(b:Bool)(t f:T α)
def T.bind{α β:Type}:T α->(α->T β)->T β
 |.fail,_=>.fail
 |.ret a,k=>k a
 |.ask b t f,k=>.ask b (t.bind k) (f.bind k)
def iff{α:Type}(b:Bool)(t f:α):α:=match b with
 |true=>t
 |false=>f
@[simp] theorem bP{α:Type}(t f:α):iff true t f=t:=rfl
@[simp] theorem cU{α:Type}(t f:α):iff false t f=f:=rfl
theorem VM{α:Type}{b:Bool}{t f:α}(h:b=true):iff b t f=t:=by rw[h];rfl
theorem VN{α:Type}{b:Bool}{t f:α}(h:b=false):iff b t f=f:=by rw[h];rfl
def T.run{α:Type}:T α->Option α
 |.fail=>none
 |.ret a=>some a
 |.ask b t f=>iff b t.run f.run
@[simp] theorem SS{α:Type}:(T.fail:T α).run=none:=rfl
@[simp] theorem VO{α:Type}(a:α):(T.ret a).run=some a:=rfl
@[simp] theorem f9{α:Type}(b:Bool)(t f:T α):(T.ask b t f).run=iff b t.run f.run:=rfl
theorem bY{α β:Type}:∀(t:T α) (k:α->T β),(t.bind k).run=t.run.bind λa=>(k a).run
 |.fail,_=>rfl
 |.ret a,k=>rfl
 |.ask b t f,k=>by
  have c:=bY t k;have d:=bY f k;cases b
  .exact d
  .exact c
theorem vy{α β:Type}{t:T α}{k:α->T β}{r:β}(h:(t.bind k).run=some r):∃a,t.run=some a/\(k a).run=some r:=by
 rw[bY] at h;cases e:t.run with
 |none=>rw[e] at h;cases h
 |some a=>rw[e] at h;exact⟨a,rfl,h⟩
theorem bv{α β:Type}{t:T α}{k:α->T β}{r:β}{G:Prop}(h:(t.bind k).run=some r)(q:∀a,t.run=some a->(k a).run=some r->G):G:=let⟨a,x,y⟩:=vy h;q a x y
theorem bB{α b β:Type}{t:T (α×b)}{k:α×b->T β}{r:β}{G:Prop}(h:(t.bind k).run=some r)(q:∀a c,t.run=some (a,c)->(k (a,c)).run=some r->G):G:=let⟨a,x,y⟩:=vy h;q a.1 a.2 x y
theorem IG{α:Type}{b:Bool}{t f:T α}{r:α}{G:Prop}(h:(iff b t f).run=some r)(a:b=true->t.run=some r->G)(c:b=false->f.run=some r->G):G:=by
 cases b with
 |true=>exact a rfl h
 |false=>exact c rfl h
theorem cX{α:Type}{a:α}{G:Prop}(h:(none:Option α)=some a):G:=nomatch h
theorem eW{α β:Type}{o:Option α}{k:α->Option β}{r:β}{G:Prop}(h:o.bind k=some r)(q:∀a,o=some a->k a=some r->G):G:=by
 cases o with
 |none=>exact cX h
 |some a=>exact q a rfl h
theorem bq{α β:Type}{t:T α}{k:α->T β}{a:α}(h:t.run=some a):(t.bind k).run=(k a).run:=by rw[bY,h];rfl
abbrev T.chk{α:Type}(b:Bool)(t:T α):T α:=.ask b t .fail
theorem vz{α:Type}{b:Bool}{t:T α}{r:α}(h:(T.chk b t).run=some r):b=true/\t.run=some r:=by cases b<;>first|exact⟨rfl,h⟩|cases h
theorem ct{α:Type}{b:Bool}{t:T α}{r:α}{G:Prop}(h:(T.chk b t).run=some r)(q:b=true->t.run=some r->G):G:=q (vz h).1 (vz h).2
def T.opt{α:Type}:Option α->T α
 |some a=>.ret a
 |Option.none=>.fail
theorem bn{α:Type}{o:Option α}{r:α}(h:(T.opt o).run=some r):o=some r:=by cases o<;>first|exact h|cases h
abbrev br:Nat:=16777216
def gB:D->Option Bool
 |.none=>some false
 |.bool b=>some b
 |.int i=>some (!decide (i=0))
 |.str x=>some (!x.isEmpty)
 |.list x=>some (!x.isEmpty)
 |.deq=>some false
 |_=>Option.none
def ol:D->Bool
 |.bi _=>false
 |.nn=>false
 |.any=>false
 |_=>true
def II(i:Int):Bool:=decide (-1000000000000000000<i)&&decide (i<1000000000000000000)
def lS:D->Option Int
 |.int i=>some i
 |_=>Option.none
def WB:D->Option Bool
 |.bool i=>some i
 |_=>Option.none
def je:D->Option (List Nat)
 |.str x=>some x
 |_=>Option.none
def rZ:D->Option (List D)
 |.list x=>some x
 |_=>Option.none
def Sj:D->Option (List D)
 |.tup x=>some x
 |_=>Option.none
def Iy:D->Option BI
 |.bi k=>some k
 |_=>Option.none
def Iz:D->Option Nat
 |.obj i=>some i
 |_=>Option.none
def lj:D->Option Addr
 |.raw a=>some a
 |_=>Option.none
def rD:D->Bool
 |.none=>true
 |_=>false
theorem gD{d:D}{i:Int}(h:lS d=some i):d=.int i:=by cases d<;>first|exact cX h|(cases h;rfl)
theorem Dg{d:D}{i:Bool}(h:WB d=some i):d=.bool i:=by cases d<;>first|exact cX h|(cases h;rfl)
def ST:D->Bool
 |.fn=>true
 |_=>false
theorem IJ{d:D}(h:ST d=true):d=.fn:=by cases d<;>first|rfl|exact(ab h).elim
theorem d9{d:D}{x:List Nat}(h:je d=some x):d=.str x:=by cases d<;>first|exact cX h|(cases h;rfl)
theorem gE{d:D}{x:List D}(h:rZ d=some x):d=.list x:=by cases d<;>first|exact cX h|(cases h;rfl)
theorem ul{d:D}{x:List D}(h:Sj d=some x):d=.tup x:=by cases d<;>first|exact cX h|(cases h;rfl)
theorem um{d:D}{x:BI}(h:Iy d=some x):d=.bi x:=by cases d<;>first|exact cX h|(cases h;rfl)
theorem pB{d:D}{x:Nat}(h:Iz d=some x):d=.obj x:=by cases d<;>first|exact cX h|(cases h;rfl)
theorem pC{d:D}{x:Addr}(h:lj d=some x):d=.raw x:=by cases d<;>first|exact cX h|(cases h;rfl)
theorem lw{d:D}(h:rD d=true):d=.none:=by cases d<;>first|rfl|exact(ab h).elim
def Dh(op:Operator)(a b:D):T D:=match op with
 |.Add=>(match lS a with
  |some i=>(T.opt (lS b)).bind λj=>.ret (.int (i+j))
  |Option.none=>(T.opt (je a)).bind λx=>(T.opt (je b)).bind λy=>.chk (decide (x.length+y.length<=br)) (.ret (.str (x++y))))
 |_=>.fail
def Di(op:Operator)(i j:Int):T D:=match op with
 |.Add=>.ret (.int (i+j))
 |.Sub=>.ret (.int (i-j))
 |.Mult=>.chk (II i&&II j) (.ret (.int (i*j)))
 |.FloorDiv=>.chk (decide (0<j)&&decide (j<1000000000)) (.ret (.int (i/j)))
 |.Mod=>.chk (decide (0<j)) (.ret (.int (i%j)))
 |.Pow=>.chk (decide (0<=i)&&decide (i<10000)&&decide (0<=j)&&decide (j<4)) (.ret (.int (i^j.toNat)))
 |_=>.fail
def pE(op:Operator)(a b:D):T D:=match lS b with
 |some j=>(match lS a with
  |some i=>Di op i j
  |Option.none=>match op with
   |.Mult=>(match je a with
    |some x=>.chk (decide (0<=j)&&decide ((x.length+1)*j.toNat<=br)) (.ret (.str (List.replicate j.toNat x).flatten))
    |Option.none=>.fail)
   |_=>.fail)
 |Option.none=>match op with
  |.Add=>(match je a with
   |some x=>(match je b with
    |some y=>.chk (decide (x.length+y.length<=br)) (.ret (.str (x++y)))
    |Option.none=>.fail)
   |Option.none=>match rZ a with
    |some x=>(match rZ b with
     |some y=>.chk (decide (x.length+y.length<=br)) (.ret (.list (x++y)))
     |Option.none=>.fail)
    |Option.none=>.fail)
  |_=>.fail
def oR{α:Type}(f:α->Bool):List α->Bool
 |[]=>true
 |a::r=>f a&&oR f r
theorem iS{α:Type}{f:α->Bool}:∀{l:List α},oR f l=true->∀a∈l,f a=true
 |b::r,h,a,c=>by
  refine bx h λd e=>?_;rcases ao.mp c with g|c
  .rw[g];exact d
  .exact iS e a c
theorem lT{α:Type}{f:α->Bool}:∀{l:List α},(∀a∈l,f a=true)->oR f l=true
 |[],_=>rfl
 |b::r,h=>Bool.and_eq_true_iff.mpr ⟨h b (.head _),lT λa c=>h a (.tail _ c)⟩
def iv:D->Bool
 |.none=>true
 |.bool _=>true
 |.int _=>true
 |.str _=>true
 |_=>false
def fF:Nat->D->Bool
 |0,d=>iv d
 |n+1,d=>match d with
  |.list ds=>oR (fF n) ds
  |d=>iv d
abbrev eN(d:D):Bool:=fF 5 d
abbrev iT(ds:List D):Bool:=oR (fF 5) ds
def gM{α:Type}(f:α->α->Bool):List α->List α->Bool
 |[],[]=>true
 |a::x,b::y=>f a b&&gM f x y
 |_,_=>false
def iJ:D->D->Bool
 |.none,.none=>true
 |.bool a,.bool b=>a==b
 |.bool a,.int i=>(if a then 1 else 0)==i
 |.int i,.bool a=>i==(if a then 1 else 0)
 |.int i,.int j=>i==j
 |.str x,.str y=>cr x y
 |_,_=>false
def io:Nat->D->D->Bool
 |0,a,b=>iJ a b
 |n+1,a,b=>match a,b with
  |.list x,.list y=>gM (io n) x y
  |a,b=>iJ a b
abbrev deq(a b:D):Bool:=io 5 a b
def ip:List Nat->List Nat->Bool
 |[],_=>true
 |a::x,b::y=>Nat.beq a b&&ip x y
 |_::_,[]=>false
theorem NT{a b:Nat}{x y:List Nat}:ip (a::x) (b::y)=(Nat.beq a b&&ip x y):=rfl
def d5(x:List Nat):List Nat->Bool
 |[]=>x.isEmpty
 |y@(_::r)=>ip x y||d5 x r
theorem NU{b:Nat}{x y:List Nat}:d5 x (b::y)=(ip x (b::y)||d5 x y):=rfl
def jf(d:D):List D->Bool
 |[]=>false
 |e::r=>deq e d||jf d r
def jg:D->Bool
 |.bool _=>true
 |.int _=>true
 |.str _=>true
 |.list _=>true
 |.tup _=>true
 |.obj _=>true
 |.nn=>true
 |_=>false
def Bf(f:Int->Int->Bool)(a b:D):T Bool:=match lS a with
 |some i=>(match lS b with
  |some j=>.ret (f i j)
  |Option.none=>.fail)
 |Option.none=>.fail
def VP(g:Bool->Bool)(tp:Bool)(a b:D):T Bool:=match je b with
 |some y=>(match je a with
  |some x=>.ret (g (d5 x y))
  |Option.none=>.fail)
 |Option.none=>match rZ b with
  |some ds=>.chk (eN a&&iT ds) (.ret (g (jf a ds)))
  |Option.none=>match tp with
   |true=>(match Sj b with
    |some ds=>.chk (eN a&&iT ds) (.ret (g (jf a ds)))
    |Option.none=>.fail)
   |false=>.fail
def lU(op:CmpOp)(a b:D):T Bool:=match op with
 |.Eq=>.chk (eN a&&eN b) (.ret (deq a b))
 |.NotEq=>.chk (eN a&&eN b) (.ret (!deq a b))
 |.Lt=>Bf (λi j=>decide (i<j)) a b
 |.LtE=>Bf (λi j=>decide (i<=j)) a b
 |.Gt=>Bf (λi j=>decide (i>j)) a b
 |.GtE=>Bf (λi j=>decide (i>=j)) a b
 |.Is=>(match rD b with
  |true=>(match rD a with
   |true=>.ret true
   |false=>.chk (jg a) (.ret false))
  |false=>.fail)
 |.IsNot=>(match rD b with
  |true=>(match rD a with
   |true=>.ret false
   |false=>.chk (jg a) (.ret true))
  |false=>match Iy a,Iy b with
   |some .str,some .str=>.ret false
   |some .int,some .int=>.ret false
   |_,_=>.fail)
 |.In=>VP id true a b
 |.NotIn=>VP not false a b
def gy(i:Int)(n:Nat):Nat:=if i<0 then(i+n).toNat else i.toNat
def cL(i:Int)(n:Nat):Bool:=decide (-(n:Int)<=i)&&decide (i<n)
def dA(a b:D):T D:=(T.opt (lS b)).bind λi=>match je a with
 |some x=>.chk (cL i x.length) (.ret (.str [x.getD (gy i x.length) 0]))
 |Option.none=>(T.opt (rZ a)).bind λx=>.chk (cL i x.length) (.ret (x.getD (gy i x.length) .none))
def fv(n:Nat)(i:Int):Nat:=if i<0 then(i+n).toNat else min i.toNat n
theorem mX(k:Nat):¬(k:Int)<0:=Int.not_lt.mpr (aX k)
theorem o5{n k:Nat}(h:k<=n):fv n (k:Int)=k:=by unfold fv;rw[av (mX k),Int.toNat_natCast,Nat.min_eq_left h]
theorem IK(n k:Nat):gy (k:Int) n=k:=by unfold gy;rw[av (mX k),Int.toNat_natCast]
theorem pG{α:Type}{a b:List α}{c:α}:(a.length:Int)<((a++c::b).length:Int):=by rw[ae,aC];exact Int.ofNat_lt.mpr (Nat.lt_add_of_pos_right (Nat.succ_pos _))
theorem Dj{α:Type}(a b:List α):a.length<=(a++b).length:=by rw[ae];exact ba _ _
def cJ{α:Type}(x:List α)(a b:Nat):List α:=(x.take b).drop a
def Sk(n:Nat):D->Option Nat
 |.none=>some 0
 |.int i=>some (fv n i)
 |_=>Option.none
def NV(n:Nat):D->Option Nat
 |.none=>some n
 |.int i=>some (fv n i)
 |_=>Option.none
def pH(d l u:D):T D:=match je d with
 |some x=>(T.opt (Sk x.length l)).bind λa=>(T.opt (NV x.length u)).bind λb=>.ret (.str (cJ x a b))
 |Option.none=>(T.opt (rZ d)).bind λx=>(T.opt (Sk x.length l)).bind λa=>(T.opt (NV x.length u)).bind λb=>.ret (.list (cJ x a b))
def lV:D->Option (List D)
 |.list ds=>some ds
 |.tup ds=>some ds
 |.str x=>some (x.map λc=>.str [c])
 |.rng a b=>some ((List.range (b-a).toNat).map λ(k:Nat)=>.int (a+(k:Int)))
 |_=>Option.none
def Dk:D->List Nat
 |.str x=>x
 |_=>[]
def xX:D->Bool
 |.str _=>true
 |_=>false
def dB:List D->Bool
 |[]=>true
 |d::r=>xX d&&dB r
def Dl:D->Int
 |.int i=>i
 |_=>0
def Dm:D->Bool
 |.int _=>true
 |_=>false
def mY:List D->Bool
 |[]=>true
 |d::r=>Dm d&&mY r
def cS(ds:List D):List (List Nat):=ds.map Dk
def pI(ds:List D):List Int:=ds.map Dl
theorem dX(xs:List (List Nat)):dB (xs.map .str)=true:=by induction xs with
 |nil=>rfl
 |cons x r a=>exact a
theorem eD(xs:List (List Nat)):cS (xs.map .str)=xs:=by induction xs with
 |nil=>rfl
 |cons x r a=>exact aU (x::·) a
theorem xY(xs:List Int):mY (xs.map .int)=true:=by induction xs with
 |nil=>rfl
 |cons x r a=>exact a
theorem xZ(xs:List Int):pI (xs.map .int)=xs:=by induction xs with
 |nil=>rfl
 |cons x r a=>exact aU (x::·) a
theorem r7{d:D}(h:xX d=true):d=.str (Dk d):=by cases d<;>first|rfl|exact(ab h).elim
theorem Bg{d:D}(h:Dm d=true):d=.int (Dl d):=by cases d<;>first|rfl|exact(ab h).elim
theorem om:∀{ds:List D},dB ds=true->ds=(cS ds).map .str
 |[],_=>rfl
 |d::r,h=>bx h λa b=>by show d::r=D.str (Dk d)::(cS r).map .str;rw[<-r7 a,<-om b]
def fi(c:Nat):List Nat->Nat->Int->Int
 |[],_,k=>k
 |a::r,i,k=>fi c r (i+1) (match Nat.beq a c with
  |true=>(i:Int)
  |false=>k)
theorem Dn{c a i:Nat}{r:List Nat}{k:Int}:fi c (a::r) i k=fi c r (i+1) (match Nat.beq a c with
 |true=>(i:Int)
 |false=>k):=rfl
def lA(c:Nat)(x:List Nat):Int:=fi c x 0 (-1)
def lW(c:Nat):List Nat->List Nat
 |[]=>[]
 |a::r=>match Nat.beq a c with
  |true=>lW c r
  |false=>a::r
theorem zF{c a:Nat}{r:List Nat}:lW c (a::r)=match Nat.beq a c with
 |true=>lW c r
 |false=>a::r:=rfl
def gb(c:Nat)(x:List Nat):List Nat:=(lW c x.reverse).reverse
def cn(c:Nat):List Nat->List (List Nat)
 |[]=>[[]]
 |a::r=>match Nat.beq a c with
  |true=>[]::cn c r
  |false=>match cn c r with
   |[]=>[[a]]
   |y::ys=>(a::y)::ys
theorem pJ{c a:Nat}{r:List Nat}:cn c (a::r)=match Nat.beq a c with
 |true=>[]::cn c r
 |false=>match cn c r with
  |[]=>[[a]]
  |y::ys=>(a::y)::ys:=rfl
def bA(s:List Nat):List (List Nat)->List Nat
 |[]=>[]
 |[x]=>x
 |x::y=>x++s++bA s y
def cB(c:Nat)(y:List Nat):List Nat->List Nat
 |[]=>[]
 |a::r=>match Nat.beq a c with
  |true=>y++cB c y r
  |false=>a::cB c y r
theorem un{c a:Nat}{y r:List Nat}:cB c y (a::r)=match Nat.beq a c with
 |true=>y++cB c y r
 |false=>a::cB c y r:=rfl
def eE:List Nat:=[40,41,91,93,123,125,63,42,43,45,124,94,36,92,46,38,126,35,32,9,10,13,11,12]
def iU(a:Nat):List Nat->Bool
 |[]=>false
 |b::r=>Nat.beq a b||iU a r
def mZ(x:List Nat):List Nat:=x.flatMap λc=>match iU c eE with
 |true=>[92,c]
 |false=>[c]
def mU:List Nat->List Nat->Bool
 |_,[]=>false
 |[],_::_=>true
 |a::x,b::y=>Nat.blt a b||(Nat.beq a b&&mU x y)
def jI(x:List Nat):List (List Nat)->List (List Nat)
 |[]=>[x]
 |y::r=>match mU x y with
  |true=>x::y::r
  |false=>y::jI x r
theorem Do{x y:List Nat}{r:List (List Nat)}:jI x (y::r)=match mU x y with
 |true=>x::y::r
 |false=>y::jI x r:=rfl
def dC:List (List Nat)->List (List Nat)
 |[]=>[]
 |x::r=>jI x (dC r)
def fN(a b:Int):Bool:=decide (-br<=a)&&decide (a<=br)&&decide (-br<=b)&&decide (b<=br)&&decide (b-a<=br)
def one{α:Type}:List α->Option α
 |[a]=>some a
 |_=>Option.none
def C6{α:Type}:List α->Option (α×α)
 |[a,b]=>some (a,b)
 |_=>Option.none
def zH{α:Type}:List α->Option (α×α×α)
 |[a,b,c]=>some (a,b,c)
 |_=>Option.none
section
variable{α β:Type}{ds:List α}{r:β}{G:Prop}{d:D}
theorem pK{a:α×α×α}(h:zH ds=some a):ds=[a.1,a.2.1,a.2.2]:=by rcases ds with _|⟨x,_|⟨y,_|⟨z,_|⟨_,_⟩⟩⟩⟩<;>first|exact cX h|(cases h;rfl)
theorem pL{a:α}(h:one ds=some a):ds=[a]:=by rcases ds with _|⟨x,_|⟨_,_⟩⟩<;>first|exact cX h|(cases h;rfl)
theorem pM{a:α×α}(h:C6 ds=some a):ds=[a.1,a.2]:=by rcases ds with _|⟨x,_|⟨y,_|⟨_,_⟩⟩⟩<;>first|exact cX h|(cases h;rfl)
def t1(ds:List α)(f:α->T β):T β:=(T.opt (one ds)).bind f
def t2(ds:List α)(f:α->α->T β):T β:=(T.opt (C6 ds)).bind λp=>f p.1 p.2
def t3(ds:List α)(f:α->α->α->T β):T β:=(T.opt (zH ds)).bind λp=>f p.1 p.2.1 p.2.2
def tS(d:D)(f:List Nat->T β):T β:=(T.opt (je d)).bind f
def tI(d:D)(f:Int->T β):T β:=(T.opt (lS d)).bind f
def tL(d:D)(f:List D->T β):T β:=(T.opt (rZ d)).bind f
theorem jJ{f:α->T β}(h:(t1 ds f).run=some r)(q:∀a,ds=[a]->(f a).run=some r->G):G:=bv h λa e h=>q a (pL (bn e)) h
theorem iK{f:α->α->T β}(h:(t2 ds f).run=some r)(q:∀a b,ds=[a,b]->(f a b).run=some r->G):G:=bv h λa e h=>q a.1 a.2 (pM (bn e)) h
theorem WC{f:α->α->α->T β}(h:(t3 ds f).run=some r)(q:∀a b c,ds=[a,b,c]->(f a b c).run=some r->G):G:=bv h λa e h=>q a.1 a.2.1 a.2.2 (pK (bn e)) h
theorem gF{f:List Nat->T β}(h:(tS d f).run=some r)(q:∀x,d=.str x->(f x).run=some r->G):G:=bv h λa e h=>q a (d9 (bn e)) h
theorem x3{f:Int->T β}(h:(tI d f).run=some r)(q:∀x,d=.int x->(f x).run=some r->G):G:=bv h λa e h=>q a (gD (bn e)) h
theorem IL{f:List D->T β}(h:(tL d f).run=some r)(q:∀x,d=.list x->(f x).run=some r->G):G:=bv h λa e h=>q a (gE (bn e)) h
end
def Dp(d:D):Option Unit:=match d with
 |.bi .str=>some ()
 |_=>Option.none
def M9(d:D):Option Unit:=match d with
 |.bi .bytes=>some ()
 |_=>Option.none
set_option tactic.hygienic true in
theorem vA{d:D}{u:Unit}(h:Dp d=some u):d=.bi .str:=by
 cases d<;>first|exact cX h|skip
 rename_i k;cases k<;>first|rfl|exact cX h
set_option tactic.hygienic true in
theorem Dq{d:D}{u:Unit}(h:M9 d=some u):d=.bi .bytes:=by
 cases d<;>first|exact cX h|skip
 rename_i k;cases k<;>first|rfl|exact cX h
def WD(k:BI):Option Bool:=match k with
 |.str=>some true
 |.bytes=>some false
 |_=>Option.none
def Dr(k:BI)(ds:List D):T D:=match k with
 |.isinstance=>(T.opt (C6 ds)).bind λp=>(T.opt (je p.1)).bind λc=>(T.opt (Iy p.2)).bind λk=>(T.opt (WD k)).bind λb=>.ret (.bool b)
 |.issubclass=>(T.opt (C6 ds)).bind λp=>(T.opt (Dp p.1)).bind λc=>(T.opt (Sj p.2)).bind λx=>t2 x λa b=>(T.opt (Dp a)).bind λc=>(T.opt (M9 b)).bind λc=>.ret (.bool true)
 |.len=>(T.opt (one ds)).bind λa=>match je a with
  |some x=>.ret (.int x.length)
  |Option.none=>(T.opt (rZ a)).bind λx=>.ret (.int x.length)
 |.sorted=>(T.opt (one ds)).bind λa=>(T.opt (rZ a)).bind λx=>.chk (dB x&&decide (x.length<64)) (.ret (.list ((dC (cS x)).map .str)))
 |.sum=>(T.opt (one ds)).bind λa=>(T.opt (rZ a)).bind λx=>.chk (mY x) (.ret (.int (pI x).sum))
 |.chr=>(T.opt (one ds)).bind λa=>(T.opt (lS a)).bind λi=>.chk (decide (0<=i)&&decide (i<1114112)) (.ret (.str [i.toNat]))
 |.range=>(match one ds with
  |some a=>(T.opt (lS a)).bind λa=>.chk (fN 0 a) (.ret (.rng 0 a))
  |Option.none=>(T.opt (C6 ds)).bind λp=>(T.opt (lS p.1)).bind λa=>(T.opt (lS p.2)).bind λb=>.chk (fN a b) (.ret (.rng a b)))
 |.type=>(T.opt (one ds)).bind λa=>match je a with
  |some _=>.ret (.bi .str)
  |Option.none=>(T.opt (lS a)).bind λc=>.ret (.bi .int)
 |.int=>(T.opt (one ds)).bind λa=>(T.opt (lS a)).bind λi=>.ret (.int i)
 |.deque=>(match ds with
  |[]=>.ret .deq
  |_=>.fail)
 |_=>.fail
abbrev lX:Nm:=[115,116,97,114,116,115,119,105,116,104]
abbrev pN:Nm:=[101,110,100,115,119,105,116,104]
abbrev zI:Nm:=[114,102,105,110,100]
abbrev vB:Nm:=[114,115,116,114,105,112]
abbrev gS:Nm:=[115,112,108,105,116]
abbrev fj:Nm:=[106,111,105,110]
abbrev cR:Nm:=[114,101,112,108,97,99,101]
abbrev oo:Nm:=[116,114,97,110,115,108,97,116,101]
abbrev jK:Nm:=[97,112,112,101,110,100]
abbrev Ds:Nm:=[112,111,112]
abbrev Na:Nm:=[115,117,98]
abbrev zJ:Nm:=[95,95,100,101,98,117,103,95,95]
abbrev oq:Nm:=[95,95,99,108,97,115,115,100,105,99,116,95,95]
def G:List (Nm×D):=[([105,115,105,110,115,116,97,110,99,101],.bi .isinstance),([105,115,115,117,98,99,108,97,115,115],.bi .issubclass),([108,101,110],.bi .len),([115,111,114,116,101,100],.bi .sorted),([115,117,109],.bi .sum),([99,104,114],.bi .chr),([114,97,110,103,101],.bi .range),([108,105,115,116],.bi .list),([115,116,114],.bi .str),([98,121,116,101,115],.bi .bytes),([116,121,112,101],.bi .type),([105,110,116],.bi .int),([98,111,111,108],.bi .bool),([100,101,113,117,101],.bi .deque),([102,115,112,97,116,104],.raw 117),([95,103,101,116,95,115,101,112],.raw 131),([106,111,105,110,95,112,111,115,105,120,112,97,116,104],.raw 138),([115,112,108,105,116,114,111,111,116],.raw 145),([98,97,115,101,110,97,109,101],.raw 152),([100,105,114,110,97,109,101,95,112,111,115,105,120,112,97,116,104],.raw 159),([110,111,114,109,112,97,116,104],.raw 166),([116,119,105,110,95,114,101,95,49,95,102,110,109,97,116,99,104],.raw 171),([95,115,112,101,99,105,97,108,95,99,104,97,114,115,95,109,97,112],.raw 173),([101,115,99,97,112,101],.raw 183),([95,116,114,97,110,115,108,97,116,101],.raw 190),([95,105,110,100,101,120],.raw 209),([83,116,114,105,110,103,73,79],.raw 743),([115,104,108,101,120],.raw 878),([115,112,108,105,116],.raw 890),([95,102,105,110,100,95,117,110,115,97,102,101],.raw 891),([113,117,111,116,101],.raw 898),([95,108,97,119,95,111,100,100],.raw 905),([95,108,97,119,95,107,101,121],.raw 910),([95,108,97,119,95,100,114,97,119,110],.raw 915),([95,108,97,119,95,112,97,116,116,101,114,110],.raw 920),([95,108,97,119,95,112,108,97,105,110],.raw 925),([95,108,97,119,95,119,114,105,116,116,101,110],.raw 932),([95,108,97,119,95,119,111,114,100],.raw 937),([95,108,97,119,95,115,112,101,108,108,101,100],.raw 942),([95,108,97,119,95,105,116,101,109],.raw 949),([95,108,97,119,95,109,101,97,110,115],.raw 954),([95,108,97,119,95,111,112,101,110,101,100],.raw 959),([95,108,97,119,95,102,105,116,115],.raw 966),([95,108,97,119,95,100,117,101],.raw 971),([95,108,97,119,95,110,111,100,101,115],.raw 978),([95,108,97,119,95,112,97,116,104,115],.raw 985),([95,108,97,119,95,104,101,108,100],.raw 990)]
def T.gd{α:Type}(b:Bool)(t:T α):T α:=match b with
 |true=>t
 |false=>.fail
theorem lY{α:Type}{b:Bool}{t:T α}{r:α}(h:(T.gd b t).run=some r):b=true/\t.run=some r:=by cases b<;>first|exact⟨rfl,h⟩|cases h
theorem dz{α:Type}{b:Bool}{t:T α}{r:α}{G:Prop}(h:(T.gd b t).run=some r)(q:b=true->t.run=some r->G):G:=q (lY h).1 (lY h).2
def kd:List (Str×NameKind)->Nm->Option NameKind
 |[],_=>none
 |(k,v)::r,x=>match cr (bm k) x with
  |true=>some v
  |false=>kd r x
def WE:Option NameKind->Bool
 |some .globalImplicit=>true
 |_=>false
def jG:Option NameKind->Bool
 |some .local=>true
 |some .cell=>true
 |_=>false
def NW:Option NameKind->Bool
 |some .cell=>true
 |some .free=>true
 |_=>false
def NX:Option NameKind->Bool
 |some .free=>true
 |_=>false
theorem r8{k:Option NameKind}{p:Option NameKind->Bool}{Q:Option NameKind->Prop}(h:p k=true)(a:p none=true->Q none)(b:∀k,p (some k)=true->Q (some k)):Q k:=by
 cases k with
 |none=>exact a h
 |some k=>exact b k h
theorem zK{k:Option NameKind}(h:WE k=true):k=some .globalImplicit:=r8 (Q:=λk=>k=some .globalImplicit) h (λh=>(ab h).elim) λk h=>by cases k<;>first|rfl|exact(ab h).elim
theorem zL{k:Option NameKind}(h:jG k=true):k=some .local\/k=some .cell:=r8 (Q:=λk=>k=some .local\/k=some .cell) h (λh=>(ab h).elim) λk h=>by cases k<;>first|exact .inl rfl|exact .inr rfl|exact(ab h).elim
theorem IM{k:Option NameKind}(h:NW k=true):k=some .cell\/k=some .free:=r8 (Q:=λk=>k=some .cell\/k=some .free) h (λh=>(ab h).elim) λk h=>by cases k<;>first|exact .inl rfl|exact .inr rfl|exact(ab h).elim
theorem IN{k:Option NameKind}(h:NX k=true):k=some .free:=r8 (Q:=λk=>k=some .free) h (λh=>(ab h).elim) λk h=>by cases k<;>first|rfl|exact(ab h).elim
theorem jh{k:Str}{v:NameKind}{r:List (Str×NameKind)}{x:Nm}:kd ((k,v)::r) x=if bm k=x then some v else kd r x:=by
 by_cases h:bm k=x
 .rw[aH h];show(match cr (bm k) x with|true=>some v|false=>kd r x)=_;rw[eC.mpr h]
 .rw[av h];show(match cr (bm k) x with|true=>some v|false=>kd r x)=_;rw[eM.mpr h]
def ee{α:Type}:List (Nm×α)->Nm->α->List (Nm×α)
 |[],x,d=>[(x,d)]
 |(k,e)::r,x,d=>match cr k x with
  |true=>(k,d)::r
  |false=>(k,e)::ee r x d
def oS{α:Type}:List (Nm×α)->Nm->List (Nm×α)
 |[],_=>[]
 |(k,e)::r,x=>match cr k x with
  |true=>oS r x
  |false=>(k,e)::oS r x
def St.freeze(st:St):St:=match st.ow with
 |none=>st
 |some (x,_,ds)=>⟨ee st.v x (.list ds),none,st.ob⟩
def St.set(st:St)(x:Nm)(d:D):St:=match st.ow with
 |none=>⟨ee st.v x d,none,st.ob⟩
 |some (y,z,ds)=>match cr y x with
  |true=>⟨ee st.v x d,none,st.ob⟩
  |false=>match z with
   |none=>⟨ee st.v x d,some (y,none,ds),st.ob⟩
   |some z=>match cr z x with
    |true=>⟨ee st.v x d,some (y,none,ds),st.ob⟩
    |false=>⟨ee st.v x d,some (y,some z,ds),st.ob⟩
def St.own(st:St)(x:Nm):Option (List D):=match st.ow with
 |none=>none
 |some (y,_,ds)=>match cr y x with
  |true=>some ds
  |false=>none
def St.ali(st:St)(x:Nm):Bool:=match st.ow with
 |some (_,some z,_)=>cr z x
 |_=>false
def St.ds(st:St):List D:=match st.ow with
 |some (_,_,ds)=>ds
 |none=>[]
def St.put(st:St)(ds:List D):St:=match st.ow with
 |some (x,z,_)=>⟨st.v,some (x,z,ds),st.ob⟩
 |none=>st
def m5(a outer:List (Str×NameKind)):List (Nm×D)->List (Nm×D)
 |[]=>[]
 |(x,d)::r=>match NX (kd a x)&&NW (kd outer x) with
  |true=>(x,d)::m5 a outer r
  |false=>m5 a outer r
structure KT where
 fn:Addr->List D->List Ob->T (D×List Ob)
 rm:Addr->Nm->List D->T D
 bi:BI->List D->T D
 sm:List Nat->Nm->List D->T D
def X6(x:List Nat)(m:Nm)(c:Nat):T D:=iff (cr m zI) (.ret (.int (lA c x))) (iff (cr m vB) (.ret (.str (gb c x))) (.gd (cr m gS) (.chk (decide (x.length<br)) (.ret (.list ((cn c x).map .str))))))
def X7(x:List Nat)(m:Nm)(y:List Nat):T D:=iff (cr m lX) (.ret (.bool (ip y x))) (iff (cr m pN) (.ret (.bool (ip y.reverse x.reverse))) (t1 y (X6 x m)))
def X8(x:List Nat)(m:Nm)(ys:List D):T D:=.gd (cr m fj) (.chk (dB ys&&decide ((bA x (cS ys)).length+x.length<=br)) (.ret (.str (bA x (cS ys)))))
def X9(x:List Nat)(m:Nm)(r:Addr):T D:=.gd (Nat.beq r 173&&cr m oo) (.chk (decide (x.length=1)) (.ret (.str (mZ x))))
def WF(x:List Nat)(m:Nm)(a:D):T D:=match je a with
 |some y=>X7 x m y
 |none=>match rZ a with
  |some ys=>X8 x m ys
  |none=>(T.opt (lj a)).bind (X9 x m)
def Ya(x:List Nat)(m:Nm)(a b:D):T D:=tS a λu=>t1 u λc=>tS b λy=>.gd (cr m cR&&!cr [c] y) (.chk (decide (x.length+(x.length+1)*y.length<=br)) (.ret (.str (cB c y x))))
def SU(x:List Nat)(m:Nm)(ds:List D):T D:=match one ds with
 |some a=>WF x m a
 |none=>t2 ds (Ya x m)
set_option tactic.hygienic true in
inductive dN where
 |next|brk|cont
 |ret(d:D)
def iw(K:KT)(d:D)(ds:List D)(ob:List Ob):T (D×List Ob):=match lj d with
 |some a=>K.fn a ds ob
 |none=>(T.opt (Iy d)).bind λk=>(K.bi k ds).bind λr=>.ret (r,ob)
def dv(f:D->List Ob->T (Option D×List Ob)):List D->List Ob->T (List D×List Ob)
 |[],ob=>.ret ([],ob)
 |d::ds,ob=>(f d ob).bind λp=>(dv f ds p.2).bind λq=>.ret ((match p.1 with|some e=>e::q.1|none=>q.1),q.2)
def dS(f:D->St->T (dN×St)):List D->St->T (dN×St)
 |[],st=>.ret (.next,st)
 |d::ds,st=>(f d st).bind λp=>match p.1 with
  |.next=>dS f ds p.2
  |.cont=>dS f ds p.2
  |.brk=>.ret (.next,p.2)
  |.ret r=>.ret (.ret r,p.2)
def dO(c:St->T (Bool×St))(f:St->T (dN×St)):Nat->St->T (dN×St)
 |0,_=>.fail
 |m+1,st=>(c st).bind λq=>.ask q.1 ((f q.2).bind λp=>match p.1 with
  |.next=>dO c f m p.2
  |.cont=>dO c f m p.2
  |.brk=>.ret (.next,p.2)
  |.ret r=>.ret (.ret r,p.2)) (.ret (.next,q.2))
theorem lZ{c:St->T (Bool×St)}{f:St->T (dN×St)}{m:Nat}{st:St}:dO c f (m+1) st=(c st).bind λq=>.ask q.1 ((f q.2).bind λp=>match p.1 with
 |.next=>dO c f m p.2
 |.cont=>dO c f m p.2
 |.brk=>.ret (.next,p.2)
 |.ret r=>.ret (.ret r,p.2)) (.ret (.next,q.2)):=rfl
abbrev Sc:=List (Str×NameKind)
def dh(x:Nm):Bool:=!cr x zJ&&!cr x oq
def uo:Option NameKind->Bool
 |some .cell=>true
 |_=>false
theorem vC{k:Option NameKind}(h:uo k=true):k=some .cell:=r8 (Q:=λk=>k=some .cell) h (λh=>(ab h).elim) λk h=>by cases k<;>first|rfl|exact(ab h).elim
def iL(outer:Sc)(p:Str×NameKind):NameKind:=match NX (some p.2)&&uo (kd outer (bm p.1)) with
 |true=>.cell
 |false=>p.2
def eh(a outer:Sc):Sc:=a.map λp=>(p.1,iL outer p)
def isNone{α:Type}:Option α->Bool
 |none=>true
 |_=>false
def lB:Option Expr->Expr
 |some e=>e
 |none=>.Constant .none 0 ⟨0,0,0,0⟩
def vD(ob:List Ob)(i:Nat)(a:Nm)(d:D):List Ob:=match ob,i with
 |[],_=>[]
 |o::r,0=>⟨o.C,ee o.at_ a d⟩::r
 |o::r,i+1=>o::vD r i a d
structure gz where
 me:Addr->Nm->Option Addr
 pr:Addr->Nm->Option Addr
 fr:Addr->Nm->Bool
def WG(op:CmpOp):Option Bool:=match op with
 |.In=>some true
 |.NotIn=>some false
 |_=>none
def Bh:NameKind->Bool
 |.free=>true
 |_=>false
def Yb:NameKind->NameKind->Bool
 |.local,.local=>true
 |.cell,.cell=>true
 |.free,.free=>true
 |.globalExplicit,.globalExplicit=>true
 |.globalImplicit,.globalImplicit=>true
 |_,_=>false
abbrev g8:Nm:=[83,84,65,82]
def Dt(a:Arguments):Bool:=a.defaults.isEmpty&&a.kw_defaults.isEmpty&&a.kwonlyargs.isEmpty
def jL(a outer:Sc):Bool:=isNone (kd a g8)&&a.all λp=>(!Bh p.2||NW (kd outer (bm p.1)))&&(match kd a (bm p.1) with
 |some q=>Yb q p.2
 |none=>false)
inductive EK where
 |nm(x:Str)(p:Pos)
 |at(o:Expr)(a:Str)(p:Pos)
 |ca(f:Expr)(a:List Expr)(k:List Keyword)(p:Pos)
 |tu(es:List Expr)(k:Nat)(p:Pos)
 |sl(l u s:Option Expr)(p:Pos)
 |co(c:Const)(k:Nat)(p:Pos)
 |fm(x:Expr)(c:Int)(f:Option Expr)(p:Pos)
 |ls(es:List Expr)(p:Pos)
 |lc(elt:Expr)(gens:List Comprehension)(sc:Scope)(p:Pos)
 |st|se|cm|pl
def eK:Expr->EK
 |.Name x p=>.nm x p
 |.Attribute o a p=>.at o a p
 |.Call f a k p=>.ca f a k p
 |.Tuple es k p=>.tu es k p
 |.Slice l u s p=>.sl l u s p
 |.Constant c k p=>.co c k p
 |.FormattedValue x c f p=>.fm x c f p
 |.List es p=>.ls es p
 |.ListComp e g s p=>.lc e g s p
 |.Starred ..=>.st
 |.Set ..=>.se
 |.SetComp ..=>.cm
 |.DictComp ..=>.cm
 |_=>.pl
def EK.back:EK->Expr->Expr
 |.nm x p,_=>.Name x p
 |.at o a p,_=>.Attribute o a p
 |.ca f a k p,_=>.Call f a k p
 |.tu es k p,_=>.Tuple es k p
 |.sl l u s p,_=>.Slice l u s p
 |.co c k p,_=>.Constant c k p
 |.fm x c f p,_=>.FormattedValue x c f p
 |.ls es p,_=>.List es p
 |.lc e g s p,_=>.ListComp e g s p
 |_,e=>e
theorem fO(e:Expr):(eK e).back e=e:=by cases e<;>rfl
def dD(e:Expr):Bool:=Nat.beq (eK e).ctorIdx 9
def jx(e:Expr):Bool:=Nat.beq (eK e).ctorIdx 10
def x4(e:Expr):Bool:=Nat.beq (eK e).ctorIdx 8||Nat.beq (eK e).ctorIdx 11
def d8(e:Expr):Option (Str×Pos):=match eK e with
 |.nm x p=>some (x,p)
 |_=>none
def fk(e:Expr):Option (Expr×Str×Pos):=match eK e with
 |.at o a p=>some (o,a,p)
 |_=>none
def uq(e:Expr):Option (Expr×List Expr×List Keyword×Pos):=match eK e with
 |.ca f a k p=>some (f,a,k,p)
 |_=>none
def zM(e:Expr):Option (List Expr×Nat×Pos):=match eK e with
 |.tu es k p=>some (es,k,p)
 |_=>none
def l7(e:Expr):Option (Option Expr×Option Expr×Option Expr×Pos):=match eK e with
 |.sl l u s p=>some (l,u,s,p)
 |_=>none
def m6(e:Expr):Option (Str×Nat×Pos):=match eK e with
 |.co c k p=>(match c with
  |.str a=>some (a,k,p)
  |_=>none)
 |_=>none
def Du(e:Expr):Option (Expr×Int×Option Expr×Pos):=match eK e with
 |.fm x c f p=>some (x,c,f,p)
 |_=>none
def zN(e:Expr):Option (List Expr×Pos):=match eK e with
 |.ls es p=>some (es,p)
 |_=>none
def l9(e:Expr):Bool:=Nat.beq (eK e).ctorIdx 2
def iV(e:Expr):Bool:=match uq e with
 |some c=>Nat.beq (eK c.1).ctorIdx 0&&(c.2.1.isEmpty&&c.2.2.1.isEmpty)
 |none=>false
def ur(e:Expr):Bool:=(m6 e).isSome
def fb:List Expr->Bool
 |[a,b]=>ur a&&ur b
 |_=>false
def ji(st:St)(e:Expr):Option (List D):=(d8 e).bind λr=>match dh (bm r.1) with
 |true=>st.own (bm r.1)
 |false=>none
def jj(e:Expr):Option (Str×Pos×Str×Pos):=match fk e with
 |some q=>(match d8 q.1 with
  |some r=>some (r.1,r.2,q.2.1,q.2.2)
  |none=>none)
 |none=>none
def m7(e:Expr):Bool:=match zN e with
 |some q=>q.1.isEmpty
 |none=>false
theorem dE{e:Expr}{r:Str×Pos}(h:d8 e=some r):e=.Name r.1 r.2:=by rw[<-fO e];revert h;unfold d8;generalize eK e=k;cases k<;>first|exact λh=>cX h|exact λh=>by rw[<-ag h];rfl
theorem kG{e:Expr}{r:Expr×Str×Pos}(h:fk e=some r):e=.Attribute r.1 r.2.1 r.2.2:=by rw[<-fO e];revert h;unfold fk;generalize eK e=k;cases k<;>first|exact λh=>cX h|exact λh=>by rw[<-ag h];rfl
theorem Bi{e:Expr}{r:Expr×List Expr×List Keyword×Pos}(h:uq e=some r):e=.Call r.1 r.2.1 r.2.2.1 r.2.2.2:=by rw[<-fO e];revert h;unfold uq;generalize eK e=k;cases k<;>first|exact λh=>cX h|exact λh=>by rw[<-ag h];rfl
theorem pO{e:Expr}{r:List Expr×Nat×Pos}(h:zM e=some r):e=.Tuple r.1 r.2.1 r.2.2:=by rw[<-fO e];revert h;unfold zM;generalize eK e=k;cases k<;>first|exact λh=>cX h|exact λh=>by rw[<-ag h];rfl
theorem x5{e:Expr}{r:Option Expr×Option Expr×Option Expr×Pos}(h:l7 e=some r):e=.Slice r.1 r.2.1 r.2.2.1 r.2.2.2:=by rw[<-fO e];revert h;unfold l7;generalize eK e=k;cases k<;>first|exact λh=>cX h|exact λh=>by rw[<-ag h];rfl
theorem Dv{e:Expr}{r:List Expr×Pos}(h:zN e=some r):e=.List r.1 r.2:=by rw[<-fO e];revert h;unfold zN;generalize eK e=k;cases k<;>first|exact λh=>cX h|exact λh=>by rw[<-ag h];rfl
theorem Dw{e:Expr}{r:Expr×Int×Option Expr×Pos}(h:Du e=some r):e=.FormattedValue r.1 r.2.1 r.2.2.1 r.2.2.2:=by rw[<-fO e];revert h;unfold Du;generalize eK e=k;cases k<;>first|exact λh=>cX h|exact λh=>by rw[<-ag h];rfl
set_option tactic.hygienic true in
theorem m8{e:Expr}{r:Str×Nat×Pos}(h:m6 e=some r):e=.Constant (.str r.1) r.2.1 r.2.2:=by
 rw[<-fO e];revert h;unfold m6;generalize eK e=k;cases k<;>first|exact λh=>cX h|skip
 rename_i c k p;cases c<;>first|exact λh=>cX h|exact λh=>by rw[<-ag h];rfl
theorem sf{e:Expr}{r:Str×Pos×Str×Pos}(h:jj e=some r):e=.Attribute (.Name r.1 r.2.1) r.2.2.1 r.2.2.2:=by
 unfold jj at h;cases a:fk e with
 |none=>rw[a] at h;exact cX h
 |some q=>
  rw[a] at h;dsimp only at h;cases b:d8 q.1 with
  |none=>rw[b] at h;exact cX h
  |some c=>rw[b] at h;rw[kG a,dE b,<-ag h]
theorem Bj{e:Expr}(h:m7 e=true):∃p,e=.List [] p:=by
 unfold m7 at h;cases a:zN e with
 |none=>rw[a] at h;exact(ab h).elim
 |some q=>rw[a] at h;exact⟨q.2,by rw[Dv a,List.isEmpty_iff.mp h]⟩
abbrev NY:=Str×Pos×Expr×List Expr×Int
def ma(l:List Comprehension):Option NY:=match one l with
 |some ⟨t,b,a,as⟩=>(match eK t with
  |.nm x p=>some (x,p,b,a,as)
  |_=>none)
 |none=>none
theorem vE{l:List Comprehension}{g:NY}(h:ma l=some g):l=[⟨.Name g.1 g.2.1,g.2.2.1,g.2.2.2.1,g.2.2.2.2⟩]:=by
 unfold ma at h;cases a:one l with
 |none=>rw[a] at h;exact cX h
 |some c=>obtain⟨t,d,b,as⟩:=c;rw[a] at h;dsimp only at h;rw[pL a,<-fO t];revert h;generalize eK t=k;cases k<;>first|exact λh=>cX h|exact λh=>by rw[<-ag h];rfl
def SV:ScopeKind->Bool
 |.function=>true
 |_=>false
theorem IP{k:ScopeKind}(h:SV k=true):k=.function:=by cases k<;>first|rfl|exact(ab h).elim
def NZ(sc:Sc)(a:Scope)(x:Str)(c:Expr)(b:List Expr)(as:Int):Bool:=!jx c&&decide (as=0)&&SV a.kind&&jG (kd a.names (bm x))&&jL a.names sc&&Nat.ble b.length 1
def Dx(sc:Sc)(a:Scope)(g:NY):Bool:=NZ sc a g.1 g.2.2.1 g.2.2.2.1 g.2.2.2.2
theorem Nb{sc:Sc}{f:Scope}{g:NY}{G:Prop}(h:Dx sc f g=true)(q:jx g.2.2.1=false->g.2.2.2.2=0->f.kind=.function->jG (kd f.names (bm g.1))=true->jL f.names sc=true->g.2.2.2.1.length<=1->G):G:=
 bx h λh a=>bx h λh b=>bx h λh c=>bx h λh d=>bx h λh e=>q (by rw[aN] at h;exact h) (ar e) (IP d) c b (Nat.le_of_ble_eq_true a)
inductive BK where
 |no(x:Expr)(p:Pos)
 |bo(op:BoolOp)(vs:List Expr)(p:Pos)
 |ife(t b o:Expr)(p:Pos)
 |cmp(l:Expr)(ops:List CmpOp)(rs:List Expr)(p:Pos)
 |pl
def bK:Expr->BK
 |.UnaryOp op x p=>(match op with
  |.Not=>.no x p
  |_=>.pl)
 |.BoolOp op vs p=>.bo op vs p
 |.IfExp t b o p=>.ife t b o p
 |.Compare l a rs p=>.cmp l a rs p
 |_=>.pl
def BK.back:BK->Expr->Expr
 |.no x p,_=>.UnaryOp .Not x p
 |.bo op vs p,_=>.BoolOp op vs p
 |.ife t b o p,_=>.IfExp t b o p
 |.cmp l a rs p,_=>.Compare l a rs p
 |.pl,e=>e
set_option tactic.hygienic true in
theorem SW(e:Expr):(bK e).back e=e:=by
 cases e<;>first|rfl|skip
 rename_i op x p;cases op<;>rfl
mutual
noncomputable def ev(K:KT)(M:gz):Nat->Sc->Expr->St->T (D×St)
 |0,_,_,_=>.fail
 |n+1,sc,e,st=>match e with
  |.Constant c _ _=>match c with
   |.none=>.ret (.none,st)
   |.bool b=>.ret (.bool b,st)
   |.int i=>.ret (.int i,st)
   |.str x=>.gd (Nat.ble (bm x).length br) (.ret (.str (bm x),st))
   |_=>.fail
  |.Name x _=>.gd (dh (bm x)) (match st.own (bm x) with
   |some ds=>.ret (.list ds,st.freeze)
   |none=>match dR st.v (bm x) with
    |some d=>.ret (d,st)
    |none=>.gd (WE (kd sc (bm x))) ((T.opt (dR G (bm x))).bind λd=>.ret (d,st)))
  |.BinOp l op r _=>(ev K M n sc l st).bind λp=>(ev K M n sc r p.2).bind λq=>(pE op p.1 q.1).bind λd=>.ret (d,q.2)
  |.UnaryOp op x _=>match op with
   |.USub=>(ev K M n sc x st).bind λp=>(T.opt (lS p.1)).bind λi=>.ret (.int (-i),p.2)
   |_=>.fail
  |.IfExp t b o _=>(eF K M n sc t st).bind λp=>.ask p.1 (ev K M n sc b p.2) (ev K M n sc o p.2)
  |.BoolOp op vs _=>match vs with
   |[x,y]=>(ev K M n sc x st).bind λp=>(T.opt (gB p.1)).bind λb=>match op with
    |.And=>.ask b (ev K M n sc y p.2) (.ret (p.1,p.2))
    |.Or=>.ask b (.ret (p.1,p.2)) (ev K M n sc y p.2)
   |_=>.fail
  |.Compare l u rs _=>(N1 K M n sc l u rs st).bind λp=>.ret (.bool p.1,p.2)
  |.List es _=>(lh K M n sc es st).bind λp=>.chk (decide (p.1.length<=br)) (.ret (.list p.1,p.2))
  |.Tuple es _ _=>(lh K M n sc es st).bind λp=>.chk (decide (p.1.length<=br)) (.ret (.tup p.1,p.2))
  |.ListComp k h g _=>match ma h with
   |some (x,_,v,j,as)=>.gd (NZ sc g x v j as)<|(ev K M n sc v st).bind λp=>(T.opt (lV p.1)).bind λds=>
    ((dv (λd ob=>(zO K M n (eh g.names sc) j ⟨ee (m5 g.names sc p.2.v) (bm x) d,none,ob⟩).bind λq=>
      .ask q.1 ((ev K M n (eh g.names sc) k q.2).bind λr=>.ret (some r.1,r.2.ob)) (.ret (none,q.2.ob))) ds p.2.ob).bind λr=>
    .ret (.list r.1,⟨p.2.v,p.2.ow,r.2⟩))
   |none=>.fail
  |.Call f args s pos=>.gd s.isEmpty (match fk f with
   |some m=>.gd (!iV m.1&&Nat.beq m.2.2.endLine pos.line&&Nat.blt args.length 20)<|(ev K M n sc m.1 st).bind λp=>(lh K M n sc args p.2).bind λq=>match je p.1 with
    |some x=>.gd (!cr (bm m.2.1) cR||fb args) ((K.sm x (bm m.2.1) q.1).bind λd=>.ret (d,q.2))
    |none=>(match lj p.1 with
     |some r=>(K.rm r (bm m.2.1) q.1).bind λd=>.ret (d,q.2)
     |none=>(T.opt (Iz p.1)).bind λi=>(T.opt p.2.ob[i]?).bind λo=>.gd (isNone (dR o.at_ (bm m.2.1)))<|(T.opt (M.me o.C (bm m.2.1))).bind λf=>(K.fn f (.obj i::q.1) q.2.ob).bind λd=>.ret (d.1,⟨q.2.v,q.2.ow,d.2⟩))
   |none=>(ev K M n sc f st).bind λp=>(lh K M n sc args p.2).bind λq=>(iw K p.1 q.1 q.2.ob).bind λd=>.ret (d.1,⟨q.2.v,q.2.ow,d.2⟩))
  |.Attribute o a _=>.gd (!iV o&&(match o with|.Name _ _=>true|_=>false))<|(ev K M n sc o st).bind λp=>(T.opt (Iz p.1)).bind λi=>(T.opt p.2.ob[i]?).bind λo=>match M.pr o.C (bm a) with
   |some f=>(K.fn f [.obj i] p.2.ob).bind λd=>.gd (ol d.1) (.ret (d.1,⟨p.2.v,p.2.ow,d.2⟩))
   |none=>.gd (M.fr o.C (bm a)) ((T.opt (dR o.at_ (bm a))).bind λd=>.gd (ol d) (.ret (d,p.2)))
  |.Subscript o i _=>match l7 i with
   |some c=>.gd (isNone c.2.2.1) ((ev K M n sc o st).bind λp=>(ev K M n sc (lB c.1) p.2).bind λq=>(ev K M n sc (lB c.2.1) q.2).bind λr=>
    (pH p.1 q.1 r.1).bind λd=>.ret (d,r.2))
   |none=>match ji st o with
    |some _=>(ev K M n sc i st).bind λq=>(T.opt (ji q.2 o)).bind λds=>(dA (.list ds) q.1).bind λd=>.ret (d,q.2)
    |none=>(ev K M n sc o st).bind λp=>(ev K M n sc i p.2).bind λq=>(dA p.1 q.1).bind λd=>.ret (d,q.2)
  |.JoinedStr vs _=>match vs with
   |[w,z,A]=>(T.opt (m6 w)).bind λa=>(T.opt (Du z)).bind λf=>(T.opt (m6 A)).bind λb=>.gd (decide (f.2.1= -1)&&isNone f.2.2.1)<|(ev K M n sc f.1 st).bind λp=>(T.opt (je p.1)).bind λy=>
    .chk (decide ((bm a.1).length+y.length+(bm b.1).length<=br)) (.ret (.str (bm a.1++y++bm b.1),p.2))
   |_=>.fail
  |.Lambda args _ g _=>.gd (!isNone (kd sc g8)&&Dt args&&g.names.all (λp=>!Bh p.2)) (.ret (.fn,st))
  |_=>.fail
noncomputable def lh(K:KT)(M:gz):Nat->Sc->List Expr->St->T (List D×St)
 |0,_,_,_=>.fail
 |n+1,sc,es,st=>match es with
  |[]=>.ret ([],st)
  |e::r=>match dD e with
   |true=>.fail
   |false=>(ev K M n sc e st).bind λp=>(lh K M n sc r p.2).bind λq=>.ret (p.1::q.1,q.2)
noncomputable def eF(K:KT)(M:gz):Nat->Sc->Expr->St->T (Bool×St)
 |0,_,_,_=>.fail
 |n+1,sc,e,st=>match bK e with
  |.no x _=>(eF K M n sc x st).bind λp=>.ret (!p.1,p.2)
  |.bo op vs _=>match op with
   |.And=>zO K M n sc vs st
   |.Or=>Sl K M n sc vs st
  |.ife t b o _=>(eF K M n sc t st).bind λp=>.ask p.1 (eF K M n sc b p.2) (eF K M n sc o p.2)
  |.cmp l a rs _=>N1 K M n sc l a rs st
  |.pl=>match ji st e with
   |some ds=>.ret (!ds.isEmpty,st)
   |none=>(ev K M n sc e st).bind λp=>(T.opt (gB p.1)).bind λb=>.ret (b,p.2)
noncomputable def N1(K:KT)(M:gz):Nat->Sc->Expr->List CmpOp->List Expr->St->T (Bool×St)
 |0,_,_,_,_,_=>.fail
 |n+1,sc,l,a,rs,st=>match a,rs with
  |[op],[r]=>.gd (!jx r)<|match ji st r with
   |some _=>(T.opt (WG op)).bind λy=>(ev K M n sc l st).bind λp=>(T.opt (ji p.2 r)).bind λds=>.chk (eN p.1&&iT ds) (.ret (match y with|true=>jf p.1 ds|false=>!jf p.1 ds,p.2))
   |none=>(ev K M n sc l st).bind λp=>(ev K M n sc r p.2).bind λq=>(lU op p.1 q.1).bind λb=>.ret (b,q.2)
  |_,_=>.fail
noncomputable def zO(K:KT)(M:gz):Nat->Sc->List Expr->St->T (Bool×St)
 |0,_,_,_=>.fail
 |n+1,sc,es,st=>match es with
  |[]=>.ret (true,st)
  |e::r=>(eF K M n sc e st).bind λp=>.ask p.1 (zO K M n sc r p.2) (.ret (false,p.2))
noncomputable def Sl(K:KT)(M:gz):Nat->Sc->List Expr->St->T (Bool×St)
 |0,_,_,_=>.fail
 |n+1,sc,es,st=>match es with
  |[]=>.ret (false,st)
  |e::r=>(eF K M n sc e st).bind λp=>.ask p.1 (.ret (true,p.2)) (Sl K M n sc r p.2)
end
abbrev pP:Nat:=1000000
def pQ:Option NameKind->Bool
 |some .local=>true
 |_=>false
theorem kH{k:Option NameKind}(h:pQ k=true):k=some .local:=r8 (Q:=λk=>k=some .local) h (λh=>(ab h).elim) λk h=>by cases k<;>first|rfl|exact(ab h).elim
def zP(es:List Expr):Bool:=match es with
 |[a,b]=>!dD a&&!dD b&&l9 b
 |_=>false
abbrev Fe:=Expr->St->T (D×St)
def Nc(F:Fe)(st:St)(x:Nm)(a:Nm)(as:List Expr):T (dN×St):=match as with
 |[e]=>.gd (cr a jK) ((F e st).bind λp=>.gd (!isNone (p.2.own x)) (.chk (decide (p.2.ds.length<br)) (.ret (.next,p.2.put (p.2.ds++[p.1])))))
 |[]=>.gd (cr a Ds) (.chk (!st.ds.isEmpty&&dB st.ds) (.ret (.next,st.put st.ds.dropLast)))
 |_=>.fail
def SX(F:Fe)(st:St)(e:Expr):T (dN×St):=(F e st).bind λp=>.gd (rD p.1) (.ret (.next,p.2))
def SY(F:Fe)(st:St)(y:Nm)(as:List Expr):T (dN×St):=match as with
 |[e]=>.gd (st.ali y&&dh y) ((F e st).bind λp=>.gd (p.2.ali y) (.chk (decide (p.2.ds.length<br)) (.ret (.next,p.2.put (p.2.ds++[p.1])))))
 |_=>.fail
def Yc(F:Fe)(st:St)(e:Expr):T (dN×St):=(T.opt (uq e)).bind λc=>.gd c.2.2.1.isEmpty (match jj c.1 with
 |some m=>(match st.own (bm m.1) with
  |some _=>.gd (dh (bm m.1)&&Nat.beq m.2.2.2.endLine c.2.2.2.line) (Nc F st (bm m.1) (bm m.2.2.1) c.2.1)
  |none=>SX F st e)
 |none=>(T.opt (d8 c.1)).bind λy=>SY F st (bm y.1) c.2.1)
def N2(F:Fe)(st:St)(x:Nm)(a:Expr):T (dN×St):=(F a st).bind λp=>.ret (.next,p.2.set x p.1)
def WH(st:St)(x:Nm)(m:Str×Pos×Str×Pos)(ds:List D):T (dN×St):=.gd (cr (bm m.2.2.1) jK&&dh (bm m.1)) (.gd (!cr x (bm m.1)) (.ret (.next,⟨oS st.v x,some (bm m.1,some x,ds),st.ob⟩)))
def pS(F:Fe)(st:St)(x:Nm)(a:Expr):T (dN×St):=match m7 a with
 |true=>.ret (.next,⟨oS st.freeze.v x,some (x,none,[]),st.ob⟩)
 |false=>match jj a with
  |some m=>(match st.own (bm m.1) with
   |some ds=>WH st x m ds
   |none=>N2 F st x a)
  |none=>N2 F st x a
def Dy(F:Fe)(M:gz)(st:St)(c:Expr)(a:Nm)(b:Expr):T (dN×St):=(F b st).bind λp=>(F c p.2).bind λq=>(T.opt (Iz q.1)).bind λi=>(T.opt q.2.ob[i]?).bind λo=>.gd (M.fr o.C a&&Nat.blt o.at_.length 900) (.ret (.next,⟨q.2.v,q.2.ow,vD q.2.ob i a p.1⟩))
def N3(F:Fe)(sc:Sc)(st:St)(t1 t2 a:Expr):T (dN×St):=(T.opt (d8 t1)).bind λx=>(T.opt (d8 t2)).bind λy=>(T.opt (zM a)).bind λv=>
 .gd (pQ (kd sc (bm x.1))&&pQ (kd sc (bm y.1))&&!cr (bm x.1) (bm y.1)&&Nat.beq x.2.line y.2.line&&zP v.1) ((F a st).bind λp=>(T.opt (Sj p.1)).bind λds=>(T.opt (C6 ds)).bind λe=>
  .ret (.next,(p.2.set (bm y.1) e.2).set (bm x.1) e.1))
def N4(F:Fe)(sc:Sc)(st:St)(t1 t2 t3 a:Expr):T (dN×St):=(T.opt (d8 t1)).bind λx=>(T.opt (d8 t2)).bind λy=>(T.opt (d8 t3)).bind λz=>
 .gd (jG (kd sc (bm x.1))&&jG (kd sc (bm y.1))&&jG (kd sc (bm z.1))&&l9 a) ((F a st).bind λp=>(T.opt (Sj p.1)).bind λds=>(T.opt (zH ds)).bind λe=>
  .ret (.next,((p.2.set (bm x.1) e.1).set (bm y.1) e.2.1).set (bm z.1) e.2.2))
def N5(F:Fe)(sc:Sc)(st:St)(ts:List Expr)(a:Expr):T (dN×St):=match ts with
 |[t1,t2]=>N3 F sc st t1 t2 a
 |[t1,t2,t3]=>N4 F sc st t1 t2 t3 a
 |_=>.fail
def Dz(F:Fe)(M:gz)(sc:Sc)(st:St)(t a:Expr):T (dN×St):=match d8 t with
 |some x=>.gd (jG (kd sc (bm x.1))) (pS F st (bm x.1) a)
 |none=>match fk t with
  |some m=>Dy F M st m.1 (bm m.2.1) a
  |none=>(T.opt (zM t)).bind λu=>N5 F sc st u.1 a
def DA(F:Fe)(sc:Sc)(st:St)(x:Nm)(op:Operator)(a:Expr):T (dN×St):=.gd (jG (kd sc x)&&isNone (st.own x)&&dh x) ((T.opt (dR st.v x)).bind λd=>(F a st).bind λp=>(Dh op d p.1).bind λr=>.ret (.next,p.2.set x r))
def DB(F:Fe)(M:gz)(st:St)(c:Expr)(a:Nm)(op:Operator)(b:Expr):T (dN×St):=(F c st).bind λq=>(T.opt (Iz q.1)).bind λi=>(T.opt q.2.ob[i]?).bind λo=>.gd (M.fr o.C a)<|(T.opt (dR o.at_ a)).bind λd=>(F b q.2).bind λp=>(Dh op d p.1).bind λr=>(T.opt p.2.ob[i]?).bind λo=>.gd (M.fr o.C a&&Nat.blt o.at_.length 900) (.ret (.next,⟨p.2.v,p.2.ow,vD p.2.ob i a r⟩))
def DC(F:Fe)(M:gz)(sc:Sc)(st:St)(t:Expr)(op:Operator)(a:Expr):T (dN×St):=match d8 t with
 |some x=>DA F sc st (bm x.1) op a
 |none=>(T.opt (fk t)).bind λm=>DB F M st m.1 (bm m.2.1) op a
mutual
noncomputable def ex(K:KT)(M:gz):Nat->Sc->Stmt->St->T (dN×St)
 |0,_,_,_=>.fail
 |n+1,sc,s,st=>match s with
  |.Expr e _=>Yc (ev K M n sc) st e
  |.Assign [t] a _=>Dz (ev K M n sc) M sc st t a
  |.AugAssign t op a _=>DC (ev K M n sc) M sc st t op a
  |.If t b o _=>(eF K M n sc t st).bind λp=>.ask p.1 (cM K M n sc b p.2) (cM K M n sc o p.2)
  |.While t b o _=>.gd o.isEmpty (dO (λst=>eF K M n sc t st) (λst=>cM K M n sc b st) pP st)
  |.For t c b o _=>(T.opt (d8 t)).bind λx=>.gd (o.isEmpty&&jG (kd sc (bm x.1))&&!jx c) ((ev K M n sc c st).bind λp=>(T.opt (lV p.1)).bind λds=>(dS (λd st=>cM K M n sc b (st.set (bm x.1) d)) ds p.2))
  |.Return v _=>match v with
   |some e=>(ev K M n sc e st).bind λp=>.ret (.ret p.1,p.2)
   |none=>.ret (.ret .none,st)
  |.Break _=>.ret (.brk,st)
  |.Continue _=>.ret (.cont,st)
  |.Pass _=>.ret (.next,st)
  |.Assert t _ _=>(eF K M n sc t st).bind λp=>.chk p.1 (.ret (.next,p.2))
  |.Try b g o f _=>.gd (o.isEmpty&&f.isEmpty&&!g.isEmpty) (cM K M n sc b st)
  |_=>.fail
noncomputable def cM(K:KT)(M:gz):Nat->Sc->List Stmt->St->T (dN×St)
 |0,_,_,_=>.fail
 |n+1,sc,a,st=>match a with
  |[]=>.ret (.next,st)
  |s::r=>(ex K M n sc s st).bind λp=>match p.1 with
   |.next=>cM K M n sc r p.2
   |o=>.ret (o,p.2)
end
abbrev Gx:=Addr->Option Obj
abbrev Tb:=List (Addr×Addr)
mutual
inductive Rd(g:Gx)(ts:Tb):ai->D->Prop
 |none:Rd g ts .none .none
 |bool (b:Bool):Rd g ts (.bool b) (.bool b)
 |int (i:Int) (t:Tok):Rd g ts (.int i t) (.int i)
 |str (x:List Nat) (t:Tok):x.length<=br->Rd g ts (.str (S x) t) (.str x)
 |list {a:Addr} {vs:Array ai} {n:Nat} {ds:List D}:g a=some {cls:=.type "list",data:=.seq vs n}->vs.size<=br->dj g ts vs.toList ds->Rd g ts (.ref a) (.list ds)
 |tup {a:Addr} {vs:Array ai} {n:Nat} {ds:List D}:g a=some {cls:=.type "tuple",data:=.seq vs n}->vs.size<=br->dj g ts vs.toList ds->Rd g ts (.ref a) (.tup ds)
 |rng {r:Addr} {a b:Int} {t u v:Tok}:g r=some {cls:=.type "range",dict:=none,data:=.fields #[.int a t,.int b u,.int 1 v],slots:=#[]}->(-br<=a/\a<=br/\ -br<=b/\b<=br/\b-a<=br)->Rd g ts (.ref r) (.rng a b)
 |bi {v:ai} (k:BI):v=k.val->Rd g ts v (.bi k)
 |raw (a:Addr):Rd g ts (.ref a) (.raw a)
 |obj {i:Nat} {p:Addr×Addr}:ts[i]?=some p->Rd g ts (.ref p.1) (.obj i)
 |deq {a:Addr}:g a=some {cls:=.type "collections.deque",data:=.fields #[.none,.int 0 0]}->Rd g ts (.ref a) .deq
 |nn (v:ai):(v==ai.none)=false->Rd g ts v .nn
 |fn {a:Addr} {o:Obj}:g a=some o->o.cls=.type "function"->Rd g ts (.ref a) .fn
 |any (v:ai):Rd g ts v .any
inductive dj(g:Gx)(ts:Tb):List ai->List D->Prop
 |nil:dj g ts [] []
 |cons {v:ai} {d:D} {vs:List ai} {ds:List D}:Rd g ts v d->dj g ts vs ds->dj g ts (v::vs) (d::ds)
end
def gT(g b:Gx):Prop:=∀a o,g a=some o->(o.cls=.type "list"\/o.cls=.type "tuple"\/o.cls=.type "range"\/o.cls=.type "collections.deque"\/o.cls=.type "function")->b a=some o
theorem dj.ind{g:Gx}{ts:Tb}{P:List ai->List D->Prop}(e:P [] [])(f:∀v d vs ds,Rd g ts v d->dj g ts vs ds->P vs ds->P (v::vs) (d::ds)){vs:List ai}{ds:List D}(r:dj g ts vs ds):P vs ds:=
 dj.rec (motive_1:=λc c c=>True) (motive_2:=λvs ds c=>P vs ds) trivial (λc=>trivial) (λc c=>trivial) (λc c c=>trivial) (λc c c c=>trivial) (λc c c c=>trivial) (λc c=>trivial) (λc c=>trivial) (λc=>trivial) (λc=>trivial) (λc=>trivial) (λc c=>trivial) (λc c=>trivial) (λc=>trivial)
  e (λa b c h=>f _ _ _ _ a b h) r
theorem Rd.mon{g f:Gx}{ts:Tb}(k:gT g f){v:ai}{d:D}(r:Rd g ts v d):Rd f ts v d:=
 Rd.rec (motive_1:=λv d e=>Rd f ts v d) (motive_2:=λvs ds e=>dj f ts vs ds) .none .bool .int .str (λh l e r=>.list (k _ _ h (.inl rfl)) l r) (λh l e r=>.tup (k _ _ h (.inr (.inl rfl))) l r) (λh l=>.rng (k _ _ h (.inr (.inr (.inl rfl)))) l)
  .bi .raw .obj (λh=>.deq (k _ _ h (.inr (.inr (.inr (.inl rfl)))))) .nn (λh c=>.fn (k _ _ h (.inr (.inr (.inr (.inr c))))) c) .any .nil (λe e a b=>.cons a b) r
theorem dj.mon{g c:Gx}{ts:Tb}(k:gT g c){vs:List ai}{ds:List D}(r:dj g ts vs ds):dj c ts vs ds:=r.ind (P:=λvs ds=>dj c ts vs ds) .nil λb b b b a b d=>.cons (a.mon k) d
def YR(g:Gx)(ts:Tb)(v:ai):D->Prop
 |.none=>v=.none
 |.bool b=>v=.bool b
 |.int i=>∃t,v=.int i t
 |.str x=>∃t,v=.str (S x) t/\x.length<=br
 |.list ds=>∃(a:Addr) (vs:Array ai) (n:Nat),v=.ref a/\g a=some {cls:=.type "list",data:=.seq vs n}/\vs.size<=br/\dj g ts vs.toList ds
 |.tup ds=>∃(a:Addr) (vs:Array ai) (n:Nat),v=.ref a/\g a=some {cls:=.type "tuple",data:=.seq vs n}/\vs.size<=br/\dj g ts vs.toList ds
 |.bi k=>v=k.val
 |.raw a=>v=.ref a
 |.obj i=>∃p,ts[i]?=some p/\v=.ref p.1
 |.deq=>∃a:Addr,v=.ref a/\g a=some {cls:=.type "collections.deque",data:=.fields #[.none,.int 0 0]}
 |.nn=>(v==ai.none)=false
 |.fn=>∃(a:Addr) (o:Obj),v=.ref a/\g a=some o/\o.cls=.type "function"
 |_=>True
theorem g9{g:Gx}{ts:Tb}{v:ai}{d:D}(r:Rd g ts v d):YR g ts v d:=by
 cases r with
 |none=>rfl
 |bool b=>rfl
 |int i t=>exact⟨_,rfl⟩
 |str x t l=>exact⟨_,rfl,l⟩
 |list a b c=>exact⟨_,_,_,rfl,a,b,c⟩
 |tup a b c=>exact⟨_,_,_,rfl,a,b,c⟩
 |rng a b=>trivial
 |bi k e=>exact e
 |raw a=>rfl
 |obj e=>exact⟨_,e,rfl⟩
 |deq e=>exact⟨_,rfl,e⟩
 |nn v e=>exact e
 |fn e c=>exact⟨_,_,rfl,e,c⟩
 |any v=>trivial
section
variable{g:Gx}{ts:Tb}{v:ai}
theorem YS(r:Rd g ts v .fn):∃(a:Addr) (o:Obj),v=.ref a/\g a=some o/\o.cls=.type "function":=g9 r
theorem VQ(r:Rd g ts v .none):v=.none:=g9 r
theorem WI{b:Bool}(r:Rd g ts v (.bool b)):v=.bool b:=g9 r
theorem Bk{i:Int}(r:Rd g ts v (.int i)):∃t,v=.int i t:=g9 r
theorem m9{x:List Nat}(r:Rd g ts v (.str x)):∃t,v=.str (S x) t/\x.length<=br:=g9 r
theorem rA{ds:List D}(r:Rd g ts v (.list ds)):∃(a:Addr) (vs:Array ai) (n:Nat),v=.ref a/\g a=some {cls:=.type "list",data:=.seq vs n}/\vs.size<=br/\dj g ts vs.toList ds:=g9 r
theorem VR{ds:List D}(r:Rd g ts v (.tup ds)):∃(a:Addr) (vs:Array ai) (n:Nat),v=.ref a/\g a=some {cls:=.type "tuple",data:=.seq vs n}/\vs.size<=br/\dj g ts vs.toList ds:=g9 r
theorem N6{k:BI}(r:Rd g ts v (.bi k)):v=k.val:=g9 r
theorem WJ{a:Addr}(r:Rd g ts v (.raw a)):v=.ref a:=g9 r
theorem Yd{i:Nat}(r:Rd g ts v (.obj i)):∃p,ts[i]?=some p/\v=.ref p.1:=g9 r
end
section
variable{g:Gx}{ts:Tb}{vs vs':List ai}{ds ds':List D}
theorem dj.length(r:dj g ts vs ds):vs.length=ds.length:=r.ind (P:=λvs ds=>vs.length=ds.length) rfl λa a a a a a b=>aU (·+1) b
theorem dj.append(r:dj g ts vs ds)(k:dj g ts vs' ds'):dj g ts (vs++vs') (ds++ds'):=r.ind (P:=λvs ds=>dj g ts (vs++vs') (ds++ds')) k λb b b b a b c=>.cons a c
theorem dj.get(r:dj g ts vs ds):∀(i:Nat) (d:D),ds[i]?=some d->∃v,vs[i]?=some v/\Rd g ts v d:=
 r.ind (P:=λvs ds=>∀(i:Nat) (d:D),ds[i]?=some d->∃v,vs[i]?=some v/\Rd g ts v d) (λb b h=>cX h) λv d vs ds a b c i e h=>by
  cases i with
  |zero=>exact⟨v,rfl,ag h▸a⟩
  |succ i=>exact c i e h
theorem dj.take(n:Nat)(r:dj g ts vs ds):dj g ts (vs.take n) (ds.take n):=
 r.ind (P:=λvs ds=>∀n,dj g ts (vs.take n) (ds.take n)) (λn=>by rw[List.take_nil,List.take_nil];exact .nil) (λv d vs ds a c b n=>by
  cases n with
  |zero=>exact .nil
  |succ n=>exact .cons a (b n)) n
theorem dj.drop(n:Nat)(r:dj g ts vs ds):dj g ts (vs.drop n) (ds.drop n):=
 r.ind (P:=λvs ds=>∀n,dj g ts (vs.drop n) (ds.drop n)) (λn=>by rw[List.drop_nil,List.drop_nil];exact .nil) (λv d vs ds a b c n=>by
  cases n with
  |zero=>exact .cons a b
  |succ n=>exact c n) n
end
theorem dj.dropLast{g:Gx}{ts:Tb}{vs:List ai}{ds:List D}(h:dj g ts vs ds):dj g ts vs.dropLast ds.dropLast:=by rw[List.dropLast_eq_take,List.dropLast_eq_take,h.length];exact h.take _
def bJ(X:List Addr)(h:Heap):Gx:=λa=>if a∈X then none else h.get? a
theorem bT{X:List Addr}{h:Heap}{a:Addr}{o:Obj}(e:bJ X h a=some o):h.get? a=some o/\a∉X:=by
 unfold bJ at e
 split at e
 .cases e
 .exact⟨e,by assumption⟩
theorem cc{X:List Addr}{h:Heap}{a:Addr}{o:Obj}(e:h.get? a=some o)(n:a∉X):bJ X h a=some o:=by unfold bJ;rw[av n];exact e
theorem gT.refl(g:Gx):gT g g:=λa a e a=>e
theorem gT.trans{g f d:Gx}(a:gT g f)(b:gT f d):gT g d:=λx o e c=>b x o (a x o e c) c
theorem gp{X:List Addr}{h h':Heap}(k:∀b o,h.get? b=some o->h'.get? b=some o):gT (bJ X h) (bJ X h'):=λc c e c=>let⟨a,b⟩:=bT e;cc (k _ _ a) b
theorem jM{X:List Addr}{h:Heap}{a:Addr}:gT (bJ (a::X) h) (bJ X h):=λc c e c=>let⟨x,b⟩:=bT e;cc x λq=>b (.tail _ q)
def fG(ts:Tb):List Addr:=ts.map (·.2)
def St.hid(X:List Addr)(oa:Addr)(st:St):List Addr:=match st.ow with
 |some _=>oa::X
 |none=>X
def jD(st st':St):Prop:=st'.ow.isSome=true->st.ow.isSome=true
theorem jD.refl(st:St):jD st st:=id
theorem jD.trans{a b c:St}(x:jD a b)(y:jD b c):jD a c:=λh=>x (y h)
theorem zQ{X:List Addr}{h:Heap}{oa:Addr}{st st':St}(k:jD st st'):gT (bJ (st.hid X oa) h) (bJ (st'.hid X oa) h):=by
 unfold St.hid;unfold jD at k;cases e:st.ow with
 |none=>cases a:st'.ow with
  |none=>exact gT.refl _
  |some _=>rw[e,a] at k;exact aK (k rfl) (by simp)
 |some _=>cases st'.ow with
  |none=>exact jM
  |some _=>exact gT.refl _
def zR(env:Env)(h:Heap)(x:Str)(v:ai):Prop:=
 (env.kindOf x=some .local/\∃m,h.Ns env.locals m/\m x=some v)\/
 ((env.kindOf x=some .cell\/env.kindOf x=some .free)/\∃c,env.cells.lookup x=some c/\h.IsCell c (some v))
def WK(env:Env)(g:Gx)(ts:Tb)(h:Heap)(a:List (Nm×D)):Prop:=∀x d,dR a x=some d->∃v,zR env h (S x) v/\Rd g ts v d
inductive mc(w:aq)(g:Gx)(ts:Tb):List bj->List (Nm×D)->Prop
 |nil:mc w g ts [] []
 |cons {x:Nm} {t:Tok} {v:ai} {d:D} {es:List bj} {r:List (Nm×D)}:Rd g ts v d->mc w g ts es r->mc w g ts (⟨PyData.keyHash w.params (S x),.str (S x) t,v⟩::es) ((x,d)::r)
theorem mc.mon{w:aq}{g b:Gx}{ts:Tb}(k:gT g b){es:List bj}{r:List (Nm×D)}(a:mc w g ts es r):mc w b ts es r:=
 mc.rec (motive:=λes r d=>mc w b ts es r) .nil (λh d c=>.cons (h.mon k) c) a
structure SZ(w:aq)(g:Gx)(ts:Tb)(h:Heap)(o:Ob)(p:Addr×Addr):Prop where
 inst:h.get? p.1=some (instObj o.C p.2)
 dict:∃es n,h.get? p.2=some (dictOf es n)/\mc w g ts es o.at_
 new:(hT w.params).get? p.2=none
structure gc(w:aq)(g:Gx)(ts:Tb)(h:Heap)(ob:List Ob):Prop where
 len:ob.length=ts.length
 each:∀(i:Nat) (o:Ob) (p:Addr×Addr),ob[i]?=some o->ts[i]?=some p->SZ w g ts h o p
 nodup:(fG ts).Nodup
theorem gc.mon{w:aq}{g c:Gx}{ts:Tb}{h:Heap}{ob:List Ob}(k:gT g c)(x:gc w g ts h ob):gc w c ts h ob:=
 ⟨x.len,λi o p a b=>let y:=x.each i o p a b;⟨y.inst,(let⟨es,n,e,r⟩:=y.dict;⟨es,n,e,r.mon k⟩),y.new⟩,x.nodup⟩
theorem gc.dict{w:aq}{g:Gx}{ts:Tb}{h:Heap}{ob:List Ob}(x:gc w g ts h ob){b:Addr}(d:b∈fG ts):(∃es n,h.get? b=some (dictOf es n))/\(hT w.params).get? b=none:=by obtain⟨p,f,rfl⟩:=aE.mp d;obtain⟨i,c⟩:=List.mem_iff_getElem?.mp f;obtain⟨a,j⟩:=aY.mp c;have:=x.each i _ p (aD (by rw[x.len];exact a)) c;obtain⟨es,n,e,j⟩:=this.dict;exact⟨⟨es,n,e⟩,this.new⟩
inductive Kp(ts:Tb)(s s':af):Prop
 |mk (h':Heap) (tk:Nat) (e:s'={s with heap:=h',toks:=tk}) (l:s.toks<=tk) (k:∀b o,s.heap.get? b=some o->b∉fG ts->b≠dM->h'.get? b=some o)
theorem Kp.refl(ts:Tb)(s:af):Kp ts s s:=⟨_,_,rfl,aF _,λa a e a a=>e⟩
theorem Kp.trans{ts:Tb}{s s' c:af}(a:Kp ts s s')(b:Kp ts s' c):Kp ts s c:=by obtain⟨h,t1,rfl,l1,f⟩:=a;obtain⟨d,t2,rfl,l2,g⟩:=b;exact⟨d,t2,rfl,aj l1 l2,λb o e n m=>g b o (f b o e n m) n m⟩
theorem Kp.toks{ts:Tb}{s s':af}(a:Kp ts s s'):s.toks<=s'.toks:=by obtain⟨b,b,rfl,l,b⟩:=a;exact l
theorem Kp.get{ts:Tb}{s s':af}(a:Kp ts s s'){b:Addr}{o:Obj}(e:s.heap.get? b=some o)(n:b∉fG ts)(m:b≠dM):s'.heap.get? b=some o:=by obtain⟨c,c,rfl,c,k⟩:=a;exact k b o e n m
def So(s s':af):Prop:=∃h t,s'={s with heap:=h,toks:=t}
theorem So.trans{s s' c:af}(a:So s s')(b:So s' c):So s c:=by obtain⟨d,d,rfl⟩:=a;obtain⟨h,t,rfl⟩:=b;exact⟨h,t,rfl⟩
theorem Kp.so{ts:Tb}{s s':af}(a:Kp ts s s'):So s s':=let⟨h,t,e,_,_⟩:=a;⟨h,t,e⟩
theorem Kp.mk2{ts:Tb}{s s':af}(o:So s s')(l:s.toks<=s'.toks)(k:∀b o,s.heap.get? b=some o->b∉fG ts->b≠dM->s'.heap.get? b=some o):Kp ts s s':=by obtain⟨h,t,rfl⟩:=o;exact⟨h,t,rfl,l,k⟩
theorem zS{s s':af}(a:Keeps s s'):So s s':=let⟨h,t,e,_⟩:=a;⟨h,t,e⟩
theorem lC{s s':af}(a:Keeps s s'){b:Addr}{o:Obj}(e:s.heap.get? b=some o):s'.heap.get? b=some o:=by obtain⟨c,c,rfl,k⟩:=a;exact k b o e
theorem dF{ts:Tb}{s s':af}(k:Keeps s s')(t:s.toks<=s'.toks):Kp ts s s':=by obtain⟨h',tk,rfl,k⟩:=k;exact⟨h',tk,rfl,t,λb o e a a=>k b o e⟩
theorem ut{ts:Tb}{s:af}(n:Nat):Kp ts s {s with toks:=s.toks+n}:=⟨_,_,rfl,ba _ _,λa a e a a=>e⟩
theorem Kp.mon{w:aq}{g:Gx}{ts:Tb}{ob:List Ob}{s s':af}(k:Kp ts s s')(B:cT w s.heap)(O:gc w g ts s.heap ob)(Z:List Addr):gT (bJ Z s.heap) (bJ Z s'.heap):=by
 intro a o e c;have d:=bT e;clear e;obtain⟨e,n⟩:=d;refine cc (k.get e (λb=>?_) (B.notPL e ?_)) n
 .have d:=O.dict b;clear b;obtain⟨⟨es,n,b⟩,f⟩:=d;obtain rfl:=ag (e.symm.trans b);rcases c with c|c|c|c|c<;>exact aK c (by show ¬(ai.type "dict"=_);decide)
 .rcases c with c|c|c|c|c<;>(rw[c];exact λq=>by cases q)
theorem zR.keep{env:Env}{h h':Heap}{x:Str}{v:ai}(g:zR env h x v)(j:∀o,h.get? env.locals=some o->h'.get? env.locals=some o)
 (i:∀c o,env.cells.lookup x=some c->h.get? c=some o->h'.get? c=some o):zR env h' x v:=by
 rcases g with⟨a,m,⟨o,es,ep,b,r⟩,f⟩|⟨a,c,d,o,b,e⟩
 .exact .inl ⟨a,m,⟨o,es,ep,j _ b,r⟩,f⟩
 .exact .inr ⟨a,c,d,o,i _ _ d b,e⟩
def Nd(oa:Addr)(o:Obj):Prop:=o={cls:=.type "builtin_function_or_method",data:=.fields #[.builtin "list.append",.ref oa]}
structure WL(env:Env)(ts:Tb)(w:aq)(X:List Addr)(h:Heap)(oa:Addr)(x:Nm)(z:Option Nm)(ds:List D):Prop where
 var:zR env h (S x) (.ref oa)
 app:∀y,z=some y->∃m o,zR env h (S y) (.ref m)/\h.get? m=some o/\Nd oa o
 items:∃n items,h.get? oa=some {cls:=.type "list",data:=.seq items n}/\items.size<=br/\dj (bJ (oa::X) h) ts items.toList ds
 off:oa∉X
 new:(hT w.params).get? oa=none
structure b0(w:aq)(ts:Tb)(env:Env)(X:List Addr)(oa:Addr)(st:St)(h:Heap):Prop where
 base:cT w h
 vars:WK env (bJ (st.hid X oa) h) ts h st.v
 own:∀x z ds,st.ow=some (x,z,ds)->WL env ts w X h oa x z ds
 obs:gc w (bJ (st.hid X oa) h) ts h st.ob
 loc:∃m,h.Ns env.locals m
 cel:∀x c,env.cells.lookup x=some c->∃v,h.IsCell c v
 off:env.locals∉fG ts
 live:∀a∈X,(h.get? a).isSome=true
theorem b0.hid{w:aq}{ts:Tb}{env:Env}{X:List Addr}{oa:Addr}{st:St}{h:Heap}(H:b0 w ts env X oa st h):∀a∈st.hid X oa,(h.get? a).isSome=true:=by
 intro a b;unfold St.hid at b;cases e:st.ow with
 |none=>rw[e] at b;exact H.live a b
 |some q=>
  obtain⟨x,z,ds⟩:=q;rw[e] at b;rcases ao.mp b with f|b
  .rw[f];obtain⟨n,c,d,g⟩:=(H.own _ _ _ e).items;rw[d];rfl
  .exact H.live a b
theorem b0.nocell{w:aq}{ts:Tb}{env:Env}{X:List Addr}{oa:Addr}{st:St}{h:Heap}(H:b0 w ts env X oa st h){x:Str}{c:Addr}(e:env.cells.lookup x=some c):c∉fG ts/\c≠dM:=by obtain⟨v,o,d,a⟩:=H.cel _ _ e;refine⟨λb=>?_,H.base.notPL' d λps q=>by rw[a] at q;cases q⟩;have f:=H.obs.dict b;clear b;obtain⟨⟨es,n,b⟩,g⟩:=f;rw[b] at d;cases d;cases a
theorem b0.noloc{w:aq}{ts:Tb}{env:Env}{X:List Addr}{oa:Addr}{st:St}{h:Heap}(H:b0 w ts env X oa st h):env.locals≠dM:=by obtain⟨m,o,es,ep,b,a,c⟩:=H.loc;exact H.base.notPL' b λps q=>by rw[a] at q;cases q
theorem b0.ownoff{w:aq}{ts:Tb}{env:Env}{X:List Addr}{oa:Addr}{st:St}{h:Heap}(H:b0 w ts env X oa st h){x:Nm}{z:Option Nm}{ds:List D}(e:st.ow=some (x,z,ds)):oa∉fG ts/\oa≠dM:=by obtain⟨n,b,c,f⟩:=(H.own _ _ _ e).items;refine⟨λa=>?_,H.base.notPL c λq=>by cases q⟩;have d:=H.obs.dict a;clear a;obtain⟨⟨es,n,a⟩,f⟩:=d;exact aK (aU Obj.cls (ag (c.symm.trans a))) (by show ¬(ai.type "list"=ai.type _);decide)
theorem b0.kp{w:aq}{ts:Tb}{env:Env}{X:List Addr}{oa:Addr}{st:St}{s s':af}(H:b0 w ts env X oa st s.heap)(k:Kp ts s s')(B:cT w s'.heap){ob:List Ob}(O:gc w (bJ (st.hid X oa) s'.heap) ts s'.heap ob):
 b0 w ts env X oa ⟨st.v,st.ow,ob⟩ s'.heap where
 base:=B
 vars:=λx d e=>let⟨v,a,b⟩:=H.vars x d e;⟨v,a.keep (λo f=>k.get f H.off H.noloc) (λc o g f=>k.get f (H.nocell g).1 (H.nocell g).2),b.mon (k.mon H.base H.obs _)⟩
 own:=λx z ds e=>by
  have j:st.ow=some (x,z,ds):=e;have O:=H.own _ _ _ j;refine⟨O.var.keep (λo f=>k.get f H.off H.noloc) (λc o g f=>k.get f (H.nocell g).1 (H.nocell g).2),λy A=>?_,?_,O.off,O.new⟩
  .obtain⟨m,o,a,b,c⟩:=O.app y A;refine⟨m,o,a.keep (λo f=>k.get f H.off H.noloc) (λc o g f=>k.get f (H.nocell g).1 (H.nocell g).2),k.get b (λh=>?_) (H.base.notPL b (by rw[c];exact λq=>by cases q)),c⟩;have C:=H.obs.dict h;clear h;obtain⟨⟨es,n,h⟩,p⟩:=C;obtain rfl:=ag (b.symm.trans h);exact aK (aU Obj.cls c) (by show ¬(ai.type "dict"=ai.type _);decide)
  .obtain⟨n,i,a,l,b⟩:=O.items;exact⟨n,i,k.get a (H.ownoff j).1 (H.ownoff j).2,l,b.mon (k.mon H.base H.obs _)⟩
 obs:=O
 loc:=let⟨m,o,es,ep,f,r⟩:=H.loc;⟨m,o,es,ep,k.get f H.off H.noloc,r⟩
 cel:=λx c e=>let⟨v,o,f,r⟩:=H.cel x c e;⟨v,o,k.get f (H.nocell e).1 (H.nocell e).2,r⟩
 off:=H.off
 live:=λa u=>by
  obtain⟨o,f⟩:=ax.mp (H.live a u);by_cases h:a∈fG ts
  .obtain⟨⟨es,n,e⟩,p⟩:=O.dict h;rw[e];rfl
  .by_cases t:a=dM
   .subst t;obtain⟨p,j,p⟩:=B.lam;rw[j];rfl
   .rw[k.get f h t];rfl
theorem gc.keep{w:aq}{X:List Addr}{ts:Tb}{h h':Heap}{ob:List Ob}(O:gc w (bJ X h) ts h ob)(k:∀b o,h.get? b=some o->h'.get? b=some o):gc w (bJ X h') ts h' ob:=
 ⟨O.len,λi o p a b=>let y:=O.each i o p a b;⟨k _ _ y.inst,(let⟨es,n,e,r⟩:=y.dict;⟨es,n,k _ _ e,r.mon (gp k)⟩),y.new⟩,O.nodup⟩
theorem b0.keep{w:aq}{ts:Tb}{env:Env}{X:List Addr}{oa:Addr}{st:St}{s s':af}(H:b0 w ts env X oa st s.heap)(k:Keeps s s')(t:s.toks<=s'.toks):b0 w ts env X oa st s'.heap:=by have:=H.kp (dF k t) (ob:=st.ob) (by obtain⟨h',tk,rfl,k⟩:=k;exact H.base.keeps k) (by obtain⟨h',tk,rfl,k⟩:=k;exact H.obs.keep k);exact this
structure bC(w:aq)(env:Env)(sc:Sc):Prop where
 k:env.scope.kind=.function
 names:env.scope.names=sc
 g:env.globals=mainGlobals
 b:env.builtins=builtinsNs
 apart:∀x y c,env.cells.lookup x=some c->env.cells.lookup y=some c->x=y
 has:∀x,(env.kindOf x=some .cell\/env.kindOf x=some .free)->∃c,env.cells.lookup x=some c
 newL:(hT w.params).get? env.locals=none
 newC:∀x c,env.cells.lookup x=some c->(hT w.params).get? c=none
 lam:kd sc g8≠none->env.code=.ref 189
structure eq(A:aL)(k:Nat):Prop where
 h:A.handled=none
 d:A.depth+k<recursionLimit
 u:A.units+8*k+40<cLine
structure eO(A:aL)(k:Nat):Prop where
 h:A.handled=none
 d:A.depth+k<recursionLimit
 u:A.units+8*k+35<cLine
theorem eq.one{A:aL}{k:Nat}(h:eq A k):eO A k:=⟨h.h,h.d,by have:=h.u;exact ir this⟩
theorem eq.in1{A:aL}{k:Nat}(h:eq A k):eO A.in1 k:=⟨h.h,h.d,by have:=h.u;show A.units+1+8*k+35<cLine;exact ir this⟩
theorem eO.le{A:aL}{k a:Nat}(h:eO A a)(l:k<=a):eO A k:=⟨h.h,by have:=h.d;exact aS (Nat.add_le_add_left l _) this,by have:=h.u;exact k9 (bc 8 l) this⟩
theorem na{g:Gx}{ts:Tb}{v:ai}{d:D}(h:ol d=true)(r:Rd g ts v d):handedIn v=true:=by cases r<;>first|rfl|cases h
theorem iW(env:Env)(x:Nm):env.kindOf (S x)=kd env.scope.names x:=by
 unfold Env.kindOf;generalize env.scope.names=l
 induction l with
 |nil=>rfl
 |cons p r a=>
  obtain⟨k,v⟩:=p;show List.lookup (S x) ((k,v)::r)=_;rw[List.lookup_cons,jh];by_cases e:bm k=x
  .rw[aH e];have:S x==k:=by rw[beq_iff_eq,<-e];rfl
   rw[this]
  .rw[av e];have:(S x==k)=false:=by rw[beq_eq_false_iff_ne];rintro rfl;exact e rfl
   rw[this];exact a
theorem bC.kind{w:aq}{env:Env}{sc:Sc}(h:bC w env sc)(x:Nm):env.kindOf (S x)=kd sc x:=by rw[iW,h.names]
section
variable(w:aq)(ts:Tb)(env:Env)(X:List Addr)(oa:Addr)
structure PE(st st':St)(s:af)(d:D)(v:ai)(s':af):Prop where
 rd:Rd (bJ (st'.hid X oa) s'.heap) ts v d
 hs:b0 w ts env X oa st' s'.heap
 kp:Kp ts s s'
 shr:jD st st'
structure PB(st st':St)(s:af)(c:Bool)(b:Bool)(s':af):Prop where
 rd:b=c
 hs:b0 w ts env X oa st' s'.heap
 kp:Kp ts s s'
 shr:jD st st'
structure PL(st st':St)(s:af)(ds:List D)(vs:List ai)(s':af):Prop where
 rd:dj (bJ (st'.hid X oa) s'.heap) ts vs ds
 hs:b0 w ts env X oa st' s'.heap
 kp:Kp ts s s'
 shr:jD st st'
end
def bM:ai->af->Prop:=λa a=>False
abbrev RV(Q:ai->af->Prop)(r:Result)(s:af):Prop:=match r with
 |.ok (.ret v)=>Q v s
 |.ok _=>False
 |.error e=>bM e s
theorem RV.mono{Q a:ai->af->Prop}{r:Result}{s:af}(h:RV Q r s)(k:∀v,Q v s->a v s):RV a r s:=by rcases r with e|(v|_|_|_)<;>first|exact k _ h|exact h.elim
theorem PE.toks{w:aq}{ts:Tb}{env:Env}{X:List Addr}{oa:Addr}{st st':St}{s:af}{d:D}{v:ai}{s':af}(p:PE w ts env X oa st st' s d v s')(h:0<s.toks):0<s'.toks:=aI h p.kp.toks
theorem PB.toks{w:aq}{ts:Tb}{env:Env}{X:List Addr}{oa:Addr}{st st':St}{s:af}{d:Bool}{v:Bool}{s':af}(p:PB w ts env X oa st st' s d v s')(h:0<s.toks):0<s'.toks:=aI h p.kp.toks
theorem PL.toks{w:aq}{ts:Tb}{env:Env}{X:List Addr}{oa:Addr}{st st':St}{s:af}{d:List D}{v:List ai}{s':af}(p:PL w ts env X oa st st' s d v s')(h:0<s.toks):0<s'.toks:=aI h p.kp.toks
theorem Rd.on{w:aq}{ts:Tb}{env:Env}{X:List Addr}{oa:Addr}{st st':St}{s s':af}{v:ai}{d:D}(r:Rd (bJ (st.hid X oa) s.heap) ts v d)(H:b0 w ts env X oa st s.heap)(k:Kp ts s s')(h:jD st st'):
 Rd (bJ (st'.hid X oa) s'.heap) ts v d:=(r.mon (k.mon H.base H.obs _)).mon (zQ h)
theorem di{s:af}(k:Nat):Keeps s {s with toks:=k}:=⟨_,_,rfl,λa a e=>e⟩
theorem dc(s:af):Keeps s s:=⟨_,_,rfl,λa a e=>e⟩
theorem jk{s:af}(o:Obj):Keeps s {s with heap:=s.heap.push o}:=⟨_,_,rfl,λa a e=>aA _ e⟩
theorem DD{s:af}(o:Obj)(k:Nat):Keeps s {s with heap:=s.heap.push o,toks:=k}:=⟨_,_,rfl,λa a e=>aA _ e⟩
theorem pT{s s' c:af}(a:Keeps s s')(b:Keeps s' c):Keeps s c:=by obtain⟨h,t1,rfl,f⟩:=a;obtain⟨d,t2,rfl,g⟩:=b;exact⟨d,t2,rfl,λb o e=>g b o (f b o e)⟩
theorem nf{X:List Addr}{s s':af}(k:Keeps s s'):gT (bJ X s.heap) (bJ X s'.heap):=by obtain⟨h',t,rfl,k⟩:=k;exact gp k
theorem gq(x y:List Nat):S x++S y=S (x++y):=by show Str.mk (⟨x⟩++⟨y⟩)=Str.mk ⟨x++y⟩;simp
theorem c8(x:List Nat):(S x).length=x.length:=rfl
theorem bu:sizeLine=br:=by unfold sizeLine;decide
theorem DE{i:Int}(h:II i=true):Builtin.Int.intBits i<=64:=by unfold II at h;simp only[bf,decide_eq_true_eq] at h;exact intBits_le_64 (by omega) (by omega)
abbrev KQ(X:List Addr)(ts:Tb)(d:D)(s:af)(Q:ai->af->Prop):Prop:=∀v s',Rd (bJ X s'.heap) ts v d->Keeps s s'->Q v s'
theorem ng{X:List Addr}{h:Heap}{o:Obj}(b:∀a∈X,(h.get? a).isSome=true):bJ X (h.push o) h.objs.size=(h.push o).get? h.objs.size:=by unfold bJ;rw[av];intro c;obtain⟨d,e⟩:=ax.mp (b _ c);exact aK (Heap.lt_size e) (Nat.lt_irrefl _)
section
variable{w:aq}{A:aL}{s:af}{X:List Addr}{ts:Tb}{Q:ai->af->Prop}
theorem si(x:List Nat):∀(n:Nat) (a:Array Nat),((List.replicate n (⟨x⟩:Array Nat)).foldl (·++·) a)=⟨a.toList++(List.replicate n x).flatten⟩
 |0,a=>by simp
 |n+1,a=>by rw[List.replicate_succ,List.foldl_cons,si x n,List.replicate_succ,List.flatten_cons];simp
theorem ou:∀n:Nat,(List.replicate n ([]:List Nat)).flatten=[]
 |0=>rfl
 |n+1=>by rw[List.replicate_succ,List.flatten_cons,ou n];rfl
set_option tactic.hygienic true in
theorem IQ(x:List Nat)(j:Int):Txt.mul (S x) j=S (List.replicate j.toNat x).flatten:=by
 unfold Txt.mul;by_cases h:j<1
 .rw[aH h];have:j.toNat=0:=by omega
  rw[this];rfl
 .rw[av h]
  split
  .rename_i a;rw[Bool.or_eq_true] at a;rcases a with a|a
   .rw[beq_iff_eq] at a;subst a;show S x=S (List.replicate 1 x).flatten;simp
   .rw[beq_iff_eq,c8] at a;have:x=[]:=List.eq_nil_of_length_eq_zero a;subst this;rw[ou]
  .show Str.mk ((List.replicate j.toNat (⟨x⟩:Array Nat)).foldl (·++·) #[])=_;rw[si];rfl
theorem md(x:List Nat):∀n:Nat,(List.replicate n x).flatten.length=n*x.length
 |0=>by simp
 |n+1=>by rw[List.replicate_succ,List.flatten_cons,ae,md x n,Nat.succ_mul,Nat.add_comm]
theorem IR{x:List Nat}{j:Int}{t u:Tok}(b:0<=j)(g:(x.length+1)*j.toNat<=br)(k:KQ X ts (.str (List.replicate j.toNat x).flatten) s Q):an (model pw w) A (binaryOp .Mult (.str (S x) t) (.int j u)) Q bM s:=by
 have l:br=16777216:=rfl;have e:(x.length+1)*j.toNat=x.length*j.toNat+j.toNat:=Nat.succ_mul _ _;have f:j.toNat<=16777216:=by omega
 refine SB.mul ⟨?_,λd a=>?_,λa a=>?_⟩ (λt' m=>?_)
 .rw[Bool.or_eq_false_iff];exact⟨aG (by omega),aG (by omega)⟩
 .rw[c8];have c:(x.length:Int)*j<=2^63-1:=by
   have h:x.length*j.toNat<=16777216:=by omega
   have i:((x.length*j.toNat:Nat):Int)=(x.length:Int)*j:=by rw[Int.natCast_mul,Int.toNat_of_nonneg b]
   omega
  have:=(Int.le_ediv_iff_mul_le (by exact Int.not_lt.mp d:0<j)).mpr c;exact Int.not_lt.mpr this
 .show decide (_>sizeLine)=false;rw[c8,bu];exact aG (by omega)
 .rw[IQ];refine k _ _ (.str _ _ ?_) (di _);rw[md,Nat.mul_comm];omega
set_option tactic.hygienic true in
theorem N7{op:Operator}{i j:Int}{t u:Tok}{d:D}(h:(Di op i j).run=some d)(k:KQ X ts d s Q):an (model pw w) A (binaryOp op (.int i t) (.int j u)) Q bM s:=by
 cases op<;>first|exact cX h|skip
 case Add=>cases h;exact add_int (k _ _ (.int _ _) (di _))
 case Sub=>cases h;exact sub_int (k _ _ (.int _ _) (di _))
 case Mult=>
  refine ct h ?_;clear h;intro a h;cases h;exact mul_int (k _ _ (.int _ _) (di _)) (IntMulOk.of_left (DE (Bool.and_eq_true_iff.mp a).1))
 case Mod=>
  refine ct h ?_;clear h;intro a h;cases h;have b:0<j:=ar a;refine mod_int' (by exact λq=>aK (q▸b) (by decide)) ?_;rw[Int.fmod_eq_emod_of_nonneg _ (by exact Int.le_of_lt b)];exact k _ _ (.int _ _) (di _)
 case FloorDiv=>
  refine ct h ?_;clear h;intro a h;cases h;simp only[bf,decide_eq_true_eq] at a;refine floordiv_int (by exact λq=>aK (q▸a) (by decide)) ?_ ?_
  .rw[Int.fdiv_eq_ediv_of_nonneg _ (by omega)];exact k _ _ (.int _ _) (di _)
  .exact .inl (PyProof.noPylong_small (by omega))
 case Pow=>
  refine ct h ?_;clear h;intro a h;cases h;simp only[bf,decide_eq_true_eq] at a;have c:=intBits_le_64 (k:=i) (by omega) (by omega);refine pow_int (by exact a.1.2) ?_ (k _ _ (.int _ _) (di _));have e:((Builtin.Int.intBits i:Nat):Int)*j<=64*4:=Int.mul_le_mul (by exact Int.ofNat_le.mpr c) (by omega) (by exact a.1.2) (by exact aX _);omega
theorem DF{x y:List Nat}{t u:Tok}(a:x.length+y.length<=br)(k:KQ X ts (.str (x++y)) s Q):an (model pw w) A (binaryOp .Add (.str (S x) t) (.str (S y) u)) Q bM s:=by refine SB.add (λt' b=>?_) (by rw[c8,c8,bu];exact a);rw[gq];exact k _ _ (.str _ _ (by rw[ae];exact a)) (di _)
theorem Bl{x y:List D}{j l:ai}(h:x.length+y.length<=br)(r:Rd (bJ X s.heap) ts j (.list x))(t:Rd (bJ X s.heap) ts l (.list y))(q:∀a∈X,(s.heap.get? a).isSome=true)(k:KQ X ts (.list (x++y)) s Q):an (model pw w) A (binaryOp .Add j l) Q bM s:=by
 obtain⟨a,vs,n,rfl,o,c,f⟩:=rA r;obtain⟨b,ws,m,rfl,p,c,g⟩:=rA t;obtain⟨i,c⟩:=bT o;obtain⟨d,c⟩:=bT p;rw[<-f.length,<-g.length,aM,aM] at h;refine concat_meets ⟨_,i,rfl⟩ ⟨_,d,rfl⟩ noFill_list_add seq_list_add PySem.F.slot_list_add PySem.F.entry_list_add (PySem.F.args_list_add_2 _ _) (list_addW a b vs ws n m none none #[] #[] (by rw[bu];exact h)) ⟨i,d,?_⟩;refine k _ _ (.list (vs:=vs++ws) (n:=0) ?_ (by rw[Array.size_append];exact h) ?_) (jk _)
 .rw[ng q];exact aT _ rfl
 .rw[Array.toList_append];exact((f.mon (gp λc c e=>aA _ e))).append (g.mon (gp λc c e=>aA _ e))
theorem IT{op:Operator}{d1 d2 d:D}{G:Prop}(h:(pE op d1 d2).run=some d)(f:∀i j,d1=.int i->d2=.int j->(Di op i j).run=some d->G)
 (g:∀x j,op=.Mult->d1=.str x->d2=.int j->(decide (0<=j)&&decide ((x.length+1)*j.toNat<=br))=true->d=.str (List.replicate j.toNat x).flatten->G)
 (k:∀x y,op=.Add->d1=.str x->d2=.str y->x.length+y.length<=br->d=.str (x++y)->G)(l:∀x y,op=.Add->d1=.list x->d2=.list y->x.length+y.length<=br->d=.list (x++y)->G):G:=by
 unfold pE at h;cases eb:lS d2 with
 |some j=>
  rw[eb] at h;cases c:lS d1 with
  |some i=>rw[c] at h;exact f i j (gD c) (gD eb) h
  |none=>
   rw[c] at h;cases op<;>first|exact cX h|skip
   cases ex:je d1 with
   |none=>rw[ex] at h;exact cX h
   |some x=>rw[ex] at h;exact ct h λb h=>g x j rfl (d9 ex) (gD eb) b (ag h).symm
 |none=>
  rw[eb] at h;cases op<;>first|exact cX h|skip
  dsimp only at h;cases ex:je d1 with
  |some x=>
   rw[ex] at h;dsimp only at h;cases a:je d2 with
   |none=>rw[a] at h;exact cX h
   |some y=>rw[a] at h;exact ct h λb h=>k x y rfl (d9 ex) (d9 a) (ar b) (ag h).symm
  |none=>
   rw[ex] at h;dsimp only at h;cases e:rZ d1 with
   |none=>rw[e] at h;exact cX h
   |some x=>
    rw[e] at h;dsimp only at h;cases a:rZ d2 with
    |none=>rw[a] at h;exact cX h
    |some y=>rw[a] at h;exact ct h λb h=>l x y rfl (gE e) (gE a) (ar b) (ag h).symm
theorem sj{op:Operator}{d1 d2 d:D}{n o:ai}(h:(pE op d1 d2).run=some d)(b:Rd (bJ X s.heap) ts n d1)(c:Rd (bJ X s.heap) ts o d2)(q:∀a∈X,(s.heap.get? a).isSome=true)(k:KQ X ts d s Q):
 an (model pw w) A (binaryOp op n o) Q bM s:=by
 refine IT h (λi j f g h=>?_) (λx j e f g l m=>?_) (λx y e f g l m=>?_) λx y e f g l m=>?_
 .rw[f] at b;rw[g] at c;obtain⟨t,rfl⟩:=Bk b;obtain⟨u,rfl⟩:=Bk c;exact N7 h k
 .rw[f] at b;rw[g] at c;rw[m] at k;obtain⟨t,rfl,p⟩:=m9 b;obtain⟨u,rfl⟩:=Bk c;rw[e];simp only[bf,decide_eq_true_eq] at l;exact IR l.1 l.2 k
 .rw[f] at b;rw[g] at c;rw[m] at k;obtain⟨t,rfl,p⟩:=m9 b;obtain⟨u,rfl,p⟩:=m9 c;rw[e];exact DF l k
 .rw[f] at b;rw[g] at c;rw[m] at k;rw[e];exact Bl l b c q k
end
theorem sk(x y:List Nat):(S x==S y)=cr x y:=by
 rw[Bool.eq_iff_iff,beq_iff_eq,eC];constructor
 .intro h;exact aU (λs=>s.cps.toList) h
 .rintro rfl;rfl
theorem pU{f:D->D->Bool}:∀(xs ys:List D),xs.length=ys.length->gM f xs ys=(List.range xs.length).all λj=>f (xs.getD j .none) (ys.getD j .none)
 |[],[],_=>rfl
 |x::xs,y::ys,h=>by
  have h':xs.length=ys.length:=by simpa using h
  show(f x y&&gM f xs ys)=_;rw[pU xs ys h',aC,List.range_succ_eq_map,List.all_cons,List.all_map];rfl
theorem pV{f:D->D->Bool}:∀(xs ys:List D),xs.length≠ys.length->gM f xs ys=false
 |[],_::_,_=>rfl
 |_::_,[],_=>rfl
 |[],[],h=>aK rfl h
 |x::xs,y::ys,h=>by
  have h':xs.length≠ys.length:=by simpa using h
  show(f x y&&gM f xs ys)=false;rw[pV xs ys h',Bool.and_false]
theorem dj.at{g:Gx}{ts:Tb}{a:Array ai}{ds:List D}(r:dj g ts a.toList ds){j:Nat}(h:j<a.size):Rd g ts a[j] (ds.getD j .none):=by
 have c:=r.length;rw[aM] at c;have b:ds[j]?=some (ds[j]'(c▸h)):=aD _;obtain⟨v,d,e⟩:=r.get j _ b;rw[List.getD_eq_getElem?_getD,b];have:v=a[j]:=by rw[Array.getElem?_toList,Array.getElem?_eq_getElem h] at d;exact(ag d).symm
 exact this▸e
theorem jN{ds:List D}{j:Nat}(h:j<ds.length):ds.getD j .none∈ds:=by rw[List.getD_eq_getElem?_getD,aD h];exact List.getElem_mem _
theorem gf{n:Nat}{d:D}(h:fF n d=true):iv d=true\/∃ds m,d=.list ds/\n=m+1/\oR (fF m) ds=true:=by
 cases n with
 |zero=>exact .inl h
 |succ n=>cases d<;>first|exact .inl h|exact .inr ⟨_,_,rfl,rfl,h⟩
theorem sq(d:D)(h:iv d=true):iJ d d=true:=by cases d<;>first|exact(ab h).elim|rfl|exact g7 _|exact beq_self_eq_true _
theorem DG:∀(n:Nat) (d:D),fF n d=true->io n d d=true:=by
 intro n
 induction n with
 |zero=>intro d h;exact sq d h
 |succ n g=>
  have all:∀ds:List D,oR (fF n) ds=true->gM (io n) ds ds=true:=by
   intro ds
   induction ds with
   |nil=>intro j;rfl
   |cons d r b=>intro h;refine bx h λc e=>?_;show(io n d d&&gM (io n) r r)=true;rw[g d c,b e];rfl
  intro d h;rcases gf h with f|⟨ds,m,rfl,i,a⟩
  .cases d<;>first|exact(ab f).elim|exact sq _ f
  .exact all ds h
theorem ci{g:Gx}{ts:Tb}{v:ai}{d:D}{G:ai->D->Prop}(r:Rd g ts v d)(e:iv d=true)(a:G .none .none)(c:∀b,G (.bool b) (.bool b))(f:∀i t,G (.int i t) (.int i))(h:∀x t,G (.str (S x) t) (.str x)):G v d:=by
 replace r:=g9 r;rcases d with⟨⟩<;>first|exact(ab e).elim|skip
 .exact(show v=.none from r)▸a
 .exact(show v=_ from r)▸c _
 .obtain⟨t,q⟩:=r;rw[q];exact f _ t
 .obtain⟨t,q,j⟩:=r;rw[q];exact h _ t
theorem xW{a b:ai}{G:Prop}(h:a=b)(n:Nat.beq a.ctorIdx b.ctorIdx=false):G:=by rw[h,Nat.beq_refl] at n;exact(ab n.symm).elim
theorem pW{g:Gx}{ts:Tb}{v:ai}{d:D}{a:Addr}(r:Rd g ts v d)(f:iv d=true)(e:v=.ref a):False:=
 ci (G:=λv b=>v=.ref a->False) r f (λq=>xW q rfl) (λb q=>xW q rfl) (λb b q=>xW q rfl) (λb b q=>xW q rfl) e
theorem vF{g:Gx}{ts:Tb}{d1 d2:D}{v:ai}(f:Rd g ts v d1)(h:Rd g ts v d2)(e:iv d1=true)(c:iv d2=true):d1=d2:=
 ci (G:=λv d1=>Rd g ts v d2->d1=d2) f e
  (λr=>ci (G:=λu d=>u=.none->D.none=d) r c (λa=>rfl) (λa q=>xW q rfl) (λa a q=>xW q rfl) (λa a q=>xW q rfl) rfl)
  (λb r=>ci (G:=λu d=>u=.bool b->D.bool b=d) r c (λq=>xW q rfl) (λa q=>aU D.bool (ai.bool.inj q).symm) (λa a q=>xW q rfl) (λa a q=>xW q rfl) rfl)
  (λi t r=>ci (G:=λu d=>u=.int i t->D.int i=d) r c (λq=>xW q rfl) (λa q=>xW q rfl) (λa a q=>aU D.int (ai.int.inj q).1.symm) (λa a q=>xW q rfl) rfl)
  (λx t r=>ci (G:=λu d=>u=.str (S x) t->D.str x=d) r c (λq=>xW q rfl) (λa q=>xW q rfl) (λa a q=>xW q rfl) (λa a q=>aU (λs:Str=>D.str (bm s)) (ai.str.inj q).1.symm) rfl) h
theorem dj.cons_inv{g:Gx}{ts:Tb}{vs:List ai}{d:D}{ds:List D}(r:dj g ts vs (d::ds)):∃v c,vs=v::c/\Rd g ts v d/\dj g ts c ds:=by cases r with|cons a b=>exact⟨_,_,rfl,a,b⟩
theorem zT{g:Gx}{ts:Tb}:∀(n:Nat) (d1 d2:D) (v:ai),Rd g ts v d1->Rd g ts v d2->fF n d1=true->fF n d2=true->d1=d2:=by
 intro n
 induction n with
 |zero=>exact λd1 d2 v f h j i=>vF f h j i
 |succ n I=>
  have z:∀(xs ys:List D) (vs:List ai),dj g ts vs xs->dj g ts vs ys->oR (fF n) xs=true->oR (fF n) ys=true->xs=ys:=by
   intro xs
   induction xs with
   |nil=>exact λys vs f h l l=>(List.eq_nil_of_length_eq_zero (h.length.symm.trans f.length)).symm
   |cons x xs w=>
    intro ys vs f h j i;cases ys with
    |nil=>exact aK (h.length.symm.trans f.length) (Nat.succ_ne_zero _).symm
    |cons y ys=>obtain⟨v,N,e,a,b⟩:=f.cons_inv;obtain⟨O,K,F,c,d⟩:=h.cons_inv;obtain⟨ev,G⟩:=List.cons.inj (e.symm.trans F);rw[<-ev] at c;rw[<-G] at d;exact bx j λp q=>bx i λr s=>by rw[I _ _ _ a c p r,w _ _ b d q s]
  intro d1 d2 v f h j i;rcases gf j with A|⟨E,M,m,_,_⟩
  .rcases gf i with u|⟨o,m2,k,_,_⟩
   .exact vF f h A u
   .rw[k] at h;obtain⟨a,vs,C,ev,l⟩:=rA h;exact(pW f A ev).elim
  .rcases gf i with u|⟨o,m2,k,_,_⟩
   .rw[m] at f;obtain⟨a,vs,C,ev,l⟩:=rA f;exact(pW h u ev).elim
   .rw[m] at f j⊢;rw[k] at h i⊢;obtain⟨a,vs,C,ev,H,l,m⟩:=rA f;obtain⟨L,vs',J,t,B,l,k⟩:=rA h;rw[<-ai.ref.inj (ev.symm.trans t)] at B;rw[<-(Data.seq.inj (aU Obj.data (ag (H.symm.trans B)))).1] at k;rw[z _ _ _ m k j i]
theorem cy{X:List Addr}{h:Heap}{a:Addr}{vs:Array ai}{n:Nat}(e:bJ X h a=some {cls:=.type "list",data:=.seq vs n}):h.IsList a vs:=⟨_,(bT e).1,rfl,_,rfl⟩
theorem DH{X:List Addr}{h:Heap}{a:Addr}{vs:Array ai}{n:Nat}(e:bJ X h a=some {cls:=.type "tuple",data:=.seq vs n}):h.IsTuple a vs:=⟨_,(bT e).1,rfl,_,rfl⟩
theorem sr{X:List Addr}{ts:Tb}{s:af}(A:aL)(d1 d2:D)(f a:ai)(h:Rd (bJ X s.heap) ts f d1)(e:Rd (bJ X s.heap) ts a d2)(g:iv d1=true)(d:iv d2=true):
 EqAt A s f a (iJ d1 d2):=
 ci (G:=λf d1=>EqAt A s f a (iJ d1 d2)) h g
  (ci (G:=λa d2=>EqAt A s .none a (iJ .none d2)) e d (EqAt.same _) EqAt.none_bool EqAt.none_int λc c=>EqAt.none_str _ _)
  (λb=>ci (G:=λa d2=>EqAt A s (.bool b) a (iJ (.bool b) d2)) e d (EqAt.bool_none b) (EqAt.bool_bool b) (EqAt.bool_int b) λc c=>EqAt.bool_str b _ _)
  (λi t=>ci (G:=λa d2=>EqAt A s (.int i t) a (iJ (.int i) d2)) e d (EqAt.int_none i t) (EqAt.int_bool i t) (EqAt.int_int i t) λc c=>EqAt.int_str i t _ _)
  (λx t=>ci (G:=λa d2=>EqAt A s (.str (S x) t) a (iJ (.str x) d2)) e d (EqAt.str_none _ t) (EqAt.str_bool _ t) (EqAt.str_int _ t) λy c=>(show EqAt A s _ _ (cr x y) from(sk x y)▸EqAt.str_str _ t _ _))
theorem pX{n:Nat}{d1 d2:D}(h:iv d1=true):io n d1 d2=iJ d1 d2:=by
 cases n with
 |zero=>rfl
 |succ n=>cases d1<;>first|exact(ab h).elim|rfl
theorem pY{n:Nat}{d1 d2:D}(h:iv d2=true):io n d1 d2=iJ d1 d2:=by
 cases n with
 |zero=>rfl
 |succ n=>cases d2<;>first|exact(ab h).elim|(cases d1<;>rfl)
theorem zU{X:List Addr}{ts:Tb}{s:af}:∀(n:Nat) (A:aL) (d1 d2:D) (h i:ai),Rd (bJ X s.heap) ts h d1->Rd (bJ X s.heap) ts i d2->fF n d1=true->fF n d2=true->A.units+n<cLine->
 EqAt A s h i (io n d1 d2):=by
 intro n
 induction n with
 |zero=>intro A d1 d2 h i e f w l _;exact sr A d1 d2 h i e f w l
 |succ n O=>
  intro A d1 d2 h i e f w l N;have b:A.units<cLine:=by exact aS (ba _ _) N
  rcases gf w with C|⟨v,Q,y,E,I⟩
  .rw[pX C];rcases gf l with z|⟨k,m2,r,x,B⟩
   .exact sr A d1 d2 h i e f C z
   .rw[r] at f⊢;obtain⟨a,vs,P,ev,g,c,q⟩:=rA f;rw[ev];exact ci (G:=λh d1=>EqAt A s h (.ref a) (iJ d1 (.list k))) e C (EqAt.none_list (cy g) b) (λc=>EqAt.bool_list _ (cy g) b) (λc c=>EqAt.int_list _ _ (cy g) b) λc c=>EqAt.str_list _ _ (cy g) b
  .rcases gf l with z|⟨k,m2,r,x,B⟩
   .rw[pY z];rw[y] at e⊢;obtain⟨a,vs,P,ev,g,c,q⟩:=rA e;rw[ev];exact ci (G:=λi d2=>EqAt A s (.ref a) i (iJ (.list v) d2)) f z (EqAt.list_none (cy g) b) (λc=>EqAt.list_bool _ (cy g) b) (λc c=>EqAt.list_int _ _ (cy g) b) λc c=>EqAt.list_str _ _ (cy g) b
   .rw[y] at e w⊢;rw[r] at f l⊢;rw[<-Nat.succ.inj E] at I;rw[<-Nat.succ.inj x] at B;obtain⟨t,F,R,m,J,c,y⟩:=rA e;obtain⟨u,H,S,o,K,c,r⟩:=rA f;by_cases p:t=u
    .rw[zT (n+1) _ _ h e (by rw[m,p,<-o];exact f) w l,DG (n+1) _ l,m,o,p];exact EqAt.same _
    .rw[m,o];refine EqAt.of_refs p ?_;have l1:=y.length;have l2:=r.length;rw[aM] at l1 l2;show RcAt A s _ _ (gM (io n) v k);by_cases d:F.size=H.size
     .rw[pU _ _ (l1.symm.trans (d.trans l2)),<-l1];exact RcAt.lists (cy J) (cy K) d b λj L M=>O A.in1 _ _ _ _ (y.at L) (r.at M) (iS I _ (jN (l1▸L))) (iS B _ (jN (l2▸M))) (by show A.units+1+n<cLine;exact by rw[Nat.succ_add];exact N)
     .rw[pV _ _ (by rw[<-l1,<-l2];exact d)];exact RcAt.lists_lengths (cy J) (cy K) (by simpa using d) b
theorem mf:∀(x y:List Nat),ip x y=true↔y.take x.length=x
 |[],y=>⟨λ_=>rfl,λ_=>rfl⟩
 |a::x,[]=>⟨λh=>(ab h).elim,λh=>nomatch h⟩
 |a::x,b::y=>by rw[NT,bf,mf x y,aC,List.take_succ_cons,List.cons.injEq];rw[show Nat.beq a b=true↔b=a from⟨λh=>(au h).symm,λh=>h▸Nat.beq_refl _⟩]
theorem vG(x:List Nat):∀(y:List Nat),d5 x y=true↔∃i,i+x.length<=y.length/\(y.drop i).take x.length=x
 |[]=>by
  constructor
  .intro h;replace h:x.isEmpty=true:=h;cases x with
   |nil=>exact⟨0,aF _,rfl⟩
   |cons=>cases h
  .rintro⟨i,h,_⟩;cases x with
   |nil=>rfl
   |cons=>exact aK h (Nat.not_succ_le_zero _)
 |b::y=>by
  rw[NU,Bool.or_eq_true,mf,vG x y];constructor
  .rintro(h|⟨i,a,c⟩)
   .refine⟨0,?_,by simpa using h⟩;have:=aU List.length h;rw[List.length_take] at this;have d:=Nat.min_le_right x.length (b::y).length;omega
   .exact⟨i+1,by rw[aC];exact ir a,by simpa using c⟩
  .rintro⟨i,a,c⟩;cases i with
   |zero=>exact .inl (by simpa using c)
   |succ i=>exact .inr ⟨i,by rw[aC] at a;exact ir a,by simpa using c⟩
theorem mh(x y:List Nat):Txt.contains (S y) (S x)=d5 x y:=by
 rw[Bool.eq_iff_iff,vG];unfold Txt.contains;rw[StrLaws.found_iff];constructor
 .rintro⟨i,b,a⟩;rw[StrLaws.subAt_eq,beq_iff_eq] at a;exact⟨i,b,a⟩
 .rintro⟨i,b,a⟩;refine⟨i,b,?_⟩;rw[StrLaws.subAt_eq,beq_iff_eq];exact a
def DI(A:aL)(s:af)(a c:ai)(b:Bool):Prop:=RcAt A s a c b/\RcNeAt A s a c (!b)
theorem Bm{X:List Addr}{ts:Tb}{s:af}(A:aL)(d1 d2:D)(f c:ai)(h:Rd (bJ X s.heap) ts f d1)(e:Rd (bJ X s.heap) ts c d2)(g:iv d1=true)(d:iv d2=true):DI A s f c (iJ d1 d2):=
 ci (G:=λf d1=>DI A s f c (iJ d1 d2)) h g
  (ci (G:=λc d2=>DI A s .none c (iJ .none d2)) e d ⟨RcAt.none_none,RcNeAt.none_none⟩ (λa=>⟨RcAt.none_bool _,RcNeAt.none_bool _⟩) (λa a=>⟨RcAt.none_int _ _,RcNeAt.none_int _ _⟩) λa a=>⟨RcAt.none_str _ _,RcNeAt.none_str _ _⟩)
  (λb=>ci (G:=λc d2=>DI A s (.bool b) c (iJ (.bool b) d2)) e d ⟨RcAt.bool_none _,RcNeAt.bool_none _⟩ (λa=>⟨RcAt.bool_bool _ _,RcNeAt.bool_bool _ _⟩) (λa a=>⟨RcAt.bool_int _ _ _,RcNeAt.bool_int _ _ _⟩) λa a=>⟨RcAt.bool_str _ _ _,RcNeAt.bool_str _ _ _⟩)
  (λi t=>ci (G:=λc d2=>DI A s (.int i t) c (iJ (.int i) d2)) e d ⟨RcAt.int_none _ _,RcNeAt.int_none _ _⟩ (λa=>⟨RcAt.int_bool _ _ _,RcNeAt.int_bool _ _ _⟩) (λa a=>⟨RcAt.int_int _ _ _ _,RcNeAt.int_int _ _ _ _⟩) λa a=>⟨RcAt.int_str _ _ _ _,RcNeAt.int_str _ _ _ _⟩)
  (λx t=>ci (G:=λc d2=>DI A s (.str (S x) t) c (iJ (.str x) d2)) e d ⟨RcAt.str_none _ _,RcNeAt.str_none _ _⟩ (λa=>⟨RcAt.str_bool _ _ _,RcNeAt.str_bool _ _ _⟩) (λa a=>⟨RcAt.str_int _ _ _ _,RcNeAt.str_int _ _ _ _⟩) λy a=>by show DI A s _ _ (cr x y);rw[<-sk];exact⟨RcAt.str_str _ _ _ _,RcNeAt.str_str _ _ _ _⟩)
theorem zV{X:List Addr}{ts:Tb}{s:af}(n:Nat)(A:aL)(d1 d2:D)(u v:ai)(l:Rd (bJ X s.heap) ts u d1)(m:Rd (bJ X s.heap) ts v d2)(O:fF n d1=true)(L:fF n d2=true)(I:A.units+n<cLine):DI A s u v (io n d1 d2):=by
 have b:A.units<cLine:=aS (ba _ _) I;rcases gf O with E|⟨f,r,t,o,N⟩
 .rw[pX E];rcases gf L with w|⟨e,m2,k,p,z⟩
  .exact Bm A d1 d2 u v l m E w
  .rw[k] at m⊢;obtain⟨a,vs,Q,ev,g,d,q⟩:=rA m;rw[ev];exact ci (G:=λu d1=>DI A s u (.ref a) (iJ d1 (.list e))) l E ⟨RcAt.none_list (cy g) b,RcNeAt.none_list (cy g) b⟩ (λd=>⟨RcAt.bool_list _ (cy g) b,RcNeAt.bool_list _ (cy g) b⟩) (λd d=>⟨RcAt.int_list _ _ (cy g) b,RcNeAt.int_list _ _ (cy g) b⟩) λd d=>⟨RcAt.str_list _ _ (cy g) b,RcNeAt.str_list _ _ (cy g) b⟩
 .rcases gf L with w|⟨e,m2,k,p,z⟩
  .rw[pY w];rw[t] at l⊢;obtain⟨a,vs,Q,ev,g,d,q⟩:=rA l;rw[ev];exact ci (G:=λv d2=>DI A s (.ref a) v (iJ (.list f) d2)) m w ⟨RcAt.list_none (cy g) b,RcNeAt.list_none (cy g) b⟩ (λd=>⟨RcAt.list_bool _ (cy g) b,RcNeAt.list_bool _ (cy g) b⟩) (λd d=>⟨RcAt.list_int _ _ (cy g) b,RcNeAt.list_int _ _ (cy g) b⟩) λd d=>⟨RcAt.list_str _ _ (cy g) b,RcNeAt.list_str _ _ (cy g) b⟩
  .rw[t] at l⊢;rw[k] at m⊢;have P:m2=r:=Nat.succ.inj (p.symm.trans o);rw[P] at z;rw[o] at I⊢;obtain⟨J,h,R,B,x,d,t⟩:=rA l;obtain⟨K,i,S,C,y,d,k⟩:=rA m;have l1:=t.length;have l2:=k.length;rw[aM] at l1 l2;rw[B,C];show DI A s _ _ (gM (io r) f e);by_cases c:h.size=i.size
   .rw[pU _ _ (l1.symm.trans (c.trans l2)),<-l1];have M:∀(j:Nat) (F:j<h.size) (H:j<i.size),EqAt A.in1 s h[j] i[j] (io r (f.getD j .none) (e.getD j .none)):=λj F H=>
     zU r A.in1 _ _ _ _ (t.at F) (k.at H) (iS N _ (jN (l1▸F))) (iS z _ (jN (l2▸H))) (by show A.units+1+r<cLine;exact by rw[Nat.succ_add];exact I)
    exact⟨RcAt.lists (cy x) (cy y) c b M,RcNeAt.lists (cy x) (cy y) c b M⟩
   .rw[pV _ _ (by rw[<-l1,<-l2];exact c)];exact⟨RcAt.lists_lengths (cy x) (cy y) (by simpa using c) b,RcNeAt.lists_lengths (cy x) (cy y) (by simpa using c) b⟩
theorem vH{d:D}:∀(ds:List D),jf d ds=ds.any λe=>deq e d
 |[]=>rfl
 |e::r=>by show(deq e d||jf d r)=_;rw[vH r];rfl
section
variable{w:aq}{A:aL}{s:af}{X:List Addr}{ts:Tb}{Q:ai->af->Prop}
theorem uu{o:List Addr}{a:Array ai}{ds:List D}{d:D}{v:ai}(q:dj (bJ o s.heap) ts a.toList ds)(r:Rd (bJ X s.heap) ts v d)(B:gT (bJ o s.heap) (bJ X s.heap))(z:eN d=true)(c:iT ds=true)(C:A.units+10<cLine):
 ∃e:ai->Bool,(∀y,y∈a->EqAt A.in1 s y v (e y))/\a.any e=jf d ds:=by
 classical
 let e:ai->Bool:=λy=>if h:∃b,eN b=true/\Rd (bJ X s.heap) ts y b then deq h.choose d else false
 have t:∀y b,eN b=true->Rd (bJ X s.heap) ts y b->e y=deq b d:=λy b f g=>by have m:∃b,eN b=true/\Rd (bJ X s.heap) ts y b:=⟨b,f,g⟩;show(if h:∃b,eN b=true/\Rd (bJ X s.heap) ts y b then deq h.choose d else false)=_;rw[dif_pos m,zT 5 _ _ _ m.choose_spec.2 g m.choose_spec.1 f]
 replace q:=q.mon B;refine⟨e,λy E=>?_,?_⟩
 .obtain⟨j,u,rfl⟩:=Array.mem_iff_getElem.mp E;have w:=q.length;rw[aM] at w;have x:=q.at u;have p:=iS c _ (jN (ds:=ds) (j:=j) (by exact Nat.lt_of_lt_of_eq u w));rw[t _ _ p x];exact zU 5 A.in1 _ _ _ _ x r p z (by show A.units+1+5<cLine;exact ir C)
 .rw[vH,<-Array.any_toList];clear r;generalize a.toList=l at q;have n:∀(l:List ai) (ds:List D),dj (bJ X s.heap) ts l ds->iT ds=true->l.any e=ds.any λe=>deq e d:=by
   intro l
   induction l with
   |nil=>intro ds q _;cases q;rfl
   |cons y l F=>
    intro ds q c;cases q with
    |cons f g=>exact bx c λi k=>by rw[List.any_cons,List.any_cons,t _ _ i f,F _ g k]
  exact n _ _ (q.mon (gT.refl _)) c
theorem x6{v:ai}{d:D}{g:Gx}(r:Rd g ts v d)(h:jg d=true):(v==ai.none)=false:=by cases r<;>first|exact(ab h).elim|assumption|rfl
theorem mi{f:Int->Int->Bool}{d1 d2:D}{b:Bool}{g k:ai}{G:Prop}(h:(Bf f d1 d2).run=some b)(d:Rd (bJ X s.heap) ts g d1)(e:Rd (bJ X s.heap) ts k d2)(q:∀i j t u,g=.int i t->k=.int j u->f i j=b->G):G:=by
 unfold Bf at h;cases a:lS d1 with
 |none=>rw[a] at h;exact cX h
 |some i=>
  rw[a] at h;dsimp only at h;cases c:lS d2 with
  |none=>rw[c] at h;exact cX h
  |some j=>rw[c] at h;rw[gD a] at d;rw[gD c] at e;obtain⟨t,l⟩:=Bk d;obtain⟨u,m⟩:=Bk e;exact q i j t u l m (ag h)
theorem DJ{g:Bool->Bool}{tp:Bool}{d1 d2:D}{b:Bool}{G:Prop}(h:(VP g tp d1 d2).run=some b)(i:∀x y,d1=.str x->d2=.str y->g (d5 x y)=b->G)
 (j:∀ds,d2=.list ds->eN d1=true->iT ds=true->g (jf d1 ds)=b->G)(k:∀ds,tp=true->d2=.tup ds->eN d1=true->iT ds=true->g (jf d1 ds)=b->G):G:=by
 unfold VP at h;cases e:je d2 with
 |some y=>
  rw[e] at h;dsimp only at h;cases ex:je d1 with
  |none=>rw[ex] at h;exact cX h
  |some x=>rw[ex] at h;exact i x y (d9 ex) (d9 e) (ag h)
 |none=>
  rw[e] at h;dsimp only at h;cases d:rZ d2 with
  |some ds=>rw[d] at h;exact ct h λf h=>bx f λa c=>j ds (gE d) a c (ag h)
  |none=>
   rw[d] at h;cases tp with
   |false=>exact cX h
   |true=>
    dsimp only at h;cases ep:Sj d2 with
    |none=>rw[ep] at h;exact cX h
    |some ds=>rw[ep] at h;exact ct h λf h=>bx f λa c=>k ds rfl (ul ep) a c (ag h)
theorem DK{d:D}{b c:Bool}{v:ai}(h:(match rD d with
 |true=>T.ret b
 |false=>T.chk (jg d) (.ret (!b))).run=some c)(r:Rd (bJ X s.heap) ts v d):(if v==ai.none then b else !b)=c:=by
 cases e:rD d with
 |true=>rw[e] at h;rw[lw e] at r;rw[VQ r];exact ag h
 |false=>rw[e] at h;refine ct h ?_;clear h;intro a h;rw[x6 r a];exact ag h
set_option tactic.hygienic true in
theorem su{op:CmpOp}{d1 d2:D}{b:Bool}{E J:ai}(h:(lU op d1 d2).run=some b)(m:Rd (bJ X s.heap) ts E d1)(d:Rd (bJ X s.heap) ts J d2)(B:A.units+10<cLine)(k:Q (.bool b) s):
 an (model pw w) A (compareOp op E J) Q bM s:=by
 cases op
 case Eq=>
  refine ct h λF G=>bx F λf c=>?_;rw[<-ag G] at k;exact(zV 5 A _ _ _ _ m d f c (by exact ir B)).1 pw w bM Q k
 case NotEq=>
  refine ct h λF G=>bx F λf c=>?_;rw[<-ag G] at k;exact(zV 5 A _ _ _ _ m d f c (by exact ir B)).2 pw w bM Q k
 case Lt=>exact mi h m d λi j t u f c l=>by rw[f,c];rw[<-l] at k;exact P.lt_int k
 case LtE=>exact mi h m d λi j t u f c l=>by rw[f,c];rw[<-l] at k;exact P.le_int k
 case Gt=>exact mi h m d λi j t u f c l=>by rw[f,c];rw[<-l] at k;exact P.gt_int k
 case GtE=>exact mi h m d λi j t u f c l=>by rw[f,c];rw[<-l] at k;exact P.ge_int k
 case Is=>
  cases c:rD d2 with
  |false=>replace h:(match rD d2 with|true=>(match rD d1 with|true=>T.ret true|false=>T.chk (jg d1) (.ret false))|false=>T.fail).run=some b:=h;rw[c] at h;exact cX h
  |true=>replace h:(match rD d2 with|true=>(match rD d1 with|true=>T.ret true|false=>T.chk (jg d1) (.ret false))|false=>T.fail).run=some b:=h;rw[c] at h;rw[lw c] at d;rw[VQ d];refine is_none ?_;have:=DK (b:=true) h m;cases H:E==ai.none<;>(rw[H] at this;rw[<-this] at k;exact k)
 case IsNot=>
  have h:(match rD d2 with|true=>(match rD d1 with|true=>T.ret false|false=>T.chk (jg d1) (.ret true))|false=>match Iy d1,Iy d2 with
   |some .str,some .str=>.ret false
   |some .int,some .int=>.ret false
   |_,_=>.fail).run=some b:=h
  cases c:rD d2 with
  |true=>rw[c] at h;rw[lw c] at d;rw[VQ d];refine isNot_none ?_;have:=DK (b:=false) h m;cases H:E==ai.none<;>(rw[H] at this;rw[<-this] at k;exact k)
  |false=>
   rw[c] at h;dsimp only at h;cases C:Iy d1 with
   |none=>rw[C] at h;exact cX h
   |some I=>
    cases p:Iy d2 with
    |none=>rw[C,p] at h;cases I<;>exact cX h
    |some K=>
     rw[C,p] at h;rw[um C] at m;rw[um p] at d;rw[N6 m,N6 d];cases I<;>first|exact cX h|skip
     all_goals (cases K<;>first|exact cX h|skip)
     all_goals (rw[<-ag h] at k;exact λo o o=>k)
 case In=>
  refine DJ (g:=id) (tp:=true) (d1:=d1) (d2:=d2) h (λx y f c l=>?_) (λds f c l r=>?_) λds o f c l r=>?_
  .rw[f] at m;rw[c] at d;rw[<-l] at k;obtain⟨t,rfl,o⟩:=m9 m;obtain⟨u,rfl,o⟩:=m9 d;refine SB.contains ?_;rw[mh];exact k
  .rw[f] at d;rw[<-r] at k;obtain⟨a,vs,n,rfl,g,o,q⟩:=rA d;obtain⟨e,z,v⟩:=uu (A:=A) q m (gT.refl _) c l B;exact in_listAt e (cy g) z (by rw[v];exact k)
  .rw[f] at d;rw[<-r] at k;obtain⟨a,vs,n,rfl,g,o,q⟩:=VR d;obtain⟨e,z,v⟩:=uu (A:=A) q m (gT.refl _) c l B;exact in_tupleAt e (DH g) z (by rw[v];exact k)
 case NotIn=>
  refine DJ (g:=not) (tp:=false) (d1:=d1) (d2:=d2) h (λx y f c l=>?_) (λds f c l r=>?_) λds e o o o o=>(ab e).elim
  .rw[f] at m;rw[c] at d;rw[<-l] at k;obtain⟨t,rfl,o⟩:=m9 m;obtain⟨u,rfl,o⟩:=m9 d;refine SB.notContains ?_;rw[mh];exact k
  .rw[f] at d;rw[<-r] at k;obtain⟨a,vs,n,rfl,g,o,q⟩:=rA d;obtain⟨e,z,v⟩:=uu (A:=A) q m (gT.refl _) c l B;exact notIn_listAt e (cy g) z (by rw[v];exact k)
end
abbrev N8:Obj:={cls:=.type "collections.deque",data:=.fields #[.none,.int 0 0]}
theorem IU:typeLookup (.type "collections.deque") "__bool__"=pure none:=by rw[typeLookup_type,builtinLookup_eq_fast];kernel_rfl
theorem jO:Slot "collections.deque" "__len__" "collections.deque.__len__":=
 .of (owner:="collections.deque") (n:="__len__") (by rw[typeLookup_type,builtinLookup_eq_fast];kernel_rfl) (by decide+kernel) (by decide+kernel) (by decide+kernel)
  (by first|exact .inl (by decide+kernel)|exact .inr (by decide+kernel)) (by rw[isSubtype_type];kernel_rfl)
theorem uv:entryFor table "collections.deque.__len__"=some Builtin.«collections.deque.__len__»:=entryFor_of_tree (by kernel_rfl)
theorem vI(a:ai):argsOk "collections.deque.__len__" ⟨[a],[]⟩:=by unfold argsOk;kernel_rfl
section
variable{w:aq}{A:aL}{R:Bool->af->Prop}{h:Heap}{g:Array GenState}{d:Drawn}{t:Nat}{os:OsState}{a:Addr}
theorem x7(e:h.get? a=some N8)(k:∀t',R false ⟨h,g,d,t',os⟩):an (model pw w) A (truthy (.ref a)) R bM ⟨h,g,d,t,os⟩:=by
 have hT:∀t',(⟨h,g,d,t',os⟩:af).TypeIs (.ref a) "collections.deque":=λj=>⟨_,e,rfl⟩;have f:=IU;have i:=jO.lookup;unfold truthy
 repeat (any_goals (first|assumption|exact hT _|wp_step))
 refine codeAny_builtin entry_len ?_;rw[aL.under_plainId plain_len _];unfold Builtin.«len»;have b:∀(Q:ai->af->Prop),(∀t',Q (.int 0 t) ⟨h,g,d,t',os⟩)->an (model pw w) A.in1 (call (.builtin "collections.deque.__len__") [.ref a]) Q bM ⟨h,g,d,t,os⟩:=λQ c=>by
  refine wpAny_call_entry jO (hT _) uv ?_ (vI _);unfold Builtin.«collections.deque.__len__»
  repeat (any_goals (first|assumption|exact hT _|wp_step))
  exact⟨_,rfl,c _⟩
 refine ah (m:=oneArg "len" _) (ay ?_);refine ah (m:=callSpecial? (.ref a) (Str.ofString "__len__")) (wpAny_callSpecial?_slot (name:=Str.ofString "__len__") (hT _) jO (b _ λt'=>?_))
 repeat (any_goals (first|assumption|exact hT _|wp_step))
 exact k _
end
theorem sv{α:Type}(x:List α)(a b:Nat)(c:b<=x.length):((PySem.sliceRange (a:Int) (b:Int) 1).filterMap (x[·]?))=cJ x a b:=by
 rw[sliceRange_one];by_cases h:a<=b
 .rw[StrLaws.picks x (b-a) a (by omega)];unfold cJ;rw[List.drop_take]
 .have e:b-a=0:=by omega
  rw[e];unfold cJ;rw[List.drop_eq_nil_of_le (by rw[List.length_take];omega)];rfl
theorem Ye{i:Int}{n:Nat}(h:0<=i):max 0 (min i (n:Int))=((min i.toNat n:Nat):Int):=by
 rw[Int.max_eq_right (Int.le_min.mpr ⟨h,aX n⟩)];rcases Int.le_total i n with q|q
 .rw[Int.min_eq_left q,Nat.min_eq_left (Int.toNat_le.mpr q),Int.toNat_of_nonneg h]
 .rw[Int.min_eq_right q,Nat.min_eq_right (Int.le_toNat h |>.mpr q)]
theorem YT{i:Int}{n:Nat}(h:i<=n):max 0 (min i (n:Int))=((i.toNat:Nat):Int):=by rw[Int.min_eq_left h,Int.max_comm];exact(Int.toNat_eq_max i).symm
theorem DL{i:Int}{n:Nat}(h:i<0):i+(n:Int)<=n:=by
 have:=Int.add_le_add_right (Int.le_of_lt h) (n:Int)
 rwa [Int.zero_add] at this
theorem S0(n:Nat):max 0 (min (0:Int) (n:Int))=0:=(Ye (Int.le_refl 0)).trans (by rw[show(0:Int).toNat=0 from rfl,Nat.zero_min];rfl)
theorem S1(n:Nat):max 0 (min (n:Int) (n:Int))=(n:Int):=by rw[Int.min_self,Int.max_eq_right (aX n)]
theorem vJ(n:Nat)(i:Int):max 0 (min (if i<0 then i+(n:Int) else i) (n:Int))=((fv n i:Nat):Int):=by
 unfold fv;by_cases h:i<0
 .rw[aH h,aH h];exact YT (DL h)
 .rw[av h,av h];exact Ye (Int.not_lt.mp h)
theorem N9(n:Nat)(i:Int):fv n i<=n:=by
 unfold fv;by_cases h:i<0
 .rw[aH h];exact Int.toNat_le.mpr (DL h)
 .rw[av h];exact Nat.min_le_right _ _
section
variable{w:aq}{A:aL}{s:af}{X:List Addr}{ts:Tb}{Q:ai->af->Prop}{R:Bool->af->Prop}
set_option tactic.hygienic true in
theorem jP{d:D}{b:Bool}{v:ai}(h:gB d=some b)(r:Rd (bJ X s.heap) ts v d)(k:∀s',Keeps s s'->R b s'):an (model pw w) A (truthy v) R bM s:=by
 have j:br=16777216:=rfl;cases r<;>try (exact cX h)
 case none=>cases h;exact λc c c=>k _ (dc _)
 case bool=>cases h;exact wpAny_truthy_bool (k _ (dc _))
 case int i t=>cases h;refine P.truthy_int ?_;rw[show(i != 0)=!decide (i=0) from by by_cases e:i=0<;>simp[e]];exact k _ (dc _)
 case str x t l=>
  cases h;refine P.truthy_str (by rw[c8];omega) ?_;rw[c8,show(((x.length:Nat):Int) != 0)=!x.isEmpty from by cases x<;>simp;omega];exact k _ (di _)
 case list a vs n ds g l q=>
  cases h;refine wpAny_truthy_list (cy g) (by omega) ?_;have:vs.isEmpty=ds.isEmpty:=by have:=q.length;rw[aM] at this;rw[Bool.eq_iff_iff,Array.isEmpty_iff_size_eq_zero,List.isEmpty_iff_length_eq_zero,this]
  rw[this];exact k _ (di _)
 case deq a g=>
  cases h;obtain⟨m,f,dr,tk,os⟩:=s;exact x7 (bT g).1 λt'=>k _ ⟨_,t',rfl,λc c e=>e⟩
set_option tactic.hygienic true in
theorem mj{b a:Expr}{o i:ai}{T id:String}(hT:s.TypeIs o T)(g:typeLookup (.type T) "__getitem__"=pure (some (.builtin id)))(h:an (model pw w) A (getItem o i) Q bM s):
 an (model pw w) A (subscriptTail b a o i) Q bM s:=by
 unfold subscriptTail;refine ah ?_;rw[getitemInPython_of_ne hT.not_modules];refine ah (wpAny_specialOf hT g ?_);have fin:an (model pw w) A (subscripted a false o i) (λr c=>an (model pw w) A (letTemporaryGo b o r>>=λf=>pure r) Q bM c) bM s:=by
  have h':an (model pw w) A (getItem o i) (λr c=>an (model pw w) A (letTemporaryGo b o r>>=λf=>pure r) Q bM c) bM s:=am h (λr c d=>ah (wpAny_letTemporaryGo (ay d))) λf f x=>x;have e:subscripted a false o i=operate [i,o] (getItem o i)\/subscripted a false o i=operate [o,i] (getItem o i):=by cases a<;>first|exact .inr rfl|(rename_i st _;cases st<;>first|exact .inl rfl|exact .inr rfl)
  rcases e with e|e<;>(rw[e];exact wpAny_operating h')
 first
  |exact ay (ah fin)
  |exact ah (ay (ah fin))
  |exact ah fin
theorem Bn{b a:Expr}{x:List Nat}{i:Int}{t u:Tok}(j:x.length<=br)(d:cL i x.length=true)(k:KQ X ts (.str [x.getD (gy i x.length) 0]) s Q):an (model pw w) A (subscriptTail b a (.str (S x) t) (.int i u)) Q bM s:=by
 have h:br=16777216:=rfl;unfold cL at d;simp only[bf,decide_eq_true_eq] at d;have f:gy i x.length<x.length:=by unfold gy;split<;>omega
 refine mj (typeIs_str s _ _) F.slot_str_getitem.lookup (P.getItem_str (c:=x.getD (gy i x.length) 0) ?_ ?_ (k _ _ (.str [_] _ (by show 1<=br;exact Nat.succ_pos _)) (di _)))
 .rw[Bool.or_eq_false_iff];exact⟨aG (by omega),aG (by omega)⟩
 .have e:PySem.seqIndex? i (S x).length=some (gy i x.length):=by
   unfold PySem.seqIndex? gy;rw[c8];by_cases g:i<0
   .simp only[g,if_true];rw[aH (by simp;omega)]
   .simp only[g,if_false];rw[aH (by simp;omega)]
  rw[e];show((⟨x⟩:Array Nat)[gy i x.length]?)=_;rw[List.getD_eq_getElem?_getD,aD f];simp[f]
theorem pZ{d c:Expr}{h:Gx}{a:Addr}{vs:Array ai}{n:Nat}{ds:List D}{i:Int}{u:Tok}(m:s.heap.get? a=some {cls:=.type "list",data:=.seq vs n})(p:vs.size<=br)(q:dj h ts vs.toList ds)(j:cL i ds.length=true)
 (k:∀v,Rd h ts v (ds.getD (gy i ds.length) .none)->Q v s):an (model pw w) A (subscriptTail d c (.ref a) (.int i u)) Q bM s:=by
 have o:br=16777216:=rfl;unfold cL at j;simp only[bf,decide_eq_true_eq] at j;have b:=q.length;rw[aM] at b;have f:gy i ds.length<vs.size:=by unfold gy;split<;>omega
 have g:s.heap.IsList a vs:=⟨_,m,rfl,_,rfl⟩;refine mj g.typeIs PySem.F.slot_list_getitem.lookup ?_;have l:vs[gy i ds.length]?=some (vs[gy i ds.length]):=Array.getElem?_eq_getElem f;by_cases e:i<0
 .refine wpAny_getItem_list_neg g e (by omega) (by omega) ?_ (k _ (q.at f));rw[<-l];unfold gy;rw[aH e,b]
 .refine wpAny_getItem_list g (by exact Int.not_lt.mp e) (by omega) ?_ (k _ (q.at f));rw[<-l];unfold gy;rw[av e]
theorem sw{d1 d2 d:D}{G:Prop}(h:(dA d1 d2).run=some d)(f:∀x i,d1=.str x->d2=.int i->cL i x.length=true->d=.str [x.getD (gy i x.length) 0]->G)(g:∀x i,d1=.list x->d2=.int i->cL i x.length=true->d=x.getD (gy i x.length) .none->G):G:=by
 refine bv h ?_;clear h;intro i c h;have b:=gD (bn c);cases ex:je d1 with
 |some x=>rw[ex] at h;exact ct h λa h=>f x i (d9 ex) b a (ag h).symm
 |none=>rw[ex] at h;exact bv h λx e h=>ct h λa h=>g x i (gE (bn e)) b a (ag h).symm
theorem vK{c b:Expr}{d1 d2 d:D}{y z:ai}(h:(dA d1 d2).run=some d)(f:Rd (bJ X s.heap) ts y d1)(j:Rd (bJ X s.heap) ts z d2)(k:KQ X ts d s Q):
 an (model pw w) A (subscriptTail c b y z) Q bM s:=by
 refine sw h (λx i m o p e=>?_) λx i m o p e=>?_
 .rw[m] at f;rw[o] at j;rw[e] at k;obtain⟨t,rfl,B⟩:=m9 f;obtain⟨u,rfl⟩:=Bk j;exact Bn B p k
 .rw[m] at f;rw[o] at j;rw[e] at k;obtain⟨a,vs,n,rfl,g,l,q⟩:=rA f;obtain⟨u,rfl⟩:=Bk j;exact pZ (bT g).1 l q p λv r=>k _ _ r (dc _)
set_option tactic.hygienic true in
theorem o6{n:Nat}{d:D}{v:ai}{a:Nat}{g:Gx}(h:Sk n d=some a\/NV n d=some a)(r:Rd g ts v d):∃p:Option (Int×Tok),v=partValue p/\IsPart v (p.map (·.1))/\
 (Sk n d=some a->max 0 (min (match p.map (·.1) with|none=>0|some i=>if i<0 then i+(n:Int) else i) (n:Int))=(a:Int))/\
 (NV n d=some a->max 0 (min (match p.map (·.1) with|none=>(n:Int)|some i=>if i<0 then i+(n:Int) else i) (n:Int))=(a:Int)):=by
 cases r<;>first|(rcases h with h|h<;>exact cX h)|skip
 case none=>exact⟨none,rfl,.none,λh=>by cases h;exact S0 n,λh=>by cases h;exact S1 n⟩
 case int i t=>exact⟨some (i,t),rfl,.int i t,λh=>by cases h;exact vJ n i,λh=>by cases h;exact vJ n i⟩
theorem Nf{n:Nat}{d:D}{a:Nat}(h:NV n d=some a):a<=n:=by
 cases d<;>try (exact cX h)
 .cases h;exact aF _
 .cases h;exact N9 _ _
set_option tactic.hygienic true in
theorem Bo{d c:Expr}{x:List Nat}{t:Tok}{o du:D}{v y:ai}{a b:Nat}(m:x.length<=br)(r:Sk x.length o=some a)(h:NV x.length du=some b)(E:Rd (bJ X s.heap) ts v o)(G:Rd (bJ X s.heap) ts y du)(k:KQ X ts (.str (cJ x a b)) s Q):
 an (model pw w) A (subscriptTail d c (.str (S x) t) (.ref s.heap.objs.size)) Q bM {s with heap:=s.heap.push {cls:=.type "slice",data:=.fields #[v,y,.none]}}:=by
 have I:br=16777216:=rfl;obtain⟨pl,rfl,J,z,H⟩:=o6 (.inl r) E;obtain⟨n,rfl,K,H,B⟩:=o6 (.inr h) G;refine mj (typeIs_str _ _ _) F.slot_str_getitem.lookup (wpAny_getItem_str_slice (l:=pl) (u:=n) (st:=none) ⟨_,aT _ rfl,rfl,rfl⟩ rfl ?_);have j:=Nf h;have e:(slicePicked (S x) pl n none)=sliceRange (a:Int) (b:Int) 1:=by
  unfold slicePicked PySem.Builtin.Str.strSliceIndices;rw[c8,<-z r,<-B h];show sliceRange _ _ 1=_;congr 1
  .cases pl with
   |none=>exact(S0 _).symm
   |some p=>rfl
  .cases n with
   |none=>exact(S1 _).symm
   |some p=>rfl
 unfold sliceMade;rw[e];have q:((sliceRange (a:Int) (b:Int) 1).filterMap ((S x).cps[·]?))=cJ x a b:=by rw[<-sv x a b j];show List.filterMap ((⟨x⟩:Array Nat)[·]?) _=_;congr 1;funext i;simp
 have g:(cJ x a b).length<=x.length:=by unfold cJ;rw[List.length_drop,List.length_take];exact aj (Nat.sub_le _ _) (Nat.min_le_right _ _)
 split
 .rename_i f;have f:(sliceRange (a:Int) (b:Int) 1).length=x.length:=by have:=(Bool.and_eq_true_iff.mp f).2;rw[c8] at this;exact eq_of_beq this
  have:cJ x a b=x:=by
   rw[sliceRange_one] at f;simp only[ak,List.length_range] at f;unfold cJ;by_cases C:x.length=0
   .rw[List.eq_nil_of_length_eq_zero C];simp
   .have:a=0:=by omega
    subst this;rw[List.drop_zero,List.take_of_length_le (by exact aO f.symm)]
  rw[this] at k;exact k _ _ (.str _ _ m) (jk _)
 .refine⟨?_,?_⟩
  .rw[q];show(cJ x a b).length<=sizeLine;rw[bu];exact aj g m
  .rw[q];exact k (.str (S (cJ x a b)) _) _ (.str _ _ (aj g m)) (DD _ _)
theorem x8{h f:Expr}{l:Addr}{vs:Array ai}{n:Nat}{ds:List D}{r du:D}{t u:ai}{a b:Nat}(g:bJ X s.heap l=some {cls:=.type "list",data:=.seq vs n})(ln:vs.size<=br)(q:dj (bJ X s.heap) ts vs.toList ds)(j:Sk ds.length r=some a)(m:NV ds.length du=some b)(I:Rd (bJ X s.heap) ts t r)(J:Rd (bJ X s.heap) ts u du)
 (C:∀a∈X,(s.heap.get? a).isSome=true)(k:KQ X ts (.list (cJ ds a b)) s Q):
 an (model pw w) A (subscriptTail h f (.ref l) (.ref s.heap.objs.size)) Q bM {s with heap:=s.heap.push {cls:=.type "slice",data:=.fields #[t,u,.none]}}:=by
 have L:br=16777216:=rfl;obtain⟨pl,rfl,F,v,K⟩:=o6 (.inl j) I;obtain⟨d,rfl,G,K,x⟩:=o6 (.inr m) J;have p:=Nf m;have c:=q.length;rw[aM] at c;refine mj ((cy g).push _).typeIs PySem.F.slot_list_getitem.lookup (wpAny_getItem_list_slice ((cy g).push _) (Heap.IsSliceOf.new ..) F G .none (by simp) ?_ (by rw[bu];exact ln));have e:slicePick vs (pl.map (·.1)) (d.map (·.1)) none=(cJ vs.toList a b).toArray:=by
  unfold slicePick;have:sliceRange (sliceBounds (pl.map (·.1)) (d.map (·.1)) none vs.size).1 (sliceBounds (pl.map (·.1)) (d.map (·.1)) none vs.size).2.1 (sliceBounds (pl.map (·.1)) (d.map (·.1)) none vs.size).2.2=sliceRange (a:Int) (b:Int) 1:=by
   have y:(sliceBounds (pl.map (·.1)) (d.map (·.1)) none vs.size).1=(a:Int):=by rw[<-v j,<-c];unfold sliceBounds;cases pl<;>simp<;>exact rfl
   have z:(sliceBounds (pl.map (·.1)) (d.map (·.1)) none vs.size).2.1=(b:Int):=by rw[<-x m,<-c];unfold sliceBounds;cases d<;>simp<;>omega
   have B:(sliceBounds (pl.map (·.1)) (d.map (·.1)) none vs.size).2.2=1:=rfl;rw[y,z,B]
  rw[this,<-sv vs.toList a b (by rw[aM,c];exact p)];congr 2;funext i;simp
 rw[e];have H:dj (bJ X s.heap) ts (cJ vs.toList a b) (cJ ds a b):=by unfold cJ;exact(q.take b).drop a
 refine k _ _ (.list (vs:=(cJ vs.toList a b).toArray) (n:=0) ?_ ?_ ?_) (pT (jk _) (jk _))
 .have:∀a∈X,(((s.heap.push {cls:=.type "slice",data:=.fields #[partValue pl,partValue d,.none]})).get? a).isSome=true:=λa j=>by obtain⟨o,E⟩:=ax.mp (C a j);rw[aA _ E];rfl
  rw[ng this];exact aT _ rfl
 .simp only[List.size_toArray];unfold cJ;rw[List.length_drop,List.length_take,aM];exact aj (Nat.sub_le _ _) (aj (Nat.min_le_right _ _) ln)
 .exact H.mon (nf (pT (jk _) (jk _)))
theorem vL{e c:Expr}{d1 m du d:D}{r u v:ai}(h:(pH d1 m du).run=some d)(f:Rd (bJ X s.heap) ts r d1)(o:Rd (bJ X s.heap) ts u m)(p:Rd (bJ X s.heap) ts v du)
 (z:∀a∈X,(s.heap.get? a).isSome=true)(k:KQ X ts d s Q):
 an (model pw w) A (subscriptTail e c r (.ref s.heap.objs.size)) Q bM {s with heap:=s.heap.push {cls:=.type "slice",data:=.fields #[u,v,.none]}}:=by
 unfold pH at h;cases ex:je d1 with
 |some x=>rw[ex] at h;rw[d9 ex] at f;obtain⟨t,rfl,B⟩:=m9 f;refine bv h ?_;clear h;intro a i h;refine bv h ?_;clear h;intro b j h;rw[<-ag h] at k;exact Bo B (bn i) (bn j) o p k
 |none=>rw[ex] at h;refine bv h ?_;clear h;intro x y h;refine bv h ?_;clear h;intro a i h;refine bv h ?_;clear h;intro b j h;rw[gE (bn y)] at f;rw[<-ag h] at k;obtain⟨l,vs,n,rfl,g,ln,q⟩:=rA f;exact x8 g ln q (bn i) (bn j) o p z k
end
structure WM(w:aq)(X:List Addr)(ts:Tb)(h:Heap)(I:Addr)(ds:List D)(h':Heap)(P:Nat->ai->Prop)(Sx:Nat->Heap->Prop)(fp:List Addr):Prop where
 walks:∀A':aL,A'.handled=none->Walks pw w A' I fp [I] ds.length P Sx
 start:Sx 0 h'
 low:∀b∈fp,b<h'.objs.size
 rd:∀i v d,P i v->ds[i]?=some d->Rd (bJ X h) ts v d
 new:h.get? I=none
 keep:∀b o,h.get? b=some o->h'.get? b=some o
 liveI:∀i h2,Sx i h2->∃o,h2.get? I=some o
 clsI:∀i h2 o,Sx i h2->h2.get? I=some o->o.cls≠.type "builtin_function_or_method"
 live:∀b∈fp,b=I\/∃o,h.get? b=some o/\b∉X/\(o.cls=.type "list"\/o.cls=.type "tuple"\/o.cls=.type "range")
theorem gh(h:Heap):h.get? h.objs.size=none:=by
 cases e:h.get? h.objs.size with
 |none=>rfl
 |some o=>exact aK (Heap.lt_size e) (Nat.lt_irrefl _)
section
variable{w:aq}{A:aL}{s:af}{X:List Addr}{ts:Tb}{Q:ai->af->Prop}
set_option tactic.hygienic true in
theorem p8{d:D}{ds:List D}{v:ai}(h:lV d=some ds)(r:Rd (bJ X s.heap) ts v d)(hh:A.handled=none)
 (k:∀h' tk P W Y,WM w X ts s.heap s.heap.objs.size ds h' P W Y->ds.length<=br->Q (.ref s.heap.objs.size) {s with heap:=h',toks:=tk}):an (model pw w) A (pyIter v) Q bM s:=by
 have Z:br=16777216:=rfl;cases r<;>try (exact cX h)
 case str x t l=>
  cases h;have e:(x.map λc=>D.str [c]).length=(S x).cps.size:=by rw[ak];rfl
  have M:∀(T:String) (R:∀F:aL,F.handled=none->Walks pw w F s.heap.objs.size [s.heap.objs.size] [s.heap.objs.size] (S x).cps.size (SignAt (S x)) (λi h=>h.IsStrIter s.heap.objs.size T (S x) t i)) (hT:ai.type T≠.type "builtin_function_or_method"),
   Q (.ref s.heap.objs.size) {s with heap:=s.heap.push {cls:=.type T,data:=.fields #[.str (S x) t,.int 0 0]}}:=λT R hT=>by
   refine k _ _ (SignAt (S x)) (λi h=>h.IsStrIter s.heap.objs.size T (S x) t i) [s.heap.objs.size] ⟨λF B=>by rw[e];exact R F B,⟨_,aT _ rfl,rfl,rfl⟩,λb j=>by rw[az.mp j,Heap.size_push];exact bh _,λi v d I y=>?_,gh _,λb o e=>aA _ e,λi G m=>(let⟨o,z,_⟩:=m;⟨o,z⟩),λi G o m z=>(by obtain⟨U,p,H,J⟩:=m;rw[z] at p;cases p;rw[H];exact hT),λb j=>.inl (az.mp j)⟩ (by rw[ak];exact l);obtain⟨c,u,H,rfl⟩:=I;rw[List.getElem?_map] at y;have K:x[i]?=some c:=by
    have:(⟨x⟩:Array Nat)[i]?=some c:=H
    simpa using this
   rw[K] at y;cases y;exact .str [c] u (by show 1<=br;exact Nat.succ_pos _)
  cases N:(S x).cps.all (·<128)
  .exact wpAny_pyIter_wide N (M _ (λF B=>Walks.strWide B _ (S x) t) (by show ¬(ai.type _=ai.type _);decide))
  .exact wpAny_pyIter_ascii N (M _ (λF B=>Walks.strAscii B _ (S x) t) (by show ¬(ai.type _=ai.type _);decide))
 case list g l q=>
  rename_i a vs n ds';cases h;have C:=Heap.lt_size (bT g).1;have f:=q.length;rw[aM] at f;refine wpAny_pyIter_list (cy g) ?_;refine k _ s.toks (λi v=>vs[i]?=some v) (λi h=>h.IsListIter s.heap.objs.size a i/\h.IsList a vs) [s.heap.objs.size,a] ⟨λF B=>by rw[<-f];exact Walks.list B _ a (Nat.ne_of_lt C) vs,⟨⟨_,aT _ rfl,rfl,rfl⟩,(cy g).push _⟩,λb j=>?_,λi v d I y=>?_,gh _,λb o e=>aA _ e,λi G m=>(let⟨⟨o,z,_⟩,_⟩:=m;⟨o,z⟩),λi G o m z=>(by obtain⟨⟨U,p,H,J⟩,J⟩:=m;rw[z] at p;cases p;rw[H];show ¬(ai.type _=ai.type _);decide),λb j=>?_⟩ (by exact aj (aO f.symm) l)
  .rw[Heap.size_push];simp only[ao,List.not_mem_nil,or_false] at j;rcases j with rfl|rfl
   .exact bh _
   .exact Nat.lt_succ_of_lt C
  .obtain⟨V,E,L⟩:=q.get i d y;rw[Array.getElem?_toList,I] at E;cases E;exact L
  .simp only[ao,List.not_mem_nil,or_false] at j;rcases j with rfl|rfl
   .exact .inl rfl
   .exact .inr ⟨_,(bT g).1,(bT g).2,.inl rfl⟩
 case tup g l q=>
  rename_i a vs n ds';cases h;have C:=Heap.lt_size (bT g).1;have f:=q.length;rw[aM] at f;refine wpAny_pyIter_tuple (DH g) ?_;refine k _ s.toks (λi v=>vs[i]?=some v) (λi h=>h.IsTupleIter s.heap.objs.size a i/\h.IsTuple a vs) [s.heap.objs.size,a] ⟨λF B=>by rw[<-f];exact Walks.tuple B _ a (Nat.ne_of_lt C) vs,⟨⟨_,aT _ rfl,rfl,rfl⟩,(DH g).push _⟩,λb j=>?_,λi v d I y=>?_,gh _,λb o e=>aA _ e,λi G m=>(let⟨⟨o,z,_⟩,_⟩:=m;⟨o,z⟩),λi G o m z=>(by obtain⟨⟨U,p,H,J⟩,J⟩:=m;rw[z] at p;cases p;rw[H];show ¬(ai.type _=ai.type _);decide),λb j=>?_⟩ (by exact aj (aO f.symm) l)
  .rw[Heap.size_push];simp only[ao,List.not_mem_nil,or_false] at j;rcases j with rfl|rfl
   .exact bh _
   .exact Nat.lt_succ_of_lt C
  .obtain⟨V,E,L⟩:=q.get i d y;rw[Array.getElem?_toList,I] at E;cases E;exact L
  .simp only[ao,List.not_mem_nil,or_false] at j;rcases j with rfl|rfl
   .exact .inl rfl
   .exact .inr ⟨_,(bT g).1,(bT g).2,.inr (.inl rfl)⟩
 case rng g hl=>
  rename_i rr a b t u V;cases h;refine wpAny_pyIter_range (bT g).1 (small_one (by omega) (by omega) (by omega) (by omega)) ?_;have e:((List.range (b-a).toNat).map λ(k:Nat)=>D.int (a+(k:Int))).length=(b-a).toNat:=by rw[ak,List.length_range]
  refine k _ s.toks (λi v=>∃t,v=.int (a+i*1) t) (λi h=>IsRangeIter h s.heap.objs.size (a+(i:Nat)*1) (((b-a).toNat:Int)-(i:Nat)) 1) [s.heap.objs.size] ⟨λF B=>by rw[e];exact Walks.range B _ a 1 _,?_,λb j=>by rw[az.mp j,Heap.size_push];exact bh _,λi v d I y=>?_,gh _,λb o e=>aA _ e,λi G m=>⟨_,m⟩,λi G o m z=>(by have m:G.get? _=some _:=m;rw[z] at m;cases m;show ¬(ai.type _=ai.type _);decide),λb j=>.inl (az.mp j)⟩ (by rw[e];omega)
  .show(s.heap.push _).get? _=_;rw[aT _ rfl,rangeSize_one];have:(if a<b then b-a else 0)=(((b-a).toNat:Nat):Int):=by split<;>omega
   rw[this];simp
  .obtain⟨t,rfl⟩:=I;rw[List.getElem?_map] at y;by_cases O:i<(b-a).toNat
   .rw[List.getElem?_range O] at y;cases y;rw[Int.mul_one];exact .int _ _
   .rw[List.getElem?_eq_none (by rw[List.length_range];exact Nat.not_lt.mp O)] at y;cases y
end
theorem fw{w:aq}{A:aL}{α:Type}{t:Sem α}{Q:α->af->Prop}{s:af}(h:an (model pw w) A t (λa s'=>s.toks<=s'.toks->Q a s') bM s):an (model pw w) A t Q bM s:=
 wpAny_with_toks (aF _) (am h (λb b x=>x) λb b x=>x.elim)
def fo(w:aq)(A:aL):List (Sem ai)->(List ai->af->Prop)->af->Prop
 |[],Q,s=>Q [] s
 |a::r,Q,s=>an (model pw w) A a (λv s1=>fo w A r (λvs b=>Q (v::vs) b) s1) bM s
theorem fo.mono{w:aq}{A:aL}:∀{as:List (Sem ai)} {Q a:List ai->af->Prop} {s:af},fo w A as Q s->(∀vs s,Q vs s->a vs s)->fo w A as a s
 |[],_,_,_,h,k=>k _ _ h
 |_::r,_,_,_,h,k=>am h (λv s1 b=>fo.mono (as:=r) b λvs e c=>k _ _ c) λd d x=>x
abbrev pl(as:List (Sem ai)):List (Bool×Sem ai):=as.map λa=>(false,a)
theorem hG{w:aq}{A:aL}:∀{as:List (Sem ai)} {Q:List ai->af->Prop} {s:af},fo w A as Q s->an (model pw w) A (spliced (pl as)) Q bM s
 |[],_,_,h=>spliced_nil h
 |_::r,_,_,h=>spliced_cons (am h (λv s1 a=>hG (as:=r) a) λb b x=>x)
theorem fH{w:aq}{A:aL}{f:ai}{as:List (Sem ai)}{Q:Args->af->Prop}{s:af}(h:fo w A as (λvs s'=>Q ⟨vs,[]⟩ s') s):an (model pw w) A (evalArgs f true (pl as) []) Q bM s:=by
 cases as with
 |nil=>exact evalArgs_nil3 h
 |cons a r=>exact evalArgs_plain (hG (as:=a::r) h)
theorem jQ(as:List (Sem ai)):(pl as).any (·.1)=false:=by
 induction as with
 |nil=>rfl
 |cons a r b=>exact b
def DM(vs:List ai):Prop:=∀y u z v,vs=[.str y u,.str z v]->u≠0/\v≠0/\u≠v
structure fz(w:aq)(ts:Tb)(K:KT)(k:Nat):Prop where
 fn:∀a ds ob d ob',(K.fn a ds ob).run=some (d,ob')->∀(A:aL) (X:List Addr) (vs:List ai) (s:af),eO A k->cT w s.heap->gc w (bJ X s.heap) ts s.heap ob->dj (bJ X s.heap) ts vs ds->
  (∀x∈X,(s.heap.get? x).isSome=true)->0<s.toks->codeAny (model pw w) A (.call (.ref a) ⟨vs,[]⟩) (RV λv s2=>Rd (bJ X s2.heap) ts v d/\cT w s2.heap/\gc w (bJ X s2.heap) ts s2.heap ob'/\Kp ts s s2) s
 cw:∀a ds ob d,(K.fn a ds ob).run=some d->∀(A:aL) (pos:Pos) (first:List ai) (as:List (Sem ai)) (s:af) (Q:ai->af->Prop),
  fo w A as (λvs s1=>cT w s1.heap/\an (model pw w) A (call (.ref a) (first++vs)) Q bM s1) s->an (model pw w) A (callWith pos (.ref a) first (pl as) []) Q bM s
 bi:∀b ds d,(K.bi b ds).run=some d->∀(A:aL) (X:List Addr) (pos:Pos) (as:List (Sem ai)) (s:af) (Q:ai->af->Prop),eq A k->
  fo w A as (λvs s1=>cT w s1.heap/\dj (bJ X s1.heap) ts vs ds/\(∀x∈X,(s1.heap.get? x).isSome=true)/\0<s1.toks/\∀v s2,Rd (bJ X s2.heap) ts v d->Keeps s1 s2->Q v s2) s->
  an (model pw w) A (callWith pos b.val [] (pl as) []) Q bM s
 sm:∀x m ds d,(K.sm x m ds).run=some d->∀(A:aL) (X:List Addr) (pos:Pos) (as:List (Sem ai)) (s:af) (Q:ai->af->Prop) (t:Tok),eq A k->x.length<=br->
  fo w A as (λvs s1=>cT w s1.heap/\dj (bJ X s1.heap) ts vs ds/\(∀x∈X,(s1.heap.get? x).isSome=true)/\0<s1.toks/\(cr m cR=true->DM vs)/\∀v s2,Rd (bJ X s2.heap) ts v d->Keeps s1 s2->Q v s2) s->
  MethodOnS pw w A bM (S m) (.str (S x) t) pos (pl as) Q s
 rm:∀a m ds d,(K.rm a m ds).run=some d->∀(A:aL) (X:List Addr) (pos:Pos) (as:List (Sem ai)) (s:af) (Q:ai->af->Prop),eq A k->cT w s.heap->
  fo w A as (λvs s1=>cT w s1.heap/\dj (bJ X s1.heap) ts vs ds/\(∀x∈X,(s1.heap.get? x).isSome=true)/\0<s1.toks/\∀v s2,Rd (bJ X s2.heap) ts v d->Keeps s1 s2->Q v s2) s->
  MethodOnS pw w A bM (S m) (.ref a) pos (pl as) Q s
structure vv(w:aq)(M:gz):Prop where
 me:∀C m f,M.me C m=some f->∀(A:aL) (env:Env) (o:Expr) (apos pos:Pos) (as:List (Sem ai)) (s:af) (Q:ai->af->Prop) (p:Addr×Addr) (es:List bj) (n:Nat),cT w s.heap->
  s.heap.get? p.1=some (instObj C p.2)->s.heap.get? p.2=some (dictOf es n)->getL (S m) es=some none->(apos.endLine==pos.line)=true->as.length<20->an (model pw w) A (callWith pos (.ref f) [.ref p.1] (pl as) []) Q bM s->
  an (model pw w) A (methodCall o (S m) apos pos env (.ref p.1) (as.length+([]:List Keyword).length) (pl as) (backToKw pos (keywordEach [] env))) Q bM s
 pr:∀C m f,M.pr C m=some f->∀(A:aL) (s:af) (Q:ai->af->Prop) (p:Addr×Addr) (es:List bj) (n:Nat),cT w s.heap->
  s.heap.get? p.1=some (instObj C p.2)->s.heap.get? p.2=some (dictOf es n)->codeAny (model pw w) A.in1 (.call (.ref f) ⟨[.ref p.1],[]⟩) (RV λv s2=>handedIn v=true/\Q v s2) {s with toks:=s.toks+1}->an (model pw w) A (getAttr (.ref p.1) (S m) true) Q bM s
 get:∀C m,M.fr C m=true->∀(A:aL) (s:af) (Q:ai->af->Prop) (p:Addr×Addr) (es:List bj) (n:Nat) (e:bj),cT w s.heap->
  s.heap.get? p.1=some (instObj C p.2)->s.heap.get? p.2=some (dictOf es n)->es.find? (·.key.isStr (S m))=some e->handedIn e.val=true->Q e.val {s with toks:=s.toks+1}->an (model pw w) A (getAttr (.ref p.1) (S m) true) Q bM s
 set:∀C m,M.fr C m=true->∀(A:aL) (s:af) (v:ai) (Q:Unit->af->Prop) (p:Addr×Addr) (es:List bj) (n:Nat),cT w s.heap->
  s.heap.get? p.1=some (instObj C p.2)->s.heap.get? p.2=some (dictOf es n)->(getL (S m) es).isSome=true->es.length<900->
  (∀h' n' tk,s.toks<=tk->h'.get? p.2=some (dictOf (putL (S m) (PyData.keyHash w.params (S m)) (.str (S m) (s.toks+1)) v es) n')->Heap.SameBut p.2 s.heap h'->Q () {s with heap:=h',toks:=tk})->an (model pw w) A (setAttr (.ref p.1) (S m) v) Q bM s
structure bQ(w:aq)(ts:Tb)(K:KT)(M:gz)(k n:Nat):Prop where
 e:∀sc e st d st',(ev K M n sc e st).run=some (d,st')->∀(A:aL) (env:Env) (X:List Addr) (oa:Addr),eq A k->bC w env sc->∀s:af,b0 w ts env X oa st s.heap->0<s.toks->
  an (model pw w) A (eval e env) (PE w ts env X oa st st' s d) bM s
 l:∀sc es st ds st',(lh K M n sc es st).run=some (ds,st')->∀(A:aL) (env:Env) (X:List Addr) (oa:Addr),eq A k->bC w env sc->∀s:af,b0 w ts env X oa st s.heap->0<s.toks->
  fo w A (evalEach es env) (PL w ts env X oa st st' s ds) s/\starEach es env=pl (evalEach es env)
 b:∀sc e st c st',(eF K M n sc e st).run=some (c,st')->∀(A:aL) (env:Env) (X:List Addr) (oa:Addr),eq A k->bC w env sc->∀s:af,b0 w ts env X oa st s.heap->0<s.toks->
  an (model pw w) A (isTrue e env (eval e env)) (PB w ts env X oa st st' s c) bM s
 c:∀sc l ops rs st c st',(N1 K M n sc l ops rs st).run=some (c,st')->∀(A:aL) (env:Env) (X:List Addr) (oa:Addr),eq A k->bC w env sc->∀s:af,b0 w ts env X oa st s.heap->0<s.toks->
  ∃op r,ops=[op]/\rs=[r]/\behindInMarks op r=false/\an (model pw w) A (eval l env) (λa s₁=>an (model pw w) A (eval r env) (λb s₂=>an (model pw w) A (compareOp op a b)
   (λv s'=>v=.bool c/\PB w ts env X oa st st' s c c s') bM s₂) bM s₁) bM s
 a:∀sc es st c st',(zO K M n sc es st).run=some (c,st')->∀(A:aL) (env:Env) (X:List Addr) (oa:Addr),eq A k->bC w env sc->∀s:af,b0 w ts env X oa st s.heap->0<s.toks->
  an (model pw w) A (allTrue .And es env) (PB w ts env X oa st st' s c) bM s
 o:∀sc es st c st',(Sl K M n sc es st).run=some (c,st')->∀(A:aL) (env:Env) (X:List Addr) (oa:Addr),eq A k->bC w env sc->∀s:af,b0 w ts env X oa st s.heap->0<s.toks->
  an (model pw w) A (allTrue .Or es env) (PB w ts env X oa st st' s c) bM s
section
variable{w:aq}{ts:Tb}{env:Env}{X:List Addr}{oa:Addr}{st:St}{s s':af}
theorem PE.quiet{d:D}{v:ai}(H:b0 w ts env X oa st s.heap)(k:Keeps s s')(t:s.toks<=s'.toks)(r:Rd (bJ (st.hid X oa) s'.heap) ts v d):PE w ts env X oa st st s d v s':=
 ⟨r,H.keep k t,dF k t,jD.refl _⟩
theorem PE.step{st1 st2:St}{s1 a:af}{d d1:D}{v b:ai}(p:PE w ts env X oa st st1 s d1 b s1)(q:PE w ts env X oa st1 st2 s1 d v a):PE w ts env X oa st st2 s d v a:=⟨q.rd,q.hs,p.kp.trans q.kp,p.shr.trans q.shr⟩
end
section
variable{w:aq}{ts:Tb}{K:KT}{M:gz}{k n:Nat}{A:aL}{env:Env}{X:List Addr}{oa:Addr}{sc:Sc}{st st':St}{s:af}
set_option tactic.hygienic true in
theorem IV{c:Const}{kk:Nat}{pos:Pos}{d:D}(h:(ev K M (n+1) sc (.Constant c kk pos) st).run=some (d,st'))(H:b0 w ts env X oa st s.heap):
 an (model pw w) A (eval (.Constant c kk pos) env) (PE w ts env X oa st st' s d) bM s:=by
 cases c<;>try (exact cX h)
 case none=>cases h;exact wpAny_Constant_none (.quiet H (dc _) (aF _) .none)
 case bool=>cases h;exact wpAny_Constant_bool (.quiet H (dc _) (aF _) (.bool _))
 case int=>cases h;exact wpAny_Constant_int (.quiet H (di _) (Nat.le_succ _) (.int _ _))
 case str x=>
  refine dz h λa b=>?_;cases b;exact wpAny_Constant_str (.quiet H (di _) (Nat.le_succ _) (.str (bm x) _ (Nat.le_of_ble_eq_true a)))
theorem IW(e:bQ w ts K M k n){l r:Expr}{op:Operator}{pos:Pos}{d:D}(h:(ev K M (n+1) sc (.BinOp l op r pos) st).run=some (d,st'))(f:eq A k)(g:bC w env sc)(H:b0 w ts env X oa st s.heap)(i:0<s.toks):
 an (model pw w) A (eval (.BinOp l op r pos) env) (PE w ts env X oa st st' s d) bM s:=by
 refine bB h ?_;clear h;intro d1 st1 j h;refine bB h ?_;clear h;intro d2 st2 m h;refine bv h ?_;clear h;intro d3 o h;cases h;refine wpAny_BinOp (am (e.e _ _ _ _ _ j A env X oa f g s H i) (λa s1 p1=>am (e.e _ _ _ _ _ m A env X oa f g s1 p1.hs (p1.toks i)) (λb p p2=>?_) (λc c x=>x)) λc c x=>x);exact fw (sj o (p1.rd.on p1.hs p2.kp p2.shr) p2.rd p2.hs.hid λv q r ks tk=>p1.step (p2.step (.quiet p2.hs ks tk r)))
end
def gv(w:aq)(x:Nm):Option ai:=match tX w (S x) with
 |some v=>some v
 |none=>L9 w (S x)
def S3:D->ai
 |.bi k=>k.val
 |.raw a=>.ref a
 |_=>.none
def WN:D->Bool
 |.bi _=>true
 |.raw _=>true
 |_=>false
theorem Oa(w:aq):G.map (λp=>gv w p.1)=G.map (λp=>some (S3 p.2)):=by kernel_rfl
theorem IX:G.all (λp=>WN p.2)=true:=by kernel_rfl
theorem vM{α:Type}:∀{l:List (Nm×α)} {x:Nm} {d:α},dR l x=some d->(x,d)∈l
 |(k,v)::r,x,d,h=>by
  rw[cg] at h;by_cases e:k=x
  .rw[aH e] at h;cases h;rw[e];exact .head _
  .rw[av e] at h;exact .tail _ (vM h)
theorem DN{α β:Type}{f g:α->β}:∀{l:List α},l.map f=l.map g->∀a∈l,f a=g a
 |b::r,h,a,c=>by
  rw[List.map_cons,List.map_cons,List.cons.injEq] at h;rcases ao.mp c with d|c
  .rw[d];exact h.1
  .exact DN h.2 a c
theorem WO(w:aq){x:Nm}{d:D}(h:dR G x=some d):(∃v,(tX w (S x)=some v\/(tX w (S x)=none/\L9 w (S x)=some v))/\∀g ts,Rd g ts v d):=by
 have c:=vM h;have a:=DN (Oa w) _ c;have b:=aW.mp IX _ c;dsimp only at a b;refine⟨S3 d,?_,λg ts=>?_⟩
 .unfold gv at a;cases e:tX w (S x) with
  |some v=>rw[e] at a;exact .inl a
  |none=>rw[e] at a;exact .inr ⟨rfl,a⟩
 .cases d<;>first|exact(ab b).elim|exact .bi _ rfl|exact .raw _
theorem hH{x:Nm}{y:Str}{z:Nm}(a:bm y=z)(h:cr x z=false):(S x==y)=false:=by rw[beq_eq_false_iff_ne];rintro rfl;exact eM.mp h a
theorem nh:bm ("__debug__":Str)=zJ:=by decide+kernel
theorem Od:bm ("__classdict__":Str)=oq:=by decide+kernel
section
variable{w:aq}{ts:Tb}{K:KT}{M:gz}{k n:Nat}{A:aL}{env:Env}{X:List Addr}{oa:Addr}{sc:Sc}{st st':St}{s:af}
theorem hJ{x:Nm}{v:ai}{Q:ai->af->Prop}(d:bC w env sc)(h:zR env s.heap (S x) v)(g:dh x=true)(q:Q v s):an (model pw w) A (loadName env (S x)) Q bM s:=by
 unfold dh at g;refine bx g λj e=>?_;rw[aN] at e;rcases h with⟨a,m,i,b⟩|⟨a,c,f,b⟩
 .exact wpAny_loadName_local d.k a i b q
 .rcases a with a|a
  .exact wpAny_loadName_cell d.k a f b q
  .exact wpAny_loadName_free d.k a f b q (hH Od e)
theorem lD{st:St}{x:Nm}{ds:List D}(h:st.own x=some ds):∃z,st.ow=some (x,z,ds):=by
 unfold St.own at h;cases e:st.ow with
 |none=>rw[e] at h;cases h
 |some q=>
  obtain⟨y,z,ds'⟩:=q;rw[e] at h;replace h:(match cr y x with|true=>some ds'|false=>none)=some ds:=h;cases a:cr y x with
  |true=>rw[a] at h;cases h;exact⟨z,by rw[dW a]⟩
  |false=>rw[a] at h;cases h
theorem sy{α:Type}{k x:Nm}{e d:α}{r:List (Nm×α)}:ee ((k,e)::r) x d=if k=x then(k,d)::r else(k,e)::ee r x d:=by
 by_cases h:k=x
 .rw[aH h];show(match cr k x with|true=>_|false=>_)=_;rw[eC.mpr h]
 .rw[av h];show(match cr k x with|true=>_|false=>_)=_;rw[eM.mpr h]
theorem kI{α:Type}:∀{l:List (Nm×α)} {x y:Nm} {d e:α},dR (ee l x d) y=some e->(x=y/\e=d)\/(x≠y/\dR l y=some e)
 |[],x,y,d,e,h=>by
  rw[show ee [] x d=[(x,d)] from rfl,cg] at h;by_cases a:x=y
  .rw[aH a] at h;cases h;exact .inl ⟨a,rfl⟩
  .rw[av a] at h;cases h
 |(k,v)::r,x,y,d,e,h=>by
  rw[sy] at h;by_cases b:k=x
  .rw[aH b,cg] at h;subst b;by_cases a:k=y
   .rw[aH a] at h;cases h;exact .inl ⟨a,rfl⟩
   .rw[av a] at h;exact .inr ⟨a,by rw[cg,av a];exact h⟩
  .rw[av b,cg] at h;by_cases a:k=y
   .rw[aH a] at h;cases h;exact .inr ⟨λq=>b (a.trans q.symm),by rw[cg,aH a]⟩
   .rw[av a] at h;rcases kI h with q|⟨c,f⟩
    .exact .inl q
    .exact .inr ⟨c,by rw[cg,av a];exact f⟩
theorem b0.freeze{x:Nm}{z:Option Nm}{ds:List D}(e:st.ow=some (x,z,ds))(H:b0 w ts env X oa st s.heap):b0 w ts env X oa st.freeze s.heap/\Rd (bJ (st.freeze.hid X oa) s.heap) ts (.ref oa) (.list ds)/\zR env s.heap (S x) (.ref oa):=by
 have O:=H.own _ _ _ e;have h:st.freeze=⟨ee st.v x (.list ds),none,st.ob⟩:=by unfold St.freeze;rw[e]
 have c:st.hid X oa=oa::X:=by unfold St.hid;rw[e]
 obtain⟨j,b,g,l,q⟩:=O.items;have f:Rd (bJ X s.heap) ts (.ref oa) (.list ds):=.list (cc g O.off) l (q.mon jM);rw[h];refine⟨⟨H.base,λy d a=>?_,λx z ds e=>(by cases e),H.obs.mon (by rw[c];exact jM),H.loc,H.cel,H.off,H.live⟩,f,O.var⟩;rcases kI a with⟨rfl,rfl⟩|⟨_,a⟩
 .exact⟨_,O.var,f⟩
 .obtain⟨v,i,r⟩:=H.vars y d a;exact⟨v,i,r.mon (by rw[c];exact jM)⟩
theorem x9:jD st st.freeze:=by
 unfold jD St.freeze;cases e:st.ow with
 |none=>exact λh=>by rw[e] at h;exact h
 |some q=>exact λh=>nomatch h
theorem Oe{x:Str}{pos:Pos}{d:D}(h:(ev K M (n+1) sc (.Name x pos) st).run=some (d,st'))(b:bC w env sc)(H:b0 w ts env X oa st s.heap):
 an (model pw w) A (eval (.Name x pos) env) (PE w ts env X oa st st' s d) bM s:=by
 refine dz h ?_;clear h;intro c h;have i:(x==("__debug__":Str))=false:=by unfold dh at c;refine bx c λf u=>?_;rw[aN] at f;exact hH (x:=bm x) nh f
 cases k:st.own (bm x) with
 |some ds=>rw[k] at h;cases h;obtain⟨z,e⟩:=lD k;obtain⟨m,r,a⟩:=H.freeze e;exact wpAny_Name (hJ (x:=bm x) b a c ⟨r,m,Kp.refl _ _,x9⟩) i
 |none=>
  rw[k] at h;cases j:dR st.v (bm x) with
  |some o=>rw[j] at h;cases(h);obtain⟨v,a,r⟩:=H.vars _ _ j;exact wpAny_Name (hJ (x:=bm x) b a c ⟨r,H,Kp.refl _ _,jD.refl _⟩) i
  |none=>
   rw[j] at h;refine dz h ?_;clear h;intro f h;refine bv h ?_;clear h;intro o g h;cases(h);replace g:=bn g;obtain⟨v,a,r⟩:=WO w g;have q:env.kindOf x=some .globalImplicit:=by rw[show env.kindOf x=env.kindOf (S (bm x)) from rfl,b.kind];exact zK f
   refine Name_function_global b.k q ?_ i;have l:s.heap.Ns env.globals (tX w):=by rw[b.g];exact UN H.base
   have p:s.heap.Ns env.builtins (L9 w):=by rw[b.b];exact Yu H.base
   have fin:PE w ts env X oa st st s d v s:=⟨r _ _,H,Kp.refl _ _,jD.refl _⟩;rcases a with a|⟨t,a⟩
   .exact loadGlobal_global l a fin
   .exact loadGlobal_builtin l t p a fin
end
section
variable{w:aq}{ts:Tb}{K:KT}{M:gz}{k n:Nat}{A:aL}{env:Env}{X:List Addr}{oa:Addr}{sc:Sc}{st st':St}{s:af}
theorem IY(b:bQ w ts K M k n){op:UnaryOp}{x:Expr}{pos:Pos}{d:D}(h:(ev K M (n+1) sc (.UnaryOp op x pos) st).run=some (d,st'))(f:eq A k)(g:bC w env sc)(H:b0 w ts env X oa st s.heap)(j:0<s.toks):
 an (model pw w) A (eval (.UnaryOp op x pos) env) (PE w ts env X oa st st' s d) bM s:=by
 cases op<;>try (exact cX h)
 refine bB h ?_;clear h;intro d1 st1 c h;refine bv h ?_;clear h;intro i a h;cases h;replace a:lS d1=some i:=bn a;refine wpAny_UnaryOp (am (b.e _ _ _ _ _ c A env X oa f g s H j) (λv s1 p1=>?_) (λl l x=>x));have r:=p1.rd;rw[gD a] at r;obtain⟨t,e⟩:=Bk r;rw[e];exact P.neg_int ⟨.int _ _,p1.hs.keep (di _) (Nat.le_succ _),p1.kp.trans (dF (di _) (Nat.le_succ _)),p1.shr⟩
theorem IZ(f:bQ w ts K M k n){t b o:Expr}{pos:Pos}{d:D}(h:(ev K M (n+1) sc (.IfExp t b o pos) st).run=some (d,st'))(g:eq A k)(i:bC w env sc)(H:b0 w ts env X oa st s.heap)(j:0<s.toks):
 an (model pw w) A (eval (.IfExp t b o pos) env) (PE w ts env X oa st st' s d) bM s:=by
 refine bB h ?_;clear h;intro c st1 m h;refine wpAny_IfExp (am (f.b _ _ _ _ _ m A env X oa g i s H j) (λl s1 p1=>?_) (λa a x=>x));have e:=p1.rd;subst e;cases l with
 |true=>exact am (f.e _ _ _ _ _ (show(ev K M n sc b st1).run=_ from h) A env X oa g i s1 p1.hs (p1.toks j)) (λv p p2=>⟨p2.rd,p2.hs,p1.kp.trans p2.kp,p1.shr.trans p2.shr⟩) λa a x=>x
 |false=>exact am (f.e _ _ _ _ _ (show(ev K M n sc o st1).run=_ from h) A env X oa g i s1 p1.hs (p1.toks j)) (λv p p2=>⟨p2.rd,p2.hs,p1.kp.trans p2.kp,p1.shr.trans p2.shr⟩) λa a x=>x
theorem DO(g:bQ w ts K M k n){op:BoolOp}{vs:List Expr}{pos:Pos}{d:D}(h:(ev K M (n+1) sc (.BoolOp op vs pos) st).run=some (d,st'))(j:eq A k)(l:bC w env sc)(H:b0 w ts env X oa st s.heap)(m:0<s.toks):
 an (model pw w) A (eval (.BoolOp op vs pos) env) (PE w ts env X oa st st' s d) bM s:=by
 rcases vs with _|⟨x,_|⟨y,_|⟨z,r⟩⟩⟩<;>try (exact cX h)
 refine bB h ?_;clear h;intro d1 st1 o h;refine bv h ?_;clear h;intro b i h;replace i:=bn i;have c:∀(s1:af) (v:ai),PE w ts env X oa st st1 s d1 v s1->∀R:Bool->af->Prop,(∀a,PE w ts env X oa st st1 s d1 v a->R b a)->an (model pw w) A (truthy v) R bM s1:=λs1 v p1 R p=>
  fw (jP i p1.rd λa ks tk=>p a ⟨p1.rd.mon (nf ks),p1.hs.keep ks tk,p1.kp.trans (dF ks tk),p1.shr⟩)
 have e:∀(a:af) (v:ai),PE w ts env X oa st st1 s d1 v a->(ev K M n sc y st1).run=some (d,st')->an (model pw w) A (eval y env) (PE w ts env X oa st st' s d) bM a:=λa v p2 h=>am (g.e _ _ _ _ _ h A env X oa j l a p2.hs (p2.toks m)) (λv t q=>p2.step q) λf f x=>x;cases op with
 |And=>
  refine wpAny_And2 (am (g.e _ _ _ _ _ o A env X oa j l s H m) (λv s1 p1=>c s1 v p1 _ λa p2=>?_) (λf f x=>x));cases b with
  |true=>exact e a v p2 h
  |false=>cases h;exact p2
 |Or=>
  refine wpAny_Or2 (am (g.e _ _ _ _ _ o A env X oa j l s H m) (λv s1 p1=>c s1 v p1 _ λa p2=>?_) (λf f x=>x));cases b with
  |true=>cases h;exact p2
  |false=>exact e a v p2 h
theorem Bp(i:bQ w ts K M k n){l:Expr}{e:List CmpOp}{rs:List Expr}{pos:Pos}{d:D}(h:(ev K M (n+1) sc (.Compare l e rs pos) st).run=some (d,st'))(o:eq A k)(q:bC w env sc)(H:b0 w ts env X oa st s.heap)(u:0<s.toks):
 an (model pw w) A (eval (.Compare l e rs pos) env) (PE w ts env X oa st st' s d) bM s:=by
 refine bB h ?_;clear h;intro c st1 g h;cases h;obtain⟨op,r,rfl,rfl,t,y⟩:=i.c _ _ _ _ _ _ _ g A env X oa o q s H u;exact wpAny_Compare1 (am y (λa s1 g=>am g (λb z j=>am j (λv B m=>by obtain⟨rfl,p⟩:=m;exact⟨.bool _,p.hs,p.kp,p.shr⟩) λf f x=>x) λf f x=>x) λf f x=>x) t
theorem dP{pos:Pos}(as:List (Sem ai)):backTo pos (pl as)=pl as:=by
 induction as with
 |nil=>rfl
 |cons a r b=>show(false,_)::backTo pos (pl r)=_;rw[b];rfl
theorem uw{ds:List D}{vs:List ai}{s1:af}{cls:String}(p:PL w ts env X oa st st' s ds vs s1)(b:ds.length<=br):
 let a:af:={s1 with heap:=s1.heap.push {cls:=.type cls,data:=.seq vs.toArray}}
 bJ (st'.hid X oa) a.heap s1.heap.objs.size=some {cls:=.type cls,data:=.seq vs.toArray}/\vs.toArray.size<=br/\dj (bJ (st'.hid X oa) a.heap) ts vs.toArray.toList ds/\b0 w ts env X oa st' a.heap/\Kp ts s a:=by
 have ks:Keeps s1 {s1 with heap:=s1.heap.push {cls:=.type cls,data:=.seq vs.toArray}}:=jk _;refine⟨?_,?_,?_,p.hs.keep ks (aF _),p.kp.trans (dF ks (aF _))⟩
 .show bJ _ (s1.heap.push _) _=_;rw[ng p.hs.hid];exact aT _ rfl
 .rw[List.size_toArray,p.rd.length];exact b
 .exact p.rd.mon (nf ks)
theorem ml{as:List (Sem ai)}{pos:Pos}{ds:List D}{Q:List ai->af->Prop}(h:fo w A as (PL w ts env X oa st st' s ds) s)(k:∀vs s1,PL w ts env X oa st st' s ds vs s1->Q vs s1):
 an (model pw w) A (spliced (backTo pos (pl as))) Q bM s:=by
 rw[dP];exact hG (h.mono k)
theorem Of(g:bQ w ts K M k n){es:List Expr}{pos:Pos}{d:D}(h:(ev K M (n+1) sc (.List es pos) st).run=some (d,st'))(l:eq A k)(m:bC w env sc)(H:b0 w ts env X oa st s.heap)(q:0<s.toks):
 an (model pw w) A (eval (.List es pos) env) (PE w ts env X oa st st' s d) bM s:=by
 refine bB h ?_;clear h;intro ds st1 i h;refine ct h ?_;clear h;intro j h;cases h;obtain⟨r,o⟩:=g.l _ _ _ _ _ i A env X oa l m s H q;refine wpAny_List ?_;rw[o];refine ml r λvs s1 p=>?_;have f:=ar j;obtain⟨a,b,c,d,e⟩:=uw (cls:="list") p f;exact⟨by rw[p.rd.length,bu];exact f,.list a b c,d,e,p.shr⟩
theorem I0(g:bQ w ts K M k n){es:List Expr}{kk:Nat}{pos:Pos}{d:D}(h:(ev K M (n+1) sc (.Tuple es kk pos) st).run=some (d,st'))(l:eq A k)(m:bC w env sc)(H:b0 w ts env X oa st s.heap)(q:0<s.toks):
 an (model pw w) A (eval (.Tuple es kk pos) env) (PE w ts env X oa st st' s d) bM s:=by
 refine bB h ?_;clear h;intro ds st1 i h;refine ct h ?_;clear h;intro j h;cases h;obtain⟨r,o⟩:=g.l _ _ _ _ _ i A env X oa l m s H q;refine wpAny_Tuple ?_;rw[o];refine ml r λvs s1 p=>?_;have f:=ar j;obtain⟨a,b,c,d,e⟩:=uw (cls:="tuple") p f;exact⟨by rw[p.rd.length,bu];exact f,.tup a b c,d,e,p.shr⟩
end
section
variable{w:aq}{ts:Tb}{K:KT}{M:gz}{k n:Nat}{A:aL}{env:Env}{X:List Addr}{oa:Addr}{sc:Sc}{st st':St}{s:af}
theorem sA{st:St}{e:Expr}{ds:List D}(h:ji st e=some ds):∃x pos,e=.Name x pos/\dh (bm x)=true/\st.own (bm x)=some ds:=by
 refine eW h ?_;clear h;intro r b h;cases a:dh (bm r.1) with
 |false=>rw[a] at h;exact cX h
 |true=>rw[a] at h;exact⟨_,_,dE b,a,h⟩
theorem ux{e:Expr}{ds:List D}(d:bC w env sc)(H:b0 w ts env X oa st s.heap)(a:ji st e=some ds){Q:ai->af->Prop}
 (q:Q (.ref oa) s):an (model pw w) A (eval e env) Q bM s:=by
 have g:=sA a;clear a;obtain⟨x,pos,rfl,b,a⟩:=g;obtain⟨z,e⟩:=lD a;have O:=H.own _ _ _ e;have f:(x==("__debug__":Str))=false:=by unfold dh at b;refine bx b λc h=>?_;rw[aN] at c;exact hH (x:=bm x) nh c
 exact wpAny_Name (hJ (x:=bm x) d O.var b q) f
theorem ya{e:Expr}{ds:List D}(H:b0 w ts env X oa st s.heap)(b:ji st e=some ds):Rd (bJ X s.heap) ts (.ref oa) (.list ds)/\∃c a,s.heap.get? oa=some {cls:=.type "list",data:=.seq a c}/\dj (bJ (st.hid X oa) s.heap) ts a.toList ds:=by
 have f:=sA b;clear b;obtain⟨x,pos,rfl,h,b⟩:=f;obtain⟨z,e⟩:=lD b;have O:=H.own _ _ _ e;obtain⟨c,a,g,l,r⟩:=O.items;have d:st.hid X oa=oa::X:=by unfold St.hid;rw[e]
 exact⟨.list (cc g O.off) l (r.mon jM),c,a,g,by rw[d];exact r⟩
theorem DP(l:bQ w ts K M k n){o i:Expr}{pos:Pos}{d:D}(h:(match ji st o with
        |some _=>(ev K M n sc i st).bind λq=>(T.opt (ji q.2 o)).bind λds=>(dA (.list ds) q.1).bind λd=>.ret (d,q.2)
        |none=>(ev K M n sc o st).bind λp=>(ev K M n sc i p.2).bind λq=>(dA p.1 q.1).bind λd=>T.ret (d,q.2)).run=some (d,st'))(C:eq A k)(j:bC w env sc)(H:b0 w ts env X oa st s.heap)(F:0<s.toks):
 an (model pw w) A (eval (.Subscript o i pos) env) (PE w ts env X oa st st' s d) bM s:=by
 refine Subscript_ ?_;cases E:ji st o with
 |some L=>rw[E] at h;refine bB h ?_;clear h;intro d2 st2 y h;refine bv h ?_;clear h;intro ds z h;refine bv h ?_;clear h;intro J B h;cases h;replace z:=bn z;refine ux j H E ?_;refine am (l.e _ _ _ _ _ y A env X oa C j s H F) (λb R p2=>?_) λc c x=>x;obtain⟨Q,S,G,g,q⟩:=ya p2.hs z;refine sw B (λx i e c c c=>(by cases e)) λx i e m t N=>?_;cases e;have I:=p2.rd;replace m:d2=.int i:=m;rw[m] at I;obtain⟨u,O⟩:=Bk I;rw[O,N];obtain⟨c,vs,n,P,f,l5,c⟩:=rA Q;cases P;replace f:=(bT f).1;rw[g] at f;cases f;exact pZ g l5 q t λv r=>⟨r,p2.hs,p2.kp,p2.shr⟩
 |none=>rw[E] at h;refine bB h ?_;clear h;intro d1 st1 t h;refine bB h ?_;clear h;intro d2 st2 y h;refine bv h ?_;clear h;intro J B h;cases h;refine am (l.e _ _ _ _ _ t A env X oa C j s H F) (λa s1 p1=>am (l.e _ _ _ _ _ y A env X oa C j s1 p1.hs (p1.toks F)) (λb R p2=>?_) (λc c x=>x)) λc c x=>x;exact fw (vK B (p1.rd.on p1.hs p2.kp p2.shr) p2.rd λv U r ks tk=>p1.step (p2.step (.quiet p2.hs ks tk r)))
theorem DQ(a:bQ w ts K M k n){o:Option Expr}{d:D}(f:0<n)(h:(ev K M n sc (lB o) st).run=some (d,st'))(b:eq A k)(c:bC w env sc)(H:b0 w ts env X oa st s.heap)(g:0<s.toks):
 an (model pw w) A (evalPart o env) (PE w ts env X oa st st' s d) bM s:=by
 cases o with
 |some e=>exact a.e _ _ _ _ _ h A env X oa b c s H g
 |none=>obtain⟨m,rfl⟩:=Nat.exists_eq_succ_of_ne_zero (Nat.pos_iff_ne_zero.mp f);cases h;exact ay (.quiet H (dc _) (aF _) .none)
theorem vN{e:Expr}{d:D}(h:(ev K M n sc e st).run=some (d,st')):0<n:=by
 cases n with
 |zero=>exact cX h
 |succ n=>exact Nat.succ_pos n
theorem yb(i:bQ w ts K M k n){o:Expr}{l u f:Option Expr}{p pos:Pos}{d:D}(h:(T.gd (isNone f) ((ev K M n sc o st).bind λp=>(ev K M n sc (lB l) p.2).bind λq=>(ev K M n sc (lB u) q.2).bind λr=>(pH p.1 q.1 r.1).bind λd=>T.ret (d,r.2))).run=some (d,st'))(j:eq A k)(m:bC w env sc)(H:b0 w ts env X oa st s.heap)(t:0<s.toks):
 an (model pw w) A (eval (.Subscript o (.Slice l u f p) pos) env) (PE w ts env X oa st st' s d) bM s:=by
 refine dz h ?_;clear h;intro C h;cases f with
 |some _=>exact(ab C).elim
 |none=>refine bB h ?_;clear h;intro d1 st1 E h;refine bB h ?_;clear h;intro d2 st2 z h;refine bB h ?_;clear h;intro d3 G B h;refine bv h ?_;clear h;intro I F h;cases h;refine Subscript_ (am (i.e _ _ _ _ _ E A env X oa j m s H t) (λa s1 p1=>wpAny_Slice ?_) λg g x=>x);refine am (DQ i (vN z) z j m p1.hs (p1.toks t)) (λb J p2=>?_) λg g x=>x;refine am (DQ i (vN B) B j m p2.hs (p2.toks (p1.toks t))) (λc L e=>?_) λg g x=>x;rw[evalPart_none];refine ay ?_;have y:=p2.kp.trans e.kp;refine fw (vL F ((p1.rd.on p1.hs y (p2.shr.trans e.shr))) (p2.rd.on p2.hs e.kp e.shr) e.rd e.hs.hid λv N r ks tk=>?_);exact p1.step (p2.step (e.step (.quiet e.hs ks tk r)))
theorem I1(m:bQ w ts K M k n){al bl:List Nat}{r kb:Nat}{pa j z pos:Pos}{x:Expr}{y:List Nat}{st1:St}(o:(ev K M n sc x st).run=some (.str y,st1))(a:al.length+y.length+bl.length<=br)(p:eq A k)(q:bC w env sc)(H:b0 w ts env X oa st s.heap)(C:0<s.toks):
 an (model pw w) A (eval (.JoinedStr [.Constant (.str (S al)) r pa,.FormattedValue x (-1) none z,.Constant (.str (S bl)) kb j] pos) env) (PE w ts env X oa st st1 s (.str (al++y++bl))) bM s:=by
 have e0:Str.empty++S al=S al:=gq [] al;refine wpAny_JoinedStr (Joins_cons (wpAny_Constant_str ⟨_,_,rfl,?_,?_⟩))
 .rw[e0,c8,bu];exact ir a
 rw[e0];refine Joins_cons (wpAny_FormattedValue_plain ?_);have l:=H.keep (di (s:=s) (s.toks+1)) (Nat.le_succ _);refine am (m.e _ _ _ _ _ o A env X oa p q {s with toks:=s.toks+1} l (Nat.succ_pos _)) (λv s1 g=>?_) λB B x=>x;obtain⟨t,rfl,u⟩:=m9 g.rd;have fin:∀(t':Tok) (c:af),Keeps s1 c->s1.toks<=c.toks->∃i h,ai.str (S y) t'=.str i h/\(S al++i).length<=sizeLine/\Joins (model pw w) A bM (evalEach [.Constant (.str (S bl)) kb j] env) (S al++i)
  (λe b=>e.length<=sizeLine/\PE w ts env X oa st st1 s (.str (al++y++bl)) (.str e b.toks) {b with toks:=b.toks+1}) c:=λt' c ks tk=>by
  refine⟨_,_,rfl,by rw[gq,c8,bu,ae];exact aj (ba _ _) a,?_⟩;refine Joins_cons (wpAny_Constant_str ⟨_,_,rfl,?_,?_⟩)
  .rw[gq,gq,c8,bu,ae,ae];exact a
  .rewrite[gq,gq];refine Joins_nil ⟨by rw[c8,bu,ae,ae];exact a,?_⟩;have d:Keeps s1 {c with toks:=c.toks+1+1}:=pT ks (di _);have f:s1.toks<=c.toks+1+1:=by exact ir tk
   exact⟨.str _ _ (by rw[ae,ae];exact a),g.hs.keep d f,((dF (di _) (Nat.le_succ _)).trans g.kp).trans (dF d f),g.shr⟩
 exact wpAny_formatField_str (fin _ _ (dc _) (aF _)) (fin _ _ (di _) (Nat.le_succ _)) (by rw[c8,bu];exact u)
theorem DR(l:bQ w ts K M k n){vs:List Expr}{pos:Pos}{d:D}(h:(ev K M (n+1) sc (.JoinedStr vs pos) st).run=some (d,st'))(p:eq A k)(q:bC w env sc)(H:b0 w ts env X oa st s.heap)(v:0<s.toks):
 an (model pw w) A (eval (.JoinedStr vs pos) env) (PE w ts env X oa st st' s d) bM s:=by
 rcases vs with _|⟨x,_|⟨z,_|⟨B,_|⟨_,_⟩⟩⟩⟩<;>try (exact cX h)
 refine bv h ?_;clear h;intro a r h;refine bv h ?_;clear h;intro f u h;refine bv h ?_;clear h;intro b t h;refine dz h ?_;clear h;intro m h;refine bB h ?_;clear h;intro d1 st1 i h;refine bv h ?_;clear h;intro y g h;refine ct h ?_;clear h;intro o h;cases h;refine bx m λc j=>?_;replace c:=ar c;replace g:je d1=some y:=bn g;rw[m8 (bn r),Dw (bn u),m8 (bn t),c];rw[d9 g] at i;cases e:f.2.2.1 with
 |some _=>rw[e] at j;exact(ab j).elim
 |none=>exact I1 (al:=bm a.1) (bl:=bm b.1) l i (ar o) p q H v
set_option tactic.hygienic true in
theorem uy(e:Expr)(h:bK e=.pl)(a:Sem ai):isTrue e env a=(do let v<-a;standAt e.pos;holding [v] (truthy v)):=by
 revert h;cases e<;>first|exact λb=>rfl|exact λh=>BK.noConfusion h|skip
 rename_i op x p;cases op<;>first|exact λb=>rfl|exact λh=>BK.noConfusion h
theorem YU(i:bQ w ts K M k n){e:Expr}{c:Bool}(h:(eF K M (n+1) sc e st).run=some (c,st'))(j:eq A k)(g:bC w env sc)(H:b0 w ts env X oa st s.heap)(q:0<s.toks):
 an (model pw w) A (isTrue e env (eval e env)) (PB w ts env X oa st st' s c) bM s:=by
 have h:(match bK e with
  |.no x _=>(eF K M n sc x st).bind λp=>T.ret (!p.1,p.2)
  |.bo op vs _=>(match op with
   |.And=>zO K M n sc vs st
   |.Or=>Sl K M n sc vs st)
  |.ife t b o _=>(eF K M n sc t st).bind λp=>.ask p.1 (eF K M n sc b p.2) (eF K M n sc o p.2)
  |.cmp l z rs _=>N1 K M n sc l z rs st
  |.pl=>(match ji st e with
   |some ds=>.ret (!ds.isEmpty,st)
   |none=>(ev K M n sc e st).bind λp=>(T.opt (gB p.1)).bind λb=>.ret (b,p.2))).run=some (c,st'):=h
 have m:=SW e;cases y:bK e with
 |no x p=>rw[y] at h m;rw[<-m];refine bB h ?_;clear h;intro b st1 u h;cases h;exact wpAny_isTrue_Not (am (i.b _ _ _ _ _ u A env X oa j g s H q) (λE s1 p1=>⟨by rw[p1.rd],p1.hs,p1.kp,p1.shr⟩) λf f x=>x)
 |bo op vs p=>
  rw[y] at h m;rw[<-m];cases op with
  |And=>exact wpAny_isTrue_BoolOp (i.a _ _ _ _ _ h A env X oa j g s H q)
  |Or=>exact wpAny_isTrue_BoolOp (i.o _ _ _ _ _ h A env X oa j g s H q)
 |ife t b o p=>
  rw[y] at h m;rw[<-m];refine bB h ?_;clear h;intro F st1 u h;rw[show isTrue (BK.back (.ife t b o p) e) env (eval (BK.back (.ife t b o p) e) env)=(do if<-isTrue t env (eval t env) then isTrue b env (eval b env) else isTrue o env (eval o env)) from rfl];refine ah (am (i.b _ _ _ _ _ u A env X oa j g s H q) (λE s1 p1=>?_) λf f x=>x);rw[p1.rd];cases F with
  |true=>exact am (i.b _ _ _ _ _ (show(eF K M n sc b st1).run=_ from h) A env X oa j g s1 p1.hs (p1.toks q)) (λv C p2=>⟨p2.rd,p2.hs,p1.kp.trans p2.kp,p1.shr.trans p2.shr⟩) λf f x=>x
  |false=>exact am (i.b _ _ _ _ _ (show(eF K M n sc o st1).run=_ from h) A env X oa j g s1 p1.hs (p1.toks q)) (λv C p2=>⟨p2.rd,p2.hs,p1.kp.trans p2.kp,p1.shr.trans p2.shr⟩) λf f x=>x
 |cmp l z rs p=>rw[y] at h m;rw[<-m];obtain⟨op,r,rfl,rfl,I,J⟩:=i.c _ _ _ _ _ _ _ h A env X oa j g s H q;exact wpAny_isTrue_Compare1 (am J (λa s1 u=>am u (λb C D=>am D (λv N G=>by obtain⟨rfl,p⟩:=G;exact wpAny_truthy_bool p) λf f x=>x) λf f x=>x) λf f x=>x) I
 |pl=>
  rw[y] at h;refine wpAny_isTrue_value ?_ (uy e y _);cases B:ji st e with
  |some ds=>rw[B] at h;cases h;obtain⟨L,f⟩:=ya H B;refine ux g H B (fw (jP (d:=.list ds) rfl L λC ks tk=>⟨rfl,H.keep ks tk,dF ks tk,jD.refl _⟩))
  |none=>rw[B] at h;refine bB h ?_;clear h;intro d1 st1 u h;refine bv h ?_;clear h;intro b D h;cases h;exact am (i.e _ _ _ _ _ u A env X oa j g s H q) (λv s1 p1=>fw (jP (bn D) p1.rd λC ks tk=>⟨rfl,p1.hs.keep ks tk,p1.kp.trans (dF ks tk),p1.shr⟩)) λf f x=>x
theorem YV(b:bQ w ts K M k n){es:List Expr}{c:Bool}(h:(zO K M (n+1) sc es st).run=some (c,st'))(d:eq A k)(f:bC w env sc)(H:b0 w ts env X oa st s.heap)(g:0<s.toks):
 an (model pw w) A (allTrue .And es env) (PB w ts env X oa st st' s c) bM s:=by
 cases es with
 |nil=>cases h;exact wpAny_allTrue_And_nil ⟨rfl,H,Kp.refl _ _,jD.refl _⟩
 |cons e r=>
  refine bB h ?_;clear h;intro l st1 j h;refine wpAny_allTrue_And_cons (am (b.b _ _ _ _ _ j A env X oa d f s H g) (λi s1 p1=>?_) λa a x=>x);have e:=p1.rd;subst e;cases i with
  |true=>exact am (b.a _ _ _ _ _ (show(zO K M n sc r st1).run=_ from h) A env X oa d f s1 p1.hs (p1.toks g)) (λv m p2=>⟨p2.rd,p2.hs,p1.kp.trans p2.kp,p1.shr.trans p2.shr⟩) λa a x=>x
  |false=>cases h;exact p1
theorem YW(b:bQ w ts K M k n){es:List Expr}{c:Bool}(h:(Sl K M (n+1) sc es st).run=some (c,st'))(d:eq A k)(f:bC w env sc)(H:b0 w ts env X oa st s.heap)(g:0<s.toks):
 an (model pw w) A (allTrue .Or es env) (PB w ts env X oa st st' s c) bM s:=by
 cases es with
 |nil=>cases h;exact wpAny_allTrue_Or_nil ⟨rfl,H,Kp.refl _ _,jD.refl _⟩
 |cons e r=>
  refine bB h ?_;clear h;intro l st1 j h;refine wpAny_allTrue_Or_cons (am (b.b _ _ _ _ _ j A env X oa d f s H g) (λi s1 p1=>?_) λa a x=>x);have e:=p1.rd;subst e;cases i with
  |true=>cases h;exact p1
  |false=>exact am (b.o _ _ _ _ _ (show(Sl K M n sc r st1).run=_ from h) A env X oa d f s1 p1.hs (p1.toks g)) (λv m p2=>⟨p2.rd,p2.hs,p1.kp.trans p2.kp,p1.shr.trans p2.shr⟩) λa a x=>x
end
section
variable{w:aq}{ts:Tb}{K:KT}{M:gz}{k n:Nat}{A:aL}{env:Env}{X:List Addr}{oa:Addr}{sc:Sc}{st st':St}{s:af}
theorem fx(e:Expr)(r:List Expr)(h:dD e=false):starEach (e::r) env=(false,eval e env)::starEach r env:=by cases e<;>first|rfl|exact(ab h.symm).elim
theorem mo{e:Expr}{r:List Expr}{ds:List D}(h:(lh K M (n+1) sc (e::r) st).run=some (ds,st')):dD e=false/\((ev K M n sc e st).bind λp=>(lh K M n sc r p.2).bind λq=>T.ret (p.1::q.1,q.2)).run=some (ds,st'):=by
 have h:(match dD e with
  |true=>T.fail
  |false=>(ev K M n sc e st).bind λp=>(lh K M n sc r p.2).bind λq=>T.ret (p.1::q.1,q.2)).run=some (ds,st'):=h
 cases a:dD e with
 |true=>rw[a] at h;exact cX h
 |false=>rw[a] at h;exact⟨rfl,h⟩
theorem hM:∀(es:List Expr) (n:Nat) (st:St) (ds:List D) (st':St),(lh K M n sc es st).run=some (ds,st')->starEach es env=pl (evalEach es env)
 |[],_,_,_,_,_=>rfl
 |e::r,0,st,ds,st',h=>cX h
 |e::r,n+1,st,ds,st',h=>by have d:=mo h;clear h;obtain⟨b,h⟩:=d;refine bB h ?_;clear h;intro d1 st1 f h;refine bB h ?_;clear h;intro a st2 c h;rw[fx e r b,hM r n _ _ _ c];rfl
theorem YX(a:bQ w ts K M k n){es:List Expr}{ds:List D}(h:(lh K M (n+1) sc es st).run=some (ds,st'))(b:eq A k)(c:bC w env sc)(H:b0 w ts env X oa st s.heap)(d:0<s.toks):
 fo w A (evalEach es env) (PL w ts env X oa st st' s ds) s/\starEach es env=pl (evalEach es env):=by
 refine⟨?_,hM _ _ _ _ _ h⟩;cases es with
 |nil=>cases h;exact⟨.nil,H,Kp.refl _ _,jD.refl _⟩
 |cons e r=>have j:=mo h;clear h;obtain⟨m,h⟩:=j;refine bB h ?_;clear h;intro d1 st1 g h;refine bB h ?_;clear h;intro f st2 i h;cases h;refine am (a.e _ _ _ _ _ g A env X oa b c s H d) (λv s1 p1=>?_) λl l x=>x;refine((a.l _ _ _ _ _ i A env X oa b c s1 p1.hs (p1.toks d)).1).mono λvs o p2=>?_;exact⟨.cons (p1.rd.on p1.hs p2.kp p2.shr) p2.rd,p2.hs,p1.kp.trans p2.kp,p1.shr.trans p2.shr⟩
theorem YY(z:bQ w ts K M k n){l:Expr}{f:List CmpOp}{rs:List Expr}{c:Bool}(h:(N1 K M (n+1) sc l f rs st).run=some (c,st'))(t:eq A k)(u:bC w env sc)(H:b0 w ts env X oa st s.heap)(D:0<s.toks):
 ∃op r,f=[op]/\rs=[r]/\behindInMarks op r=false/\an (model pw w) A (eval l env) (λa m=>an (model pw w) A (eval r env) (λb o=>an (model pw w) A (compareOp op a b)
  (λv s'=>v=.bool c/\PB w ts env X oa st st' s c c s') bM o) bM m) bM s:=by
 have J:A.units+10<cLine:=by have:=t.u;exact ir this
 rcases f with _|⟨op,_|⟨_,_⟩⟩<;>try (exact cX h)
 rcases rs with _|⟨r,_|⟨_,_⟩⟩<;>try (exact cX h)
 refine dz h ?_;clear h;intro P h;have Q:behindInMarks op r=false:=by cases r<;>first|rfl|exact(ab P).elim
 refine⟨op,r,rfl,rfl,Q,?_⟩;cases I:ji st r with
 |some L=>
  rw[I] at h;refine bv h ?_;clear h;intro y j h;refine bB h ?_;clear h;intro d1 st1 B h;refine bv h ?_;clear h;intro ds i h;refine ct h ?_;clear h;intro C h;cases h;replace i:=bn i;replace j:=bn j;refine bx C λN O=>?_;refine am (z.e _ _ _ _ _ B A env X oa t u s H D) (λv s1 p1=>?_) λp p x=>x;obtain⟨S,R,d,g,q⟩:=ya p1.hs i;refine ux u p1.hs i ?_;obtain⟨e,F,E⟩:=uu (A:=A) q p1.rd (gT.refl _) N O J;have G:s1.heap.IsList oa d:=⟨_,g,rfl,_,rfl⟩;cases op<;>try (exact cX j)
  .cases j;exact in_listAt e G F (by rw[E];exact⟨rfl,rfl,p1.hs,p1.kp,p1.shr⟩)
  .cases j;exact notIn_listAt e G F (by rw[E];exact⟨rfl,rfl,p1.hs,p1.kp,p1.shr⟩)
 |none=>rw[I] at h;refine bB h ?_;clear h;intro d1 st1 B h;refine bB h ?_;clear h;intro d2 st2 i h;refine bv h ?_;clear h;intro b C h;cases h;refine am (z.e _ _ _ _ _ B A env X oa t u s H D) (λv s1 p1=>am (z.e _ _ _ _ _ i A env X oa t u s1 p1.hs (p1.toks D)) (λU T p2=>?_) λp p x=>x) λp p x=>x;exact su C (p1.rd.on p1.hs p2.kp p2.shr) p2.rd J ⟨rfl,rfl,p2.hs,p1.kp.trans p2.kp,p1.shr.trans p2.shr⟩
set_option tactic.hygienic true in
theorem fW{o:Expr}{a:Str}{b:Sem ai}(h:iV o=false):attributeBase o a env b=b:=by
 revert h;cases o<;>first|exact λd=>rfl|skip
 rename_i f args c pos;cases f<;>first|exact λd=>rfl|skip
 cases args with
 |cons _ _=>exact λd=>rfl
 |nil=>
  cases c with
  |cons _ _=>exact λd=>rfl
  |nil=>exact λh=>(ab h.symm).elim
theorem DS{α:Type}{l:List α}{i:Nat}{a:α}(h:(T.opt l[i]?).run=some a):l[i]?=some a:=bn h
theorem uz{i:Nat}{o:Ob}{v:ai}{g:Gx}(H:b0 w ts env X oa st s.heap)(b:st.ob[i]?=some o)(r:Rd g ts v (.obj i)):∃p,v=.ref p.1/\ts[i]?=some p/\SZ w (bJ (st.hid X oa) s.heap) ts s.heap o p:=by obtain⟨p,a,e⟩:=Yd r;exact⟨p,e,a,H.obs.each _ _ _ b a⟩
theorem p9{g:Gx}{es:List bj}{r:List (Nm×D)}(a:mc w g ts es r):es.any (·.refKey)=false:=
 mc.rec (motive:=λes b b=>es.any (·.refKey)=false) rfl (λb b c=>by rw[List.any_cons,c];rfl) a
theorem DT{g:Gx}{es:List bj}{r:List (Nm×D)}(h:mc w g ts es r){m:Str}(k:∀e∈es,e.key.isStr m=false):getL m es=some none:=by unfold getL;rw[List.find?_eq_none.mpr λe a q=>by rw[k e a] at q;cases q];dsimp only;rw[p9 h];rfl
theorem vO{g:Gx}{es:List bj}{r:List (Nm×D)}(h:mc w g ts es r):∀{x:Nm} {d:D},dR r x=some d->∃e,es.find? (·.key.isStr (S x))=some e/\Rd g ts e.val d:=by
 induction h with
 |nil=>intro x d h;cases h
 |@cons y t v i es r rd _ f=>
  intro x d h;rw[cg] at h;by_cases e:y=x
  .rw[aH e] at h;cases h;subst e;refine⟨_,List.find?_cons_of_pos ?_,rd⟩;show(S y==S y)=true;exact beq_self_eq_true _
  .rw[av e] at h;obtain⟨a,b,c⟩:=f h;refine⟨a,?_,c⟩;rw[List.find?_cons_of_neg]
   .exact b
   .show ¬(S y==S x)=true;rw[sk,eC];exact e
theorem vP(P:fz w ts K k)(F:vv w M)(N:bQ w ts K M k n){o:Expr}{a:Str}{pos:Pos}{d:D}(h:(ev K M (n+1) sc (.Attribute o a pos) st).run=some (d,st'))(G:eq A k)(U:bC w env sc)(H:b0 w ts env X oa st s.heap)(ht:0<s.toks):
 an (model pw w) A (eval (.Attribute o a pos) env) (PE w ts env X oa st st' s d) bM s:=by
 refine dz h ?_;clear h;intro R h;refine bB h ?_;clear h;intro d1 st1 m h;refine bx R λc W=>?_;rw[aN] at c;have step:∀Q:ai->af->Prop,an (model pw w) A (eval o env) (λv s1=>an (model pw w) A (getAttr v a true) Q bM s1) bM s->an (model pw w) A (eval (.Attribute o a pos) env) Q bM s:=λQ Z=>by
  show an (model pw w) A (do
   let E<-attributeBase o a env (eval o env)
   standAt pos.atName
   let r<-holding [E] (getAttr E a true)
   letTemporaryGo o E r
   pure r) Q bM s
  rw[fW c];exact ah (am Z (λv s1 m=>ah (wpAny_standAt (ah (wpAny_holding (am m (λr s2 g=>ah (wpAny_letTemporaryGo (ay g))) λj j x=>x))))) λj j x=>x)
 refine step _ (am (N.e _ _ _ _ _ m A env X oa G U s H ht) (λv s1 p1=>?_) λj j x=>x);refine bv h ?_;clear h;intro i C h;refine bv h ?_;clear h;intro ob g h;replace g:=DS g;replace C:d1=.obj i:=pB (bn C);obtain⟨p,rfl,Y,ok⟩:=uz p1.hs g (C▸p1.rd);obtain⟨es,J,I,u⟩:=ok.dict;cases b:M.pr ob.C (bm a) with
 |some f=>
  have h:((K.fn f [.obj i] st1.ob).bind λd=>T.gd (ol d.1) (T.ret (d.1,(⟨st1.v,st1.ow,d.2⟩:St)))).run=some (d,st'):=by dsimp only at h;rw[b] at h;exact h
  refine bB h ?_;clear h;intro d2 aa t h;refine dz h ?_;clear h;intro y h;cases h;refine F.pr _ _ _ b A s1 _ p es J p1.hs.base ok.inst I ?_;refine codeAny_mono (P.fn _ _ _ _ _ t A.in1 (st1.hid X oa) [.ref p.1] {s1 with toks:=s1.toks+1} G.in1 p1.hs.base p1.hs.obs (.cons (.obj Y) .nil) p1.hs.hid (Nat.succ_pos _)) (λrr s2 z=>z.mono λv q=>?_);obtain⟨r,B,O,l⟩:=q;replace l:=(ut 1).trans l;exact⟨na y r,r,p1.hs.kp l B O,p1.kp.trans l,p1.shr⟩
 |none=>
  have h:(T.gd (M.fr ob.C (bm a)) ((T.opt (dR ob.at_ (bm a))).bind λd=>T.gd (ol d) (T.ret (d,st1)))).run=some (d,st'):=by dsimp only at h;rw[b] at h;exact h
  refine dz h ?_;clear h;intro S h;refine bv h ?_;clear h;intro d2 t h;refine dz h ?_;clear h;intro y h;cases h;obtain⟨e,V,L⟩:=vO u (bn t);exact F.get _ _ S A s1 _ p es J e p1.hs.base ok.inst I V (na y L) (p1.step (.quiet p1.hs (di _) (Nat.le_succ _) L))
end
section
variable{w:aq}{ts:Tb}{K:KT}{M:gz}{k n:Nat}{A:aL}{env:Env}{X:List Addr}{oa:Addr}{sc:Sc}{st st':St}{s:af}
theorem Ng{A:aL}{f:ai}{vs:List ai}{Q:ai->af->Prop}{s:af}(h:codeAny (model pw w) A (.call f ⟨vs,[]⟩) (RV Q) s):an (model pw w) A (call f vs) Q bM s:=wpAny_call h
theorem DU{g:Gx}{es:List bj}{r:List (Nm×D)}(h:mc w g ts es r):∀{x:Nm},dR r x=none->∀e∈es,e.key.isStr (S x)=false:=by
 induction h with
 |nil=>intro x _ e a;cases a
 |@cons y t v i es r rd _ d=>
  intro x b e a;rw[cg] at b;by_cases c:y=x
  .rw[aH c] at b;cases b
  .rw[av c] at b;rcases ao.mp a with f|a
   .rw[f];show(S y==S x)=false;rw[sk,eM];exact c
   .exact d b e a
theorem b0.keep'(H:b0 w ts env X oa st s.heap){s':af}(k:Keeps s s'):b0 w ts env X oa st s'.heap:=by obtain⟨h',tk,rfl,k⟩:=k;exact H.keep (s':={s with heap:=h',toks:=s.toks}) ⟨h',s.toks,rfl,k⟩ (aF _)
theorem uA{s1 c:af}(a:Kp ts s s1)(k:Keeps s1 c)(t:s.toks<=c.toks):Kp ts s c:=by obtain⟨h,t1,rfl,l1,f⟩:=a;obtain⟨d,t2,rfl,g⟩:=k;exact⟨d,t2,rfl,t,λb o e n m=>g b o (f b o e n m)⟩
theorem DV{name:Str}{g:ai}{pos:Pos}{args:List (Bool×Sem ai)}{Q:ai->af->Prop}(h:MethodOnS pw w A bM name g pos args (λv s'=>s.toks<=s'.toks->Q v s') s):MethodOnS pw w A bM name g pos args Q s:=by obtain⟨T,id,a,b,c,d,e,f⟩:=h;exact⟨T,id,a,b,c,d,e,fw f⟩
theorem jl:∀es:List Expr,(evalEach es env).length=es.length
 |[]=>rfl
 |e::r=>aU (·+1) (jl r)
theorem iM{pos:Pos}:backToKw pos (keywordEach [] env)=[]:=rfl
theorem sB{e:Expr}(h:ur e=true):∃x k p,e=.Constant (.str x) k p:=by
 cases a:m6 e with
 |none=>unfold ur at h;rw[a] at h;exact(ab h).elim
 |some r=>exact⟨_,_,_,m8 a⟩
theorem DW{x:Str}{a:Nat}{p:Pos}{d:D}{st1:St}(h:(ev K M n sc (.Constant (.str x) a p) st).run=some (d,st1)):(bm x).length<=br/\d=.str (bm x)/\st1=st:=by
 cases n with
 |zero=>exact cX h
 |succ n=>exact dz h λl h=>by cases h;exact⟨Nat.le_of_ble_eq_true l,rfl,rfl⟩
theorem I3{a b:Expr}{ds:List D}{st1 st2:St}(h:(lh K M n sc [a,b] st1).run=some (ds,st2)):∃m d1 d2 d,(ev K M (m+1) sc a st1).run=some (d1,d)/\(ev K M m sc b d).run=some (d2,st2)/\ds=[d1,d2]:=by
 cases n with
 |zero=>exact cX h
 |succ n=>
  have e:=mo h;clear h;obtain⟨k,h⟩:=e;refine bB h ?_;clear h;intro d1 d g h;refine bB h ?_;clear h;intro dr sb c h;cases h;cases n with
  |zero=>exact cX c
  |succ n=>
   have e:=mo c;clear c;obtain⟨k,c⟩:=e;refine bB c ?_;clear c;intro d2 j i c;refine bB c ?_;clear c;intro d3 sd f c;cases c;cases n with
   |zero=>exact cX f
   |succ n=>cases f;exact⟨_,d1,d2,d,g,i,rfl⟩
theorem yc{args:List Expr}{ds:List D}{st1 st2:St}{s1:af}(d:fb args=true)(k:(lh K M n sc args st1).run=some (ds,st2))(H:b0 w ts env X oa st1 s1.heap)(q:0<s1.toks):
 fo w A (evalEach args env) (λvs r=>PL w ts env X oa st1 st2 s1 ds vs r/\DM vs) s1:=by
 rcases args with _|⟨a,_|⟨b,_|⟨_,_⟩⟩⟩<;>try (exact(ab d).elim)
 refine bx d λo p=>?_;obtain⟨x,s,pa,rfl⟩:=sB o;obtain⟨y,kb,t,rfl⟩:=sB p;obtain⟨m,d1,d2,z,j,l,e⟩:=I3 k;obtain⟨l1,f,g⟩:=DW j;obtain⟨l2,h,i⟩:=DW l;rw[e,f,h,i,g];refine wpAny_Constant_str (wpAny_Constant_str ⟨⟨.cons (.str (bm x) _ l1) (.cons (.str (bm y) _ l2) .nil),H.keep (s':={s1 with toks:=s1.toks+1+1}) ⟨_,_,rfl,λc c e=>e⟩ (Nat.le_succ_of_le (Nat.le_succ _)),dF ⟨_,_,rfl,λc c e=>e⟩ (Nat.le_succ_of_le (Nat.le_succ _)),jD.refl _⟩,?_⟩);intro B u C v e;cases e;exact⟨Nat.pos_iff_ne_zero.mp q,Nat.succ_ne_zero _,Nat.ne_of_lt (bh _)⟩
theorem DX{args:List Expr}{pos:Pos}(b:starEach args env=pl (evalEach args env))(a:args.length<20):((backTo pos (starEach args env)).all (λx=>!x.1)&&(backToKw pos (keywordEach [] env)).all (λx=>x.1.isSome)
 &&decide (args.length+([]:List Keyword).length+(if([]:List Keyword).isEmpty then 0 else 1)<30))=true:=by
 rw[b,dP,iM];have:(pl (evalEach args env)).all (λx=>!x.1)=true:=by
  refine xr (evalEach args env) λl=>?_
  induction l with
  |nil=>rfl
  |cons _ _ c=>exact c
 rw[this];simp;exact aj a (aB _ _)
section
variable{o:Expr}{a:Str}{apos:Pos}{args:List Expr}{pos:Pos}{d:D}{st1 st2:St}{ds:List D}
theorem S4(z:fz w ts K k)(p:bQ w ts K M k n){x:List Nat}(B:(ev K M n sc o st).run=some (.str x,st1))(j:(lh K M n sc args st1).run=some (ds,st2))(b:(!cr (bm a) cR||fb args)=true)(C:(K.sm x (bm a) ds).run=some d)(m:iV o=false)(e:(apos.endLine==pos.line)=true)(f:args.length<20)
 (l:eq A k)(u:bC w env sc)(H:b0 w ts env X oa st s.heap)(h:0<s.toks):an (model pw w) A (eval (.Call (.Attribute o a apos) args [] pos) env) (PE w ts env X oa st st2 s d) bM s:=by
 have g:=hM (env:=env) _ _ _ _ _ j;refine wpAny_Call_method_lateS (fW m) (DX g f) e (am (p.e _ _ _ _ _ B A env X oa l u s H h) (λv s1 p1=>?_) λy y x=>x);rw[g,dP];obtain⟨t,rfl,E⟩:=m9 p1.rd;have c:fo w A (evalEach args env) (λvs i=>PL w ts env X oa st1 st2 s1 ds vs i/\(cr (bm a) cR=true->DM vs)) s1:=by
  cases D:cr (bm a) cR with
  |false=>exact(p.l _ _ _ _ _ j A env X oa l u s1 p1.hs (p1.toks h)).1.mono λvs i p2=>⟨p2,λq=>(ab q).elim⟩
  |true=>rw[D] at b;exact(yc b j p1.hs (p1.toks h)).mono λvs i p2=>⟨p2.1,λy=>p2.2⟩
 refine DV (z.sm _ _ _ _ C A (st2.hid X oa) pos (evalEach args env) s1 _ t l E (c.mono λvs i p2=>⟨p2.1.hs.base,p2.1.rd,p2.1.hs.hid,p2.1.toks (p1.toks h),p2.2,λv F r ks tk=>?_⟩));exact⟨r,p2.1.hs.keep' ks,p1.kp.trans (uA p2.1.kp ks tk),p1.shr.trans p2.1.shr⟩
theorem S5(m:fz w ts K k)(i:bQ w ts K M k n){r:Addr}(p:(ev K M n sc o st).run=some (.raw r,st1))(j:(lh K M n sc args st1).run=some (ds,st2))(q:(K.rm r (bm a) ds).run=some d)(g:iV o=false)(b:(apos.endLine==pos.line)=true)(c:args.length<20)
 (f:eq A k)(l:bC w env sc)(H:b0 w ts env X oa st s.heap)(h:0<s.toks):an (model pw w) A (eval (.Call (.Attribute o a apos) args [] pos) env) (PE w ts env X oa st st2 s d) bM s:=by
 have e:=hM (env:=env) _ _ _ _ _ j;refine wpAny_Call_method_lateS (fW g) (DX e c) b (am (i.e _ _ _ _ _ p A env X oa f l s H h) (λv s1 p1=>?_) λt t x=>x);rw[e,dP,WJ p1.rd];refine DV (m.rm _ _ _ _ q A (st2.hid X oa) pos (evalEach args env) s1 _ f p1.hs.base ((i.l _ _ _ _ _ j A env X oa f l s1 p1.hs (p1.toks h)).1.mono λvs u p2=>⟨p2.hs.base,p2.rd,p2.hs.hid,p2.toks (p1.toks h),λv y r ks tk=>?_⟩));exact⟨r,p2.hs.keep' ks,p1.kp.trans (uA p2.kp ks tk),p1.shr.trans p2.shr⟩
theorem S6(C:fz w ts K k)(J:vv w M)(z:bQ w ts K M k n){i:Nat}{ob:Ob}{f:Addr}{c:List Ob}(L:(ev K M n sc o st).run=some (.obj i,st1))(D:(lh K M n sc args st1).run=some (ds,st2))(N:st1.ob[i]?=some ob)(E:isNone (dR ob.at_ (bm a))=true)(P:M.me ob.C (bm a)=some f)(F:(K.fn f (.obj i::ds) st2.ob).run=some (d,c))(m:iV o=false)(b:(apos.endLine==pos.line)=true)(h:args.length<20)
 (l:eq A k)(G:bC w env sc)(H:b0 w ts env X oa st s.heap)(u:0<s.toks):an (model pw w) A (eval (.Call (.Attribute o a apos) args [] pos) env) (PE w ts env X oa st ⟨st2.v,st2.ow,c⟩ s d) bM s:=by
 have t:=hM (env:=env) _ _ _ _ _ D;rw[arm_eval_Call,fW m];refine ah (am (z.e _ _ _ _ _ L A env X oa l G s H u) (λv s1 p1=>ah (wpAny_standAt ?_)) λy y x=>x);rw[t,dP];obtain⟨p,rfl,S,ok⟩:=uz p1.hs N p1.rd;obtain⟨es,T,Q,g⟩:=ok.dict;have R:dR ob.at_ (bm a)=none:=by
  cases e:dR ob.at_ (bm a) with
  |none=>rfl
  |some _=>rw[e] at E;exact(ab E).elim
 have j:=J.me _ _ _ P A env o apos pos (evalEach args env) s1 (PE w ts env X oa st ⟨st2.v,st2.ow,c⟩ s d) p es T p1.hs.base ok.inst Q (DT g (DU g R)) b (by rw[jl];exact h);rw[jl] at j;refine j (fw (C.cw _ _ _ _ F A pos [.ref p.1] (evalEach args env) s1 _ ((z.l _ _ _ _ _ D A env X oa l G s1 p1.hs (p1.toks u)).1.mono λvs U p2=>⟨p2.hs.base,?_⟩)));refine am (Ng (C.fn _ _ _ _ _ F A (st2.hid X oa) (.ref p.1::vs) U l.one p2.hs.base p2.hs.obs (.cons (.obj S) p2.rd) p2.hs.hid (p2.toks (p1.toks u)))) (λv V q tk=>?_) λy y x=>x;obtain⟨r,B,O,I⟩:=q;exact⟨r,p2.hs.kp I B O,p1.kp.trans (p2.kp.trans I),p1.shr.trans p2.shr⟩
end
theorem I4(u:fz w ts K k)(F:vv w M)(t:bQ w ts K M k n){o:Expr}{a:Str}{apos:Pos}{args:List Expr}{pos:Pos}{d:D}(h:(T.gd (!iV o&&Nat.beq apos.endLine pos.line&&Nat.blt args.length 20)<|(ev K M n sc o st).bind λp=>(lh K M n sc args p.2).bind λq=>match je p.1 with
        |some x=>T.gd (!cr (bm a) cR||fb args) ((K.sm x (bm a) q.1).bind λd=>T.ret (d,q.2))
        |none=>(match lj p.1 with
         |some r=>(K.rm r (bm a) q.1).bind λd=>.ret (d,q.2)
         |none=>(T.opt (Iz p.1)).bind λi=>(T.opt p.2.ob[i]?).bind λo=>.gd (isNone (dR o.at_ (bm a)))<|(T.opt (M.me o.C (bm a))).bind λf=>(K.fn f (.obj i::q.1) q.2.ob).bind λd=>.ret (d.1,(⟨q.2.v,q.2.ow,d.2⟩:St)))).run=some (d,st'))(z:eq A k)(B:bC w env sc)(H:b0 w ts env X oa st s.heap)(E:0<s.toks):
 an (model pw w) A (eval (.Call (.Attribute o a apos) args [] pos) env) (PE w ts env X oa st st' s d) bM s:=by
 refine dz h ?_;clear h;intro m h;refine bB h ?_;clear h;intro d1 st1 g h;refine bB h ?_;clear h;intro ds st2 y h;refine bx m ?_;clear m;intro m c;refine bx m λe b=>?_;rw[aN] at e;replace b:(apos.endLine==pos.line)=true:=by rw[beq_iff_eq];exact au b
 replace c:args.length<20:=Nat.le_of_ble_eq_true c;cases ex:je d1 with
 |some x=>dsimp only at h;rw[ex] at h;rw[d9 ex] at g;refine dz h ?_;clear h;intro l h;refine bv h ?_;clear h;intro d2 j h;cases h;exact S4 u t g y l j e b c z B H E
 |none=>
  dsimp only at h;rw[ex] at h;dsimp only at h;cases v:lj d1 with
  |some r=>rw[v] at h;rw[pC v] at g;refine bv h ?_;clear h;intro d2 j h;cases h;exact S5 u t g y j e b c z B H E
  |none=>rw[v] at h;refine bv h ?_;clear h;intro i C h;refine bv h ?_;clear h;intro ob j h;refine dz h ?_;clear h;intro G h;refine bv h ?_;clear h;intro f I h;refine bB h ?_;clear h;intro d6 L J h;cases h;replace C:d1=.obj i:=pB (bn C);rw[C] at g;exact S6 u F t g y (DS j) G (bn I) J e b c z B H E
theorem yd{f:Expr}{args:List Expr}{pos:Pos}(a:fk f=none):eval (.Call f args [] pos) env=(do callWith pos (<-eval f env) [] (backTo pos (starEach args env)) (backToKw pos (keywordEach [] env))):=by revert a;cases f<;>first|exact λb=>rfl|exact λa=>cX a.symm
theorem I5(j:fz w ts K k)(N:vv w M)(t:bQ w ts K M k n){f:Expr}{args:List Expr}{pos:Pos}{d:D}(I:fk f=none)(h:((ev K M n sc f st).bind λp=>(lh K M n sc args p.2).bind λq=>(iw K p.1 q.1 q.2.ob).bind λd=>T.ret (d.1,(⟨q.2.v,q.2.ow,d.2⟩:St))).run=some (d,st'))(g:eq A k)(y:bC w env sc)(H:b0 w ts env X oa st s.heap)(i:0<s.toks):
 an (model pw w) A (eval (.Call f args [] pos) env) (PE w ts env X oa st st' s d) bM s:=by
 refine bB h ?_;clear h;intro d1 st1 E h;refine bB h ?_;clear h;intro ds st2 u h;refine bB h ?_;clear h;intro d3 J c h;cases h;have m:=hM (env:=env) _ _ _ _ _ u;rw[yd I];refine ah (am (t.e _ _ _ _ _ E A env X oa g y s H i) (λv s1 p1=>?_) λo o x=>x);rw[m,dP,iM];have e:=(t.l _ _ _ _ _ u A env X oa g y s1 p1.hs (p1.toks i)).1;have rd:=p1.rd;unfold iw at c;dsimp only at c;cases l:lj d1 with
 |some a=>rw[l] at c;rw[pC l] at rd;rw[WJ rd];refine fw (j.cw _ _ _ _ c A pos [] (evalEach args env) s1 _ (e.mono λvs C p2=>⟨p2.hs.base,?_⟩));refine am (Ng (j.fn _ _ _ _ _ c A (st2.hid X oa) vs C g.one p2.hs.base p2.hs.obs p2.rd p2.hs.hid (p2.toks (p1.toks i)))) (λv L q tk=>?_) λo o x=>x;obtain⟨r,B,O,z⟩:=q;exact⟨r,p2.hs.kp z B O,p1.kp.trans (p2.kp.trans z),p1.shr.trans p2.shr⟩
 |none=>rw[l] at c;refine bv c ?_;clear c;intro b G c;refine bv c ?_;clear c;intro P F c;cases c;rw[um (bn G)] at rd;rw[N6 rd];refine fw (j.bi _ _ _ F A (st2.hid X oa) pos (evalEach args env) s1 _ g (e.mono λvs C p2=>⟨p2.hs.base,p2.rd,p2.hs.hid,p2.toks (p1.toks i),λv L r ks tk=>?_⟩));exact⟨r,p2.hs.keep' ks,p1.kp.trans (uA p2.kp ks tk),p1.shr.trans p2.shr⟩
end
structure jm(env:Env)(h h':Heap)(x:Str)(v:ai):Prop where
 new:zR env h' x v
 old:∀y u,y≠x->zR env h y u->zR env h' y u
 loc:∃m,h'.Ns env.locals m
 cel:∀y c,env.cells.lookup y=some c->∃u,h'.IsCell c u
 keep:∀b o,b≠env.locals->(∀c,env.cells.lookup x=some c->b≠c)->h.get? b=some o->h'.get? b=some o
theorem jn{h:Heap}{a c:Addr}{m:Str->Option ai}{u:Option ai}(g:h.Ns a m)(e:h.IsCell c u):c≠a:=by rintro rfl;obtain⟨o,es,ep,i,f,k⟩:=g;obtain⟨j,d,b⟩:=e;rw[i] at d;cases d;rw[f] at b;cases b
section
variable{w:aq}{ts:Tb}{A:aL}{env:Env}{sc:Sc}{s:af}
set_option tactic.hygienic true in
theorem gr{x:Nm}{v:ai}{Q:Unit->af->Prop}(r:bC w env sc)(B:jG (kd sc x)=true)(z:∃m,s.heap.Ns env.locals m)(g:∀y c,env.cells.lookup y=some c->∃u,s.heap.IsCell c u)
 (k:∀h' tk,s.toks<=tk->jm env s.heap h' (S x) v->Q () {s with heap:=h',toks:=tk}):an (model pw w) A (storeName env (S x) v) Q bM s:=by
 obtain⟨m,n⟩:=z;have d:=r.kind x;cases H:kd sc x with
 |none=>rw[H] at B;exact(ab B).elim
 |some kk=>
  rw[H] at B d;cases kk<;>try (exact(ab B).elim)
  case «local»=>
   refine wpAny_storeName_local d n (λh' p j=>k h' _ (Nat.le_succ _) ⟨.inl ⟨d,_,p,by simp⟩,λy u F f=>?_,⟨_,p⟩,λy c h=>?_,λb o D J e=>(j.2 b D).trans e⟩) (by rw[r.k];rfl)
   .rcases f with⟨a,m2,i,f⟩|⟨a,c,h,f⟩
    .refine .inl ⟨a,_,p,?_⟩;rw[av F];rw[show m=m2 from n.eq_nsMap.trans i.eq_nsMap.symm];exact f
    .exact .inr ⟨a,c,h,f.sameBut j (jn n f)⟩
   .obtain⟨u,C⟩:=g y c h;exact⟨u,C.sameBut j (jn n C)⟩
  case cell=>
   obtain⟨c,h⟩:=r.has _ (.inl d);obtain⟨K,l⟩:=g _ _ h;refine wpAny_storeName_cell r.k d h l (λh' p j=>k h' _ (aF _) ⟨.inr ⟨.inl d,c,h,p⟩,λy u F f=>?_,?_,λy G E=>?_,λb o J D e=>(j.2 b (D _ h)).trans e⟩)
   .rcases f with⟨a,m2,i,f⟩|⟨a,I,t,f⟩
    .exact .inl ⟨a,m2,i.sameBut j (jn i l).symm,f⟩
    .refine .inr ⟨a,I,t,f.sameBut j λq=>F ?_⟩;subst q;exact r.apart _ _ _ t h
   .exact⟨m,n.sameBut j (jn n l).symm⟩
   .by_cases q:G=c
    .subst q;exact⟨_,p⟩
    .obtain⟨u,C⟩:=g y G E;exact⟨u,C.sameBut j q⟩
end
structure CF(h:Heap)(n0:Nat)(cs:List (Str×Addr)):Prop where
 inj:∀x y c,cs.lookup x=some c->cs.lookup y=some c->x=y
 new:∀x c,cs.lookup x=some c->n0<=c->h.IsCell c none
 lt:∀x c,cs.lookup x=some c->c<h.objs.size
theorem dG{x k:Str}{v:Addr}{r:List (Str×Addr)}:List.lookup x ((k,v)::r)=if x=k then some v else r.lookup x:=by
 rw[List.lookup_cons];by_cases h:x=k
 .rw[aH h,show(x==k)=true from beq_iff_eq.mpr h]
 .rw[av h,show(x==k)=false from beq_eq_false_iff_ne.mpr h]
theorem uB:∀(f:List (Str×NameKind)) (h:Heap) (n0:Nat) (g:List (Str×Addr)),CF h n0 g->n0<=h.objs.size->
 CF (pushCells h f) n0 (cellsFrom h.objs.size f g)/\(∀x,(g.lookup x).isSome=true->((cellsFrom h.objs.size f g).lookup x).isSome=true)/\
 (∀x,(x,NameKind.cell)∈f->((cellsFrom h.objs.size f g).lookup x).isSome=true)/\
 (∀x c,(cellsFrom h.objs.size f g).lookup x=some c->c<h.objs.size->g.lookup x=some c)/\
 (∀x c,g.lookup x=some c->(x,NameKind.cell)∉f->(cellsFrom h.objs.size f g).lookup x=some c)
 |[],h,n0,g,x,l=>⟨x,λm e=>e,λm e=>by simp at e,λm m e m=>e,λm m e m=>e⟩
 |(name,i)::r,h,n0,g,x,l=>by
  unfold pushCells cellsFrom;by_cases n:(i==NameKind.cell)=true
  .rw[aH n,aH n];have v:i=.cell:=by cases i<;>first|rfl|exact(ab n).elim
   have p:CF (h.push {cls:=.type "cell",data:=.cell none}) n0 ((name,h.objs.size)::g):=⟨λa b c d k=>by
    rw[dG] at d k;by_cases j:a=name<;>by_cases eb:b=name
    .rw[j,eb]
    .rw[aH j] at d;rw[av eb] at k;cases d;exact aK (x.lt _ _ k) (Nat.lt_irrefl _)
    .rw[av j] at d;rw[aH eb] at k;cases k;exact aK (x.lt _ _ d) (Nat.lt_irrefl _)
    .rw[av j] at d;rw[av eb] at k;exact x.inj _ _ _ d k,λa c d s=>by
    rw[dG] at d;by_cases j:a=name
    .rw[aH j] at d;cases d;exact⟨_,aT _ rfl,rfl⟩
    .rw[av j] at d;exact(x.new _ _ d s).keeps λb o e=>aA _ e,λa c d=>by
    rw[Heap.size_push];rw[dG] at d;by_cases j:a=name
    .rw[aH j] at d;cases d;exact bh _
    .rw[av j] at d;exact Nat.lt_succ_of_lt (x.lt _ _ d)⟩
   have C:=uB r _ n0 _ p (by rw[Heap.size_push];exact Nat.le_succ_of_le l);rw[Heap.size_push] at C;obtain⟨y,u,z,A,B⟩:=C;refine⟨y,λa d=>u a ?_,λa d=>?_,λa c d s=>?_,λa c d t=>?_⟩
   .rw[dG];split
    .rfl
    .exact d
   .rcases ao.mp d with e|d
    .cases e;exact u _ (by rw[dG,aH rfl];rfl)
    .exact z a d
   .have:=A a c d (Nat.lt_succ_of_lt s);rw[dG] at this
    split at this
    .cases this;exact aK s (Nat.lt_irrefl _)
    .exact this
   .refine B a c ?_ λw=>t (.tail _ w);rw[dG,av λq=>t (by subst q;subst v;exact .head _)];exact d
  .rw[av n,av n];obtain⟨y,u,z,A,B⟩:=uB r h n0 g x l;refine⟨y,u,λa d=>?_,A,λa c d t=>B a c d λw=>t (.tail _ w)⟩;rcases ao.mp d with e|d
   .cases e;exact aK rfl n
   .exact z a d
section
variable{w:aq}{A:aL}{env:Env}{s:af}
abbrev vQ(a:Scope)(b:List (Str×Addr))(L:Addr)(env:Env):Env:=
 {scope:=a,locals:=L,globals:=env.globals,cells:=cellsFrom (L+1) a.names b,qual:=env.qual,func:=none,code:=env.code,frame:=env.frame,builtins:=env.builtins}
theorem DY{a:Scope}{e:List (Str×Addr)}{Q:Env->af->Prop}
 (g:∀f,f=s.heap.push {cls:=.type "dict",data:=.dict #[]}->Q (vQ a e s.heap.objs.size env) {s with heap:=pushCells f a.names}):
 an (model pw w) A (newFunctionEnv a env.globals e [] env.qual none .none (some env)) Q bM s:=by
 simp only[newFunctionEnv,Option.isSome_some,if_true];refine ah (wpAny_alloc ?_);refine ah (wpAny_layCells _ (λname b c=>by cases d:b==NameKind.cell<;>simp[d]) _ _ _ _ ?_);rw[show({s with heap:=s.heap.push {cls:=.type "dict",data:=.dict #[]}}:af).heap.objs.size=s.heap.objs.size+1 from Heap.size_push ..];exact ah (ay (ay (g _ rfl)))
end
def jy(env:Env):List (Str×NameKind)->List (Str×Addr)->List (Str×Addr)
 |[],a=>a
 |(name,b)::r,a=>if b==.free then jy env r ((name,(env.cells.lookup name).getD 0)::a) else jy env r a
theorem o7{env:Env}{name:Str}{a:NameKind}{r:List (Str×NameKind)}{b:List (Str×Addr)}:jy env ((name,a)::r) b=if a==.free then jy env r ((name,(env.cells.lookup name).getD 0)::b) else jy env r b:=rfl
theorem jo{env:Env}:∀(a:List (Str×NameKind)) (b:List (Str×Addr)),(∀x,(x,NameKind.free)∈a->∃c,env.cells.lookup x=some c)->
 (forIn a b (λp k=>do
  if p.2==.free then pure (.yield ((p.1,<-cellOf env p.1)::k)) else pure (.yield k)):Sem (List (Str×Addr)))=pure (jy env a b)
 |[],b,_=>rfl
 |(name,d)::r,b,h=>by
  rw[List.forIn_cons,o7];by_cases f:(d==NameKind.free)=true
  .have g:d=.free:=by cases d<;>first|rfl|exact(ab f).elim
   subst g;obtain⟨c,l⟩:=h name (.head _);have j:=jo r ((name,(env.cells.lookup name).getD 0)::b) λx i=>h x (.tail _ i);rw[aH f,aH f];have e:cellOf env name=pure c:=by unfold cellOf;rw[l]
   rw[<-j,e,l];rfl
  .have j:=jo r b λx i=>h x (.tail _ i);rw[av f,av f,<-j];rfl
theorem lE{env:Env}{a:Scope}(h:∀x,(x,NameKind.free)∈a.names->∃c,env.cells.lookup x=some c):closureFor a env=pure (jy env a.names []):=by unfold closureFor;have:=jo (env:=env) a.names [] h;simp only[bind_pure];rw[<-this]
theorem lF{env:Env}:∀(b:List (Str×NameKind)) (d:List (Str×Addr)),(∀x,(x,NameKind.free)∈b->∃c,env.cells.lookup x=some c)->(∀x c,d.lookup x=some c->env.cells.lookup x=some c)->
 (∀x c,(jy env b d).lookup x=some c->env.cells.lookup x=some c)/\(∀x,((x,NameKind.free)∈b\/(d.lookup x).isSome=true)->((jy env b d).lookup x).isSome=true)
 |[],d,_,i=>⟨i,λx a=>by rcases a with a|a;(· cases a);exact a⟩
 |(name,f)::r,d,h,i=>by
  rw[o7];by_cases j:(f==NameKind.free)=true
  .have k:f=.free:=by cases f<;>first|rfl|exact(ab j).elim
   subst k;obtain⟨c,m⟩:=h name (.head _);rw[aH j];have g:=lF r ((name,(env.cells.lookup name).getD 0)::d) (λx a=>h x (.tail _ a)) λx l a=>by
    rw[dG] at a;by_cases e:x=name
    .rw[aH e] at a;cases a;rw[e,m];rfl
    .rw[av e] at a;exact i x l a
   refine⟨g.1,λx a=>g.2 x ?_⟩;rcases a with a|a
   .rcases ao.mp a with e|a
    .cases e;exact .inr (by rw[dG,aH rfl];rfl)
    .exact .inl a
   .refine .inr ?_;rw[dG]
    split
    .rfl
    .exact a
  .rw[av j];have g:=lF r d (λx a=>h x (.tail _ a)) i;refine⟨g.1,λx a=>g.2 x ?_⟩;rcases a with a|a
   .rcases ao.mp a with e|a
    .cases e;exact aK rfl j
    .exact .inl a
   .exact .inr a
theorem lG{env:Env}:∀(d:List (Str×NameKind)) (a:List (Str×Addr)) (x:Str) (c:Addr),(jy env d a).lookup x=some c->(x,NameKind.free)∈d\/(a.lookup x).isSome=true
 |[],a,x,c,h=>.inr (by rw[show a.lookup x=some c from h];rfl)
 |(name,b)::r,a,x,c,h=>by
  rw[o7] at h;by_cases f:(b==NameKind.free)=true
  .have g:b=.free:=by cases b<;>first|rfl|exact(ab f).elim
   subst g;rw[aH f] at h;rcases lG r _ x c h with q|q
   .exact .inl (.tail _ q)
   .rw[dG] at q;by_cases e:x=name
    .subst e;exact .inl (.head _)
    .rw[av e] at q;exact .inr q
  .rw[av f] at h;rcases lG r _ x c h with q|q
   .exact .inl (.tail _ q)
   .exact .inr q
theorem Og{a b:NameKind}(h:Yb a b=true):a=b:=by cases a<;>cases b<;>first|rfl|exact(ab h).elim
set_option tactic.hygienic true in
theorem ix{a outer:Sc}(h:jL a outer=true){x:Str}{k:NameKind}(d:(x,k)∈a):kd a (bm x)=some k/\(k=.free->NW (kd outer (bm x))=true):=by
 have:=aW.mp (Bool.and_eq_true_iff.mp h).2 _ d;refine bx this λc b=>?_;dsimp only at c b;refine⟨?_,λe=>?_⟩
 .split at b
  .rename_i q e;rw[e,Og b]
  .cases b
 .subst e;exact c
theorem ll:∀{a outer:Sc} {x:Nm},kd a x=none->kd (eh a outer) x=none
 |[],_,_,_=>rfl
 |(k,v)::r,outer,x,h=>by
  show kd ((k,iL outer (k,v))::eh r outer) x=none;rw[jh] at h⊢;by_cases e:bm k=x
  .rw[aH e] at h;cases h
  .rw[av e] at h⊢;exact ll h
theorem vS{a outer:Sc}(h:jL a outer=true):kd a g8=none:=by
 have:=(Bool.and_eq_true_iff.mp h).1;cases e:kd a g8 with
 |none=>rfl
 |some _=>rw[e] at this;exact(ab this).elim
theorem qa:∀{sc:Sc} {x:Nm} {kk:NameKind},kd sc x=some kk->(S x,kk)∈sc
 |(k,v)::r,x,kk,h=>by
  rw[jh] at h;by_cases e:bm k=x
  .rw[aH e] at h;cases h;have:k=S x:=by rw[<-e];rfl
   rw[this];exact .head _
  .rw[av e] at h;exact .tail _ (qa h)
set_option tactic.hygienic true in
theorem qb:∀{a outer:Sc} {x:Nm} {kk:NameKind},kd (eh a outer) x=some kk->kd a x=some kk\/(kd a x=some .free/\kk=.cell/\kd outer x=some .cell)
 |(k,v)::r,outer,x,kk,h=>by
  replace h:kd ((k,iL outer (k,v))::eh r outer) x=some kk:=h;rw[jh] at h⊢;by_cases e:bm k=x
  .rw[aH e] at h⊢;cases h;unfold iL
   split
   .rename_i d;refine bx d λb c=>?_;refine .inr ⟨?_,rfl,?_⟩
    .cases v<;>first|rfl|exact(ab b).elim
    .rw[<-e];exact vC c
   .exact .inl rfl
  .rw[av e] at h⊢;exact qb h
theorem vT:∀{a outer:Sc} {x:Nm} {kk:NameKind},kd a x=some kk->kk≠.free->kd (eh a outer) x=some kk
 |(k,v)::r,outer,x,kk,h,b=>by
  show kd ((k,iL outer (k,v))::eh r outer) x=some kk;rw[jh] at h⊢;by_cases e:bm k=x
  .rw[aH e] at h⊢;cases h;unfold iL;cases v<;>first|rfl|exact aK rfl b
  .rw[av e] at h⊢;exact vT h b
theorem sC:∀{a outer:Sc} {x:Nm},kd a x=some .free->kd (eh a outer) x=some .free\/kd (eh a outer) x=some .cell
 |(k,v)::r,outer,x,h=>by
  show kd ((k,iL outer (k,v))::eh r outer) x=_\/kd ((k,iL outer (k,v))::eh r outer) x=_;rw[jh] at h;rw[jh];by_cases e:bm k=x
  .rw[aH e] at h⊢;cases h;unfold iL
   split
   .exact .inr rfl
   .exact .inl rfl
  .rw[av e] at h⊢;exact sC h
theorem lm(a:Scope)(env:Env){sc:Sc}(d:env.scope.kind=.function)(e:env.scope.names=sc):(relabel a env).names=eh a.names sc:=by
 unfold relabel eh;dsimp only;congr 1;funext p;obtain⟨n,k⟩:=p;have b:env.kindOf n=kd sc (bm n):=by rw[show env.kindOf n=env.kindOf (S (bm n)) from rfl,iW,e]
 rw[d,b];unfold iL uo NX;cases k<;>cases c:kd sc (bm n) with
 |none=>simp[c]
 |some q=>cases q<;>simp[c]
theorem fP{w:aq}{h:Heap}(B:cT w h){b:Addr}(e:h.get? b=none):(hT w.params).get? b=none:=by
 cases q:(hT w.params).get? b with
 |none=>rfl
 |some o=>
  by_cases a:b=dM
  .subst a;obtain⟨d,c,d⟩:=B.lam;rw[c] at e;cases e
  .rw[B.keep b o q a] at e;cases e
theorem dJ{h:Heap}{b:Addr}(a:h.objs.size<=b):h.get? b=none:=Heap.get?_none_of_le a
section
variable{w:aq}{ts:Tb}{env:Env}{X:List Addr}{oa:Addr}{sc:Sc}{st:St}{s:af}
abbrev Bq(env:Env)(a:Scope):List (Str×Addr):=jy env a.names []
abbrev fX(a:Scope)(L:Addr)(env:Env):Env:={vQ a (Bq env a) L env with scope:=relabel a env}
structure ye(w:aq)(env:Env)(scope:Scope)(sc:Sc)(h:Heap)(L:Addr)(h1:Heap):Prop where
 envOk:bC w (fX scope L env) (eh scope.names sc)
 cells:∀x c,(fX scope L env).cells.lookup x=some c->(L<c/\h1.IsCell c none)\/env.cells.lookup x=some c
 own:∀x c,(fX scope L env).cells.lookup (S x)=some c->kd scope.names x≠some .free->L<c
 closed:∀x c,kd scope.names x=some .free->env.cells.lookup (S x)=some c->(fX scope L env).cells.lookup (S x)=some c
 ns:h1.Ns L λzz=>none
 keep:∀b o,h.get? b=some o->h1.get? b=some o
theorem qd(b:bC w env sc){a:Scope}(ok:jL a.names sc=true):∀x,(x,NameKind.free)∈a.names->∃c,env.cells.lookup x=some c:=λx f=>by have d:=(ix ok f).2 rfl;have e:env.kindOf x=kd sc (bm x):=b.kind (bm x);apply b.has;rw[e];exact IM d
theorem kJ{sc:Sc}{x:Nm}{k:NameKind}(h:kd sc x=some k):(S x,k)∈sc:=qa h
theorem Oh(i:bC w env sc){d:Scope}(F:d.kind=.function)(ok:jL d.names sc=true)(H:b0 w ts env X oa st s.heap):
 ye w env d sc s.heap s.heap.objs.size (pushCells (s.heap.push {cls:=.type "dict",data:=.dict #[]}) d.names):=by
 have j:=qd i ok;have h:=lF d.names [] j (λx c e=>by cases e);have k:(s.heap.push {cls:=.type "dict",data:=.dict #[]}).objs.size=s.heap.objs.size+1:=Heap.size_push ..;have l:∀x c,(Bq env d).lookup x=some c->c<s.heap.objs.size:=λx c e=>by obtain⟨v,J⟩:=H.cel x c (h.1 x c e);exact J.lt
 have A:=uB d.names (s.heap.push {cls:=.type "dict",data:=.dict #[]}) (s.heap.objs.size+1) (Bq env d)
  ⟨λx y c a b=>i.apart x y c (h.1 x c a) (h.1 y c b),λx c a I=>aK (l x c a) (Nat.not_lt_of_le (Nat.le_of_succ_le I)),λx c a=>by rw[k];exact Nat.lt_succ_of_lt (l x c a)⟩ (aO k.symm)
 rw[k] at A;obtain⟨u,z,D,p,E⟩:=A;have t:∀x,(fX d s.heap.objs.size env).kindOf x=kd (eh d.names sc) (bm x):=λx=>by have e:(fX d s.heap.objs.size env).kindOf (S (bm x))=_:=iW _ (bm x);rw[show(fX d s.heap.objs.size env).scope.names=eh d.names sc from lm d env i.k i.names] at e;exact e
 have g:∀x c,(fX d s.heap.objs.size env).cells.lookup x=some c->c<s.heap.objs.size+1->env.cells.lookup x=some c:=λx c e f=>h.1 x c (p x c e f);have C:∀x c,(fX d s.heap.objs.size env).cells.lookup x=some c->c≠s.heap.objs.size:=λx c e q=>by subst q;exact aK (l x _ (p x _ e (bh _))) (Nat.lt_irrefl _)
 refine⟨⟨by show(relabel d env).kind=_;exact F,lm d env i.k i.names,i.g,i.b,λx y c a b=>u.inj x y c a b,λx m=>?_,fP H.base (dJ (aF _)),λx c e=>?_,λq=>aK (ll (vS ok)) q⟩,
  λx c e=>?_,λx c e r=>?_,λx c B e=>?_,(Heap.Ns.new s.heap (.type "dict")).keeps (pushCells_keeps _ _),λb o e=>pushCells_keeps _ _ b o (aA _ e)⟩
 .rw[t] at m;have:((fX d s.heap.objs.size env).cells.lookup x).isSome=true:=by
   rcases m with m|m
   .rcases qb m with q|⟨q,_,_⟩
    .exact D x (kJ q)
    .exact z x (h.2 x (.inl (kJ q)))
   .rcases qb m with q|⟨_,q,_⟩
    .exact z x (h.2 x (.inl (kJ q)))
    .cases q
  exact ax.mp this
 .by_cases f:c<s.heap.objs.size+1
  .exact i.newC x c (g x c e f)
  .exact fP H.base (dJ (Nat.le_of_succ_le (Nat.le_of_not_lt f)))
 .by_cases f:c<s.heap.objs.size+1
  .exact .inr (g x c e f)
  .exact .inl ⟨Nat.lt_of_succ_le (Nat.le_of_not_lt f),u.new x c e (Nat.le_of_not_lt f)⟩
 .by_cases f:c<s.heap.objs.size+1
  .have:=p (S x) c e f;rcases lG _ _ _ _ this with q|q
   .exact aK (ix ok q).1 r
   .cases q
  .exact Nat.lt_of_succ_le (Nat.le_of_not_lt f)
 .obtain⟨K,n⟩:=ax.mp (h.2 (S x) (.inl (kJ B)));have:=h.1 _ _ n;rw[e] at this;cases this;refine E (S x) c n λG=>?_;have:=(ix ok G).1;rw[show bm (S x)=x from rfl,B] at this;cases this
theorem nj{f outer:Sc}:∀{l:List (Nm×D)} {y:Nm} {d:D},dR (m5 f outer l) y=some d->NX (kd f y)=true/\NW (kd outer y)=true/\dR l y=some d
 |[],y,d,h=>by cases h
 |(x,e)::r,y,d,h=>by
  replace h:dR (match(NX (kd f x)&&NW (kd outer x)) with|true=>(x,e)::m5 f outer r|false=>m5 f outer r) y=some d:=h;cases g:NX (kd f x)&&NW (kd outer x) with
  |true=>
   rw[g] at h;refine bx g λi j=>?_;rw[cg] at h;by_cases q:x=y
   .subst q;rw[aH rfl] at h;exact⟨i,j,by rw[cg,aH rfl];exact h⟩
   .rw[av q] at h;obtain⟨a,b,c⟩:=nj h;exact⟨a,b,by rw[cg,av q];exact c⟩
  |false=>
   rw[g] at h;obtain⟨a,b,c⟩:=nj h;refine⟨a,b,?_⟩;rw[cg,av]
   .exact c
   .rintro rfl;rw[a,b] at g;cases g
end
section
variable{w:aq}{ts:Tb}{K:KT}{M:gz}{k n:Nat}{A:aL}{env:Env}{X:List Addr}{oa:Addr}{sc:Sc}{st st1:St}{s:af}
def sG(K:KT)(M:gz)(n:Nat)(a:Scope)(sc:Sc)(c:List Expr)(b:Expr)(v:List (Nm×D))(x:Nm)(d:D)(ob:List Ob):T (Option D×List Ob):=
 (zO K M n (eh a.names sc) c ⟨ee (m5 a.names sc v) x d,none,ob⟩).bind λq=>
  .ask q.1 ((ev K M n (eh a.names sc) b q.2).bind λr=>.ret (some r.1,r.2.ob)) (.ret (none,q.2.ob))
theorem qe{N Y:List Addr}{h h':Heap}(k:∀b o,b∉N->h.get? b=some o->h'.get? b=some o):gT (bJ (N++Y) h) (bJ (N++Y) h'):=λa o e c=>by have f:=bT e;clear e;obtain⟨e,d⟩:=f;exact cc (k a o (λq=>d (List.mem_append_left _ q)) e) d
structure sI(h:Heap)(N:List Addr):Prop where
 new:∀a∈N,h.get? a=none
theorem o8{N:List Addr}{d h h':Heap}(F:sI d N)(a:cT w d)(B:cT w h)(k:∀b o,b∉N->h.get? b=some o->h'.get? b=some o):cT w h':=by
 have f:dM∉N:=λq=>by obtain⟨g,e,g⟩:=a.lam;rw[F.new _ q] at e;cases e
 refine⟨λb o e n=>k b o (λq=>?_) (B.keep b o e n),?_⟩
 .have:=fP a (F.new _ q);rw[this] at e;cases e
 .obtain⟨ps,e,c⟩:=B.lam;exact⟨ps,k _ _ f e,c⟩
theorem uC{N Y:List Addr}{g:Gx}{j h h':Heap}{d ob:List Ob}(F:sI j N)(f:gc w g ts j d)(O:gc w (bJ (N++Y) h) ts h ob)(k:∀b o,b∉N->h.get? b=some o->h'.get? b=some o):gc w (bJ (N++Y) h') ts h' ob:=by
 refine⟨O.len,λi o p a b=>?_,O.nodup⟩;have y:=O.each i o p a b;have c:i<ts.length:=(aY.mp b).1;have l:=f.each i _ p (aD (by rw[f.len];exact c)) b;obtain⟨es,n,e,r⟩:=y.dict;obtain⟨Yt,n0,e0,m⟩:=l.dict;refine⟨k _ _ (λq=>?_) y.inst,⟨es,n,k _ _ (λq=>?_) e,r.mon (qe k)⟩,y.new⟩
 .have:=l.inst;rw[F.new _ q] at this;cases this
 .rw[F.new _ q] at e0;cases e0
theorem zW{N:List Addr}{s0 s1 a:af}(F:sI s0.heap N)(k:Kp ts s0 s1)(c:∃h' tk,a={s1 with heap:=h',toks:=tk}/\s1.toks<=tk/\∀b o,b∉N->s1.heap.get? b=some o->h'.get? b=some o):Kp ts s0 a:=by obtain⟨g,t1,rfl,l1,d⟩:=k;obtain⟨h',tk,rfl,l2,f⟩:=c;exact⟨h',tk,rfl,aj l1 l2,λb o e n m=>f b o (λq=>by rw[F.new _ q] at e;cases e) (d b o e n m)⟩
theorem I6{b:Scope}{L:Addr}{N:List Addr}{R:Heap}{x:Nm}{d:D}{ob:List Ob}{s1 s':af}{v:ai}(H:b0 w ts env X oa st1 s1.heap)(C:ye w env b sc s1.heap L R)(Q:bC w env sc)(F:sI s1.heap N)
 (l:L∈N)(s:Kp ts s1 s')(B:cT w s'.heap)(O:gc w (bJ (N++st1.hid X oa) s'.heap) ts s'.heap ob)(E:∃m,s'.heap.Ns L m)(k:∀y c,(fX b L env).cells.lookup y=some c->∃u,s'.heap.IsCell c u)
 (h:∀a∈N,(s'.heap.get? a).isSome=true)(V:zR (fX b L env) s'.heap (S x) v)(rd:Rd (bJ (N++st1.hid X oa) s'.heap) ts v d):
 b0 w ts (fX b L env) (N++st1.hid X oa) oa ⟨ee (m5 b.names sc st1.v) x d,none,ob⟩ s'.heap:=by
 have outer:gT (bJ (st1.hid X oa) s1.heap) (bJ (N++st1.hid X oa) s'.heap):=λa o e c=>by
  have i:=(s.mon H.base H.obs (st1.hid X oa)) a o e c;obtain⟨e0,t⟩:=bT e;have G:=bT i;clear i;obtain⟨i,j⟩:=G;refine cc i λq=>?_;rcases List.mem_append.mp q with q|q
  .rw[F.new _ q] at e0;cases e0
  .exact t q
 have K:=H.kp s B (ob:=ob) (O.mon λa o e c=>by have G:=bT e;clear e;obtain⟨e,t⟩:=G;exact cc e λq=>t (List.mem_append_right _ q))
 refine⟨B,λy e z=>?_,λj j j e=>(by cases e),O,E,k,λq=>?_,λa n=>?_⟩
 .rcases kI z with⟨rfl,rfl⟩|⟨_,z⟩
  .exact⟨v,V,rd⟩
  .obtain⟨M,I,P⟩:=nj z;obtain⟨u,U,r⟩:=H.vars y e P;have J:kd b.names y=some .free:=IN M;refine⟨u,.inr ⟨?_,?_⟩,r.mon outer⟩
   .have:=sC (outer:=sc) J;rw[C.envOk.kind];exact this.symm
   .rcases U with⟨A,_⟩|⟨A,c,p,f⟩
    .rw[Q.kind] at A;rw[A] at I;cases I
    .refine⟨c,C.closed y c J p,?_⟩;obtain⟨o,T,g⟩:=f;exact⟨o,s.get T (H.nocell p).1 (H.nocell p).2,g⟩
 .obtain⟨⟨es,W,e⟩,j⟩:=H.obs.dict q;rw[F.new _ l] at e;cases e
 .replace n:a∈N++st1.hid X oa:=n;rcases List.mem_append.mp n with q|q
  .exact h a q
  .exact K.hid a q
end
section
variable{w:aq}{ts:Tb}{K:KT}{M:gz}{k n:Nat}{A:aL}{env:Env}{X:List Addr}{oa:Addr}{sc:Sc}{st st1:St}{s:af}
theorem WP{α:Type}{t:Sem α}{Q:α->af->Prop}{E:ai->af->Prop}(h:an (model pw w) A t Q bM s):an (model pw w) A t Q E s:=am h (λa a x=>x) λa a x=>x.elim
theorem vU{c:Expr}:allTrue .And [c] env=isTrue c env (eval c env):=by
 show(isTrue c env (eval c env)>>=λb=>(match BoolOp.And,b with|.And,false=>pure false|.Or,true=>pure true|_,_=>allTrue .And [] env))=_;have:(λb=>(match BoolOp.And,b with|.And,false=>pure false|.Or,true=>pure true|_,_=>allTrue .And [] env):Bool->Sem Bool)=pure:=by funext b;cases b<;>rfl
 rw[this,bind_pure]
theorem jR{α:Type}{t:Sem α}{Q:α->af->Prop}{E:ai->af->Prop}(h:∀a:α->af->Prop,(∀v s,Q v s->a v s)->an (model pw w) A t a bM s):an (model pw w) A t Q E s:=WP (h Q λb b x=>x)
theorem zX{c:Code}{R:Result->af->Prop}(h:∀a:Result->af->Prop,(∀r s,R r s->a r s)->codeAny (model pw w) A c a s):codeAny (model pw w) A c R s:=h R λb b x=>x
theorem Oi{α:Type}{t:Sem α}{Q:α->af->Prop}{E:ai->af->Prop}(h:∀(a:α->af->Prop) (b:ai->af->Prop),(∀v s,Q v s->a v s)->an (model pw w) A t a b s):an (model pw w) A t Q E s:=h Q E λc c x=>x
theorem DZ{b:List Expr}{a:Env}{e:Bool->af->Prop}(d:b.length<=1)(h:an (model pw w) A (allTrue .And b a) e bM s):
 an (model pw w) A (forIn b true λc r=>if r=true then do let ok<-isTrue c a (eval c a);pure (ForInStep.yield ok) else pure (ForInStep.yield r)) e bM s:=by
 cases b with
 |nil=>exact h
 |cons c r=>
  cases r with
  |nil=>rw[vU] at h;exact wpAny_tests_one h
  |cons _ _=>exact aK d (Nat.not_le_of_lt (aB 2 _))
structure mq(w:aq)(ts:Tb)(Y:List Addr)(s1 s':af)(N:List Addr)(Da L:Addr)(rs:List D)(ob':List Ob):Prop where
 kp:Kp ts s1 s'
 base:cT w s'.heap
 loc:∃m,s'.heap.Ns L m
 acc:∃items,s'.heap.PlainList Da items/\items.size<=br/\dj (bJ (N++Y) s'.heap) ts items.toList rs
 obs:gc w (bJ (N++Y) s'.heap) ts s'.heap ob'
 fresh:sI s1.heap N
 hL:L∈N
 hD:Da∈N
 ne:Da≠L
inductive Oj(w:aq)(ts:Tb)(Y:List Addr)(F:D->List Ob->T (Option D×List Ob))(N:List Addr)(Da:Addr)(ds rs:List D)(ob':List Ob)(i:Nat)(s':af):Prop
 |mk (items:Array ai) (done:List D) (ob:List Ob) (rest:List D) (a:s'.heap.PlainList Da items) (b:items.size<=i) (c:dj (bJ (N++Y) s'.heap) ts items.toList done) (d:gc w (bJ (N++Y) s'.heap) ts s'.heap ob) (e:(dv F (ds.drop i) ob).run=some (rest,ob')) (f:rs=done++rest)
structure zY(w:aq)(ts:Tb)(Y:List Addr)(cenv:Env)(Sx:Nat->Heap->Prop)(F:D->List Ob->T (Option D×List Ob))(s1:af)(N:List Addr)(Da L:Addr)(ds rs:List D)(ob':List Ob)(i:Nat)(s':af):Prop where
 kp:Kp ts s1 s'
 base:cT w s'.heap
 loc:∃m,s'.heap.Ns L m
 cel:∀y c,cenv.cells.lookup y=some c->∃u,s'.heap.IsCell c u
 live:∀a∈N,(s'.heap.get? a).isSome=true
 st:Sx i s'.heap
 le:i<=ds.length
 acc:Oj w ts Y F N Da ds rs ob' i s'
 toks:0<s'.toks
theorem qf(IH:bQ w ts K M k n){ak it:Expr}{x:Str}{px:Pos}{al:List Expr}{f:Scope}{pos:Pos}{d1:D}{ds rs:List D}{ob':List Ob}{v:ai}{s1:af}{RR:ai->Addr->Result->af->Prop}
 (hA:eq A k)(hE:bC w env sc)(hk:f.kind=.function)(ok:jL f.names sc=true)(hx:jG (kd f.names (bm x))=true)(b1:al.length<=1)
 (H:b0 w ts env X oa st1 s1.heap)(ht:0<s1.toks)(r:Rd (bJ (st1.hid X oa) s1.heap) ts v d1)(hi:lV d1=some ds)
 (z:(dv (sG K M n f sc al ak st1.v (bm x)) ds st1.ob).run=some (rs,ob'))
 (hR:∀N l L s',mq w ts (st1.hid X oa) s1 s' N l L rs ob'->RR (.ref l) L (.ok .next) s'):
 an (model pw w) A (pyIter v) (λb5 s2=>an (model pw w) A (newList []) (λbv s3=>an (model pw w) A (newFunctionEnv f env.globals (Bq env f) [] env.qual none .none (some env)) (λaY s4=>
  codeAny (model pw w) A (.compStart (.ListComp ak [⟨.Name x px,it,al,0⟩] f pos) 0 b5 bv {aY with scope:=relabel f env}) (RR bv aY.locals) s4) bM s3) bM s2) bM s1:=by
 refine fw (p8 hi r hA.h λh' tk P Sx fp E ba aQ=>?_);refine wpAny_newObj_type ?_;refine DY λh1 e1=>?_;subst e1;dsimp only at aQ⊢;revert E;refine xt s1.heap.objs.size λI hI=>?_;intro E;have aL:∀b o,s1.heap.get? b=some o->(h'.push {cls:=.type "list",data:=.seq ([]:List ai).toArray}).get? b=some o:=λb o e=>aA _ (E.keep b o e);have H3:b0 w ts env X oa st1 (h'.push {cls:=.type "list",data:=.seq ([]:List ai).toArray}):=H.keep (s':={s1 with heap:=_,toks:=tk}) ⟨_,_,rfl,aL⟩ aQ;have C0:=Oh hE hk ok (s:={s1 with heap:=h'.push {cls:=.type "list",data:=.seq ([]:List ai).toArray}}) H3;dsimp only at C0;refine xt h'.objs.size λl hD=>?_;have bX:(h'.push {cls:=.type "list",data:=.seq ([]:List ai).toArray}).objs.size=l+1:=by rw[Heap.size_push,hD]
 rw[bX] at C0⊢;have C:ye w env f sc s1.heap (l+1) _:={C0 with keep:=λb o e=>C0.keep b o (aL b o e)};revert C0 C;refine xt (pushCells ((h'.push {cls:=.type "list",data:=.seq ([]:List ai).toArray}).push {cls:=.type "dict",data:=.dict #[]}) f.names) λhP ca=>?_;intro C0 C;have aM:∀b o,h'.get? b=some o->hP.get? b=some o:=λb o e=>C0.keep b o (aA _ e);have ax:hP.get? l=some {cls:=.type "list",data:=.seq ([]:List ai).toArray}:=C0.keep _ _ (by rw[<-hD];exact aT _ rfl)
 let nc:List Addr:=((fX f (l+1) env).cells.lookup x).toList
 let N:List Addr:=I::l::(l+1)::nc
 have bA:kd f.names (bm x)≠some .free:=λq=>by rw[q] at hx;exact ab hx
 have bj:∀b,l<=b->s1.heap.get? b=none:=λb F=>by
  cases q:s1.heap.get? b with
  |none=>rfl
  |some o=>exact aK F (Nat.not_le_of_lt (hD▸Heap.lt_size (E.keep b o q)))
 have bg:∀c,(fX f (l+1) env).cells.lookup x=some c->c∈N/\l+1<c:=λc z=>by refine⟨.tail _ (.tail _ (.tail _ (by show c∈((fX f (l+1) env).cells.lookup x).toList;rw[z];exact .head _))),C.own (bm x) c z bA⟩
 have bf:∀c∈nc,(fX f (l+1) env).cells.lookup x=some c:=λc z=>by
  replace z:c∈((fX f (l+1) env).cells.lookup x).toList:=z;cases q:(fX f (l+1) env).cells.lookup x with
  |none=>rw[q] at z;cases z
  |some c'=>rw[q] at z;exact aU some (az.mp z).symm
 have g:sI s1.heap N:=⟨λa R=>by
  rcases ao.mp R with qq|R
  .rw[qq];exact E.new
  rcases ao.mp R with qq|R
  .rw[qq];exact bj _ (aF _)
  rcases ao.mp R with qq|R
  .rw[qq];exact bj _ (Nat.le_succ _)
  exact bj _ (Nat.le_of_lt (Nat.lt_of_succ_lt (bg _ (bf a R)).2))⟩
 have ap:∀U:Heap,(∃o,U.get? I=some o)->(∃o,U.get? l=some o)->(∃m,U.Ns (l+1) m)->(∀y c,(fX f (l+1) env).cells.lookup y=some c->∃u,U.IsCell c u)->∀a∈N,(U.get? a).isSome=true:=by
  intro U w1 w2 w3 bo a R;refine cps λG kk=>?_;obtain⟨o1,q1⟩:=w1;obtain⟨o2,q2⟩:=w2;obtain⟨m,o3,zz,zz,q3,zz⟩:=w3;refine kk ?_;rcases ao.mp R with qq|R
  .rw[qq];rw[q1];rfl
  rcases ao.mp R with qq|R
  .rw[qq];rw[q2];rfl
  rcases ao.mp R with qq|R
  .rw[qq];rw[q3];rfl
  obtain⟨u,o,ho,zz⟩:=bo x a (bf a R);rw[ho];rfl
 have W:=E.walks A hA.h;have as:Sx 0 hP:=W.frame 0 _ _ E.start λb zz o e=>aM b o e;have be:∀s4:af,s4={s1 with heap:=hP,toks:=tk}->codeAny (model pw w) A (.compLoop (.ListComp ak [⟨.Name x px,it,al,0⟩] f pos) 0 (.ref I) (.ref l) (fX f (l+1) env)) (RR (.ref l) (l+1)) s4:=by
  intro s4 bV;rw[bV];refine codeAny_compLoop_tests (λm s'=>∃i,m=ds.length+1-i/\zY w ts (st1.hid X oa) (fX f (l+1) env) Sx (sG K M n f sc al ak st1.v (bm x)) s1 N l (l+1) ds rs ob' i s') ?_ (ds.length+1) ⟨0,rfl,?_⟩
  .intro m s' hq;refine jR λQ1 k1=>?_;obtain⟨i,hm,Q⟩:=hq;have aC:I<l:=by have:=E.low I (W.sub I (.head _));rwa [hD] at this
   have aO:I≠l+1:=Nat.ne_of_lt (Nat.lt_succ_of_lt aC);have bl:I≠l:=Nat.ne_of_lt aC;have aB:I∈N:=.head _;have ac:l∈N:=.tail _ (.head _);have bn:l+1∈N:=.tail _ (.tail _ (.head _));have aq:∀a∈N,a∉fG ts:=λa R q=>by obtain⟨⟨es,nn,e⟩,zz⟩:=H.obs.dict q;rw[g.new _ R] at e;cases e
   have Y:∀a∈N,a≠dM:=λa R q=>by rw[q] at R;obtain⟨zz,e',zz⟩:=H.base.lam;rw[g.new _ R] at e';exact cX e'
   have O:∀y c,(fX f (l+1) env).cells.lookup y=some c->c≠I/\c≠l:=λy c z=>by
    rcases C.cells y c z with⟨h,_⟩|h
    .exact⟨Nat.ne_of_gt (Nat.lt_trans (Nat.lt_succ_of_lt aC) h),Nat.ne_of_gt (Nat.lt_trans (bh _) h)⟩
    .obtain⟨u,o,ho,zz⟩:=H.cel y c h;exact⟨λq=>(by rw[q,g.new _ aB] at ho;exact cX ho),λq=>(by rw[q,g.new _ ac] at ho;exact cX ho)⟩
   obtain⟨J,aZ,ob,bi,bD,aH,bF,aE,t,aG⟩:=Q.acc;by_cases ae:i<ds.length
   .refine fw (W.item i s' _ bM ae Q.st λv h1 tk1 bY bc ad ah=>?_);have aw:∀b o,b∉N->s'.heap.get? b=some o->h1.get? b=some o:=λb o F e=>ad b o (λq=>F (by rw[az.mp q];exact aB)) e;obtain⟨m0,bq⟩:=Q.loc;have bI:∃m,h1.Ns (l+1) m:=⟨m0,bq.at' λo e=>ad _ o (λq=>aO (az.mp q).symm) e⟩;have bw:∀y c,(fX f (l+1) env).cells.lookup y=some c->∃u,h1.IsCell c u:=λy c z=>by obtain⟨u,o,ho,hd⟩:=Q.cel y c z;exact⟨u,o,ad _ o (λq=>(O y c z).1 (az.mp q)) ho,hd⟩
    have b4:jG (kd (eh f.names sc) (bm x))=true:=by
     cases e:kd f.names (bm x) with
     |none=>rw[e] at hx;exact(ab hx).elim
     |some kk=>rw[vT e λq=>bA (q▸e)];rw[e] at hx;exact hx
    refine k1 _ _ (jR λQ2 k2=>?_);clear k1 Q1;refine wpAny_assign_Name (gr (x:=bm x) C.envOk b4 bI bw λU aW aJ S2=>?_);dsimp only at ah aJ S2⊢;have bL:∀b o,b∉N->h1.get? b=some o->U.get? b=some o:=λb o F e=>S2.keep b o (λq=>F (q▸bn)) (λc z q=>F (q▸(bg c z).1)) e;have au:∀b o,b∉N->s'.heap.get? b=some o->U.get? b=some o:=λb o F e=>bL b o F (aw b o F e);have br:Kp ts s1 {s' with heap:=U,toks:=aW}:=zW g Q.kp ⟨U,aW,rfl,aj ah aJ,au⟩;have B2:cT w U:=o8 g H.base Q.base au;have O2:=uC g H.obs aE au;have aV:gT (bJ (st1.hid X oa) s1.heap) (bJ (N++st1.hid X oa) U):=λa o e c=>by
     have e2:=(br.mon H.base H.obs (st1.hid X oa)) a o e c;obtain⟨e0,hn⟩:=bT e;have zq:=bT e2;clear e2;obtain⟨e2,zz⟩:=zq;refine cc e2 λq=>?_;rcases List.mem_append.mp q with q|q
     .rw[g.new _ q] at e0;cases e0
     .exact hn q
    have ay:∃nn,U.get? l=some {cls:=.type "list",data:=.seq J nn}:=by obtain⟨nn,e⟩:=bD;have e1:=ad _ _ (λq=>bl (az.mp q).symm) e;exact⟨nn,S2.keep _ _ (Nat.ne_of_lt (bh _)) (λc z q=>(O x c z).2 q.symm) e1⟩
    have bk:∃o,U.get? I=some o:=by obtain⟨o,e⟩:=E.liveI _ _ bc;exact⟨o,S2.keep _ _ aO (λc z q=>(O x c z).1 q.symm) e⟩
    have bs:=ap U bk (ay.elim λnn e=>⟨_,e⟩) S2.loc S2.cel;have bZ:ds[i]?=some ds[i]:=aD ae;have b9:=(E.rd i v _ bY bZ).mon aV;have b2:=I6 (d:=ds[i]) (s':={s' with heap:=U,toks:=aW}) H C hE g bn br B2 O2 S2.loc S2.cel bs S2.new b9;rw[List.drop_eq_getElem_cons ae] at t;refine bB t ?_;clear t;intro eo bt hF t;refine bB t ?_;clear t;intro ar bN V t;refine bB hF ?_;clear hF;intro c st2 hT hF;have av:0<aW:=aI Q.toks (aj ah aJ);have aa:∀b∈fp,b∉fG ts/\b≠dM/\b≠l/\(∀o,h1.get? b=some o->U.get? b=some o):=λb F=>by
     rcases E.live b F with qq|⟨o0,e0,_,cl⟩
     .rw[qq];exact⟨aq _ aB,Y _ aB,bl,λo e=>S2.keep _ _ aO (λc z q=>(O x c z).1 q.symm) e⟩
     .have bx:b∉N:=λq=>by rw[g.new _ q] at e0;cases e0
      refine⟨λq=>?_,H.base.notPL e0 ?_,λq=>bx (q▸ac),λo e=>bL b o bx e⟩
      .obtain⟨⟨es,nn,e⟩,zz⟩:=H.obs.dict q;rw[ag (e0.symm.trans e)] at cl;rcases cl with cl|cl|cl<;>exact aK cl (by show ¬(ai.type "dict"=_);decide)
      .rcases cl with cl|cl|cl<;>(rw[cl];exact λq=>by cases q)
    have bK:∀(s3:af) (aS:List Ob) (B:Array ai) (S Z:List D),Kp ts s1 s3->cT w s3.heap->(∃m,s3.heap.Ns (l+1) m)->(∀y c,(fX f (l+1) env).cells.lookup y=some c->∃u,s3.heap.IsCell c u)->
     gc w (bJ (N++st1.hid X oa) s3.heap) ts s3.heap aS->(∀b∈fp,∀o,U.get? b=some o->s3.heap.get? b=some o)->s3.heap.PlainList l B->B.size<=i+1->dj (bJ (N++st1.hid X oa) s3.heap) ts B.toList S->
     (dv (sG K M n f sc al ak st1.v (bm x)) (ds.drop (i+1)) aS).run=some (Z,ob')->rs=S++Z->0<s3.toks->
     zY w ts (st1.hid X oa) (fX f (l+1) env) Sx (sG K M n f sc al ak st1.v (bm x)) s1 N l (l+1) ds rs ob' (i+1) s3:=λs3 aS B S Z a1 a2 a3 a4 a5 a6 a7 a8 a9 bP bR bS=>by
     have bd:Sx (i+1) s3.heap:=W.frame _ _ _ bc λb F o e=>a6 b F o ((aa b F).2.2.2 o e);exact⟨a1,a2,a3,a4,ap _ (E.liveI _ _ bd) (a7.elim λnn e=>⟨_,e⟩) a3 a4,bd,ae,⟨B,S,aS,Z,a7,a8,a9,a5,bP,bR⟩,bS⟩
    refine k2 _ _ (jR λQ3 k3=>?_);clear k2 Q2;refine DZ b1 (am (IH.a _ _ _ _ _ hT A _ _ oa hA C.envOk _ b2 av) (λb s3 p3=>?_) (λzz zz x=>x));rw[<-p3.rd] at hF;have b6:st2.ow=none:=by
     cases e:st2.ow with
     |none=>rfl
     |some q=>exact(ab (p3.shr (by rw[e];rfl))).elim
    have bz:st2.hid (N++st1.hid X oa) oa=N++st1.hid X oa:=by unfold St.hid;rw[b6]
    have bO:∃nn,s3.heap.get? l=some {cls:=.type "list",data:=.seq J nn}:=by obtain⟨nn,e⟩:=ay;exact⟨nn,p3.kp.get e (aq _ ac) (Y _ ac)⟩
    have bb:=(bF.mon (qe au)).mon (p3.kp.mon B2 O2 _);have bH:=br.trans p3.kp;cases b with
    |false=>obtain⟨f1,f2⟩:=nZ hF;obtain⟨g1,g2⟩:=nZ t;rw[<-f1] at g1;rw[show bN=ob' from g2,show ar=bi from g1,<-show st2.ob=bt from f2] at V;have o3:=p3.hs.obs;rw[bz] at o3;refine k3 _ _ ?_;exact⟨ds.length+1-(i+1),XI hm ae,i+1,rfl,bK s3 st2.ob J aZ _ bH p3.hs.base p3.hs.loc p3.hs.cel o3 (λb F o e=>p3.kp.get e (aa b F).1 (aa b F).2.1) bO (Nat.le_succ_of_le aH) bb V aG (p3.toks av)⟩
    |true=>
     refine bB (show((ev K M n (eh f.names sc) ak st2).bind λr=>T.ret (some r.1,r.2.ob)).run=some (eo,bt) from hF) λde aN bW hF=>?_;obtain⟨f1,f2⟩:=nZ hF;obtain⟨g1,g2⟩:=nZ t;rw[<-f1] at g1;rw[<-show de::ar=bi from g1] at aG;rw[show bN=ob' from g2,<-show aN.ob=bt from f2] at V;refine k3 _ _ (jR λQ4 k4=>?_);clear k3 Q3;refine am (IH.e _ _ _ _ _ bW A _ _ oa hA C.envOk s3 p3.hs (p3.toks av)) (λy s4 p4=>?_) λzz zz x=>x;have b7:aN.ow=none:=by
      cases e:aN.ow with
      |none=>rfl
      |some q=>exact(ab (p3.shr (p4.shr (by rw[e];rfl)))).elim
     have a0:aN.hid (N++st1.hid X oa) oa=N++st1.hid X oa:=by unfold St.hid;rw[b7]
     have b8:s4.heap.PlainList l J:=by obtain⟨nn,e⟩:=bO;exact⟨nn,p4.kp.get e (aq _ ac) (Y _ ac)⟩
     refine k4 _ _ (jR λQ5 k5=>?_);clear k4 Q4;refine(wpAny_list_append_plain b8 (λh5 bE aP=>?_) (by rw[bu];exact AX ba aH ae));have aR:∀b o,b∉N->s4.heap.get? b=some o->h5.get? b=some o:=λb o F e=>(aP.2 b (λq=>F (q▸ac))).trans e;have o4:=p4.hs.obs;rw[a0] at o4;have r4:=p4.rd;rw[a0] at r4;have bG:=bb.mon (p4.kp.mon p3.hs.base p3.hs.obs _);obtain⟨m4,b3⟩:=p4.hs.loc;refine k5 _ _ ?_;refine⟨ds.length+1-(i+1),XI hm ae,i+1,rfl,bK {s4 with heap:=h5} aN.ob (J.push y) (aZ++[de]) ar (zW g (bH.trans p4.kp) ⟨h5,_,rfl,aF _,aR⟩) (o8 g H.base p4.hs.base aR)
      ⟨m4,b3.sameBut aP (Nat.ne_of_gt (bh l))⟩ (λy c z=>(p4.hs.cel y c z).elim λu hu=>⟨u,hu.sameBut aP (O y c z).2⟩) (uC g H.obs o4 aR)
      (λb F o e=>(aP.2 b (aa b F).2.2.1).trans (p4.kp.get (p3.kp.get e (aa b F).1 (aa b F).2.1) (aa b F).1 (aa b F).2.1)) bE (by rw[Array.size_push];exact Nat.lt_succ_of_le aH) ?_ V (by rw[aG];simp) (p4.toks (p3.toks av))⟩
     rw[Array.toList_push];exact(bG.append (.cons r4 .nil)).mon (qe aR)
   .have bp:i=ds.length:=Nat.le_antisymm Q.le (Nat.le_of_not_lt ae);rw[bp,List.drop_length] at t;obtain⟨er,bU⟩:=nZ t;rw[bp] at aH;rw[bU] at aE;rw[<-er] at aG;refine fw (W.done s' _ bM (bp▸Q.st) λh1 tk1 ad ah=>?_);have aw:∀b o,b∉N->s'.heap.get? b=some o->h1.get? b=some o:=λb o F e=>ad b o (λq=>F (by rw[az.mp q];exact aB)) e;obtain⟨m0,bq⟩:=Q.loc;refine k1 _ _ ?_;refine hR N l (l+1) _ ⟨zW g Q.kp ⟨h1,tk1,rfl,ah,aw⟩,o8 g H.base Q.base aw,⟨m0,bq.at' λo e=>ad _ o (λq=>aO (az.mp q).symm) e⟩,⟨J,?_,aj aH ba,?_⟩,uC g H.obs aE aw,g,bn,ac,Nat.ne_of_lt (bh _)⟩
    .obtain⟨nn,e⟩:=bD;exact⟨nn,ad _ _ (λq=>bl (az.mp q).symm) e⟩
    .rw[aG,List.append_nil];exact bF.mon (qe aw)
  .have kk:∀b o,s1.heap.get? b=some o->hP.get? b=some o:=λb o e=>aM _ _ (E.keep b o e);have aX:∀y c,(fX f (l+1) env).cells.lookup y=some c->∃u,hP.IsCell c u:=λy c z=>by
    rcases C.cells y c z with⟨_,h⟩|h
    .exact⟨_,h⟩
    .obtain⟨u,hu⟩:=H.cel y c h;exact⟨u,hu.keeps kk⟩
   have outer:gT (bJ (st1.hid X oa) s1.heap) (bJ (N++st1.hid X oa) hP):=λa o e c=>by
    obtain⟨e0,hn⟩:=bT e;refine cc (kk _ _ e0) λq=>?_;rcases List.mem_append.mp q with q|q
    .rw[g.new _ q] at e0;cases e0
    .exact hn q
   refine⟨⟨hP,tk,rfl,aQ,λb o e zz zz=>kk b o e⟩,H.base.keeps kk,⟨_,C.ns⟩,aX,ap hP (E.liveI 0 hP as) ⟨_,ax⟩ ⟨_,C.ns⟩ aX,as,Nat.zero_le _,⟨#[],[],st1.ob,rs,⟨_,ax⟩,aF _,.nil,?_,by rw[List.drop_zero];exact z,rfl⟩,aI ht aQ⟩;exact⟨H.obs.len,λj o p a b=>⟨kk _ _ (H.obs.each j o p a b).inst,(H.obs.each j o p a b).dict.elim λes q=>q.elim λnn q=>⟨es,nn,kk _ _ q.1,q.2.mon outer⟩,(H.obs.each j o p a b).new⟩,H.obs.nodup⟩
 exact codeAny_compStart_list (be _ rfl) (W.self 0 _ _ _ as (be _ rfl))
end
section
variable{w:aq}{ts:Tb}{K:KT}{M:gz}{k n:Nat}{A:aL}{env:Env}{X:List Addr}{oa:Addr}{sc:Sc}{st st':St}{s:af}
theorem sJ(l:Sc)(x:Nm):l.lookup (S x)=kd l x:=iW {scope:={kind:=.function,names:=l,isGenerator:=false,isCoroutine:=false},locals:=0,globals:=0,cells:=[]} x
theorem ox{a:Scope}{sc:Sc}(ok:jL a.names sc=true):∀x∈a.names,x.2=.local->a.names.lookup x.1=some .local:=λx b e=>by obtain⟨n,k⟩:=x;have:=(ix ok b).1;rw[show a.names.lookup n=a.names.lookup (S (bm n)) from rfl,sJ,this,<-e]
theorem D0{a:Expr}(h:jx a=false)(x:ai):foldedSetIterable a env x=pure x:=by revert h;cases a<;>first|exact λb=>rfl|exact λh=>(ab h.symm).elim
theorem mq.pe{st1:St}{s1 s':af}{N:List Addr}{d L:Addr}{rs:List D}{ob':List Ob}(C:mq w ts (st1.hid X oa) s1 s' N d L rs ob')(H:b0 w ts env X oa st1 s1.heap){h':Heap}{tk:Nat}
 (f:∀b o,b∉N->s'.heap.get? b=some o->h'.get? b=some o)(m:∀o,s'.heap.get? d=some o->h'.get? d=some o)(p:s'.toks<=tk):
 Rd (bJ (st1.hid X oa) h') ts (.ref d) (.list rs)/\b0 w ts env X oa ⟨st1.v,st1.ow,ob'⟩ h'/\Kp ts s1 {s' with heap:=h',toks:=tk}:=by
 have k:=zW C.fresh C.kp ⟨h',tk,rfl,p,f⟩;have B:=o8 C.fresh H.base C.base f;have O:=uC C.fresh H.obs C.obs f;have l:gT (bJ (N++st1.hid X oa) h') (bJ (st1.hid X oa) h'):=λa o e c=>by have r:=bT e;clear e;obtain⟨e,n⟩:=r;exact cc e λq=>n (List.mem_append_right _ q)
 refine⟨?_,H.kp k B (O.mon l),k⟩;obtain⟨i,⟨s,e⟩,h,g⟩:=C.acc;refine .list (cc (m _ e) λq=>?_) h ((g.mon (qe f)).mon l);obtain⟨o,j⟩:=ax.mp (H.hid _ q);rw[C.fresh.new _ C.hD] at j;cases j
theorem D1{c:Expr}{b:List Comprehension}{a:Scope}{pos:Pos}{r:D×St}{G:Prop}(h:(ev K M (n+1) sc (.ListComp c b a pos) st).run=some r)(q:∀g:NY,b=[⟨.Name g.1 g.2.1,g.2.2.1,g.2.2.2.1,g.2.2.2.2⟩]->Dx sc a g=true->
 ((ev K M n sc g.2.2.1 st).bind λp=>(T.opt (lV p.1)).bind λds=>(dv (sG K M n a sc g.2.2.2.1 c p.2.v (bm g.1)) ds p.2.ob).bind λr=>T.ret (D.list r.1,(⟨p.2.v,p.2.ow,r.2⟩:St))).run=some r->G):G:=by
 have h:(match ma b with
  |some (x,_,f,d,as)=>T.gd (NZ sc a x f d as) ((ev K M n sc f st).bind λp=>(T.opt (lV p.1)).bind λds=>(dv (sG K M n a sc d c p.2.v (bm x)) ds p.2.ob).bind λr=>T.ret (D.list r.1,(⟨p.2.v,p.2.ow,r.2⟩:St)))
  |none=>.fail).run=some r:=h
 cases e:ma b with
 |none=>rw[e] at h;exact cX h
 |some g=>rw[e] at h;exact dz h λi h=>q g (vE e) i h
theorem yf(z:bQ w ts K M k n){i:Expr}{f:List Comprehension}{c:Scope}{pos:Pos}{d:D}(h:(ev K M (n+1) sc (.ListComp i f c pos) st).run=some (d,st'))(B:eq A k)(t:bC w env sc)(H:b0 w ts env X oa st s.heap)(F:0<s.toks):
 an (model pw w) A (eval (.ListComp i f c pos) env) (PE w ts env X oa st st' s d) bM s:=by
 refine D1 h λg G I a=>Nb I λl u E S ok y=>?_
 .rw[G,u];clear h;refine bB a ?_;clear a;intro d1 st1 J a;refine bv a ?_;clear a;intro ds O a;refine bB a ?_;clear a;intro rs ob' P a;cases a;rw[eval_ListComp];refine wpAny_comprehension_free (use:=none) rfl (D0 l) (lE (qd t ok)) E (ox ok) (am (z.e _ _ _ _ _ J A env X oa B t s H F) (λv s1 p1=>?_) λU U x=>x);refine qf (RR:=λp C=>compPost (model pw w) A bM none (PE w ts env X oa st ⟨st1.v,st1.ow,ob'⟩ s (.list rs)) p C) z B t E ok S y p1.hs (p1.toks F) p1.rd (bn O) P λN V L s' C=>?_;obtain⟨m,R⟩:=C.loc;refine⟨m,R,λh' j=>?_⟩;obtain⟨r,Q,T⟩:=C.pe p1.hs (h':=h') (tk:=s'.toks) (λb o a e=>(j.2 b (λq=>a (q▸C.hL))).trans e) (λo e=>(j.2 _ C.ne).trans e) (aF _);exact⟨r,Q,p1.kp.trans T,p1.shr⟩
end
def D2(w:aq)(ts:Tb)(k:Nat):Prop:=∀(args:Arguments) (b:Expr) (a:Scope) (pos:Pos) (A:aL) (env:Env) (X:List Addr) (oa:Addr) (sc:Sc) (st:St) (s:af),eq A k->bC w env sc->b0 w ts env X oa st s.heap->0<s.toks->
 (!isNone (kd sc g8)&&Dt args&&a.names.all (λp=>!Bh p.2))=true->an (model pw w) A (eval (.Lambda args b a pos) env) (PE w ts env X oa st st s .fn) bM s
section
variable{w:aq}{ts:Tb}{K:KT}{M:gz}{k n:Nat}
theorem yg:bQ w ts K M k 0 where
 e:=λd d d d d h=>cX h
 l:=λd d d d d h=>cX h
 b:=λd d d d d h=>cX h
 c:=λd d d d d d d h=>cX h
 a:=λd d d d d h=>cX h
 o:=λd d d d d h=>cX h
set_option tactic.hygienic true in
theorem I7(t:fz w ts K k)(u:vv w M)(y:D2 w ts k)(j:bQ w ts K M k n)(sc:Sc)(e:Expr)(st:St)(d:D)(st':St)(h:(ev K M (n+1) sc e st).run=some (d,st'))(A:aL)(env:Env)(X:List Addr)(oa:Addr)
 (b:eq A k)(a:bC w env sc)(s:af)(H:b0 w ts env X oa st s.heap)(g:0<s.toks):an (model pw w) A (eval e env) (PE w ts env X oa st st' s d) bM s:=by
 cases e
 case Constant=>exact IV h H
 case Name=>exact Oe h a H
 case BinOp=>exact IW j h b a H g
 case UnaryOp=>exact IY j h b a H g
 case IfExp=>exact IZ j h b a H g
 case BoolOp=>exact DO j h b a H g
 case Compare=>exact Bp j h b a H g
 case List=>exact Of j h b a H g
 case Tuple=>exact I0 j h b a H g
 case ListComp=>exact yf j h b a H g
 case Attribute=>exact vP t u j h b a H g
 case JoinedStr=>exact DR j h b a H g
 case Lambda args body scope pos=>
  refine dz h λz B=>?_;cases B;exact y args body scope pos A env X oa sc st s b a H g z
 case Subscript o i pos=>
  have h:(match l7 i with
   |some c=>T.gd (isNone c.2.2.1) ((ev K M n sc o st).bind λp=>(ev K M n sc (lB c.1) p.2).bind λq=>(ev K M n sc (lB c.2.1) q.2).bind λr=>(pH p.1 q.1 r.1).bind λd=>T.ret (d,r.2))
   |none=>match ji st o with
    |some _=>(ev K M n sc i st).bind λq=>(T.opt (ji q.2 o)).bind λds=>(dA (.list ds) q.1).bind λd=>.ret (d,q.2)
    |none=>(ev K M n sc o st).bind λp=>(ev K M n sc i p.2).bind λq=>(dA p.1 q.1).bind λd=>.ret (d,q.2)).run=some (d,st'):=h
  cases v:l7 i with
  |some c=>rw[v] at h;rw[x5 v];exact yb j h b a H g
  |none=>rw[v] at h;exact DP j h b a H g
 case Call f args kws pos=>
  refine dz h ?_;clear h;intro C h;cases kws with
  |cons _ _=>exact(ab C).elim
  |nil=>
   have h:(match fk f with
    |some m=>T.gd (!iV m.1&&Nat.beq m.2.2.endLine pos.line&&Nat.blt args.length 20)<|(ev K M n sc m.1 st).bind λp=>(lh K M n sc args p.2).bind λq=>match je p.1 with
     |some x=>T.gd (!cr (bm m.2.1) cR||fb args) ((K.sm x (bm m.2.1) q.1).bind λd=>T.ret (d,q.2))
     |none=>(match lj p.1 with
      |some r=>(K.rm r (bm m.2.1) q.1).bind λd=>.ret (d,q.2)
      |none=>(T.opt (Iz p.1)).bind λi=>(T.opt p.2.ob[i]?).bind λo=>.gd (isNone (dR o.at_ (bm m.2.1)))<|(T.opt (M.me o.C (bm m.2.1))).bind λf=>(K.fn f (.obj i::q.1) q.2.ob).bind λd=>.ret (d.1,(⟨q.2.v,q.2.ow,d.2⟩:St)))
    |none=>(ev K M n sc f st).bind λp=>(lh K M n sc args p.2).bind λq=>(iw K p.1 q.1 q.2.ob).bind λd=>.ret (d.1,⟨q.2.v,q.2.ow,d.2⟩)).run=some (d,st'):=h
   cases l:fk f with
   |none=>rw[l] at h;exact I5 t u j l h b a H g
   |some m=>rw[l] at h;rw[kG l];exact I4 t u j h b a H g
 all_goals exact cX h
theorem dQ(i:fz w ts K k)(m:vv w M)(j:D2 w ts k):∀n,bQ w ts K M k n
 |0=>yg
 |n+1=>by
  have g:=dQ i m j n;exact⟨λsc e st d st' h A env X oa a b s H f=>I7 i m j g sc e st d st' h A env X oa a b s H f,
   λsc es st ds st' h A env X oa a b s H f=>YX g h a b H f,
   λsc e st c st' h A env X oa a b s H f=>YU g h a b H f,
   λsc l o rs st c st' h A env X oa a b s H f=>YY g h a b H f,
   λsc es st c st' h A env X oa a b s H f=>YV g h a b H f,
   λsc es st c st' h A env X oa a b s H f=>YW g h a b H f⟩
end
theorem S7(P:aw):(hT P).get? 189=some {cls:=.type "code",data:=.fields ⟨[.str (S [95,116,114,97,110,115,108,97,116,101]) 704,.str (S [95,116,114,97,110,115,108,97,116,101]) 705,.str (S [47,99,108,97,105,109,47,99,117,116,46,112,121]) 706,.int 153 0,.int 3 0,.int 0 0,.int 0 0,.int 3 0,.ref 184,.bool true,.int 318 0,.ref 185,.none,.ref 186,.ref 187,.ref 188,.int 720 0,.int 153 0,.str (S [47,99,108,97,105,109,47,99,117,116,46,112,121]) 721]⟩}:=by kernel_rfl
theorem S8{w:aq}{h:Heap}(B:cT w h):CodeHd h 189 dM:=
 ⟨_,_,_,_,_,_,_,_,_,B.keep _ _ (S7 w.params) (by decide),rfl,rfl,rfl,rfl,rfl,rfl,rfl,rfl,by decide⟩
theorem o4(P:aw):(hT P).get? 4=some {cls:=.type "module",dict:=some 0,data:=.plain}:=by kernel_rfl
theorem yh(w:aq):tX w (S [95,95,98,117,105,108,116,105,110,115,95,95])=some (.ref 4):=by kernel_rfl
theorem uD:("__builtins__":Str)=S [95,95,98,117,105,108,116,105,110,115,95,95]:=by decide+kernel
theorem qg{w:aq}{h:Heap}(B:cT w h):h.BuiltinsAt (tX w) dM:=
 ⟨4,_,by rw[uD];exact yh w,by decide,by decide,by decide,B.keep _ _ (o4 w.params) (by decide),rfl,rfl,rfl⟩
theorem vV{env:Env}{a:Scope}(h:a.names.all (λp=>!Bh p.2)=true):closureFor a env=pure []:=by
 have b:∀x,(x,NameKind.free)∉a.names:=λx c=>by have:=aW.mp h _ c;exact ab this
 rw[lE λx c=>aK c (b x)];congr 1;have:∀(l:List (Str×NameKind)),(∀x,(x,NameKind.free)∉l)->jy env l []=[]:=by
  intro l
  induction l with
  |nil=>intro i;rfl
  |cons p r g=>
   intro e;obtain⟨n,k⟩:=p;rw[o7,av]
   .exact g λx c=>e x (.tail _ c)
   .intro f;have d:k=.free:=by cases k<;>first|rfl|exact(ab f).elim
    subst d;exact e n (.head _)
 exact this _ b
theorem jS{w:aq}{ts:Tb}{k:Nat}:D2 w ts k:=λargs I F pos A env X oa sc st s hA x H ht P=>by
 refine bx P λQ l=>?_;refine bx Q λN K=>?_;have d:=x.lam (λq=>by rw[q] at N;exact ab N);have j:defaultsOf args env=([],[]):=by
  obtain⟨a1,a2,a3,a4,a5,a6,a7⟩:=args;unfold Dt at K;refine bx K λR G=>?_;refine bx R λS T=>?_;cases a7 with
  |cons _ _=>exact(ab S).elim
  |nil=>
   cases a5 with
   |cons _ _=>exact(ab T).elim
   |nil=>rfl
 obtain⟨ps,J,f⟩:=H.base.lam;refine kla_eval j ?_;have fin:∀(a:Addr) (h:af),s.heap.get? a=none->(∃o,h.heap.get? a=some o/\o.cls=.type "function")->cT w h.heap->Kp ts s h->gc w (bJ (st.hid X oa) h.heap) ts h.heap st.ob->PE w ts env X oa st st s .fn (.ref a) h:=λa h U ⟨o,u,V⟩ B t O=>⟨.fn (cc u λq=>by obtain⟨o,u⟩:=ax.mp (H.hid _ q);rw[U] at u;cases u) V,H.kp t B O,t,jD.refl _⟩
 cases L:codeAmong pos ps.toList with
 |some cv=>refine fw (kla_makeFunctionHit (vV l) x.g (UN H.base) d (S8 H.base) J f.1 L (qg H.base) λv h' tk W E g=>?_);have c:∀(ob:Obj) b o,s.heap.get? b=some o->(h'.push ob).get? b=some o:=λob b o e=>aA _ (W b o e);exact fin _ _ (dJ E) ⟨_,aT _ rfl,rfl⟩ (H.base.keeps (c _)) ⟨_,_,rfl,g,λb o e G G=>c _ b o e⟩ (H.obs.keep (c _))
 |none=>
  refine fw (kla_makeFunction (vV l) x.g (UN H.base) d (S8 H.base) J f.1 L (by decide) (qg H.base) λc' v h' tk Z C D M z g=>?_);have c:∀(ob:Obj) b o,b≠dM->s.heap.get? b=some o->(h'.push ob).get? b=some o:=λob b o n e=>aA _ (Z b o n e);have t:∀ob:Obj,Kp ts s {s with heap:=h'.push ob,toks:=tk}:=λob=>⟨_,_,rfl,g,λb o e G n=>c ob b o n e⟩;refine fin _ _ (dJ (aj C (Nat.le_of_lt D))) ⟨_,aT _ rfl,rfl⟩ ⟨λb o e n=>c _ b o n (H.base.keep b o e n),_,aA _ z,?_⟩ (t _) ⟨H.obs.len,λi o p a b=>?_,H.obs.nodup⟩
  .refine⟨by rw[Array.toList_append];exact TriplesOk_snoc _ _ _ _ f.1,λvs e=>?_⟩;obtain⟨m,Y⟩:=f.2 vs e;exact⟨m++_,by rw[Y,Array.append_assoc]⟩
  .have y:=H.obs.each i o p a b;obtain⟨es,nn,e,r⟩:=y.dict;exact⟨c _ _ _ (H.base.notPL y.inst (λq=>by cases q)) y.inst,⟨es,nn,c _ _ _ (H.base.notPL e (λq=>by cases q)) e,r.mon ((t _).mon H.base H.obs _)⟩,y.new⟩
inductive Kq(env:Env)(ts:Tb)(oa:Addr)(st:St)(s s':af):Prop
 |mk (h':Heap) (tk:Nat) (e:s'={s with heap:=h',toks:=tk}) (l:s.toks<=tk)
 (k:∀b o,s.heap.get? b=some o->b∉fG ts->b≠dM->b≠env.locals->(∀x c,env.cells.lookup x=some c->b≠c)->(st.ow≠none->b≠oa)->h'.get? b=some o)
 (u:∀b,s.heap.get? b≠none->h'.get? b≠none)
theorem Kq.refl{env:Env}{ts:Tb}{oa:Addr}{st:St}(s:af):Kq env ts oa st s s:=⟨_,_,rfl,aF _,λa a e a a a a a=>e,λa e=>e⟩
def rE(oa:Addr)(st:St)(h:Heap)(a:Addr)(st':St):Prop:=st'.ow≠none->(a=oa/\st.ow≠none)\/h.get? a=none
theorem rE.refl{oa:Addr}{st:St}{h:Heap}:rE oa st h oa st:=λe=>.inl ⟨rfl,e⟩
theorem D3{st st':St}(h:jD st st'):st'.ow≠none->st.ow≠none:=λe q=>by
 cases a:st'.ow with
 |none=>exact e a
 |some _=>have:=h (by rw[a];rfl);rw[q] at this;cases this
theorem rE.shr{oa:Addr}{st st':St}{h:Heap}(k:jD st st'):rE oa st h oa st':=λe=>.inl ⟨rfl,D3 k e⟩
theorem Kq.trans{env:Env}{ts:Tb}{oa oa1:Addr}{st st1:St}{s s1 f:af}(a:Kq env ts oa st s s1)(j:rE oa st s.heap oa1 st1)(b:Kq env ts oa1 st1 s1 f):Kq env ts oa st s f:=by
 obtain⟨r,t1,rfl,l1,h,k⟩:=a;obtain⟨g,t2,rfl,l2,i,p⟩:=b;refine⟨g,t2,rfl,aj l1 l2,λb o e n m l c w=>i b o (h b o e n m l c w) n m l c λq=>?_,λb e=>p b (k b e)⟩;rcases j q with⟨rfl,d⟩|d
 .exact w d
 .rintro rfl;rw[d] at e;cases e
theorem rE.trans{oa oa1 c:Addr}{st st1 st2:St}{h d:Heap}(a:rE oa st h oa1 st1)(u:∀b,h.get? b≠none->d.get? b≠none)(b:rE oa1 st1 d c st2):rE oa st h c st2:=λe=>by
 rcases b e with⟨rfl,q⟩|q
 .exact a q
 .refine .inr ?_;cases f:h.get? c with
  |none=>rfl
  |some _=>exact aK q (u _ (by rw[f];exact λz=>by cases z))
theorem Kq.toks{env:Env}{ts:Tb}{oa:Addr}{st:St}{s s':af}(a:Kq env ts oa st s s'):s.toks<=s'.toks:=by obtain⟨b,b,rfl,l,b⟩:=a;exact l
theorem Kq.up{env:Env}{ts:Tb}{oa:Addr}{st:St}{s s':af}(a:Kq env ts oa st s s'):∀b,s.heap.get? b≠none->s'.heap.get? b≠none:=by obtain⟨c,c,rfl,c,c,u⟩:=a;exact u
theorem Kq.so{env:Env}{ts:Tb}{oa:Addr}{st:St}{s s':af}(a:Kq env ts oa st s s'):So s s':=let⟨h,t,e,_,_,_⟩:=a;⟨h,t,e⟩
theorem Kq.get{env:Env}{ts:Tb}{oa:Addr}{st:St}{s s':af}(a:Kq env ts oa st s s'){b:Addr}{o:Obj}(e:s.heap.get? b=some o)(n:b∉fG ts)(m:b≠dM)(l:b≠env.locals)(c:∀x c,env.cells.lookup x=some c->b≠c)(q:st.ow≠none->b≠oa):s'.heap.get? b=some o:=by obtain⟨d,d,rfl,d,k,d⟩:=a;exact k b o e n m l c q
structure c0(X:List Addr)(env:Env):Prop where
 loc:env.locals∈X
 cel:∀x c,env.cells.lookup x=some c->c∈X
section
variable{w:aq}{ts:Tb}{env:Env}{X:List Addr}{oa:Addr}{sc:Sc}{st st1 st':St}{s s1 s':af}
theorem cO{h:Heap}{b:Addr}{o:Obj}(e:h.get? b=some o):h.get? b≠none:=λq=>by rw[e] at q;cases q
theorem Kp.kq(a:Kp ts s s')(H:b0 w ts env X oa st' s'.heap):Kq env ts oa st s s':=by
 obtain⟨j,t1,rfl,l1,i⟩:=a;refine⟨j,t1,rfl,l1,λb o e n m c c c=>i b o e n m,λb e=>?_⟩;cases f:s.heap.get? b with
 |none=>exact aK f e
 |some o=>
  by_cases g:b∈fG ts
  .obtain⟨⟨es,n,d⟩,c⟩:=H.obs.dict g;exact cO d
  .by_cases h:b=dM
   .subst h;obtain⟨c,d,c⟩:=H.base.lam;exact cO d
   .exact cO (i b o f g h)
theorem dp{st:St}:∀a∈X,a∈st.hid X oa:=λa b=>by
 unfold St.hid;cases st.ow with
 |none=>exact b
 |some _=>exact .tail _ b
theorem fc{st:St}(h:st.ow≠none):oa∈st.hid X oa:=by
 unfold St.hid;cases e:st.ow with
 |none=>exact aK e h
 |some _=>exact .head _
theorem fe{st:St}{a:Addr}(h:a∈st.hid X oa):a∈X\/(st.ow≠none/\a=oa):=by
 unfold St.hid at h;cases e:st.ow with
 |none=>rw[e] at h;exact .inl h
 |some _=>
  rw[e] at h;rcases ao.mp h with b|h
  .rw[b];exact .inr ⟨(by simp),rfl⟩
  .exact .inl h
theorem Kq.mon{d:Addr}(k:Kq env ts oa st s s')(i:c0 X env)(H:b0 w ts env X oa st s.heap)(m:rE oa st s.heap d st'):gT (bJ (st.hid X oa) s.heap) (bJ (st'.hid X d) s'.heap):=by
 obtain⟨t,t1,rfl,l1,l,u⟩:=k;intro a o e c;have h:=bT e;clear e;obtain⟨e,b⟩:=h;refine cc (l a o e (λg=>?_) (H.base.notPL e ?_) (λq=>b (dp _ (q▸i.loc))) (λx c j q=>b (dp _ (q▸i.cel x c j))) λq f=>b (f▸fc q)) λq=>?_
 .have h:=H.obs.dict g;clear g;obtain⟨⟨es,n,g⟩,v⟩:=h;obtain rfl:=ag (e.symm.trans g);rcases c with c|c|c|c|c<;>exact aK c (by show ¬(ai.type "dict"=_);decide)
 .rcases c with c|c|c|c|c<;>(rw[c];exact λq=>by cases q)
 .rcases fe q with q|⟨p,r⟩
  .exact b (dp _ q)
  .subst r;rcases m p with⟨rfl,f⟩|f
   .exact b (fc f)
   .rw[f] at e;cases e
end
def jT(g:Gx)(ts:Tb):dN->Flow->Prop
 |.next,.next=>True
 |.brk,.brk=>True
 |.cont,.cont=>True
 |.ret d,.ret v=>Rd g ts v d
 |_,_=>False
structure PS(w:aq)(ts:Tb)(env:Env)(X:List Addr)(oa:Addr)(st st':St)(s:af)(o:dN)(f:Flow)(s':af):Prop where
 ex:∃oa',b0 w ts env X oa' st' s'.heap/\rE oa st s.heap oa' st'/\jT (bJ (st'.hid X oa') s'.heap) ts o f
 kq:Kq env ts oa st s s'
section
variable{w:aq}{ts:Tb}{env:Env}{X:List Addr}{oa oa1:Addr}{sc:Sc}{st st1 st':St}{s s1 s':af}{o:dN}{f:Flow}
theorem PS.toks(p:PS w ts env X oa st st' s o f s')(h:0<s.toks):0<s'.toks:=aI h p.kq.toks
theorem PS.then(k:Kq env ts oa st s s1)(b:rE oa st s.heap oa1 st1)(q:PS w ts env X oa1 st1 st' s1 o f s'):PS w ts env X oa st st' s o f s':=by obtain⟨a,H,d,c⟩:=q.ex;exact⟨⟨a,H,b.trans k.up d,c⟩,k.trans b q.kq⟩
theorem PS.after(p:Kp ts s s1)(H:b0 w ts env X oa st1 s1.heap)(h:jD st st1)(q:PS w ts env X oa st1 st' s1 o f s'):PS w ts env X oa st st' s o f s':=
 q.then (p.kq H) (.shr h)
theorem PS.quiet(p:Kp ts s s1)(H:b0 w ts env X oa st1 s1.heap)(h:jD st st1)(a:jT (bJ (st1.hid X oa) s1.heap) ts o f):PS w ts env X oa st st1 s o f s1:=
 ⟨⟨oa,H,.shr h,a⟩,p.kq H⟩
end
structure jU(w:aq)(ts:Tb)(K:KT)(M:gz)(k n:Nat):Prop where
 x:∀sc e st o st',(ex K M n sc e st).run=some (o,st')->∀(A:aL) (env:Env) (X:List Addr) (oa:Addr),eq A k->bC w env sc->c0 X env->∀s:af,b0 w ts env X oa st s.heap->0<s.toks->
  an (model pw w) A (exec e env) (PS w ts env X oa st st' s o) bM s
 xs:∀sc es st o st',(cM K M n sc es st).run=some (o,st')->∀(A:aL) (env:Env) (X:List Addr) (oa:Addr),eq A k->bC w env sc->c0 X env->∀s:af,b0 w ts env X oa st s.heap->0<s.toks->
  an (model pw w) A (execs es env) (PS w ts env X oa st st' s o) bM s
section
variable{w:aq}{ts:Tb}{env:Env}{X:List Addr}{oa:Addr}{sc:Sc}{st:St}
theorem sK{x y:Nm}(h:S x=S y):x=y:=aU (λs=>s.cps.toList) h
theorem sM{h f:Heap}{x:Str}{v:ai}(i:jm env h f x v)(d:c0 X env)(Z:List Addr)(g:∀a∈X,a∈Z):gT (bJ Z h) (bJ Z f):=λa o e c=>by have k:=bT e;clear e;obtain⟨e,b⟩:=k;exact cc (i.keep a o (λq=>b (g _ (q▸d.loc))) (λc j q=>b (g _ (q▸d.cel x c j))) e) b
theorem yj{h f:Heap}{x:Nm}{v:ai}(H:b0 w ts env X oa st h)(g:bC w env sc)(d:jm env h f (S x) v):cT w f:=by
 refine⟨λb o e n=>d.keep b o (λq=>?_) (λc a q=>?_) (H.base.keep b o e n),?_⟩
 .rw[q,g.newL] at e;cases e
 .rw[q,g.newC _ _ a] at e;cases e
 .obtain⟨ps,e,c⟩:=H.base.lam;exact⟨ps,d.keep _ _ (λq=>H.noloc q.symm) (λc a q=>(H.nocell a).2 q.symm) e,c⟩
theorem Br{h j:Heap}{x:Nm}{v:ai}(H:b0 w ts env X oa st h)(g:jm env h j (S x) v)(t:c0 X env):gc w (bJ (st.hid X oa) j) ts j st.ob:=by
 refine⟨H.obs.len,λi o p a b=>?_,H.obs.nodup⟩;have y:=H.obs.each i o p a b;obtain⟨es,n,e,r⟩:=y.dict;have s:p.2∈fG ts:=aE.mpr ⟨p,List.mem_of_getElem? b,rfl⟩;refine⟨g.keep _ _ (λq=>?_) (λc k q=>?_) y.inst,⟨es,n,g.keep _ _ (λq=>H.off (q▸s)) (λc k q=>(H.nocell k).1 (q▸s)) e,r.mon (sM g t _ dp)⟩,y.new⟩
 .obtain⟨m,A,z,ep,l,d,B⟩:=H.loc;have f:=y.inst;rw[q,l] at f;cases f;cases d
 .obtain⟨u,A,l,d⟩:=H.cel _ _ k;have f:=y.inst;rw[q,l] at f;cases f;cases d
theorem hU{h j:Heap}{x:Str}{v:ai}(f:jm env h j x v):∀b,h.get? b≠none->j.get? b≠none:=λa m=>by
 cases k:h.get? a with
 |none=>exact aK k m
 |some o=>
  by_cases q:a=env.locals
  .obtain⟨m2,n,i,i,d,i⟩:=f.loc;rw[q];exact cO d
  .by_cases l:∃c,env.cells.lookup x=some c/\a=c
   .obtain⟨c,g,rfl⟩:=l;obtain⟨u,n,d,i⟩:=f.cel _ _ g;exact cO d
   .exact cO (f.keep a o q (λc g e=>l ⟨c,g,e⟩) k)
theorem kK{h:Heap}{b:Addr}(k:h.get? b≠none):(h.get? b).isSome=true:=by
 cases e:h.get? b with
 |none=>exact aK e k
 |some _=>rfl
theorem zZ{h:Heap}{b:Addr}(k:(h.get? b).isSome=true):h.get? b≠none:=λq=>by rw[q] at k;cases k
theorem vW{s:af}{a:Heap}{tk:Nat}{x:Str}{v:ai}(f:jm env s.heap a x v)(h:s.toks<=tk):Kq env ts oa st s {s with heap:=a,toks:=tk}:=
 ⟨a,tk,rfl,h,λb o e g g l c g=>f.keep b o l (λi d=>c _ _ d) e,hU f⟩
theorem b0.store{h p:Heap}{x:Nm}{v:ai}{C:List (Nm×D)}{i:Option (Nm×Option Nm×List D)}(H:b0 w ts env X oa st h)(T:bC w env sc)(d:jm env h p (S x) v)(K:c0 X env)
 (J:∀y e,dR C y=some e->(x=y/\Rd (bJ (st.hid X oa) h) ts v e)\/(x≠y/\dR st.v y=some e))
 (A:∀y B ds,i=some (y,B,ds)->∃z,st.ow=some (y,z,ds)/\x≠y/\∀q,B=some q->(z=some q/\x≠q)\/(x=q/\∃m o,v=.ref m/\h.get? m=some o/\Nd oa o)):b0 w ts env X oa ⟨C,i,st.ob⟩ p:=by
 have m0:=sM d K (st.hid X oa) dp;have sh:jD st ⟨C,i,st.ob⟩:=λe=>by obtain⟨⟨y,B,ds⟩,N⟩:=ax.mp e;obtain⟨z,P,zz⟩:=A _ _ _ N;rw[P];rfl
 have M:gT (bJ (st.hid X oa) p) (bJ (St.hid X oa ⟨C,i,st.ob⟩) p):=zQ sh;have m:=m0.trans M;have g:∀{a:Addr} {o:Obj},h.get? a=some o->(∀es ep,o.data≠.dict es ep)->(∀u,o.data≠.cell u)->a≠env.locals/\∀c,env.cells.lookup (S x)=some c->a≠c:=λ{a o} e R p=>by
  refine⟨λq=>?_,λc U q=>?_⟩
  .obtain⟨m,o',Q,ep,s,f,zz⟩:=H.loc;rw[q,s] at e;cases e;exact R _ _ f
  .obtain⟨u,o',s,f⟩:=H.cel _ _ U;rw[q,s] at e;cases e;exact p _ f
 refine⟨yj H T d,λy e G=>?_,λy B ds e=>?_,(Br H d K).mon M,d.loc,d.cel,H.off,λa t=>kK (hU d a (zZ (H.live a t)))⟩
 .rcases J y e G with⟨rfl,rd⟩|⟨g,G⟩
  .exact⟨v,d.new,rd.mon m⟩
  .obtain⟨u,Y,r⟩:=H.vars y e G;exact⟨u,d.old _ _ (λq=>g (sK q).symm) Y,r.mon m⟩
 .obtain⟨z,L,F,Z⟩:=A _ _ _ e;have O:=H.own _ _ _ L;have V:st.hid X oa=oa::X:=by unfold St.hid;rw[L]
  refine⟨d.old _ _ (λq=>F (sK q).symm) O.var,λq W=>?_,?_,O.off,O.new⟩
  .rcases Z q W with⟨I,E⟩|⟨rfl,mm,o,rfl,s,t⟩
   .obtain⟨mm,o,a,b,c⟩:=O.app q I;have j:=g b (λes ep q=>by rw[c] at q;cases q) (λu q=>by rw[c] at q;cases q);exact⟨mm,o,d.old _ _ (λq=>E (sK q).symm) a,d.keep _ _ j.1 j.2 b,c⟩
   .have j:=g s (λes ep q=>by rw[t] at q;cases q) (λu q=>by rw[t] at q;cases q);exact⟨mm,o,d.new,d.keep _ _ j.1 j.2 s,t⟩
  .obtain⟨n,k,a,l,b⟩:=O.items;have j:=g a (λes ep q=>by cases q) (λu q=>by cases q);exact⟨n,k,d.keep _ _ j.1 j.2 a,l,b.mon (by rw[<-V];exact m0)⟩
end
theorem vY:Slot "method_descriptor" "__get__" "method_descriptor.__get__":=
 .of (owner:="method_descriptor") (n:="__get__") (by rw[typeLookup_type,builtinLookup_eq_fast];kernel_rfl) (by decide+kernel) (by decide+kernel) (by decide+kernel)
  (by first|exact .inl (by decide+kernel)|exact .inr (by decide+kernel)) (by rw[isSubtype_type];kernel_rfl)
theorem Bs:entryFor table "method_descriptor.__get__"=some Builtin.«method_descriptor.__get__»:=entryFor_of_tree (by kernel_rfl)
theorem D4(a b c:ai):argsOk "method_descriptor.__get__" ⟨[a,b,c],[]⟩:=by unfold argsOk;kernel_rfl
theorem Ok:typeLookup (.type "method_descriptor") "__set__"=pure none:=by rw[typeLookup_type,builtinLookup_eq_fast];kernel_rfl
theorem Ol:typeLookup (.type "method_descriptor") "__delete__"=pure none:=by rw[typeLookup_type,builtinLookup_eq_fast];kernel_rfl
theorem I8:".".intercalate ("list.append".cutAt '.').dropLast="list":=by decide+kernel
theorem I9:isSubtype (.type "list") (.type (".".intercalate ("list.append".cutAt '.').dropLast))=pure true:=by rw[I8,isSubtype_type];kernel_rfl
abbrev hV(a:Addr):Obj:={cls:=.type "builtin_function_or_method",data:=.fields #[.builtin "list.append",.ref a]}
section
variable{prog:Program}{w:aq}{A:aL}{E:ai->af->Prop}{h:Heap}{g:Array GenState}{d:Drawn}{t:Nat}{os:OsState}{a:Addr}{o:Obj}
theorem Ja{P:Fin->af->Prop}(c:h.get? a=some o)(b:o.cls=.type "list")(i:P (.done (.ret (.ref h.objs.size))) ⟨h.push (hV a),g,d,t,os⟩):
 an (model prog w) A (Builtin.«method_descriptor.__get__» ⟨[.builtin "list.append",.ref a,.type "list"],[]⟩) P E ⟨h,g,d,t,os⟩:=by
 have hT:(⟨h,g,d,t,os⟩:af).TypeIs (.ref a) "list":=⟨_,c,b⟩;have e:=type_list_append;have f:=I9
 repeat (any_goals (first|assumption|wp_step))
theorem D5{Q:ai->af->Prop}(e:h.get? a=some o)(b:o.cls=.type "list")(c:Q (.ref h.objs.size) ⟨h.push (hV a),g,d,t,os⟩):
 an (model prog w) A (call (.builtin "method_descriptor.__get__") [.builtin "list.append",.ref a,.type "list"]) Q E ⟨h,g,d,t,os⟩:=
 wpAny_call_entry vY type_list_append Bs (Ja e b ⟨_,rfl,c⟩) (D4 _ _ _)
theorem Bt{tk:Tok}{Q:Fin->af->Prop}(i:h.get? a=some o)(e:o.cls=.type "list")(f:o.dict=none)(b:∃xs k,o.data=.seq xs k)(s:Q (.done (.ret (.ref h.objs.size))) ⟨h.push (hV a),g,d,t,os⟩):
 an (model prog w) A (Builtin.«object.__getattribute__» ⟨[.ref a,.str "append" tk],[]⟩) Q E ⟨h,g,d,t,os⟩:=by
 obtain⟨c,l,j,u⟩:=o;simp only at e b f;obtain⟨xs,k,rfl⟩:=b;subst e f;have hT:(⟨h,g,d,t,os⟩:af).TypeIs (.ref a) "list":=⟨_,i,rfl⟩;have m:=slot_list_append.lookup;have n:=type_list_append;have p:=vY.lookup;have q:=Ok;have r:=Ol
 repeat (any_goals (first|assumption|((with_reducible show an _ _ (call (ai.builtin "method_descriptor.__get__") _ _) _ _ _);refine D5 i rfl ?_)|wp_step))
theorem Om{tk:Tok}{Q:ai->af->Prop}(j:h.get? a=some o)(f:o.cls=.type "list")(i:o.dict=none)(b:∃xs k,o.data=.seq xs k)(q:Q (.ref h.objs.size) ⟨h.push (hV a),g,d,t+1,os⟩):
 an (model prog w) A (getAttr (.ref a) "append" true) Q E ⟨h,g,d,t,os⟩:=by
 obtain⟨c,m,l,r⟩:=o;simp only at f b i;subst f i;have hT:∀e,(⟨h,g,d,e,os⟩:af).TypeIs (.ref a) "list":=λs=>⟨_,j,rfl⟩;have n:=F.slot_list_getattribute.lookup;have p:=F.slot_list_getattribute.bind (.ref a);unfold getAttr getAttrBy
 repeat (any_goals (first|assumption|exact hT _|((with_reducible show an _ _ (call (ai.builtin "list.__getattribute__") _ _) _ _ _);refine wpAny_call_entry F.slot_list_getattribute (hT _) F.entry_list_ga (Bt j rfl rfl b ⟨_,rfl,?_⟩) (F.args_list_getattribute_2 _ _))|wp_step))
theorem vZ{m:Addr}{vs:Array ai}{Q:Keeper->af->Prop}{s:af}(a:s.heap.get? m=some {cls:=.type "builtin_function_or_method",data:=.fields vs})(h:Q .machine s):an (model prog w) A (keeperOf (.ref m)) Q E s:=by refine ah (wpAny_load a ?_);show an _ _ (if(ai.type "builtin_function_or_method" != ai.type "method")=true then pure (if(ai.type "builtin_function_or_method"==ai.type "builtin_function_or_method"||ai.type "builtin_function_or_method"==ai.type "method-wrapper")=true then Keeper.machine else Keeper.caller) else _) _ _ _;rw[aH (show(ai.type "builtin_function_or_method" != ai.type "method")=true by decide),aH (show(ai.type "builtin_function_or_method"==ai.type "builtin_function_or_method"||ai.type "builtin_function_or_method"==ai.type "method-wrapper")=true by decide)];exact ay h
theorem iN{pos:Pos}{f:ai}{first:List ai}{args:List (Bool×Sem ai)}{d:List (Option Str×Sem ai)}{Q:ai->af->Prop}{s:af}(i:args.any (·.1)=false)(j:d.any (·.1.isNone)=false)
 (h:an (model prog w) A (evalArgs f true args d) (λx b=>an (model prog w) A (keeperOf f) (λk a=>k=.machine/\an (model prog w) A (call f (first++x.pos) x.kw) Q E a) E b) E s):an (model prog w) A (callWith pos f first args d) Q E s:=by
 refine ah (wpAny_holding (am h (λx b e=>ah (wpAny_standAt ?_)) λg g x=>x));rw[i,j];refine ah (am e (λk a z=>?_) λg g x=>x);obtain⟨rfl,c⟩:=z;exact ah (am c (λr a l=>ah (wpAny_holding (wpAny_point (ay l)))) λg g x=>x)
theorem uE{pos:Pos}{m a:Addr}{args:List (Bool×Sem ai)}{Q:ai->af->Prop}{s:af}(c:args.any (·.1)=false)
 (h:an (model prog w) A (evalArgs (.ref m) true args []) (λx b=>b.heap.get? m=some (hV a)/\an (model prog w) A (call (.ref m) x.pos x.kw) Q E b) E s):an (model prog w) A (callWith pos (.ref m) [] args []) Q E s:=
 iN c rfl (am h (λx b z=>vZ z.1 ⟨rfl,z.2⟩) λd d x=>x)
theorem On:isSubtype (.type "list") (.type "module")=pure false:=by rw[isSubtype_type];kernel_rfl
theorem Oo:isSubtype (.type "list") (.type "type")=pure false:=by rw[isSubtype_type];kernel_rfl
theorem D6{m a:Addr}{x:ai}{b:Array ai}{Q:ai->af->Prop}{s:af}(j:s.heap.get? m=some (hV a))(i:s.heap.PlainList a b)
 (f:∀h',h'.PlainList a (b.push x)->Heap.SameBut a s.heap h'->Q .none {s with heap:=h'})(k:b.size<=sizeLine):an (model prog w) A (call (.ref m) [x]) Q E s:=by
 obtain⟨h,g,d,t,os⟩:=s;obtain⟨n,c⟩:=i;dsimp only at j c f;have hT:(⟨h,g,d,t,os⟩:af).TypeIs (.ref a) "list":=⟨_,c,rfl⟩;have l:=On;have o:=Oo;refine wpAny_call (codeAny_of_tree ?_);show an _ _ (callAny (.ref m) ⟨[x],[]⟩) _ _ _;unfold callAny;have fin:codeAny (model prog w) A (.builtin "list.append" ⟨[.ref a,x],[]⟩) (λr s'=>match r with|.ok (.ret v)=>Q v s'|.ok _=>False|.error e=>E e s') ⟨h,g,d,t,os⟩:=by refine codeAny_builtin entry_list_append ?_;show an _ _ (updateSeq a (·.push x)>>=λp=>ret .none) _ _ _;refine ah ?_;refine wpAny_updateSeq c rfl (ay (f _ ⟨n+1,?_⟩ (Heap.SameBut.update ..)));rw[Heap.get?_update_self _ c (by rw[Obj.mapSeq_push_plain];rfl),Obj.mapSeq_push_plain]
 repeat (any_goals (first|assumption|exact⟨Code.quiet_builtin _ (by decide+kernel),fin⟩|wp_step))
end
section
variable{w:aq}{ts:Tb}{K:KT}{M:gz}{k n:Nat}{A:aL}{env:Env}{X:List Addr}{oa:Addr}{sc:Sc}{st st':St}{s:af}{o:dN}
theorem D7(a:bQ w ts K M k n){v:Option Expr}{pos:Pos}(h:(ex K M (n+1) sc (.Return v pos) st).run=some (o,st'))(c:eq A k)(f:bC w env sc)(j:c0 X env)(H:b0 w ts env X oa st s.heap)(g:0<s.toks):
 an (model pw w) A (exec (.Return v pos) env) (PS w ts env X oa st st' s o) bM s:=by
 cases v with
 |none=>cases h;exact wpAny_Return_none (.quiet (Kp.refl _ _) H (jD.refl _) .none)
 |some e=>refine bB h ?_;clear h;intro d st1 b h;cases h;exact wpAny_Return_some (am (a.e _ _ _ _ _ b A env X oa c f s H g) (λv s1 p1=>.quiet p1.kp p1.hs p1.shr p1.rd) λi i x=>x)
theorem Jb{pos:Pos}(h:(ex K M (n+1) sc (.Break pos) st).run=some (o,st'))(H:b0 w ts env X oa st s.heap):an (model pw w) A (exec (.Break pos) env) (PS w ts env X oa st st' s o) bM s:=by cases h;exact wpAny_Break (.quiet (Kp.refl _ _) H (jD.refl _) trivial)
theorem yk{pos:Pos}(h:(ex K M (n+1) sc (.Continue pos) st).run=some (o,st'))(H:b0 w ts env X oa st s.heap):an (model pw w) A (exec (.Continue pos) env) (PS w ts env X oa st st' s o) bM s:=by cases h;exact wpAny_Continue (.quiet (Kp.refl _ _) H (jD.refl _) trivial)
theorem Op{pos:Pos}(h:(ex K M (n+1) sc (.Pass pos) st).run=some (o,st'))(H:b0 w ts env X oa st s.heap):an (model pw w) A (exec (.Pass pos) env) (PS w ts env X oa st st' s o) bM s:=by cases h;exact wpAny_Pass (.quiet (Kp.refl _ _) H (jD.refl _) trivial)
theorem D8(a:bQ w ts K M k n){t:Expr}{m:Option Expr}{pos:Pos}(h:(ex K M (n+1) sc (.Assert t m pos) st).run=some (o,st'))(f:eq A k)(g:bC w env sc)(H:b0 w ts env X oa st s.heap)(i:0<s.toks):
 an (model pw w) A (exec (.Assert t m pos) env) (PS w ts env X oa st st' s o) bM s:=by
 refine bB h ?_;clear h;intro c st1 d h;refine ct h ?_;clear h;intro e h;cases h;refine wpAny_Assert_holds (am (a.b _ _ _ _ _ d A env X oa f g s H i) (λb s1 p1=>?_) λj j x=>x);exact⟨p1.rd.trans e,.quiet p1.kp p1.hs p1.shr trivial⟩
theorem WQ(m:bQ w ts K M k n)(l:jU w ts K M k n){t:Expr}{b e:List Stmt}{pos:Pos}(h:(ex K M (n+1) sc (.If t b e pos) st).run=some (o,st'))(d:eq A k)(g:bC w env sc)(j:c0 X env)(H:b0 w ts env X oa st s.heap)(i:0<s.toks):
 an (model pw w) A (exec (.If t b e pos) env) (PS w ts env X oa st st' s o) bM s:=by
 refine bB h ?_;clear h;intro c st1 r h;refine wpAny_If (am (m.b _ _ _ _ _ r A env X oa d g s H i) (λp s1 p1=>?_) λa a x=>x);have q:=p1.rd;subst q;cases p with
 |true=>exact am (l.xs _ _ _ _ _ (show(cM K M n sc b st1).run=_ from h) A env X oa d g j s1 p1.hs (p1.toks i)) (λf u p2=>p2.after p1.kp p1.hs p1.shr) λa a x=>x
 |false=>exact am (l.xs _ _ _ _ _ (show(cM K M n sc e st1).run=_ from h) A env X oa d g j s1 p1.hs (p1.toks i)) (λf u p2=>p2.after p1.kp p1.hs p1.shr) λa a x=>x
set_option tactic.hygienic true in
theorem Jc(e:jU w ts K M k n){es:List Stmt}(h:(cM K M (n+1) sc es st).run=some (o,st'))(g:eq A k)(i:bC w env sc)(c:c0 X env)(H:b0 w ts env X oa st s.heap)(j:0<s.toks):
 an (model pw w) A (execs es env) (PS w ts env X oa st st' s o) bM s:=by
 cases es with
 |nil=>cases h;exact wpAny_execs_nil (.quiet (Kp.refl _ _) H (jD.refl _) trivial)
 |cons s0 r=>
  refine bB h ?_;clear h;intro q st1 p h;refine bg (am (e.x _ _ _ _ _ p A env X oa g i c s H j) (λf s1 p1=>?_) λb b x=>x);obtain⟨oa1,l,m,a⟩:=p1.ex;cases q with
  |next=>
   cases f<;>try exact a.elim
   exact am (e.xs _ _ _ _ _ h A env X oa1 g i c s1 l (p1.toks j)) (λf t p2=>p2.then p1.kq m) λb b x=>x
  |brk=>cases h;cases f<;>first|exact a.elim|exact p1
  |cont=>cases h;cases f<;>first|exact a.elim|exact p1
  |ret d=>cases h;cases f<;>first|exact a.elim|exact p1
theorem D9{st:St}{x:Nm}{d:D}:∃c,st.set x d=⟨ee st.v x d,c,st.ob⟩/\∀y h ds,c=some (y,h,ds)->∃z,st.ow=some (y,z,ds)/\x≠y/\∀q,h=some q->z=some q/\x≠q:=by
 unfold St.set;cases e:st.ow with
 |none=>exact⟨none,rfl,λa a a q=>nomatch q⟩
 |some p=>
  obtain⟨y,z,ds⟩:=p;cases b:cr y x with
  |true=>exact⟨none,by dsimp only;rw[b],λa a a q=>nomatch q⟩
  |false=>
   have g:x≠y:=λq=>eM.mp b q.symm;cases z with
   |none=>exact⟨some (y,none,ds),by dsimp only;rw[b],λa a a q=>by cases q;exact⟨none,rfl,g,λa q=>nomatch q⟩⟩
   |some z=>
    cases f:cr z x with
    |true=>exact⟨some (y,none,ds),by dsimp only;rw[b];dsimp only;rw[f],λa a a q=>by cases q;exact⟨_,rfl,g,λa q=>nomatch q⟩⟩
    |false=>exact⟨some (y,some z,ds),by dsimp only;rw[b];dsimp only;rw[f],λa a a q=>by cases q;exact⟨_,rfl,g,λa q=>by cases q;exact⟨rfl,λq=>eM.mp f q.symm⟩⟩⟩
theorem Ea{h g:Heap}{x:Nm}{v:ai}{d:D}(H:b0 w ts env X oa st h)(n:bC w env sc)(j:jm env h g (S x) v)(i:c0 X env)(rd:Rd (bJ (st.hid X oa) h) ts v d):
 b0 w ts env X oa (st.set x d) g/\jD st (st.set x d):=by
 obtain⟨p,e,a⟩:=D9 (st:=st) (x:=x) (d:=d);rw[e];refine⟨H.store n j i (λy e f=>?_) λy r ds q=>?_,λq=>?_⟩
 .rcases kI f with⟨rfl,rfl⟩|⟨c,f⟩
  .exact .inl ⟨rfl,rd⟩
  .exact .inr ⟨c,f⟩
 .obtain⟨z,l,b,m⟩:=a _ _ _ q;exact⟨z,l,b,λq o=>.inl (m q o)⟩
 .obtain⟨⟨y,r,ds⟩,k⟩:=ax.mp q;obtain⟨z,b,s⟩:=a _ _ _ k;rw[b];rfl
theorem hY{x:Nm}{v:ai}{d:D}(e:bC w env sc)(g:c0 X env)(H:b0 w ts env X oa st s.heap)(h:jG (kd sc x)=true)(rd:Rd (bJ (st.hid X oa) s.heap) ts v d):
 an (model pw w) A (storeName env (S x) v) (λi s'=>PS w ts env X oa st (st.set x d) s .next .next s'/\b0 w ts env X oa (st.set x d) s'.heap/\jD st (st.set x d)) bM s:=by
 refine gr e h H.loc H.cel λh' tk a c=>?_;obtain⟨b,f⟩:=Ea H e c g rd;exact⟨⟨⟨oa,b,.shr f,trivial⟩,vW c a⟩,b,f⟩
theorem Eb{a:Expr}{t:Option Expr}{b:Nat}(h:x4 a=false):swapsWith a t b env=pure false:=by revert h;cases a<;>first|exact λc=>rfl|exact λh=>(ab h.symm).elim
theorem sP(f:bQ w ts K M k n){x:Str}{xp pos:Pos}{a:Expr}{d:D}{st1:St}(i:jG (kd sc (bm x))=true)(g:(ev K M n sc a st).run=some (d,st1))(j:swapsWith a (some (.Name x xp)) pos.line env=pure false)
 (h:eq A k)(c:bC w env sc)(e:c0 X env)(H:b0 w ts env X oa st s.heap)(l:0<s.toks):
 an (model pw w) A (exec (.Assign [.Name x xp] a pos) env) (PS w ts env X oa st (st1.set (bm x) d) s .next) bM s:=by
 refine wpAny_Assign_Name (am (f.e _ _ _ _ _ g A env X oa h c s H l) (λv s1 p1=>?_) λb b x=>x) j;exact am (hY (x:=bm x) c e p1.hs i p1.rd) (λb m p2=>p2.1.after p1.kp p1.hs p1.shr) λb b x=>x
theorem z7{op:Operator}{d1 d2 r:D}{G:Prop}(h:(Dh op d1 d2).run=some r)(e:∀i j,op=.Add->d1=.int i->d2=.int j->r=.int (i+j)->G)(f:∀x y,op=.Add->d1=.str x->d2=.str y->x.length+y.length<=br->r=.str (x++y)->G):G:=by
 cases op<;>first|exact cX h|skip
 have h:(match lS d1 with
  |some i=>(T.opt (lS d2)).bind λj=>T.ret (D.int (i+j))
  |none=>(T.opt (je d1)).bind λx=>(T.opt (je d2)).bind λy=>T.chk (decide (x.length+y.length<=br)) (T.ret (D.str (x++y)))).run=some r:=h
 cases a:lS d1 with
 |some i=>rw[a] at h;exact bv h λj b h=>e i j rfl (gD a) (gD (bn b)) (ag h).symm
 |none=>rw[a] at h;exact bv h λx b h=>bv h λy c h=>ct h λd h=>f x y rfl (d9 (bn b)) (d9 (bn c)) (ar d) (ag h).symm
theorem sQ{op:Operator}{d1 d2 r:D}{l m:ai}{Q:ai->af->Prop}(o:(Dh op d1 d2).run=some r)(a:Rd (bJ X s.heap) ts l d1)(b:Rd (bJ X s.heap) ts m d2)
 (fin:∀(n:ai) (c:af),Keeps s c->s.toks<=c.toks->Rd (bJ X c.heap) ts n r->Q n c):an (model pw w) A (inplaceOp op l m) Q bM s:=by
 have p:br=16777216:=rfl;refine z7 o (λi j e d f g=>?_) λx y e d f k g=>?_
 .rw[d] at a;rw[f] at b;rw[g] at fin;obtain⟨t,rfl⟩:=Bk a;obtain⟨u,rfl⟩:=Bk b;rw[e];exact P.iadd_int (fin _ _ (di _) (Nat.le_succ _) (.int _ _))
 .rw[d] at a;rw[f] at b;rw[g] at fin;obtain⟨t,rfl,h⟩:=m9 a;obtain⟨u,rfl,h⟩:=m9 b;rw[e];refine fw (SB.iadd (λt' kk tk=>?_) (by rw[c8,c8,bu];exact k));rw[gq];exact fin _ _ ⟨_,kk,rfl,λh h e=>e⟩ tk (.str (x++y) t' (by rw[ae];exact k))
theorem Bu(i:bQ w ts K M k n){x:Str}{xp pos:Pos}{op:Operator}{a:Expr}(h:(DA (ev K M n sc) sc st (bm x) op a).run=some (o,st'))
 (p:eq A k)(e:bC w env sc)(g:c0 X env)(H:b0 w ts env X oa st s.heap)(u:0<s.toks):
 an (model pw w) A (exec (.AugAssign (.Name x xp) op a pos) env) (PS w ts env X oa st st' s o) bM s:=by
 refine dz h ?_;clear h;intro b h;refine bx b ?_;clear b;intro b f;refine bx b λq t=>bv h λd j h=>bB h λd2 st1 l h=>bv h λr m h=>?_;cases h;obtain⟨v,y,C⟩:=H.vars _ _ (bn j);refine wpAny_AugAssign_Name (hJ (x:=bm x) e y f (am (i.e _ _ _ _ _ l A env X oa p e s H u) (λF s1 p1=>?_) λc c x=>x));refine sQ m (C.on H p1.kp p1.shr) p1.rd λG D ks tk B=>?_;exact am (hY (x:=bm x) e g (p1.hs.keep ks tk) q B) (λc E z=>z.1.after (p1.kp.trans (dF ks tk)) (p1.hs.keep ks tk) p1.shr) λc c x=>x
end
section
variable{w:aq}{ts:Tb}{K:KT}{M:gz}{k n:Nat}{A:aL}{env:Env}{X:List Addr}{oa:Addr}{sc:Sc}{st st1 st':St}{s s1 s':af}{o:dN}
theorem mq.pe2{N:List Addr}{A L:Addr}{rs:List D}{ob':List Ob}(C:mq w ts (st1.hid X oa) s1 s' N A L rs ob')(H:b0 w ts env X oa st1 s1.heap):
 Rd (bJ (st1.hid (L::X) oa) s'.heap) ts (.ref A) (.list rs)/\b0 w ts env (L::X) oa ⟨st1.v,st1.ow,ob'⟩ s'.heap:=by
 have outer:gT (bJ (st1.hid X oa) s1.heap) (bJ (N++st1.hid X oa) s'.heap):=λa o e c=>by
  have y:=(C.kp.mon H.base H.obs (st1.hid X oa)) a o e c;obtain⟨e0,p⟩:=bT e;have s:=bT y;clear y;obtain⟨y,G⟩:=s;refine cc y λq=>?_;rcases List.mem_append.mp q with q|q
  .rw[C.fresh.new _ q] at e0;cases e0
  .exact p q
 have r:∀a,a∈st1.hid (L::X) oa->a∈N++st1.hid X oa:=λa n=>by
  rcases fe n with q|⟨q,rfl⟩
  .rcases ao.mp q with rfl|q
   .exact List.mem_append_left _ C.hL
   .exact List.mem_append_right _ (dp _ q)
  .exact List.mem_append_right _ (fc q)
 have i:gT (bJ (N++st1.hid X oa) s'.heap) (bJ (st1.hid (L::X) oa) s'.heap):=λa o e c=>by have s:=bT e;clear e;obtain⟨e,p⟩:=s;exact cc e λq=>p (r _ q)
 have P:gT (bJ (N++st1.hid X oa) s'.heap) (bJ (st1.hid X oa) s'.heap):=λa o e c=>by have s:=bT e;clear e;obtain⟨e,p⟩:=s;exact cc e λq=>p (List.mem_append_right _ q)
 have t:=H.kp C.kp C.base (C.obs.mon P);have K:A∉st1.hid (L::X) oa:=λq=>by
  rcases fe q with q|⟨q,j⟩
  .rcases ao.mp q with q|q
   .exact C.ne q
   .obtain⟨o,f⟩:=ax.mp (H.live _ q);rw[C.fresh.new _ C.hD] at f;cases f
  .obtain⟨o,f⟩:=ax.mp (H.hid _ (fc q));rw[<-j,C.fresh.new _ C.hD] at f;cases f
 refine⟨?_,⟨C.base,λx d e=>?_,λx z ds e=>?_,C.obs.mon i,t.loc,t.cel,H.off,λa n=>?_⟩⟩
 .obtain⟨h,⟨J,e⟩,F,E⟩:=C.acc;exact .list (cc e K) F (E.mon i)
 .obtain⟨v,a,b⟩:=H.vars x d e;exact⟨v,a.keep (λo f=>C.kp.get f H.off H.noloc) (λc o I f=>C.kp.get f (H.nocell I).1 (H.nocell I).2),(b.mon outer).mon i⟩
 .have k:st1.ow=some (x,z,ds):=e;have u:=t.own _ _ _ e;have O:=H.own _ _ _ k;have M:st1.hid X oa=oa::X:=by unfold St.hid;rw[k]
  have B:st1.hid (L::X) oa=oa::L::X:=by unfold St.hid;rw[k]
  obtain⟨J,h,g,l,q⟩:=O.items;refine⟨u.var,u.app,⟨J,h,C.kp.get g (H.ownoff k).1 (H.ownoff k).2,l,?_⟩,λj=>?_,u.new⟩
  .have:=(q.mon (by rw[<-M];exact outer)).mon i;rw[B] at this;exact this
  .rcases ao.mp j with j|j
   .rw[j,C.fresh.new _ C.hL] at g;cases g
   .exact u.off j
 .rcases ao.mp n with rfl|n
  .obtain⟨m,o,G,G,f,G⟩:=C.loc;rw[f];rfl
  .exact t.live a n
theorem b0.skip{L:Addr}{h h':Heap}{st:St}(H:b0 w ts env (L::X) oa st h)(E:L∉X)(J:∃m,h.Ns L m)(C:L≠env.locals)(D:∀x c,env.cells.lookup x=some c->c≠L)(nd:L∉fG ts)(W:L≠dM)(S:(hT w.params).get? L=none)
 (T:∀(i:Nat) (p:Addr×Addr),ts[i]?=some p->p.1≠L)(V:st.ow≠none->oa≠L)(k:∀b o,b≠L->h.get? b=some o->h'.get? b=some o):b0 w ts env X oa st h':=by
 have s:L∈st.hid (L::X) oa:=dp _ (.head _);have A:∀a,a∈st.hid X oa->a∈st.hid (L::X) oa:=λa B=>by
  rcases fe B with q|⟨q,rfl⟩
  .exact dp _ (.tail _ q)
  .exact fc q
 have m:gT (bJ (st.hid (L::X) oa) h) (bJ (st.hid X oa) h'):=λa o e c=>by have Y:=bT e;clear e;obtain⟨e,P⟩:=Y;exact cc (k a o (λq=>P (q▸s)) e) λq=>P (A _ q)
 refine⟨⟨λb o e n=>k b o (λq=>by rw[q,S] at e;cases e) (H.base.keep b o e n),?_⟩,λx d e=>?_,λx z ds e=>?_,⟨H.obs.len,λi o p a b=>?_,H.obs.nodup⟩,?_,λx c j=>?_,H.off,λa B=>?_⟩
 .obtain⟨ps,e,c⟩:=H.base.lam;exact⟨ps,k _ _ (Ne.symm W) e,c⟩
 .obtain⟨v,a,b⟩:=H.vars x d e;exact⟨v,a.keep (λo f=>k _ _ (Ne.symm C) f) (λc o j f=>k _ _ (D _ _ j) f),b.mon m⟩
 .have O:=H.own _ _ _ e;have I:st.ow≠none:=by rw[e];exact λq=>nomatch q
  have Q:st.hid (L::X) oa=oa::L::X:=by unfold St.hid;rw[e]
  have F:st.hid X oa=oa::X:=by unfold St.hid;rw[e]
  obtain⟨U,t,g,l,q⟩:=O.items;refine⟨O.var.keep (λo f=>k _ _ (Ne.symm C) f) (λc o j f=>k _ _ (D _ _ j) f),λy R=>?_,⟨U,t,k _ _ (V I) g,l,?_⟩,λM=>O.off (.tail _ M),O.new⟩
  .obtain⟨mm,o,a,b,c⟩:=O.app y R;refine⟨mm,o,a.keep (λo f=>k _ _ (Ne.symm C) f) (λc o j f=>k _ _ (D _ _ j) f),k _ _ (λM=>?_) b,c⟩;obtain⟨N,Z,N,N,K,u,N⟩:=J;rw[M,K] at b;cases b;rw[c] at u;cases u
  .have m2:=m;rw[Q,F] at m2;exact q.mon m2
 .have y:=H.obs.each i o p a b;obtain⟨es,n,e,r⟩:=y.dict;exact⟨k _ _ (T i p b) y.inst,⟨es,n,k _ _ (λq=>nd (q▸aE.mpr ⟨p,List.mem_of_getElem? b,rfl⟩)) e,r.mon m⟩,y.new⟩
 .obtain⟨m0,G⟩:=H.loc;exact⟨m0,G.at' λo e=>k _ _ (Ne.symm C) e⟩
 .obtain⟨v,o,f,r⟩:=H.cel x c j;exact⟨v,o,k _ _ (D _ _ j) f,r⟩
 .obtain⟨o,f⟩:=ax.mp (H.live a (.tail _ B));rw[k a o (λq=>E (q▸B)) f];rfl
theorem sR(KO:fz w ts K k)(MO:vv w M){E:Expr}{r:List Comprehension}{f:Scope}{l pos xp:Pos}{x:Str}{d:D}(ac:jG (kd sc (bm x))=true)(h:(ev K M (n+1) sc (.ListComp E r f l) st).run=some (d,st'))
 (hs:swapsWith (.ListComp E r f l) (some (.Name x xp)) pos.line env=pure true)(hA:eq A k)(T:bC w env sc)(HF:c0 X env)(H:b0 w ts env X oa st s.heap)
 (ab:∀it d1 st1,(∃y py aj as,r=[⟨.Name y py,it,aj,as⟩])->(ev K M n sc it st).run=some (d1,st1)->an (model pw w) A (eval it env) (λv s1=>PE w ts env X oa st st1 s d1 v s1/\0<s1.toks) bM s):
 an (model pw w) A (exec (.Assign [.Name x xp] (.ListComp E r f l) pos) env) (λfl s'=>PS w ts env X oa st (st'.set (bm x) d) s .next fl s'/\0<s'.toks) bM s:=by
 have IH:=dQ KO MO (jS (w:=w) (ts:=ts) (k:=k)) n;refine D1 h λg eg h0 t=>Nb h0 λP Z hk hx ok aa=>?_
 .rw[eg,Z] at hs⊢;clear h;refine bB t ?_;clear t;intro d1 st1 h1 t;refine bv t ?_;clear t;intro ds I t;refine bB t ?_;clear t;intro rs ob' G t;cases t;rw[exec_Assign_Name_used _ _ _ _ hs];refine ah (wpAny_standAt (ah ?_));show an _ A (do let _<-comprehension (.ListComp E [⟨.Name g.1 g.2.1,g.2.2.1,g.2.2.2.1,0⟩] f l) f env _ (newList []) false (eval g.2.2.1 env) (some (assign (.Name x xp) env))) _ _ s;refine ah (am (wpAny_comprehension_free (use:=some (assign (.Name x xp) env)) (Q:=λj s'=>PS w ts env X oa st (St.set ⟨st1.v,st1.ow,ob'⟩ (bm x) (.list rs)) s .next .next s'/\0<s'.toks) rfl (D0 P) (lE (qd T ok)) hk (ox ok)
   (am (ab g.2.2.1 d1 st1 ⟨_,_,_,_,eg⟩ h1) (λv s1 ak=>?_) λj j x=>x)) (λj s' U=>ay (ay U)) λj j e=>e)
  obtain⟨p1,F⟩:=ak;refine qf (RR:=λY C=>compPost (model pw w) A bM (some (assign (.Name x xp) env)) (λj s'=>PS w ts env X oa st (St.set ⟨st1.v,st1.ow,ob'⟩ (bm x) (.list rs)) s .next .next s'/\0<s'.toks) Y C) IH hA T hk ok hx aa p1.hs F p1.rd (bn I) G λN Da L s' C=>?_;obtain⟨al,S⟩:=C.pe2 p1.hs;have B:=p1.hs;have a:=C.fresh.new _ C.hL;have V:c0 (L::X) env:=⟨.tail _ HF.loc,λx c J=>.tail _ (HF.cel x c J)⟩;have nL:L≠env.locals:=λq=>by obtain⟨j,o,j,j,u,j⟩:=B.loc;rw[<-q,a] at u;cases u
  have nc:∀x c,env.cells.lookup x=some c->c≠L:=λx c J q=>by obtain⟨j,o,u,j⟩:=B.cel x c J;rw[q,a] at u;cases u
  show an _ A (assign (.Name x xp) env (.ref Da)) _ _ _;refine wpAny_assign_Name (gr (x:=bm x) T ac S.loc S.cel λI tk ai W=>?_);obtain⟨H3,sh⟩:=Ea (d:=.list rs) S T W V al;have ae:∃m,I.Ns L m:=by obtain⟨m,hm⟩:=C.loc;exact⟨m,hm.at' λo e=>W.keep _ _ nL (λc J q=>nc _ _ J q.symm) e⟩
  obtain⟨mL,O⟩:=ae;refine⟨mL,O,λG ag=>?_⟩;have k3:∀b o,b≠L->I.get? b=some o->G.get? b=some o:=λb o t e=>(ag.2 b t).trans e;have H4:b0 w ts env X oa (St.set ⟨st1.v,st1.ow,ob'⟩ (bm x) (.list rs)) G:=by
   refine H3.skip (λq=>?_) ⟨mL,O⟩ nL nc (λq=>?_) (λq=>?_) (fP B.base a) (λi p hp q=>?_) (λq q2=>?_) k3
   .obtain⟨o,u⟩:=ax.mp (B.live _ q);rw[a] at u;cases u
   .obtain⟨⟨es,nn,e⟩,j⟩:=B.obs.dict q;rw[a] at e;cases e
   .obtain⟨j,e,j⟩:=B.base.lam;rw[<-q,a] at e;cases e
   .have ad:i<ts.length:=(aY.mp hp).1;have yi:=(B.obs.each i _ p (aD (by rw[B.obs.len];exact ad)) hp).inst;rw[q,a] at yi;cases yi
   .have q1:=D3 sh q;obtain⟨o,u⟩:=ax.mp (B.hid _ (fc q1));rw[q2,a] at u;cases u
  have R:Kq env ts oa st1 s1 {s' with heap:=G,toks:=tk}:=by
   have ka:=C.kp.kq (st:=st1) (oa:=oa) S;have kb:=vW (ts:=ts) (oa:=oa) (st:=st1) (s:=s') (tk:=tk) W ai;obtain⟨h',t',U,l1,k1,u1⟩:=ka.trans rE.refl kb;have e1:I=h':=aU af.heap U;subst e1;refine⟨G,t',aU (λz:af=>{z with heap:=G}) U,l1,λb o e n1 n2 n3 n4 n5=>k3 b o (λq=>?_) (k1 b o e n1 n2 n3 n4 n5),λb e=>?_⟩
   .rw[q,a] at e;cases e
   .have t:b≠L:=λq=>e (by rw[q,a]);cases q:I.get? b with
    |none=>exact aK q (u1 b e)
    |some o=>exact cO (k3 b o t q)
  exact⟨PS.after p1.kp p1.hs p1.shr ⟨⟨oa,H4,.shr sh,trivial⟩,R⟩,aI F R.toks⟩
theorem Bv(l:fz w ts K k)(m:vv w M){g:Expr}{f:List Comprehension}{a:Scope}{c pos xp:Pos}{x:Str}{d:D}(j:jG (kd sc (bm x))=true)(h:(ev K M n sc (.ListComp g f a c) st).run=some (d,st'))
 (o:eq A k)(q:bC w env sc)(t:c0 X env)(H:b0 w ts env X oa st s.heap)(r:0<s.toks):
 an (model pw w) A (exec (.Assign [.Name x xp] (.ListComp g f a c) pos) env) (PS w ts env X oa st (st'.set (bm x) d) s .next) bM s:=by
 cases n with
 |zero=>exact cX h
 |succ n=>
  have e:∃b:Bool,swapsWith (.ListComp g f a c) (some (.Name x xp)) pos.line env=pure b:=⟨_,rfl⟩;obtain⟨b,e⟩:=e;cases b with
  |true=>exact am (sR l m j h e o q t H λy d1 st1 i u=>am ((dQ l m jS n).e _ _ _ _ _ u A env X oa o q s H r) (λv s1 p=>⟨p,p.toks r⟩) λi i x=>x) (λi i x=>x.1) λi i x=>x
  |false=>exact sP (dQ l m jS (n+1)) j h e o q t H r
end
theorem qh:("append":Str)=S jK:=by decide+kernel
theorem Jd:("pop":Str)=S Ds:=by decide+kernel
theorem qi:∀{ds:List D},dB ds=true->∀d∈ds,xX d=true
 |a::r,h,d,b=>by
  refine bx h λc e=>?_;rcases ao.mp b with f|b
  .rw[f];exact c
  .exact qi e d b
theorem Ec{a:Str}{m:Nm}{b:Str}(h:cr (bm a) m=true)(e:b=S m):a=b:=by rw[e,<-dW h];rfl
section
variable{w:aq}{ts:Tb}{K:KT}{M:gz}{k n:Nat}{A:aL}{env:Env}{X:List Addr}{oa:Addr}{sc:Sc}{st st1 st':St}{s s1 s':af}{o:dN}
theorem sS:∀{n:Nat} {e:Expr} {p:D×St},(ev K M n sc e st).run=some p->dD e=false
 |0,e,p,h=>cX h
 |n+1,e,p,h=>by revert h;cases e<;>first|exact λa=>rfl|exact λh=>cX h
theorem Je(a:bC w env sc):interactive env=false:=by unfold interactive;rw[a.k];rfl
theorem b0.own_set{x:Nm}{z:Option Nm}{ds ds':List D}{h h':Heap}{f:Array ai}{K:Nat}(H:b0 w ts env X oa st h)(e:st.ow=some (x,z,ds))(J:∀b,b≠oa->h'.get? b=h.get? b)
 (F:h'.get? oa=some {cls:=.type "list",data:=.seq f K})(V:f.size<=br)(r:dj (bJ (oa::X) h) ts f.toList ds'):b0 w ts env X oa ⟨st.v,some (x,z,ds'),st.ob⟩ h':=by
 have O:=H.own _ _ _ e;have t:=H.ownoff e;have G:st.hid X oa=oa::X:=by unfold St.hid;rw[e]
 have R:St.hid X oa ⟨st.v,some (x,z,ds'),st.ob⟩=oa::X:=rfl;obtain⟨L,E,g,l,q⟩:=O.items;have m:gT (bJ (oa::X) h) (bJ (oa::X) h'):=λa o e c=>by have W:=bT e;clear e;obtain⟨e,I⟩:=W;exact cc ((J a λq=>I (q▸.head _)).trans e) I
 have nl:env.locals≠oa:=λq=>by obtain⟨A,o,A,A,j,B,A⟩:=H.loc;rw[q,g] at j;cases j;cases B
 have u:∀x c,env.cells.lookup x=some c->c≠oa:=λx c s q=>by obtain⟨A,o,j,B⟩:=H.cel x c s;rw[q,g] at j;cases j;cases B
 have k:∀b o,b≠oa->h.get? b=some o->h'.get? b=some o:=λb o Q e=>(J b Q).trans e;have T:(hT w.params).get? oa=none:=O.new;refine⟨⟨λb o e n=>k b o (λq=>by rw[q,T] at e;cases e) (H.base.keep b o e n),?_⟩,λx d e=>?_,λY Z M N=>?_,⟨H.obs.len,λi o p a b=>?_,H.obs.nodup⟩,?_,λx c s=>?_,H.off,λa P=>?_⟩
 .obtain⟨ps,e,c⟩:=H.base.lam;exact⟨ps,k _ _ (Ne.symm t.2) e,c⟩
 .obtain⟨v,a,b⟩:=H.vars x d e;rw[G] at b;exact⟨v,a.keep (λo j=>k _ _ nl j) (λc o s j=>k _ _ (u _ _ s) j),b.mon m⟩
 .cases N;refine⟨O.var.keep (λo j=>k _ _ nl j) (λc o s j=>k _ _ (u _ _ s) j),λy S=>?_,⟨K,f,F,V,r.mon m⟩,O.off,O.new⟩;obtain⟨mm,o,a,b,c⟩:=O.app y S;refine⟨mm,o,a.keep (λo j=>k _ _ nl j) (λc o s j=>k _ _ (u _ _ s) j),k _ _ (λU=>?_) b,c⟩;rw[U,g] at b;cases b;exact aK (aU Obj.cls c) (by show ¬(ai.type _=ai.type _);decide)
 .have y:=H.obs.each i o p a b;obtain⟨es,L,e,r⟩:=y.dict;rw[G] at r;refine⟨k _ _ (λq=>?_) y.inst,⟨es,L,k _ _ (λq=>t.1 (q▸aE.mpr ⟨p,List.mem_of_getElem? b,rfl⟩)) e,r.mon m⟩,y.new⟩;have:=y.inst;rw[q,g] at this;cases this
 .obtain⟨m0,C⟩:=H.loc;exact⟨m0,C.at' λo e=>k _ _ nl e⟩
 .obtain⟨v,o,j,r⟩:=H.cel x c s;exact⟨v,o,k _ _ (u _ _ s) j,r⟩
 .by_cases q:a=oa
  .rw[q,F];rfl
  .obtain⟨o,j⟩:=ax.mp (H.live a P);rw[k a o q j];rfl
theorem yl{x:Nm}{z:Option Nm}{ds ds':List D}{h':Heap}{a:Array ai}{i:Nat}(H:b0 w ts env X oa st s.heap)(e:st.ow=some (x,z,ds))(f:Heap.SameBut oa s.heap h')
 (g:h'.get? oa=some {cls:=.type "list",data:=.seq a i})(k:a.size<=br)(r:dj (bJ (oa::X) s.heap) ts a.toList ds'):PS w ts env X oa st (st.put ds') s .next .next {s with heap:=h'}:=by
 have h:st.put ds'=⟨st.v,some (x,z,ds'),st.ob⟩:=by unfold St.put;rw[e]
 rw[h];have c:st.ow≠none:=by rw[e];exact λq=>nomatch q
 refine⟨⟨oa,H.own_set e f.2 g k r,λd=>.inl ⟨rfl,c⟩,trivial⟩,h',s.toks,rfl,aF _,λb o e d d d d j=>(f.2 b (j c)).trans e,λb e=>?_⟩;by_cases q:b=oa
 .rw[q];exact cO g
 .rw[f.2 b q];exact e
theorem Oq{x:Nm}(h:isNone (st.own x)=false):∃z ds,st.ow=some (x,z,ds)/\st.ds=ds:=by
 cases e:st.own x with
 |none=>rw[e] at h;cases h
 |some ds=>have a:=lD e;clear e;obtain⟨z,e⟩:=a;exact⟨z,ds,e,by unfold St.ds;rw[e]⟩
theorem Ed{as:List (Sem ai)}{m:Nat}(a:m<20){pos:Pos}:((pl as).all (λx=>!x.1)&&(backToKw pos (keywordEach [] env)).all (λx=>x.1.isSome)
 &&decide (m+([]:List Keyword).length+(if([]:List Keyword).isEmpty then 0 else 1)<30))=true:=by
 have:(pl as).all (λx=>!x.1)=true:=by
  induction as with
  |nil=>rfl
  |cons _ _ b=>exact b
 rw[this,iM];simp;exact aj a (aB _ _)
theorem sT{name:Str}{id:String}{pos:Pos}{args:List (Bool×Sem ai)}{Q:ai->af->Prop}{b:Array ai}{c:Nat}(d:Slot "list" name id)(f:typeOf (.builtin id)=pure (.type "method_descriptor"))
 (g:s.heap.get? oa=some {cls:=.type "list",data:=.seq b c})(h:an (model pw w) A (callWith pos (.builtin id) [.ref oa] args []) Q bM s):MethodOnS pw w A bM name (.ref oa) pos args Q s:=
 ⟨"list",id,F.plainAttrs_list,d,f,⟨_,g,rfl⟩,λa e=>by cases e;exact⟨_,g,rfl⟩,h⟩
theorem qj{x:Str}{xp:Pos}{ds:List D}{z:Option Nm}(c:bC w env sc)(H:b0 w ts env X oa st s.heap)(a:dh (bm x)=true)(e:st.ow=some (bm x,z,ds)){Q:ai->af->Prop}(q:Q (.ref oa) s):an (model pw w) A (eval (.Name x xp) env) Q bM s:=by
 have d:(x==("__debug__":Str))=false:=by unfold dh at a;refine bx a λb f=>?_;rw[aN] at b;exact hH (x:=bm x) nh b
 exact wpAny_Name (hJ (x:=bm x) c (H.own _ _ _ e).var a q) d
theorem Ee(E:bQ w ts K M k n){x a:Str}{xp i j pos:Pos}{e:Expr}{d:D}{ds:List D}(S:st.own (bm x)=some ds)(R:dh (bm x)=true)(Q:Nat.beq i.endLine j.line=true)(N:cr (bm a) jK=true)
 (y:(ev K M n sc e st).run=some (d,st1))(J:isNone (st1.own (bm x))=false)(h:decide (st1.ds.length<br)=true)(L:eq A k)(p:bC w env sc)(H:b0 w ts env X oa st s.heap)(T:0<s.toks):
 an (model pw w) A (exec (.Expr (.Call (.Attribute (.Name x xp) a i) [e] [] j) pos) env) (PS w ts env X oa st (st1.put (st1.ds++[d])) s .next) bM s:=by
 obtain rfl:a="append":=Ec N qh;have f:starEach [e] env=pl [eval e env]:=fx e [] (sS y);have c:(i.endLine==j.line)=true:=by rw[beq_iff_eq];exact au Q
 obtain⟨z,e0⟩:=lD S;obtain⟨V,q,g,l,r⟩:=(H.own _ _ _ e0).items;refine wpAny_Expr ?_ (Je p) rfl;refine wpAny_Call_method_lateS rfl (by rw[f,dP];exact Ed (m:=1) (by decide)) c (qj p H R e0 ?_);rw[f,dP];refine sT F.slot_list_append F.type_list_append g (P.append_list (am (E.e _ _ _ _ _ y A env X oa L p s H T) (λv s1 p1=>?_) λU U x=>x));obtain⟨W,G,o,I⟩:=Oq J;obtain⟨t,b,u,l1,C⟩:=(p1.hs.own _ _ _ o).items;have O:st1.hid X oa=oa::X:=by unfold St.hid;rw[o]
 rw[I] at h⊢;replace h:=ar h;have B:b.size<br:=by have:=C.length;rw[aM] at this;exact aS (aO this) h
 refine⟨b,t,by rw[bu];exact Nat.le_of_lt B,u,?_⟩;refine PS.after p1.kp p1.hs p1.shr (yl p1.hs o (Heap.SameBut.update ..) (IsL.update u _) (by rw[Array.size_push];exact B) ?_);rw[Array.toList_push];have rd:=p1.rd;rw[O] at rd;exact C.append (.cons rd .nil)
theorem S9{x a:Str}{xp q u pos:Pos}{ds:List D}(O:st.own (bm x)=some ds)(N:dh (bm x)=true)(M:Nat.beq q.endLine u.line=true)(L:cr (bm a) Ds=true)
 (f:(!st.ds.isEmpty&&dB st.ds)=true)(Q:eq A k)(E:bC w env sc)(H:b0 w ts env X oa st s.heap):
 an (model pw w) A (exec (.Expr (.Call (.Attribute (.Name x xp) a q) [] [] u) pos) env) (PS w ts env X oa st (st.put st.ds.dropLast) s .next) bM s:=by
 obtain rfl:a="pop":=Ec L Jd;refine bx f ?_;clear f;intro f y;have C:=qi y;have e:(q.endLine==u.line)=true:=by rw[beq_iff_eq];exact au M
 obtain⟨z,e0⟩:=lD O;obtain⟨o,b,g,l,r⟩:=(H.own _ _ _ e0).items;have K:st.ds=ds:=by unfold St.ds;rw[e0]
 rw[K] at f C⊢;have c:=r.length;rw[aM] at c;have n:0<ds.length:=by
  cases ds with
  |nil=>cases f
  |cons _ _=>exact Nat.succ_pos _
 refine wpAny_Expr ?_ (Je E) rfl;refine wpAny_Call_method_lateS rfl (Ed (as:=[]) (m:=0) (by decide)) e (qj E H N e0 ?_);have j:b.size-1<b.size:=by omega
 have i:b[b.size-1]?=some b[b.size-1]:=Array.getElem?_eq_getElem j;refine sT (args:=[]) F.slot_list_pop F.type_list_pop g (P.pop_list g i ?_ (by rw[bu];exact l));have B:∃x t,b[b.size-1]=.str x t:=by
  have h:ds.length-1<ds.length:=by exact Nat.sub_lt_self (by decide) n
  obtain⟨v,J,p⟩:=r.get (ds.length-1) ds[ds.length-1] (aD h);rw[<-c,Array.getElem?_toList,i] at J;cases J;have I:=C _ (List.getElem_mem h);generalize hd:ds[ds.length-1]=dl at p I;revert p;refine xr (b[b.size-1]) λR=>?_;intro p;cases p<;>first|exact⟨_,_,rfl⟩|cases I
 obtain⟨T,S,B⟩:=B;rw[B];have G:({cls:=.type "list",data:=.seq (b.eraseIdxIfInBounds (b.size-1)) (if(b.eraseIdxIfInBounds (b.size-1)).size==b.size then o else o+1)}:Obj)={cls:=.type "list",data:=.seq (b.eraseIdxIfInBounds (b.size-1)) (if(b.eraseIdxIfInBounds (b.size-1)).size==b.size then o else o+1)}:=rfl;have d:(b.eraseIdxIfInBounds (b.size-1)).toList=b.toList.dropLast:=by rw[Array.eraseIdxIfInBounds,dif_pos j,Array.toList_eraseIdx,List.dropLast_eq_take,aM,List.eraseIdx_eq_take_drop_succ,List.drop_eq_nil_of_le (by rw[aM];omega),List.append_nil]
 refine yl H e0 (Heap.SameBut.update ..) (IsL.update g _) ?_ ?_
 .rw[<-aM,d,List.length_dropLast,aM];exact aj (Nat.sub_le _ _) l
 .rw[d];exact r.dropLast
end
theorem Bw{α:Type}{k x:Nm}{e:α}{r:List (Nm×α)}:oS ((k,e)::r) x=if k=x then oS r x else(k,e)::oS r x:=by
 by_cases h:k=x
 .rw[aH h];show(match cr k x with|true=>_|false=>_)=_;rw[eC.mpr h]
 .rw[av h];show(match cr k x with|true=>_|false=>_)=_;rw[eM.mpr h]
theorem kL{α:Type}:∀{l:List (Nm×α)} {x y:Nm} {e:α},dR (oS l x) y=some e->x≠y/\dR l y=some e
 |[],x,y,e,h=>by cases h
 |(k,v)::r,x,y,e,h=>by
  rw[Bw] at h;by_cases d:k=x
  .rw[aH d] at h;obtain⟨a,b⟩:=kL h;exact⟨a,by rw[cg,av (λq=>a (d.symm.trans q))];exact b⟩
  .rw[av d,cg] at h;by_cases c:k=y
   .rw[aH c] at h;exact⟨λq=>d (c.trans q.symm),by rw[cg,aH c];exact h⟩
   .rw[av c] at h;obtain⟨a,b⟩:=kL h;exact⟨a,by rw[cg,av c];exact b⟩
section
variable{w:aq}{ts:Tb}{K:KT}{M:gz}{k n:Nat}{A:aL}{env:Env}{X:List Addr}{oa:Addr}{sc:Sc}{st st1 st':St}{s s1 s':af}{o:dN}
theorem b0.freeze'(H:b0 w ts env X oa st s.heap):b0 w ts env X oa st.freeze s.heap/\st.freeze.ow=none/\st.freeze.ob=st.ob:=by
 cases e:st.ow with
 |none=>
  have:st.freeze=st:=by unfold St.freeze;rw[e]
  rw[this];exact⟨H,e,rfl⟩
 |some q=>obtain⟨x,z,ds⟩:=q;refine⟨(H.freeze e).1,?_,?_⟩<;>(unfold St.freeze;rw[e])
theorem b0.fresh{h D A:Heap}{x:Nm}{L:Addr}{n:Nat}(H:b0 w ts env X oa st h)(t:st.ow=none)(J:bC w env sc)(I:c0 X env)(B:∀b o,h.get? b=some o->D.get? b=some o)(s:h.get? L=none)
 (O:D.get? L=some {cls:=.type "list",data:=.seq #[] n})(k:jm env D A (S x) (.ref L)):b0 w ts env X L ⟨oS st.v x,some (x,none,[]),st.ob⟩ A:=by
 have M:st.hid X oa=X:=by unfold St.hid;rw[t]
 have E:L∉X:=λq=>by obtain⟨o,d⟩:=ax.mp (H.live _ q);rw[s] at d;cases d
 have v:∀b o,b≠env.locals->(∀c,env.cells.lookup (S x)=some c->b≠c)->h.get? b=some o->A.get? b=some o:=λb o l c e=>k.keep b o l c (B b o e);have m:gT (bJ X h) (bJ (L::X) A):=λa o e c=>by
  have G:=bT e;clear e;obtain⟨e,t⟩:=G;refine cc (v a o (λq=>t (q▸I.loc)) (λc f q=>t (q▸I.cel _ c f)) e) λq=>?_;rcases ao.mp q with q|q
  .rw[q,s] at e;cases e
  .exact t q
 have nl:L≠env.locals:=λq=>by obtain⟨j,o,j,j,d,j⟩:=H.loc;rw[<-q,s] at d;cases d
 have R:∀x c,env.cells.lookup x=some c->L≠c:=λx c f q=>by obtain⟨j,o,d,j⟩:=H.cel x c f;rw[<-q,s] at d;cases d
 refine⟨⟨λb o e n=>v b o (λq=>?_) (λc f q=>?_) (H.base.keep b o e n),?_⟩,λy e C=>?_,λy V ds e=>?_,⟨H.obs.len,λi o p a b=>?_,H.obs.nodup⟩,k.loc,k.cel,H.off,λa P=>?_⟩
 .rw[q,J.newL] at e;cases e
 .rw[q,J.newC _ _ f] at e;cases e
 .obtain⟨ps,e,c⟩:=H.base.lam;exact⟨ps,v _ _ (λq=>H.noloc q.symm) (λc f q=>(H.nocell f).2 q.symm) e,c⟩
 .have G:=kL C;clear C;obtain⟨F,C⟩:=G;obtain⟨u,Q,r⟩:=H.vars y e C;rw[M] at r;refine⟨u,k.old _ _ (λq=>F (sK q).symm) (Q.keep (λo d=>B _ _ d) (λc o j d=>B _ _ d)),r.mon m⟩
 .cases e;exact⟨k.new,λj q=>(nomatch q),⟨n,#[],k.keep _ _ nl (λc f=>R _ _ f) O,Nat.zero_le _,.nil⟩,E,fP H.base s⟩
 .have y:=H.obs.each i o p a b;obtain⟨es,T,e,r⟩:=y.dict;rw[M] at r;have K:p.2∈fG ts:=aE.mpr ⟨p,List.mem_of_getElem? b,rfl⟩;refine⟨v _ _ (λq=>?_) (λc f q=>?_) y.inst,⟨es,T,v _ _ (λq=>H.off (q▸K)) (λc f q=>(H.nocell f).1 (q▸K)) e,r.mon m⟩,y.new⟩
  .obtain⟨m,U,N,ep,d,g,j⟩:=H.loc;have z:=y.inst;rw[q,d] at z;cases z;cases g
  .obtain⟨u,U,d,g⟩:=H.cel _ _ f;have z:=y.inst;rw[q,d] at z;cases z;cases g
 .refine kK (hU k a ?_);obtain⟨o,d⟩:=ax.mp (H.live a P);exact cO (B _ _ d)
theorem Ef{x:Str}{xp r pos:Pos}(n:jG (kd sc (bm x))=true)(k:bC w env sc)(l:c0 X env)(H:b0 w ts env X oa st s.heap):
 an (model pw w) A (exec (.Assign [.Name x xp] (.List [] r) pos) env) (PS w ts env X oa st ⟨oS st.freeze.v (bm x),some (bm x,none,[]),st.ob⟩ s .next) bM s:=by
 obtain⟨i,p,g⟩:=H.freeze';refine wpAny_Assign_Name (wpAny_List (spliced_nil ⟨Nat.zero_le _,?_⟩)) rfl;have a:∀b o,s.heap.get? b=some o->(s.heap.push {cls:=.type "list",data:=.seq ([]:List ai).toArray}).get? b=some o:=λb o e=>aA _ e;have h:b0 w ts env X oa st.freeze (s.heap.push {cls:=.type "list",data:=.seq ([]:List ai).toArray}):=i.keep (s':={s with heap:=_}) ⟨_,_,rfl,a⟩ (aF _);refine gr (x:=bm x) k n h.loc h.cel λh' tk d f=>?_;dsimp only at d f⊢;have j:=i.fresh p k l a (dJ (aF _)) (aT _ rfl) f;rw[g] at j;refine⟨⟨_,j,λB=>.inr (dJ (aF _)),trivial⟩,h',tk,rfl,d,λb o e v y t u z=>f.keep b o t (λc m=>u _ _ m) (a b o e),λb e=>?_⟩;cases q:s.heap.get? b with
 |none=>exact aK q e
 |some o=>exact hU f b (cO (a b o q))
theorem Bx{o:Expr}{a:Str}{pos:Pos}(b:iV o=false){Q:ai->af->Prop}(g:an (model pw w) A (eval o env) (λv s1=>an (model pw w) A (getAttr v a true) Q bM s1) bM s):an (model pw w) A (eval (.Attribute o a pos) env) Q bM s:=by
 show an (model pw w) A (do
  let c<-attributeBase o a env (eval o env)
  standAt pos.atName
  let r<-holding [c] (getAttr c a true)
  letTemporaryGo o c r
  pure r) Q bM s
 rw[fW b];exact ah (am g (λv s1 e=>ah (wpAny_standAt (ah (wpAny_holding (am e (λr h f=>ah (wpAny_letTemporaryGo (ay f))) λd d x=>x))))) λd d x=>x)
theorem Jf{x y a:Str}{xp P C pos:Pos}{ds:List D}(I:jG (kd sc (bm x))=true)(K:st.own (bm y)=some ds)(F:cr (bm a) jK=true)(J:dh (bm y)=true)(n:cr (bm x) (bm y)=false)(k:bC w env sc)(B:c0 X env)(H:b0 w ts env X oa st s.heap):
 an (model pw w) A (exec (.Assign [.Name x xp] (.Attribute (.Name y P) a C) pos) env) (PS w ts env X oa st ⟨oS st.v (bm x),some (bm y,some (bm x),ds),st.ob⟩ s .next) bM s:=by
 obtain rfl:a="append":=Ec F qh;obtain⟨z,e0⟩:=lD K;obtain⟨T,p,g,l,r⟩:=(H.own _ _ _ e0).items;refine wpAny_Assign_Name (Bx rfl (qj k H J e0 ?_)) rfl;obtain⟨h,u,dr,tk,os⟩:=s;refine Om (tk:=0) g rfl rfl ⟨_,_,rfl⟩ ?_;have d:∀b o,h.get? b=some o->(h.push (hV oa)).get? b=some o:=λb o e=>aA _ e;have j:b0 w ts env X oa st (h.push (hV oa)):=H.keep (s:=⟨h,u,dr,tk,os⟩) (s':=⟨h.push (hV oa),u,dr,tk+1,os⟩) ⟨_,_,rfl,d⟩ (Nat.le_succ _);refine gr (x:=bm x) k I j.loc j.cel λh' t f i=>?_;dsimp only at f i⊢;have v:b0 w ts env X oa ⟨oS st.v (bm x),some (bm y,some (bm x),ds),st.ob⟩ h':=by refine j.store k i B (λy e M=>.inr (kL M)) λU V E q=>?_;cases q;exact⟨z,e0,eM.mp n,λq L=>by cases L;exact .inr ⟨rfl,_,_,rfl,aT _ rfl,rfl⟩⟩
 have m:st.ow≠none:=by rw[e0];exact λq=>nomatch q
 refine⟨⟨oa,v,λW=>.inl ⟨rfl,m⟩,trivial⟩,h',t,rfl,aj (Nat.le_succ _) f,λb o e Q R N O S=>i.keep b o N (λc G=>O _ _ G) (d b o e),λb e=>?_⟩;cases q:h.get? b with
 |none=>exact aK q e
 |some o=>exact hU i b (cO (d b o q))
theorem v0{y:Nm}(h:st.ali y=true):∃x ds,st.ow=some (x,some y,ds)/\st.ds=ds:=by
 unfold St.ali at h;cases e:st.ow with
 |none=>rw[e] at h;cases h
 |some q=>
  obtain⟨x,z,ds⟩:=q;rw[e] at h;cases z with
  |none=>cases h
  |some z=>exact⟨x,ds,by rw[dW h],by unfold St.ds;rw[e]⟩
theorem wa(G:bQ w ts K M k n){y:Str}{i b pos:Pos}{e:Expr}{d:D}(j:(st.ali (bm y)&&dh (bm y))=true)(E:(ev K M n sc e st).run=some (d,st1))(l:st1.ali (bm y)=true)(p:decide (st1.ds.length<br)=true)
 (O:eq A k)(u:bC w env sc)(H:b0 w ts env X oa st s.heap)(V:0<s.toks):
 an (model pw w) A (exec (.Expr (.Call (.Name y i) [e] [] b) pos) env) (PS w ts env X oa st (st1.put (st1.ds++[d])) s .next) bM s:=by
 refine bx j ?_;clear j;intro j B;obtain⟨x,ds,e0,r⟩:=v0 j;have C:starEach [e] env=pl [eval e env]:=fx e [] (sS E);obtain⟨m,o,W,R,z⟩:=(H.own _ _ _ e0).app _ rfl;have g:(y==("__debug__":Str))=false:=by unfold dh at B;refine bx B λl r=>?_;rw[aN] at l;exact hH (x:=bm y) nh l
 refine wpAny_Expr ?_ (Je u) rfl;have step:∀Q:ai->af->Prop,an (model pw w) A (eval (.Name y i) env) (λv s1=>an (model pw w) A (callWith b v [] (backTo b (starEach [e] env)) (backToKw b (keywordEach [] env))) Q bM s1) bM s->
  an (model pw w) A (eval (.Call (.Name y i) [e] [] b) env) Q bM s:=λQ T=>by
  have:eval (.Call (.Name y i) [e] [] b) env=(do callWith b (<-eval (.Name y i) env) [] (backTo b (starEach [e] env)) (backToKw b (keywordEach [] env))):=rfl;rw[this];exact ah T
 refine step _ (wpAny_Name (hJ (x:=bm y) u W B ?_) g);rw[C,dP,iM];refine uE (a:=oa) (jQ _) (fH ?_);refine am (G.e _ _ _ _ _ E A env X oa O u s H V) (λv s1 p1=>?_) λr r x=>x;obtain⟨x1,I,t,J⟩:=v0 l;obtain⟨Z,c,L,l1,F⟩:=(p1.hs.own _ _ _ t).items;have P:st1.hid X oa=oa::X:=by unfold St.hid;rw[t]
 rw[J] at p⊢;replace p:=ar p;have Y:c.size<br:=by have:=F.length;rw[aM] at this;exact aS (aO this) p
 have h:s1.heap.get? m=some (hV oa):=by
  have f:s.heap.get? m=some (hV oa):=by rw[R,z]
  refine p1.kp.get f (λg=>?_) (H.base.notPL f (λq=>by cases q));have zq:=H.obs.dict g;clear g;obtain⟨⟨es,nn,g⟩,r⟩:=zq;exact aK (aU Obj.cls (ag (f.symm.trans g))) (by show ¬(ai.type _=ai.type _);decide)
 refine⟨h,?_⟩;refine D6 h ⟨_,L⟩ (λh' S U=>?_) (by rw[bu];exact l1);obtain⟨aa,N⟩:=S;refine PS.after p1.kp p1.hs p1.shr (yl p1.hs t U N (by rw[Array.size_push];exact Y) ?_);rw[Array.toList_push];have rd:=p1.rd;rw[P] at rd;exact F.append (.cons rd .nil)
theorem ym(d:bQ w ts K M k n){f:Expr}{args:List Expr}{a:List Keyword}{b pos:Pos}(e:(ev K M n sc (.Call f args a b) st).run=some (.none,st1))
 (g:eq A k)(c:bC w env sc)(H:b0 w ts env X oa st s.heap)(h:0<s.toks):
 an (model pw w) A (exec (.Expr (.Call f args a b) pos) env) (PS w ts env X oa st st1 s .next) bM s:=by
 refine wpAny_Expr (am (d.e _ _ _ _ _ e A env X oa g c s H h) (λv s1 p1=>?_) λi i x=>x) (Je c) rfl;rw[VQ p1.rd];exact .quiet p1.kp p1.hs p1.shr trivial
end
section
variable{w:aq}{ts:Tb}{K:KT}{M:gz}{k n:Nat}{A:aL}{env:Env}{X:List Addr}{oa:Addr}{sc:Sc}{st st1 st':St}{s s1 s':af}{o:dN}
theorem Jg{g:Gx}{m:Nm}{t:Tok}{v:ai}{d:D}(rd:Rd g ts v d){es:List bj}{r:List (Nm×D)}(a:mc w g ts es r):mc w g ts (putL (S m) (PyData.keyHash w.params (S m)) (.str (S m) t) v es) (ee r m d):=
 mc.rec (motive:=λes r f=>mc w g ts (putL (S m) (PyData.keyHash w.params (S m)) (.str (S m) t) v es) (ee r m d)) (.cons rd .nil) (λ{y t' u e es r} h b c=>by
  rw[sy];show mc w g ts (if(S y==S m)=true then _ else _) _;by_cases q:y=m
  .rw[aH q,aH (by rw[q];exact beq_self_eq_true _),q];exact .cons rd b
  .rw[av q,av (by rw[sk,eC];exact q)];exact .cons h c) a
theorem Jh{g:Gx}{es:List bj}{r:List (Nm×D)}(a:mc w g ts es r):es.length=r.length:=
 mc.rec (motive:=λes r b=>es.length=r.length) rfl (λb b c=>aU (·+1) c) a
theorem By{g:Gx}{es:List bj}{r:List (Nm×D)}(a:mc w g ts es r):es.any (·.refKey)=false:=p9 a
theorem Eg{g:Gx}{es:List bj}{r:List (Nm×D)}(h:mc w g ts es r)(m:Str):(getL m es).isSome=true:=by unfold getL;cases es.find? (·.key.isStr m)<;>first|rfl|(rw[By h];rfl)
theorem wc:∀{ob:List Ob} {i j:Nat} {a:Nm} {d:D},(vD ob i a d)[j]?=if j=i then(ob[j]?).map (λo=>⟨o.C,ee o.at_ a d⟩) else ob[j]?
 |[],i,j,a,d=>by
  show none=if j=i then none else none;by_cases h:j=i
  .rw[aH h]
  .rw[av h]
 |o::r,0,0,a,d=>rfl
 |o::r,0,j+1,a,d=>rfl
 |o::r,i+1,0,a,d=>rfl
 |o::r,i+1,j+1,a,d=>by
  show(vD r i a d)[j]?=_;rw[wc (ob:=r)];by_cases h:j=i
  .rw[aH h,aH (aU (·+1) h)];rfl
  .rw[av h,av λq=>h (Nat.succ.inj q)];rfl
theorem we:∀{ob:List Ob} {i:Nat} {a:Nm} {d:D},(vD ob i a d).length=ob.length
 |[],i,a,d=>rfl
 |o::r,0,a,d=>rfl
 |o::r,i+1,a,d=>aU (·+1) (we (ob:=r))
theorem Ji:∀{ts:Tb} {i j:Nat} {p q:Addr×Addr},(fG ts).Nodup->ts[i]?=some p->ts[j]?=some q->p.2=q.2->i=j
 |ts,i,j,p,q,h,f,g,e=>by
  have c:(fG ts)[i]?=some p.2:=by unfold fG;rw[List.getElem?_map,f];rfl
  have d:(fG ts)[j]?=some q.2:=by unfold fG;rw[List.getElem?_map,g];rfl
  obtain⟨l1,a⟩:=aY.mp c;obtain⟨l2,b⟩:=aY.mp d;exact(List.getElem_inj h).mp (by rw[a,b,e])
theorem Jj{Z:List Addr}{i:Nat}{ob:List Ob}{h:Ob}{p:Addr×Addr}{a:Nm}{d:D}{h':Heap}{g:List bj}{E tk:Nat}(B:cT w s.heap)(O:gc w (bJ Z s.heap) ts s.heap ob)(A:ob[i]?=some h)(v:ts[i]?=some p)(l:Heap.SameBut p.2 s.heap h')
 (H:h'.get? p.2=some (dictOf g E))(J:s.toks<=tk)(x:mc w (bJ Z s.heap) ts g (ee h.at_ a d)):cT w h'/\gc w (bJ Z h') ts h' (vD ob i a d)/\Kp ts s {s with heap:=h',toks:=tk}:=by
 have I:p.2∈fG ts:=aE.mpr ⟨p,List.mem_of_getElem? v,rfl⟩;have ok:=O.each i _ p A v;have C:Kp ts s {s with heap:=h',toks:=tk}:=⟨h',tk,rfl,J,λb o e n m=>(l.2 b λq=>n (q▸I)).trans e⟩;have m:=C.mon B O Z;have K:p.2≠dM:=by obtain⟨es,n,e,M⟩:=ok.dict;exact B.notPL e (λq=>by cases q)
 refine⟨⟨λb o e n=>(l.2 b λq=>?_).trans (B.keep b o e n),?_⟩,⟨we.trans O.len,λj F p2 k u=>?_,O.nodup⟩,C⟩
 .rw[q,ok.new] at e;cases e
 .obtain⟨ps,e,c⟩:=B.lam;exact⟨ps,(l.2 _ (Ne.symm K)).trans e,c⟩
 .have f:∀(z:Ob) (t:Addr×Addr),s.heap.get? t.1=some (instObj z.C t.2)->h'.get? t.1=some (instObj z.C t.2):=λz t e=>by refine(l.2 _ λq=>?_).trans e;obtain⟨es,n,G,M⟩:=ok.dict;rw[q,G] at e;cases e
  rw[wc] at k;by_cases q:j=i
  .subst q;rw[aH rfl,A] at k;cases k;rw[v] at u;cases u;exact⟨f h p ok.inst,⟨g,E,H,x.mon m⟩,ok.new⟩
  .rw[av q] at k;have y:=O.each j F p2 k u;obtain⟨es,n,e,r⟩:=y.dict;refine⟨f F p2 y.inst,⟨es,n,(l.2 _ λL=>q ?_).trans e,r.mon m⟩,y.new⟩;exact Ji O.nodup u v L
theorem sU(k:vv w M){i:Nat}{b:Ob}{a:Nm}{d:D}{v j:ai}(H:b0 w ts env X oa st s.heap)(g:st.ob[i]?=some b)(c:(M.fr b.C a&&Nat.blt b.at_.length 900)=true)(u:Rd (bJ (st.hid X oa) s.heap) ts j (.obj i))(rd:Rd (bJ (st.hid X oa) s.heap) ts v d)
 {Q:Unit->af->Prop}(q:∀s',b0 w ts env X oa ⟨st.v,st.ow,vD st.ob i a d⟩ s'.heap->Kp ts s s'->Q () s'):an (model pw w) A (setAttr j (S a) v) Q bM s:=by
 refine bx c ?_;clear c;intro c m;obtain⟨p,rfl,o,ok⟩:=uz H g u;obtain⟨es,n,e,r⟩:=ok.dict;refine k.set _ _ c A s v Q p es n H.base ok.inst e (Eg r _) (by rw[Jh r];exact Nat.le_of_ble_eq_true m) λh' x tk f l t=>?_;obtain⟨B,O,h⟩:=Jj H.base H.obs g o t l f (Jg rd r);exact q _ (H.kp h B O) h
theorem yn{b:Expr}{o:Expr}{a:Str}{p:Pos}{l:Nat}:swapsWith b (some (.Attribute o a p)) l env=pure false:=by cases b<;>rfl
theorem Bz(g:bQ w ts K M k n)(r:vv w M){p:Expr}{a:Str}{t pos:Pos}{b:Expr}(h:(Dy (ev K M n sc) M st p (bm a) b).run=some (o,st'))
 (j:eq A k)(l:bC w env sc)(H:b0 w ts env X oa st s.heap)(m:0<s.toks):
 an (model pw w) A (exec (.Assign [.Attribute p a t] b pos) env) (PS w ts env X oa st st' s o) bM s:=by
 refine bB h ?_;clear h;intro d st1 u h;refine bB h ?_;clear h;intro d2 st2 y h;refine bv h ?_;clear h;intro i c h;refine bv h ?_;clear h;intro C z h;refine dz h ?_;clear h;intro B h;cases h;replace c:d2=.obj i:=pB (bn c);refine plainObj_wpAny_Assign_Attribute (am (g.e _ _ _ _ _ u A env X oa j l s H m) (λv s1 p1=>am (g.e _ _ _ _ _ y A env X oa j l s1 p1.hs (p1.toks m)) (λD E p2=>?_) λf f x=>x) λf f x=>x) yn;exact sU (a:=bm a) r p2.hs (DS z) B (c▸p2.rd) (p1.rd.on p1.hs p2.kp p2.shr) λF q e=>.quiet (p1.kp.trans (p2.kp.trans e)) q (p1.shr.trans p2.shr) trivial
theorem Eh{op:Operator}{d0 d r:D}(h:(Dh op d0 d).run=some r):ol d0=true:=z7 h (λa a a e a a=>by rw[e];rfl) λa a a e a a a=>by rw[e];rfl
theorem BA(m:bQ w ts K M k n)(q:vv w M){z:Expr}{a:Str}{E pos:Pos}{op:Operator}{b:Expr}(h:(DB (ev K M n sc) M st z (bm a) op b).run=some (o,st'))
 (v:eq A k)(y:bC w env sc)(H:b0 w ts env X oa st s.heap)(Q:0<s.toks):
 an (model pw w) A (exec (.AugAssign (.Attribute z a E) op b pos) env) (PS w ts env X oa st st' s o) bM s:=by
 refine bB h ?_;clear h;intro d1 st1 t h;refine bv h ?_;clear h;intro i g h;refine bv h ?_;clear h;intro S F h;refine dz h ?_;clear h;intro G h;refine bv h ?_;clear h;intro d0 I h;refine bB h ?_;clear h;intro d2 st2 J h;refine bv h ?_;clear h;intro r u h;refine bv h ?_;clear h;intro T L h;refine dz h ?_;clear h;intro N h;cases h;replace g:d1=.obj i:=pB (bn g);rw[g] at t;refine wpAny_AugAssign_AttributeAny (am (m.e _ _ _ _ _ t A env X oa v y s H Q) (λov s1 p1=>?_) λd d x=>x);have U:=p1.rd;obtain⟨p,rfl,Z,ok⟩:=uz p1.hs (DS F) p1.rd;obtain⟨es,R,O,f⟩:=ok.dict;obtain⟨e,P,B⟩:=vO f (bn I);refine q.get _ (bm a) G A s1 _ p es R e p1.hs.base ok.inst O P (na (Eh u) B) ?_;refine am (m.e _ _ _ _ _ J A env X oa v y {s1 with toks:=s1.toks+1} p1.hs (Nat.succ_pos _)) (λv2 W p2=>?_) λd d x=>x;have c:Kp ts s1 W:=(ut 1).trans p2.kp;refine fw (sQ u (B.on p1.hs c p2.shr) p2.rd λvr Y ks tk V=>?_);have C:=p2.hs.keep ks tk;have j:Kp ts s Y:=(p1.kp.trans (ut 1)).trans (p2.kp.trans (dF ks tk));exact λd=>sU (a:=bm a) q C (DS L) N (((U.on p1.hs c p2.shr).mon (nf ks))) V λs4 D l=>.quiet (j.trans l) D (p1.shr.trans p2.shr) trivial
end
section
variable{w:aq}{ts:Tb}{K:KT}{M:gz}{k n:Nat}{A:aL}{env:Env}{X:List Addr}{oa:Addr}{sc:Sc}{st st1 st':St}{s s1 s':af}{o:dN}
theorem Jk{g:Gx}{vs:List ai}{d1 d2:D}(h:dj g ts vs [d1,d2]):∃c d,vs=[c,d]/\Rd g ts c d1/\Rd g ts d d2:=by cases h with|cons a r=>cases r with|cons b r=>cases r;exact⟨_,_,rfl,a,b⟩
theorem WR{g:Gx}{vs:List ai}{d1 d2 d3:D}(h:dj g ts vs [d1,d2,d3]):∃d e f,vs=[d,e,f]/\Rd g ts d d1/\Rd g ts e d2/\Rd g ts f d3:=by cases h with|cons a r=>cases r with|cons b r=>cases r with|cons c r=>cases r;exact⟨_,_,_,rfl,a,b,c⟩
theorem sW{h':Heap}(k:Heap.ExtBut s.heap.objs.size s.heap h'):Keeps s {s with heap:=h'}:=⟨h',s.toks,rfl,λb o e=>k b o (Nat.ne_of_lt (Heap.lt_size e)) e⟩
theorem jV{x:Nm}{v:ai}{d:D}{st0:St}{s0:af}(e:bC w env sc)(a:c0 X env)(f:jG (kd sc x)=true)(g:Kq env ts oa st0 s0 s)(b:jD st0 st)(H:b0 w ts env X oa st s.heap)(rd:Rd (bJ (st.hid X oa) s.heap) ts v d){Q:Unit->af->Prop}
 (q:∀s',b0 w ts env X oa (st.set x d) s'.heap->Kq env ts oa st0 s0 s'->jD st0 (st.set x d)->gT (bJ (st.hid X oa) s.heap) (bJ ((st.set x d).hid X oa) s'.heap)->Q () s'):an (model pw w) A (storeName env (S x) v) Q bM s:=
 am (hY (x:=x) e a H f rd) (λc h p2=>q h p2.2.1 (g.trans (.shr b) p2.1.kq) (b.trans p2.2.2) (p2.1.kq.mon a H (.shr p2.2.2))) λc c x=>x
theorem Ta{α:Type}{f:α->Bool}{a b:α}(c:f a=false)(d:f b=false):[a,b].any f=false:=by show(f a||(f b||false))=false;rw[c,d];rfl
theorem YZ{x y:Str}{a b:Prop}[Decidable a][Decidable b]{N:List Str}{d e:Bool}{u:Sem (Option (List Str))}(f:¬a)(g:¬b)(j:N=[x,y])(c:[x,y].eraseDups=[x,y])(h:d=false)(i:e=false):
 (if a then pure none else if b then pure none else if(N.length != 2||N.eraseDups.length != N.length)=true then pure none else if d=true then pure none else if e=true then u else pure (some N):Sem (Option (List Str)))=pure (some [x,y]):=by
 rw[av f,av g,j,c,h,i];rfl
theorem Ei{x y:Str}{xp d tp E:Pos}{kk i:Nat}{a b:Expr}(e:bC w env sc)(p:pQ (kd sc (bm x))=true)(r:pQ (kd sc (bm y))=true)(s:cr (bm x) (bm y)=false)(t:Nat.beq xp.line d.line=true)(c:zP [a,b]=true):
 swappedStores [.Tuple [.Name x xp,.Name y d] kk tp] (.Tuple [a,b] i E) env=pure (some [x,y]):=by
 have C:env.kindOf x=some .local:=by rw[show env.kindOf x=env.kindOf (S (bm x)) from rfl,e.kind];exact kH p
 have D:env.kindOf y=some .local:=by rw[show env.kindOf y=env.kindOf (S (bm y)) from rfl,e.kind];exact kH r
 have u:env.blockKind=.function:=by unfold Env.blockKind;rw[e.k];rfl
 have g:x≠y:=λq=>eM.mp s (aU bm q);have A:d.line=xp.line:=(au t).symm;unfold zP at c;refine bx c ?_;clear c;intro c j;refine bx c ?_;clear c;intro c k;rw[aN] at c k;have l:∀a:Expr,dD a=false->(λ|.Starred ..=>true|_=>false:Expr->Bool) a=false:=λa=>by cases a<;>first|exact λF=>rfl|exact λh=>(ab h.symm).elim
 have B:([a,b].any λ|.Starred ..=>true|_=>false)=false:=Ta (l a c) (l b k);have z:[a,b].all (foldedForSure 8)=false:=by
  have:foldedForSure 8 b=false:=by cases b<;>first|rfl|exact(ab j).elim
  simp[this]
 have v:[a,b].all (constantsAlone 8)=false:=by
  have:constantsAlone 8 b=false:=by cases b<;>first|rfl|exact(ab j).elim
  simp[this]
 have f:[x,y].eraseDups=[x,y]:=by rw[List.eraseDups_cons];simp[g.symm,List.eraseDups_cons]
 have n:(env.kindOf x==some .local&&xp.line==xp.line)=true:=by rw[C,bf];exact⟨rfl,beq_self_eq_true _⟩
 have o:(env.kindOf y==some .local&&d.line==xp.line)=true:=by rw[D,A,bf];exact⟨rfl,beq_self_eq_true _⟩
 have m:¬(!([Expr.Name x xp,.Name y d].length==2||[Expr.Name x xp,.Name y d].length==3)||[a,b].length !=[Expr.Name x xp,.Name y d].length||env.blockKind != .function)=true:=by rw[u];exact ab
 unfold swappedStores;refine YZ m (λq=>ab (B.symm.trans q)) ((List.filterMap_cons_some (b:=x) ?_).trans (aU (x::·) ((List.filterMap_cons_some (b:=y) ?_).trans rfl))) f z v
 .exact aH n
 .exact aH o
theorem Os(O:bQ w ts K M k n){x y:Str}{xp J tp I pos:Pos}{kk f:Nat}{es:List Expr}{d1 d2:D}(d:(pQ (kd sc (bm x))&&pQ (kd sc (bm y))&&!cr (bm x) (bm y)&&Nat.beq xp.line J.line&&zP es)=true)
 (Q:(ev K M n sc (.Tuple es f I) st).run=some (.tup [d1,d2],st1))(C:eq A k)(h:bC w env sc)(u:c0 X env)(H:b0 w ts env X oa st s.heap)(S:0<s.toks):
 an (model pw w) A (exec (.Assign [.Tuple [.Name x xp,.Name y J] kk tp] (.Tuple es f I) pos) env) (PS w ts env X oa st ((st1.set (bm y) d2).set (bm x) d1) s .next) bM s:=by
 refine bx d ?_;clear d;intro d B;refine bx d ?_;clear d;intro d R;refine bx d ?_;clear d;intro d z;refine bx d λE F=>?_;rw[aN] at z;have W:jG (kd sc (bm x))=true:=by rw[kH E];rfl
 have Y:jG (kd sc (bm y))=true:=by rw[kH F];rfl
 obtain⟨a,b,rfl⟩:∃a b,es=[a,b]:=by rcases es with _|⟨a,_|⟨b,_|⟨_,_⟩⟩⟩<;>first|exact⟨_,_,rfl⟩|exact(ab B).elim
 rw[exec_Assign_arm];refine ah (wpAny_standAt (ah (ay ?_)));rw[av ab];refine ah (am (O.e _ _ _ _ _ Q A env X oa C h s H S) (λv s1 p1=>?_) λr r x=>x);rw[Ei h E F z R B];refine ah (ay ?_);obtain⟨ta,e,nn,P,g,l,q⟩:=VR p1.rd;subst P
 .skip
  have c:=q.length;rw[aM] at c;replace c:e.size=2:=c;show an _ _ (do rule "assign.swapped-stores";let j<-unpackItems (.ref ta) 2 none;assignInOrder ([x,y].reverse.map λn=>bindName env n) j.reverse;pure Flow.next) _ _ _;refine ah (wpAny_rule ?_);rw[<-c];refine ah (wpAny_unpackItems_tuple C.h (DH g) λh' i=>?_);have ks:=sW i;obtain⟨G,v2,T,r1,r2⟩:=Jk (q.mon (nf (X:=st1.hid X oa) ks));rw[T];have t:b0 w ts env X oa st1 h':=p1.hs.keep' ks;have m:Kp ts s {s1 with heap:=h'}:=p1.kp.trans (dF ks (aF _));show an _ _ ((do holding [G] (bindName env y v2);(do holding [] (bindName env x G);pure ()))>>=λr=>pure Flow.next) _ _ _;refine ah (ah (wpAny_holding (wpAny_bindName (jV (x:=bm y) (s:={s1 with heap:=h'}) h u Y (m.kq t) p1.shr t r2 λs3 L U o Z=>?_))));refine ah (wpAny_holding (wpAny_bindName (jV (x:=bm x) h u W U o L (r1.mon Z) λs4 N V p r=>?_)));exact ay (ay ⟨⟨oa,N,.shr p,trivial⟩,V⟩)
theorem qk{e:Expr}(h:l9 e=true):∃f a k p,e=.Call f a k p:=by rw[<-fO e];revert h;unfold l9;generalize eK e=k;cases k<;>first|exact λh=>⟨_,_,_,_,rfl⟩|exact λh=>(ab h).elim
theorem Ot(R:bQ w ts K M k n){x y z:Str}{xp C E tp pos:Pos}{kk:Nat}{b:Expr}{d1 d2 d3:D}(d:(jG (kd sc (bm x))&&jG (kd sc (bm y))&&jG (kd sc (bm z))&&l9 b)=true)
 (T:(ev K M n sc b st).run=some (.tup [d1,d2,d3],st1))(G:eq A k)(i:bC w env sc)(j:c0 X env)(H:b0 w ts env X oa st s.heap)(U:0<s.toks):
 an (model pw w) A (exec (.Assign [.Tuple [.Name x xp,.Name y C,.Name z E] kk tp] b pos) env) (PS w ts env X oa st (((st1.set (bm x) d1).set (bm y) d2).set (bm z) d3) s .next) bM s:=by
 refine bx d ?_;clear d;intro d I;refine bx d ?_;clear d;intro d Z;refine bx d λW Y=>?_;refine wpAny_Assign_stores (am (R.e _ _ _ _ _ T A env X oa G i s H U) (λv s1 p1=>?_) λN N x=>x) (by obtain⟨f,a,k,p,e⟩:=qk I;rw[e];rfl) (by obtain⟨f,a,k,p,e⟩:=qk I;rw[e];rfl);obtain⟨ta,h,nn,S,g,l,q⟩:=VR p1.rd;subst S
 .skip
  have c:=q.length;rw[aM] at c;replace c:h.size=3:=c;show an _ _ (assign (.Tuple [.Name x xp,.Name y C,.Name z E] kk tp) env (.ref ta)) _ _ _;refine wpAny_assign_Tuple G.h (DH g) (by rw[c];rfl) rfl λh' m=>?_;have ks:=sW m;obtain⟨v1,L,B,V,r1,r2,r3⟩:=WR (q.mon (nf (X:=st1.hid X oa) ks));rw[V];have F:b0 w ts env X oa st1 h':=p1.hs.keep' ks;have o:Kp ts s {s1 with heap:=h'}:=p1.kp.trans (dF ks (aF _));show an _ _ (do holding [L,B] (assign (.Name x xp) env v1);(do holding [B] (assign (.Name y C) env L);(do holding [] (assign (.Name z E) env B);pure ()))) _ _ _;refine ah (wpAny_holding (wpAny_assign_Name (jV (x:=bm x) (s:={s1 with heap:=h'}) i j W (o.kq F) p1.shr F r1 λs3 O k3 r J=>?_)));refine ah (wpAny_holding (wpAny_assign_Name (jV (x:=bm y) i j Y k3 r O (r2.mon J) λs4 P k4 t m4=>?_)));refine ah (wpAny_holding (wpAny_assign_Name (jV (x:=bm z) i j Z k4 t P ((r3.mon J).mon m4) λs5 Q k5 u N=>?_)));exact ay ⟨⟨oa,Q,.shr u,trivial⟩,k5⟩
end
section
variable{w:aq}{ts:Tb}{K:KT}{M:gz}{k n:Nat}{A:aL}{env:Env}{X:List Addr}{oa:Addr}{sc:Sc}{st st1 st':St}{s s1 s':af}{o:dN}
theorem jT.mon{g a:Gx}(m:gT g a){f:Flow}(h:jT g ts o f):jT a ts o f:=by cases o<;>cases f<;>first|exact h|exact Rd.mon m h
theorem ql{g:Gx}{b:dN}{f:Flow}(c:jT g ts b f){N:T (dN×St)}{st2:St}(a:(match b with
 |.next=>N
 |.cont=>N
 |.brk=>.ret (.next,st2)
 |.ret r=>T.ret (dN.ret r,st2)).run=some (o,st')){G:Flow->Prop}(e:N.run=some (o,st')->G .next)(h:N.run=some (o,st')->G .cont)(i:o=.next->st2=st'->G .brk)(j:∀v d,o=.ret d->st2=st'->jT g ts (.ret d) (.ret v)->G (.ret v)):G f:=by
 cases b<;>cases f<;>first|exact c.elim|exact e a|exact h a|exact i (nZ a).1.symm (nZ a).2|exact j _ _ (nZ a).1.symm (nZ a).2 c
structure WS(w:aq)(ts:Tb)(env:Env)(X:List Addr)(oa:Addr)(st:St)(s:af)(F:Nat->St->T (dN×St))(o:dN)(st':St)(m:Nat)(s':af)(stm:St)(oam:Addr):Prop where
 kq:Kq env ts oa st s s'
 ow:rE oa st s.heap oam stm
 hs:b0 w ts env X oam stm s'.heap
 hr:(F m stm).run=some (o,st')
 tk:0<s'.toks
theorem Jl(R:bQ w ts K M k n)(S:jU w ts K M k n){t:Expr}{b e:List Stmt}{pos:Pos}(h:(ex K M (n+1) sc (.While t b e pos) st).run=some (o,st'))(N:eq A k)(O:bC w env sc)(Q:c0 X env)(H:b0 w ts env X oa st s.heap)(ht:0<s.toks):
 an (model pw w) A (exec (.While t b e pos) env) (PS w ts env X oa st st' s o) bM s:=by
 have h':=lY h;clear h;obtain⟨he,h⟩:=h';cases e with
 |cons _ _=>exact(ab he).elim
 |nil=>
  refine wpAny_While (codeAny_whileLoop (λm s'=>∃B a,WS w ts env X oa st s (dO (λst=>eF K M n sc t st) (λst=>cM K M n sc b st)) o st' m s' B a)
   ?_ pP ⟨st,oa,Kq.refl _,rE.refl,H,h,ht⟩)
  intro m s' hq;refine jR λU P=>?_;obtain⟨B,a,I⟩:=hq;cases m with
  |zero=>exact cX I.hr
  |succ m=>
   refine bB I.hr λc st1 Y j=>?_;refine am (R.b _ _ _ _ _ Y A env X a N O s' I.hs I.tk) (λW s1 p1=>P _ _ ?_) λJ J x=>x;clear P U;rw[<-p1.rd] at j;have u:Kq env ts oa st s s1:=I.kq.trans I.ow (p1.kp.kq p1.hs);have y:rE oa st s.heap a st1:=I.ow.trans I.kq.up (.shr p1.shr);have tk1:=p1.toks I.tk;have L:=p1.hs;clear p1;cases W with
   |false=>obtain⟨z,i⟩:=nZ j;exact WP (wpAny_execs_nil ⟨⟨a,i▸L,i▸y,z▸trivial⟩,u⟩)
   |true=>
    refine jR λV E=>?_;refine bB (show((cM K M n sc b st1).bind λp=>match p.1 with
     |.next=>dO (λst=>eF K M n sc t st) (λst=>cM K M n sc b st) m p.2
     |.cont=>dO (λst=>eF K M n sc t st) (λst=>cM K M n sc b st) m p.2
     |.brk=>.ret (.next,p.2)
     |.ret r=>T.ret (dN.ret r,p.2)).run=some (o,st') from j) λo2 st2 Z j=>?_
    refine am (S.xs _ _ _ _ _ Z A env X a N O Q s1 L tk1) (λf s2 p2=>?_) λJ J x=>x;obtain⟨q,D,g,F⟩:=p2.ex;have l:=u.trans y p2.kq;replace g:=y.trans u.up g;have C:=p2.toks tk1;exact ql (G:=λf=>V f s2) F j (λj=>E .next _ ⟨m,bh _,st2,q,l,g,D,j,C⟩) (λj=>E .cont _ ⟨m,bh _,st2,q,l,g,D,j,C⟩)
     (λz i=>E .brk _ ⟨⟨q,i▸D,i▸g,z▸trivial⟩,l⟩) λv d z i F=>E (.ret v) _ ⟨⟨q,i▸D,i▸g,by rw[z,<-i];exact F⟩,l⟩
theorem b0.hide{I:Addr}{h h':Heap}{st:St}(H:b0 w ts env X oa st h)(C:h.get? I=none)(k:∀b o,h.get? b=some o->h'.get? b=some o)(gI:h'.get? I≠none):b0 w ts env (I::X) oa st h':=by
 have m:gT (bJ (st.hid X oa) h) (bJ (st.hid (I::X) oa) h'):=λa o e c=>by
  have J:=bT e;clear e;obtain⟨e,D⟩:=J;refine cc (k _ _ e) λq=>?_;rcases fe q with q|⟨q,s⟩
  .rcases ao.mp q with q|q
   .rw[q,C] at e;cases e
   .exact D (dp _ q)
  .exact D (s▸fc q)
 refine⟨H.base.keeps k,λx d e=>?_,λx z ds e=>?_,⟨H.obs.len,λi o p a b=>?_,H.obs.nodup⟩,?_,λx c t=>?_,H.off,λa u=>?_⟩
 .obtain⟨v,a,b⟩:=H.vars x d e;exact⟨v,a.keep (λo f=>k _ _ f) (λc o t f=>k _ _ f),b.mon m⟩
 .have O:=H.own _ _ _ e;have E:st.hid X oa=oa::X:=by unfold St.hid;rw[e]
  have A:st.hid (I::X) oa=oa::I::X:=by unfold St.hid;rw[e]
  obtain⟨G,j,g,l,q⟩:=O.items;rw[E,A] at m;refine⟨O.var.keep (λo f=>k _ _ f) (λc o t f=>k _ _ f),λy F=>?_,⟨G,j,k _ _ g,l,q.mon m⟩,λs=>?_,O.new⟩
  .obtain⟨mm,o,a,b,c⟩:=O.app y F;exact⟨mm,o,a.keep (λo f=>k _ _ f) (λc o t f=>k _ _ f),k _ _ b,c⟩
  .rcases ao.mp s with s|s
   .rw[s,C] at g;cases g
   .exact O.off s
 .have y:=H.obs.each i o p a b;obtain⟨es,n,e,r⟩:=y.dict;exact⟨k _ _ y.inst,⟨es,n,k _ _ e,r.mon m⟩,y.new⟩
 .obtain⟨m0,B⟩:=H.loc;exact⟨m0,B.at' λo e=>k _ _ e⟩
 .obtain⟨v,o,f,r⟩:=H.cel x c t;exact⟨v,o,k _ _ f,r⟩
 .rcases ao.mp u with rfl|u
  .exact kK gI
  .obtain⟨o,f⟩:=ax.mp (H.live a u);rw[k a o f];rfl
theorem b0.unhide{I:Addr}{h:Heap}{st:St}(H:b0 w ts env (I::X) oa st h):b0 w ts env X oa st h:=by
 have i:∀a,a∈st.hid X oa->a∈st.hid (I::X) oa:=λa j=>by
  rcases fe j with q|⟨q,rfl⟩
  .exact dp _ (.tail _ q)
  .exact fc q
 have m:gT (bJ (st.hid (I::X) oa) h) (bJ (st.hid X oa) h):=λa o e c=>by have t:=bT e;clear e;obtain⟨e,p⟩:=t;exact cc e λq=>p (i _ q)
 refine⟨H.base,λx d e=>?_,λx z ds e=>?_,H.obs.mon m,H.loc,H.cel,H.off,λa j=>H.live a (.tail _ j)⟩
 .obtain⟨v,a,b⟩:=H.vars x d e;exact⟨v,a,b.mon m⟩
 .have O:=H.own _ _ _ e;have n:st.hid X oa=oa::X:=by unfold St.hid;rw[e]
  have k:st.hid (I::X) oa=oa::I::X:=by unfold St.hid;rw[e]
  rw[n,k] at m;obtain⟨r,f,g,l,q⟩:=O.items;exact⟨O.var,O.app,⟨r,f,g,l,q.mon m⟩,λs=>O.off (.tail _ s),O.new⟩
structure Ej(w:aq)(ts:Tb)(env:Env)(I:Addr):Prop where
 loc:I≠env.locals
 cel:∀x c,env.cells.lookup x=some c->c≠I
 dx:I∉fG ts
 pla:I≠dM
 base:(hT w.params).get? I=none
 inst:∀(i:Nat) (p:Addr×Addr),ts[i]?=some p->p.1≠I
theorem b0.apart{I:Addr}{h:Heap}{st:St}(H:b0 w ts env X oa st h)(b:h.get? I=none):Ej w ts env I where
 loc:=λq=>by obtain⟨a,o,a,a,d,a⟩:=H.loc;rw[<-q,b] at d;cases d
 cel:=λx c k q=>by obtain⟨a,o,d,a⟩:=H.cel x c k;rw[q,b] at d;cases d
 dx:=λq=>by obtain⟨⟨es,l,e⟩,a⟩:=H.obs.dict q;rw[b] at e;cases e
 pla:=λq=>by obtain⟨a,e,a⟩:=H.base.lam;rw[<-q,b] at e;cases e
 base:=fP H.base b
 inst:=λi p g q=>by have f:i<ts.length:=(aY.mp g).1;have j:=(H.obs.each i _ p (aD (by rw[H.obs.len];exact f)) g).inst;rw[q,b] at j;cases j
theorem b0.bump{I:Addr}{h h':Heap}{st:St}(H:b0 w ts env (I::X) oa st h)(P:Ej w ts env I)(j:∀o,h.get? I=some o->o.cls≠.type "builtin_function_or_method")(G:st.ow≠none->oa≠I)
 (k:∀b o,b≠I->h.get? b=some o->h'.get? b=some o)(gI:h'.get? I≠none):b0 w ts env (I::X) oa st h':=by
 have s:I∈st.hid (I::X) oa:=dp _ (.head _);have m:gT (bJ (st.hid (I::X) oa) h) (bJ (st.hid (I::X) oa) h'):=λa o e c=>by have K:=bT e;clear e;obtain⟨e,B⟩:=K;exact cc (k a o (λq=>B (q▸s)) e) B
 refine⟨⟨λb o e n=>k b o (λq=>by rw[q,P.base] at e;cases e) (H.base.keep b o e n),?_⟩,λx d e=>?_,λx z ds e=>?_,⟨H.obs.len,λi o p a b=>?_,H.obs.nodup⟩,?_,λx c j=>?_,H.off,λa C=>?_⟩
 .obtain⟨ps,e,c⟩:=H.base.lam;exact⟨ps,k _ _ (Ne.symm P.pla) e,c⟩
 .obtain⟨v,a,b⟩:=H.vars x d e;exact⟨v,a.keep (λo f=>k _ _ (Ne.symm P.loc) f) (λc o j f=>k _ _ (P.cel _ _ j) f),b.mon m⟩
 .have O:=H.own _ _ _ e;have A:st.ow≠none:=by rw[e];exact λq=>nomatch q
  have D:st.hid (I::X) oa=oa::I::X:=by unfold St.hid;rw[e]
  obtain⟨F,t,g,l,q⟩:=O.items;refine⟨O.var.keep (λo f=>k _ _ (Ne.symm P.loc) f) (λc o j f=>k _ _ (P.cel _ _ j) f),λy E=>?_,⟨F,t,k _ _ (G A) g,l,?_⟩,O.off,O.new⟩
  .obtain⟨mm,o,a,b,c⟩:=O.app y E;refine⟨mm,o,a.keep (λo f=>k _ _ (Ne.symm P.loc) f) (λc o j f=>k _ _ (P.cel _ _ j) f),k _ _ (λJ=>?_) b,c⟩;exact j o (J▸b) (by rw[c])
  .have m2:=m;rw[D] at m2;exact q.mon m2
 .have y:=H.obs.each i o p a b;obtain⟨es,n,e,r⟩:=y.dict;exact⟨k _ _ (P.inst i p b) y.inst,⟨es,n,k _ _ (λq=>P.dx (q▸aE.mpr ⟨p,List.mem_of_getElem? b,rfl⟩)) e,r.mon m⟩,y.new⟩
 .obtain⟨m0,u⟩:=H.loc;exact⟨m0,u.at' λo e=>k _ _ (Ne.symm P.loc) e⟩
 .obtain⟨v,o,f,r⟩:=H.cel x c j;exact⟨v,o,k _ _ (P.cel _ _ j) f,r⟩
 .by_cases q:a=I
  .rw[q];exact kK gI
  .obtain⟨o,f⟩:=ax.mp (H.live a C);rw[k a o q f];rfl
theorem b0.bumpOut{I:Addr}{h h':Heap}{st:St}(H:b0 w ts env (I::X) oa st h)(P:Ej w ts env I)(j:∀o,h.get? I=some o->o.cls≠.type "builtin_function_or_method")(M:st.ow≠none->oa≠I)(B:I∉X)
 (k:∀b o,b≠I->h.get? b=some o->h'.get? b=some o):b0 w ts env X oa st h':=by
 have s:I∈st.hid (I::X) oa:=dp _ (.head _);have u:∀a,a∈st.hid X oa->a∈st.hid (I::X) oa:=λa A=>by
  rcases fe A with q|⟨q,rfl⟩
  .exact dp _ (.tail _ q)
  .exact fc q
 have m:gT (bJ (st.hid (I::X) oa) h) (bJ (st.hid X oa) h'):=λa o e c=>by have N:=bT e;clear e;obtain⟨e,G⟩:=N;exact cc (k a o (λq=>G (q▸s)) e) λq=>G (u _ q)
 refine⟨⟨λb o e n=>k b o (λq=>by rw[q,P.base] at e;cases e) (H.base.keep b o e n),?_⟩,λx d e=>?_,λx z ds e=>?_,⟨H.obs.len,λi o p a b=>?_,H.obs.nodup⟩,?_,λx c j=>?_,H.off,λa A=>?_⟩
 .obtain⟨ps,e,c⟩:=H.base.lam;exact⟨ps,k _ _ (Ne.symm P.pla) e,c⟩
 .obtain⟨v,a,b⟩:=H.vars x d e;exact⟨v,a.keep (λo f=>k _ _ (Ne.symm P.loc) f) (λc o j f=>k _ _ (P.cel _ _ j) f),b.mon m⟩
 .have O:=H.own _ _ _ e;have E:st.ow≠none:=by rw[e];exact λq=>nomatch q
  have J:st.hid (I::X) oa=oa::I::X:=by unfold St.hid;rw[e]
  have C:st.hid X oa=oa::X:=by unfold St.hid;rw[e]
  obtain⟨L,t,g,l,q⟩:=O.items;refine⟨O.var.keep (λo f=>k _ _ (Ne.symm P.loc) f) (λc o j f=>k _ _ (P.cel _ _ j) f),λy K=>?_,⟨L,t,k _ _ (M E) g,l,?_⟩,λF=>O.off (.tail _ F),O.new⟩
  .obtain⟨mm,o,a,b,c⟩:=O.app y K;refine⟨mm,o,a.keep (λo f=>k _ _ (Ne.symm P.loc) f) (λc o j f=>k _ _ (P.cel _ _ j) f),k _ _ (λF=>?_) b,c⟩;exact j o (F▸b) (by rw[c])
  .have m2:=m;rw[J,C] at m2;exact q.mon m2
 .have y:=H.obs.each i o p a b;obtain⟨es,n,e,r⟩:=y.dict;exact⟨k _ _ (P.inst i p b) y.inst,⟨es,n,k _ _ (λq=>P.dx (q▸aE.mpr ⟨p,List.mem_of_getElem? b,rfl⟩)) e,r.mon m⟩,y.new⟩
 .obtain⟨m0,D⟩:=H.loc;exact⟨m0,D.at' λo e=>k _ _ (Ne.symm P.loc) e⟩
 .obtain⟨v,o,f,r⟩:=H.cel x c j;exact⟨v,o,k _ _ (P.cel _ _ j) f,r⟩
 .obtain⟨o,f⟩:=ax.mp (H.live a (.tail _ A));rw[k a o (λq=>B (q▸A)) f];rfl
theorem BB{f:D->St->T (dN×St)}{d:D}{ds:List D}{st:St}:dS f (d::ds) st=(f d st).bind λp=>match p.1 with
 |.next=>dS f ds p.2
 |.cont=>dS f ds p.2
 |.brk=>.ret (.next,p.2)
 |.ret r=>.ret (.ret r,p.2):=rfl
structure Nh(w:aq)(ts:Tb)(env:Env)(X:List Addr)(oa:Addr)(st1:St)(s1:af)(I:Addr)(Sx:Nat->Heap->Prop)(F:D->St->T (dN×St))(ds:List D)(o:dN)(st':St)(s':af)(i:Nat)(sti:St)(oai:Addr):Prop where
 le:i<=ds.length
 kq:Kq env ts oa st1 s1 s'
 ow:sti.ow≠none->(oai=oa/\st1.ow≠none)\/(s1.heap.get? oai=none/\oai≠I)
 hs:b0 w ts env (I::X) oai sti s'.heap
 sx:Sx i s'.heap
 hr:(dS F (ds.drop i) sti).run=some (o,st')
 tk:0<s'.toks
theorem Kq.bump{I:Addr}{a:Heap}{tk1:Nat}(i:Kq env ts oa st1 s1 s')(l:s'.toks<=tk1)(c:s1.heap.get? I=none)(k:∀b o,b≠I->s'.heap.get? b=some o->a.get? b=some o):Kq env ts oa st1 s1 {s' with heap:=a,toks:=tk1}:=by
 obtain⟨g,t,e,l0,h,s⟩:=i;rw[e] at k l⊢;have d:∀b,s1.heap.get? b≠none->b≠I:=λb e q=>e (by rw[q,c]);refine⟨a,tk1,rfl,aj l0 l,λb o e j m n p r=>k b o (d b (cO e)) (h b o e j m n p r),λb e=>?_⟩;cases f:g.get? b with
 |none=>exact aK f (s b e)
 |some o=>exact cO (k b o (d b e) f)
theorem Jm{I b:Addr}{d:St}{h:Heap}(m0:gT (bJ (st1.hid X oa) s1.heap) (bJ (d.hid X b) h))(g:s1.heap.get? I=none):gT (bJ (st1.hid X oa) s1.heap) (bJ (d.hid (I::X) b) h):=λa o e c=>by
 have f:=(bT (m0 a o e c));refine cc f.1 λq=>?_;rcases fe q with q|⟨q,i⟩
 .rcases ao.mp q with q|q
  .have e0:=(bT e).1;rw[q,g] at e0;exact cX e0
  .exact f.2 (dp _ q)
 .exact f.2 (i▸fc q)
theorem Jn{I c d:Addr}{f j:St}{i:Heap}(ow:f.ow≠none->(c=oa/\st1.ow≠none)\/(s1.heap.get? c=none/\c≠I))(a:rE c f i d j)(u:∀b,s1.heap.get? b≠none->i.get? b≠none)(g:i.get? I≠none)(q:j.ow≠none):(d=oa/\st1.ow≠none)\/(s1.heap.get? d=none/\d≠I):=by
 rcases a q with⟨e,h⟩|h
 .rw[e];exact ow h
 .refine .inr ⟨?_,λl=>g (l▸h)⟩;cases k:s1.heap.get? d with
  |none=>rfl
  |some _=>exact aK h (u _ (cO k))
theorem yo{I b:Addr}{d:St}{h:Heap}:gT (bJ (d.hid (I::X) b) h) (bJ (d.hid X b) h):=λa o e c=>by
 have j:=bT e;clear e;obtain⟨e,g⟩:=j;refine cc e λq=>g ?_;rcases fe q with f|⟨f,i⟩
 .exact dp _ (.tail _ f)
 .rw[i];exact fc f
theorem Tc(IE:bQ w ts K M k n)(IS:jU w ts K M k n){x:Str}{xp:Pos}{it:Expr}{b e:List Stmt}{pos:Pos}(h:(T.gd (e.isEmpty&&jG (kd sc (bm x))&&!jx it) ((ev K M n sc it st).bind λp=>(T.opt (lV p.1)).bind λds=>(dS (λd st=>cM K M n sc b (st.set (bm x) d)) ds p.2))).run=some (o,st'))(hA:eq A k)(hE:bC w env sc)(HF:c0 X env)(H:b0 w ts env X oa st s.heap)(ht:0<s.toks):
 an (model pw w) A (exec (.For (.Name x xp) it b e pos) env) (PS w ts env X oa st st' s o) bM s:=by
 have h':=lY h;clear h;obtain⟨h0,h⟩:=h';refine bx h0 ?_;clear h0;intro h0 L;refine bx h0 λhe hx=>?_;rw[aN] at L;cases e with
 |cons _ _=>exact(ab he).elim
 |nil=>
  refine bB h ?_;clear h;intro d1 st1 D h;refine bv h ?_;clear h;intro ds h2 h;replace h2:=bn h2;refine wpAny_For (am (IE.e _ _ _ _ _ D A env X oa hA hE s H ht) (λv s1 p1=>?_) λC C x=>x) (D0 L);have Q:=p1.hs;refine fw (p8 h2 p1.rd hA.h λh' tk P Sx fp g aA V=>?_);dsimp only at V⊢;revert g;refine xt s1.heap.objs.size λI hI=>?_;intro g;have P1:=Q.apart g.new;have af:h'.get? I≠none:=by obtain⟨o,e⟩:=g.liveI 0 h' g.start;exact cO e
  have H2:b0 w ts env (I::X) oa st1 h':=Q.hide g.new g.keep af;have ae:c0 (I::X) env:=⟨.tail _ HF.loc,λx c S=>.tail _ (HF.cel x c S)⟩;have W:=g.walks A hA.h;have t0:0<s1.toks:=p1.toks ht;have gC:h'.get? I≠none->Kq env ts oa st1 s1 {s1 with heap:=h',toks:=tk}:=λC=>⟨h',tk,rfl,V,λb o e C C C C C=>g.keep b o e,λb e=>by
   cases q:s1.heap.get? b with
   |none=>exact aK q e
   |some o=>exact cO (g.keep b o q)⟩
  refine codeAny_forLoop_any (λm s'=>∃i u l,m=ds.length+1-i/\Nh w ts env X oa st1 s1 I Sx (λd st=>cM K M n sc b (st.set (bm x) d)) ds o st' s' i u l) ?_ (ds.length+1)
   ⟨0,st1,oa,rfl,Nat.zero_le _,gC af,λq=>.inl ⟨rfl,q⟩,H2,g.start,by rw[List.drop_zero];exact h,aI t0 V⟩
  clear gC;intro m s' hq;refine jR λQ1 k1=>?_;obtain⟨i,u,l,hm,F⟩:=hq;have ac:u.ow≠none->l≠I:=λq q3=>by
   rcases F.ow q with⟨e,O⟩|⟨_,O⟩
   .obtain⟨o,ho⟩:=ax.mp (Q.hid _ (fc O));rw[<-e,q3,g.new] at ho;exact cX ho
   .exact O q3
  have j:∀{o2:Addr} {s2:St},(s2.ow≠none->(o2=oa/\st1.ow≠none)\/(s1.heap.get? o2=none/\o2≠I))->rE oa st1 s1.heap o2 s2:=λ{o2 s2} a q=>(a q).imp id And.left;by_cases z:i<ds.length
  .refine fw (W.item i s' _ bM z F.sx λv D tk1 ar N U r=>?_);dsimp only at r⊢;have ah:D.get? I≠none:=(g.liveI _ _ N).elim λo e=>cO e;have t:∀b o,b≠I->s'.heap.get? b=some o->D.get? b=some o:=λb o R e=>U b o (λq=>R (az.mp q)) e;have H3:b0 w ts env (I::X) l u D:=F.hs.bump P1 (λo e=>g.clsI _ _ _ F.sx e) ac t ah;have Y:Kq env ts oa st1 s1 {s' with heap:=D,toks:=tk1}:=F.kq.bump r g.new t;have av:Rd (bJ (u.hid (I::X) l) D) ts v ds[i]:=(g.rd i v _ ar (aD z)).mon (Jm (Y.mon HF Q (j F.ow)) g.new);refine k1 _ _ (ay (jR λQ2 k2=>?_));clear k1 Q1;refine wpAny_assign_Name (am (hY (x:=bm x) (s:={s' with heap:=D,toks:=tk1}) hE ae H3 hx av) (λC s3 p3=>k2 _ _ (jR λQ3 k3=>?_)) λC C x=>x);clear k2 Q2;obtain⟨p3,H4,ao⟩:=p3;have y:=F.hr;rw[List.drop_eq_getElem_cons z,BB] at y;refine bB y ?_;clear y;intro o2 st2 R y;have ap:0<s3.toks:=p3.toks (aI F.tk r);refine am (IS.xs _ _ _ _ _ R A env (I::X) l hA hE ae s3 H4 ap) (λf s4 p4=>?_) λC C x=>x;obtain⟨B,H5,au,fl⟩:=p4.ex;have aa:Kq env ts l u {s' with heap:=D,toks:=tk1} s4:=p3.kq.trans (.shr ao) p4.kq;have Z:Kq env ts oa st1 s1 s4:=Y.trans (j F.ow) aa;have ad:st2.ow≠none->(B=oa/\st1.ow≠none)\/(s1.heap.get? B=none/\B≠I):=Jn F.ow ((rE.shr ao).trans p3.kq.up au) Y.up ah;have al:Sx (i+1) s4.heap:=W.frame _ _ _ N λb R o e=>by
    by_cases aj:b=I
    .rw[aj] at e⊢;exact aa.get e P1.dx P1.pla P1.loc (λx c S q=>P1.cel x c S q.symm) λq O=>ac q O.symm
    .rcases g.live b R with q|⟨o1,E,hX,S⟩
     .exact aK q aj
     .refine aa.get e (λhd=>?_) (Q.base.notPL E ?_) (λq=>hX (dp _ (q▸HF.loc))) (λx c as q=>hX (dp _ (q▸HF.cel x c as))) λq O=>?_
      .have zq:=Q.obs.dict hd;clear hd;obtain⟨⟨es,n,hd⟩,C⟩:=zq;rw[ag (E.symm.trans hd)] at S;rcases S with c|c|c<;>exact aK c (by show ¬(ai.type "dict"=_);decide)
      .rcases S with c|c|c<;>(rw[c];exact λq=>nomatch q)
      .rcases F.ow q with⟨q3,q4⟩|⟨q3,_⟩
       .exact hX (by rw[O,q3];exact fc q4)
       .rw[O,q3] at E;exact cX E
   have aw:=p4.toks ap;have go:(dS (λd st=>cM K M n sc b (st.set (bm x) d)) (ds.drop (i+1)) st2).run=some (o,st')->∃m',m'<m/\∃i u l,m'=ds.length+1-i/\Nh w ts env X oa st1 s1 I Sx (λd st=>cM K M n sc b (st.set (bm x) d)) ds o st' s4 i u l:=λy=>⟨ds.length+1-(i+1),XI hm z,i+1,st2,B,rfl,z,Z,ad,H5,al,y,aw⟩;exact ql (G:=λf=>Q3 f s4) fl y (λy=>k3 .next _ (go y)) (λy=>k3 .cont _ (go y))
    (λE J=>k3 .brk _ (PS.after p1.kp p1.hs p1.shr ⟨⟨B,J▸H5.unhide,J▸j ad,E▸trivial⟩,Z⟩))
    λv d E J fl=>k3 (.ret v) _ (PS.after p1.kp p1.hs p1.shr ⟨⟨B,J▸H5.unhide,J▸j ad,by rw[E,<-J];exact jT.mon yo fl⟩,Z⟩)
  .have ak:i=ds.length:=Nat.le_antisymm F.le (Nat.le_of_not_lt z);have y:=F.hr;rw[ak,List.drop_length] at y;obtain⟨E,J⟩:=nZ y;refine fw (W.done s' _ bM (ak▸F.sx) λD tk1 U r=>k1 _ _ ?_);dsimp only at r⊢;have t:∀b o,b≠I->s'.heap.get? b=some o->D.get? b=some o:=λb o R e=>U b o (λq=>R (az.mp q)) e;have aq:I∉X:=λq=>by obtain⟨o,ho⟩:=ax.mp (Q.live _ q);rw[g.new] at ho;exact cX ho
   have H3:=F.hs.bumpOut P1 (λo e=>g.clsI _ _ _ F.sx e) ac aq t;exact WP (wpAny_execs_nil (PS.after p1.kp p1.hs p1.shr ⟨⟨l,J▸H3,J▸j F.ow,E▸trivial⟩,F.kq.bump r g.new t⟩))
end
section
variable{w:aq}{ts:Tb}{K:KT}{M:gz}{k n:Nat}
theorem Ek:jU w ts K M k 0 where
 x:=λa a a a a h=>cX h
 xs:=λa a a a a h=>cX h
theorem Td(u:bQ w ts K M k n){x a:Str}{xp i j pos:Pos}{args:List Expr}{ds:List D}{sc:Sc}{st st':St}{o:dN}(h:(Nc (ev K M n sc) st (bm x) (bm a) args).run=some (o,st'))(t:st.own (bm x)=some ds)(r:dh (bm x)=true)(q:Nat.beq i.endLine j.line=true){A:aL}{env:Env}{X:List Addr}{oa:Addr}(m:eq A k)(p:bC w env sc){s:af}(H:b0 w ts env X oa st s.heap)(y:0<s.toks):
 an (model pw w) A (exec (.Expr (.Call (.Attribute (.Name x xp) a i) args [] j) pos) env) (PS w ts env X oa st st' s o) bM s:=by
 rcases args with _|⟨e,_|⟨_,_⟩⟩
 .refine dz h ?_;clear h;intro f h;refine ct h ?_;clear h;intro g h;obtain⟨b,c⟩:=nZ h;rw[<-b,<-c];exact S9 t r q f g m p H
 .refine dz h ?_;clear h;intro f h;refine bB h ?_;clear h;intro d st1 g h;refine dz h ?_;clear h;intro l h;refine ct h ?_;clear h;intro v h;obtain⟨b,c⟩:=nZ h;rw[<-b,<-c];exact Ee u t r q f g (by rw[aN] at l;exact l) v m p H y
 .exact cX h
theorem Ou(g:bQ w ts K M k n){e:Expr}{pos:Pos}{sc:Sc}{st st':St}{o:dN}(h:(Yc (ev K M n sc) st e).run=some (o,st')){A:aL}{env:Env}{X:List Addr}{oa:Addr}(p:eq A k)(q:bC w env sc)(D:c0 X env){s:af}(H:b0 w ts env X oa st s.heap)(u:0<s.toks):
 an (model pw w) A (exec (.Expr e pos) env) (PS w ts env X oa st st' s o) bM s:=by
 refine bv h ?_;clear h;intro c a h;refine dz h ?_;clear h;intro z h;replace a:=Bi (bn a);rw[List.isEmpty_iff.mp z] at a;cases r:jj c.1 with
 |none=>
  rw[r] at h;refine bv h ?_;clear h;intro y C h;rw[a,dE (bn C)];revert h;refine xr c.2.1 λargs=>?_;intro h;rcases args with _|⟨e,_|⟨_,_⟩⟩<;>try (exact cX h)
  refine dz h ?_;clear h;intro l h;refine bB h ?_;clear h;intro d st1 f h;refine dz h ?_;clear h;intro v h;refine ct h ?_;clear h;intro x h;obtain⟨i,j⟩:=nZ h;rw[<-i,<-j];exact wa g l f v x p q H u
 |some m=>
  rw[r] at h;dsimp only at h;cases t:st.own (bm m.1) with
  |some ds=>rw[t] at h;rw[a,sf r];exact dz h λl h=>bx l λb B=>Td g h t b B p q H u
  |none=>rw[t] at h;refine bB h ?_;clear h;intro d st1 f h;refine dz h ?_;clear h;intro b h;obtain⟨i,j⟩:=nZ h;replace b:d=.none:=lw b;rw[b,a] at f;rw[<-i,<-j,a];exact ym g f p q H u
theorem Jo{a:Expr}{sc:Sc}{st st1:St}{d:D}(g:x4 a=true)(h:(ev K M n sc a st).run=some (d,st1)):∃f e b c,a=.ListComp f e b c:=by revert h g;cases a<;>first|exact λi i=>⟨_,_,_,_,rfl⟩|exact λg=>(ab g).elim|(cases n<;>exact λi h=>cX h)
theorem Ov(v:fz w ts K k)(y:vv w M){x:Str}{xp:Pos}{a:Expr}{pos:Pos}{sc:Sc}{st st':St}{o:dN}(q:jG (kd sc (bm x))=true)(h:(pS (ev K M n sc) st (bm x) a).run=some (o,st')){A:aL}{env:Env}{X:List Addr}{oa:Addr}(C:eq A k)(l:bC w env sc)(j:c0 X env){s:af}(H:b0 w ts env X oa st s.heap)(E:0<s.toks):
 an (model pw w) A (exec (.Assign [.Name x xp] a pos) env) (PS w ts env X oa st st' s o) bM s:=by
 have F:=dQ v y (jS (w:=w) (ts:=ts) (k:=k)) n;have g:(N2 (ev K M n sc) st (bm x) a).run=some (o,st')->an (model pw w) A (exec (.Assign [.Name x xp] a pos) env) (PS w ts env X oa st st' s o) bM s:=λh=>by
  refine bB h ?_;clear h;intro d st1 b h;obtain⟨c,f⟩:=nZ h;rw[<-c,<-f];cases D:x4 a with
  |false=>exact sP F q b (Eb D) C l j H E
  |true=>obtain⟨G,B,u,z,e⟩:=Jo D b;rw[e] at b⊢;exact Bv v y q b C l j H E
 unfold pS at h;cases i:m7 a with
 |true=>rw[i] at h;obtain⟨c,f⟩:=nZ h;obtain⟨p,e⟩:=Bj i;rw[e,<-c,<-f];exact Ef q l j H
 |false=>
  rw[i] at h;dsimp only at h;cases r:jj a with
  |none=>rw[r] at h;exact g h
  |some m=>
   rw[r] at h;dsimp only at h;cases t:st.own (bm m.1) with
   |none=>rw[t] at h;exact g h
   |some ds=>rw[t] at h;refine dz h ?_;clear h;intro I h;refine dz h ?_;clear h;intro b h;obtain⟨c,f⟩:=nZ h;rw[sf r,<-c,<-f];exact bx I λJ i=>Jf q t J i (by rw[aN] at b;exact b) l j H
theorem El(J:fz w ts K k)(C:vv w M){t a:Expr}{pos:Pos}{sc:Sc}{st st':St}{o:dN}(h:(Dz (ev K M n sc) M sc st t a).run=some (o,st')){A:aL}{env:Env}{X:List Addr}{oa:Addr}(l:eq A k)(p:bC w env sc)(r:c0 X env){s:af}(H:b0 w ts env X oa st s.heap)(q:0<s.toks):
 an (model pw w) A (exec (.Assign [t] a pos) env) (PS w ts env X oa st st' s o) bM s:=by
 have B:=dQ J C (jS (w:=w) (ts:=ts) (k:=k)) n;unfold Dz at h;cases I:d8 t with
 |some x=>rw[I] at h;rw[dE I];exact dz h λL h=>Ov J C L h l p r H q
 |none=>
  rw[I] at h;dsimp only at h;cases c:fk t with
  |some m=>rw[c] at h;rw[kG c];exact Bz B C h l p H q
  |none=>
   rw[c] at h;refine bv h ?_;clear h;intro u N h;rw[pO (bn N)];revert h;refine xr u.1 λO=>?_;intro h;rcases O with _|⟨g,_|⟨i,_|⟨P,_|⟨_,_⟩⟩⟩⟩<;>try (exact cX h)
   .refine bv h ?_;clear h;intro x E h;refine bv h ?_;clear h;intro y F h;refine bv h ?_;clear h;intro v j h;refine dz h ?_;clear h;intro D h;refine bB h ?_;clear h;intro d st1 f h;refine bv h ?_;clear h;intro ds b h;refine bv h ?_;clear h;intro e G h;replace b:d=.tup ds:=ul (bn b);rw[b,pM (bn G)] at f;rw[pO (bn j)] at f;obtain⟨g,i⟩:=nZ h;rw[<-g,<-i,dE (bn E),dE (bn F),pO (bn j)];exact Os B D f l p r H q
   .refine bv h ?_;clear h;intro x E h;refine bv h ?_;clear h;intro y F h;refine bv h ?_;clear h;intro z j h;refine dz h ?_;clear h;intro D h;refine bB h ?_;clear h;intro d st1 f h;refine bv h ?_;clear h;intro ds b h;refine bv h ?_;clear h;intro e G h;replace b:d=.tup ds:=ul (bn b);rw[b,pK (bn G)] at f;obtain⟨g,i⟩:=nZ h;rw[<-g,<-i,dE (bn E),dE (bn F),dE (bn j)];exact Ot B D f l p r H q
theorem Te(c:bQ w ts K M k n)(i:vv w M){t a:Expr}{op:Operator}{pos:Pos}{sc:Sc}{st st':St}{o:dN}(h:(DC (ev K M n sc) M sc st t op a).run=some (o,st')){A:aL}{env:Env}{X:List Addr}{oa:Addr}(d:eq A k)(e:bC w env sc)(g:c0 X env){s:af}(H:b0 w ts env X oa st s.heap)(f:0<s.toks):
 an (model pw w) A (exec (.AugAssign t op a pos) env) (PS w ts env X oa st st' s o) bM s:=by
 unfold DC at h;cases b:d8 t with
 |some x=>rw[b] at h;rw[dE b];exact Bu c h d e g H f
 |none=>rw[b] at h;refine bv h ?_;clear h;intro m j h;rw[kG (bn j)];exact BA c i h d e H f
set_option tactic.hygienic true in
theorem Jp(p:fz w ts K k)(m:vv w M)(l:jU w ts K M k n)(sc:Sc)(e:Stmt)(st:St)(o:dN)(st':St)(h:(ex K M (n+1) sc e st).run=some (o,st'))(A:aL)(env:Env)(X:List Addr)(oa:Addr)
 (a:eq A k)(c:bC w env sc)(g:c0 X env)(s:af)(H:b0 w ts env X oa st s.heap)(d:0<s.toks):an (model pw w) A (exec e env) (PS w ts env X oa st st' s o) bM s:=by
 have i:=dQ p m (jS (w:=w) (ts:=ts) (k:=k)) n;cases e
 case Expr=>exact Ou i h a c g H d
 case Assign ts' value pos=>
  rcases ts' with _|⟨t,_|⟨_,_⟩⟩<;>first|exact cX h|exact El p m h a c g H d
 case AugAssign=>exact Te i m h a c g H d
 case If=>exact WQ i l h a c g H d
 case While=>exact Jl i l h a c g H d
 case For t it b e pos=>
  refine bv h ?_;clear h;intro x v h;rw[dE (bn v)];exact Tc i l h a c g H d
 case Return=>exact D7 i h a c g H d
 case Break=>exact Jb h H
 case Continue=>exact yk h H
 case Pass=>exact Op h H
 case Assert=>exact D8 i h a c H d
 case Try b q o2 f pos=>
  have h':=lY h;clear h;obtain⟨j,h⟩:=h';refine bx j ?_;clear j;intro j r;refine bx j ?_;clear j;intro j u;cases o2 with
  |cons _ _=>exact(ab j).elim
  |nil=>
   cases f with
   |cons _ _=>exact(ab u).elim
   |nil=>
    cases q with
    |nil=>exact(ab r).elim
    |cons z q=>refine wpAny_Try_except (am (l.xs _ _ _ _ _ h A env X oa a c g s H d) (λf s1 p1=>?_) λy y x=>x.elim);cases f<;>first|exact wpAny_execs_nil p1|exact p1
 all_goals exact cX h
theorem iy(g:fz w ts K k)(i:vv w M):∀n,jU w ts K M k n
 |0=>Ek
 |n+1=>by have f:=iy g i n;exact⟨λsc e st o st' h A env X oa b c a s H d=>Jp g i f sc e st o st' h A env X oa b c a s H d,λsc es st o st' h A env X oa b c a s H d=>Jc f h b c a H d⟩
end
def fin(p:dN×St):T (D×List Ob):=match p.1 with
 |.ret d=>.ret (d,p.2.ob)
 |.next=>.ret (.none,p.2.ob)
 |_=>.fail
def dK:List Nm->List D->List (Nm×D)
 |x::xs,d::ds=>(x,d)::dK xs ds
 |_,_=>[]
def cq:List Nm->List ai->List (Str×ai)
 |x::xs,d::ds=>(S x,d)::cq xs ds
 |_,_=>[]
def eQ(K:KT)(M:gz)(f:Ft)(xs:List Nm)(ds:List D)(ob:List Ob):T (D×List Ob):=(cM K M 60 f.2.2.names f.2.1 ⟨dK xs ds,none,ob⟩).bind fin
def nk:List Nm->Bool
 |[]=>true
 |x::r=>r.all (λy=>!cr x y)&&nk r
structure cK(P:aw)(a:Addr)(f:Ft)(xs:List Nm)(fd:FuncData):Prop where
 obj:∃nm qn c dfl pm,fd=FD f nm qn (.ref c) dfl pm 3 0/\(hT P).get? a=some ⟨.type "function",none,.func fd,#[]⟩/\(∃o vs t,(hT P).get? c=some o/\c≠dM/\o.data=.fields vs/\vs[1]?=some (.str qn t))/\(kd f.2.2.names g8≠none->c=189)
 nota:a≠dM
 kinds:xs.all (λx=>jG (kd f.2.2.names x))=true
 nodup:nk xs=true
 nofree:f.2.2.names.all (λp=>!Bh p.2)=true
 co:f.2.2.isCoroutine=false
 gen:f.2.2.isGenerator=false
 kind:f.2.2.kind=.function
theorem wf{x:Nm}{r:List Nm}(h:nk (x::r)=true):x∉r/\nk r=true:=by refine bx h λa b=>?_;refine⟨λc=>?_,b⟩;have:=aW.mp a x c;rw[g7] at this;cases this
theorem wg:∀{xs:List Nm} {vs:List ai} {p:Str×ai},p∈cq xs vs->∃x∈xs,p.1=S x
 |[],_,_,h=>by cases h
 |_::_,[],_,h=>by cases h
 |x::xs,v::vs,p,h=>by
  rcases ao.mp h with b|h
  .rw[b];exact⟨x,.head _,rfl⟩
  .obtain⟨y,a,e⟩:=wg h;exact⟨y,.tail _ a,e⟩
theorem sX{ko:Str->Option NameKind}{x:Nm}:∀{xs:List Nm} {vs:List ai} {m:Str->Option ai},x∉xs->bindL ko (cq xs vs) m (S x)=m (S x)
 |[],_,m,_=>rfl
 |_::_,[],m,_=>rfl
 |y::xs,v::vs,m,h=>by
  show bindL ko (cq xs vs) _ (S x)=_;rw[sX λq=>h (.tail _ q)]
  split
  .exact av λq:S x=S y=>h (by rw[sK q];exact .head _)
  .rfl
theorem sY{ko:Str->Option NameKind}{x:Nm}:∀{xs:List Nm} {vs:List ai} {m:Str->Option ai},x∉xs->bindC ko (cq xs vs) m (S x)=m (S x)
 |[],_,m,_=>rfl
 |_::_,[],m,_=>rfl
 |y::xs,v::vs,m,h=>by
  show bindC ko (cq xs vs) _ (S x)=_;rw[sY λq=>h (.tail _ q)]
  split
  .rfl
  .exact av λq:S x=S y=>h (by rw[sK q];exact .head _)
theorem qm{ko:Str->Option NameKind}{g:Gx}{ts:Tb}{x:Nm}{d:D}:∀{xs:List Nm} {vs:List ai} {ds:List D} {m cm:Str->Option ai},nk xs=true->dj g ts vs ds->dR (dK xs ds) x=some d->
 ∃v,Rd g ts v d/\x∈xs/\(ko (S x)=some .local->bindL ko (cq xs vs) m (S x)=some v)/\(ko (S x)≠some .local->bindC ko (cq xs vs) cm (S x)=some v)
 |[],_,_,_,_,_,_,h=>by cases h
 |y::xs,_,_,m,cm,i,.nil,h=>by cases h
 |y::xs,_,_,m,cm,i,.cons (v:=v) (d:=e) (vs:=vs) (ds:=ds) r rs,h=>by
  obtain⟨f,l⟩:=wf i;replace h:dR ((y,e)::dK xs ds) x=some d:=h;rw[cg] at h;by_cases q:y=x
  .rw[aH q] at h;cases h;subst q;refine⟨v,r,.head _,λc=>?_,λc=>?_⟩
   .show bindL ko (cq xs vs) _ (S y)=_;rw[sX f,aH c];exact aH rfl
   .show bindC ko (cq xs vs) _ (S y)=_;rw[sY f,av c];exact aH rfl
  .rw[av q] at h;obtain⟨u,a,b,j,k⟩:=qm (m:=if ko (S y)=some .local then λz=>if z=S y then some v else m z else m) (cm:=if ko (S y)=some .local then cm else λz=>if z=S y then some v else cm z) l rs h;exact⟨u,a,.tail _ b,j,k⟩
section
variable{w:aq}{ts:Tb}{K:KT}{M:gz}{k:Nat}{A:aL}
theorem eO.deeper{A:aL}{env:Env}(h:eO A (k+1)):eq (A.deeper env) k:=by
 refine⟨h.h,?_,?_⟩
 .have:=h.d;show A.depth+1+k<_;exact by rw[Nat.succ_add];exact this
 .have:=h.u;show A.units+3+8*k+40<_;exact ir this
structure wh(w:aq)(ts:Tb)(f:Ft)(xs:List Nm)(ds:List D)(ob:List Ob)(X:List Addr)(s0:af)(env:Env)(X':List Addr)(s1:af):Prop where
 e:bC w env f.2.2.names
 hf:c0 X' env
 hs:b0 w ts env X' 0 ⟨dK xs ds,none,ob⟩ s1.heap
 ks:Keeps s0 s1
 tk:s0.toks<=s1.toks
 sub:∀b∈X,b∈X'
 newL:s0.heap.get? env.locals=none
 newC:∀x c,env.cells.lookup x=some c->s0.heap.get? c=none
 fr:env.frame=some env.locals
theorem wh.nl{f:Ft}{xs:List Nm}{ds:List D}{ob:List Ob}{X a:List Addr}{s0 s1:af}{env:Env}(F:wh w ts f xs ds ob X s0 env a s1){b:Addr}(e:s0.heap.get? b≠none):b≠env.locals:=λq=>e (by rw[q];exact F.newL)
theorem wh.nc{f:Ft}{xs:List Nm}{ds:List D}{ob:List Ob}{X a:List Addr}{s0 s1:af}{env:Env}(F:wh w ts f xs ds ob X s0 env a s1){b:Addr}(e:s0.heap.get? b≠none):∀x c,env.cells.lookup x=some c->b≠c:=λx c d q=>e (by rw[q];exact F.newC x c d)
theorem Em{a:Addr}{f:Ft}{xs:List Nm}{fd:FuncData}(F:cK w.params a f xs fd){X:List Addr}{s0 s:af}{ds:List D}{ob:List Ob}{vs:List ai}{env:Env}{u:Heap}{tk1:Nat}(B:cT w s.heap)(O:gc w (bJ X s.heap) ts s.heap ob)(L:∀x∈X,(s.heap.get? x).isSome=true)(r:dj (bJ X s.heap) ts vs ds)(K:Keeps s0 s)(P:s0.toks<=tk1)
 (R:bC w env f.2.2.names)(E:∀x,env.kindOf (S x)=kd f.2.2.names x)(W:env.frame=some env.locals)(kk:∀b o,s.heap.get? b=some o->u.get? b=some o)(h:s.heap.get? env.locals=none)(t:∀x c,env.cells.lookup x=some c->s.heap.get? c=none)
 (ns:u.Ns env.locals (bindL env.kindOf (cq xs vs) λg=>none))(j:∀x c,env.cells.lookup x=some c->u.IsCell c (bindC env.kindOf (cq xs vs) (λg=>none) x)):∃C,wh w ts f xs ds ob X s0 env C {s with heap:=u,toks:=tk1}:=by
 have Y:∀x,x∈xs->jG (kd f.2.2.names x)=true:=λx I=>aW.mp F.kinds x I
 let N:List Addr:=env.cells.filterMap λp=>env.cells.lookup p.1
 let C:List Addr:=env.locals::(N++X)
 have Bq:∀b,b∈N->∃x,env.cells.lookup x=some b:=λb k=>by obtain⟨p,g,e⟩:=List.mem_filterMap.mp k;exact⟨_,e⟩
 have V:c0 C env:=⟨.head _,λx c l=>.tail _ (List.mem_append_left _ (List.mem_filterMap.mpr ⟨(x,c),mem_of_lookup l,l⟩))⟩;have A:∀b,b=env.locals\/b∈N->s.heap.get? b=none/\u.get? b≠none:=λb k=>by
  rcases k with rfl|k
  .obtain⟨o,g,g,J,g⟩:=ns;exact⟨h,cO J⟩
  .obtain⟨x,I⟩:=Bq b k;obtain⟨o,J,g⟩:=j x b I;exact⟨t x b I,cO J⟩
 have z:∀b,b∈C->(b=env.locals\/b∈N)\/b∈X:=λb k=>by
  rcases ao.mp k with q|q
  .exact .inl (.inl q)
  .rcases List.mem_append.mp q with q|q
   .exact .inl (.inr q)
   .exact .inr q
 have m:gT (bJ X s.heap) (bJ C u):=λb o e c=>by
  have zq:=bT e;clear e;obtain⟨e,hn⟩:=zq;refine cc (kk _ _ e) λq=>?_;rcases z b q with q|q
  .rw[(A b q).1] at e;cases e
  .exact hn q
 have H:b0 w ts env C 0 ⟨dK xs ds,none,ob⟩ u:=by
  refine⟨B.keeps kk,λx d I=>?_,λg g g e=>(by cases e),⟨O.len,λi o p a b=>?_,O.nodup⟩,⟨_,ns⟩,λx c l=>⟨_,j x c l⟩,λq=>?_,λb k=>?_⟩
  .obtain⟨v,rv,Z,k1,k2⟩:=qm (ko:=env.kindOf) (m:=λg=>none) (cm:=λg=>none) F.nodup r I;refine⟨v,?_,rv.mon m⟩;have T:=Y x Z;rw[<-E x] at T;by_cases q:env.kindOf (S x)=some .local
   .exact .inl ⟨q,_,ns,k1 q⟩
   .have U:env.kindOf (S x)=some .cell:=(zL T).resolve_left q;obtain⟨c,l⟩:=R.has _ (.inl U);refine .inr ⟨.inl U,c,l,?_⟩;have:=j _ c l;rw[k2 q] at this;exact this
  .have y:=O.each i o p a b;obtain⟨es,n,e,rr⟩:=y.dict;exact⟨kk _ _ y.inst,⟨es,n,kk _ _ e,rr.mon m⟩,y.new⟩
  .obtain⟨⟨es,nn,e⟩,g⟩:=O.dict q;rw[h] at e;cases e
  .rcases z b k with q|q
   .exact kK (A b q).2
   .obtain⟨o,J⟩:=ax.mp (L b q);rw[kk b o J];rfl
 have M:∀b,s.heap.get? b=none->s0.heap.get? b=none:=λb e=>by
  cases e0:s0.heap.get? b with
  |none=>rfl
  |some o=>obtain⟨h',tk,rfl,G⟩:=K;rw[G _ _ e0] at e;cases e
 have Q:Keeps s0 {s with heap:=u,toks:=tk1}:=by obtain⟨h',tk,rfl,G⟩:=K;exact⟨_,_,rfl,λb o e=>kk b o (G b o e)⟩
 exact⟨C,R,V,H,Q,P,λb k=>.tail _ (List.mem_append_right _ k),M _ h,λx c l=>M _ (t x c l),W⟩
theorem fB{a:Addr}{f:Ft}{xs:List Nm}{fd:FuncData}{args:Args}(F:cK w.params a f xs fd)(hA:eO A (k+1)){X:List Addr}{s0:af}{ds:List D}{ob:List Ob}(I:cT w s0.heap)(O0:gc w (bJ X s0.heap) ts s0.heap ob)
 (q:∀x∈X,(s0.heap.get? x).isSome=true)(l:∀A',an (model pw w) A' (aJ fd args) (λU s=>∃vs,U=cq xs vs/\Keeps s0 s/\dj (bJ X s.heap) ts vs ds) bM s0){R:Result->af->Prop}
 (hk:∀env J s1,wh w ts f xs ds ob X s0 env J s1->an (model pw w) (A.deeper env) (execs f.2.1 env) (λfl s'=>R (.ok (.ret (match fl with|.ret v=>v|_=>.none))) s')
  (λe s'=>an (model pw w) (A.deeper env) (leaving env e) (λZ t=>R (.error e) t) (λe' t=>R (.error e') t) s') s1):
 codeAny (model pw w) A (.call (.ref a) args) R s0:=by
 obtain⟨nm,qn,c,L,pm,rfl,E,⟨oc,vc,tc,T,N,P,hq⟩,C⟩:=F.obj;have hd:A.depth<recursionLimit:=by have:=hA.d;exact aS (ba _ _) this
 have hN:∀x,x∈xs->jG (kd f.2.2.names x)=true:=λx d=>aW.mp F.kinds x d;refine codeAny_call_function (args:=args) hd (I.keep _ _ E F.nota) rfl F.co F.gen rfl ⟨c,oc,vc,tc,rfl,I.keep _ _ T N,P,hq⟩ ?_;refine wpAny_with_toks (aF _) (am (l _) (λU s e G=>?_) λZ Z x=>x.elim);obtain⟨vs,rfl,h,r⟩:=e;have B:cT w s.heap:=by obtain⟨h',tk,rfl,kk⟩:=h;exact I.keeps kk
 have O:gc w (bJ X s.heap) ts s.heap ob:=by obtain⟨h',tk,rfl,kk⟩:=h;exact O0.keep kk
 have H:∀x∈X,(s.heap.get? x).isSome=true:=λx d=>by obtain⟨o,ho⟩:=ax.mp (q x d);obtain⟨h',tk,rfl,kk⟩:=h;rw[kk _ _ ho];rfl
 let env:=callEnvC (FD f nm qn (.ref c) L pm 3 0) s.heap.objs.size a
 have g:∀x,env.kindOf (S x)=kd f.2.2.names x:=λx=>iW env x;have W:=uB f.2.2.names (s.heap.push {cls:=.type "frame",data:=.dict #[]}) (s.heap.objs.size+1) [] ⟨λx y c a=>(by cases a),λx c a=>(by cases a),λx c a=>(by cases a)⟩ (by rw[Heap.size_push];exact aF _);rw[Heap.size_push] at W;obtain⟨c1,c2,V,c4,c5⟩:=W;have M:∀x∈cq xs vs,f.2.2.names.lookup x.1=some .local\/(f.2.2.names.lookup x.1=some .cell/\((cellsFrom (s.heap.objs.size+1) f.2.2.names []).lookup x.1).isSome=true):=λp hp=>by obtain⟨x,d,e⟩:=wg hp;rw[e,sJ];exact(zL (hN x d)).imp id λe=>⟨e,V _ (qa e)⟩
 refine wpAny_with_toks (aF _) (wpAny_newFunctionEnv_cells (s:=s) F.kind M λz Q s1 u n=>?_);replace Q:z=env:=Q;subst Q;refine⟨(UO B).keeps u.toInCall.keep,?_⟩;obtain⟨Y,tk1,rfl⟩:=u.toInCall.same;replace n:s.toks<=tk1:=n;have kk:∀b o,s.heap.get? b=some o->Y.get? b=some o:=u.toInCall.keep;have K:∀x c,env.cells.lookup x=some c->s.heap.objs.size<c:=λx c m=>u.above x c (mem_of_lookup m);have j:s.heap.get? env.locals=none:=dJ (aF _);have i:∀x c,env.cells.lookup x=some c->s.heap.get? c=none:=λx c m=>dJ (Nat.le_of_lt (K x c m));have hE:bC w env f.2.2.names:=by
  refine⟨F.kind,rfl,rfl,rfl,λx y c d hy=>c1.inj x y c d hy,λx d=>?_,fP B j,λx c m=>fP B (i x c m),λhs=>?_⟩
  .have e:env.kindOf x=kd f.2.2.names (bm x):=g (bm x);rw[e] at d;rcases d with d|d
   .exact ax.mp (V _ (qa d))
   .have:=aW.mp F.nofree _ (qa d);exact(ab this).elim
  .show ai.ref c=ai.ref 189;rw[C hs]
 obtain⟨J,FI⟩:=Em (env:=env) F B O H r h (aj G n) hE g rfl kk j i u.toInCall.ns λx c m=>u.cell x c m;exact codeAny_func (hk env J {s with heap:=Y,toks:=tk1} FI)
set_option tactic.hygienic true in
theorem kM(N:fz w ts K k)(O:vv w M){a:Addr}{f:Ft}{xs:List Nm}{fd:FuncData}{args:Args}(F:cK w.params a f xs fd)(G:eO A (k+1)){X:List Addr}{s0:af}{ds:List D}{ob ob':List Ob}{d:D}(J:cT w s0.heap)(P:gc w (bJ X s0.heap) ts s0.heap ob)
 (r:∀x∈X,(s0.heap.get? x).isSome=true)(u:0<s0.toks)(m:∀I,an (model pw w) I (aJ fd args) (λQ s=>∃vs,Q=cq xs vs/\Keeps s0 s/\dj (bJ X s.heap) ts vs ds) bM s0)(h:(eQ K M f xs ds ob).run=some (d,ob')):
 codeAny (model pw w) A (.call (.ref a) args) (RV λv i=>Rd (bJ X i.heap) ts v d/\cT w i.heap/\gc w (bJ X i.heap) ts i.heap ob'/\Kp ts s0 i) s0:=by
 have L:=iy N O (n:=60);refine fB F G J P r m λenv C s1 j=>?_;refine bB h ?_;clear h;intro o st2 h g;refine am (L.xs _ _ _ _ _ h (A.deeper env) env C 0 G.deeper j.e j.hf s1 j.hs (aI u j.tk)) (λE i p=>?_) λZ Z x=>x.elim;obtain⟨y,B,ow,t⟩:=p.ex;have H:gT (bJ (st2.hid C y) i.heap) (bJ X i.heap):=λb o e c=>by have Y:=bT e;clear e;obtain⟨e,T⟩:=Y;exact cc e λq=>T (dp _ (j.sub _ q))
 have l:cT w i.heap/\gc w (bJ X i.heap) ts i.heap st2.ob/\Kp ts s0 i:=by
  refine⟨B.base,B.obs.mon H,?_⟩;obtain⟨h1,tk1,rfl,kk⟩:=j.ks;obtain⟨R,z,rfl,l2,U,u2⟩:=p.kq;refine⟨R,z,rfl,aj j.tk l2,λb o e V W=>U b o (kk b o e) V W (λq=>?_) (λx c S q=>?_) λq=>aK rfl q⟩
  .rw[q,j.newL] at e;cases e
  .rw[q,j.newC x c S] at e;cases e
 cases o with
 |next=>cases E<;>first|exact t.elim|(cases g;exact⟨.none,l⟩)
 |ret d'=>cases E<;>first|exact t.elim|(cases g;exact⟨t.mon H,l⟩)
 |brk=>cases g
 |cont=>cases g
end
section
open Builtin Builtin.Str
theorem wi(x:List Nat):(S x).length=x.length:=rfl
theorem En(x y:List Nat)(i:Nat):subAt (S x) (S y) i=decide ((x.drop i).take y.length=y):=by
 have e:(⟨x⟩:Array Nat).extract i (i+y.length)=⟨(x.drop i).take y.length⟩:=by apply Array.toList_inj.mp;rw[Array.toList_extract];show List.extract x i (i+y.length)=_;rw[List.extract_eq_take_drop,Nat.add_sub_cancel_left]
 show((⟨x⟩:Array Nat).extract i (i+(S y).length)==⟨y⟩)=_;rw[wi,e];rw[Bool.eq_iff_iff,beq_iff_eq,aZ];exact⟨λh=>aU Array.toList h,λh=>aU Array.mk h⟩
theorem z8(x y:List Nat):ip x y=decide (y.take x.length=x):=by rw[Bool.eq_iff_iff,mf,aZ]
theorem Eo{α:Type}{x y:List α}(h:y.take x.length=x):x.length<=y.length:=by have:=aU List.length h;rw[List.length_take] at this;omega
theorem uF(x y:List Nat):Txt.startswith (S x) (S y)=ip y x:=by
 show(decide (0+y.length<=x.length)&&subAt (S x) (S y) 0)=_;rw[En,z8,List.drop_zero];by_cases h:x.take y.length=y
 .rw[ac h,ac (by have:=Eo h;exact by rw[Nat.zero_add];exact this)];rfl
 .rw[aG h,Bool.and_false]
theorem yq(x y:List Nat):Txt.endswith (S x) (S y)=ip y.reverse x.reverse:=by
 show(decide (0+y.length<=x.length)&&subAt (S x) (S y) (x.length-y.length))=_;rw[En,z8,List.length_reverse];by_cases a:y.length<=x.length
 .rw[ac (by exact by rw[Nat.zero_add];exact a),Bool.true_and];have e:(x.drop (x.length-y.length)).take y.length=x.drop (x.length-y.length):=by rw[List.take_of_length_le];rw[List.length_drop];omega
  have b:x.reverse.take y.length=(x.drop (x.length-y.length)).reverse:=by rw[List.take_reverse]
  rw[e,b,Bool.eq_iff_iff,aZ,aZ];exact⟨λh=>by rw[h],λh=>List.reverse_inj.mp h⟩
 .rw[aG (by exact by rw[Nat.zero_add];exact a),Bool.false_and]
  symm
  rw[decide_eq_false_iff_not];intro h;have:=aU List.length h;rw[List.length_take,List.length_reverse,List.length_reverse] at this;omega
theorem uG{x:List Nat}{c i:Nat}:StrLaws.At (S x) (S [c]) x.length i↔x[i]?=some c:=by
 unfold StrLaws.At;rw[En];show i+1<=x.length/\decide ((x.drop i).take 1=[c])=true↔_;rw[aZ];constructor
 .rintro⟨a,b⟩;rw[List.drop_eq_getElem_cons (by exact a),List.take_succ_cons,List.take_zero,List.cons.injEq] at b;rw[aD (by exact aI (bh _) a),b.1]
 .intro h;obtain⟨d,e⟩:=aY.mp h;refine⟨d,?_⟩;rw[List.drop_eq_getElem_cons d,List.take_succ_cons,List.take_zero,e]
theorem jW(c:Nat):∀(x:List Nat) (i:Nat) (k:Int),((∀j:Nat,x[j]?≠some c)/\fi c x i k=k)\/∃j:Nat,x[j]?=some c/\(∀m,j<m->x[m]?≠some c)/\fi c x i k=((i+j:Nat):Int)
 |[],i,k=>.inl ⟨λj h=>by simp at h,rfl⟩
 |a::r,i,k=>by
  rw[Dn];cases e:Nat.beq a c with
  |true=>
   have l:=au e;dsimp only;rcases jW c r (i+1) (i:Int) with⟨b,d⟩|⟨j,b,d,g⟩
   .refine .inr ⟨0,by rw[l];rfl,λm f=>?_,d⟩;cases m with
    |zero=>omega
    |succ m=>exact b m
   .refine .inr ⟨j+1,b,λm f=>?_,by rw[g];congr 1;exact Nat.succ_add _ _⟩;cases m with
    |zero=>omega
    |succ m=>exact d m (by exact Nat.lt_of_succ_lt_succ f)
  |false=>
   have l:a≠c:=λq=>by rw[q,Nat.beq_refl] at e;cases e
   dsimp only;rcases jW c r (i+1) k with⟨b,d⟩|⟨j,b,d,g⟩
   .refine .inl ⟨λj=>?_,d⟩;cases j with
    |zero=>intro q;exact l (ag q)
    |succ j=>exact b j
   .refine .inr ⟨j+1,b,λm f=>?_,by rw[g];congr 1;exact Nat.succ_add _ _⟩;cases m with
    |zero=>omega
    |succ m=>exact d m (by exact Nat.lt_of_succ_lt_succ f)
theorem Jq(x:List Nat)(c:Nat):Txt.rfind (S x) (S [c])=lA c x:=by
 rcases jW c x 0 (-1) with⟨b,e⟩|⟨j,b,e,h⟩<;>rcases PyProof.Rows.rfind_whole (S x) (S [c]) with⟨d,a⟩|⟨i,d,a,g⟩
 .rw[d];exact e.symm
 .exact aK (uG.mp a) (b i)
 .exact aK (uG.mpr b) (a j)
 .rw[d];have f:i=j:=by
   rcases Nat.lt_trichotomy i j with q|q|q
   .exact aK (uG.mpr b) (g j q)
   .exact q
   .exact aK (uG.mp a) (e i q)
  rw[f];show _=fi c x 0 (-1);rw[h,Nat.zero_add]
theorem iX(c:Nat):∀x,∃p r,cn c x=p::r
 |[]=>⟨_,_,rfl⟩
 |a::r=>by
  rw[pJ];cases Nat.beq a c with
  |true=>exact⟨_,_,rfl⟩
  |false=>obtain⟨p,q,e⟩:=iX c r;rw[e];exact⟨_,_,rfl⟩
theorem jX(c:Nat):∀(p:List Nat),c∉p->cn c p=[p]
 |[],_=>rfl
 |a::r,h=>by
  rw[pJ];have e:Nat.beq a c=false:=by
   cases q:Nat.beq a c with
   |false=>rfl
   |true=>exact aK (by rw[au q];exact .head _) h
  rw[e,jX c r λq=>h (.tail _ q)]
theorem gs(c a:Nat)(r:List Nat):cn c (a::r)=(match Nat.beq a c with
 |true=>[]::cn c r
 |false=>match cn c r with
  |[]=>[[a]]
  |y::ys=>(a::y)::ys):=rfl
theorem qo(c:Nat)(y:List Nat):∀(p:List Nat),c∉p->cn c (p++c::y)=p::cn c y
 |[],_=>by show cn c (c::y)=_;rw[gs,Nat.beq_refl]
 |a::r,h=>by
  show cn c (a::(r++c::y))=_;rw[gs];have e:Nat.beq a c=false:=by
   cases q:Nat.beq a c with
   |false=>rfl
   |true=>exact aK (by rw[au q];exact .head _) h
  rw[e,qo c y r λq=>h (.tail _ q)]
theorem oy(c:Nat):∀(ps:List (List Nat)),ps≠[]->(∀p∈ps,c∉p)->cn c (bA [c] ps)=ps
 |[],h,_=>aK rfl h
 |[p],_,h=>jX c p (h p (.head _))
 |p::q::r,_,h=>by show cn c (p++[c]++bA [c] (q::r))=_;rw[aR];show cn c (p++c::bA [c] (q::r))=_;rw[qo c _ p (h p (.head _)),oy c (q::r) (by simp) λz a=>h z (.tail _ a)]
theorem uH(s:List Nat):∀ps:List (List Nat),PySem.Str.join (S s) (ps.map S)=S (bA s ps)
 |[]=>rfl
 |[p]=>rfl
 |p::q::r=>by have a:=uH s (q::r);show S p++S s++PySem.Str.join (S s) ((q::r).map S)=_;rw[a];show Str.mk (⟨p⟩++⟨s⟩++⟨bA s (q::r)⟩)=Str.mk ⟨p++s++bA s (q::r)⟩;simp
theorem Ep(l:List PySem.Str):l=(l.map (λx=>x.cps.toList)).map S:=by
 induction l with
 |nil=>rfl
 |cons a r b=>rw[List.map_cons,List.map_cons,<-b];rfl
theorem uI(x:List Nat)(c:Nat):Txt.split (S x) (S [c])=(cn c x).map S:=by
 have b:=StrLaws.join_split (S x) (S [c]);have d:∀p∈Txt.split (S x) (S [c]),c∉p.cps.toList:=StrLaws.split_free (S x) c;have e:=PyProof.Rows.split_pos (S x) (S [c]);generalize Txt.split (S x) (S [c])=l at b d e;rw[Ep l] at b⊢;rw[uH] at b;replace b:bA [c] (l.map (λx=>x.cps.toList))=x:=aU (λz=>z.cps.toList) b;rw[<-b,oy]
 .cases l with
  |nil=>simp at e
  |cons a r=>simp
 .intro p f;obtain⟨q,g,rfl⟩:=aE.mp f;exact d q g
theorem qp(c:Nat)(y:List Nat):∀x,bA y (cn c x)=cB c y x
 |[]=>rfl
 |a::r=>by
  have b:=qp c y r;rw[pJ,un];obtain⟨p,q,e⟩:=iX c r;cases Nat.beq a c with
  |true=>dsimp only;rw[e] at b⊢;rw[<-b];rfl
  |false=>dsimp only;rw[e] at b⊢;rw[<-b];cases q<;>rfl
theorem BC(x y:List Nat)(c:Nat):Txt.replace (S x) (S [c]) (S y)=S (cB c y x):=by rw[show Txt.replace (S x) (S [c]) (S y)=Str.join (S y) (Txt.split (S x) (S [c])) from StrLaws.replace_one (S x) (S y) c,uI,uH,qp]
theorem Er(s:List Nat)(ps:List (List Nat)):Txt.join (S s) (ps.map S)=S (bA s ps):=by show glued _ _=_;rw[StrLaws.glued_eq_join,uH]
end
section
open Builtin Builtin.Str
theorem uJ:typeOf (.type "str")=pure (.type "type"):=by first|rfl|kernel_rfl
theorem BD:typeOf (.type "bytes")=pure (.type "type"):=by first|rfl|kernel_rfl
theorem yr:isSubtype (.type "str") (.type "str")=pure true:=by rw[isSubtype_type];kernel_rfl
theorem Ow:isSubtype (.type "str") (.type "bytes")=pure false:=by rw[isSubtype_type];kernel_rfl
theorem z9:isType (.type "str")=pure true:=by first|rfl|kernel_rfl|(unfold isType;rw[isSubtype_type];kernel_rfl)
section
variable{w:aq}{A:aL}{s:af}{X:List Addr}{ts:Tb}{Q:ai->af->Prop}
theorem rF{x:Str}{t:Tok}(a:Q (.type "str") s):an (model pw w) A (call (.type "type") [.str x t]) Q bM s:=by
 obtain⟨h,g,d,tk,os⟩:=s;refine wpAny_call (codeAny_of_tree ?_);show an _ _ (callAny (.type "type") ⟨[.str x t],[]⟩) _ _ _;simp only[callAny];refine ay ⟨Code.quiet_builtin _ (by decide+kernel),codeAny_builtin entry_type_call ?_⟩;unfold Builtin.«type.__call__»;dsimp only;unfold shownTypeOf
 repeat (first|assumption|wp_step)
theorem rG{x:Int}{t:Tok}(a:Q (.type "int") s):an (model pw w) A (call (.type "type") [.int x t]) Q bM s:=by
 obtain⟨h,g,d,tk,os⟩:=s;refine wpAny_call (codeAny_of_tree ?_);show an _ _ (callAny (.type "type") ⟨[.int x t],[]⟩) _ _ _;simp only[callAny];refine ay ⟨Code.quiet_builtin _ (by decide+kernel),codeAny_builtin entry_type_call ?_⟩;unfold Builtin.«type.__call__»;dsimp only;unfold shownTypeOf
 repeat (first|assumption|wp_step)
theorem yu{prog:Program}{E:ai->af->Prop}{tk:Tok}{Q:PySem.Fin->af->Prop}(d:Q (.done (.ret (.bool true))) s):
 an (model prog w) A.in1 (Builtin.«issubclass.nested» ⟨[.type "str",.type "str",.int 1 tk],[]⟩) Q E s:=by
 have a:=z9;have b:=yr;have c:=uJ
 repeat (any_goals (first|assumption|wp_step))
theorem Ox:isSubtype (.type "tuple") (.type "tuple")=pure true:=by rw[isSubtype_type];kernel_rfl
theorem yv:checkBuiltinCall "issubclass.nested" ⟨[.type "str",.type "str",.int 1 0],[]⟩=pure ():=by first|kernel_rfl|rfl
theorem uK{prog:Program}{E:ai->af->Prop}{a:Addr}{n:Nat}{tk:Tok}{Q:PySem.Fin->af->Prop}(g:s.heap.get? a=some {cls:=.type "tuple",data:=.seq #[.type "str",.type "bytes"] n})(c:Q (.done (.ret (.bool true))) s):
 an (model prog w) A.in1 (Builtin.«issubclass.nested» ⟨[.type "str",.ref a,.int 0 tk],[]⟩) Q E s:=by
 obtain⟨h,b,d,t,os⟩:=s;have hT:∀t',(⟨h,b,d,t',os⟩:af).TypeIs (.ref a) "tuple":=λk=>⟨_,g,rfl⟩;have e:=z9;have f:=yr;have i:=uJ;have j:=Ox
 repeat (any_goals (first|assumption|exact hT _|wp_step))
 dsimp only
 repeat (any_goals (first|assumption|exact hT _|wp_step))
 show codeAny _ _ (Code.call (.builtin "issubclass.nested") ⟨[.type "str",.type "str",.int 1 0],[]⟩) _ _;refine codeAny_call_builtin (by decide+kernel) F.entry_issubclass_nested (wpAny_of_eq yv ?_);refine yu (ah (wpAny_truthy_bool (ah (ay (ay (ay ?_))))));exact ay c
theorem yw{a:Addr}{n:Nat}(g:s.heap.get? a=some {cls:=.type "tuple",data:=.seq #[.type "str",.type "bytes"] n})(c:Q (.bool true) s):
 an (model pw w) A (call (.builtin "issubclass") [.type "str",.ref a]) Q bM s:=
 call_issubclass (S:=λd R s=>s.heap.get? a=some {cls:=.type "tuple",data:=.seq #[.type "str",.type "bytes"] n}/\R (.ok (.ret (.bool true))) s)
  (λprog w A R s b=>issubclass_outer (uK b.1 b.2)) ⟨g,c⟩
theorem tb:mroOf (.type "collections.deque")=pure [.type "collections.deque",.type "object"]:=by rw[mroOf_type];kernel_rfl
theorem nq:typeLookup (.type "collections.deque") "__new__"=pure (some (.builtin "collections.deque.__new__")):=by rw[typeLookup_type,builtinLookup_eq_fast];kernel_rfl
theorem uL:Slot "collections.deque" "__init__" "collections.deque.__init__":=
 .of (owner:="collections.deque") (n:="__init__") (by rw[typeLookup_type,builtinLookup_eq_fast];kernel_rfl) (by decide+kernel) (by decide+kernel) (by decide+kernel)
  (by first|exact .inl (by decide+kernel)|exact .inr (by decide+kernel)) (by rw[isSubtype_type];kernel_rfl)
theorem mr:TypeCalled "collections.deque" "collections.deque.__new__" "collections.deque.__init__":=
 ⟨by decide+kernel,by decide+kernel,⟨_,_,tb⟩,madeBy_type tb nq (by decide+kernel),by decide+kernel,by rw[isSubtype_type];kernel_rfl,uL⟩
theorem qr:checkTypeCall "collections.deque" ⟨[],[]⟩=pure ():=by kernel_rfl
theorem rH:checkBuiltinCall "collections.deque.__new__" ⟨[.type "collections.deque"],[]⟩=pure ():=by kernel_rfl
theorem uM:entryFor table "collections.deque.__new__"=some Builtin.«collections.deque.__new__»:=entryFor_of_tree (by kernel_rfl)
theorem rI:entryFor table "collections.deque.__init__"=some Builtin.«collections.deque.__init__»:=entryFor_of_tree (by kernel_rfl)
theorem Oy:isType (.type "collections.deque")=pure true:=by first|rfl|kernel_rfl|(unfold isType;rw[isSubtype_type];kernel_rfl)
theorem uN(a:ai):argsOk "collections.deque.__init__" ⟨[a],[]⟩:=by unfold argsOk;kernel_rfl
theorem Tf:typeHasDict (.type "collections.deque")=false:=by decide+kernel
abbrev Tg:Obj:={cls:=.type "collections.deque",data:=.fields #[.none,.int 0 0]}
theorem uO:Meets (Builtin.«collections.deque.__new__» ⟨[.type "collections.deque"],[]⟩) (λf R s=>R (.ok (.ret (.ref s.heap.objs.size))) {s with heap:=s.heap.push Tg}):=
 Meets.of_wp λprog w A R s a=>by
  obtain⟨h,g,d,tk,os⟩:=s;have b:=Oy;have c:isSubtype (.type "collections.deque") (.type Builtin.Deque.ty)=pure true:=mr.sub;have e:=Tf
  repeat (any_goals (first|assumption|wp_step))
  exact⟨_,rfl,a⟩
theorem rJ{a:Addr}:Meets (Builtin.«collections.deque.__init__» ⟨[.ref a],[]⟩) (λe R s=>s.heap.get? a=some Tg/\∀h',h'.get? a=some Tg->Heap.SameBut a s.heap h'->R (.ok (.ret .none)) {s with heap:=h'}):=
 Meets.of_wp λprog w A R s b=>by
  obtain⟨h,g,d,tk,os⟩:=s;obtain⟨c,b⟩:=b
  repeat (any_goals (first|assumption|wp_step))
  refine⟨_,rfl,b _ ?_ (Heap.SameBut.update ..)⟩;rw[Heap.get?_update_self _ c rfl];rfl
theorem yy(a:∀h',h'.get? s.heap.objs.size=some Tg->(∀b o,s.heap.get? b=some o->h'.get? b=some o)->Q (.ref s.heap.objs.size) {s with heap:=h'}):an (model pw w) A (call (.type "collections.deque") []) Q bM s:=by refine callType_meets (Q₁:=λv s1=>v=.ref s.heap.objs.size/\s1={s with heap:=s.heap.push Tg}) mr qr rH uM rI uO ⟨rfl,rfl⟩ λg s1 d=>?_;obtain⟨rfl,rfl⟩:=d;refine⟨⟨_,aT _ rfl,rfl⟩,uN _,_,rJ,aT _ rfl,λh' c f=>⟨rfl,a h' c λb o e=>(f.2 b (Nat.ne_of_lt (Heap.lt_size e))).trans (aA _ e)⟩⟩
end
end
section
open Builtin Builtin.Str
theorem wj{g:Gx}{ts:Tb}{vs:List ai}{ds:List D}(r:dj g ts vs ds)(h:dB ds=true):StrsAre vs ((cS ds).map S)/\∀x∈cS ds,x.length<=br:=
 r.ind (P:=λvs ds=>dB ds=true->StrsAre vs ((cS ds).map S)/\∀x∈cS ds,x.length<=br) (λc=>⟨.nil,λc h=>nomatch h⟩) (λv d vs ds r c k h=>bx h λf i=>by obtain⟨a,b⟩:=k i;rw[r7 f] at r;obtain⟨t,e,l⟩:=m9 r;rw[e];exact⟨.cons _ _ a,λy j=>(ao.mp j).elim (λq=>q▸l) (b y)⟩) h
theorem ms{g:Gx}{ts:Tb}:∀{vs:List ai} {xs:List (List Nat)},StrsAre vs (xs.map S)->(∀x∈xs,x.length<=br)->dj g ts vs (xs.map D.str)
 |_,[],h,_=>by cases h;exact .nil
 |_,x::xs,h,a=>by
  cases h with
  |cons _ t r=>exact .cons (.str x t (a x (.head _))) (ms r λy b=>a y (.tail _ b))
theorem Es{g:Gx}{ts:Tb}{vs:List ai}{ds:List D}(r:dj g ts vs ds)(h:mY ds=true):(∀v∈vs,∃a t,v=.int a t)/\numsOf vs=pI ds:=
 r.ind (P:=λvs ds=>mY ds=true->(∀v∈vs,∃a t,v=.int a t)/\numsOf vs=pI ds) (λc=>⟨λc h=>(nomatch h),rfl⟩) (λv d vs ds r c k h=>bx h λf i=>by obtain⟨a,b⟩:=k i;rw[Bg f] at r;obtain⟨t,e⟩:=Bk r;rw[e];exact⟨λu j=>(ao.mp j).elim (λq=>⟨_,_,q⟩) (a u),aU (Dl d::·) b⟩) h
theorem yz:∀(x y:List Nat),mU x y=Spec.ltCps x y
 |[],[]=>rfl
 |[],_::_=>rfl
 |_::_,[]=>rfl
 |a::x,b::y=>by
  have c:=yz x y;show(Nat.blt a b||(Nat.beq a b&&mU x y))=(decide (a<b)||(a==b&&Spec.ltCps x y));rw[c];congr 1
  .rw[Bool.eq_iff_iff,aZ];exact Nat.blt_eq▸Iff.rfl
  .rw[show(a==b)=Nat.beq a b from by rw[Bool.eq_iff_iff,beq_iff_eq];exact⟨λh=>h▸Nat.beq_refl _,au⟩]
theorem uP(x y:List Nat):mU x y=decide (x<y):=by rw[yz,ltCps_eq]
theorem nr(x:List Nat):∀l,(jI x l).Perm (x::l)
 |[]=>.refl _
 |y::r=>by
  rw[Do];cases mU x y with
  |true=>exact .refl _
  |false=>exact((nr x r).cons y).trans (.swap x y r)
theorem ia:∀l,(dC l).Perm l
 |[]=>.refl _
 |x::r=>(nr x (dC r)).trans ((ia r).cons x)
theorem oz(x:List Nat):∀l,l.Pairwise (·<=·)->(jI x l).Pairwise (·<=·)
 |[],_=>List.pairwise_singleton ..
 |y::r,h=>by
  obtain⟨d,f⟩:=List.pairwise_cons.mp h;rw[Do];cases e:mU x y with
  |true=>
   rw[uP,aZ] at e;have b:x<=y:=List.le_of_lt e;exact List.pairwise_cons.mpr ⟨λz a=>by
    rcases ao.mp a with c|a
    .rw[c];exact b
    .exact List.le_trans b (d z a),h⟩
  |false=>
   rw[uP,decide_eq_false_iff_not] at e;have b:y<=x:=List.not_lt.mp e;refine List.pairwise_cons.mpr ⟨λz a=>?_,oz x r f⟩;rcases ao.mp ((nr x r).mem_iff.mp a) with c|a
   .rw[c];exact b
   .exact d z a
theorem mt:∀l,(dC l).Pairwise (·<=·)
 |[]=>.nil
 |x::r=>oz x _ (mt r)
theorem yA{a b:List (List Nat)}(h:a.Perm b)(d:a.Pairwise (·<=·)):a=dC b:=
 List.Perm.eq_of_pairwise (λc c c c=>List.le_antisymm) d (mt b) (h.trans (ia b).symm)
theorem qs:∀(p:List Nat) (l:List (List Nat)),risingS (S p) (l.map S)=true->(p::l).Pairwise (·<=·)
 |p,[],_=>by simp
 |p,x::r,h=>by
  refine bx (show(!Spec.ltCps x p&&risingS (S x) (r.map S))=true from h) λb e=>?_;rw[aN,<-yz,uP,decide_eq_false_iff_not] at b;have d:p<=x:=List.not_lt.mp b;have c:=qs x r e;obtain⟨f,i⟩:=List.pairwise_cons.mp c;exact List.pairwise_cons.mpr ⟨λz a=>by
   rcases ao.mp a with g|a
   .rw[g];exact d
   .exact List.le_trans d (f z a),c⟩
theorem yB(l:List (List Nat))(h:sortedS (l.map S)=true):l.Pairwise (·<=·):=by
 cases l with
 |nil=>exact .nil
 |cons x r=>exact qs x r h
section
variable{w:aq}{A:aL}{s:af}{X:List Addr}{ts:Tb}{Q:ai->af->Prop}
theorem Oz{l:List Str}{xs:List (List Nat)}(h:l.Perm (xs.map S)):∃ys:List (List Nat),l=ys.map S/\ys.Perm xs:=by
 refine⟨l.map (λx=>x.cps.toList),Ep l,?_⟩;have:=h.map (λx:Str=>x.cps.toList);rw[aQ] at this;have e:xs.map ((λx:Str=>x.cps.toList)∘S)=xs:=by exact List.map_id _
 rw[e] at this;exact this
set_option tactic.hygienic true in
theorem wk{v:ai}{ds:List D}(B:dB ds=true)(o:ds.length<64)(r:Rd (bJ X s.heap) ts v (.list ds))(k:∀v h,Rd (bJ X h.heap) ts v (.list ((dC (cS ds)).map .str))->Keeps s h->Q v h)(y:∀x∈X,(s.heap.get? x).isSome=true):
 an (model pw w) A (call (.builtin "sorted") [v]) Q bM s:=by
 cases r with
 |list g l q=>
  rename_i a vs n;obtain⟨u,m⟩:=wj q B;have b:=q.length;refine sorted_strs (vs:=vs.toList) (by exact cy g) u (by exact aS (aO b) o) λd C i p t=>?_;obtain⟨ys,rfl,z⟩:=Oz p;have f:=yA z (yB ys t);subst f;obtain⟨e,f⟩:=sortedAll_at s.heap vs.toList d;refine k _ _ (.list (cc f λc=>?_) ?_ (ms i λx c=>m x ((ia _).mem_iff.mp c))) ⟨_,_,rfl,λE E=>sortedAll_old⟩
  .have:=y _ c;rw[dJ (Nat.le_succ _)] at this;cases this
  .have j:=(ms (g:=bJ X s.heap) (ts:=ts) i λx c=>m x ((ia _).mem_iff.mp c)).length;rw[ak,(ia _).length_eq] at j;show d.size<=br;rw[<-aM,j];unfold cS;rw[ak];show _<=16777216;exact Nat.le_of_lt (aI o (by decide))
end
end
section
open Builtin Builtin.Str
section
variable{w:aq}{A:aL}{s:af}{X:List Addr}{ts:Tb}{Q:ai->af->Prop}
theorem uQ{id:String}{first:List ai}{pos:Pos}{as:List (Sem ai)}(h:fo w A as (λvs s1=>an (model pw w) A (call (.builtin id) (first++vs)) Q bM s1) s):an (model pw w) A (callWith pos (.builtin id) first (pl as) []) Q bM s:=
 callWith_builtin (jQ as) (fH h)
theorem rK{T:String}{pos:Pos}{as:List (Sem ai)}(h:fo w A as (λvs s1=>an (model pw w) A (call (.type T) vs) Q bM s1) s):an (model pw w) A (callWith pos (.type T) [] (pl as) []) Q bM s:=
 PySem.callWith_type (jQ as) (fH h)
theorem mu{h:Heap}(b:∀x∈X,(h.get? x).isSome=true){a:Addr}(n:h.get? a=none):a∉X:=λq=>by have:=b _ q;rw[n] at this;cases this
theorem lH{o:Obj}{tk:Nat}:Keeps s {s with heap:=s.heap.push o,toks:=tk}:=⟨_,_,rfl,λa a e=>aA _ e⟩
theorem Jr{g:Gx}{vs:List ai}{d1:D}(h:dj g ts vs [d1]):∃b,vs=[b]/\Rd g ts b d1:=by cases h with|cons a r=>cases r;exact⟨_,rfl,a⟩
theorem WT{g:Gx}{vs:List ai}(h:dj g ts vs []):vs=[]:=by cases h;rfl
theorem td{ds:List D}{vs:List ai}{g:Gx}{k:D->T D}{d:D}{G:Prop}(h:((T.opt (one ds)).bind k).run=some d)(r:dj g ts vs ds)(q:∀a v,vs=[v]->Rd g ts v a->(k a).run=some d->G):G:=by refine bv h λa b c=>?_;rw[pL (bn b)] at r;obtain⟨v,e,f⟩:=Jr r;exact q a v e f c
theorem Et{ds:List D}{vs:List ai}{g:Gx}{k:D×D->T D}{d:D}{G:Prop}(h:((T.opt (C6 ds)).bind k).run=some d)(r:dj g ts vs ds)(q:∀a b v u,vs=[v,u]->Rd g ts v a->Rd g ts u b->(k (a,b)).run=some d->G):G:=by refine bv h λa c f=>?_;rw[pM (bn c)] at r;obtain⟨v,u,e,i,j⟩:=Jk r;exact q a.1 a.2 v u e i j f
theorem tf{a:D}{v:ai}{g:Gx}{k:Int->T D}{d:D}{G:Prop}(h:((T.opt (lS a)).bind k).run=some d)(r:Rd g ts v a)(q:∀i t,v=.int i t->(k i).run=some d->G):G:=by refine bv h λi b c=>?_;rw[gD (bn b)] at r;obtain⟨t,e⟩:=Bk r;exact q i t e c
theorem Eu{a:D}{v:ai}{g:Gx}{k:List D->T D}{d:D}{G:Prop}(h:((T.opt (rZ a)).bind k).run=some d)(r:Rd g ts v a)(q:∀ds,Rd g ts v (.list ds)->(k ds).run=some d->G):G:=by refine bv h λi b c=>?_;rw[gE (bn b)] at r;exact q i r c
theorem BE{ds:List D}{d:D}{vs:List ai}(h:(Dr .isinstance ds).run=some d)(r:dj (bJ X s.heap) ts vs ds)(k:∀v i,Rd (bJ X i.heap) ts v d->Keeps s i->Q v i):an (model pw w) A (call (BI.val .isinstance) vs) Q bM s:=by
 refine Et h r λa b v u e j l h=>bv h λx f h=>bv h λkb g h=>bv h λn c h=>?_;rw[e];rw[<-ag h] at k;replace f:je a=some x:=bn f;replace g:Iy b=some kb:=bn g;rw[d9 f] at j;rw[um g] at l;obtain⟨t,m,o⟩:=m9 j;rw[m,N6 l];replace c:=bn c;cases kb<;>first|exact cX c|skip
 .rw[<-ag c] at k;exact call_isinstance (isinstance_true uJ yr) ⟨typeIs_str s _ _,k _ _ (.bool _) (dc _)⟩
 .rw[<-ag c] at k;exact call_isinstance (isinstance_false_str (by decide) BD Ow) (k _ _ (.bool _) (di _))
theorem Ev{ds:List D}{d:D}{vs:List ai}(h:(Dr .issubclass ds).run=some d)(r:dj (bJ X s.heap) ts vs ds)(k:∀v i,Rd (bJ X i.heap) ts v d->Keeps s i->Q v i):an (model pw w) A (call (BI.val .issubclass) vs) Q bM s:=by refine Et h r λa b v u e m o h=>?_;refine bv h ?_;clear h;intro j p h;refine bv h ?_;clear h;intro x t h;refine iK h ?_;clear h;intro y z B h;refine bv h ?_;clear h;intro j f h;refine bv h ?_;clear h;intro j C h;rw[e];rw[<-ag h] at k;rw[show a=_ from vA (bn p)] at m;rw[show b=_ from ul (bn t),B,vA (bn f),Dq (bn C)] at o;rw[N6 m];obtain⟨G,c,n,f,g,j,q⟩:=VR o;obtain⟨H,I,l,E,F⟩:=Jk q;rw[N6 E,N6 F] at l;have e:c=#[.type "str",.type "bytes"]:=Array.toList_inj.mp l;rw[e] at g;rw[f];exact yw (bT g).1 (k _ _ (.bool _) (dc _))
theorem OA{ds:List D}{d:D}{vs:List ai}(h:(Dr .len ds).run=some d)(r:dj (bJ X s.heap) ts vs ds)(k:∀v j,Rd (bJ X j.heap) ts v d->Keeps s j->Q v j):an (model pw w) A (call (BI.val .len) vs) Q bM s:=by
 have z:br=16777216:=rfl;refine td h r λa v e i h=>?_;rw[e];cases c:je a with
 |some x=>rw[c] at h;rw[<-ag h] at k;rw[d9 c] at i;obtain⟨t,o,l⟩:=m9 i;rw[o];exact P.len_str (by rw[wi];omega) (k _ _ (.int _ _) ⟨_,_,rfl,λm m e=>e⟩)
 |none=>rw[c] at h;refine Eu h i λds u h=>?_;rw[<-ag h] at k;obtain⟨y,f,n,p,g,l,q⟩:=rA u;have b:=q.length;rw[aM] at b;rw[p];refine call_len_list (cy g) (by omega) ?_;rw[b];exact k _ _ (.int _ _) ⟨_,_,rfl,λm m e=>e⟩
theorem OB{ds:List D}{d:D}{vs:List ai}(h:(Dr .sum ds).run=some d)(r:dj (bJ X s.heap) ts vs ds)(p:A.handled=none)(k:∀v i,Rd (bJ X i.heap) ts v d->Keeps s i->Q v i):an (model pw w) A (call (BI.val .sum) vs) Q bM s:=by refine td h r λa v e x h=>Eu h x λds y h=>ct h λm h=>?_;rw[e];rw[<-ag h] at k;obtain⟨z,f,n,j,g,l,q⟩:=rA y;rw[j];obtain⟨o,c⟩:=Es q m;have b:AllInts _:=λv u=>o v (Array.mem_toList_iff.mpr u);obtain⟨xs,e⟩:=b.items;rw[e] at g c;rw[nums_intItems] at c;refine sum_intListG p (cy g) λh' tk t' t=>?_;rw[preSum_eq,List.take_of_length_le (by simp),c];exact k _ _ (.int _ _) ⟨_,_,rfl,t⟩
theorem OC{ds:List D}{d:D}{vs:List ai}(h:(Dr .chr ds).run=some d)(r:dj (bJ X s.heap) ts vs ds)(k:∀v c,Rd (bJ X c.heap) ts v d->Keeps s c->Q v c):an (model pw w) A (call (BI.val .chr) vs) Q bM s:=by have l:br=16777216:=rfl;refine td h r λa v e j h=>tf h j λi t g h=>ct h λb h=>bx b λb f=>?_;rw[e,g];rw[<-ag h] at k;replace b:=ar b;replace f:=ar f;refine P.chr_of_int ?_ (k _ _ (.str [i.toNat] _ (by show 1<=br;exact Nat.succ_pos _)) (di _));rw[aG (by exact Int.not_lt.mpr b),aG (by omega)];rfl
theorem Ew{ds:List D}{d:D}{vs:List ai}(h:(Dr .range ds).run=some d)(r:dj (bJ X s.heap) ts vs ds)(f:∀x∈X,(s.heap.get? x).isSome=true)(k:∀v n,Rd (bJ X n.heap) ts v d->Keeps s n->Q v n):an (model pw w) A (call (BI.val .range) vs) Q bM s:=by
 have y:br=16777216:=rfl;have h:(match one ds with
  |some a=>(T.opt (lS a)).bind λa=>T.chk (fN 0 a) (.ret (D.rng 0 a))
  |Option.none=>(T.opt (C6 ds)).bind λp=>(T.opt (lS p.1)).bind λa=>(T.opt (lS p.2)).bind λb=>T.chk (fN a b) (.ret (D.rng a b))).run=some d:=h
 cases l:one ds with
 |some a=>rw[l] at h;rw[pL l] at r;obtain⟨v,e,m⟩:=Jr r;refine tf h m λi t g h=>ct h λc h=>?_;rw[e,g];rw[<-ag h] at k;unfold fN at c;simp only[bf,decide_eq_true_eq] at c;exact call_range_1 (k _ _ (.rng (cc (aT _ rfl) (mu f (dJ (aF _)))) ⟨c.1.1.1.1,c.1.1.1.2,c.1.1.2,c.1.2,c.2⟩) lH)
 |none=>rw[l] at h;refine Et h r λa b v u e m q h=>tf h m λi t g h=>tf h q λj t2 o h=>ct h λc h=>?_;rw[e,g,o];rw[<-ag h] at k;unfold fN at c;simp only[bf,decide_eq_true_eq] at c;exact call_range_2 (k _ _ (.rng (cc (aT _ rfl) (mu f (dJ (aF _)))) ⟨c.1.1.1.1,c.1.1.1.2,c.1.1.2,c.1.2,c.2⟩) lH)
theorem Js{ds:List D}{d:D}{vs:List ai}(h:(Dr .type ds).run=some d)(r:dj (bJ X s.heap) ts vs ds)(k:∀v g,Rd (bJ X g.heap) ts v d->Keeps s g->Q v g):an (model pw w) A (call (BI.val .type) vs) Q bM s:=by
 refine td h r λa v e f h=>?_;rw[e];cases c:je a with
 |some x=>rw[c] at h;rw[<-ag h] at k;rw[d9 c] at f;obtain⟨t,b,l⟩:=m9 f;rw[b];exact rF (k _ _ (.bi .str rfl) (dc _))
 |none=>rw[c] at h;refine tf h f λi t b h=>?_;rw[<-ag h] at k;rw[b];exact rG (k _ _ (.bi .int rfl) (dc _))
set_option tactic.hygienic true in
theorem Jt{b:BI}{ds:List D}{d:D}{vs:List ai}(h:(Dr b ds).run=some d)(r:dj (bJ X s.heap) ts vs ds)(o:A.handled=none)(c:∀x∈X,(s.heap.get? x).isSome=true)
 (k:∀v j,Rd (bJ X j.heap) ts v d->Keeps s j->Q v j):an (model pw w) A (call b.val vs) Q bM s:=by
 cases b<;>first|exact cX h|skip
 case isinstance=>exact BE h r k
 case issubclass=>exact Ev h r k
 case len=>exact OA h r k
 case sorted=>
  refine td h r λa v e g h=>Eu h g λds q h=>ct h λf h=>bx f λf n=>?_;rw[e];rw[<-ag h] at k;exact wk f (ar n) q k c
 case sum=>exact OB h r o k
 case chr=>exact OC h r k
 case range=>exact Ew h r c k
 case type=>exact Js h r k
 case int=>
  refine td h r λa v e g h=>tf h g λi t l h=>?_;rw[e,l];rw[<-ag h] at k;exact call_int_int (k _ _ (.int i t) (dc _))
 case deque=>
  cases ds with
  |nil=>rw[WT r];rw[<-ag h] at k;exact yy λh' m p=>k _ _ (.deq (cc m (mu c (dJ (aF _))))) ⟨h',s.toks,rfl,p⟩
  |cons=>exact cX h
end
end
section
open Builtin Builtin.Str
def jY:List Nat->Nat->List bj
 |[],_=>[]
 |c::r,t=>⟨(c:Int),.int (c:Int) t,.str (S [92,c]) (t+4)⟩::jY r (t+6)
theorem Th(P:aw):(hT P).get? 173=some {cls:=.type "dict",data:=.dict ⟨jY eE 550⟩ 24}:=by kernel_rfl
theorem Ex:(jY eE 550).all (λe=>match e.key with|.int k _=>e.hash==hashInt k|_=>false)=true:=by decide+kernel
theorem wl{c:Nat}:∀{l:List Nat},iU c l=true↔c∈l
 |[]=>⟨λh=>(ab h).elim,λh=>nomatch h⟩
 |b::r=>by
  show(Nat.beq c b||iU c r)=true↔_;rw[Bool.or_eq_true,wl,ao];constructor
  .rintro(h|h)
   .exact .inl (au h)
   .exact .inr h
  .rintro(h|h)
   .exact .inl (by rw[h];exact Nat.beq_refl _)
   .exact .inr h
theorem qu(c:Nat):∀(l:List Nat) (t:Nat),(iU c l=true/\∃u v,(jY l t).find? (λe=>ai.isInt (c:Int) e.key)=some ⟨(c:Int),.int (c:Int) u,.str (S [92,c]) v⟩)\/(iU c l=false/\(jY l t).find? (λe=>ai.isInt (c:Int) e.key)=none)
 |[],t=>.inr ⟨rfl,rfl⟩
 |b::r,t=>by
  show((Nat.beq c b||iU c r)=true/\_)\/((Nat.beq c b||iU c r)=false/\_);by_cases h:c=b
  .subst h;refine .inl ⟨by rw[Nat.beq_refl];rfl,t,t+4,?_⟩;exact List.find?_cons_of_pos (by simp[ai.isInt])
  .have e:Nat.beq c b=false:=by
    cases q:Nat.beq c b with
    |false=>rfl
    |true=>exact aK (au q) h
   have a:(jY (b::r) t).find? (λe=>ai.isInt (c:Int) e.key)=(jY r (t+6)).find? (λe=>ai.isInt (c:Int) e.key):=
    List.find?_cons_of_neg (by simp[ai.isInt];omega)
   rw[e,Bool.false_or,a];exact qu c r (t+6)
theorem yC:isSubtype (.type "KeyError") (.type "LookupError")=pure true:=by rw[isSubtype_type];kernel_rfl
section
variable{w:aq}{A:aL}{E:ai->af->Prop}{s:af}
set_option tactic.hygienic true in
theorem Ey{h:Heap}(B:cT w h):h.MapOf (intKind pw w) 173 (λk=>findBy ai.isInt ⟨jY eE 550⟩ k):=
 ⟨_,_,_,B.keep _ _ (Th w.params) (by decide),⟨rfl,rfl,rfl⟩,rfl,(λe a=>by
   have:=aW.mp Ex e (Array.mem_toList_iff.mpr a)
   split at this
   .rename_i k t b;exact⟨k,by rw[b];simp[intKind,ai.isInt],eq_of_beq this⟩
   .cases this),λk=>rfl⟩
theorem Ez{c:Nat}{Q:Mapped->af->Prop}(B:cT w s.heap)(b:iU c eE=true)(q:∀s',Keeps s s'->Q (.text (S [92,c])) s'):an (model pw w) A (tableLookup (.ref 173) c) Q E s:=by
 rcases qu c eE 550 with⟨_,u,v,d⟩|⟨a,_⟩
 .unfold tableLookup;refine ah (wpAny_attempt (ah (wpAny_mkInt (wpAny_getItem_of (s:={s with toks:=s.toks+1}) (knd:=intKind pw w) (k:=(c:Int)) (by simp[intKind,ai.isInt]) (Ey (h:=s.heap) B) (v:=.str (S [92,c]) v) ?_ ?_))))
  .show findBy _ _ _=_;unfold findBy;rw[<-Array.find?_toList,d];rfl
  .repeat (any_goals (first|assumption|wp_step))
   exact q _ ⟨_,_,rfl,λf f e=>e⟩
 .rw[b] at a;cases a
theorem Aa{c:Nat}{Q:Mapped->af->Prop}(B:cT w s.heap)(i:A.handled=none)(f:iU c eE=false)(q:∀s',Keeps s s'->Q .keep s'):an (model pw w) A (tableLookup (.ref 173) c) Q E s:=by
 rcases qu c eE 550 with⟨b,_⟩|⟨_,g⟩
 .rw[f] at b;cases b
 .unfold tableLookup;refine ah (wpAny_attempt (ah (wpAny_mkInt (wpAny_getItem_missing_of (s:={s with toks:=s.toks+1}) (knd:=intKind pw w) (k:=(c:Int)) (by simp[intKind,ai.isInt]) (by decide) i (Ey (h:=s.heap) B) ?_ λh' e d=>?_))))
  .show findBy _ _ _=_;unfold findBy;rw[<-Array.find?_toList,g];rfl
  .obtain⟨ob,t,j,a,l⟩:=d.there;have hT:∀tk,(⟨h',s.gens,s.drawn,tk,s.os⟩:af).TypeIs (.ref e) "KeyError":=λl=>⟨ob,j,a⟩;have m:isSubtype ob.cls (.type "LookupError")=pure true:=by rw[a];exact yC
   repeat (any_goals (first|assumption|exact hT _|wp_step))
   exact q _ ⟨h',_,rfl,d.keeps⟩
theorem Ni{s s1 c:af}(a:Keeps s s1)(b:Keeps s1 c):Keeps s c:=by obtain⟨h,t1,rfl,f⟩:=a;obtain⟨d,t2,rfl,g⟩:=b;exact⟨d,t2,rfl,λb o e=>g b o (f b o e)⟩
theorem OD{s s1:af}(B:cT w s.heap)(a:Keeps s s1):cT w s1.heap:=by obtain⟨c,t1,rfl,b⟩:=a;exact B.keeps b
theorem OE{x:List Nat}{t:Tok}{Q:ai->af->Prop}(B:cT w s.heap)(j:A.handled=none)(k:x.length=1)(q:∀t' s',Keeps s s'->Q (.str (S (mZ x)) t') s'):an (model pw w) A (call (.builtin "str.translate") [.str (S x) t,.ref 173]) Q E s:=by
 obtain⟨c,rfl⟩:∃c,x=[c]:=by
  cases x with
  |nil=>cases k
  |cons c r=>cases r with
   |nil=>exact⟨c,rfl⟩
   |cons _ _=>cases k
 refine wpAny_call_entry F.slot_str_translate (typeIs_str _ _ _) F.entry_str_translate ?_ (F.args_str_translate_2 _ _);unfold Builtin.«str.translate»;refine ah (wpAny_of_eq (a:=(.str (S [c]) t,S [c],.ref 173)) (by first|rfl|kernel_rfl) ?_);dsimp only;rw[av (show ¬(((S [c]).length==0)=true) from ab)];have f:(S [c]).cps.all (λx=>decide (x<128))=decide (c<128):=by simp[S]
 rw[f,<-Array.forIn_toList];show an _ _ (forIn [c] _ _>>=_) _ _ _;simp only[List.forIn_cons,List.forIn_nil];have m:tooLong 0=false:=rfl;have fin:∀(y:List Nat) (s':af),mZ [c]=y->y.length<=2->Keeps s s'->an (model pw w) A.in1 (retStr (S y)) (λfin s'=>∃v,fin=.done (.ret v)/\Q v s') E s':=λy s' e o ks=>by
  subst e;have n:(S (mZ [c])).length<=sizeLine:=by rw[wi,bu];show _<=16777216;exact aj o (aB _ _)
  repeat (any_goals (first|assumption|wp_step))
  exact⟨_,rfl,q _ _ (Ni ks (di _))⟩
 have l:iU c eE=true->mZ [c]=[92,c]:=λh=>by show(match iU c eE with|true=>[92,c]|false=>[c])++[]=_;rw[h];rfl
 have i:iU c eE=false->mZ [c]=[c]:=λh=>by show(match iU c eE with|true=>[92,c]|false=>[c])++[]=_;rw[h];rfl
 simp only[m,Bool.false_eq_true,if_false];cases b:iU c eE with
 |true=>
  have g:c<128:=by
   have:∀x∈eE,x<128:=by decide
   exact this c (wl.mp b)
  rw[ac g];simp only[if_true,List.lookup_nil];refine ah (ah (ah (Ez B b λs1 d=>?_)));simp only[show((S [92,c]).length==1)=false from rfl,Bool.false_and,Bool.false_eq_true,if_false];refine ah (ay (ah (wpAny_rule (ah (Ez (OD B d) b λu p=>?_)))));refine ay (ay ?_);simp only[show tooLong (0+(S [92,c]).length)=false from rfl,Bool.false_eq_true,if_false];exact fin [92,c] u (l b) (aF _) (Ni d p)
 |false=>
  by_cases g:c<128
  .rw[ac g];simp only[if_true,List.lookup_nil];refine ah (ah (ah (Aa B j b λs1 d=>?_)));dsimp only;refine ah (ay (ay (ay ?_)));simp only[show tooLong (0+1)=false from rfl,Bool.false_eq_true,if_false];exact fin [c] s1 (i b) (by show 1<=2;exact Nat.le_succ _) d
  .rw[aG g];simp only[Bool.false_eq_true,if_false];refine ah (ah (ah (Aa B j b λs1 d=>?_)));refine ay (ay ?_);simp only[show tooLong (0+1)=false from rfl,Bool.false_eq_true,if_false];exact fin [c] s1 (i b) (by show 1<=2;exact Nat.le_succ _) d
end
end
section
open Builtin Builtin.Str
theorem qw:("startswith":Str)=S lX:=by decide+kernel
theorem uR:("endswith":Str)=S pN:=by decide+kernel
theorem BF:("rfind":Str)=S zI:=by decide+kernel
theorem yD:("rstrip":Str)=S vB:=by decide+kernel
theorem BG:("split":Str)=S gS:=by decide+kernel
theorem EA:("join":Str)=S fj:=by decide+kernel
theorem wm:("replace":Str)=S cR:=by decide+kernel
theorem rL:("translate":Str)=S oo:=by decide+kernel
theorem wn(c:Nat):∀(l:List Nat),l.drop (l.takeWhile (λx=>x==c)).length=lW c l
 |[]=>rfl
 |a::r=>by
  rw[zF];cases e:Nat.beq a c with
  |true=>
   have h:(a==c)=true:=by rw[beq_iff_eq];exact au e
   rw[List.takeWhile_cons,h];exact wn c r
  |false=>
   have h:(a==c)=false:=by rw[beq_eq_false_iff_ne];rintro rfl;rw[Nat.beq_refl] at e;cases e
   rw[List.takeWhile_cons,h];rfl
theorem EB(x:List Nat)(c:Nat):Txt.rstripChars (S x) (S [c])=S (gb c x):=by
 show Txt.stripBy _ false true (S x)=_;rw[PyProof.Rows.stripBy_eq];have b:(S [c]).cps.contains=λz=>z==c:=by funext z;show(#[c]:Array Nat).contains z=_;simp;exact Bool.eq_iff_iff.mpr (aZ.trans beq_iff_eq.symm)
 rw[b];show strSub (S x) 0 (x.length-((x.drop 0).reverse.takeWhile λz=>z==c).length)=_;rw[List.drop_zero];have a:=wn c x.reverse;revert a;refine xt ((x.reverse.takeWhile λz=>z==c).length) λk d=>?_;intro a;have e:(⟨x⟩:Array Nat).extract 0 (x.length-k)=⟨x.take (x.length-k)⟩:=by apply Array.toList_inj.mp;rw[Array.toList_extract];show List.extract x 0 (x.length-k)=_;rw[List.extract_eq_take_drop,List.drop_zero,Nat.sub_zero]
 show Str.mk ((⟨x⟩:Array Nat).extract 0 (x.length-k))=Str.mk ⟨gb c x⟩;rw[e];unfold gb;rw[<-a,List.drop_reverse,List.reverse_reverse]
theorem jp(c:Nat):∀x,(cn c x).length<=x.length+1
 |[]=>aF _
 |a::r=>by
  have b:=jp c r;rw[gs];cases Nat.beq a c with
  |true=>simp only[aC];exact Nat.lt_succ_of_le b
  |false=>obtain⟨p,q,e⟩:=iX c r;dsimp only;rw[e] at b⊢;simp only[aC] at b⊢;exact Nat.lt_succ_of_lt b
theorem mv(c:Nat):∀(x:List Nat),∀p∈cn c x,p.length<=x.length
 |[],p,b=>by rw[show cn c []=[[]] from rfl,az] at b;rw[b];exact Nat.zero_le _
 |a::r,p,b=>by
  have d:=mv c r;rw[gs] at b;cases e:Nat.beq a c with
  |true=>
   rw[e] at b;rcases ao.mp b with f|b
   .rw[f];exact Nat.zero_le _
   .exact Nat.le_succ_of_le (d p b)
  |false=>
   rw[e] at b;obtain⟨q,t,g⟩:=iX c r;rw[g] at b d;rcases ao.mp b with f|b
   .rw[f];exact Nat.succ_le_succ (d q (.head _))
   .exact Nat.le_succ_of_le (d p (.tail _ b))
theorem oA(s:List Nat):∀ps:List (List Nat),(ps.map List.length).sum+ps.length*s.length<=(bA s ps).length+s.length
 |[]=>by show 0+0*s.length<=_;rw[Nat.zero_mul];exact Nat.zero_le _
 |[p]=>by show p.length+0+1*s.length<=p.length+s.length;rw[Nat.one_mul];exact aF _
 |p::q::r=>by have a:=oA s (q::r);show _<=(p++s++bA s (q::r)).length+s.length;simp only[List.map_cons,List.sum_cons,aC,ae] at a⊢;rw[Nat.succ_mul];exact ir a
section
variable{w:aq}{A:aL}{s:af}{X:List Addr}{ts:Tb}{Q:ai->af->Prop}
theorem wo{l:List (Str×Tok)}{a:List Str}(h:l.map (·.1)=a):StrsAre (strValues l) a:=by
 subst h
 induction l with
 |nil=>exact .nil
 |cons p r b=>exact .cons _ _ b
theorem oB:∀{vs:List ai} {a:List Str},StrsAre vs a->∃l:List (Str×Tok),vs=strValues l/\l.map (·.1)=a
 |_,_,.nil=>⟨[],rfl,rfl⟩
 |_,_,.cons x t h=>by obtain⟨l,b,c⟩:=oB h;exact⟨(x,t)::l,by rw[b];rfl,by rw[<-c];rfl⟩
theorem yE{x:List Nat}{c:Nat}{t u:Tok}(h:x.length<br)(d:∀x∈X,(s.heap.get? x).isSome=true)(k:∀v n,Rd (bJ X n.heap) ts v (.list ((cn c x).map .str))->Keeps s n->Q v n):
 an (model pw w) A (call (.builtin "str.split") [.str (S x) t,.str (S [c]) u]) Q bM s:=by
 have q:br=16777216:=rfl;have a:=jp c x;have j:=mv c x;have m:=mu d (dJ (aF s.heap.objs.size));have mk:∀(l:List (Str×Tok)) (tk:Nat),l.map (·.1)=Txt.split (S x) (S [c])->Q (.ref s.heap.objs.size) {s with heap:=s.heap.push {cls:=.type "list",data:=.seq (strValues l).toArray},toks:=tk}:=λl tk e=>by rw[uI] at e;have o:=ms (g:=bJ X (s.heap.push {cls:=.type "list",data:=.seq (strValues l).toArray})) (ts:=ts) (wo e) λy i=>aj (j y i) (by exact Nat.le_of_lt h);refine k _ _ (.list (cc (aT _ rfl) m) ?_ o) lH;have:=o.length;rw[ak] at this;show(strValues l).toArray.size<=br;rw[List.size_toArray,this];exact aj a h
 have i:((S [c]).length==0)=false:=rfl;cases b:(decide ((S x).length<(S [c]).length)||decide (strKind (S x)<strKind (S [c])))
 .cases f:(occurrences (S x) (S [c]) 0 (S x).length ((S x).length+1)).isEmpty
  .have e:Txt.split (S x) (S [c])=partsBetween (S x) (occurrences (S x) (S [c]) 0 (S x).length ((S x).length+1)) (S [c]).length:=by unfold Txt.split;rw[b,f];rfl
   have p:(partsBetween (S x) (occurrences (S x) (S [c]) 0 (S x).length ((S x).length+1)) (S [c]).length).length<=sizeLine:=by rw[<-e,uI,ak,bu];exact aj a h
   refine call_meets F.slot_str_split (typeIs_str _ _ _) F.entry_str_split (F.args_str_split_2 _ _) (meets_str_split_sep _ _ t u b i f (by rw[wi,bu];exact Nat.le_of_lt h) p) ?_;show Q _ _;rw[strsFrom_eq];exact mk _ _ ((numbered_texts _ _).trans e.symm)
  .have e:Txt.split (S x) (S [c])=[S x]:=by unfold Txt.split;rw[b,f];rfl
   exact call_meets F.slot_str_split (typeIs_str _ _ _) F.entry_str_split (F.args_str_split_2 _ _) (meets_str_split_not_found _ _ t u b i f) (mk [(S x,t)] _ e.symm)
 .have e:Txt.split (S x) (S [c])=[S x]:=by unfold Txt.split;rw[b];rfl
  exact call_meets F.slot_str_split (typeIs_str _ _ _) F.entry_str_split (F.args_str_split_2 _ _) (meets_str_split_cannot_occur _ _ t u b) (mk [(S x,t)] _ e.symm)
theorem wp{x:List Nat}{ys:List (List Nat)}(h:(bA x ys).length+x.length<=br):JoinOk (S x) (ys.map S)=true:=by
 unfold JoinOk;rw[aN];have b:=oA x ys;have e:(ys.map S).toArray.foldl (λa p=>a+p.length+(S x).length) 0=(ys.map List.length).sum+ys.length*x.length:=by rw[StrLaws.joinTotal,aQ,ak];rfl
 show tooLong ((ys.map S).toArray.foldl (λa p=>a+p.length+(S x).length) 0)=false;rw[e];show decide (_>sizeLine)=false;rw[bu];exact aG (by exact Nat.not_lt_of_le (k9 h b))
theorem EC{a:Str}{id:String}{m:Nm}{x:List Nat}{t:Tok}{pos:Pos}{as:List (Sem ai)}(c:Slot "str" a id)(d:typeOf (.builtin id)=pure (.type "method_descriptor"))(b:a=S m)
 (h:fo w A as (λvs s1=>an (model pw w) A (call (.builtin id) (.str (S x) t::vs)) Q bM s1) s):MethodOnS pw w A bM (S m) (.str (S x) t) pos (pl as) Q s:=by
 rw[<-b];exact⟨"str",id,F.plainAttrs_str,c,d,typeIs_str _ _ _,(λf e=>nomatch e),uQ h⟩
theorem tg(c:Nat):∀l,(lW c l).length<=l.length
 |[]=>aF _
 |a::r=>by
  rw[zF];cases Nat.beq a c with
  |true=>exact Nat.le_succ_of_le (tg c r)
  |false=>exact aF _
theorem yF(c:Nat)(x:List Nat):(gb c x).length<=x.length:=by unfold gb;rw[List.length_reverse];exact aj (tg c _) (aO List.length_reverse)
theorem th(c:Nat)(y:List Nat):∀x,(cB c y x).length<=x.length+x.length*y.length
 |[]=>Nat.zero_le _
 |a::r=>by
  have b:=th c y r;rw[un];cases Nat.beq a c with
  |true=>simp only[ae,aC,Nat.succ_mul];exact ir b
  |false=>simp only[aC,Nat.succ_mul];exact ir b
def Nj(w:aq)(X:List Addr)(ts:Tb)(m:Nm)(ds:List D)(d:D)(Q:ai->af->Prop)(vs:List ai)(s1:af):Prop:=cT w s1.heap/\dj (bJ X s1.heap) ts vs ds/\(∀x∈X,(s1.heap.get? x).isSome=true)/\0<s1.toks/\(cr m cR=true->DM vs)/\∀v a,Rd (bJ X a.heap) ts v d->Keeps s1 a->Q v a
section
variable{x:List Nat}{m n:Nm}{d a:D}{pos:Pos}{as:List (Sem ai)}{t:Tok}
theorem yG{f:Str}{id:String}(i:fo w A as (Nj w X ts m [a] d Q) s)(k:Slot "str" f id)(l:typeOf (.builtin id)=pure (.type "method_descriptor"))(g:cr m n=true)(h:f=S n)
 (q:∀b s1,Rd (bJ X s1.heap) ts b a->cT w s1.heap->(∀x∈X,(s1.heap.get? x).isSome=true)->(∀v c,Rd (bJ X c.heap) ts v d->Keeps s1 c->Q v c)->an (model pw w) A (call (.builtin id) [.str (S x) t,b]) Q bM s1):MethodOnS pw w A bM (S m) (.str (S x) t) pos (pl as) Q s:=by
 rw[dW g];refine EC k l h (i.mono λvs s1 p=>?_);obtain⟨b,e,j⟩:=Jr p.2.1;rw[e];exact q b s1 j p.1 p.2.2.1 p.2.2.2.2.2
theorem WU{c:Nat}(h:(X6 x m c).run=some d)(i:x.length<=br)(g:fo w A as (Nj w X ts m [.str [c]] d Q) s):MethodOnS pw w A bM (S m) (.str (S x) t) pos (pl as) Q s:=by
 refine IG h (λe h=>?_) λb h=>IG h (λe h=>?_) λb h=>dz h λe h=>ct h λl h=>?_
 .refine yG g F.slot_str_rfind F.type_str_rfind e BF λj s1 r B a k=>?_;obtain⟨u,f,b⟩:=m9 r;rw[f];rw[<-ag h] at k;exact SC.rfind (by rw[Jq];exact k _ _ (.int _ _) (di _))
 .refine yG g F.slot_str_rstrip F.type_str_rstrip e yD λj s1 r B a k=>?_;obtain⟨u,f,b⟩:=m9 r;rw[f];rw[<-ag h] at k;exact SC.rstripChars (λt' kk=>by rw[EB];exact k _ _ (.str _ _ (aj (yF c x) i)) ⟨_,_,rfl,λb b e=>e⟩) (by rw[wi,bu];exact i)
 .refine yG g F.slot_str_split F.type_str_split e BG λj s1 r B a k=>?_;obtain⟨u,f,b⟩:=m9 r;rw[f];rw[<-ag h] at k;exact yE (ar l) a k
theorem WV{y:List Nat}(h:(X7 x m y).run=some d)(i:x.length<=br)(b:fo w A as (Nj w X ts m [.str y] d Q) s):MethodOnS pw w A bM (S m) (.str (S x) t) pos (pl as) Q s:=by
 refine IG h (λe h=>?_) λg h=>IG h (λe h=>?_) λg h=>jJ h λc e h=>?_
 .refine yG b F.slot_str_startswith F.type_str_startswith e qw λj s1 r B a k=>?_;obtain⟨u,f,g⟩:=m9 r;rw[f];rw[<-ag h] at k;exact SC.startswith (by rw[uF];exact k _ _ (.bool _) (dc _))
 .refine yG b F.slot_str_endswith F.type_str_endswith e uR λj s1 r B a k=>?_;obtain⟨u,f,g⟩:=m9 r;rw[f];rw[<-ag h] at k;exact SC.endswith (by rw[yq];exact k _ _ (.bool _) (dc _))
 .rw[e] at b;exact WU h i b
theorem WW{ys:List D}(h:(X8 x m ys).run=some d)(o:fo w A as (Nj w X ts m [.list ys] d Q) s):MethodOnS pw w A bM (S m) (.str (S x) t) pos (pl as) Q s:=by refine dz h ?_;clear h;intro e h;refine ct h ?_;clear h;intro b h;refine bx b ?_;clear b;intro b c;replace c:=ar c;refine yG o F.slot_str_join F.type_str_join e EA λz s1 r B i k=>?_;obtain⟨p,a,y,j,g,l,q⟩:=rA r;rw[j];obtain⟨u,ev,n⟩:=oB (wj q b).1;have f:s1.heap.IsList p a:=cy g;rw[show a=(strValues u).toArray from by rw[<-ev]] at f;refine SC.join f n (wp c) λt' kk=>?_;rw[Er];rw[<-ag h] at k;exact k _ _ (.str _ _ (aj (ba _ _) c)) ⟨_,_,rfl,λv v e=>e⟩
theorem WX{r:Addr}(h:(X9 x m r).run=some d)(g:A.handled=none)(i:fo w A as (Nj w X ts m [.raw r] d Q) s):MethodOnS pw w A bM (S m) (.str (S x) t) pos (pl as) Q s:=by refine dz h ?_;clear h;intro e0 h;refine bx e0 ?_;clear e0;intro e0 e;refine ct h ?_;clear h;intro a h;replace a:=ar a;refine yG i F.slot_str_translate F.type_str_translate e rL λj s1 r B b k=>?_;rw[WJ r,au e0];rw[<-ag h] at k;refine OE B g a λt' s' ks=>k _ _ (.str _ _ ?_) ks;obtain⟨c,f⟩:=List.length_eq_one_iff.mp a;rw[f];show((match iU c eE with|true=>[92,c]|false=>[c])++[]).length<=br;cases iU c eE<;>(show _<=16777216;simp)
theorem WY(h:(WF x m a).run=some d)(g:A.handled=none)(i:x.length<=br)(b:fo w A as (Nj w X ts m [a] d Q) s):MethodOnS pw w A bM (S m) (.str (S x) t) pos (pl as) Q s:=by
 unfold WF at h;cases e:je a with
 |some y=>rw[e] at h;rw[d9 e] at b;exact WV h i b
 |none=>
  rw[e] at h;dsimp only at h;cases c:rZ a with
  |some ys=>rw[c] at h;rw[gE c] at b;exact WW h b
  |none=>rw[c] at h;refine bv h ?_;clear h;intro r f h;rw[pC (bn f)] at b;exact WX h g b
theorem WZ{b:D}(h:(Ya x m a b).run=some d)(l:fo w A as (Nj w X ts m [a,b] d Q) s):MethodOnS pw w A bM (S m) (.str (S x) t) pos (pl as) Q s:=by refine gF h ?_;clear h;intro u n h;refine jJ h ?_;clear h;intro c o h;refine gF h ?_;clear h;intro y q h;refine dz h ?_;clear h;intro e0 h;refine bx e0 ?_;clear e0;intro e0 j;refine ct h ?_;clear h;intro f h;rw[aN] at j;replace f:=ar f;rw[n,o,q] at l;refine EC F.slot_str_replace F.type_str_replace (by rw[dW e0];exact wm) (l.mono λvs s1 p=>?_);obtain⟨H,I,r,E,G⟩:=Jk p.2.1;obtain⟨t1,v,i⟩:=m9 E;obtain⟨t2,z,i⟩:=m9 G;have tk:=p.2.2.2.2.1 e0;rw[r,v,z] at tk⊢;obtain⟨B,C,g⟩:=tk _ _ _ _ rfl;refine SC.replace B C g (by rw[sk];exact j) f λt' kk=>?_;rw[BC];have k:=p.2.2.2.2.2;rw[<-ag h] at k;refine k _ _ (.str _ _ ?_) ⟨_,_,rfl,λi i e=>e⟩;have:=th c y x;rw[Nat.succ_mul] at f;exact k9 f this
theorem ED{ds:List D}(h:(SU x m ds).run=some d)(g:A.handled=none)(i:x.length<=br)
 (c:fo w A as (λvs s1=>cT w s1.heap/\dj (bJ X s1.heap) ts vs ds/\(∀x∈X,(s1.heap.get? x).isSome=true)/\0<s1.toks/\(cr m cR=true->DM vs)/\∀v f,Rd (bJ X f.heap) ts v d->Keeps s1 f->Q v f) s):
 MethodOnS pw w A bM (S m) (.str (S x) t) pos (pl as) Q s:=by
 replace c:fo w A as (Nj w X ts m ds d Q) s:=c;unfold SU at h;cases e:one ds with
 |some a=>rw[e] at h;rw[pL e] at c;exact WY h g i c
 |none=>rw[e] at h;refine iK h ?_;clear h;intro a b e h;rw[e] at c;exact WZ h c
end
end
end
section
open Builtin Builtin.Str
def cI:Array Nat:=#[14,17,4,1,1,21,9,0,604043296,1,0,0,0,0,0,8,4,0,13,14,21,9,0,604043296,1,0,0,0,0,0,8,4,0,1]
def eX(c:Nat):Bool:=(decide (c<256)&&(cI.getD (6+(1+c/32)) 0).testBit (c%32))||Sre.isWord c
theorem OF(c:Nat)(a:Sre.Seen):∃b,Sre.inSet cI c cI.size 5 true a=.ok (!eX c,b):=by
 unfold eX;by_cases d:(decide (c<256)&&(cI.getD (6+(1+c/32)) 0).testBit (c%32))=true
 .rw[d];apply Exists.intro;show(if(decide (c<256)&&(cI.getD (6+(1+c/32)) 0).testBit (c%32))=true then _ else _)=_;rw[aH d];rfl
 .rw[Bool.not_eq_true] at d;rw[d,Bool.false_or];have step:∀a,Sre.inSet cI c cI.size 5 true a=Sre.inSet cI c 31 15 false ((a.add 21).add 9):=λa=>by show(if(decide (c<256)&&(cI.getD (6+(1+c/32)) 0).testBit (c%32))=true then _ else _)=_;rw[av (by rw[d];exact ab)];rfl
  rw[step];generalize (a.add 21).add 9=sn;have e:Sre.inSet cI c 31 15 false sn=Except.bind (Sre.category 4 c) (λy=>if y=true then pure (false,(sn.add 8).add (55+4)) else Sre.inSet cI c 30 17 false ((sn.add 8).add (55+4))):=rfl;have f:Sre.category 4 c=.ok (Sre.isWord c != false):=rfl;rw[e,f];cases g:Sre.isWord c with
  |true=>exact⟨_,rfl⟩
  |false=>exact⟨_,rfl⟩
def iO:Option Obj->Array ai
 |some ⟨_,_,.fields vs,_⟩=>vs
 |_=>#[]
def ti:Option Obj->Array ai
 |some ⟨_,_,.seq vs _,_⟩=>vs
 |_=>#[]
def Ju:Option Obj->Nat
 |some ⟨_,_,.seq _ n,_⟩=>n
 |_=>0
theorem Ti(P:aw):(hT P).get? 195=some {cls:=.type "re.Pattern",data:=.fields (iO ((hT P).get? 195))}:=by kernel_rfl
theorem OG(P:aw):(iO ((hT P).get? 195)).getD 6 .none=.int 0 0:=by kernel_rfl
theorem OH(P:aw):(iO ((hT P).get? 195)).getD 5 .none=.ref 194:=by kernel_rfl
theorem OI(P:aw):(iO ((hT P).get? 195)).getD 2 .none=.int 0 0:=by kernel_rfl
theorem W0(P:aw):(hT P).get? 194=some {cls:=.type "tuple",data:=.seq (ti ((hT P).get? 194)) (Ju ((hT P).get? 194))}:=by kernel_rfl
theorem Tj(P:aw):((ti ((hT P).get? 194)).map Re.reRawOf).map (·.toNat)=cI:=by kernel_rfl
theorem Tl(P:aw):(hT P).get? 891=some {cls:=.type "builtin_function_or_method",data:=.fields #[.builtin "re.Pattern.search",.ref 195]}:=by kernel_rfl
theorem OJ:isSubtype (.type "re.Pattern") (.type "module")=pure false:=by rw[isSubtype_type];kernel_rfl
theorem OK:isSubtype (.type "re.Pattern") (.type "type")=pure false:=by rw[isSubtype_type];kernel_rfl
theorem uS:entryFor table "re.Pattern.search"=some Builtin.«re.Pattern.search»:=entryFor_of_tree (by kernel_rfl)
section
variable{w:aq}{A:aL}{s:af}{X:List Addr}{ts:Tb}{Q:ai->af->Prop}
abbrev Tm(x:List Nat)(t:Tok):Re.ReTarget:={pattern:=.ref 195,string:=.str (S x) t,code:=cI,text:=⟨x⟩,kind:=0,groups:=0,pos:=min (Int.toNat 0) x.length,lim:=min (2^63-1:Int).toNat x.length}
theorem OL{x:List Nat}{t:Tok}{E:ai->af->Prop}{Q:Re.ReTarget->af->Prop}(B:cT w s.heap)(q:Q (Tm x t) s):an (model pw w) A (Re.reTarget "re.Pattern.search" "search" ⟨[.ref 195,.str (S x) t],[]⟩) Q E s:=by
 obtain⟨h,g,d,tk,os⟩:=s;have b:=B.keep _ _ (Ti w.params) (by decide);have a:=B.keep _ _ (W0 w.params) (by decide);have f:=OG w.params;have e:=OH w.params;have c:=OI w.params;have i:=Tj w.params;dsimp only at a b;generalize iO ((hT w.params).get? 195)=fs at b f e c;generalize ti ((hT w.params).get? 194)=cs at a i;generalize Ju ((hT w.params).get? 194)=ep at a;have j:Re.reNamed "re.Pattern.search" "search" ["string","pos","endpos"] 1 [.str (S x) t] []=pure [some (.str (S x) t),none,none]:=by first|rfl|kernel_rfl
 unfold Re.reTarget;dsimp only;rw[j]
 repeat (any_goals (first|assumption|wp_step))
 rw[f,e,c];rw[av (show ¬((Re.reRawNat (.int 0 0)==1&&((S x).cps,0).snd==0)=true) from ab)]
 repeat (any_goals (first|assumption|wp_step))
 rw[show((some cs).getD #[])=cs from rfl,i];exact q
theorem EE(c:Nat)(a:Sre.Seen):∃b,Sre.inSet cI c cI.size 20 true a=.ok (!eX c,b):=by
 unfold eX;by_cases d:(decide (c<256)&&(cI.getD (6+(1+c/32)) 0).testBit (c%32))=true
 .have e:c<256:=ar (Bool.and_eq_true_iff.mp d).1;have e0:cI.getD (21+(1+c/32)) 0=cI.getD (6+(1+c/32)) 0:=by
   have:∀k,k<8->cI.getD (21+(1+k)) 0=cI.getD (6+(1+k)) 0:=by decide
   exact this (c/32) (Nat.div_lt_of_lt_mul e)
  rw[d];apply Exists.intro;show(if(decide (c<256)&&(cI.getD (21+(1+c/32)) 0).testBit (c%32))=true then _ else _)=_;rw[e0,aH d];rfl
 .rw[Bool.not_eq_true] at d;have f:(decide (c<256)&&(cI.getD (21+(1+c/32)) 0).testBit (c%32))=false:=by
   by_cases e:c<256
   .have e0:cI.getD (21+(1+c/32)) 0=cI.getD (6+(1+c/32)) 0:=by
     have:∀k,k<8->cI.getD (21+(1+k)) 0=cI.getD (6+(1+k)) 0:=by decide
     exact this (c/32) (Nat.div_lt_of_lt_mul e)
    rw[e0];exact d
   .rw[aG e];rfl
  rw[d,Bool.false_or];have step:∀a,Sre.inSet cI c cI.size 20 true a=Sre.inSet cI c 32 30 false ((a.add 21).add 9):=λa=>by show(if(decide (c<256)&&(cI.getD (21+(1+c/32)) 0).testBit (c%32))=true then _ else _)=_;rw[av (by rw[f];exact ab)];rfl
  rw[step];generalize (a.add 21).add 9=sn;have g:Sre.inSet cI c 32 30 false sn=Except.bind (Sre.category 4 c) (λy=>if y=true then pure (false,(sn.add 8).add (55+4)) else Sre.inSet cI c 31 32 false ((sn.add 8).add (55+4))):=rfl;have h:Sre.category 4 c=.ok (Sre.isWord c != false):=rfl;rw[g,h];cases i:Sre.isWord c with
  |true=>exact⟨_,rfl⟩
  |false=>exact⟨_,rfl⟩
theorem Yf{x:List Nat}{m:Sre.M}(k:m.code=cI)(l:m.text=⟨x⟩)(j:m.lim=x.length):∀(c sp:Nat) (b:Sre.Seen),x.length+1<=sp+c->
 (∃a,Sre.M.admitted m c sp b=.ok (none,a)/\(x.drop sp).all eX=true)\/(∃p a,Sre.M.admitted m c sp b=.ok (some p,a)/\p<x.length/\eX (x.getD p 0)=false/\(x.drop sp).all eX=false)
 |0,sp,b,h=>by refine .inl ⟨b,rfl,?_⟩;rw[List.drop_eq_nil_of_le (by exact Nat.le_of_succ_le h)];rfl
 |c+1,sp,b,h=>by
  unfold Sre.M.admitted;by_cases g:sp>=m.lim
  .rw[aH g];refine .inl ⟨b,rfl,?_⟩;rw[List.drop_eq_nil_of_le (by exact aj (aO j.symm) g)];rfl
  .rw[av g,k,l];have d:sp<x.length:=by exact k9 (aO j) (Nat.lt_of_not_le g)
   have e:(⟨x⟩:Array Nat).getD sp 0=x.getD sp 0:=(PyProof.Rows.getD_list (S x) sp).symm;obtain⟨a,n⟩:=OF (x.getD sp 0) b;rw[e,n];have i:x.drop sp=x.getD sp 0::x.drop (sp+1):=by rw[List.drop_eq_getElem_cons d];congr 1;simp[List.getD,aD d]
   cases f:eX (x.getD sp 0) with
   |true=>
    rcases Yf k l j c (sp+1) a (by exact by rw[Nat.succ_add];exact h) with⟨s2,h1,h2⟩|⟨p,s2,h1,h2,h3,h4⟩
    .exact .inl ⟨s2,h1,by rw[i,List.all_cons,f,h2];rfl⟩
    .exact .inr ⟨p,s2,h1,h2,h3,by rw[i,List.all_cons,h4,Bool.and_false]⟩
   |false=>exact .inr ⟨sp,a,rfl,d,f,by rw[i,List.all_cons,f];rfl⟩
theorem kN{N:Nat}{m:Sre.M}(h:(m.runFor 4).outcome.isSome=true){E:ai->af->Prop}{Q:Sre.M->af->Prop}(q:Q (m.runFor 4) s):an (model pw w) A (Re.reDrive (N+1) m) Q E s:=by unfold Re.reDrive;show an _ _ (if(m.runFor 4).outcome.isSome=true then _ else _) _ _ _;rw[aH h];exact ay q
theorem nt{E:ai->af->Prop}{Q:PUnit->af->Prop}(f:Nat->Bool)(g:Nat->String)(q:Q ⟨⟩ s):∀l:List Nat,an (model pw w) A (forIn l PUnit.unit (λi b=>if f i=true then do rule (g i);pure (ForInStep.yield PUnit.unit) else pure (ForInStep.yield PUnit.unit))) Q E s
 |[]=>by rw[List.forIn_nil];exact ay q
 |a::r=>by
  rw[List.forIn_cons];refine ah ?_;cases f a with
  |true=>exact ah (wpAny_rule (ay (nt f g q r)))
  |false=>exact ay (nt f g q r)
theorem Tn:(2:Nat)^64=18446744073709551614+1+1:=by decide
theorem uT{m m':Sre.M}{E:ai->af->Prop}{Q:Option Sre.M->af->Prop}(h:∀a:Sre.M->af->Prop,a m' s->an (model pw w) A (Re.reDrive (18446744073709551614+1+1) m) a E s)
 (q:(m'.outcome=some .matched/\Q (some m') s)\/(m'.outcome=some .failed/\Q none s)):an (model pw w) A (Re.reRunToEnd m) Q E s:=by
 unfold Re.reRunToEnd;rw[Tn];refine ah (h _ ?_);refine ah (nt _ _ ?_ _);rcases q with⟨e,q⟩|⟨e,q⟩
 .rw[e];exact ay q
 .rw[e];exact ay q
def m0(x:List Nat):Sre.M:={code:=cI,text:=⟨x⟩,lim:=x.length,start:=0,pc:=18,pos:=0,handed:=0,marks:=#[],mustAdvance:=false,seen:=({}:Sre.Seen).add 14,lastStart:=x.length}
theorem yH:Sre.forSearch cI ⟨[]⟩ 0 0 0 false=({m0 [] with}:Sre.M).say false:=by kernel_rfl
theorem BH{x:List Nat}(a:0<x.length):Sre.forSearch cI ⟨x⟩ 0 0 x.length false=Sre.M.attemptFrom (m0 x) 0 true:=by show(if(decide (0>x.length)||decide (x.length-0<1))=true then _ else _)=_;rw[av (by rw[aG (by exact Nat.not_lt_zero _),aG (by omega)];exact ab)];rfl
theorem BJ{x:List Nat}{sn:Sre.Seen}(h:Sre.M.admitted (m0 x) (x.length+1-0) 0 (m0 x).seen=.ok (none,sn)):Sre.M.attemptFrom (m0 x) 0 true=({m0 x with seen:=sn}:Sre.M).say false:=by
 show(match Sre.M.admitted (m0 x) (x.length+1-0) 0 (m0 x).seen with
  |.ok (some s,seen)=>({m0 x with mustAdvance:=false,seen}:Sre.M).attemptAt s true
  |.ok (none,seen)=>({m0 x with seen}:Sre.M).say false
  |.error a=>(m0 x).stick a)=_
 rw[h]
theorem BL{x:List Nat}{p:Nat}{sn:Sre.Seen}(h:Sre.M.admitted (m0 x) (x.length+1-0) 0 (m0 x).seen=.ok (some p,sn)):Sre.M.attemptFrom (m0 x) 0 true=({m0 x with mustAdvance:=false,seen:=sn}:Sre.M).attemptAt p true:=by
 show(match Sre.M.admitted (m0 x) (x.length+1-0) 0 (m0 x).seen with
  |.ok (some s,seen)=>({m0 x with mustAdvance:=false,seen}:Sre.M).attemptAt s true
  |.ok (none,seen)=>({m0 x with seen}:Sre.M).say false
  |.error a=>(m0 x).stick a)=_
 rw[h]
theorem wq{x:List Nat}{sn:Sre.Seen}:((({m0 x with seen:=sn}:Sre.M).say false).runFor 4).outcome=some .failed:=by rfl
def m2(x:List Nat)(p:Nat)(sn:Sre.Seen):Sre.M:={m0 x with mustAdvance:=false,seen:=sn,start:=p,pos:=p,lastmark:= -1,lastindex:= -1,frames:=[{wait:=.nextStart,pc:=18,pos:=p,outermost:=true}],weight:=1,pc:=18,handed:=p,outermost:=true}
theorem Jv{x:List Nat}{p:Nat}{sn:Sre.Seen}:({m0 x with mustAdvance:=false,seen:=sn}:Sre.M).attemptAt p true=m2 x p sn:=by kernel_rfl
theorem BM{x:List Nat}{p:Nat}{sn:Sre.Seen}(c:p<x.length)(d:eX (x.getD p 0)=false):∃a,(m2 x p sn).step={m2 x p sn with seen:=a,pc:=33,pos:=p+1}:=by
 have e:(⟨x⟩:Array Nat).getD p 0=x.getD p 0:=(PyProof.Rows.getD_list (S x) p).symm;obtain⟨a,b⟩:=EE (x.getD p 0) (sn.add 13);refine⟨a,?_⟩;show(if p>=x.length then _ else(match Sre.accepts cI 18 ((⟨x⟩:Array Nat).getD p 0) (sn.add 13) with
  |.error f=>_
  |.ok (false,seen)=>_
  |.ok (true,seen)=>({{m2 x p sn with seen:=sn.add 13} with seen,pc:=18+Sre.itemWidth cI 18,pos:=p+1}:Sre.M)))=_
 rw[av (by exact Nat.not_le_of_lt c),e];rw[show Sre.accepts cI 18 (x.getD p 0) (sn.add 13)=Sre.inSet cI (x.getD p 0) cI.size 20 true (sn.add 13) from rfl,b,d];rfl
theorem wr{x:List Nat}{p:Nat}{sn:Sre.Seen}(a:p<x.length)(b:eX (x.getD p 0)=false):((m2 x p sn).runFor 4).outcome=some .matched:=by obtain⟨c,h⟩:=BM (sn:=sn) a b;show(Sre.M.runFor 3 (m2 x p sn).step).outcome=_;rw[h];rfl
theorem yI{x:List Nat}{E:ai->af->Prop}{Q:Option Sre.M->af->Prop}(q0:x.all eX=true->Q none s)(g:x.all eX=false->∀m,Q (some m) s):an (model pw w) A (Re.reRunToEnd (Sre.forSearch cI ⟨x⟩ 0 0 x.length false)) Q E s:=by
 by_cases f:0<x.length
 .rw[BH f];rcases Yf (x:=x) (m:=m0 x) rfl rfl rfl (x.length+1-0) 0 (m0 x).seen (by exact aB _ _) with⟨sn,b,a⟩|⟨p,sn,b,a,d,e⟩
  .rw[BJ b];refine uT (m':=(({m0 x with seen:=sn}:Sre.M).say false).runFor 4) (λc q=>kN (by rw[wq];rfl) q) (.inr ⟨wq,q0 (by rw[List.drop_zero] at a;exact a)⟩)
  .rw[BL b,Jv];exact uT (m':=(m2 x p sn).runFor 4) (λc q=>kN (by rw[wr a d];rfl) q) (.inl ⟨wr a d,g (by rw[List.drop_zero] at e;exact e) _⟩)
 .have:x=[]:=List.length_eq_zero_iff.mp (by exact Nat.le_antisymm (ir (Nat.le_of_not_lt f)) (Sp));subst this;rw[show(([]:List Nat).length)=0 from rfl,yH];exact uT (m':=(({m0 [] with}:Sre.M).say false).runFor 4) (λc q=>kN (by rfl) q) (.inr ⟨by rfl,q0 rfl⟩)
theorem BN{f i:ai}{pos c:Nat}{m:Sre.M}{E:ai->af->Prop}{Q:ai->af->Prop}(q:∀a s',Keeps s s'->Q (.ref a) s'):an (model pw w) A (Re.reNewMatch f i 0 pos c m) Q E s:=by
 obtain⟨h,g,d,tk,os⟩:=s;unfold Re.reNewMatch;simp only[List.range_zero,List.flatMap_nil,List.any_nil,Bool.false_eq_true,if_false]
 repeat (any_goals (first|assumption|wp_step))
 exact q _ _ ⟨_,_,rfl,λb o e=>aA _ (aA _ e)⟩
theorem EF{x:List Nat}{t:Tok}(B:cT w s.heap)(y:x.length<=br)(n:x.all eX=true->Q .none s)(o:x.all eX=false->∀a s',Keeps s s'->Q (.ref a) s'):codeAny (model pw w) A (.call (.ref 891) ⟨[.str (S x) t],[]⟩) (RV Q) s:=by
 obtain⟨h,g,d,tk,os⟩:=s;have f:=B.keep _ _ (Tl w.params) (by decide);have b:=B.keep _ _ (Ti w.params) (by decide);dsimp only at f b;have hT:(⟨h,g,d,tk,os⟩:af).TypeIs (.ref 195) "re.Pattern":=⟨_,b,rfl⟩;have p:=OJ;have q:=OK;have i:min (2^63-1:Int).toNat x.length=x.length:=by have u:br=16777216:=rfl;omega
 have j:min (Int.toNat 0) x.length=0:=Nat.zero_min _;have c:codeAny (model pw w) A (.builtin "re.Pattern.search" ⟨[.ref 195,.str (S x) t],[]⟩) (λr s'=>match r with|.ok (.ret v)=>Q v s'|.ok _=>False|.error e=>bM e s') ⟨h,g,d,tk,os⟩:=by refine codeAny_builtin uS ?_;unfold Builtin.«re.Pattern.search»;refine ah (OL B ?_);unfold Re.reAnswer;dsimp only;rw[i,j];refine ah (yI (λk=>ay (n k)) λl m=>?_);exact ah (BN λa s' ks=>ay (o l a s' ks))
 refine codeAny_of_tree ?_;show an _ _ (callAny (.ref 891) ⟨[.str (S x) t],[]⟩) _ _ _;unfold callAny
 repeat (any_goals (first|assumption|exact⟨Code.quiet_builtin _ (by decide+kernel),c⟩|wp_step))
end
end
section
open Builtin Builtin.Str
def jZ:Array Nat:=#[14,14,4,1,1,9,0,64,0,1342177280,0,0,0,0,0,17,0,13,11,9,0,64,0,1342177280,0,0,0,0,0,17,1,1]
def qx(c:Nat):Bool:=decide (c<256)&&(jZ.getD (5+(1+c/32)) 0).testBit (c%32)
theorem OM{c:Nat}(h:qx c=false)(b:Sre.Seen):∃a,Sre.inSet jZ c jZ.size 5 true b=.ok (false,a):=by apply Exists.intro;show(if(decide (c<256)&&(jZ.getD (5+(1+c/32)) 0).testBit (c%32))=true then _ else _)=_;rw[av (by rw[show(decide (c<256)&&(jZ.getD (5+(1+c/32)) 0).testBit (c%32))=false from h];exact ab)];rfl
theorem To{x:List Nat}{m:Sre.M}(i:m.code=jZ)(k:m.text=⟨x⟩)(j:m.lim=x.length)(l:x.all (λc=>!qx c)=true):∀(d sp:Nat) (a:Sre.Seen),∃b,Sre.M.admitted m d sp a=.ok (none,b)
 |0,sp,a=>⟨a,rfl⟩
 |d+1,sp,a=>by
  unfold Sre.M.admitted;by_cases g:sp>=m.lim
  .rw[aH g];exact⟨a,rfl⟩
  .rw[av g,i,k];have f:sp<x.length:=by exact k9 (aO j) (Nat.lt_of_not_le g)
   have e:(⟨x⟩:Array Nat).getD sp 0=x.getD sp 0:=(PyProof.Rows.getD_list (S x) sp).symm;have h:qx (x.getD sp 0)=false:=by
    have:=aW.mp l (x.getD sp 0) (by rw[show x.getD sp 0=x[sp] from by simp[List.getD,aD f]];exact List.getElem_mem f)
    rw[aN] at this;exact this
   obtain⟨b,n⟩:=OM h a;rw[e,n];exact To i k j l d (sp+1) b
theorem ON(P:aw):(hT P).get? 171=some {cls:=.type "re.Pattern",data:=.fields (iO ((hT P).get? 171))}:=by kernel_rfl
theorem OO(P:aw):(iO ((hT P).get? 171)).getD 6 .none=.int 0 0:=by kernel_rfl
theorem OP(P:aw):(iO ((hT P).get? 171)).getD 5 .none=.ref 170:=by kernel_rfl
theorem OQ(P:aw):(iO ((hT P).get? 171)).getD 2 .none=.int 1 0:=by kernel_rfl
theorem W1(P:aw):(hT P).get? 170=some {cls:=.type "tuple",data:=.seq (ti ((hT P).get? 170)) (Ju ((hT P).get? 170))}:=by kernel_rfl
theorem Tp(P:aw):((ti ((hT P).get? 170)).map Re.reRawOf).map (·.toNat)=jZ:=by kernel_rfl
theorem BO:entryFor table "re.Pattern.sub"=some Builtin.«re.Pattern.sub»:=entryFor_of_tree (by kernel_rfl)
theorem rM:entryFor table "re.Pattern.sub.loop"=some Builtin.«re.Pattern.sub.loop»:=entryFor_of_tree (by kernel_rfl)
theorem EG:PlainAttrs "re.Pattern":=
 ⟨⟨"object.__getattribute__",by rw[typeLookup_type,builtinLookup_eq_fast];kernel_rfl,by decide+kernel⟩,by rw[typeLookup_type,builtinLookup_eq_fast];kernel_rfl⟩
theorem j0:Slot "re.Pattern" "sub" "re.Pattern.sub":=
 .of (owner:="re.Pattern") (n:="sub") (by rw[typeLookup_type,builtinLookup_eq_fast];kernel_rfl) (by decide+kernel) (by decide+kernel) (by decide+kernel)
  (by first|exact .inl (by decide+kernel)|exact .inr (by decide+kernel)) (by rw[isSubtype_type];kernel_rfl)
theorem wt:typeOf (.builtin "re.Pattern.sub")=pure (.type "method_descriptor"):=by show builtinType _=_;rw[builtinType_eq_fast];kernel_rfl
theorem wu(a b c:ai):argsOk "re.Pattern.sub" ⟨[a,b,c],[]⟩:=by unfold argsOk;kernel_rfl
theorem Jw:∃v,typeLookup (.type "function") "__call__"=pure (some v):=⟨((fastLookup "function" (Str.ofString "__call__")).getD none).getD .none,by rw[typeLookup_type,builtinLookup_eq_fast];kernel_rfl⟩
theorem Jx:("sub":Str)=S Na:=by decide+kernel
section
variable{w:aq}{A:aL}{s:af}{X:List Addr}{ts:Tb}{Q:ai->af->Prop}
abbrev W2(x:List Nat)(t:Tok):Re.ReTarget:={pattern:=.ref 171,string:=.str (S x) t,code:=jZ,text:=⟨x⟩,kind:=0,groups:=1,pos:=0,lim:=x.length}
theorem Ab{x:List Nat}{t:Tok}{E:ai->af->Prop}{Q:Re.ReTarget->af->Prop}(B:cT w s.heap)(q:Q (W2 x t) s):an (model pw w) A (Re.reWholeTarget (.ref 171) (.str (S x) t)) Q E s:=by
 obtain⟨h,g,d,tk,os⟩:=s;have b:=B.keep _ _ (ON w.params) (by decide);have a:=B.keep _ _ (W1 w.params) (by decide);have f:=OO w.params;have e:=OP w.params;have c:=OQ w.params;have i:=Tp w.params;dsimp only at a b;generalize iO ((hT w.params).get? 171)=fs at b f e c;generalize ti ((hT w.params).get? 170)=cs at a i;generalize Ju ((hT w.params).get? 170)=ep at a;unfold Re.reWholeTarget
 repeat (any_goals (first|assumption|wp_step))
 rw[f,e,c];rw[av (show ¬((Re.reRawNat (.int 0 0)==1&&((S x).cps,0).snd==0)=true) from ab)]
 repeat (any_goals (first|assumption|wp_step))
 rw[show((some cs).getD #[])=cs from rfl,i];exact q
def Ac(x:List Nat):Sre.M:={code:=jZ,text:=⟨x⟩,lim:=x.length,start:=0,pc:=15,pos:=0,handed:=0,marks:=#[none,none],mustAdvance:=false,seen:=({}:Sre.Seen).add 14,lastStart:=x.length}
theorem yJ{x:List Nat}(a:0<x.length):Sre.forSearch jZ ⟨x⟩ 1 0 x.length false=Sre.M.attemptFrom (Ac x) 0 true:=by show(if(decide (0>x.length)||decide (x.length-0<1))=true then _ else _)=_;rw[av (by rw[aG (by exact Nat.not_lt_zero _),aG (by omega)];exact ab)];rfl
theorem yK{x:List Nat}{sn:Sre.Seen}(h:Sre.M.admitted (Ac x) (x.length+1-0) 0 (Ac x).seen=.ok (none,sn)):Sre.M.attemptFrom (Ac x) 0 true=({Ac x with seen:=sn}:Sre.M).say false:=by
 show(match Sre.M.admitted (Ac x) (x.length+1-0) 0 (Ac x).seen with
  |.ok (some s,seen)=>({Ac x with mustAdvance:=false,seen}:Sre.M).attemptAt s true
  |.ok (none,seen)=>({Ac x with seen}:Sre.M).say false
  |.error a=>(Ac x).stick a)=_
 rw[h]
theorem tj{x:List Nat}{sn:Sre.Seen}:((({Ac x with seen:=sn}:Sre.M).say false).runFor 4).outcome=some .failed:=by rfl
theorem wv{x:List Nat}{E:ai->af->Prop}{Q:Option Sre.M->af->Prop}(d:0<x.length)(b:x.all (λc=>!qx c)=true)(q0:Q none s):an (model pw w) A (Re.reRunToEnd (Sre.forSearch jZ ⟨x⟩ 1 0 x.length false)) Q E s:=by rw[yJ d];obtain⟨sn,a⟩:=To (x:=x) (m:=Ac x) rfl rfl rfl b (x.length+1-0) 0 (Ac x).seen;rw[yK a];exact uT (m':=(({Ac x with seen:=sn}:Sre.M).say false).runFor 4) (λe q=>kN (by rw[tj];rfl) q) (.inr ⟨tj,q0⟩)
theorem uU{x:List Nat}{t:Tok}{a:Addr}{L:Addr}{n0:Nat}(B:cT w s.heap)(j:s.heap.get? L=some {cls:=.type "list",data:=.seq #[] n0})(H:(hT w.params).get? L=none)(C:x.length<=br)(m:0<x.length)(D:x.all (λc=>!qx c)=true)
 (k:∀t' h' tk,(∀b o,s.heap.get? b=some o->b≠L->h'.get? b=some o)->Q (.str (S x) t') {s with heap:=h',toks:=tk}):
 codeAny (model pw w) A (.builtin "re.Pattern.sub.loop" ⟨[.ref 171,.str (S x) t,.ref a,rawInt 1,rawInt 0,rawInt 0,rawInt 0,rawInt 0,.bool false,.ref L,.bool false],[]⟩) (λr s'=>match r with|.ok (.ret v)=>Q v s'|.ok _=>False|.error e=>bM e s') s:=by
 refine codeAny_builtin rM ?_;have F:cT w s.heap:=B;unfold Builtin.«re.Pattern.sub.loop»;dsimp only [rawInt];refine ah (Ab B ?_);rw[av (by decide),av (by decide)];unfold Re.reNextFound;dsimp only;refine ah (wv m D ?_);dsimp only;rw[aH (by exact m)];obtain⟨h,g,d,tk,os⟩:=s;dsimp only at j k;have p:(⟨x⟩:Array Nat).extract 0 x.length=⟨x⟩:=by apply Array.toList_inj.mp;rw[Array.toList_extract];show List.extract x 0 x.length=x;rw[List.extract_eq_take_drop,List.drop_zero,Nat.sub_zero,List.take_length]
 have u:(⟨x⟩:Array Nat).extract 0 0=#[]:=by simp
 unfold Re.reSlice;rw[aH (by decide),aH (by decide),aH (by decide),show Int.toNat 0=0 from rfl,p,u];refine ah (wpAny_mkStr ?_);refine ah (wpAny_updateSeq j rfl ?_ (Nat.zero_le _) (by show 1<=sizeLine+1;exact Nat.succ_pos _));refine ah (wpAny_mkStr ?_);dsimp only;have i:=Heap.get?_update_self (Obj.mapSeq (λy=>y.push (ai.str ⟨⟨x⟩⟩ tk))) j rfl;have f:(h.update L (Obj.mapSeq (λy=>y.push (ai.str ⟨⟨x⟩⟩ tk)))).IsList L (strValues [((S x),(tk:Tok))]).toArray:=⟨_,i,rfl,_,rfl⟩;have kk:∀b o,h.get? b=some o->b≠L->(h.update L (Obj.mapSeq (λy=>y.push (ai.str ⟨⟨x⟩⟩ tk)))).get? b=some o:=λb o e n=>by rw[Heap.get?_update_other _ _ (Ne.symm n)];exact e
 revert i f kk;refine xr ((h.update L (Obj.mapSeq (λy=>y.push (ai.str ⟨⟨x⟩⟩ tk))))) λG=>?_;intro i f kk;refine ah (ah (wpAny_load i (ay ?_)));rw[av (λq=>by cases q)];refine ah (SC.join (l:=[((S x),(tk:Tok))]) f rfl ?_ λt' E=>?_)
 .exact wp (x:=[]) (ys:=[x]) (by show x.length+0<=br;exact C)
 .rw[av ab];refine ay ?_;have z:Txt.join ⟨#[]⟩ (List.map (λx=>x.fst) [(S x,tk)])=S x:=Er [] [x];rw[z];exact k _ _ _ kk
theorem EH{x:List Nat}{t:Tok}{a:Addr}{o:Obj}(B:cT w s.heap)(p:s.heap.get? a=some o)(u:o.cls=.type "function")(v:x.length<=br)(z:0<x.length)(y:x.all (λc=>!qx c)=true)
 (k:∀t' s',Keeps s s'->Q (.str (S x) t') s'):an (model pw w) A (call (.builtin "re.Pattern.sub") [.ref 171,.ref a,.str (S x) t]) Q bM s:=by
 obtain⟨h,g,d,tk,os⟩:=s;have f:=B.keep _ _ (ON w.params) (by decide);dsimp only at p f;have j:∀tk,(⟨h,g,d,tk,os⟩:af).TypeIs (.ref 171) "re.Pattern":=λD=>⟨_,f,rfl⟩;have l:∀tk,(⟨h,g,d,tk,os⟩:af).TypeIs (.ref a) "function":=λD=>⟨_,p,u⟩;refine wpAny_call (codeAny_call_builtin j0.plain BO (j0.check _ _ _ _ _ _ _ _ (j _) (wu _ _ _) ?_));unfold Builtin.«re.Pattern.sub» Re.reSubstitute;have r:Re.reNamed "re.Pattern.sub" "sub" ["repl","string","count"] 2 [.ref a,.str (S x) t] []=pure [some (.ref a),some (.str (S x) t),none]:=by first|rfl|kernel_rfl
 dsimp only;rw[r];obtain⟨vc,m⟩:=Jw;refine ah (ay ?_);refine ah (ay ?_);refine ah (wpAny_specialOf (name:=Str.ofString "__call__") (l _) m ?_);dsimp only [Option.isSome];rw[aH rfl];refine ah (ay ?_);rw[aH rfl];refine ah (ay ?_);dsimp only;refine ah (wpAny_holding (Ab B ?_));rw[aH (by decide)];have i:isSubtype (.type "str") (.type "bytearray")=pure false:=by rw[isSubtype_type];kernel_rfl
 unfold Re.reNotHeld;refine ah ?_;refine ah (wpAny_isInstance_val (T:="str") rfl i ?_);rw[av (by decide)];dsimp only;refine ay ?_;refine ah (wpAny_newList ?_ (Nat.zero_le _));have n:h.get? h.objs.size=none:=dJ (aF _);have pk:∀b o,h.get? b=some o->(h.push {cls:=.type "list",data:=.seq #[]}).get? b=some o:=λb o e=>aA _ e;refine ay ⟨Code.quiet_builtin _ (by decide+kernel),?_⟩;refine uU (s:=⟨h.push {cls:=.type "list",data:=.seq #[]},g,d,tk,os⟩) (n0:=0) (B.keeps pk) (aT _ rfl) (fP B n) v z y λt' h' C kk=>?_;exact k _ _ ⟨_,_,rfl,λb o e=>kk b o (pk b o e) λq=>by subst q;rw[n] at e;cases e⟩
end
end
def Yg(a:Addr)(m:Nm)(ds:List D):T D:=.gd (Nat.beq a 171&&cr m Na)<|t2 ds λf b=>.gd (ST f)<|tS b λx=>.chk (!x.isEmpty&&x.all (λc=>!qx c)) (.ret (.str x))
def Yh(a:Addr)(ds:List D)(ob:List Ob):T (D×List Ob):=.gd (Nat.beq a 891)<|t1 ds λb=>tS b λx=>.ask (x.all eX) (.ret (.none,ob)) (.ret (.nn,ob))
def KB:KT:=⟨Yh,Yg,Dr,SU⟩
abbrev rN:=List D->List Ob->T (D×List Ob)
def KT.add(K:KT)(a:Addr)(F:rN):KT:=⟨λb ds ob=>match Nat.beq b a with
 |true=>F ds ob
 |false=>K.fn b ds ob,K.rm,K.bi,K.sm⟩
def Ct(w:aq)(ts:Tb)(k:Nat)(a:Addr)(F:rN):Prop:=∀ds ob d ob',(F ds ob).run=some (d,ob')->∀(A:aL) (X:List Addr) (vs:List ai) (s:af),eO A k->cT w s.heap->gc w (bJ X s.heap) ts s.heap ob->dj (bJ X s.heap) ts vs ds->
 (∀x∈X,(s.heap.get? x).isSome=true)->0<s.toks->codeAny (model pw w) A (.call (.ref a) ⟨vs,[]⟩) (RV λv b=>Rd (bJ X b.heap) ts v d/\cT w b.heap/\gc w (bJ X b.heap) ts b.heap ob'/\Kp ts s b) s
def Cw(w:aq)(a:Addr):Prop:=∀(A:aL) (pos:Pos) (first:List ai) (as:List (Sem ai)) (s:af) (Q:ai->af->Prop),
 fo w A as (λvs s1=>cT w s1.heap/\an (model pw w) A (call (.ref a) (first++vs)) Q bM s1) s->an (model pw w) A (callWith pos (.ref a) first (pl as) []) Q bM s
theorem eq.le{A:aL}{k a:Nat}(h:eq A a)(l:k<=a):eq A k:=⟨h.h,by have:=h.d;exact aS (Nat.add_le_add_left l _) this,by have:=h.u;exact k9 (bc 8 l) this⟩
theorem fz.le{w:aq}{ts:Tb}{K:KT}{k e:Nat}(h:fz w ts K k)(l:k<=e):fz w ts K e:=
 ⟨λa ds ob d ob' r A X vs s c=>h.fn a ds ob d ob' r A X vs s (c.le l),h.cw,λb ds d r A X pos as s Q c=>h.bi b ds d r A X pos as s Q (c.le l),λx m ds d r A X pos as s Q t c=>h.sm x m ds d r A X pos as s Q t (c.le l),λa m ds d r A X pos as s Q c=>h.rm a m ds d r A X pos as s Q (c.le l)⟩
theorem fz.add{w:aq}{ts:Tb}{K:KT}{k:Nat}{a:Addr}{F:rN}(h:fz w ts K k)(c:Ct w ts k a F)(g:Cw w a):fz w ts (K.add a F) k where
 fn:=λb ds ob d ob' r=>by
  have f:(match Nat.beq b a with
   |true=>F ds ob
   |false=>K.fn b ds ob).run=some (d,ob'):=r
  clear r;cases e:Nat.beq b a with
  |true=>rw[e] at f;obtain rfl:=au e;exact c ds ob d ob' f
  |false=>rw[e] at f;exact h.fn b ds ob d ob' f
 cw:=λb ds ob d r=>by
  have r:(match Nat.beq b a with
   |true=>F ds ob
   |false=>K.fn b ds ob).run=some d:=r
  cases e:Nat.beq b a with
  |true=>obtain rfl:=au e;exact g
  |false=>rw[e] at r;exact h.cw b ds ob d r
 bi:=h.bi
 sm:=h.sm
 rm:=h.rm
theorem Tq{w:aq}{a:Addr}{o:Obj}{fd:FuncData}(c:(hT w.params).get? a=some o)(b:o.data=.func fd)(d:a≠dM):Cw w a:=λA pos first as s Q h=>
 PySem.callWith_function_kw (o:=o) (fd:=fd) (fH (h.mono λvs s1 p=>⟨⟨p.1.keep _ _ c d,b⟩,p.2⟩))
section
variable{w:aq}{A:aL}{s:af}{X:List Addr}{ts:Tb}{Q:ai->af->Prop}
theorem OR:Cw w 891:=λA pos first as s Q h=>
 iN (jQ as) rfl (am (fH (f:=.ref 891) (Q:=λx s1=>cT w s1.heap/\an (model pw w) A (call (.ref 891) (first++x.pos) x.kw) Q bM s1) (h.mono λvs s1 p=>p)) (λx a z=>vZ (z.1.keep _ _ (Tl w.params) (by decide)) ⟨rfl,z.2⟩) λb b x=>x)
theorem EI{g:Gx}{vs:List ai}{d1 d2:D}(h:dj g ts vs [d1,d2]):∃c d,vs=[c,d]/\Rd g ts c d1/\Rd g ts d d2:=by cases h with|cons a r=>cases r with|cons b r=>cases r;exact⟨_,_,rfl,a,b⟩
theorem OS{α:Unit}{c:Code}{Q:ai->af->Prop}{s:af}(h:codeAny (model pw w) A c (RV λv s'=>s.toks<=s'.toks->Q v s') s):codeAny (model pw w) A c (RV Q) s:=
 codeAny_with_toks (aF _) (codeAny_mono h λr s' z t=>z.mono λv q=>q t)
theorem OT{k:Nat}:Ct w ts k 891 (Yh 891):=λds ob d ob' r A X vs s q B O rd j u=>by
 refine dz r ?_;clear r;intro y r;refine jJ r ?_;clear r;intro b eb r;refine gF r ?_;clear r;intro x ex r;rw[eb,ex] at rd;obtain⟨v,n,p⟩:=Jr rd;obtain⟨t,o,l⟩:=m9 p;rw[n,o];have e:iff (x.all eX) (some (D.none,ob)) (some (D.nn,ob))=some (d,ob'):=r;refine OS (α:=()) (EF B l (λg m=>?_) λg a s' ks m=>?_)
 .rw[g] at e;obtain⟨c,f⟩:=nZ e;rw[<-c,<-f];exact⟨.none,B,O,Kp.refl _ _⟩
 .rw[g] at e;obtain⟨c,f⟩:=nZ e;rw[<-c,<-f];have i:=dF (ts:=ts) ks m;obtain⟨h',tk,h,kk⟩:=ks;rw[h];rw[h] at i;exact⟨.nn _ rfl,B.keeps kk,O.keep kk,i⟩
theorem Jy{a:Addr}{m:Nm}{ds:List D}{d:D}(h:(Yg a m ds).run=some d){pos:Pos}{as:List (Sem ai)}(B:cT w s.heap)
 (k:fo w A as (λvs s1=>cT w s1.heap/\dj (bJ X s1.heap) ts vs ds/\(∀x∈X,(s1.heap.get? x).isSome=true)/\0<s1.toks/\∀v j,Rd (bJ X j.heap) ts v d->Keeps s1 j->Q v j) s):
 MethodOnS pw w A bM (S m) (.ref a) pos (pl as) Q s:=by
 refine dz h ?_;clear h;intro e h;refine bx e λn o=>iK h λf b q h=>dz h λr h=>gF h λx u h=>ct h λC h=>bx C λE F=>?_;have G:0<x.length:=by
  cases x with
  |nil=>exact(ab E).elim
  |cons=>exact Nat.succ_pos _
 have i:=B.keep _ _ (ON w.params) (by decide);rw[q,IJ r,u] at k;rw[au n,dW o,<-Jx];refine⟨"re.Pattern","re.Pattern.sub",EG,j0,wt,⟨_,i,rfl⟩,λa e=>⟨_,ai.ref.inj e▸i,rfl⟩,uQ (k.mono λvs s1 p=>?_)⟩;obtain⟨L,M,ev,H,I⟩:=EI p.2.1;obtain⟨J,K,y,g,c⟩:=YS H;obtain⟨t,z,l⟩:=m9 I;rw[ev,y,z];exact EH p.1 (bT g).1 c l G F λt' s' ks=>p.2.2.2.2 _ _ (ag h▸.str _ _ l) ks
set_option tactic.hygienic true in
theorem ib{k:Nat}:fz w ts KB k where
 fn:=λa ds ob d ob' r=>by replace e:a=891:=dz r λe i=>au e;rw[e] at r⊢;exact OT ds ob d ob' r
 cw:=λa ds ob d r=>by replace e:a=891:=dz r λe i=>au e;rw[e];exact OR
 bi:=λb ds d r A X pos as s Q g f=>by
  have c:fo w A as (λvs s1=>an (model pw w) A (call b.val vs) Q bM s1) s:=f.mono λvs s1 p=>Jt r p.2.1 g.h p.2.2.1 p.2.2.2.2;cases b
  case isinstance=>exact uQ (first:=[]) (id:="isinstance") c
  case issubclass=>exact uQ (first:=[]) (id:="issubclass") c
  case len=>exact uQ (first:=[]) (id:="len") c
  case sorted=>exact uQ (first:=[]) (id:="sorted") c
  case sum=>exact uQ (first:=[]) (id:="sum") c
  case chr=>exact uQ (first:=[]) (id:="chr") c
  case range=>exact rK (T:="range") c
  case list=>exact rK (T:="list") c
  case str=>exact rK (T:="str") c
  case bytes=>exact rK (T:="bytes") c
  case type=>exact rK (T:="type") c
  case int=>exact rK (T:="int") c
  case bool=>exact rK (T:="bool") c
  case stop=>exact rK (T:="StopIteration") c
  case deque=>exact rK (T:="collections.deque") c
 sm:=λx m ds d r A X pos as s Q t g h f=>ED r g.h h f
 rm:=λa m ds d r A X pos as s Q g B f=>Jy r B f
end
def yL(h:Heap):List Addr->Frag
 |[]=>[]
 |a::r=>match h.get? a with
  |some o=>(a,o)::yL h r
  |none=>yL h r
def nu(P:aw):Frag:=yL (hT P) [878,877,743,742,266,265,239,238,802,809,810,839,846,868,875,513,520,527,689,240]
theorem o9{h:Heap}:∀{l:List Addr} {a:Addr} {o:Obj},(yL h l).lookup a=some o->h.get? a=some o/\a∈l
 |[],a,o,e=>by cases e
 |b::r,a,o,e=>by
  replace e:(match h.get? b with|some o=>(b,o)::yL h r|none=>yL h r).lookup a=some o:=e;cases c:h.get? b with
  |none=>rw[c] at e;obtain⟨x,y⟩:=o9 (l:=r) e;exact⟨x,.tail _ y⟩
  |some ob=>
   rw[c] at e;dsimp only at e;rw[List.lookup_cons] at e;cases q:a==b with
   |true=>rw[q] at e;cases e;obtain rfl:=beq_iff_eq.mp q;exact⟨c,.head _⟩
   |false=>rw[q] at e;obtain⟨x,y⟩:=o9 (l:=r) e;exact⟨x,.tail _ y⟩
theorem uV{w:aq}{h:Heap}(B:cT w h):(nu w.params).In h:=λa o e=>by obtain⟨x,y⟩:=o9 e;exact B.keep a o x λq=>aK (q▸y) (by decide)
abbrev vw:Addr:=878
abbrev yM:Addr:=743
def BP(x:Nm):List Nm->Bool
 |[]=>false
 |y::r=>cr x y||BP x r
theorem qy{x:Nm}:∀{l:List Nm},BP x l=true->x∈l
 |y::r,h=>by
  rcases Bool.or_eq_true_iff.mp h with h|h
  .rw[dW h];exact .head _
  .exact .tail _ (qy h)
abbrev dH:Nm:=[105,110,115,116,114,101,97,109]
abbrev wx:Nm:=[105,110,102,105,108,101]
abbrev dq:Nm:=[112,111,115,105,120]
abbrev Nk:Nm:=[101,111,102]
abbrev mw:Nm:=[99,111,109,109,101,110,116,101,114,115]
abbrev oC:Nm:=[119,111,114,100,99,104,97,114,115]
abbrev mx:Nm:=[119,104,105,116,101,115,112,97,99,101]
abbrev ie:Nm:=[119,104,105,116,101,115,112,97,99,101,95,115,112,108,105,116]
abbrev wy:Nm:=[113,117,111,116,101,115]
abbrev wz:Nm:=[101,115,99,97,112,101]
abbrev jz:Nm:=[101,115,99,97,112,101,100,113,117,111,116,101,115]
abbrev Ad:Nm:=[115,116,97,116,101]
abbrev qz:Nm:=[112,117,115,104,98,97,99,107]
abbrev wA:Nm:=[108,105,110,101,110,111]
abbrev Ae:Nm:=[100,101,98,117,103]
abbrev pg:Nm:=[116,111,107,101,110]
abbrev oD:Nm:=[102,105,108,101,115,116,97,99,107]
abbrev wB:Nm:=[115,111,117,114,99,101]
abbrev cz:Nm:=[95,112,117,110,99,116,117,97,116,105,111,110,95,99,104,97,114,115]
abbrev gt:Nm:=[95,83,116,114,105,110,103,73,79,95,95,110,101,119,108,105,110,101]
abbrev my:Nm:=[95,83,116,114,105,110,103,73,79,95,95,98,117,102]
abbrev mz:Nm:=[95,83,116,114,105,110,103,73,79,95,95,112,111,115]
def W3:List Nm:=[dH,wx,dq,Nk,mw,oC,mx,ie,wy,wz,jz,Ad,qz,wA,Ae,pg,oD,wB,cz]
def W4:List Nm:=[gt,my,mz]
abbrev iz:Nm:=[103,101,116,95,116,111,107,101,110]
abbrev gU:Nm:=[114,101,97,100,95,116,111,107,101,110]
abbrev dm:Nm:=[112,117,110,99,116,117,97,116,105,111,110,95,99,104,97,114,115]
abbrev gV:Nm:=[95,83,116,114,105,110,103,73,79,95,95,116,114,97,110,115,108,97,116,101,100]
abbrev ph:Nm:=[95,83,116,114,105,110,103,73,79,95,95,99,104,101,99,107]
abbrev uW:Nm:=[114,101,97,100]
def MB:gz where
 me:=λC m=>match Nat.beq C vw with
  |true=>dR [(iz,839),(gU,846)] m
  |false=>match Nat.beq C yM with
   |true=>dR [(gV,520),(ph,527),(uW,689)] m
   |false=>none
 pr:=λC m=>match Nat.beq C vw&&cr m dm with
  |true=>some 809
  |false=>none
 fr:=λC m=>match Nat.beq C vw with
  |true=>BP m W3
  |false=>match Nat.beq C yM with
   |true=>BP m W4
   |false=>false
def OU:Option (Option ai)->Bool
 |some none=>true
 |_=>false
theorem Af{x:Option (Option ai)}(h:OU x=true):x=some none:=by rcases x with _|(_|_)<;>first|rfl|cases h
theorem OV(P:aw):(W3.all λa=>OU (findIn (nu P) (.ref vw) (S a)))=true:=by kernel_rfl
theorem OW(P:aw):(W4.all λa=>OU (findIn (nu P) (.ref yM) (S a)))=true:=by kernel_rfl
theorem Ag(P:aw)(n:Str):plainGet (nu P) vw n=true:=by kernel_rfl
theorem Ah(P:aw)(n:Str):plainGet (nu P) yM n=true:=by kernel_rfl
theorem EJ(P:aw):hasDictIn (nu P) vw=true:=by kernel_rfl
theorem Nl(P:aw):hasDictIn (nu P) yM=true:=by kernel_rfl
theorem Tr(P:aw):findIn (nu P) (.ref vw) "__setattr__"=some (some (.builtin "object.__setattr__")):=by kernel_rfl
theorem Ts(P:aw):findIn (nu P) (.ref yM) "__setattr__"=some (some (.builtin "object.__setattr__")):=by kernel_rfl
theorem Tt(P:aw):plainOver (nu P) vw=true:=by kernel_rfl
theorem Tu(P:aw):plainOver (nu P) yM=true:=by kernel_rfl
theorem Tv(P:aw):findIn (nu P) (.ref vw) (S iz)=some (some (.ref 839)):=by kernel_rfl
theorem Tw(P:aw):findIn (nu P) (.ref vw) (S gU)=some (some (.ref 846)):=by kernel_rfl
theorem Tx(P:aw):findIn (nu P) (.ref vw) (S dm)=some (some (.ref 810)):=by kernel_rfl
theorem Ty(P:aw):findIn (nu P) (.ref yM) (S gV)=some (some (.ref 520)):=by kernel_rfl
theorem Tz(P:aw):findIn (nu P) (.ref yM) (S ph)=some (some (.ref 527)):=by kernel_rfl
theorem TA(P:aw):findIn (nu P) (.ref yM) (S uW)=some (some (.ref 689)):=by kernel_rfl
theorem OX(P:aw):typeIn (nu P) (.ref 839)=some (.type "function"):=by kernel_rfl
theorem OY(P:aw):typeIn (nu P) (.ref 846)=some (.type "function"):=by kernel_rfl
theorem OZ(P:aw):typeIn (nu P) (.ref 520)=some (.type "function"):=by kernel_rfl
theorem O4(P:aw):typeIn (nu P) (.ref 527)=some (.type "function"):=by kernel_rfl
theorem O6(P:aw):typeIn (nu P) (.ref 689)=some (.type "function"):=by kernel_rfl
theorem O7(P:aw):specialIn (nu P) (.ref 810) "__get__"=some (some (.builtin "property.__get__")):=by kernel_rfl
theorem TB(P:aw):takesIn (nu P) (.ref 810)=some true:=by kernel_rfl
theorem O8(P:aw):recIn (nu P) 810 "property"=some (.ref 809::((recIn (nu P) 810 "property").getD []).tail):=by kernel_rfl
theorem O9(as:List (Sem ai)):(pl as).all (λx=>!x.1)=true:=by
 induction as with
 |nil=>rfl
 |cons a r b=>exact b
section
variable{w:aq}{A:aL}{s:af}{C x dx:Addr}{es:List bj}{n:Nat}{name:Str}{v:ai}{K:Frag}
theorem gj{h:Heap}(a:h.get? x=some (instObj C dx))(b:h.get? dx=some (dictOf es n)):InstAt h x (instObj C dx) C (some (dictOf es n)):=⟨a,rfl,rfl,b⟩
set_option tactic.hygienic true in
theorem wC{E:ai->af->Prop}{Q:Unit->af->Prop}(X:K.In s.heap)(f:s.heap.get? x=some (instObj C dx))(D:s.heap.get? dx=some (dictOf es n))(t:findIn K (.ref C) "__setattr__"=some (some (.builtin "object.__setattr__")))
 (r:plainOver K C=true)(u:takerIn K C name=some none)(q:hasDictIn K C=true)(e:(getL name es).isSome=true)(l:(putL name (PyData.keyHash w.params name) (.str name (s.toks+1)) v es).length<=1000)
 (h:∀h' y,h'.get? dx=some (dictOf (putL name (PyData.keyHash w.params name) (.str name (s.toks+1)) v es) y)->Heap.SameBut dx s.heap h'->Q () {s with heap:=h',toks:=s.toks+2}):
 an (model pw w) A (setAttr (.ref x) name v) Q E s:=by
 obtain⟨i,m,sd,st,d⟩:=s;dsimp only at X f D h l;have I:=gj f D;refine set_plain (s:=⟨i,m,sd,st,d⟩) X I t ?_;refine osa_open (s:=⟨i,m,sd,st+1,d⟩) X I r u λb=>?_;obtain⟨B,p,g⟩:=any_some q;have j:(i.update dx (Obj.putName name (PyData.keyHash w.params name) (.str name (st+1)) v)).get? dx=some (dictOf (putL name (PyData.keyHash w.params name) (.str name (st+1)) v es) (putN name es n)):=by rw[Heap.get?_update_self _ D (by rw[putName_dict];rfl),putName_dict]
 refine ah (ay (ah (ah (wpAny_loadPart f (ah ((looks_clsIn X p).here ?_))))));rw[g];refine ay (a:=some dx) (ah (ay (ah ?_)));unfold nsSet;refine ah (ah (wpAny_askSetting (ay (ah (wpAny_mkText (ah (wpAny_loadPart D ?_)))))));have c:(!es.toArray.any (·.key.isStr name)&&es.toArray.any (·.refKey))=false:=by
  rw[<-Array.any_toList,<-Array.any_toList];unfold getL at e
  split at e
  .rename_i o k;rw[List.any_eq_true.mpr ⟨o,List.mem_of_find?_eq_some k,List.find?_some k⟩];rfl
  .split at e
   .cases e
   .rename_i z;rw[Bool.not_eq_true] at z;rw[z,Bool.and_false]
 dsimp only;rw[aRefKeyMayBeTheName_at,c];refine wpAny_updatePart D ?_;refine ah (wpAny_lookBehind j (pastItsLine_dict (by rw[List.size_toArray,sizeLine_eq];exact aj l (aB _ _))) ?_);exact ay (h _ _ j (Heap.SameBut.update ..))
theorem j1{Q:ai->af->Prop}{o:Expr}{apos pos:Pos}{env:Env}{as:List (Sem ai)}{f:Addr}(X:K.In s.heap)(g:s.heap.get? x=some (instObj C dx))(D:s.heap.get? dx=some (dictOf es n))(e:plainGet K C name=true)
 (i:findIn K (.ref C) name=some (some (.ref f)))(k:typeIn K (.ref f)=some (.type "function"))(j:getL name es=some none)(b:(apos.endLine==pos.line)=true)(c:as.length<20)
 (h:an (model pw w) A (callWith pos (.ref f) [.ref x] (pl as) []) Q bM s):
 an (model pw w) A (methodCall o name apos pos env (.ref x) (as.length+([]:List Keyword).length) (pl as) (backToKw pos (keywordEach [] env))) Q bM s:=by
 have a:methodCallForm (as.length+([]:List Keyword).length) (pl as) (backToKw pos (keywordEach [] env))=true:=by unfold methodCallForm;rw[O9];show(decide (as.length+0+0<30))=true;exact ac (by exact aj c (aB _ _))
 have d:methodCallPos true o env apos pos=pure pos:=by unfold methodCallPos;simp[b]
 unfold methodCall;rw[a];refine ah (wpAny_holding (method_fn X (gj g D) (plainGet_of e).1 (plainGet_of e).2 i k (by show(lookIn name (dictOf es n)).map _=_;rw[lookIn_dict,j];rfl) ?_));exact ah (wpAny_of_eq d h)
end
theorem qA{K:Frag}{C:Addr}{name:Str}(h:findIn K (.ref C) name=some none):takerIn K C name=some none:=by unfold takerIn;rw[h];rfl
theorem Ai{P:aw}{C:Addr}{m:Nm}(h:MB.fr C m=true):(C=vw\/C=yM)/\findIn (nu P) (.ref C) (S m)=some none:=by
 have h':(match Nat.beq C vw with
  |true=>BP m W3
  |false=>match Nat.beq C yM with
   |true=>BP m W4
   |false=>false)=true:=h
 cases e:Nat.beq C vw with
 |true=>rw[e] at h';obtain rfl:=au e;exact⟨.inl rfl,Af (aW.mp (OV P) m (qy h'))⟩
 |false=>
  rw[e] at h';dsimp only at h';cases a:Nat.beq C yM with
  |true=>rw[a] at h';obtain rfl:=au a;exact⟨.inr rfl,Af (aW.mp (OW P) m (qy h'))⟩
  |false=>rw[a] at h';cases h'
theorem cV(w:aq):vv w MB where
 me:=λC m f h A env o apos pos as s Q p es n B d D i c b j=>by
  have X:=uV B;have h':(match Nat.beq C vw with
   |true=>dR [(iz,839),(gU,846)] m
   |false=>match Nat.beq C yM with
    |true=>dR [(gV,520),(ph,527),(uW,689)] m
    |false=>none)=some f:=h
  clear h;cases e:Nat.beq C vw with
  |true=>
   rw[e] at h';obtain rfl:=au e;dsimp only at h';rw[cg] at h';by_cases q:iz=m
   .rw[aH q] at h';cases h';subst q;exact j1 X d D (Ag _ _) (Tv _) (OX _) i c b j
   .rw[av q,cg] at h';by_cases q:gU=m
    .rw[aH q] at h';cases h';subst q;exact j1 X d D (Ag _ _) (Tw _) (OY _) i c b j
    .rw[av q] at h';cases h'
  |false=>
   rw[e] at h';dsimp only at h';cases l:Nat.beq C yM with
   |true=>
    rw[l] at h';obtain rfl:=au l;dsimp only at h';rw[cg] at h';by_cases q:gV=m
    .rw[aH q] at h';cases h';subst q;exact j1 X d D (Ah _ _) (Ty _) (OZ _) i c b j
    .rw[av q,cg] at h';by_cases q:ph=m
     .rw[aH q] at h';cases h';subst q;exact j1 X d D (Ah _ _) (Tz _) (O4 _) i c b j
     .rw[av q,cg] at h';by_cases q:uW=m
      .rw[aH q] at h';cases h';subst q;exact j1 X d D (Ah _ _) (TA _) (O6 _) i c b j
      .rw[av q] at h';cases h'
   |false=>rw[l] at h';cases h'
 pr:=λC m f h A s Q p es n B d D j=>by
  have X:=uV B;have h':(match Nat.beq C vw&&cr m dm with
   |true=>some 809
   |false=>none)=some f:=h
  clear h;cases e:Nat.beq C vw&&cr m dm with
  |false=>rw[e] at h';cases h'
  |true=>
   rw[e] at h';cases h';refine bx e λJ l=>?_;obtain rfl:=au J;obtain rfl:=dW l;have E:=plainGet_of (Ag w.params (S dm));refine get_bind X (gj d D) E.1 (findObj_data (by obtain⟨M,j,N⟩:=any_some (EJ w.params);rw[j];rfl) (Tx _) (O7 _) (TB _)) E.2 (wpAny_call (prop_get (s:={s with toks:=s.toks+1}) X (O8 _) (codeAny_mono j λr s' z=>?_)));cases r with
   |error e=>exact z.elim
   |ok f=>
    cases f with
    |ret v=>show an _ _ (handedOut v) _ _ _;rw[handedOut_of z.1];exact ay z.2
    |_=>exact z.elim
 get:=λC m h A s Q p es n e B d D K F u=>by
  have X:=uV B;obtain⟨x,t⟩:=Ai (P:=w.params) h;have i:lookIn (S m) (dictOf es n)=some (some e.val):=by rw[lookIn_dict];unfold getL;rw[K]
  rcases x with rfl|rfl
  .exact get_value X (gj d D) (plainGet_of (Ag w.params (S m))).1 (findObj_own (EJ _) t rfl i) F u
  .exact get_value X (gj d D) (plainGet_of (Ah w.params (S m))).1 (findObj_own (Nl _) t rfl i) F u
 set:=λC m h A s v Q p es n B d D i b u=>by
  have X:=uV B;obtain⟨x,t⟩:=Ai (P:=w.params) h;have H:(putL (S m) (PyData.keyHash w.params (S m)) (.str (S m) (s.toks+1)) v es).length<=1000:=by
   have:∀(I:Str) (G:Int) (k v:ai) (es:List bj),(putL I G k v es).length<=es.length+1:=by
    intro I G k v es
    induction es with
    |nil=>exact aF _
    |cons a r L=>
     unfold putL
     split
     .simp
     .simp only[aC];exact Nat.lt_succ_of_le L
   have:=this (S m) (PyData.keyHash w.params (S m)) (.str (S m) (s.toks+1)) v es;exact aj this (aj b (by decide))
  rcases x with rfl|rfl
  .exact wC X d D (Tr _) (Tt _) (qA t) (EJ _) i H λh' y g sb=>u h' y _ (ba _ _) g sb
  .exact wC X d D (Ts _) (Tu _) (qA t) (Nl _) i H λh' y g sb=>u h' y _ (ba _ _) g sb
def W5:Option Obj->FuncData
 |some ⟨_,_,.func fd,_⟩=>fd
 |_=>default
def c9(P:aw)(a:Addr):FuncData:=W5 ((hT P).get? a)
def TC:ai->Addr
 |.ref a=>a
 |_=>0
def cA(P:aw)(a:Addr):Addr:=TC (c9 P a).code
def Nn(P:aw)(c:Addr)(a:Str):Option Obj->Bool
 |some ⟨_,_,.fields vs,_⟩=>(match vs[1]? with
  |some (ai.str q _)=>cr (bm q) (bm a)
  |_=>false)
 |_=>false
set_option tactic.hygienic true in
theorem BQ{P:aw}{c:Addr}{a:Str}{o:Option Obj}(h:Nn P c a o=true):∃c d vs b q t,o=some ⟨c,d,.fields vs,b⟩/\vs[1]?=some (ai.str q t)/\cr (bm q) (bm a)=true:=by
 cases o with
 |none=>cases h
 |some o=>
  obtain⟨c,d,x,b⟩:=o;cases x<;>first
   |exact(ab h).elim
   |(rename_i vs
     cases e:vs[1]? with
     |none=>exact aK h (by show ¬(match vs[1]? with|some (ai.str q _)=>_|_=>false)=true;rw[e];exact ab)
     |some v=>replace h:(match vs[1]? with|some (ai.str q _)=>cr (bm q) (bm a)|_=>false)=true:=h;rw[e] at h;cases v<;>first|exact(ab h).elim|exact⟨_,_,_,_,_,_,rfl,e,h⟩)
def Pa:ScopeKind->Bool
 |.function=>true
 |_=>false
def TD(P:aw)(a:Addr)(f:Ft)(xs:List Nm):Bool:=
 Nn P (cA P a) (c9 P a).qualname ((hT P).get? (cA P a))&&!Nat.beq (cA P a) 185&&!Nat.beq a 185&&(isNone (kd f.2.2.names g8)||Nat.beq (cA P a) 189)&&xs.all (λx=>jG (kd f.2.2.names x))&&nk xs&&f.2.2.names.all (λp=>!Bh p.2)&&
 !f.2.2.isCoroutine&&!f.2.2.isGenerator&&Pa f.2.2.kind
theorem cN{P:aw}{a:Addr}{f:Ft}{xs:List Nm}(u:(hT P).get? a=some ⟨.type "function",none,.func (c9 P a),#[]⟩)(v:c9 P a=FD f (c9 P a).name (c9 P a).qualname (.ref (cA P a)) (c9 P a).defaults (c9 P a).pyModule 3 0)(h:TD P a f xs=true):cK P a f xs (c9 P a):=by
 unfold TD at h;simp only[bf,aN] at h;obtain⟨⟨⟨⟨⟨⟨⟨⟨⟨g,k⟩,l⟩,m⟩,n⟩,o⟩,p⟩,r⟩,s⟩,b⟩:=h;have j:∀{x:Nat},Nat.beq x 185=false->x≠185:=λ{x} e q=>by rw[q] at e;exact aK e (by decide)
 refine⟨⟨_,_,cA P a,_,_,v,u,?_,λw=>?_⟩,j l,n,o,p,r,s,?_⟩
 .have y:=BQ g;clear g;obtain⟨c,d,vs,z,i,t,q,e,g⟩:=y;refine⟨_,vs,t,q,j k,rfl,?_⟩;rw[e];have:bm i=bm (c9 P a).qualname:=dW g;have:i=(c9 P a).qualname:=by rw[<-NS i,this];rfl
  rw[this]
 .rcases Bool.or_eq_true_iff.mp m with q|q
  .cases e:kd f.2.2.names g8 with
   |none=>exact aK e w
   |some=>rw[e] at q;cases q
  .exact au q
 .cases e:f.2.2.kind<;>first|rfl|(rw[e] at b;cases b)
theorem kO{w:aq}{fd:FuncData}{args:Args}{xs:List Nm}{vs:List ai}{ds:List D}{X:List Addr}{ts:Tb}{s:af}(h:aJ fd args=pure (cq xs vs))(r:dj (bJ X s.heap) ts vs ds):
 ∀a,an (model pw w) a (aJ fd args) (λb s1=>∃vs,b=cq xs vs/\Keeps s s1/\dj (bJ X s1.heap) ts vs ds) bM s:=λa=>by
 rw[h];exact ay ⟨vs,rfl,dc _,r⟩
theorem EL{w:aq}{ts:Tb}{K:KT}{k:Nat}{a:Addr}{f:Ft}{xs:List Nm}{F:rN}(e:fz w ts K k)(c:cK w.params a f xs (c9 w.params a))(l:∀vs:List ai,vs.length=xs.length->aJ (c9 w.params a) ⟨vs,[]⟩=pure (cq xs vs))
 (h:∀ds ob d ob',(F ds ob).run=some (d,ob')->ds.length=xs.length/\(eQ K MB f xs ds ob).run=some (d,ob')):Ct w ts (k+1) a F:=λds ob d ob' r A X vs s j B O rd b m=>by
 obtain⟨g,i⟩:=h ds ob d ob' r;exact kM e (cV w) c j B O b m (kO (l vs (by rw[rd.length];exact g)) rd) i
theorem qB{α:Type}{vs:List α}{n:Nat}(h:vs.length=n+1):∃v r,vs=v::r/\r.length=n:=by
 cases vs with
 |nil=>exact nomatch h
 |cons v r=>exact⟨v,r,rfl,Nat.succ.inj h⟩
theorem iq{xs:List Nm}{fd:FuncData}{x:Nm}(e:xs=[x])(h:∀v,aJ fd ⟨[v],[]⟩=pure [(S x,v)]):∀vs:List ai,vs.length=xs.length->aJ fd ⟨vs,[]⟩=pure (cq xs vs):=λvs a=>by rw[e] at a⊢;obtain⟨v,ev⟩:=List.length_eq_one_iff.mp a;rw[ev];exact h v
theorem rO{xs:List Nm}{fd:FuncData}{x y:Nm}(e:xs=[x,y])(h:∀v u,aJ fd ⟨[v,u],[]⟩=pure [(S x,v),(S y,u)]):∀vs:List ai,vs.length=xs.length->aJ fd ⟨vs,[]⟩=pure (cq xs vs):=λvs a=>by rw[e] at a⊢;have c:=qB a;clear a;obtain⟨v,r,ev,a⟩:=c;obtain⟨u,b⟩:=List.length_eq_one_iff.mp a;rw[ev,b];exact h v u
theorem TE{xs:List Nm}{fd:FuncData}{x y z:Nm}(e:xs=[x,y,z])(h:∀v u t,aJ fd ⟨[v,u,t],[]⟩=pure [(S x,v),(S y,u),(S z,t)]):∀vs:List ai,vs.length=xs.length->aJ fd ⟨vs,[]⟩=pure (cq xs vs):=λvs a=>by rw[e] at a⊢;have b:=qB a;clear a;obtain⟨v,r,ev,a⟩:=b;have b:=qB a;clear a;obtain⟨u,f,d,a⟩:=b;obtain⟨t,c⟩:=List.length_eq_one_iff.mp a;rw[ev,d,c];exact h v u t
abbrev Aj:List Nm:=[[112,97,116,104]]
theorem EM(P:aw):cK P 117 (ft 11) Aj (c9 P 117):=cN (by kernel_rfl) (by kernel_rfl) (by kernel_rfl)
theorem Pb(P:aw):∀vs:List ai,vs.length=Aj.length->aJ (c9 P 117) ⟨vs,[]⟩=pure (cq Aj vs):=iq rfl λv=>by kernel_rfl
abbrev Ak:List Nm:=[[112,97,116,104]]
theorem EN(P:aw):cK P 131 (ft 16) Ak (c9 P 131):=cN (by kernel_rfl) (by kernel_rfl) (by kernel_rfl)
theorem Pc(P:aw):∀vs:List ai,vs.length=Ak.length->aJ (c9 P 131) ⟨vs,[]⟩=pure (cq Ak vs):=iq rfl λv=>by kernel_rfl
abbrev Al:List Nm:=[[112]]
theorem EO(P:aw):cK P 145 (ft 19) Al (c9 P 145):=cN (by kernel_rfl) (by kernel_rfl) (by kernel_rfl)
theorem Pd(P:aw):∀vs:List ai,vs.length=Al.length->aJ (c9 P 145) ⟨vs,[]⟩=pure (cq Al vs):=iq rfl λv=>by kernel_rfl
abbrev Am:List Nm:=[[112]]
theorem EP(P:aw):cK P 152 (ft 20) Am (c9 P 152):=cN (by kernel_rfl) (by kernel_rfl) (by kernel_rfl)
theorem Pe(P:aw):∀vs:List ai,vs.length=Am.length->aJ (c9 P 152) ⟨vs,[]⟩=pure (cq Am vs):=iq rfl λv=>by kernel_rfl
abbrev An:List Nm:=[[112]]
theorem EQ(P:aw):cK P 159 (ft 21) An (c9 P 159):=cN (by kernel_rfl) (by kernel_rfl) (by kernel_rfl)
theorem Pf(P:aw):∀vs:List ai,vs.length=An.length->aJ (c9 P 159) ⟨vs,[]⟩=pure (cq An vs):=iq rfl λv=>by kernel_rfl
abbrev tl:List Nm:=[[112,97,116,104]]
theorem ER(P:aw):cK P 166 (ft 23) tl (c9 P 166):=cN (by kernel_rfl) (by kernel_rfl) (by kernel_rfl)
theorem Pg(P:aw):∀vs:List ai,vs.length=tl.length->aJ (c9 P 166) ⟨vs,[]⟩=pure (cq tl vs):=iq rfl λv=>by kernel_rfl
abbrev Ao:List Nm:=[[112,97,116,116,101,114,110]]
theorem ES(P:aw):cK P 183 (ft 27) Ao (c9 P 183):=cN (by kernel_rfl) (by kernel_rfl) (by kernel_rfl)
theorem Ph(P:aw):∀vs:List ai,vs.length=Ao.length->aJ (c9 P 183) ⟨vs,[]⟩=pure (cq Ao vs):=iq rfl λv=>by kernel_rfl
abbrev lq:List Nm:=[[112,97,116],[83,84,65,82],[81,85,69,83,84,73,79,78,95,77,65,82,75]]
theorem ET(P:aw):cK P 190 (ft 29) lq (c9 P 190):=cN (by kernel_rfl) (by kernel_rfl) (by kernel_rfl)
theorem Pi(P:aw):∀vs:List ai,vs.length=lq.length->aJ (c9 P 190) ⟨vs,[]⟩=pure (cq lq vs):=TE rfl λv u t=>by kernel_rfl
abbrev Ap:List Nm:=[[110],[119,104,97,116]]
theorem Pj(P:aw):cK P 209 (ft 33) Ap (c9 P 209):=cN (by kernel_rfl) (by kernel_rfl) (by kernel_rfl)
theorem Pk(P:aw):∀vs:List ai,vs.length=Ap.length->aJ (c9 P 209) ⟨vs,[]⟩=pure (cq Ap vs):=rO rfl λv u=>by kernel_rfl
abbrev Aq:List Nm:=[[115,101,108,102],[115]]
theorem Pl(P:aw):cK P 520 (fm 39 2) Aq (c9 P 520):=cN (by kernel_rfl) (by kernel_rfl) (by kernel_rfl)
theorem Pm(P:aw):∀vs:List ai,vs.length=Aq.length->aJ (c9 P 520) ⟨vs,[]⟩=pure (cq Aq vs):=rO rfl λv u=>by kernel_rfl
abbrev Ar:List Nm:=[[115,101,108,102]]
theorem Pn(P:aw):cK P 527 (fm 39 3) Ar (c9 P 527):=cN (by kernel_rfl) (by kernel_rfl) (by kernel_rfl)
theorem Po(P:aw):∀vs:List ai,vs.length=Ar.length->aJ (c9 P 527) ⟨vs,[]⟩=pure (cq Ar vs):=iq rfl λv=>by kernel_rfl
abbrev oE:List Nm:=[[115,101,108,102],[115,105,122,101]]
theorem EU(P:aw):cK P 689 (fm 39 25) oE (c9 P 689):=cN (by kernel_rfl) (by kernel_rfl) (by kernel_rfl)
abbrev qC:List Nm:=[[115,101,108,102]]
theorem Pp(P:aw):cK P 809 (fm 51 1) qC (c9 P 809):=cN (by kernel_rfl) (by kernel_rfl) (by kernel_rfl)
theorem Pq(P:aw):∀vs:List ai,vs.length=qC.length->aJ (c9 P 809) ⟨vs,[]⟩=pure (cq qC vs):=iq rfl λv=>by kernel_rfl
abbrev lr:List Nm:=[[115,101,108,102]]
theorem Pr(P:aw):cK P 839 (fm 51 5) lr (c9 P 839):=cN (by kernel_rfl) (by kernel_rfl) (by kernel_rfl)
theorem Ps(P:aw):∀vs:List ai,vs.length=lr.length->aJ (c9 P 839) ⟨vs,[]⟩=pure (cq lr vs):=iq rfl λv=>by kernel_rfl
abbrev tm:List Nm:=[[115,101,108,102]]
theorem Pu(P:aw):cK P 846 (fm 51 6) tm (c9 P 846):=cN (by kernel_rfl) (by kernel_rfl) (by kernel_rfl)
theorem Pv(P:aw):∀vs:List ai,vs.length=tm.length->aJ (c9 P 846) ⟨vs,[]⟩=pure (cq tm vs):=iq rfl λv=>by kernel_rfl
abbrev iA:List Nm:=[[115,101,108,102]]
theorem EV(P:aw):cK P 875 (fm 51 10) iA (c9 P 875):=cN (by kernel_rfl) (by kernel_rfl) (by kernel_rfl)
theorem EW(P:aw):∀vs:List ai,vs.length=iA.length->aJ (c9 P 875) ⟨vs,[]⟩=pure (cq iA vs):=iq rfl λv=>by kernel_rfl
abbrev wD:List Nm:=[[115]]
theorem EX(P:aw):cK P 898 (ft 54) wD (c9 P 898):=cN (by kernel_rfl) (by kernel_rfl) (by kernel_rfl)
theorem Pw(P:aw):∀vs:List ai,vs.length=wD.length->aJ (c9 P 898) ⟨vs,[]⟩=pure (cq wD vs):=iq rfl λv=>by kernel_rfl
abbrev wE:List Nm:=[[116,111,116,97,108]]
theorem EY(P:aw):cK P 905 (ft 56) wE (c9 P 905):=cN (by kernel_rfl) (by kernel_rfl) (by kernel_rfl)
theorem Px(P:aw):∀vs:List ai,vs.length=wE.length->aJ (c9 P 905) ⟨vs,[]⟩=pure (cq wE vs):=iq rfl λv=>by kernel_rfl
abbrev As:List Nm:=[[118],[111,100,100]]
theorem EZ(P:aw):cK P 910 (ft 57) As (c9 P 910):=cN (by kernel_rfl) (by kernel_rfl) (by kernel_rfl)
theorem Py(P:aw):∀vs:List ai,vs.length=As.length->aJ (c9 P 910) ⟨vs,[]⟩=pure (cq As vs):=rO rfl λv u=>by kernel_rfl
abbrev wF:List Nm:=[[112],[111,100,100]]
theorem E0(P:aw):cK P 915 (ft 58) wF (c9 P 915):=cN (by kernel_rfl) (by kernel_rfl) (by kernel_rfl)
theorem Pz(P:aw):∀vs:List ai,vs.length=wF.length->aJ (c9 P 915) ⟨vs,[]⟩=pure (cq wF vs):=rO rfl λv u=>by kernel_rfl
abbrev wI:List Nm:=[[119],[111,100,100]]
theorem E1(P:aw):cK P 920 (ft 59) wI (c9 P 920):=cN (by kernel_rfl) (by kernel_rfl) (by kernel_rfl)
theorem PA(P:aw):∀vs:List ai,vs.length=wI.length->aJ (c9 P 920) ⟨vs,[]⟩=pure (cq wI vs):=rO rfl λv u=>by kernel_rfl
abbrev wJ:List Nm:=[[116,101,120,116]]
theorem E2(P:aw):cK P 925 (ft 60) wJ (c9 P 925):=cN (by kernel_rfl) (by kernel_rfl) (by kernel_rfl)
theorem PC(P:aw):∀vs:List ai,vs.length=wJ.length->aJ (c9 P 925) ⟨vs,[]⟩=pure (cq wJ vs):=iq rfl λv=>by kernel_rfl
abbrev lu:List Nm:=[[105,116,101,109]]
theorem E3(P:aw):cK P 932 (ft 61) lu (c9 P 932):=cN (by kernel_rfl) (by kernel_rfl) (by kernel_rfl)
theorem PD(P:aw):∀vs:List ai,vs.length=lu.length->aJ (c9 P 932) ⟨vs,[]⟩=pure (cq lu vs):=iq rfl λv=>by kernel_rfl
abbrev wK:List Nm:=[[112,97,116,116,101,114,110]]
theorem E4(P:aw):cK P 937 (ft 62) wK (c9 P 937):=cN (by kernel_rfl) (by kernel_rfl) (by kernel_rfl)
theorem PF(P:aw):∀vs:List ai,vs.length=wK.length->aJ (c9 P 937) ⟨vs,[]⟩=pure (cq wK vs):=iq rfl λv=>by kernel_rfl
abbrev qD:List Nm:=[[119,97,121],[119,111,114,100]]
theorem E5(P:aw):cK P 942 (ft 63) qD (c9 P 942):=cN (by kernel_rfl) (by kernel_rfl) (by kernel_rfl)
theorem PG(P:aw):∀vs:List ai,vs.length=qD.length->aJ (c9 P 942) ⟨vs,[]⟩=pure (cq qD vs):=rO rfl λv u=>by kernel_rfl
abbrev iB:List Nm:=[[112,97,114,116]]
theorem E6(P:aw):cK P 949 (ft 64) iB (c9 P 949):=cN (by kernel_rfl) (by kernel_rfl) (by kernel_rfl)
theorem PH(P:aw):∀vs:List ai,vs.length=iB.length->aJ (c9 P 949) ⟨vs,[]⟩=pure (cq iB vs):=iq rfl λv=>by kernel_rfl
abbrev tn:List Nm:=[[105,116,101,109,115],[110,97,109,101]]
theorem E7(P:aw):cK P 954 (ft 65) tn (c9 P 954):=cN (by kernel_rfl) (by kernel_rfl) (by kernel_rfl)
theorem PI(P:aw):∀vs:List ai,vs.length=tn.length->aJ (c9 P 954) ⟨vs,[]⟩=pure (cq tn vs):=rO rfl λv u=>by kernel_rfl
abbrev jA:List Nm:=[[119,111,114,100],[114,111,119,115]]
theorem yN(P:aw):cK P 959 (ft 66) jA (c9 P 959):=cN (by kernel_rfl) (by kernel_rfl) (by kernel_rfl)
theorem PJ(P:aw):∀vs:List ai,vs.length=jA.length->aJ (c9 P 959) ⟨vs,[]⟩=pure (cq jA vs):=rO rfl λv u=>by kernel_rfl
abbrev Au:List Nm:=[[112,97,116,116,101,114,110],[110,97,109,101,115]]
theorem E8(P:aw):cK P 966 (ft 67) Au (c9 P 966):=cN (by kernel_rfl) (by kernel_rfl) (by kernel_rfl)
theorem PK(P:aw):∀vs:List ai,vs.length=Au.length->aJ (c9 P 966) ⟨vs,[]⟩=pure (cq Au vs):=rO rfl λv u=>by kernel_rfl
abbrev wL:List Nm:=[[110,111,100,101,115],[112,97,116,116,101,114,110]]
theorem E9(P:aw):cK P 971 (ft 68) wL (c9 P 971):=cN (by kernel_rfl) (by kernel_rfl) (by kernel_rfl)
theorem PM(P:aw):∀vs:List ai,vs.length=wL.length->aJ (c9 P 971) ⟨vs,[]⟩=pure (cq wL vs):=rO rfl λv u=>by kernel_rfl
abbrev qE:List Nm:=[[107,101,121,115]]
theorem Fa(P:aw):cK P 978 (ft 69) qE (c9 P 978):=cN (by kernel_rfl) (by kernel_rfl) (by kernel_rfl)
theorem PN(P:aw):∀vs:List ai,vs.length=qE.length->aJ (c9 P 978) ⟨vs,[]⟩=pure (cq qE vs):=iq rfl λv=>by kernel_rfl
abbrev tq:List Nm:=[[119,111,114,100,115]]
theorem Fb(P:aw):cK P 985 (ft 70) tq (c9 P 985):=cN (by kernel_rfl) (by kernel_rfl) (by kernel_rfl)
theorem PO(P:aw):∀vs:List ai,vs.length=tq.length->aJ (c9 P 985) ⟨vs,[]⟩=pure (cq tq vs):=iq rfl λv=>by kernel_rfl
abbrev oF:List Nm:=[[107,101,121,115],[112,97,116,116,101,114,110,115],[114,101,97,100]]
theorem Fd(P:aw):cK P 990 (ft 71) oF (c9 P 990):=cN (by kernel_rfl) (by kernel_rfl) (by kernel_rfl)
theorem PP(P:aw):∀vs:List ai,vs.length=oF.length->aJ (c9 P 990) ⟨vs,[]⟩=pure (cq oF vs):=TE rfl λv u t=>by kernel_rfl
abbrev tt:List Nm:=[[115,99,114,105,112,116]]
theorem PQ(P:aw):cK P 995 (ft 72) tt (c9 P 995):=cN (by kernel_rfl) (by kernel_rfl) (by kernel_rfl)
theorem PR(P:aw):∀vs:List ai,vs.length=tt.length->aJ (c9 P 995) ⟨vs,[]⟩=pure (cq tt vs):=iq rfl λv=>by kernel_rfl
abbrev tv:List Nm:=[[115,101,108,102],[105,110,105,116,105,97,108,95,118,97,108,117,101],[110,101,119,108,105,110,101]]
theorem PT(P:aw):cK P 513 (fm 39 1) tv (c9 P 513):=cN (by kernel_rfl) (by kernel_rfl) (by kernel_rfl)
abbrev tw:List Nm:=[[115,101,108,102],[105,110,115,116,114,101,97,109],[105,110,102,105,108,101],[112,111,115,105,120],[112,117,110,99,116,117,97,116,105,111,110,95,99,104,97,114,115]]
theorem PU(P:aw):cK P 802 (fm 51 0) tw (c9 P 802):=cN (by kernel_rfl) (by kernel_rfl) (by kernel_rfl)
abbrev tx:List Nm:=[[115],[99,111,109,109,101,110,116,115],[112,111,115,105,120]]
theorem uX(P:aw):cK P 890 (ft 52) tx (c9 P 890):=cN (by kernel_rfl) (by kernel_rfl) (by kernel_rfl)
abbrev wN:List Nm:=[[97],[112]]
theorem Ff(P:aw):cK P 138 (ft 17) wN (c9 P 138):=cN (by kernel_rfl) (by kernel_rfl) (by kernel_rfl)
def F1(g:List Nat->T D):rN:=λds ob=>t1 ds λa=>tS a λx=>(g x).bind λd=>.ret (d,ob)
theorem PV{g:List Nat->T D}{ds:List D}{ob ob':List Ob}{d:D}(h:(F1 g ds ob).run=some (d,ob')):∃x,ds=[.str x]/\(g x).run=some d/\ob'=ob:=by refine jJ h ?_;clear h;intro a e h;refine gF h ?_;clear h;intro x b h;refine bv h λd1 i j=>?_;obtain⟨c,f⟩:=nZ j;exact⟨x,by rw[e,b],c▸i,f.symm⟩
theorem nv{w:aq}{ts:Tb}{K:KT}{k:Nat}{a:Addr}{f:Ft}{b:Nm}{g:List Nat->T D}(e:fz w ts K k)(c:cK w.params a f [b] (c9 w.params a))(j:∀vs:List ai,vs.length=[b].length->aJ (c9 w.params a) ⟨vs,[]⟩=pure (cq [b] vs))
 (h:∀x ob d,(g x).run=some d->(eQ K MB f [b] [.str x] ob).run=some (d,ob)):Ct w ts (k+1) a (F1 g):=
 EL e c j λds ob d ob' r=>by obtain⟨x,rfl,i,rfl⟩:=PV r;exact⟨rfl,h x _ d i⟩
theorem qF{w:aq}{a:Addr}{f:Ft}{xs:List Nm}{fd:FuncData}(b:cK w.params a f xs fd):Cw w a:=by obtain⟨g,j,c,d,i,e,h,k⟩:=b.obj;exact Tq h rfl b.nota
theorem fz.next{w:aq}{ts:Tb}{K:KT}{k:Nat}{a:Addr}{F:rN}{f:Ft}{xs:List Nm}{fd:FuncData}(d:fz w ts K k)(b:cK w.params a f xs fd)(c:Ct w ts (k+1) a F):fz w ts (K.add a F) (k+1):=
 (d.le (Nat.le_succ k)).add c (qF b)
def K1:KT:=KB.add 117 (F1 λx=>.ret (.str x))
theorem TF(x:List Nat)(ob:List Ob):(eQ KB MB (ft 11) Aj [.str x] ob).run=some (.str x,ob):=by kernel_rfl
theorem Yi(w:aq)(ts:Tb):fz w ts K1 1:=(ib (k:=0)).next (EM _) (nv ib (EM _) (Pb _) λx ob d h=>by cases h;exact TF x ob)
def K2:KT:=K1.add 131 (F1 λx=>.ret (.str [47]))
theorem TG(x:List Nat)(ob:List Ob):(eQ K1 MB (ft 16) Ak [.str x] ob).run=some (.str [47],ob):=by kernel_rfl
theorem Yj(w:aq)(ts:Tb):fz w ts K2 2:=(Yi w ts).next (EN _) (nv (Yi w ts) (EN _) (Pc _) λx ob d h=>by cases h;exact TG x ob)
def cj(x:List Nat):List Nat:=cJ x (fv x.length (lA 47 x+1)) x.length
def eI(x:List Nat):List Nat:=cJ x 0 (fv x.length (lA 47 x+1))
def K3:KT:=K2.add 152 (F1 λx=>.ret (.str (cj x)))
theorem TH(x:List Nat)(ob:List Ob):(eQ K2 MB (ft 20) Am [.str x] ob).run=some (.str (cj x),ob):=by kernel_rfl
theorem Yk(w:aq)(ts:Tb):fz w ts K3 3:=(Yj w ts).next (EP _) (nv (Yj w ts) (EP _) (Pe _) λx ob d h=>by cases h;exact TH x ob)
def yO(x:List Nat):T D:=.ask (!(eI x).isEmpty) (.chk (decide (0<=((eI x).length:Int))&&decide (2*((eI x).length:Int).toNat<=br))
 (.ask (!cr (eI x) (List.replicate ((eI x).length:Int).toNat [47]).flatten) (.ret (.str (gb 47 (eI x)))) (.ret (.str (eI x))))) (.ret (.str (eI x)))
def K4:KT:=K3.add 159 (F1 yO)
theorem TI(x:List Nat)(ob:List Ob):(eQ K3 MB (ft 21) An [.str x] ob).run=((yO x).bind λd=>.ret (d,ob)).run:=by kernel_rfl
theorem Yl(w:aq)(ts:Tb):fz w ts K4 4:=(Yk w ts).next (EQ _) (nv (Yk w ts) (EQ _) (Pf _) λx ob d h=>by rw[TI,bq h];rfl)
def Av(x:List Nat):T D:=.ask (!cr (cJ x 0 (fv x.length 1)) [47]) (.ret (.tup [.str [],.str [],.str x]))
 (.ask (!cr (cJ x (fv x.length 1) (fv x.length 2)) [47]) (.ret (.tup [.str [],.str [47],.str (cJ x (fv x.length 1) x.length)]))
   (.ask (cr (cJ x (fv x.length 2) (fv x.length 3)) [47]) (.ret (.tup [.str [],.str [47],.str (cJ x (fv x.length 1) x.length)]))
     (.ret (.tup [.str [],.str (cJ x 0 (fv x.length 2)),.str (cJ x (fv x.length 2) x.length)]))))
def K5:KT:=K4.add 145 (F1 Av)
theorem TJ(x:List Nat)(ob:List Ob):(eQ K4 MB (ft 19) Al [.str x] ob).run=((Av x).bind λd=>.ret (d,ob)).run:=by kernel_rfl
theorem Ym(w:aq)(ts:Tb):fz w ts K5 5:=(Yl w ts).next (EO _) (nv (Yl w ts) (EO _) (Pd _) λx ob d h=>by rw[TJ,bq h];rfl)
def eT{α:Type}:Sem α->Obj->Sem α
 |.load _ _ k,o=>k o
 |t,_=>t
theorem kZ{w:aq}{A:aL}{α:Type}{t:Sem α}{a:Addr}{o:Obj}{Q:α->af->Prop}{s:af}(e:t=(load a>>=eT t))(h:s.heap.get? a=some o)(q:an (model pw w) A (eT t o) Q bM s):an (model pw w) A t Q bM s:=by rw[e];exact ah (wpAny_load h q)
def UP(i j:Nat):List Stmt:=(fm i j).2.1
def Sn(i j:Nat):Sc:=(fm i j).2.2.names
def nT(nl:D)(b:List Nat)(p:Int):Ob:=⟨743,[(gt,nl),(my,.str b),(mz,.int p)]⟩
def V1(o:Ob):Option (D×List Nat×Int):=(zH o.at_).bind λt=>(je t.2.1.2).bind λb=>(lS t.2.2.2).bind λp=>iff (cr t.1.1 gt&&(cr t.2.1.1 my&&(cr t.2.2.1 mz&&Nat.beq o.C 743))) (some (t.1.2,b,p)) none
theorem zg{o:Ob}{q:D×List Nat×Int}(h:V1 o=some q):o=nT q.1 q.2.1 q.2.2:=by
 obtain⟨C,a⟩:=o;refine eW h ?_;clear h;intro t s h;refine eW h ?_;clear h;intro b c h;refine eW h ?_;clear h;intro p d h;obtain⟨⟨f,nl⟩,⟨g,j⟩,⟨i,k⟩⟩:=t;replace c:j=.str b:=d9 c;replace d:k=.int p:=gD d;replace h:iff (cr f gt&&(cr g my&&(cr i mz&&Nat.beq C 743))) (some (nl,b,p)) none=some q:=h;rw[show a=[(f,nl),(g,j),(i,k)] from pK s];cases e:cr f gt&&(cr g my&&(cr i mz&&Nat.beq C 743)) with
 |false=>rw[e] at h;exact cX h
 |true=>rw[e] at h;refine bx e ?_;clear e;intro l e;refine bx e ?_;clear e;intro m e;refine bx e λn r=>?_;rw[<-ag h,c,d,dW l,dW m,dW n,au r];rfl
theorem nU{w:aq}{ts:Tb}{K:KT}{k:Nat}{a:Addr}{f:Ft}{xs:List Nm}{F:rN}(c:fz w ts K k)(b:cK w.params a f xs (c9 w.params a))(e:∀vs:List ai,vs.length=xs.length->aJ (c9 w.params a) ⟨vs,[]⟩=pure (cq xs vs))
 (h:∀ds ob d ob',(F ds ob).run=some (d,ob')->ds.length=xs.length/\(eQ K MB f xs ds ob).run=some (d,ob')):fz w ts (K.add a F) (k+1):=c.next b (EL c b e h)
def Xq(i:Int):Bool:=!decide (i>1099511627776)&&!decide (i< -1099511627776)
def Xr:rN:=λds ob=>t2 ds λa b=>tI a λi=>tS b λc=>.chk (Xq i) (.ret (.int i,ob))
theorem UQ(i:Int)(x:List Nat)(ob:List Ob):(eQ KB MB (ft 33) Ap [.int i,.str x] ob).run=iff (decide (i>1099511627776)) none (iff (decide (i< -1099511627776)) none (some (.int i,ob))):=by kernel_rfl
def L1:KT:=KB.add 209 Xr
theorem Y7(w:aq)(ts:Tb):fz w ts L1 1:=nU ib (Pj _) (Pk _) λds ob d ob' r=>by refine iK r ?_;clear r;intro a b e r;refine x3 r ?_;clear r;intro i g r;refine gF r ?_;clear r;intro x h r;refine ct r ?_;clear r;intro j r;refine bx j λc f=>?_;rw[aN] at c f;rw[e,g,h,<-ag r];exact⟨rfl,by rw[UQ,c,f];rfl⟩
def tO{β:Type}(k:Nat)(d:D)(f:T β):T β:=(T.opt (Iz d)).bind λi=>.gd (Nat.beq i k) f
theorem Ma{β:Type}{k:Nat}{d:D}{f:T β}{r:β}{G:Prop}(h:(tO k d f).run=some r)(q:d=.obj k->f.run=some r->G):G:=bv h λi e h=>dz h λa h=>q (by rw[pB (bn e),au a]) h
def Xs:rN:=λds ob=>t1 ds λa=>tO 1 a<|t2 ob λl o=>(T.opt (V1 o)).bind λq=>.ret (.none,[l,nT q.1 q.2.1 q.2.2])
theorem UR(l:Ob)(nl:D)(b:List Nat)(p:Int):(eQ L1 MB (fm 39 3) Ar [.obj 1] [l,nT nl b p]).run=some (.none,[l,nT nl b p]):=by kernel_rfl
def L2:KT:=L1.add 527 Xs
theorem Yv(w:aq)(ts:Tb):fz w ts L2 2:=nU (Y7 w ts) (Pn _) (Po _) λds ob d ob' r=>by refine jJ r ?_;clear r;intro a e r;refine Ma r ?_;clear r;intro b r;refine iK r ?_;clear r;intro l o c r;refine bv r ?_;clear r;intro q h r;obtain⟨f,g⟩:=nZ r;rw[e,b,c,<-f,<-g,zg (bn h)];exact⟨rfl,UR _ _ _ _⟩
def US:rN:=λds ob=>t2 ds λa b=>tO 1 a<|tI b λi=>.gd (decide (i=1))<|t2 ob λl o=>(T.opt (V1 o)).bind λq=>.chk (decide (0<=q.2.2)&&decide (q.2.1.length<=10000000)) (.ask (decide (q.2.2>=(q.2.1.length:Int))) (.ret (.str [],[l,nT q.1 q.2.1 q.2.2])) (.ret (.str [q.2.1.getD q.2.2.toNat 0],[l,nT q.1 q.2.1 (q.2.2+1)])))
def Mb(b:List Nat)(p e:Int):List Nat:=cJ (cJ b (fv b.length p) (fv b.length e)++[32]) 0 (fv (cJ b (fv b.length p) (fv b.length e)++[32]).length (-1))
theorem UT(l:Ob)(nl:D)(b:List Nat)(p:Int):(eQ L2 MB (fm 39 25) oE [.obj 1,.int 1] [l,nT nl b p]).run=iff (decide (p>=(b.length:Int))) (some (.str [],[l,nT nl b p]))
 (iff (decide (p+1<(b.length:Int))) (iff (decide ((cJ b (fv b.length p) (fv b.length (p+1))).length+1<=br)) (some (.str (Mb b p (p+1)),[l,nT nl b (p+1)])) none) (iff (decide ((cJ b (fv b.length p) (fv b.length (b.length:Int))).length+1<=br)) (some (.str (Mb b p b.length),[l,nT nl b b.length])) none)):=by kernel_rfl
theorem AP{b:List Nat}{p e:Int}(i:0<=p)(g:p<b.length)(h:e=p+1):Mb b p e=[b.getD p.toNat 0]/\(cJ b (fv b.length p) (fv b.length e)).length=1:=by
 subst h;obtain⟨n,rfl⟩:∃n:Nat,p=n:=⟨p.toNat,by omega⟩;have a:n<b.length:=by exact Int.ofNat_lt.mp g
 have c:cJ b (fv b.length (n:Int)) (fv b.length ((n:Int)+1))=[b.getD n 0]:=by
  have d:fv b.length (n:Int)=n:=by unfold fv;rw[av (by exact mX _)];omega
  have f:fv b.length ((n:Int)+1)=n+1:=by unfold fv;rw[av (by omega)];omega
  unfold cJ;rw[d,f,List.take_succ,List.drop_append_of_le_length (by rw[List.length_take];omega),List.drop_of_length_le (by rw[List.length_take];exact Nat.min_le_left _ _),aD a,List.getD,aD a];rfl
 unfold Mb;rw[c];exact⟨rfl,rfl⟩
def L3:KT:=L2.add 689 US
theorem Rq{l:Ob}{nl:D}{b:List Nat}{p:Int}(a:0<=p)(k:b.length<=10000000):(eQ L2 MB (fm 39 25) oE [.obj 1,.int 1] [l,nT nl b p]).run=iff (decide (p>=(b.length:Int))) (some (.str [],[l,nT nl b p])) (some (.str [b.getD p.toNat 0],[l,nT nl b (p+1)])):=by
 have j:br=16777216:=rfl;rw[UT];by_cases h:p>=(b.length:Int)
 .rw[ac h];rfl
 .rw[aG h,cU,cU];obtain⟨d,f⟩:=AP (b:=b) a (by exact Int.not_le.mp h) (show p+1=p+1 from rfl);by_cases c:p+1<(b.length:Int)
  .rw[ac c,bP,f,d];rfl
  .have e:(b.length:Int)=p+1:=by omega
   rw[aG c,cU];obtain⟨g,i⟩:=AP (b:=b) a (by exact Int.not_le.mp h) e;rw[i,g,e];rfl
theorem Hp(P:aw)(v u:ai):aJ (c9 P 689) ⟨[v,u],[]⟩=(load 682>>=eT (aJ (c9 P 689) ⟨[v,u],[]⟩)):=by kernel_rfl
def Rr(P:aw):Obj:=((hT P).get? 682).getD ⟨.none,none,.plain,#[]⟩
theorem Xt(P:aw):(hT P).get? 682=some (Rr P):=by kernel_rfl
theorem CH(P:aw)(v u:ai):eT (aJ (c9 P 689) ⟨[v,u],[]⟩) (Rr P)=pure (cq oE [v,u]):=by kernel_rfl
theorem Rs(w:aq)(ts:Tb):Ct w ts 3 689 US:=λds ob d ob' r A X vs s K B O rd c N=>by
 refine iK r λa b e j=>Ma j λE k=>x3 k λi G x=>dz x λH y=>iK y λl o t z=>bv z λq I C=>ct C λf P=>bx f λf J=>?_;clear r j k x y z C;rw[E,G,ar H] at e;rw[zg (bn I)] at t;rw[e] at rd;rw[t] at O
 .obtain⟨m,n,rfl,j,k⟩:=EI rd;obtain⟨fd,F,g,h⟩:∃fd,cK w.params 689 (fm 39 25) oE fd/\(∀v u,aJ fd ⟨[v,u],[]⟩=(load 682>>=eT (aJ fd ⟨[v,u],[]⟩)))/\(∀v u,eT (aJ fd ⟨[v,u],[]⟩) (Rr w.params)=pure (cq oE [v,u])):=⟨_,EU _,Hp _,CH _⟩;have L:∀p,an (model pw w) p (aJ fd ⟨[m,n],[]⟩) (λD s1=>∃vs,D=cq oE vs/\Keeps s s1/\dj (bJ X s1.heap) ts vs [.obj 1,.int 1]) bM s:=λp=>by refine kZ (g m n) (B.keep _ _ (Xt _) (by decide)) ?_;rw[h];exact ay ⟨[m,n],rfl,dc _,rd⟩
  have M:(eQ L2 MB (fm 39 25) oE [.obj 1,.int 1] [l,nT q.1 q.2.1 q.2.2]).run=some (d,ob'):=by rw[Rq (ar f) (ar J)];exact P
  exact kM (Yv w ts) (cV w) F K B O c N L M
theorem Y8(w:aq)(ts:Tb):fz w ts L3 3:=(Yv w ts).next (EU _) (Rs w ts)
structure Lx where
 W:List Nat
 st:Option Nat
 tok:List Nat
 ln:Int
def Xu:Option Nat->D
 |none=>.none
 |some c=>.str [c]
def zh(q:Lx)(sp:Bool)(cm:List Nat):List (Nm×D):=[(dH,.obj 1),(wx,.none),(dq,.bool true),(Nk,.none),(mw,.str cm),(oC,.str q.W),(mx,.str [32,9,13,10]),(ie,.bool sp),(wy,.str [39,34]),(wz,.str [92]),(jz,.str [34]),
 (Ad,Xu q.st),(qz,.deq),(wA,.int q.ln),(Ae,.int 0),(pg,.str q.tok),(oD,.deq),(wB,.none),(cz,.str [])]
def UU(q:Lx):Ob:=⟨878,zh q true []⟩
def i9(q:Lx)(nl:D)(b:List Nat)(p:Int):List Ob:=[UU q,nT nl b p]
def Xv:rN:=λds ob=>t1 ds λa=>tO 0 a<|t2 ob λl o=>(T.opt (dR l.at_ cz)).bind λd=>tS d λx=>.gd (cr x []&&Nat.beq l.C 878) (.ret (.str [],[l,o]))
theorem UV(a:List (Nm×D))(o:Ob)(h:dR a cz=some (.str [])):(eQ L3 MB (fm 51 1) qC [.obj 0] [⟨878,a⟩,o]).run=some (.str [],[⟨878,a⟩,o]):=by
 have:(eQ L3 MB (fm 51 1) qC [.obj 0] [⟨878,a⟩,o]).run=((T.opt (dR a cz)).bind λd=>T.gd (ol d) (.ret (d,[⟨878,a⟩,o]))).run:=by
  have e:eQ L3 MB (fm 51 1) qC [.obj 0] [⟨878,a⟩,o]=((((T.opt (dR a cz)).bind λd=>T.gd (ol d) (.ret (d,(⟨dK qC [.obj 0],none,[⟨878,a⟩,o]⟩:St)))).bind λp=>.ret (dN.ret p.1,p.2)).bind λp=>match p.1 with
   |.next=>cM L3 MB 59 (Sn 51 1) [] p.2
   |o=>.ret (o,p.2)).bind fin:=by kernel_rfl
  rw[e,h];rfl
 rw[this,h];rfl
def L4:KT:=L3.add 809 Xv
theorem Y9(w:aq)(ts:Tb):fz w ts L4 4:=nU (Y8 w ts) (Pp _) (Pq _) λds ob d ob' r=>by refine jJ r ?_;clear r;intro a e r;refine Ma r ?_;clear r;intro f r;refine iK r ?_;clear r;intro l o g r;refine bv r ?_;clear r;intro d i r;refine gF r ?_;clear r;intro x j r;refine dz r ?_;clear r;intro h r;refine bx h λn c=>?_;obtain⟨k,m⟩:=nZ r;obtain⟨C,b⟩:=l;replace c:C=878:=au c;rw[e,f,g,<-k,<-m,c];exact⟨rfl,UV b o (by rw[show dR b cz=some d from bn i,j,dW n])⟩
theorem fY{f:D->List Ob->T (Option D×List Ob)}{g:D->Option D}{ob:List Ob}:∀{ds:List D},(∀d∈ds,(f d ob).run=some (g d,ob))->(dv f ds ob).run=some (ds.filterMap g,ob)
 |[],_=>rfl
 |d::ds,h=>by show((f d ob).bind λp=>(dv f ds p.2).bind λq=>T.ret ((match p.1 with|some e=>e::q.1|none=>q.1),q.2)).run=_;rw[bq (h d (.head _)),bq (fY λe a=>h e (.tail _ a)),List.filterMap_cons];cases g d<;>rfl
theorem cY{f:D->List Ob->T (Option D×List Ob)}{g:D->D}{ob:List Ob}{ds:List D}(h:∀d∈ds,(f d ob).run=some (some (g d),ob)):(dv f ds ob).run=some (ds.map g,ob):=by rw[fY (g:=λd=>some (g d)) h,List.filterMap_eq_map']
theorem tz{α:Type}{f:D->St->T (dN×St)}{g:α->D->α}{mk:α->Option D->St}{ok:α->Prop}:∀{ds:List D} {a:α} {q:Option D},(∀a q d,ok a->d∈ds->(∃o,(f d (mk a q)).run=some (o,mk (g a d) (some d))/\(o=.next\/o=.cont))/\ok (g a d))->ok a->
 ∃c,(dS f ds (mk a q)).run=some (.next,mk (ds.foldl g a) c)/\ok (ds.foldl g a)
 |[],a,q,_,b=>⟨q,rfl,b⟩
 |d::ds,a,q,h,b=>by
  obtain⟨⟨o,i,j⟩,k⟩:=h a q d b (.head _);obtain⟨c,l,m⟩:=tz (f:=f) (g:=g) (mk:=mk) (ok:=ok) (ds:=ds) (a:=g a d) (q:=some d) (λa q e b n=>h a q e b (.tail _ n)) k;refine⟨c,?_,m⟩;show((f d (mk a q)).bind λp=>match p.1 with
   |.next=>dS f ds p.2
   |.cont=>dS f ds p.2
   |.brk=>T.ret (dN.next,p.2)
   |.ret r=>T.ret (dN.ret r,p.2)).run=_
  rw[bq i];rcases j with rfl|rfl<;>exact l
abbrev W6:Expr:=.Constant .none 0 ⟨0,0,0,0⟩
def sV:Stmt->Expr×List Stmt×List Stmt×Option Expr
 |.Expr e _=>(e,[],[],none)
 |.Assign ts v _=>(v,[],[],ts.head?)
 |.AugAssign _ _ v _=>(v,[],[],none)
 |.If t b e _=>(t,b,e,none)
 |.While t b _ _=>(t,b,[],none)
 |.For t i b _ _=>(i,b,[],some t)
 |.Return e _=>(e.getD W6,[],[],none)
 |.Assert t _ _=>(t,[],[],none)
 |.Try b _ _ _ _=>(W6,b,[],none)
 |_=>(W6,[],[],none)
def bV(s:Stmt):Expr:=(sV s).1
def cP(s:Stmt):List Stmt:=(sV s).2.1
def rB(s:Stmt):List Stmt:=(sV s).2.2.1
def VS(s:Stmt):Expr:=(sV s).2.2.2.getD (bV s)
def tp(s:Stmt):Pos:=(VS s).pos
def iP(e:Expr):List Comprehension:=match eK e with
 |.lc _ g _ _=>g
 |_=>[]
def Fg(e:Expr):Scope:=match eK e with
 |.lc _ _ s _=>s
 |_=>⟨.function,[],false,false,[]⟩
def yP(e:Expr):List Expr:=match eK e with
 |.ls es _=>es
 |_=>[]
def Jz(e:Expr):Nat:=match eK e with
 |.co _ k _=>k
 |_=>0
def TK(e:Expr):List Keyword:=match eK e with
 |.ca _ _ k _=>k
 |_=>[]
def wO:List Comprehension->Expr
 |[⟨_,a,_,_⟩]=>a
 |_=>.Constant .none 0 ⟨0,0,0,0⟩
def cu(a:List Stmt)(i:Nat):Stmt:=(a[i]?).getD (.Pass ⟨0,0,0,0⟩)
def wP(es:List Expr)(i:Nat):Expr:=(es[i]?).getD (.Constant .none 0 ⟨0,0,0,0⟩)
def ch:Expr->Nat->Expr
 |.ListComp a c _ _,i=>match i,c with
  |0,_=>a
  |1,[⟨_,g,_,_⟩]=>g
  |2,[⟨_,_,d,_⟩]=>wP d 0
  |_,_=>a
 |.Call f args _ _,i=>match i with
  |0=>f
  |j+1=>wP args j
 |.BinOp l _ r _,i=>match i with
  |0=>l
  |_=>r
 |.Compare l _ rs _,i=>match i with
  |0=>l
  |j+1=>wP rs j
 |.BoolOp _ vs _,i=>wP vs i
 |.IfExp t b o _,i=>match i with
  |0=>t
  |1=>b
  |_=>o
 |.Attribute o _ _,_=>o
 |.List es _,i=>wP es i
 |.Tuple es _ _,i=>wP es i
 |.UnaryOp _ x _,_=>x
 |.Subscript o i _,j=>match j with
  |0=>o
  |_=>i
 |e,_=>e
def ep(e:Expr)(i:Nat):Pos:=(ch e i).pos
def bO(K:KT)(M:gz)(n:Nat)(sc:Sc)(e:Expr)(v:List (Nm×D)):D->List Ob->T (Option D×List Ob):=match e with
 |.ListComp c b a _=>match ma b with
  |some (x,_,h,f,as)=>λd ob=>(zO K M n (eh a.names sc) f ⟨ee (m5 a.names sc v) (bm x) d,none,ob⟩).bind λq=>
   .ask q.1 ((ev K M n (eh a.names sc) c q.2).bind λr=>.ret (some r.1,r.2.ob)) (.ret (none,q.2.ob))
  |none=>λg g=>.fail
 |_=>λg g=>.fail
def TL(K:KT)(M:gz)(n:Nat)(sc:Sc)(a:List Stmt)(t:T (dN×St)):T (D×List Ob):=(t.bind λp=>match p.1 with
 |.next=>cM K M n sc a p.2
 |o=>.ret (o,p.2)).bind fin
def wQ(K:KT)(M:gz)(n:Nat)(sc:Sc)(a:List Stmt)(t:T (D×St)):T (D×List Ob):=TL K M n sc a (t.bind λp=>.ret (dN.ret p.1,p.2))
theorem iY{K:KT}{M:gz}{n:Nat}{sc:Sc}{a:List Stmt}{t:T (D×St)}{d:D}{st:St}(h:t.run=some (d,st)):(wQ K M n sc a t).run=some (d,st.ob):=by unfold wQ TL;rw[bY,bY,bY,h];rfl
def BR(f:D->List Ob->T (Option D×List Ob))(ds:List D)(v:List (Nm×D))(ow:Option (Nm×Option Nm×List D))(ob:List Ob):T (D×St):=(dv f ds ob).bind λr=>.ret (.list r.1,⟨v,ow,r.2⟩)
theorem fQ{f:D->List Ob->T (Option D×List Ob)}{ds es:List D}{v:List (Nm×D)}{ow:Option (Nm×Option Nm×List D)}{ob:List Ob}(h:(dv f ds ob).run=some (es,ob)):(BR f ds v ow ob).run=some (.list es,⟨v,ow,ob⟩):=by unfold BR;rw[bq h];rfl
abbrev bd(i:Nat):List Stmt:=(ft i).2.1
abbrev sn(i:Nat):Sc:=(ft i).2.2.names
theorem cF{α:Type}{b:Bool}{t f:α}{r:α}(h:b=true)(k:t=r):iff b t f=r:=by rw[h];exact k
theorem uY{α:Type}{b:Bool}{t f:α}{r:α}(h:b=false)(k:f=r):iff b t f=r:=by rw[h];exact k
def yQ(t:Int):Int:=if(t+39)%1112064>=55296 then(t+39)%1112064+2048 else if(t+39)%1112064=47 then 32 else(t+39)%1112064
theorem TM(t:Int)(ob:List Ob):(eQ K5 MB (ft 56) wE [.int t] ob).run=iff (decide ((t+39)%1112064>=55296)) (iff ((t+39)%1112064+2048==47) (some (.str [32],ob)) (iff (decide (0<=(t+39)%1112064+2048)&&decide ((t+39)%1112064+2048<1114112)) (some (.str [((t+39)%1112064+2048).toNat],ob)) none))
 (iff ((t+39)%1112064==47) (some (.str [32],ob)) (iff (decide (0<=(t+39)%1112064)&&decide ((t+39)%1112064<1114112)) (some (.str [((t+39)%1112064).toNat],ob)) none)):=by kernel_rfl
theorem PW(t:Int)(ob:List Ob):(eQ K5 MB (ft 56) wE [.int t] ob).run=some (.str [(yQ t).toNat],ob):=by
 rw[TM];unfold yQ;have a:0<=(t+39)%1112064:=Int.emod_nonneg _ (by decide);have b:(t+39)%1112064<1112064:=Int.emod_lt_of_pos _ (by decide);generalize (t+39)%1112064=c at a b⊢;by_cases h:c>=55296
 .rw[aH h];refine cF (ac h) (uY (by rw[beq_eq_false_iff_ne];omega) (cF ?_ rfl));rw[ac (by omega),ac (by omega)];rfl
 .rw[av h];refine uY (aG h) ?_;by_cases q:c=47
  .rw[aH q];exact cF (by rw[beq_iff_eq];exact q) rfl
  .rw[av q];refine uY (by rw[beq_eq_false_iff_ne];exact q) (cF ?_ rfl);rw[ac (by exact a),ac (by omega)];rfl
def Fp(g:List D->T D):rN:=λds ob=>(g ds).bind λd=>.ret (d,ob)
theorem jE{w:aq}{ts:Tb}{K:KT}{k:Nat}{a:Addr}{f:Ft}{xs:List Nm}{g:List D->T D}(c:fz w ts K k)(b:cK w.params a f xs (c9 w.params a))(j:∀vs:List ai,vs.length=xs.length->aJ (c9 w.params a) ⟨vs,[]⟩=pure (cq xs vs))
 (h:∀ds ob d,(g ds).run=some d->ds.length=xs.length/\(eQ K MB f xs ds ob).run=some (d,ob)):Ct w ts (k+1) a (Fp g):=
 EL c b j λds ob d ob' r=>by refine bv r λd1 e i=>?_;cases(i);exact h ds _ d e
def W7(ds:List D):T D:=t1 ds λa=>tI a λt=>.ret (.str [(yQ t).toNat])
def K6:KT:=K5.add 905 (Fp W7)
theorem Yn(w:aq)(ts:Tb):fz w ts K6 6:=(Ym w ts).next (EY _) (jE (Ym w ts) (EY _) (Px _) λds ob d h=>by refine jJ h ?_;clear h;intro a e h;refine x3 h ?_;clear h;intro t b h;rw[e,b,<-ag h];exact⟨rfl,PW _ _⟩)
def fZ(o:List Nat):List D:=[.str [97],.str [97,98],.str [98],.str [42],.str [97,42],.str [46,97],.str [91,97,93],.str [105,116,39,115],.str [97,32,98],.str ([97]++o)]
def Fh:Expr:=bV (cu (bd 57) 1)
abbrev yR(v:Int)(o:List Nat):List (Nm×D):=[([118],.int v),([111,100,100],.str o),([110,97,109,101,115],.list (fZ o))]
theorem TN(v:Int)(o:List Nat)(ob:List Ob):(eQ K6 MB (ft 57) As [.int v,.str o] ob)=(.chk (decide (1+o.length<=br)) (.chk (decide (10<=br)) (.chk (decide ((0:Int)<3)) (.chk (fN 0 (v%3+1)) (wQ K6 MB 58 (sn 57) [] (BR (bO K6 MB 56 (sn 57) Fh (yR v o)) ((List.range (v%3+1-0).toNat).map λ(k:Nat)=>.int (0+(k:Int))) (yR v o) none ob)))))):=by kernel_rfl
theorem kP{i:Int}{n:Nat}(h:0<=i):gy i n=i.toNat:=by unfold gy;rw[av (by exact Int.not_lt.mpr h)]
theorem fI{i:Int}{n:Nat}(h:0<=i)(a:i<n):cL i n=true:=by unfold cL;rw[ac (by omega),ac (by exact a)];rfl
theorem PX(v:Int)(o:List Nat)(ob:List Ob):(bO K6 MB 56 (sn 57) Fh (yR v o) (.int (0+((0:Nat):Int))) ob).run=iff (cL (v/3%10) 10) (some (some ((fZ o).getD (gy (v/3%10) 10) .none),ob)) none:=by kernel_rfl
theorem PY(v:Int)(o:List Nat)(ob:List Ob):(bO K6 MB 56 (sn 57) Fh (yR v o) (.int (0+((1:Nat):Int))) ob).run=iff (cL (v/30%10) 10) (some (some ((fZ o).getD (gy (v/30%10) 10) .none),ob)) none:=by kernel_rfl
theorem PZ(v:Int)(o:List Nat)(ob:List Ob):(bO K6 MB 56 (sn 57) Fh (yR v o) (.int (0+((2:Nat):Int))) ob).run=iff (cL (v/300%10) 10) (some (some ((fZ o).getD (gy (v/300%10) 10) .none),ob)) none:=by kernel_rfl
def Fi(v:Int)(k:Nat):Nat:=(v/(3*10^k)%10).toNat
def Fj(v:Int)(o:List Nat):List D:=(List.range (v%3+1).toNat).map λk=>(fZ o).getD (Fi v k) .none
def W8(ds:List D):T D:=t2 ds λa b=>tI a λv=>tS b λo=>.chk (decide (1+o.length<=br)) (.ret (.list (Fj v o)))
theorem Aw(x:Int):0<=x%10/\x%10<10:=⟨Int.emod_nonneg _ (by decide),Int.emod_lt_of_pos _ (by decide)⟩
theorem Y0{k:Nat}(h:k<3):k=0\/k=1\/k=2:=by omega
theorem P0(v:Int)(o:List Nat)(ob:List Ob)(k:Nat)(b:k<3):(bO K6 MB 56 (sn 57) Fh (yR v o) (.int (0+(k:Int))) ob).run=some (some ((fZ o).getD (Fi v k) .none),ob):=by
 have a:∀x:Int,iff (cL (x%10) 10) (some (some ((fZ o).getD (gy (x%10) 10) .none),ob)) none=some (some ((fZ o).getD (x%10).toNat D.none),ob):=λx=>by rw[fI (Aw x).1 (Aw x).2,kP (Aw x).1];rfl
 obtain rfl|rfl|rfl:=Y0 b
 .rw[PX,a];rfl
 .rw[PY,a];rfl
 .rw[PZ,a];rfl
theorem eY{a:Int}(h:0<=a)(b:a<=1000000):fN 0 a=true:=by have c:br=16777216:=rfl;unfold fN;rw[ac (by exact by decide),ac (by exact aX _),ac (by omega),ac (by omega),ac (by omega)];rfl
def K7:KT:=K6.add 910 (Fp W8)
theorem Yo(w:aq)(ts:Tb):fz w ts K7 7:=(Yn w ts).next (EZ _) (jE (Yn w ts) (EZ _) (Py _) λds ob d h=>by
 refine iK h ?_;clear h;intro a b e h;refine x3 h ?_;clear h;intro v c h;refine gF h ?_;clear h;intro o f h;refine ct h ?_;clear h;intro i h
 .rw[e,c,f,<-ag h];refine⟨rfl,?_⟩;have m:0<=v%3:=Int.emod_nonneg _ (by decide);have n:v%3<3:=Int.emod_lt_of_pos _ (by decide);rw[TN];show(T.chk _ _).run=_;refine cF i (cF (by decide) (cF (by decide) (cF (eY (by omega) (by omega)) ?_)));refine iY (st:=⟨yR v o,none,ob⟩) (fQ ?_)
  .rw[cY (g:=λd=>match d with|.int k=>(fZ o).getD (Fi v k.toNat) .none|_=>.none)]
   .rw[aQ];unfold Fj;rw[Int.sub_zero];congr 2;apply List.map_congr_left;intro k _;show(fZ o).getD (Fi v (0+(k:Int)).toNat) .none=_;rw[show(0+(k:Int)).toNat=k from by exact U4 _]
   .intro d j;obtain⟨k,l,rfl⟩:=aE.mp j;have:=List.mem_range.mp l;rw[P0 v o ob k (by omega)];show _=some (some ((fZ o).getD (Fi v (0+(k:Int)).toNat) .none),ob);rw[show(0+(k:Int)).toNat=k from by exact U4 _])
def P2{α:Type}:Nat->Bool->T α->T α
 |0,_,t=>t
 |n+1,b,t=>.chk b (P2 n b t)
theorem ce{α:Type}{b:Bool}{t:T α}(h:b=true):(T.chk b t).run=t.run:=cF h rfl
theorem wS{α:Type}{b:Bool}{t:T α}(h:b=true):∀n,(P2 n b t).run=t.run
 |0=>rfl
 |n+1=>(ce h).trans (wS h n)
def yS(K:KT)(M:gz)(n:Nat)(sc:Sc)(a:List Expr)(t:T (D×St)):T (List D×St):=t.bind λp=>(lh K M n sc a p.2).bind λq=>.ret (p.1::q.1,q.2)
theorem j2{K:KT}{M:gz}{n:Nat}{sc:Sc}{t:T (D×St)}{d:D}{st:St}(h:t.run=some (d,st)):(yS K M (n+1) sc [] t).run=some ([d],st):=by unfold yS;rw[bq h];rfl
def Sm(K:KT)(x:List Nat)(m:Nm)(t:T (List D×St)):T (D×St):=t.bind λq=>(K.sm x m q.1).bind λd=>.ret (d,q.2)
theorem pi{K:KT}{x:List Nat}{m:Nm}{t:T (List D×St)}{ds:List D}{d:D}{st:St}(h:t.run=some (ds,st))(a:(K.sm x m ds).run=some d):(Sm K x m t).run=some (d,st):=by unfold Sm;rw[bq h,bq a];rfl
abbrev bL:=Option (Bool×List Nat)
def bw:bL->D
 |none=>.none
 |some (b,x)=>.list [.bool b,.str x]
def gG(o:List Nat):List bL:=[some (true,[97]),some (true,[98]),some (true,[42]),none,none,some (false,[]),some (true,[97,98]),some (false,[97]),some (true,[46]),some (true,[91]),some (true,o),some (true,[32])]
def dg(p:Int)(m:Int):Nat:=(p/m%12).toNat
def jq(p:Int)(o:List Nat):List bL:=(List.range (p%3+1).toNat).map λk=>(gG o).getD (dg p (3*12^k)) none
def Fl:Expr:=bV (cu (bd 58) 1)
abbrev yT(p:Int)(o:List Nat):List (Nm×D):=[([112],.int p),([111,100,100],.str o),([105,116,101,109,115],.list ((gG o).map bw))]
theorem TO(p:Int)(o:List Nat)(ob:List Ob):eQ K7 MB (ft 58) wF [.int p,.str o] ob=P2 10 (decide (2<=br)) (.chk (decide (12<=br)) (.chk (decide ((0:Int)<3)) (.chk (fN 0 (p%3+1)) (wQ K7 MB 58 (sn 58) [] (BR (bO K7 MB 56 (sn 58) Fl (yT p o)) ((List.range (p%3+1-0).toNat).map λ(k:Nat)=>.int (0+(k:Int))) (yT p o) none ob))))):=by kernel_rfl
theorem P3(p:Int)(o:List Nat)(ob:List Ob):(bO K7 MB 56 (sn 58) Fl (yT p o) (.int (0+((0:Nat):Int))) ob).run=iff (cL (p/3%12) 12) (some (some (((gG o).map bw).getD (gy (p/3%12) 12) .none),ob)) none:=by kernel_rfl
theorem P4(p:Int)(o:List Nat)(ob:List Ob):(bO K7 MB 56 (sn 58) Fl (yT p o) (.int (0+((1:Nat):Int))) ob).run=iff (cL (p/36%12) 12) (some (some (((gG o).map bw).getD (gy (p/36%12) 12) .none),ob)) none:=by kernel_rfl
theorem P5(p:Int)(o:List Nat)(ob:List Ob):(bO K7 MB 56 (sn 58) Fl (yT p o) (.int (0+((2:Nat):Int))) ob).run=iff (cL (p/432%12) 12) (some (some (((gG o).map bw).getD (gy (p/432%12) 12) .none),ob)) none:=by kernel_rfl
theorem Fm{α β:Type}(f:α->β)(l:List α)(i:Nat)(a:α)(b:β)(h:f a=b):(l.map f).getD i b=f (l.getD i a):=by subst h;simp only[List.getD,List.getElem?_map];cases l[i]?<;>rfl
theorem JA(p:Int)(o:List Nat)(ob:List Ob)(k:Nat)(d:k<3):(bO K7 MB 56 (sn 58) Fl (yT p o) (.int (0+(k:Int))) ob).run=some (some (bw ((gG o).getD (dg p (3*12^k)) none)),ob):=by
 have a:∀x:Int,iff (cL (x%12) 12) (some (some (((gG o).map bw).getD (gy (x%12) 12) .none),ob)) none=some (some (bw ((gG o).getD (x%12).toNat none)),ob):=λx=>by have b:0<=x%12:=Int.emod_nonneg _ (by decide);have c:x%12<12:=Int.emod_lt_of_pos _ (by decide);rw[fI b c,kP b,Fm bw _ _ none .none rfl];rfl
 match k,d with
 |0,_=>rw[P3,a];rfl
 |1,_=>rw[P4,a];rfl
 |2,_=>rw[P5,a];rfl
theorem lI{f:D->List Ob->T (Option D×List Ob)}{g:Nat->D}{ob:List Ob}{a:Int}(h:∀k:Nat,k<a.toNat->(f (.int (0+(k:Int))) ob).run=some (some (g k),ob)):
 (dv f ((List.range (a-0).toNat).map λ(k:Nat)=>.int (0+(k:Int))) ob).run=some ((List.range a.toNat).map g,ob):=by
 rw[cY (g:=λd=>match d with|.int k=>g k.toNat|_=>.none)]
 .rw[aQ,Int.sub_zero];congr 2;apply List.map_congr_left;intro k _;show g (0+(k:Int)).toNat=_;rw[show(0+(k:Int)).toNat=k from by exact U4 _]
 .intro d b;obtain⟨k,c,rfl⟩:=aE.mp b;have:=List.mem_range.mp c;rw[Int.sub_zero] at this;rw[h k this];show _=some (some (g (0+(k:Int)).toNat),ob);rw[show(0+(k:Int)).toNat=k from by exact U4 _]
def W9(ds:List D):T D:=t2 ds λa b=>tI a λp=>tS b λo=>.ret (.list ((jq p o).map bw))
def K8:KT:=K7.add 915 (Fp W9)
theorem P6(p:Int)(o:List Nat)(ob:List Ob):(eQ K7 MB (ft 58) wF [.int p,.str o] ob).run=some (.list ((jq p o).map bw),ob):=by have a:0<=p%3:=Int.emod_nonneg _ (by decide);have b:p%3<3:=Int.emod_lt_of_pos _ (by decide);rw[TO,wS (by decide),ce (by decide),ce (by decide),ce (eY (by omega) (by omega))];refine iY (st:=⟨yT p o,none,ob⟩) (fQ ?_);rw[lI (g:=λk=>bw ((gG o).getD (dg p (3*12^k)) none)) λk c=>JA p o ob k (by omega)];unfold jq;rw[aQ];rfl
theorem Yp(w:aq)(ts:Tb):fz w ts K8 8:=(Yo w ts).next (E0 _) (jE (Yo w ts) (E0 _) (Pz _) λds ob d h=>by refine iK h ?_;clear h;intro a b e h;refine x3 h ?_;clear h;intro p c h;refine gF h ?_;clear h;intro o f h;rw[e,c,f,<-ag h];exact⟨rfl,P6 _ _ _⟩)
def P7:Expr:=bV (cu (bd 59) 0)
abbrev Fn(p:Int)(o:List Nat):List (Nm×D):=[([119],.int p),([111,100,100],.str o)]
theorem TP(p:Int)(o:List Nat)(ob:List Ob):eQ K8 MB (ft 59) wI [.int p,.str o] ob=.chk (decide ((0:Int)<2)) (.chk (fN 0 (p%2+1)) (wQ K8 MB 59 (sn 59) [] (BR (bO K8 MB 57 (sn 59) P7 (Fn p o)) ((List.range (p%2+1-0).toNat).map λ(k:Nat)=>.int (0+(k:Int))) (Fn p o) none ob))):=by kernel_rfl
theorem P8(p:Int)(o:List Nat)(ob:List Ob):(bO K8 MB 57 (sn 59) P7 (Fn p o) (.int (0+((0:Nat):Int))) ob).run=some (some (.list ((jq (p/2%5184) o).map bw)),ob):=by kernel_rfl
theorem P9(p:Int)(o:List Nat)(ob:List Ob):(bO K8 MB 57 (sn 59) P7 (Fn p o) (.int (0+((1:Nat):Int))) ob).run=some (some (.list ((jq (p/10368%5184) o).map bw)),ob):=by kernel_rfl
def qG(p:Int)(o:List Nat):List (List bL):=(List.range (p%2+1).toNat).map λk=>jq (p/(2*5184^k)%5184) o
def eA(ps:List (List bL)):D:=.list (ps.map λis=>.list (is.map bw))
def Xa(ds:List D):T D:=t2 ds λa b=>tI a λp=>tS b λo=>.ret (eA (qG p o))
def K9:KT:=K8.add 920 (Fp Xa)
theorem Qa(p:Int)(o:List Nat)(ob:List Ob):(eQ K8 MB (ft 59) wI [.int p,.str o] ob).run=some (eA (qG p o),ob):=by
 have a:0<=p%2:=Int.emod_nonneg _ (by decide);have b:p%2<2:=Int.emod_lt_of_pos _ (by decide);rw[TP,ce (by decide),ce (eY (by omega) (by omega))];refine iY (st:=⟨Fn p o,none,ob⟩) (fQ ?_);rewrite[lI (g:=λk=>.list ((jq (p/(2*5184^k)%5184) o).map bw)) λk c=>by
  have:k<2:=by omega
  match k,this with
  |0,_=>rw[P8];rfl
  |1,_=>rw[P9];rfl]
 unfold qG;rw[aQ];rfl
theorem Yq(w:aq)(ts:Tb):fz w ts K9 9:=(Yp w ts).next (E1 _) (jE (Yp w ts) (E1 _) (PA _) λds ob d h=>by refine iK h ?_;clear h;intro a b e h;refine x3 h ?_;clear h;intro p c h;refine gF h ?_;clear h;intro o f h;rw[e,c,f,<-ag h];exact⟨rfl,Qa _ _ _⟩)
abbrev Ax:List Nat:=[39,34,39,34,39]
def dt(x:List Nat):List Nat:=iff (x.all eX) x ([39]++cB 39 Ax x++[39])
theorem TQ(c:Nat)(r:List Nat)(ob:List Ob):(eQ K9 MB (ft 54) wD [.str (c::r)] ob).run=iff ((c::r).all eX) (some (.str (c::r),ob)) (iff (decide ((c::r).length+((c::r).length+1)*5<=br)) (iff (decide (1+(cB 39 Ax (c::r)).length<=br)) (iff (decide (([39]++cB 39 Ax (c::r)).length+1<=br)) (some (.str ([39]++cB 39 Ax (c::r)++[39]),ob)) none) none) none):=by kernel_rfl
theorem fC(c:Nat)(y:List Nat):∀x,(cB c y x).length<=x.length*(y.length+1)
 |[]=>Nat.zero_le _
 |a::r=>by
  have b:=fC c y r;rw[un];cases Nat.beq a c with
  |true=>show(y++cB c y r).length<=_;rw[ae,aC,Nat.succ_mul];exact ir b
  |false=>show(a::cB c y r).length<=_;rw[aC,aC,Nat.succ_mul];exact ir b
def Xb(ds:List D):T D:=t1 ds λa=>tS a λx=>.chk (!x.isEmpty&&decide (x.length<=100000)) (.ret (.str (dt x)))
theorem Qc(x:List Nat)(ob:List Ob)(b:x.isEmpty=false)(a:x.length<=100000):(eQ K9 MB (ft 54) wD [.str x] ob).run=some (.str (dt x),ob):=by
 have e:br=16777216:=rfl
 match x,b,a with
 |c::r,_,a=>
  rw[TQ];unfold dt;have f:=fC 39 Ax (c::r);have d:Ax.length=5:=rfl;rw[d] at f;cases(c::r).all eX with
  |true=>rfl
  |false=>refine uY rfl (cF (ac (by exact k9 (aO e.symm) (bc 6 a))) (cF (ac (by omega)) (cF (ac (by rw[ae];show 1+_+1<=_;omega)) rfl)))
def JB:KT:=K9.add 898 (Fp Xb)
theorem TR(w:aq)(ts:Tb):fz w ts JB 10:=(Yq w ts).next (EX _) (jE (Yq w ts) (EX _) (Pw _) λds ob d h=>by refine jJ h ?_;clear h;intro a e h;refine gF h ?_;clear h;intro x c h;refine ct h ?_;clear h;intro b h;refine bx b ?_;clear b;intro b f;rw[aN] at b;rw[e,c,<-ag h];exact⟨rfl,Qc _ _ b (ar f)⟩)
def eG(c:Nat):List Nat:=iff (d5 [c] [42,63,91]) [91,c,93] [c]
def eZ(x:List Nat):List Nat:=x.flatMap eG
def TS:Expr:=ch (bV (cu (bd 60) 0)) 1
abbrev JC(x:List Nat):List (Nm×D):=[([116,101,120,116],.str x)]
theorem TT(x:List Nat)(ob:List Ob):eQ JB MB (ft 60) wJ [.str x] ob=wQ JB MB 59 (sn 60) [] (Sm JB [] fj (yS JB MB 56 (sn 60) [] (BR (bO JB MB 55 (sn 60) TS (JC x)) (x.map λc=>.str [c]) (JC x) none ob))):=by kernel_rfl
theorem Qd(x:List Nat)(c:Nat)(ob:List Ob):(bO JB MB 55 (sn 60) TS (JC x) (.str [c]) ob).run=iff (d5 [c] [42,63,91]) (some (some (.str [91,c,93]),ob)) (some (some (.str [c]),ob)):=by kernel_rfl
theorem tA:∀ps:List (List Nat),bA [] ps=ps.flatten
 |[]=>rfl
 |[p]=>by show p=_;simp
 |p::q::r=>by show p++[]++bA [] (q::r)=_;rw[tA (q::r),List.append_nil];rfl
theorem qH{f:Nat->List Nat}{m:Nat}(h:∀c,(f c).length<=m):∀x:List Nat,(x.flatMap f).length<=x.length*m
 |[]=>by simp
 |c::r=>by have:=qH h r;have:=h c;rw[List.flatMap_cons,ae,aC,Nat.succ_mul];omega
theorem qI(c:Nat):(eG c).length<=3:=by
 unfold eG;cases d5 [c] [42,63,91] with
 |true=>exact aF 3
 |false=>show 1<=3;decide
theorem nw{ps:List (List Nat)}(h:ps.flatten.length<=br):(SU [] fj [.list (ps.map .str)]).run=some (.str ps.flatten):=by show(T.chk (dB (ps.map D.str)&&decide ((bA [] (cS (ps.map D.str))).length+0<=br)) (T.ret (D.str (bA [] (cS (ps.map D.str)))))).run=_;rw[dX,eD,tA,ce (by rw[ac (by exact h)];rfl)];rfl
theorem j3{s:List Nat}{ps:List (List Nat)}(h:(bA s ps).length+s.length<=br):(SU s fj [.list (ps.map .str)]).run=some (.str (bA s ps)):=by show(T.chk (dB (ps.map D.str)&&decide ((bA s (cS (ps.map D.str))).length+s.length<=br)) (T.ret (D.str (bA s (cS (ps.map D.str)))))).run=_;rw[dX,eD,ce (by rw[ac (by exact h)];rfl)];rfl
def Xc(ds:List D):T D:=t1 ds λa=>tS a λx=>.chk (decide (x.length<=100000)) (.ret (.str (eZ x)))
theorem Qe(x:List Nat)(ob:List Ob)(h:x.length<=100000):(eQ JB MB (ft 60) wJ [.str x] ob).run=some (.str (eZ x),ob):=by
 have b:br=16777216:=rfl;rw[TT];have a:=qH qI x;refine iY (st:=⟨JC x,none,ob⟩) (pi (j2 (fQ ?_)) (nw (ps:=x.map eG) ?_))
 .rw[cY (g:=λd=>match d with|.str [c]=>.str (eG c)|_=>.none)]
  .rw[aQ,aQ];rfl
  .intro d e;obtain⟨c,f,rfl⟩:=aE.mp e;rw[Qd];show _=some (some (D.str (eG c)),ob);unfold eG;cases d5 [c] [42,63,91]<;>rfl
 .rw[List.flatMap_def] at a;exact AX (bc 3 h) (aO b.symm) a
def JD:KT:=JB.add 925 (Fp Xc)
theorem TU(w:aq)(ts:Tb):fz w ts JD 11:=(TR w ts).next (E2 _) (jE (TR w ts) (E2 _) (PC _) λds ob d h=>by refine jJ h ?_;clear h;intro a e h;refine gF h ?_;clear h;intro x b h;refine ct h ?_;clear h;intro c h;rw[e,b,<-ag h];exact⟨rfl,Qe _ _ (ar c)⟩)
def da:bL->List Nat
 |none=>[42]
 |some (false,[])=>[63]
 |some (true,[c])=>eG c
 |some (true,x)=>[91]++x++[93]
 |some (false,x)=>[91,33]++x++[93]
theorem Qf(ob:List Ob):(eQ JD MB (ft 61) lu [.none] ob).run=some (.str [42],ob):=by kernel_rfl
theorem Qg(ob:List Ob):(eQ JD MB (ft 61) lu [.list [.bool false,.str []]] ob).run=some (.str [63],ob):=by kernel_rfl
theorem Qh(ob:List Ob):(eQ JD MB (ft 61) lu [.list [.bool true,.str []]] ob).run=some (.str [91,93],ob):=by kernel_rfl
theorem Qi(c:Nat)(ob:List Ob):(eQ JD MB (ft 61) lu [.list [.bool true,.str [c]]] ob).run=some (.str (eZ [c]),ob):=by kernel_rfl
theorem Qj(c e:Nat)(r:List Nat)(ob:List Ob):(eQ JD MB (ft 61) lu [.list [.bool true,.str (c::e::r)]] ob).run=iff (decide (1+(c::e::r).length<=br)) (iff (decide (([91]++c::e::r).length+1<=br)) (some (.str ([91]++(c::e::r)++[93]),ob)) none) none:=by kernel_rfl
theorem Qk(c:Nat)(r:List Nat)(ob:List Ob):(eQ JD MB (ft 61) lu [.list [.bool false,.str (c::r)]] ob).run=iff (decide (2+(c::r).length<=br)) (iff (decide (([91,33]++c::r).length+1<=br)) (some (.str ([91,33]++(c::r)++[93]),ob)) none) none:=by kernel_rfl
theorem Fo(i:bL)(ob:List Ob)(h:∀b x,i=some (b,x)->x.length<=1000):(eQ JD MB (ft 61) lu [bw i] ob).run=some (.str (da i),ob):=by
 have a:br=16777216:=rfl
 match i,h with
 |none,_=>exact Qf ob
 |some (false,[]),_=>exact Qg ob
 |some (true,[]),_=>exact Qh ob
 |some (true,[c]),_=>rw[show da (some (true,[c]))=eZ [c] from by show eG c=eG c++[];rw[List.append_nil]];exact Qi c ob
 |some (true,c::e::r),h=>have:=h _ _ rfl;exact(Qj c e r ob).trans (cF (ac (by exact k9 (aO a.symm) this)) (cF (ac (by rw[ae];show 1+_+1<=_;exact k9 (aO a.symm) this)) rfl))
 |some (false,c::r),h=>have:=h _ _ rfl;exact(Qk c r ob).trans (cF (ac (by exact k9 (aO a.symm) this)) (cF (ac (by rw[ae];show 2+_+1<=_;exact k9 (aO a.symm) this)) rfl))
def Xd(ds:List D):T D:=t1 ds λa=>match rD a with
 |true=>.ret (.str [42])
 |false=>tL a λl=>t2 l λb c=>(T.opt (WB b)).bind λb=>tS c λx=>.chk (decide (x.length<=1000)) (.ret (.str (da (some (b,x)))))
def vx:KT:=JD.add 932 (Fp Xd)
theorem TV(w:aq)(ts:Tb):fz w ts vx 12:=(TU w ts).next (E3 _) (jE (TU w ts) (E3 _) (PD _) λds ob d h=>by
 refine jJ h ?_;clear h;intro a e h;cases f:rD a with
 |true=>rw[f] at h;rw[e,lw f,<-ag h];exact⟨rfl,Fo none ob λb x e=>by cases e⟩
 |false=>rw[f] at h;refine IL h ?_;clear h;intro l g h;refine iK h ?_;clear h;intro b c i h;refine bv h ?_;clear h;intro b j h;refine gF h ?_;clear h;intro x k h;refine ct h ?_;clear h;intro m h;rw[e,g,i,Dg (bn j),k,<-ag h];exact⟨rfl,Fo (some (b,x)) ob λn o e=>by cases e;exact ar m⟩)
def BS(e:Expr)(sc:Sc):Sc:=match e with
 |.ListComp _ _ a _=>eh a.names sc
 |_=>sc
def wT:Expr:=ch (bV (cu (bd 62) 0)) 1
def Fq:Expr:=ch (ch wT 0) 1
def JE:Sc:=BS wT (sn 62)
abbrev wU(ps:List (List bL)):List (Nm×D):=[([112,97,116,116,101,114,110],eA ps)]
abbrev wV(is:List bL):List (Nm×D):=[([105,116,101,109,115],.list (is.map bw))]
theorem TW(ps:List (List bL))(ob:List Ob):eQ vx MB (ft 62) wK [eA ps] ob=wQ vx MB 59 (sn 62) [] (Sm vx [47] fj (yS vx MB 56 (sn 62) [] (BR (bO vx MB 55 (sn 62) wT (wU ps)) (ps.map λis=>.list (is.map bw)) (wU ps) none ob))):=by kernel_rfl
theorem Ql(ps:List (List bL))(is:List bL)(ob:List Ob):bO vx MB 55 (sn 62) wT (wU ps) (.list (is.map bw)) ob=.ask true ((Sm vx [] fj (yS vx MB 53 JE [] (BR (bO vx MB 52 JE Fq (wV is)) (is.map bw) (wV is) none ob))).bind λr=>.ret (some r.1,r.2.ob)) (.ret (none,ob)):=by kernel_rfl
theorem Qm(is:List bL)(ob:List Ob):(bO vx MB 52 JE Fq (wV is) .none ob).run=some (some (.str [42]),ob):=by kernel_rfl
theorem Qn(is:List bL)(b:Bool)(x:List Nat)(ob:List Ob):(bO vx MB 52 JE Fq (wV is) (.list [.bool b,.str x]) ob).run=iff (decide (x.length<=1000)) (some (some (.str (da (some (b,x)))),ob)) none:=by kernel_rfl
def lJ(i:bL):Bool:=match i with
 |none=>true
 |some (_,x)=>decide (x.length<=2)
def cC(is:List bL):List Nat:=(is.map da).flatten
def dY(ps:List (List bL)):List Nat:=bA [47] (ps.map cC)
theorem wW(i:bL)(h:lJ i=true):(da i).length<=5:=by
 match i,h with
 |none,_=>show 1<=5;decide
 |some (false,[]),_=>show 1<=5;decide
 |some (true,[]),_=>show 2<=5;decide
 |some (true,[c]),_=>have:=qI c;show(eG c).length<=5;exact aj this (aB _ _)
 |some (true,c::e::r),h=>replace h:(c::e::r).length<=2:=ar h;show([91]++(c::e::r)++[93]).length<=5;rw[ae,ae];show 1+_+1<=5;exact ir h
 |some (false,c::r),h=>replace h:(c::r).length<=2:=ar h;show([91,33]++(c::r)++[93]).length<=5;rw[ae,ae];show 2+_+1<=5;exact ir h
theorem Ay{α:Type}{f:α->List Nat}{m:Nat}:∀{l:List α},(∀a∈l,(f a).length<=m)->(l.map f).flatten.length<=l.length*m
 |[],_=>by simp
 |a::r,h=>by have c:=h a (.head _);have d:=Ay (l:=r) (f:=f) (m:=m) λb e=>h b (.tail _ e);rw[List.map_cons,List.flatten_cons,ae,aC,Nat.succ_mul];exact k9 c d
theorem gW{s:List Nat}{m:Nat}:∀{l:List (List Nat)},(∀a∈l,a.length<=m)->(bA s l).length<=l.length*(m+s.length)
 |[],_=>Nat.zero_le _
 |[a],h=>by have:=h a (.head _);show a.length<=_;simp only[aC,List.length_nil];omega
 |a::b::r,h=>by have d:=h a (.head _);have e:=gW (s:=s) (l:=b::r) (m:=m) λc f=>h c (.tail _ f);show(a++s++bA s (b::r)).length<=_;rw[ae,ae,aC (a:=a),Nat.succ_mul];exact k9 d e
theorem wX{is:List bL}(h:∀i∈is,lJ i=true):(cC is).length<=is.length*5:=Ay λi a=>wW i (h i a)
def Fr(ps:List (List bL)):Prop:=ps.length<=100/\∀is∈ps,is.length<=100/\∀i∈is,lJ i=true
theorem Fs{ps:List (List bL)}(h:Fr ps):(dY ps).length<=50100:=by
 have b:=gW (s:=[47]) (l:=ps.map cC) (m:=500) λa e=>by obtain⟨is,c,rfl⟩:=aE.mp e;have:=wX (h.2 is c).2;have:=(h.2 is c).1;omega
 rw[ak] at b;have:=h.1;have d:ps.length*(500+[47].length)<=100*501:=Nat.mul_le_mul this (by decide);unfold dY;exact aj b d
theorem Qo(ps:List (List bL))(is:List bL)(ob:List Ob)(f:is.length<=100)(c:∀i∈is,lJ i=true):(bO vx MB 55 (sn 62) wT (wU ps) (.list (is.map bw)) ob).run=some (some (.str (cC is)),ob):=by
 have h:br=16777216:=rfl;rw[Ql];refine cF rfl ?_;rw[bq (a:=(D.str (cC is),(⟨wV is,none,ob⟩:St)))]
 .rfl
 .have e:=wX c;refine pi (j2 (fQ ?_)) (nw (ps:=is.map da) (by unfold cC at e;exact AX (bc 5 f) (aO h.symm) e));rw[cY (g:=λd=>match d with
   |.none=>.str [42]
   |.list [.bool b,.str x]=>.str (da (some (b,x)))
   |_=>.none)]
  .rw[aQ,aQ];congr 2;apply List.map_congr_left;intro i _
   match i with
   |none=>rfl
   |some (b,x)=>rfl
  .intro d j;obtain⟨i,k,rfl⟩:=aE.mp j;have:=c i k
   match i,this with
   |none,_=>exact Qm is ob
   |some (b,x),this=>have:=ar this;exact(Qn is b x ob).trans (cF (ac (by exact aj this (aB _ _))) rfl)
theorem Qp(ps:List (List bL))(ob:List Ob)(h:Fr ps):(eQ vx MB (ft 62) wK [eA ps] ob).run=some (.str (dY ps),ob):=by
 have j:br=16777216:=rfl;rw[TW];have c:=Fs h;refine iY (st:=⟨wU ps,none,ob⟩) (pi (j2 (fQ ?_)) (j3 (s:=[47]) (ps:=ps.map cC) (by unfold dY at c;show _+1<=_;exact aS c (by decide))));have:∀a:List (List bL),(∀is∈a,is.length<=100/\∀i∈is,lJ i=true)->(dv (bO vx MB 55 (sn 62) wT (wU ps)) (a.map λis=>.list (is.map bw)) ob).run=some (((a.map cC).map .str),ob):=by
  intro a
  induction a with
  |nil=>intro k;rfl
  |cons is r g=>intro b;have d:=Qo ps is ob (b is (.head _)).1 (b is (.head _)).2;show((bO vx MB 55 (sn 62) wT (wU ps) (.list (is.map bw)) ob).bind λp=>(dv (bO vx MB 55 (sn 62) wT (wU ps)) (r.map λis=>.list (is.map bw)) p.2).bind λq=>T.ret ((match p.1 with|some e=>e::q.1|none=>q.1),q.2)).run=_;rw[bq d,bq (g λx f=>b x (.tail _ f))];rfl
 exact this ps h.2
def tB(d:D):Option bL:=match rD d with
 |true=>some none
 |false=>(rZ d).bind λl=>(C6 l).bind λp=>(WB p.1).bind λb=>(je p.2).bind λx=>some (some (b,x))
def ig{α β:Type}(f:α->Option β):List α->Option (List β)
 |[]=>some []
 |a::r=>(f a).bind λb=>(ig f r).bind λs=>some (b::s)
theorem Qq{α β:Type}{f:α->Option β}{a:α}{r:List α}:ig f (a::r)=(f a).bind λb=>(ig f r).bind λs=>some (b::s):=rfl
def nz(d:D):Option (List bL):=(rZ d).bind (ig tB)
def oU(d:D):Option (List (List bL)):=(rZ d).bind (ig nz)
theorem Fu{d:D}{i:bL}(h:tB d=some i):d=bw i:=by
 unfold tB at h;cases a:rD d with
 |true=>rw[a] at h;rw[lw a,<-ag h];rfl
 |false=>rw[a] at h;refine eW h ?_;clear h;intro l e h;refine eW h ?_;clear h;intro p c h;refine eW h ?_;clear h;intro b f h;refine eW h ?_;clear h;intro x g h;rw[gE e,pM c,Dg f,d9 g,<-ag h];rfl
theorem kQ{α β:Type}{f:α->Option β}{g:β->α}(c:∀a b,f a=some b->a=g b):∀{l:List α} {s:List β},ig f l=some s->l=s.map g
 |[],s,h=>by cases h;rfl
 |a::r,s,h=>by refine eW h ?_;clear h;intro b d h;refine eW h ?_;clear h;intro s' e h;rw[<-ag h,List.map_cons,<-c a b d,<-kQ c e]
theorem tC{d:D}{is:List bL}(h:nz d=some is):d=.list (is.map bw):=by refine eW h ?_;clear h;intro l e h;rw[gE e,kQ (λa b=>Fu) h]
theorem uZ{d:D}{ps:List (List bL)}(h:oU d=some ps):d=eA ps:=by refine eW h ?_;clear h;intro l e h;rw[gE e,kQ (λa b=>tC) h];rfl
theorem iZ{α β:Type}{f:α->Option β}{g:β->α}(a:∀b,f (g b)=some b):∀s:List β,ig f (s.map g)=some s
 |[]=>rfl
 |b::s=>by show(f (g b)).bind (λb=>(ig f (s.map g)).bind λs=>some (b::s))=_;rw[a b,iZ a s];rfl
theorem u3(i:bL):tB (bw i)=some i:=by
 match i with
 |none=>rfl
 |some (b,x)=>rfl
theorem qJ(is:List bL):nz (.list (is.map bw))=some is:=iZ u3 is
theorem nA(ps:List (List bL)):oU (eA ps)=some ps:=iZ qJ ps
def wY(ps:List (List bL)):Bool:=decide (ps.length<=100)&&ps.all λis=>decide (is.length<=100)&&is.all lJ
theorem JF{ps:List (List bL)}(h:wY ps=true):Fr ps:=by refine bx h λa b=>?_;refine⟨ar a,λis e=>?_⟩;refine bx (aW.mp b is e) λc d=>?_;exact⟨ar c,aW.mp d⟩
def Qr(ds:List D):T D:=t1 ds λd=>(T.opt (oU d)).bind λps=>.chk (wY ps) (.ret (.str (dY ps)))
def Az:KT:=vx.add 937 (Fp Qr)
theorem TX(w:aq)(ts:Tb):fz w ts Az 13:=(TV w ts).next (E4 _) (jE (TV w ts) (E4 _) (PF _) λds ob d h=>by refine jJ h ?_;clear h;intro d e h;refine bv h ?_;clear h;intro ps a h;refine ct h ?_;clear h;intro b h;rw[e,uZ (bn a),<-ag h];exact⟨rfl,Qp _ _ (JF b)⟩)
section
variable{K:KT}{M:gz}{n:Nat}{sc:Sc}{st st' st2:St}{s:Stmt}{r:List Stmt}{o:dN}{d:D}
theorem bk(h:(ex K M n sc s st).run=some (.next,st')):(cM K M (n+1) sc (s::r) st).run=(cM K M n sc r st').run:=by
 show((ex K M n sc s st).bind λp=>match p.1 with
  |.next=>cM K M n sc r p.2
  |o=>T.ret (o,p.2)).run=_
 rw[bq h]
theorem ff(h:(ex K M n sc s st).run=some (.ret d,st')):(cM K M (n+1) sc (s::r) st).run=some (.ret d,st'):=by
 show((ex K M n sc s st).bind λp=>match p.1 with
  |.next=>cM K M n sc r p.2
  |o=>T.ret (o,p.2)).run=_
 rw[bq h];rfl
theorem AA:(cM K M (n+1) sc [] st).run=some (.next,st):=rfl
abbrev Xe(s:Stmt):Prop:=s=.If (bV s) (cP s) (rB s) s.pos
theorem fR(a:Xe s){c:Bool}(h:(eF K M n sc (bV s) st).run=some (c,st')):(ex K M (n+1) sc s st).run=iff c (cM K M n sc (cP s) st').run (cM K M n sc (rB s) st').run:=by rw[a];show((eF K M n sc (bV s) st).bind λp=>T.ask p.1 (cM K M n sc (cP s) p.2) (cM K M n sc (rB s) p.2)).run=_;rw[bq h];rfl
abbrev TY(s:Stmt):Prop:=s=.Return (some (bV s)) s.pos
theorem Fv(a:TY s)(h:(ev K M n sc (bV s) st).run=some (d,st')):(ex K M (n+1) sc s st).run=some (.ret d,st'):=by rw[a];show((ev K M n sc (bV s) st).bind λp=>T.ret (dN.ret p.1,p.2)).run=_;rw[bq h];rfl
theorem fD{f:Ft}{xs:List Nm}{ds:List D}{ob:List Ob}(h:(cM K M 60 f.2.2.names f.2.1 ⟨dK xs ds,none,ob⟩).run=some (.ret d,st')):(eQ K M f xs ds ob).run=some (d,st'.ob):=by unfold eQ;rw[bq h];rfl
end
abbrev rP(w:Int)(x:List Nat):List (Nm×D):=[([119,97,121],.int w),([119,111,114,100],.str x)]
def JG:Stmt:=cu (bd 63) 1
def Qs:Stmt:=cu (cP JG) 0
def TZ:Expr:=ch (bV Qs) 1
def fy:Nat->List Nat->List Nat
 |0,x=>dt x
 |1,x=>x.flatMap λc=>[92,c]
 |_,x=>[34]++cB 34 [92,34] (cB 92 [92,92] x)++[34]
theorem JH(x:List Nat)(ob:List Ob):(eQ Az MB (ft 63) qD [.int 0,.str x] ob).run=iff (!x.isEmpty&&decide (x.length<=100000)) (some (.str (dt x),ob)) none:=by kernel_rfl
theorem T0:bd 63=cu (bd 63) 0::JG::(bd 63).drop 2:=by kernel_rfl
theorem Qt:cP JG=[Qs]:=by kernel_rfl
theorem JI(x:List Nat)(ob:List Ob):(ex Az MB 59 (sn 63) (cu (bd 63) 0) ⟨rP 1 x,none,ob⟩).run=some (.next,⟨rP 1 x,none,ob⟩):=by kernel_rfl
theorem JJ(x:List Nat)(ob:List Ob):(eF Az MB 57 (sn 63) (bV JG) ⟨rP 1 x,none,ob⟩).run=some (true,⟨rP 1 x,none,ob⟩):=by kernel_rfl
theorem JK(x:List Nat)(ob:List Ob):ev Az MB 55 (sn 63) (bV Qs) ⟨rP 1 x,none,ob⟩=Sm Az [] fj (yS Az MB 53 (sn 63) [] (BR (bO Az MB 52 (sn 63) TZ (rP 1 x)) (x.map λc=>.str [c]) (rP 1 x) none ob)):=by kernel_rfl
theorem JL(x:List Nat)(c:Nat)(ob:List Ob):(bO Az MB 52 (sn 63) TZ (rP 1 x) (.str [c]) ob).run=some (some (.str [92,c]),ob):=by kernel_rfl
theorem JM(x:List Nat)(ob:List Ob)(h:x.length<=100000):(eQ Az MB (ft 63) qD [.int 1,.str x] ob).run=some (.str (fy 1 x),ob):=by
 have b:br=16777216:=rfl;refine fD (st':=⟨rP 1 x,none,ob⟩) ?_;show(cM Az MB 60 (sn 63) (bd 63) ⟨rP 1 x,none,ob⟩).run=_;rw[T0,bk (JI x ob)];refine ff ?_;rw[fR (by kernel_rfl) (JJ x ob),bP,Qt];refine ff (Fv (by kernel_rfl) ?_);rw[JK];have a:=qH (f:=λc=>[92,c]) (m:=2) (λc=>aF 2) x;refine pi (j2 (fQ ?_)) (nw (ps:=x.map λc=>[92,c]) (by rw[List.flatMap_def] at a;exact AX (bc 2 h) (aO b.symm) a));rw[cY (g:=λd=>match d with|.str [c]=>.str [92,c]|_=>.none)]
 .rw[aQ,aQ];rfl
 .intro d e;obtain⟨c,i,rfl⟩:=aE.mp e;exact JL x c ob
theorem JN(x:List Nat)(ob:List Ob):(eQ Az MB (ft 63) qD [.int 2,.str x] ob).run=iff (decide (x.length+(x.length+1)*2<=br)) (iff (decide ((cB 92 [92,92] x).length+((cB 92 [92,92] x).length+1)*2<=br)) (iff (decide (1+(cB 34 [92,34] (cB 92 [92,92] x)).length<=br))
 (iff (decide (([34]++cB 34 [92,34] (cB 92 [92,92] x)).length+1<=br)) (some (.str ([34]++cB 34 [92,34] (cB 92 [92,92] x)++[34]),ob)) none) none) none) none:=by kernel_rfl
def T2(ds:List D):T D:=t2 ds λa b=>tI a λw=>tS b λx=>.chk (decide (0<=w)&&decide (w<3)&&!x.isEmpty&&decide (x.length<=100000)) (.ret (.str (fy w.toNat x)))
theorem Qu(w:Int)(x:List Nat)(ob:List Ob)(h:0<=w)(i:w<3)(f:x.isEmpty=false)(a:x.length<=100000):(eQ Az MB (ft 63) qD [.int w,.str x] ob).run=some (.str (fy w.toNat x),ob):=by
 have g:br=16777216:=rfl;have:w=0\/w=1\/w=2:=by omega
 rcases this with rfl|rfl|rfl
 .rw[JH,f,ac a];rfl
 .exact JM x ob a
 .have b:=fC 92 [92,92] x;have c:=fC 34 [92,34] (cB 92 [92,92] x);have d:([92,92]:List Nat).length=2:=rfl;have e:([92,34]:List Nat).length=2:=rfl;rw[d] at b;rw[e] at c;rw[JN];refine cF (ac (by exact k9 (bc 3 a) (aO g.symm))) (cF (ac (by omega)) (cF (ac (by omega)) (cF (ac ?_) rfl)));rw[ae];show 1+_+1<=_;omega
def BU:KT:=Az.add 942 (Fp T2)
theorem T3(w:aq)(ts:Tb):fz w ts BU 14:=(TX w ts).next (E5 _) (jE (TX w ts) (E5 _) (PG _) λds ob d h=>by
 refine iK h ?_;clear h;intro a b e h;refine x3 h ?_;clear h;intro w g h;refine gF h ?_;clear h;intro x i h;refine ct h ?_;clear h;intro c h
 .rw[e,g,i,<-ag h];refine bx c ?_;clear c;intro c k;refine bx c ?_;clear c;intro c f;refine bx c ?_;clear c;intro c j;rw[aN] at f;exact⟨rfl,Qu _ _ _ (ar c) (ar j) f (ar k)⟩)
def No(x:List Nat):Option bL:=match x with
 |[c]=>if c=63 then some (some (false,[])) else if c=91 then none else some (some (true,[c]))
 |[a,c]=>if a=92 then some (some (true,[c])) else none
 |x=>if x=[91,97,98,93] then some (some (true,[97,98])) else if x=[91,94,97,93] then some (some (false,[97])) else if x=[91,42,93] then some (some (true,[42])) else if x=[91,63,93] then some (some (true,[63])) else if x=[91,92,91,93] then some (some (true,[91])) else none
def oG:D->Option bL
 |.none=>some none
 |.str x=>No x
 |_=>none
theorem Qv(ob:List Ob):(eQ BU MB (ft 64) iB [.none] ob).run=some (.none,ob):=by kernel_rfl
theorem Fw(c:Nat)(ob:List Ob):(eQ BU MB (ft 64) iB [.str [c]] ob).run=iff (cr [c] [63]) (some (.list [.bool false,.str []],ob)) (iff (!cr [c] [91]) (some (.list [.bool true,.str [c]],ob)) none):=by kernel_rfl
theorem Qw(c:Nat)(ob:List Ob):(eQ BU MB (ft 64) iB [.str [92,c]] ob).run=some (.list [.bool true,.str [c]],ob):=by kernel_rfl
theorem JO(ob:List Ob):(eQ BU MB (ft 64) iB [.str [91,97,98,93]] ob).run=some (.list [.bool true,.str [97,98]],ob):=by kernel_rfl
theorem JP(ob:List Ob):(eQ BU MB (ft 64) iB [.str [91,94,97,93]] ob).run=some (.list [.bool false,.str [97]],ob):=by kernel_rfl
theorem JQ(ob:List Ob):(eQ BU MB (ft 64) iB [.str [91,42,93]] ob).run=some (.list [.bool true,.str [42]],ob):=by kernel_rfl
theorem JR(ob:List Ob):(eQ BU MB (ft 64) iB [.str [91,63,93]] ob).run=some (.list [.bool true,.str [63]],ob):=by kernel_rfl
theorem JS(ob:List Ob):(eQ BU MB (ft 64) iB [.str [91,92,91,93]] ob).run=some (.list [.bool true,.str [91]],ob):=by kernel_rfl
theorem gu{α:Type}{P:Prop}[Decidable P]{a b:Option α}{r:α}{G:Prop}(h:(if P then a else b)=some r)(c:P->a=some r->G)(d:¬P->b=some r->G):G:=by
 by_cases p:P
 .rw[aH p] at h;exact c p h
 .rw[av p] at h;exact d p h
theorem Qx{x:List Nat}{i:bL}(h:No x=some i)(ob:List Ob):(eQ BU MB (ft 64) iB [.str x] ob).run=some (bw i,ob):=by
 have b:∀x,(if x=[91,97,98,93] then some (some (true,[97,98])) else if x=[91,94,97,93] then some (some (false,[97])) else if x=[91,42,93] then some (some (true,[42])) else if x=[91,63,93] then some (some (true,[63])) else if x=[91,92,91,93] then some (some (true,[91])) else none)=some i->(eQ BU MB (ft 64) iB [.str x] ob).run=some (bw i,ob):=λx h=>by
  refine gu h (λe h=>?_) λa h=>gu h (λe h=>?_) λa h=>gu h (λe h=>?_) λa h=>gu h (λe h=>?_) λa h=>gu h (λe h=>?_) λa h=>by cases h
  all_goals (rw[e,<-ag h])
  .exact JO ob
  .exact JP ob
  .exact JQ ob
  .exact JR ob
  .exact JS ob
 rcases x with _|⟨c,_|⟨d,_|⟨e,r⟩⟩⟩
 .exact b _ h
 .refine gu h (λe h=>?_) λn h=>gu h (λa h=>by cases h) λf h=>?_
  .rw[e,<-ag h,Fw];rfl
  .rw[<-ag h,Fw,eM.mpr λq=>n (by cases q;rfl),eM.mpr λq=>f (by cases q;rfl)];rfl
 .refine gu h (λe h=>?_) λa h=>by cases h
  rw[e,<-ag h];exact Qw _ ob
 .exact b _ h
theorem Qy{d:D}{i:bL}(h:oG d=some i)(ob:List Ob):(eQ BU MB (ft 64) iB [d] ob).run=some (bw i,ob):=by
 cases d<;>first|exact cX h|skip
 .rw[<-ag h];exact Qv ob
 .exact Qx h ob
def Qz(ds:List D):T D:=t1 ds λd=>(T.opt (oG d)).bind λi=>.ret (bw i)
def li:KT:=BU.add 949 (Fp Qz)
theorem T4(w:aq)(ts:Tb):fz w ts li 15:=(T3 w ts).next (E6 _) (jE (T3 w ts) (E6 _) (PH _) λds ob d h=>by refine jJ h ?_;clear h;intro d e h;refine bv h ?_;clear h;intro i a h;rw[e,<-ag h];exact⟨rfl,Qy (bn a) _⟩)
abbrev dn(k:Nat):D:=.int (k:Int)
def cW(x:List Nat)(sp:List Nat):bL->List Nat
 |none=>(List.range (x.length+1)).filter λs=>!(sp.filter λt=>decide (t<=s)).isEmpty
 |some (b,y)=>(sp.filter λs=>decide (s<x.length)&&(d5 [x.getD s 0] y==b)).map (·+1)
def dI(is:List bL)(x:List Nat):Bool:=(is.foldl (cW x) [0]).contains x.length
abbrev j4:Nm:=[105,116,101,109]
abbrev kS:Nm:=[105,116,101,109,115]
abbrev Fx:Nm:=[110,97,109,101]
abbrev kT:Nm:=[115,112,111,116,115]
def fg(is:List bL)(x:List Nat)(sp:List Nat):Option D->List (Nm×D)
 |none=>[(kS,.list (is.map bw)),(Fx,.str x),(kT,.list (sp.map dn))]
 |some d=>[(kS,.list (is.map bw)),(Fx,.str x),(kT,.list (sp.map dn)),(j4,d)]
def yU:Stmt:=cu (bd 65) 1
def u5:Stmt:=cu (cP yU) 0
def rQ:Stmt:=cu (cP u5) 0
def BV:Stmt:=cu (rB u5) 0
def mA:Sc:=BS (bV rQ) (sn 65)
def tD:Expr:=ch (bV rQ) 2
def Np:Expr:=ch tD 0
theorem T5:bd 65=cu (bd 65) 0::yU::cu (bd 65) 2::[]:=by kernel_rfl
theorem QA:cP yU=[u5]:=by kernel_rfl
theorem QB:cP u5=[rQ]:=by kernel_rfl
theorem QC:rB u5=[BV]:=by kernel_rfl
section
variable(is:List bL)(x sp:List Nat)(ob:List Ob)
theorem JT:(ex li MB 59 (sn 65) (cu (bd 65) 0) ⟨dK tn [.list (is.map bw),.str x],none,ob⟩).run=some (.next,⟨fg is x [0] none,none,ob⟩):=by kernel_rfl
theorem JU:ex li MB 58 (sn 65) yU ⟨fg is x sp none,none,ob⟩=dS (λd st=>cM li MB 57 (sn 65) (cP yU) (st.set j4 d)) (is.map bw) ⟨fg is x sp none,none,ob⟩:=by kernel_rfl
theorem Fy(q:Option D):(eF li MB 55 (sn 65) (bV u5) (St.set ⟨fg is x sp q,none,ob⟩ j4 .none)).run=some (true,⟨fg is x sp (some .none),none,ob⟩):=by cases q<;>kernel_rfl
theorem Fz(q:Option D)(b:Bool)(y:List Nat):(eF li MB 55 (sn 65) (bV u5) (St.set ⟨fg is x sp q,none,ob⟩ j4 (.list [.bool b,.str y]))).run=some (false,⟨fg is x sp (some (.list [.bool b,.str y])),none,ob⟩):=by cases q<;>kernel_rfl
theorem JV(d:D):ex li MB 54 (sn 65) rQ ⟨fg is x sp (some d),none,ob⟩=.chk (fN 0 ((x.length:Int)+1)) ((BR (bO li MB 52 (sn 65) (bV rQ) (fg is x sp (some d))) ((List.range ((x.length:Int)+1-0).toNat).map λ(k:Nat)=>.int (0+(k:Int))) (fg is x sp (some d)) none ob).bind λp=>.ret (.next,p.2.set kT p.1)):=by kernel_rfl
theorem JW(d:D):ex li MB 54 (sn 65) BV ⟨fg is x sp (some d),none,ob⟩=((BR (bO li MB 52 (sn 65) (bV BV) (fg is x sp (some d))) (sp.map dn) (fg is x sp (some d)) none ob).bind λp=>.ret (.next,p.2.set kT p.1)):=by kernel_rfl
def qK(k:Nat):List (Nm×D):=[(kT,.list (sp.map dn)),([115],.int (0+(k:Int)))]
theorem FA(d:D)(k:Nat):bO li MB 52 (sn 65) (bV rQ) (fg is x sp (some d)) (.int (0+(k:Int))) ob=(zO li MB 52 mA [tD] ⟨qK sp k,none,ob⟩).bind λq=>.ask q.1 ((ev li MB 52 mA (ch (bV rQ) 0) q.2).bind λr=>.ret (some r.1,r.2.ob)) (.ret (none,q.2.ob)):=by kernel_rfl
theorem FB(k:Nat):eF li MB 51 mA tD ⟨qK sp k,none,ob⟩=((BR (bO li MB 48 mA Np (qK sp k)) (sp.map dn) (qK sp k) none ob).bind λp=>(ev li MB 49 mA (ch tD 1) p.2).bind λq=>(lU .NotEq p.1 q.1).bind λb=>.ret (b,q.2)):=by kernel_rfl
theorem FC(k t:Nat):(bO li MB 48 mA Np (qK sp k) (dn t) ob).run=iff (decide ((t:Int)<=0+(k:Int))) (some (some (dn t),ob)) (some (none,ob)):=by kernel_rfl
theorem JX(k:Nat):(ev li MB 49 mA (ch tD 1) ⟨qK sp k,none,ob⟩).run=some (.list [],⟨qK sp k,none,ob⟩):=by kernel_rfl
theorem FE(k:Nat):(ev li MB 52 mA (ch (bV rQ) 0) ⟨qK sp k,none,ob⟩).run=some (.int (0+(k:Int)),⟨qK sp k,none,ob⟩):=by kernel_rfl
theorem FF(b:Bool)(y:List Nat)(k:Nat):(bO li MB 52 (sn 65) (bV BV) (fg is x sp (some (.list [.bool b,.str y]))) (dn k) ob).run=iff (decide ((k:Int)<(x.length:Int))) (iff (cL (k:Int) x.length) (iff (d5 [x.getD (gy (k:Int) x.length) 0] y==b) (some (some (.int ((k:Int)+1)),ob)) (some (none,ob))) none) (some (none,ob)):=by kernel_rfl
theorem JY(q:Option D):(ex li MB 57 (sn 65) (cu (bd 65) 2) ⟨fg is x sp q,none,ob⟩).run=iff (eN (.int (x.length:Int))&&iT (sp.map dn)) (some (.ret (.bool (jf (.int (x.length:Int)) (sp.map dn))),⟨fg is x sp q,none,ob⟩)) none:=by cases q<;>kernel_rfl
end
theorem T6{K:KT}{M:gz}{n:Nat}{sc:Sc}{c:Expr}{st st':St}{b:Bool}(h:(eF K M (n+1) sc c st).run=some (b,st')):(zO K M (n+2) sc [c] st).run=some (b,st'):=by show((eF K M (n+1) sc c st).bind λp=>T.ask p.1 (zO K M (n+1) sc [] p.2) (.ret (false,p.2))).run=_;rw[bq h];cases b<;>rfl
theorem AB(n:Nat)(l:List Nat):oR (fF n) (l.map dn)=true:=lT λd a=>by obtain⟨k,b,rfl⟩:=aE.mp a;cases n<;>rfl
theorem yV(l:List Nat):(lU .NotEq (.list (l.map dn)) (.list [])).run=some (!l.isEmpty):=by
 show(T.chk (eN (.list (l.map dn))&&eN (.list [])) (T.ret (!deq (.list (l.map dn)) (.list [])))).run=_;rw[ce (by have:eN (.list (l.map dn))=true:=AB 4 l;rw[this];rfl)]
 cases l<;>rfl
theorem AC{g:D->Option D}{c:Nat->Bool}{f:Nat->Nat}:∀{l:List Nat},(∀k∈l,g (dn k)=iff (c k) (some (dn (f k))) none)->(l.map dn).filterMap g=((l.filter c).map f).map dn
 |[],_=>rfl
 |k::r,h=>by have b:=AC (g:=g) (c:=c) (f:=f) (l:=r) λe a=>h e (.tail _ a);rw[List.map_cons,List.filterMap_cons,h k (.head _),b,List.filter_cons];cases c k<;>rfl
theorem AD(n:Nat):∀l:List Nat,jf (.int (n:Int)) (l.map dn)=l.contains n
 |[]=>rfl
 |k::r=>by show(deq (dn k) (.int (n:Int))||jf (.int (n:Int)) (r.map dn))=_;rw[AD n r,List.contains_cons];congr 1;show((k:Int)==(n:Int))=(n==k);rw[Bool.eq_iff_iff,beq_iff_eq,beq_iff_eq];omega
section
variable(is:List bL)(x sp:List Nat)(ob:List Ob)
theorem BW(k:Nat):(eF li MB 51 mA tD ⟨qK sp k,none,ob⟩).run=some (!(sp.filter λt=>decide (t<=k)).isEmpty,⟨qK sp k,none,ob⟩):=by
 rewrite[FB,bq (fQ (es:=(sp.filter λt=>decide (t<=k)).map dn) ?_),bq (JX sp ob k),bq (yV _)]
 .rfl
 .rw[fY (g:=λd=>match d with|.int t=>iff (decide (t<=0+(k:Int))) (some (.int t)) none|_=>none)]
  .rw[AC (c:=λt=>decide (t<=k)) (f:=λt=>t) λt b=>by show iff (decide ((t:Int)<=0+(k:Int))) _ _=_;rw[show decide ((t:Int)<=0+(k:Int))=decide (t<=k) from by rw[decide_eq_decide];omega],List.map_id']
  .intro d a;obtain⟨t,b,rfl⟩:=aE.mp a;rw[FC];show _=some (iff (decide ((t:Int)<=0+(k:Int))) (some (D.int t)) none,ob);cases decide ((t:Int)<=0+(k:Int))<;>rfl
theorem tE(d:D)(l:List Nat):St.set ⟨fg is x sp (some d),none,ob⟩ kT (.list (l.map dn))=⟨fg is x l (some d),none,ob⟩:=by kernel_rfl
theorem yW(h:x.length<=100000):(ex li MB 54 (sn 65) rQ ⟨fg is x sp (some .none),none,ob⟩).run=some (.next,⟨fg is x (cW x sp none) (some .none),none,ob⟩):=by
 rewrite[JV,ce (eY (by exact aX _) (by omega)),bq (fQ (es:=(cW x sp none).map dn) ?_)]
 .show some (dN.next,St.set _ _ _)=_;rw[tE]
 .have e:((x.length:Int)+1-0).toNat=x.length+1:=by exact Nat.succ_add _ _
  rw[e];have a:((List.range (x.length+1)).map λ(k:Nat)=>D.int (0+(k:Int)))=(List.range (x.length+1)).map dn:=by apply List.map_congr_left;intro k _;show D.int (0+(k:Int))=.int k;rw[Int.zero_add]
  have b:∀k:Nat,(bO li MB 52 (sn 65) (bV rQ) (fg is x sp (some .none)) (dn k) ob).run=some (iff (!(sp.filter λt=>decide (t<=k)).isEmpty) (some (dn k)) none,ob):=λk=>by
   have:=FA is x sp ob .none k;rw[show D.int (0+(k:Int))=dn k from by rw[Int.zero_add]] at this;rw[this,bq (T6 (BW sp ob k))];show iff _ _ _=_;cases(!(sp.filter λt=>decide (t<=k)).isEmpty) with
   |false=>rfl
   |true=>rw[bP,bq (FE sp ob k),Int.zero_add];rfl
  rw[a,fY (g:=λd=>match d with|.int t=>iff (!(sp.filter λu=>decide (u<=t.toNat)).isEmpty) (some (.int t)) none|_=>none)]
  .rw[AC (c:=λs=>!(sp.filter λt=>decide (t<=s)).isEmpty) (f:=λt=>t) λt j=>by show iff (!(sp.filter λu=>decide (u<=((t:Int)).toNat)).isEmpty) _ _=_;rw[Int.toNat_natCast],List.map_id']
   rfl
  .intro d i;obtain⟨t,j,rfl⟩:=aE.mp i;rw[b];show _=some (iff (!(sp.filter λu=>decide (u<=((t:Int)).toNat)).isEmpty) (some (D.int t)) none,ob);rw[Int.toNat_natCast]
theorem yX(b:Bool)(y:List Nat):(ex li MB 54 (sn 65) BV ⟨fg is x sp (some (.list [.bool b,.str y])),none,ob⟩).run=some (.next,⟨fg is x (cW x sp (some (b,y))) (some (.list [.bool b,.str y])),none,ob⟩):=by
 rewrite[JW,bq (fQ (es:=(cW x sp (some (b,y))).map dn) ?_)]
 .show some (dN.next,St.set _ _ _)=_;rw[tE]
 .have e:∀k:Nat,(bO li MB 52 (sn 65) (bV BV) (fg is x sp (some (.list [.bool b,.str y]))) (dn k) ob).run=some (iff (decide (k<x.length)&&(d5 [x.getD k 0] y==b)) (some (dn (k+1))) none,ob):=λk=>by
   rw[FF];by_cases a:k<x.length
   .rw[ac (show((k:Int)<(x.length:Int)) by exact Int.ofNat_lt.mpr a),ac a,fI (by exact aX _) (by exact Int.ofNat_lt.mpr a),kP (by exact aX _),Int.toNat_natCast];show iff (d5 [x.getD k 0] y==b) _ _=some (iff (d5 [x.getD k 0] y==b) _ _,ob);cases(d5 [x.getD k 0] y==b)<;>rfl
   .rw[aG (show ¬((k:Int)<(x.length:Int)) by exact λq=>Nat.not_lt_of_le (ir (Nat.le_of_not_lt a)) (Int.ofNat_lt.mp q)),aG a];rfl
  rw[fY (g:=λd=>match d with|.int t=>iff (decide (t.toNat<x.length)&&(d5 [x.getD t.toNat 0] y==b)) (some (dn (t.toNat+1))) none|_=>none)]
  .rw[AC (c:=λs=>decide (s<x.length)&&(d5 [x.getD s 0] y==b)) (f:=λt=>t+1) λt i=>by show iff (decide (((t:Int)).toNat<x.length)&&(d5 [x.getD ((t:Int)).toNat 0] y==b)) (some (dn (((t:Int)).toNat+1))) none=_;rw[Int.toNat_natCast]]
   rfl
  .intro d h;obtain⟨t,i,rfl⟩:=aE.mp h;rw[e];show _=some (iff (decide (((t:Int)).toNat<x.length)&&(d5 [x.getD ((t:Int)).toNat 0] y==b)) (some (dn (((t:Int)).toNat+1))) none,ob);rw[Int.toNat_natCast]
theorem yY(q:Option D)(i:bL)(h:x.length<=100000):(cM li MB 57 (sn 65) (cP yU) (St.set ⟨fg is x sp q,none,ob⟩ j4 (bw i))).run=some (.next,⟨fg is x (cW x sp i) (some (bw i)),none,ob⟩):=by
 rw[QA]
 match i with
 |none=>refine(bk (st':=⟨fg is x (cW x sp none) (some .none),none,ob⟩) ?_).trans rfl;show(ex li MB 56 (sn 65) u5 (St.set ⟨fg is x sp q,none,ob⟩ j4 .none)).run=_;rw[fR (by kernel_rfl) (Fy is x sp ob q),bP,QB];exact(bk (yW is x sp ob h)).trans rfl
 |some (b,y)=>refine(bk (st':=⟨fg is x (cW x sp (some (b,y))) (some (.list [.bool b,.str y])),none,ob⟩) ?_).trans rfl;show(ex li MB 56 (sn 65) u5 (St.set ⟨fg is x sp q,none,ob⟩ j4 (.list [.bool b,.str y]))).run=_;rw[fR (by kernel_rfl) (Fz is x sp ob q b y),cU,QC];exact(bk (yX is x sp ob b y)).trans rfl
end
theorem QD(is:List bL)(x:List Nat)(ob:List Ob)(h:x.length<=100000):(eQ li MB (ft 65) tn [.list (is.map bw),.str x] ob).run=some (.bool (dI is x),ob):=by
 obtain⟨e,c,b⟩:=tz (f:=λd st=>cM li MB 57 (sn 65) (cP yU) (st.set j4 d)) (g:=λ(a:List Nat) d=>match tB d with|some i=>cW x a i|none=>a) (mk:=λa q=>⟨fg is x a q,none,ob⟩) (ok:=λb=>True) (ds:=is.map bw) (a:=[0]) (q:=none)
  (λa q d b k=>⟨by obtain⟨i,b,rfl⟩:=aE.mp k;refine⟨.next,?_,.inl rfl⟩;rw[yY is x a ob q i h,u3],trivial⟩) trivial
 have j:(is.map bw).foldl (λ(a:List Nat) d=>match tB d with|some i=>cW x a i|none=>a) [0]=is.foldl (cW x) [0]:=by rw[List.foldl_map];congr 1;funext a i;rw[u3]
 rw[j] at c;refine fD (st':=⟨fg is x (is.foldl (cW x) [0]) e,none,ob⟩) ?_;show(cM li MB 60 (sn 65) (bd 65) ⟨dK tn [.list (is.map bw),.str x],none,ob⟩).run=_;rw[T5,bk (JT is x ob),bk (st':=⟨fg is x (is.foldl (cW x) [0]) e,none,ob⟩) (by rw[JU];exact c)];refine ff ?_;rw[JY];refine cF ?_ ?_
 .rw[show iT ((is.foldl (cW x) [0]).map dn)=true from AB 5 _];rfl
 .rw[AD];rfl
def FG(ds:List D):T D:=t2 ds λd b=>tS b λx=>(T.opt (nz d)).bind λis=>.chk (decide (x.length<=100000)) (.ret (.bool (dI is x)))
def kU:KT:=li.add 954 (Fp FG)
theorem T7(w:aq)(ts:Tb):fz w ts kU 16:=(T4 w ts).next (E7 _) (jE (T4 w ts) (E7 _) (PI _) λds ob d h=>by refine iK h ?_;clear h;intro d b e h;refine gF h ?_;clear h;intro x a h;refine bv h ?_;clear h;intro is c h;refine ct h ?_;clear h;intro f h;rw[e,a,tC (bn c),<-ag h];exact⟨rfl,QD _ _ _ (ar f)⟩)
theorem wZ{f:D->St->T (dN×St)}{mk:Option D->St}{c:D->Bool}{r:D}{ob:List Ob}:∀{ds:List D} {q:Option D},(∀q,∀d∈ds,(c d=true/\(f d (mk q)).run=some (.next,mk (some d)))\/(c d=false/\∃v ow,(f d (mk q)).run=some (.ret r,⟨v,ow,ob⟩)))->
 (ds.all c=true/\∃j,(dS f ds (mk q)).run=some (.next,mk j))\/(ds.all c=false/\∃v ow,(dS f ds (mk q)).run=some (.ret r,⟨v,ow,ob⟩))
 |[],q,_=>.inl ⟨rfl,q,rfl⟩
 |d::ds,q,h=>by
  have e:(dS f (d::ds) (mk q)).run=((f d (mk q)).bind λp=>match p.1 with
   |.next=>dS f ds p.2
   |.cont=>dS f ds p.2
   |.brk=>T.ret (dN.next,p.2)
   |.ret r=>T.ret (dN.ret r,p.2)).run:=rfl
  rcases h q d (.head _) with⟨a,b⟩|⟨a,v,ow,b⟩
  .rcases wZ (f:=f) (mk:=mk) (c:=c) (r:=r) (ob:=ob) (ds:=ds) (q:=some d) (λq e k=>h q e (.tail _ k)) with⟨g,j,i⟩|⟨g,v,ow,i⟩
   .exact .inl ⟨by rw[List.all_cons,a,g];rfl,j,by rw[e,bq b];exact i⟩
   .exact .inr ⟨by rw[List.all_cons,a,g];rfl,v,ow,by rw[e,bq b];exact i⟩
  .exact .inr ⟨by rw[List.all_cons,a];rfl,v,ow,by rw[e,bq b];rfl⟩
theorem eH{l:List D}{k:Nat}{d:D}(h:l[k]?=some d):(dA (.list l) (.int (k:Int))).run=some d:=by have a:k<l.length:=(aY.mp h).1;show(T.chk (cL (k:Int) l.length) (T.ret (l.getD (gy (k:Int) l.length) .none))).run=_;rw[ce (fI (by exact aX _) (by exact Int.ofNat_lt.mpr a)),kP (by exact aX _),Int.toNat_natCast];show some _=_;rw[List.getD,h];rfl
theorem FH(c:Nat)(r:List Nat):(dA (.str (c::r)) (.int 0)).run=some (.str [c]):=by show(T.chk (cL 0 (c::r).length) (T.ret (D.str [(c::r).getD (gy 0 (c::r).length) 0]))).run=_;rw[ce (fI (by exact aX _) (by rw[aC];exact Int.ofNat_lt.mpr (Nat.succ_pos _))),kP (by exact aX _)];rfl
abbrev kW:Nm:=[112,97,116,116,101,114,110]
abbrev mB:Nm:=[110,97,109,101,115]
abbrev lK:Nm:=[107]
def j5(ps:List (List bL))(ns:List (List Nat)):Option D->List (Nm×D)
 |none=>[(kW,eA ps),(mB,.list (ns.map .str))]
 |some d=>[(kW,eA ps),(mB,.list (ns.map .str)),(lK,d)]
def oV:Stmt:=cu (bd 67) 0
def w0:Stmt:=cu (cP oV) 0
def BX:Stmt:=cu (cP oV) 1
def FJ:Expr:=ch (bV w0) 0
def FK:Expr:=ch (bV w0) 1
theorem Nq:bd 67=oV::cu (bd 67) 1::[]:=by kernel_rfl
theorem QE:cP oV=w0::BX::[]:=by kernel_rfl
section
variable(ps:List (List bL))(ns:List (List Nat))(ob:List Ob)
abbrev dZ(ps:List (List bL))(ns:List (List Nat))(ob:List Ob)(d:D):St:=⟨j5 ps ns (some d),none,ob⟩
theorem JZ:ex kU MB 59 (sn 67) oV ⟨j5 ps ns none,none,ob⟩=.chk (fN 0 ((ns.map D.str).length:Int)) (dS (λd st=>cM kU MB 58 (sn 67) (cP oV) (st.set lK d)) ((List.range (((ns.map D.str).length:Int)-0).toNat).map λ(k:Nat)=>.int (0+(k:Int))) ⟨j5 ps ns none,none,ob⟩):=by kernel_rfl
theorem J0(q:Option D)(d:D):St.set ⟨j5 ps ns q,none,ob⟩ lK d=dZ ps ns ob d:=by cases q<;>kernel_rfl
theorem J1(k:Nat):eF kU MB 54 (sn 67) FJ (dZ ps ns ob (dn k))=(dA (.list (ns.map .str)) (dn k)).bind λd=>((dA d (.int 0)).bind λd2=>.ret (d2,dZ ps ns ob (dn k))).bind λp=>(ev kU MB 52 (sn 67) (ch FJ 1) p.2).bind λq=>(lU .Eq p.1 q.1).bind λb=>.ret (b,q.2):=by kernel_rfl
theorem FM(k:Nat):(ev kU MB 52 (sn 67) (ch FJ 1) (dZ ps ns ob (dn k))).run=some (.str [46],dZ ps ns ob (dn k)):=by kernel_rfl
theorem J2(k:Nat):eF kU MB 53 (sn 67) FK (dZ ps ns ob (dn k))=(dA (eA ps) (dn k)).bind λd=>((dA d (.int 0)).bind λd2=>.ret (d2,dZ ps ns ob (dn k))).bind λp=>(ev kU MB 51 (sn 67) (ch FK 1) p.2).bind λq=>(lU .NotEq p.1 q.1).bind λb=>.ret (b,q.2):=by kernel_rfl
theorem FN(k:Nat):(ev kU MB 51 (sn 67) (ch FK 1) (dZ ps ns ob (dn k))).run=some (.list [.bool true,.str [46]],dZ ps ns ob (dn k)):=by kernel_rfl
theorem J3(k:Nat):eF kU MB 56 (sn 67) (bV w0) (dZ ps ns ob (dn k))=(eF kU MB 54 (sn 67) FJ (dZ ps ns ob (dn k))).bind λp=>.ask p.1 ((eF kU MB 53 (sn 67) FK p.2).bind λp=>.ask p.1 (.ret (true,p.2)) (.ret (false,p.2))) (.ret (false,p.2)):=by kernel_rfl
theorem J4(k:Nat):eF kU MB 55 (sn 67) (bV BX) (dZ ps ns ob (dn k))=(dA (eA ps) (dn k)).bind λd1=>(dA (.list (ns.map .str)) (dn k)).bind λd2=>((((kU.fn 954 [d1,d2] ob).bind λr=>.ret (r.1,(⟨j5 ps ns (some (dn k)),none,r.2⟩:St))).bind λp=>(T.opt (gB p.1)).bind λb=>.ret (b,p.2)).bind λp=>.ret (!p.1,p.2)):=by kernel_rfl
theorem FO(k:Nat):(cM kU MB 56 (sn 67) (cP w0) (dZ ps ns ob (dn k))).run=some (.ret (.bool false),dZ ps ns ob (dn k)):=by kernel_rfl
theorem BY:rB w0=[]:=by kernel_rfl
theorem FP(k:Nat):(cM kU MB 55 (sn 67) (cP BX) (dZ ps ns ob (dn k))).run=some (.ret (.bool false),dZ ps ns ob (dn k)):=by kernel_rfl
theorem BZ:rB BX=[]:=by kernel_rfl
theorem J5(q:Option D):(ex kU MB 58 (sn 67) (cu (bd 67) 1) ⟨j5 ps ns q,none,ob⟩).run=some (.ret (.bool true),⟨j5 ps ns q,none,ob⟩):=by cases q<;>kernel_rfl
end
def mC(i:bL):Bool:=deq (bw i) (.list [.bool true,.str [46]])
def w4(is:List bL)(x:List Nat):Bool:=match is,x with
 |i::_,c::_=>!(cr [c] [46]&&!mC i)&&dI is x
 |_,_=>false
def fq(ps:List (List bL))(ns:List (List Nat))(k:Nat):Bool:=match ps[k]?,ns[k]? with
 |some is,some x=>w4 is x
 |_,_=>false
theorem B4(i:bL)(n:Nat):fF (n+1) (bw i)=true:=by
 match i with
 |none=>rfl
 |some (b,x)=>cases n<;>rfl
section
variable{ps:List (List bL)}{ns:List (List Nat)}{ob:List Ob}
theorem FQ{k:Nat}{c:Nat}{r:List Nat}(h:ns[k]?=some (c::r)):(eF kU MB 54 (sn 67) FJ (dZ ps ns ob (dn k))).run=some (cr [c] [46],dZ ps ns ob (dn k)):=by
 have h':(ns.map D.str)[k]?=some (.str (c::r)):=by rw[List.getElem?_map,h];rfl
 rw[J1,bq (eH h'),bq (a:=(D.str [c],dZ ps ns ob (dn k))) (by rw[bq (FH c r)];rfl),bq (FM ps ns ob k)];rfl
theorem FR{k:Nat}{i:bL}{is:List bL}(h:ps[k]?=some (i::is)):(eF kU MB 53 (sn 67) FK (dZ ps ns ob (dn k))).run=some (!mC i,dZ ps ns ob (dn k)):=by
 have h':(ps.map λis=>D.list (is.map bw))[k]?=some (.list (bw i::is.map bw)):=by rw[List.getElem?_map,h];rfl
 have c:(dA (.list (bw i::is.map bw)) (.int 0)).run=some (bw i):=eH (k:=0) rfl;rw[J2,show eA ps=.list (ps.map λis=>D.list (is.map bw)) from rfl,bq (eH h'),bq (a:=(bw i,dZ ps ns ob (dn k))) (by rw[bq c];rfl),bq (FN ps ns ob k)];have b:(lU .NotEq (bw i) (.list [.bool true,.str [46]])).run=some (!mC i):=by show(T.chk (eN (bw i)&&eN (.list [.bool true,.str [46]])) (T.ret (!deq (bw i) (.list [.bool true,.str [46]])))).run=_;rw[ce (by rw[show eN (bw i)=true from B4 i 4];rfl)];rfl
 rw[bq b];rfl
theorem yZ{k:Nat}{q:Option D}{c:Nat}{r:List Nat}{i:bL}{is:List bL}(j:ns[k]?=some (c::r))(l:ps[k]?=some (i::is))(p:(c::r).length<=100000):
 (cM kU MB 58 (sn 67) (cP oV) (St.set ⟨j5 ps ns q,none,ob⟩ lK (dn k))).run=iff (w4 (i::is) (c::r)) (some (.next,dZ ps ns ob (dn k))) (some (.ret (.bool false),dZ ps ns ob (dn k))):=by
 rw[J0,QE];have t:(eF kU MB 56 (sn 67) (bV w0) (dZ ps ns ob (dn k))).run=some (cr [c] [46]&&!mC i,dZ ps ns ob (dn k)):=by
  rw[J3,bq (FQ j)];show iff _ _ _=_;cases cr [c] [46] with
  |false=>rfl
  |true=>rw[bP,bq (FR l)];show iff _ _ _=_;cases mC i<;>rfl
 have e:=fR (K:=kU) (M:=MB) (n:=56) (s:=w0) (sc:=sn 67) (by kernel_rfl) t;show _=iff (!(cr [c] [46]&&!mC i)&&dI (i::is) (c::r)) _ _;cases m:(cr [c] [46]&&!mC i) with
 |true=>rw[m,bP,FO] at e;rw[ff e];rfl
 |false=>
  rw[m,cU,BY] at e;rw[bk (e.trans rfl)];have f:(ns.map D.str)[k]?=some (.str (c::r)):=by rw[List.getElem?_map,j];rfl
  have g:(ps.map λis=>D.list (is.map bw))[k]?=some (.list ((i::is).map bw)):=by rw[List.getElem?_map,l];rfl
  have u:(kU.fn 954 [.list ((i::is).map bw),.str (c::r)] ob).run=some (.bool (dI (i::is) (c::r)),ob):=by
   show((FG [.list ((i::is).map bw),.str (c::r)]).bind λd=>T.ret (d,ob)).run=_;have v:(FG [.list ((i::is).map bw),.str (c::r)]).run=some (.bool (dI (i::is) (c::r))):=by show((T.opt (nz (.list ((i::is).map bw)))).bind λh=>T.chk (decide ((c::r).length<=100000)) (T.ret (D.bool (dI h (c::r))))).run=_;rw[qJ,bq (a:=(i::is)) rfl,ce (ac p)];rfl
   rw[bq v];rfl
  have w:(eF kU MB 55 (sn 67) (bV BX) (dZ ps ns ob (dn k))).run=some (!dI (i::is) (c::r),dZ ps ns ob (dn k)):=by rw[J4,show eA ps=.list (ps.map λis=>D.list (is.map bw)) from rfl,bq (eH g),bq (eH f)];rw[bY,bY,bY,u];rfl
  have b:=fR (K:=kU) (M:=MB) (n:=55) (s:=BX) (sc:=sn 67) (by kernel_rfl) w;cases o:dI (i::is) (c::r) with
  |false=>rw[o,Bool.not_false,bP,FP] at b;rw[ff b];rfl
  |true=>rw[o,Bool.not_true,cU,BZ] at b;rw[bk (b.trans rfl)];rfl
end
def Nr(ps:List (List bL))(ns:List (List Nat)):Prop:=ps.length=ns.length/\ns.length<=1000/\(∀is∈ps,is≠[])/\∀x∈ns,x≠[]/\x.length<=100000
def eJ(ps:List (List bL))(ns:List (List Nat)):Bool:=(List.range ns.length).all (fq ps ns)
theorem QF(ps:List (List bL))(ns:List (List Nat))(ob:List Ob)(h:Nr ps ns):(eQ kU MB (ft 67) Au [eA ps,.list (ns.map .str)] ob).run=some (.bool (eJ ps ns),ob):=by
 obtain⟨z,F,A,B⟩:=h;have C:(ns.map D.str).length=ns.length:=ak ..;have s:∀q,∀d∈((List.range ns.length).map dn),((match d with|.int t=>fq ps ns t.toNat|_=>false)=true/\(cM kU MB 58 (sn 67) (cP oV) (St.set ⟨j5 ps ns q,none,ob⟩ lK d)).run=some (.next,⟨j5 ps ns (some d),none,ob⟩))\/
  ((match d with|.int t=>fq ps ns t.toNat|_=>false)=false/\∃v ow,(cM kU MB 58 (sn 67) (cP oV) (St.set ⟨j5 ps ns q,none,ob⟩ lK d)).run=some (.ret (.bool false),⟨v,ow,ob⟩)):=by
  intro q d E;obtain⟨k,l,rfl⟩:=aE.mp E;replace l:=List.mem_range.mp l;have n:ns[k]?=some ns[k]:=aD l;have m:ps[k]?=some ps[k]:=aD (by exact Nat.lt_of_lt_of_eq l z.symm);have a:=B _ (List.mem_of_getElem? n);have b:=A _ (List.mem_of_getElem? m);have p:fq ps ns ((k:Int)).toNat=w4 ps[k] ns[k]:=by unfold fq;rw[Int.toNat_natCast,n,m]
  generalize ns[k]=x at n a p;generalize ps[k]=is at m b p
  match x,is,a,b with
  |c::r,i::is,a,_=>
   have j:=yZ (ob:=ob) (q:=q) n m a.2;show(fq ps ns ((k:Int)).toNat=true/\_)\/(fq ps ns ((k:Int)).toNat=false/\_);rw[p];cases w:w4 (i::is) (c::r) with
   |true=>rw[w] at j;exact .inl ⟨rfl,j⟩
   |false=>rw[w] at j;exact .inr ⟨rfl,_,_,j⟩
  |[],_,a,_=>exact aK rfl a.1
  |_::_,[],_,b=>exact aK rfl b
 have e:((List.range ns.length).map dn).all (λd=>match d with|.int t=>fq ps ns t.toNat|_=>false)=eJ ps ns:=by rw[List.all_map];unfold eJ;congr 1
 have u:(ex kU MB 59 (sn 67) oV ⟨j5 ps ns none,none,ob⟩).run=(dS (λd st=>cM kU MB 58 (sn 67) (cP oV) (st.set lK d)) ((List.range ns.length).map dn) ⟨j5 ps ns none,none,ob⟩).run:=by rw[JZ,ce (eY (by exact aX _) (by omega)),C,show(((ns.length:Int))-0).toNat=ns.length from by exact Yy _];congr 2;apply List.map_congr_left;intro k _;show D.int (0+(k:Int))=.int k;rw[Int.zero_add]
 rcases wZ (f:=λd st=>cM kU MB 58 (sn 67) (cP oV) (st.set lK d)) (mk:=λq=>⟨j5 ps ns q,none,ob⟩) (r:=.bool false) (ob:=ob) (q:=none) s with⟨g,y,o⟩|⟨g,v,ow,o⟩
 .rw[e] at g;rw[g];refine fD (st':=⟨j5 ps ns y,none,ob⟩) ?_;show(cM kU MB 60 (sn 67) (bd 67) ⟨j5 ps ns none,none,ob⟩).run=_;rw[Nq,bk (u.trans o)];exact ff (J5 ps ns ob y)
 .rw[e] at g;rw[g];refine fD (st':=⟨v,ow,ob⟩) ?_;show(cM kU MB 60 (sn 67) (bd 67) ⟨j5 ps ns none,none,ob⟩).run=_;rw[Nq];exact ff (u.trans o)
def QG:D->Option (List Nat)
 |.str x=>some x
 |_=>none
def ii:D->Option (List (List Nat))
 |.list ds=>ig QG ds
 |_=>none
theorem J6{d:D}{x:List Nat}(h:QG d=some x):d=.str x:=by cases d<;>first|exact cX h|(cases h;rfl)
theorem w5{d:D}{xs:List (List Nat)}(h:ii d=some xs):d=.list (xs.map .str):=by cases d<;>first|exact cX h|exact aU D.list (kQ (λa b=>J6) h)
theorem iC(xs:List (List Nat)):ii (.list (xs.map .str))=some xs:=iZ (f:=QG) (g:=D.str) (λa=>rfl) xs
def mD{α:Type}(l:List α):Bool:=!l.isEmpty
theorem AE{α:Type}{l:List α}(h:mD l=true):l≠[]:=by rintro rfl;cases h
def FS(ps:List (List bL))(ns:List (List Nat)):Bool:=decide (ps.length=ns.length)&&decide (ns.length<=1000)&&ps.all mD&&ns.all λx=>mD x&&decide (x.length<=100000)
theorem J7{ps:List (List bL)}{ns:List (List Nat)}(h:FS ps ns=true):Nr ps ns:=by refine bx h ?_;clear h;intro h f;refine bx h ?_;clear h;intro h e;refine bx h λc d=>?_;refine⟨ar c,ar d,λis g=>AE (aW.mp e is g),λx i=>?_⟩;refine bx (aW.mp f x i) λa b=>?_;exact⟨AE a,ar b⟩
def QH(ds:List D):T D:=t2 ds λd e=>(T.opt (oU d)).bind λps=>(T.opt (ii e)).bind λns=>.chk (FS ps ns) (.ret (.bool (eJ ps ns)))
def pj:KT:=kU.add 966 (Fp QH)
theorem T8(w:aq)(ts:Tb):fz w ts pj 17:=(T7 w ts).next (E8 _) (jE (T7 w ts) (E8 _) (PK _) λds ob d h=>by refine iK h ?_;clear h;intro a b e h;refine bv h ?_;clear h;intro ps c h;refine bv h ?_;clear h;intro ns f h;refine ct h ?_;clear h;intro g h;rw[e,uZ (bn c),w5 (bn f),<-ag h];exact⟨rfl,QF _ _ _ (J7 g)⟩)
def Xf(K:KT)(b:BI)(t:T (List D×St)):T (D×St):=t.bind λq=>((K.bi b q.1).bind λr=>.ret (r,q.2.ob)).bind λd=>.ret (d.1,⟨q.2.v,q.2.ow,d.2⟩)
theorem J8{K:KT}{b:BI}{t:T (List D×St)}{ds:List D}{d:D}{st:St}(h:t.run=some (ds,st))(a:(K.bi b ds).run=some d):(Xf K b t).run=some (d,st):=by unfold Xf;rw[bq h,bY,bq a];rfl
theorem FT{α:Type}{h:α->D}{g:D->Option D}{c:α->Bool}{f:α->D}:∀{l:List α},(∀a∈l,g (h a)=iff (c a) (some (f a)) none)->(l.map h).filterMap g=(l.filter c).map f
 |[],_=>rfl
 |a::r,k=>by have d:=FT (h:=h) (g:=g) (c:=c) (f:=f) (l:=r) λe b=>k e (.tail _ b);rw[List.map_cons,List.filterMap_cons,k a (.head _),d,List.filter_cons];cases c a<;>rfl
abbrev cG(n:List (List Nat)):D:=.list (n.map .str)
abbrev fJ(ks:List (List (List Nat))):D:=.list (ks.map cG)
abbrev gk:Nm:=[110,111,100,101,115]
abbrev Xg:Nm:=[110]
abbrev FU(ks:List (List (List Nat)))(ps:List (List bL)):List (Nm×D):=[(gk,fJ ks),(kW,eA ps)]
abbrev nB(ps:List (List bL))(n:List (List Nat)):List (Nm×D):=[(kW,eA ps),(Xg,cG n)]
def y4:Expr:=ch (bV (cu (bd 68) 0)) 1
def rR:Sc:=BS y4 (sn 68)
def rT:Expr:=ch y4 2
section
variable(ks:List (List (List Nat)))(ps:List (List bL))(n:List (List Nat))(ob:List Ob)
theorem T9:eQ pj MB (ft 68) wL [fJ ks,eA ps] ob=wQ pj MB 59 (sn 68) [] (Xf pj .sorted (yS pj MB 56 (sn 68) [] (BR (bO pj MB 55 (sn 68) y4 (FU ks ps)) (ks.map cG) (FU ks ps) none ob))):=by kernel_rfl
theorem QI:bO pj MB 55 (sn 68) y4 (FU ks ps) (cG n) ob=(zO pj MB 55 rR [rT] ⟨nB ps n,none,ob⟩).bind λq=>.ask q.1 ((ev pj MB 55 rR (ch y4 0) q.2).bind λr=>.ret (some r.1,r.2.ob)) (.ret (none,q.2.ob)):=by kernel_rfl
theorem QJ:eF pj MB 54 rR rT ⟨nB ps n,none,ob⟩=(eF pj MB 52 rR (ch rT 0) ⟨nB ps n,none,ob⟩).bind λp=>.ask p.1 ((eF pj MB 51 rR (ch rT 1) p.2).bind λp=>.ask p.1 (.ret (true,p.2)) (.ret (false,p.2))) (.ret (false,p.2)):=by kernel_rfl
theorem J9:(eF pj MB 52 rR (ch rT 0) ⟨nB ps n,none,ob⟩).run=some (((n.map D.str).length:Int)==((ps.map λis=>D.list (is.map bw)).length:Int),⟨nB ps n,none,ob⟩):=by kernel_rfl
theorem Ka:eF pj MB 51 rR (ch rT 1) ⟨nB ps n,none,ob⟩=((pj.fn 966 [eA ps,cG n] ob).bind λd=>.ret (d.1,(⟨nB ps n,none,d.2⟩:St))).bind λp=>(T.opt (gB p.1)).bind λb=>.ret (b,p.2):=by kernel_rfl
theorem QK:ev pj MB 55 rR (ch y4 0) ⟨nB ps n,none,ob⟩=(pj.sm [47] fj [cG n]).bind λd=>.ret (d,⟨nB ps n,none,ob⟩):=by kernel_rfl
end
def nC(ks:List (List (List Nat)))(ps:List (List bL)):List (List Nat):=dC ((ks.filter λn=>decide (n.length=ps.length)&&eJ ps n).map (bA [47]))
def w6(ks:List (List (List Nat)))(ps:List (List bL)):Bool:=decide (ks.length<64)&&decide (ps.length<=1000)&&ps.all mD&&ks.all λn=>(n.all λx=>mD x&&decide (x.length<=1000))
theorem y5{α:Type}(p:α->Bool)(l:List α):(l.filter p).length<=l.length:=List.length_filter_le p l
theorem QL(ks:List (List (List Nat)))(ps:List (List bL))(ob:List Ob)(h:w6 ks ps=true):(eQ pj MB (ft 68) wL [fJ ks,eA ps] ob).run=some (.list ((nC ks ps).map .str),ob):=by
 have y:br=16777216:=rfl;refine bx h ?_;clear h;intro h v;refine bx h ?_;clear h;intro h u;refine bx h λk e=>?_;replace k:=ar k;replace e:=ar e;have t:∀n∈ks,(bO pj MB 55 (sn 68) y4 (FU ks ps) (cG n) ob).run=some (iff (decide (n.length=ps.length)&&eJ ps n) (some (.str (bA [47] n))) none,ob):=λn p=>by
  have q:=aW.mp v n p;have z:(eF pj MB 54 rR rT ⟨nB ps n,none,ob⟩).run=some (decide (n.length=ps.length)&&eJ ps n,⟨nB ps n,none,ob⟩):=by
   rw[QJ,bq (J9 ps n ob)];have r:(((n.map D.str).length:Int)==((ps.map λis=>D.list (is.map bw)).length:Int))=decide (n.length=ps.length):=by rw[ak,ak,Bool.eq_iff_iff,beq_iff_eq,aZ];omega
   show iff _ _ _=_;rw[r];by_cases j:n.length=ps.length
   .rw[ac j,bP];have w:FS ps n=true:=by unfold FS;rw[ac j.symm,ac (by exact aj (aO j) e),u];show(n.all λx=>mD x&&decide (x.length<=100000))=true;refine aW.mpr λx i=>?_;refine bx (aW.mp q x i) λa b=>?_;rw[a,ac (by have:=ar b;exact aj this (aB _ _))];rfl
    have B:(pj.fn 966 [eA ps,cG n] ob).run=some (.bool (eJ ps n),ob):=by
     show((QH [eA ps,cG n]).bind λd=>T.ret (d,ob)).run=_;have C:(QH [eA ps,cG n]).run=some (.bool (eJ ps n)):=by show((T.opt (oU (eA ps))).bind λps=>(T.opt (ii (cG n))).bind λns=>T.chk (FS ps ns) (T.ret (D.bool (eJ ps ns)))).run=_;rw[nA,iC,bq (a:=ps) rfl,bq (a:=n) rfl,ce w];rfl
     rw[bq C];rfl
    have e:(eF pj MB 51 rR (ch rT 1) ⟨nB ps n,none,ob⟩).run=some (eJ ps n,⟨nB ps n,none,ob⟩):=by rw[Ka,bY,bY,B];rfl
    rw[bq e];show iff _ _ _=_;cases eJ ps n<;>rfl
   .rw[aG j];rfl
  rw[QI,bq (T6 z)];show iff _ _ _=_;cases o:decide (n.length=ps.length)&&eJ ps n with
  |false=>rfl
  |true=>
   rw[bP];have j:n.length=ps.length:=ar (Bool.and_eq_true_iff.mp o).1;have E:(bA [47] n).length+[47].length<=br:=by have k:=gW (s:=[47]) (l:=n) (m:=1000) λx i=>ar (Bool.and_eq_true_iff.mp (aW.mp q x i)).2;replace e:n.length*(1000+[47].length)<=1000*1001:=Nat.mul_le_mul (by exact aj (aO j) e) (by decide);show _+1<=_;exact AX (aO y.symm) k e
   have F:(pj.sm [47] fj [cG n]).run=some (.str (bA [47] n)):=j3 E;rw[QK,bY,bq F];rfl
 rw[T9];refine iY (st:=⟨FU ks ps,none,ob⟩) (J8 (j2 (fQ (es:=(((ks.filter λn=>decide (n.length=ps.length)&&eJ ps n).map (bA [47])).map .str)) ?_)) ?_)
 .rw[fY (g:=λd=>match ii d with|some n=>iff (decide (n.length=ps.length)&&eJ ps n) (some (.str (bA [47] n))) none|none=>none)]
  .rw[FT (c:=λn=>decide (n.length=ps.length)&&eJ ps n) (f:=λn=>.str (bA [47] n)) λn G=>by show(match ii (cG n) with|some n=>iff (decide (n.length=ps.length)&&eJ ps n) (some (D.str (bA [47] n))) none|none=>none)=_;rw[iC],aQ]
   rfl
  .intro d A;obtain⟨n,p,rfl⟩:=aE.mp A;rw[t n p];show _=some ((match ii (cG n) with|some n=>iff (decide (n.length=ps.length)&&eJ ps n) (some (D.str (bA [47] n))) none|none=>none),ob);rw[iC]
 .show(T.chk (dB _&&decide (_<64)) (T.ret (D.list ((dC (cS _)).map D.str)))).run=_;rw[dX,eD,ak,ak,ce (by rw[ac (by have:=y5 (λn=>decide (n.length=ps.length)&&eJ ps n) ks;exact aS this k)];rfl)]
  rfl
def tF:D->Option (List (List (List Nat)))
 |.list ds=>ig ii ds
 |_=>none
theorem w7{d:D}{ks:List (List (List Nat))}(h:tF d=some ks):d=fJ ks:=by cases d<;>first|exact cX h|exact aU D.list (kQ (λa b=>w5) h)
theorem AF(ks:List (List (List Nat))):tF (fJ ks)=some ks:=iZ (f:=ii) (g:=cG) iC ks
def Ua(ds:List D):T D:=t2 ds λd e=>(T.opt (tF d)).bind λks=>(T.opt (oU e)).bind λps=>.chk (w6 ks ps) (.ret (.list ((nC ks ps).map .str)))
def oW:KT:=pj.add 971 (Fp Ua)
theorem Ub(w:aq)(ts:Tb):fz w ts oW 18:=(T8 w ts).next (E9 _) (jE (T8 w ts) (E9 _) (PM _) λds ob d h=>by refine iK h ?_;clear h;intro a b e h;refine bv h ?_;clear h;intro ks c h;refine bv h ?_;clear h;intro ps f h;refine ct h ?_;clear h;intro g h;rw[e,w7 (bn c),uZ (bn f),<-ag h];exact⟨rfl,QL _ _ _ g⟩)
abbrev dL:=List (List Nat)
theorem Kb(x y:List Nat)(n:Nat):io n (.str x) (.str y)=cr x y:=by cases n<;>rfl
theorem w8(n:Nat):∀a b:dL,gM (io n) (a.map .str) (b.map .str)=decide (a=b)
 |[],[]=>rfl
 |[],_::_=>rfl
 |_::_,[]=>rfl
 |x::a,y::b=>by show(io n (.str x) (.str y)&&gM (io n) (a.map .str) (b.map .str))=_;rw[Kb,w8 n a b,Bool.eq_iff_iff,bf,eC,aZ,aZ];simp
theorem Kc(a b:dL):deq (cG a) (cG b)=decide (a=b):=w8 4 a b
theorem w9(p:dL):∀a:List dL,jf (cG p) (a.map cG)=decide (p∈a)
 |[]=>(aG List.not_mem_nil).symm
 |q::a=>by
  show(deq (cG q) (cG p)||jf (cG p) (a.map cG))=_;rw[w9 p a,Kc,Bool.eq_iff_iff,Bool.or_eq_true,aZ,aZ,aZ,ao];constructor
  .rintro(h|h)
   .exact .inl h.symm
   .exact .inr h
  .rintro(h|h)
   .exact .inl h.symm
   .exact .inr h
theorem B6(n:Nat)(l:List (List Nat)):oR (fF n) (l.map .str)=true:=lT λd a=>by obtain⟨k,b,rfl⟩:=aE.mp a;cases n<;>rfl
theorem xa(p:dL)(n:Nat):fF (n+1) (cG p)=true:=B6 n p
theorem y6(n:Nat)(l:List dL):oR (fF (n+1)) (l.map cG)=true:=lT λd a=>by obtain⟨k,b,rfl⟩:=aE.mp a;exact xa k n
theorem AG(p:dL)(k:Nat)(h:k<p.length):D.list (cJ (p.map .str) 0 (fv (p.map D.str).length (1+(k:Int))))=cG (p.take (k+1)):=by
 have e:fv (p.map D.str).length (1+(k:Int))=k+1:=by unfold fv;rw[av (by omega),ak];omega
 rw[e];show D.list ((p.map D.str).take (k+1))=_;rw[<-List.map_take]
abbrev eS:Nm:=[107,101,121,115]
abbrev mE:Nm:=[107,101,121]
def FV(ks:List dL):Option (D×Option D)->List (Nm×D)
 |none=>[(eS,fJ ks)]
 |some (d,none)=>[(eS,fJ ks),(mE,d)]
 |some (d,some e)=>[(eS,fJ ks),(mE,d),(lK,e)]
def ei(ks:List dL)(ob:List Ob)(a:List dL)(q:Option (D×Option D)):St:=⟨FV ks q,some (gk,none,a.map cG),ob⟩
def Uc(d:D):Option (D×Option D)->Option (D×Option D)
 |none=>some (d,none)
 |some (_,e)=>some (d,e)
def rU:Stmt:=cu (bd 69) 1
def j6:Stmt:=cu (cP rU) 0
def FW:Stmt:=cu (cP j6) 0
theorem Ud:bd 69=cu (bd 69) 0::rU::cu (bd 69) 2::[]:=by kernel_rfl
theorem QM:cP rU=[j6]:=by kernel_rfl
theorem QN:cP j6=[FW]:=by kernel_rfl
section
variable(ks:List dL)(ob:List Ob)(a:List dL)
theorem Kd:(ex oW MB 59 (sn 69) (cu (bd 69) 0) ⟨dK qE [fJ ks],none,ob⟩).run=some (.next,ei ks ob [] none):=by kernel_rfl
theorem Ke:ex oW MB 58 (sn 69) rU (ei ks ob [] none)=dS (λd st=>cM oW MB 57 (sn 69) (cP rU) (st.set mE d)) (ks.map cG) (ei ks ob [] none):=by kernel_rfl
theorem Kf(d:D)(q:Option (D×Option D)):(ei ks ob a q).set mE d=ei ks ob a (Uc d q):=by
 match q with
 |none=>kernel_rfl
 |some (_,none)=>kernel_rfl
 |some (_,some _)=>kernel_rfl
theorem Kg(p:dL)(e:Option D):ex oW MB 56 (sn 69) j6 (ei ks ob a (some (cG p,e)))=.chk (fN 1 (((p.map D.str).length:Int)+1)) (dS (λd st=>cM oW MB 55 (sn 69) (cP j6) (st.set lK d)) ((List.range ((((p.map D.str).length:Int)+1)-1).toNat).map λ(k:Nat)=>.int (1+(k:Int))) (ei ks ob a (some (cG p,e)))):=by cases e<;>kernel_rfl
theorem Kh(d x:D)(e:Option D):(ei ks ob a (some (d,e))).set lK x=ei ks ob a (some (d,some x)):=by cases e<;>kernel_rfl
theorem Ki(p:dL)(k:Nat):(eF oW MB 53 (sn 69) (bV FW) (ei ks ob a (some (cG p,some (.int (1+(k:Int))))))).run=iff (eN (.list (cJ (p.map .str) 0 (fv (p.map D.str).length (1+(k:Int)))))&&iT (a.map cG)) (some (!jf (.list (cJ (p.map .str) 0 (fv (p.map D.str).length (1+(k:Int))))) (a.map cG),ei ks ob a (some (cG p,some (.int (1+(k:Int))))))) none:=by kernel_rfl
theorem Kj(p:dL)(k:Nat):(cM oW MB 53 (sn 69) (cP FW) (ei ks ob a (some (cG p,some (.int (1+(k:Int))))))).run=iff (decide ((a.map cG).length<br)) (some (.next,⟨FV ks (some (cG p,some (.int (1+(k:Int))))),some (gk,none,a.map cG++[.list (cJ (p.map .str) 0 (fv (p.map D.str).length (1+(k:Int))))]),ob⟩)) none:=by kernel_rfl
theorem Kk:rB FW=[]:=by kernel_rfl
theorem Kl(q:Option (D×Option D)):∃st,(ex oW MB 57 (sn 69) (cu (bd 69) 2) (ei ks ob a q)).run=some (.ret (.list (a.map cG)),st)/\st.ob=ob:=by
 match q with
 |none=>exact⟨⟨FV ks none++[(gk,.list (a.map cG))],none,ob⟩,by kernel_rfl,rfl⟩
 |some (d,none)=>exact⟨⟨FV ks (some (d,none))++[(gk,.list (a.map cG))],none,ob⟩,by kernel_rfl,rfl⟩
 |some (d,some e)=>exact⟨⟨FV ks (some (d,some e))++[(gk,.list (a.map cG))],none,ob⟩,by kernel_rfl,rfl⟩
end
def iQ(a:List dL)(p:dL):List dL:=if p∈a then a else a++[p]
def dw(p:dL):List dL:=(List.range p.length).map λk=>p.take (k+1)
def bz(ks:List dL):List dL:=(ks.flatMap dw).foldl iQ []
theorem xb(a:List dL)(p:dL):(iQ a p).length<=a.length+1:=by
 unfold iQ
 split
 .exact Nat.le_succ _
 .rw[ae];exact aF _
theorem qL:∀(l:List dL) (a:List dL),(l.foldl iQ a).length<=a.length+l.length
 |[],a=>aF _
 |p::l,a=>by have:=qL l (iQ a p);have:=xb a p;rw[List.foldl_cons,aC];omega
section
variable{ks:List dL}{ob:List Ob}{a:List dL}
theorem FX{p:dL}{k:Nat}{e:Option D}(g:k<p.length)(h:a.length<1000000):
 (cM oW MB 55 (sn 69) (cP j6) ((ei ks ob a (some (cG p,e))).set lK (.int (1+(k:Int))))).run=some (.next,ei ks ob (iQ a (p.take (k+1))) (some (cG p,some (.int (1+(k:Int)))))):=by
 have i:br=16777216:=rfl;rw[Kh,QN];have f:=Ki ks ob a p k;rw[AG p k g,show eN (cG (p.take (k+1)))=true from xa _ 4,show iT (a.map cG)=true from y6 4 a,w9] at f;have b:=fR (K:=oW) (M:=MB) (n:=53) (s:=FW) (sc:=sn 69) (by kernel_rfl) (f.trans rfl);by_cases c:p.take (k+1)∈a
 .rw[ac c,Bool.not_true,cU,Kk] at b;rw[bk (b.trans rfl)];unfold iQ;rw[aH c];rfl
 .have d:=Kj ks ob a p k;rw[AG p k g,ak,ac (by exact aj h (aB _ _)),bP] at d;rw[aG c,Bool.not_false,bP,d] at b;rw[bk b];unfold iQ ei;rw[av c,be];rfl
theorem Ca{p:dL}{q:Option (D×Option D)}(c:a.length+p.length<1000000):
 ∃w,(cM oW MB 57 (sn 69) (cP rU) ((ei ks ob a q).set mE (cG p))).run=some (.next,ei ks ob ((dw p).foldl iQ a) w):=by
 rw[Kf,QM];obtain⟨e,o⟩:∃e,Uc (cG p) q=some (cG p,e):=by
  match q with
  |none=>exact⟨_,rfl⟩
  |some (_,e)=>exact⟨e,rfl⟩
 rw[o];have i:(p.map D.str).length=p.length:=ak ..;have u:fN 1 ((p.length:Int)+1)=true:=by have x:br=16777216:=rfl;unfold fN;rw[ac (by exact by decide),ac (by exact by decide),ac (by omega),ac (by omega),ac (by omega)];rfl
 have g:∀(l:List Nat) (a:List dL) (e:Option D),(∀k∈l,k<p.length)->a.length+l.length<1000000->
  ∃b,(dS (λd st=>cM oW MB 55 (sn 69) (cP j6) (st.set lK d)) (l.map λ(k:Nat)=>.int (1+(k:Int))) (ei ks ob a (some (cG p,e)))).run=some (.next,ei ks ob ((l.map λk=>p.take (k+1)).foldl iQ a) (some (cG p,b))):=by
  intro l
  induction l with
  |nil=>intro a e _ _;exact⟨e,rfl⟩
  |cons k l v=>
   intro a e f c;have m:=FX (ks:=ks) (ob:=ob) (a:=a) (p:=p) (k:=k) (e:=e) (f k (.head _)) (by rw[aC] at c;exact aS (ba _ _) c);obtain⟨b,n⟩:=v (iQ a (p.take (k+1))) (some (.int (1+(k:Int)))) (λj t=>f j (.tail _ t)) (by have:=xb a (p.take (k+1));rw[aC] at c;exact k9 c this);refine⟨b,?_⟩;show((cM oW MB 55 (sn 69) (cP j6) ((ei ks ob a (some (cG p,e))).set lK (.int (1+(k:Int))))).bind λq=>match q.1 with
    |.next=>dS (λd st=>cM oW MB 55 (sn 69) (cP j6) (st.set lK d)) (l.map λ(k:Nat)=>.int (1+(k:Int))) q.2
    |.cont=>dS (λd st=>cM oW MB 55 (sn 69) (cP j6) (st.set lK d)) (l.map λ(k:Nat)=>.int (1+(k:Int))) q.2
    |.brk=>T.ret (dN.next,q.2)
    |.ret r=>T.ret (dN.ret r,q.2)).run=_
   rw[bq m];exact n
 obtain⟨b,h⟩:=g (List.range p.length) a e (λk f=>List.mem_range.mp f) (by rw[List.length_range];exact c);refine⟨some (cG p,b),?_⟩;have s:(ex oW MB 56 (sn 69) j6 (ei ks ob a (some (cG p,e)))).run=some (.next,ei ks ob ((dw p).foldl iQ a) (some (cG p,b))):=by rw[Kg,i,ce u,show((((p.length:Int))+1)-1).toNat=p.length from by exact XJ _];exact h
 exact(bk s).trans rfl
end
theorem QO(ks:List dL)(ob:List Ob)(h:(ks.map List.length).sum<100000):(eQ oW MB (ft 69) qE [fJ ks] ob).run=some (fJ (bz ks),ob):=by
 have i:∀(l:List dL) (a:List dL) (q:Option (D×Option D)),a.length+(l.map List.length).sum<1000000->∃b,(dS (λd st=>cM oW MB 57 (sn 69) (cP rU) (st.set mE d)) (l.map cG) (ei ks ob a q)).run=some (.next,ei ks ob ((l.flatMap dw).foldl iQ a) b):=by
  intro l
  induction l with
  |nil=>intro a q _;exact⟨q,rfl⟩
  |cons p l n=>
   intro a q g;rw[List.map_cons,List.sum_cons] at g;obtain⟨o,c⟩:=Ca (ks:=ks) (ob:=ob) (a:=a) (p:=p) (q:=q) (by exact ir g);have k:=qL (dw p) a;have m:(dw p).length=p.length:=by unfold dw;rw[ak,List.length_range]
   obtain⟨s,e⟩:=n ((dw p).foldl iQ a) o (by exact AX g k (aO m));refine⟨s,?_⟩;show((cM oW MB 57 (sn 69) (cP rU) ((ei ks ob a q).set mE (cG p))).bind λq=>match q.1 with
    |.next=>dS (λd st=>cM oW MB 57 (sn 69) (cP rU) (st.set mE d)) (l.map cG) q.2
    |.cont=>dS (λd st=>cM oW MB 57 (sn 69) (cP rU) (st.set mE d)) (l.map cG) q.2
    |.brk=>T.ret (dN.next,q.2)
    |.ret r=>T.ret (dN.ret r,q.2)).run=_
   rw[bq c,List.flatMap_cons,List.foldl_append];exact e
 obtain⟨b,c⟩:=i ks [] none (by rw[List.length_nil];exact(Nat.zero_add _).symm▸aj h (by decide));obtain⟨st,e,j⟩:=Kl ks ob (bz ks) b;have:=fD (K:=oW) (M:=MB) (f:=ft 69) (xs:=qE) (ds:=[fJ ks]) (ob:=ob) (d:=fJ (bz ks)) (st':=st) (by show(cM oW MB 60 (sn 69) (bd 69) ⟨dK qE [fJ ks],none,ob⟩).run=_;rw[Ud,bk (Kd ks ob),bk (st':=ei ks ob (bz ks) b) (by rw[Ke];exact c)];exact ff e)
 rw[this,j]
def Ue(ds:List D):T D:=t1 ds λd=>(T.opt (tF d)).bind λks=>.chk (decide ((ks.map List.length).sum<100000)) (.ret (fJ (bz ks)))
def mF:KT:=oW.add 978 (Fp Ue)
theorem Uf(w:aq)(ts:Tb):fz w ts mF 19:=(Ub w ts).next (Fa _) (jE (Ub w ts) (Fa _) (PN _) λds ob d h=>by refine jJ h ?_;clear h;intro d e h;refine bv h ?_;clear h;intro ks a h;refine ct h ?_;clear h;intro b h;rw[e,w7 (bn a),<-ag h];exact⟨rfl,QO _ _ (ar b)⟩)
abbrev f0:Nm:=[112,97,116,104]
abbrev Ug:Nm:=[115,101,112]
abbrev Uh:Nm:=[100,111,116]
abbrev FY:Nm:=[100,111,116,100,111,116]
abbrev Cb:Nm:=[95]
abbrev Cc:Nm:=[105,110,105,116,105,97,108,95,115,108,97,115,104,101,115]
abbrev gl:Nm:=[99,111,109,112,115]
abbrev j7:Nm:=[99,111,109,112]
abbrev rV:Nm:=[110,101,119,95,99,111,109,112,115]
abbrev sb(i j:Nat):Stmt:=cu (bd i) j
theorem Ui:bd 23=sb 23 0::sb 23 1::sb 23 2::sb 23 3::sb 23 4::sb 23 5::sb 23 6::sb 23 7::sb 23 8::sb 23 9::[]:=by kernel_rfl
def va(x:List Nat):List (Nm×D):=[(f0,.str x),(Ug,.str [47]),(Uh,.str [46]),(FY,.str [46,46])]
def vb(x:List Nat):List (Nm×D):=va x++[(Cb,.str []),(Cc,.str []),(gl,.list ((cn 47 x).map .str))]
def vc(x:List Nat):Option D->List (Nm×D)
 |none=>vb x
 |some d=>vb x++[(j7,d)]
def fU(x:List Nat)(ob:List Ob)(ds:List D)(q:Option D):St:=⟨vc x q,some (rV,none,ds),ob⟩
section
variable(x:List Nat)(c:Nat)(r:List Nat)(ob:List Ob)(ds:List D)(q:Option D)
theorem Km:(ex mF MB 59 (sn 23) (sb 23 0) ⟨dK tl [.str x],none,ob⟩).run=some (.next,⟨[(f0,.str x)],none,ob⟩):=by kernel_rfl
theorem Kn:(ex mF MB 58 (sn 23) (sb 23 1) ⟨[(f0,.str x)],none,ob⟩).run=some (.next,⟨va x,none,ob⟩):=by kernel_rfl
theorem Ko:(ex mF MB 57 (sn 23) (sb 23 2) ⟨va (c::r),none,ob⟩).run=some (.next,⟨va (c::r),none,ob⟩):=by kernel_rfl
theorem Kr:ex mF MB 56 (sn 23) (sb 23 3) ⟨va x,none,ob⟩=((mF.fn 145 [.str x] ob).bind λd=>.ret (d.1,(⟨va x,none,d.2⟩:St))).bind λp=>match p.1 with
 |.tup ds=>match ds with
  |[d1,d2,d3]=>.ret (.next,((p.2.set Cb d1).set Cc d2).set f0 d3)
  |_=>.fail
 |_=>.fail:=by kernel_rfl
theorem FZ:((((⟨va x,none,ob⟩:St).set Cb (.str [])).set Cc (.str [])).set f0 (.str x))=⟨va x++[(Cb,.str []),(Cc,.str [])],none,ob⟩:=by kernel_rfl
theorem Kt:(ex mF MB 55 (sn 23) (sb 23 4) ⟨va x++[(Cb,.str []),(Cc,.str [])],none,ob⟩).run=iff (decide (x.length<br)) (some (.next,⟨vb x,none,ob⟩)) none:=by kernel_rfl
theorem Ku:(ex mF MB 54 (sn 23) (sb 23 5) ⟨vb x,none,ob⟩).run=some (.next,fU x ob [] none):=by kernel_rfl
theorem Kv:ex mF MB 53 (sn 23) (sb 23 6) (fU x ob [] none)=dS (λd st=>cM mF MB 52 (sn 23) (cP (sb 23 6)) (st.set j7 d)) ((cn 47 x).map .str) (fU x ob [] none):=by kernel_rfl
def qM(x y:List Nat)(ob:List Ob)(ds:List D):Option (dN×St):=iff (decide (ds.length<br)) (some (.next,fU x ob (ds++[.str y]) (some (.str y)))) none
def y7(x y:List Nat)(ob:List Ob)(ds:List D):Option (dN×St):=iff (!ds.isEmpty) (iff (!ds.isEmpty&&dB ds) (some (.next,fU x ob ds.dropLast (some (.str y)))) none) (some (.next,fU x ob ds (some (.str y))))
theorem Kw(y:List Nat):(cM mF MB 52 (sn 23) (cP (sb 23 6)) ((fU x ob ds q).set j7 (.str y))).run=
 iff (!(!y.isEmpty)) (some (.cont,fU x ob ds (some (.str y)))) (iff (cr y [46]) (some (.cont,fU x ob ds (some (.str y))))
  (iff (!cr y [46,46]) (qM x y ob ds) (iff (!(!ds.isEmpty)) (qM x y ob ds) (iff (!ds.isEmpty) (iff (cL (-1) ds.length) (iff (eN (ds.getD (gy (-1) ds.length) .none)&&eN (.str [46,46])) (iff (deq (ds.getD (gy (-1) ds.length) .none) (.str [46,46])) (qM x y ob ds) (y7 x y ob ds)) none) none) (y7 x y ob ds))))):=by cases q<;>kernel_rfl
theorem Kx:(ex mF MB 52 (sn 23) (sb 23 7) (fU x ob ds q)).run=some (.next,⟨ee (vc x q++[(rV,.list ds)]) gl (.list ds),none,ob⟩):=by cases q<;>kernel_rfl
theorem Ky:ex mF MB 51 (sn 23) (sb 23 8) ⟨ee (vc x q++[(rV,.list ds)]) gl (.list ds),none,ob⟩=(mF.sm [47] fj [.list ds]).bind λd=>(pE .Add (.str []) d).bind λe=>.ret (.next,⟨ee (ee (vc x q++[(rV,.list ds)]) gl (.list ds)) f0 e,none,ob⟩):=by cases q<;>kernel_rfl
theorem Kz(y:List Nat):(ex mF MB 50 (sn 23) (sb 23 9) ⟨ee (ee (vc x q++[(rV,.list ds)]) gl (.list ds)) f0 (.str y),none,ob⟩).run=iff (!y.isEmpty) (some (.ret (.str y),⟨ee (ee (vc x q++[(rV,.list ds)]) gl (.list ds)) f0 (.str y),none,ob⟩)) (some (.ret (.str [46]),⟨ee (ee (vc x q++[(rV,.list ds)]) gl (.list ds)) f0 (.str y),none,ob⟩)):=by cases q<;>kernel_rfl
end
def fh(a:List (List Nat))(y:List Nat):List (List Nat):=if y=[]\/y=[46] then a else if y≠[46,46]\/a=[]\/a.getLast?=some [46,46] then a++[y] else a.dropLast
def cZ(x:List Nat):List (List Nat):=(cn 47 x).foldl fh []
def j8(x:List Nat):List Nat:=iff (!(bA [47] (cZ x)).isEmpty) (bA [47] (cZ x)) [46]
theorem dT{α:Type}(a:List α):a=[]\/∃b l,a=b++[l]:=by
 rcases List.eq_nil_or_concat a with h|⟨b,l,h⟩
 .exact .inl h
 .exact .inr ⟨b,l,by rw[h,List.concat_eq_append]⟩
theorem pn{α:Type}(b:List α)(l:α):(b++[l]).isEmpty=false:=by cases b<;>rfl
theorem F0{x y:List Nat}{ob:List Ob}{a:List (List Nat)}{q:Option D}(h:a.length<1000000):∃o,(cM mF MB 52 (sn 23) (cP (sb 23 6)) ((fU x ob (a.map .str) q).set j7 (.str y))).run=some (o,fU x ob ((fh a y).map .str) (some (.str y)))/\(o=.next\/o=.cont):=by
 have s:br=16777216:=rfl;rw[Kw];have d:qM x y ob (a.map .str)=some (.next,fU x ob ((a++[y]).map .str) (some (.str y))):=by unfold qM;rw[ak,ac (by exact aI h (by decide)),bP,be];rfl
 unfold fh;cases y with
 |nil=>exact⟨.cont,by rw[aH (.inl rfl)];rfl,.inr rfl⟩
 |cons c r=>
  refine(show∃o,(iff (cr (c::r) [46]) _ _)=_/\_ from ?_);by_cases j:c::r=[46]
  .refine⟨.cont,?_,.inr rfl⟩;rw[aH (.inr j),eC.mpr j];rfl
  .rw[av (λk=>k.elim (λk=>by cases k) j),eM.mpr j,cU];refine⟨.next,?_,.inl rfl⟩;by_cases m:c::r=[46,46]
   .rw[eC.mpr m,Bool.not_true,cU];rcases dT a with rfl|⟨b,l,rfl⟩
    .rw[aH (.inr (.inl rfl))];exact d
    .have i:((b++[l]).map D.str).isEmpty=false:=by rw[be];exact pn _ _
     have g:((b++[l]).map D.str).length=b.length+1:=by rw[ak,ae];rfl
     have f:gy (-1) (b.length+1)=b.length:=by unfold gy;rw[aH (by exact by decide)];exact XJ _
     have p:cL (-1) (b.length+1)=true:=by unfold cL;rw[ac (by omega),ac (by omega)];rfl
     have e:((b++[l]).map D.str).getD b.length .none=.str l:=by rw[be,List.getD,List.getElem?_append_right (by rw[ak];exact aF _),ak,Nat.sub_self];rfl
     rw[i,Bool.not_false,Bool.not_true,cU,bP,g,p,bP,f,e];show iff (cr l [46,46]) _ _=_;by_cases n:l=[46,46]
     .rw[eC.mpr n,bP,d,aH (.inr (.inr (by rw[List.getLast?_append,n];rfl)))]
     .rewrite[eM.mpr n,cU,av (λk=>by
       rcases k with k|k|k
       .exact k m
       .cases b<;>cases k
       .rw[List.getLast?_append] at k;exact n (ag k))]
      unfold y7;rw[i,dX,List.dropLast_concat,be];show some (dN.next,fU x ob ((b.map D.str++[D.str l]).dropLast) _)=_;rw[List.dropLast_concat]
   .rw[eM.mpr m,Bool.not_false,bP,aH (.inl m)];exact d
theorem tG(a:List (List Nat))(y:List Nat):(fh a y).length<=a.length+1:=by
 unfold fh
 split
 .exact Nat.le_succ _
 .split
  .rw[ae];exact aF _
  .rw[List.length_dropLast];exact aj (Nat.sub_le _ _) (Nat.le_succ _)
theorem Cd{a:List (List Nat)}{y z:List Nat}(h:z∈fh a y):z∈a\/z=y:=by
 unfold fh at h
 split at h
 .exact .inl h
 .split at h
  .rcases List.mem_append.mp h with h|h
   .exact .inl h
   .exact .inr (az.mp h)
  .exact .inl (List.dropLast_subset _ h)
theorem tH:∀{l a:List (List Nat)} {z:List Nat},z∈l.foldl fh a->z∈a\/z∈l
 |[],a,z,h=>.inl h
 |y::l,a,z,h=>by
  rcases tH (l:=l) (a:=fh a y) h with h|h
  .rcases Cd h with h|h
   .exact .inl h
   .exact .inr (h▸.head _)
  .exact .inr (.tail _ h)
theorem tJ:∀(l a:List (List Nat)),(l.foldl fh a).length<=a.length+l.length
 |[],a=>aF _
 |y::l,a=>by have:=tJ l (fh a y);have:=tG a y;rw[List.foldl_cons,aC];omega
theorem lL(c:Nat):∀{x y:List Nat},y∈cn c x->y.length<=x.length
 |[],y,h=>by rewrite[az.mp h];exact aF _
 |a::r,y,h=>by
  rw[gs] at h;cases e:Nat.beq a c with
  |true=>
   rw[e] at h;rcases ao.mp h with h|h
   .rw[h];exact Nat.zero_le _
   .exact Nat.le_succ_of_le (lL c h)
  |false=>
   rw[e] at h;obtain⟨p,q,d⟩:=iX c r;have b:∀z,z∈cn c r->z.length<=r.length:=λz f=>lL c f;rw[d] at h b;rcases ao.mp h with h|h
   .rw[h];have:=b p (.head _);simp only[aC];exact Nat.lt_succ_of_le this
   .exact Nat.le_succ_of_le (b y (.tail _ h))
theorem qN{x:List Nat}(h:x.length<=1000):(bA [47] (cZ x)).length+[47].length<=br:=by
 have g:br=16777216:=rfl;have c:=gW (s:=[47]) (l:=cZ x) (m:=1000) λy a=>by
  rcases tH a with a|a
  .cases a
  .exact aj (lL 47 a) h
 have b:=tJ (cn 47 x) [];have d:=jp 47 x;have e:(cZ x).length<=1001:=by unfold cZ;rw[List.length_nil] at b;exact AX h b d
 have f:(cZ x).length*(1000+[47].length)<=1001*1001:=Nat.mul_le_mul e (by decide);show _+1<=_;exact AX (aO g.symm) c f
def j9(x:List Nat):Bool:=!cr (cJ x 0 (fv x.length 1)) [47]
theorem QP(x:List Nat)(ob:List Ob)(u:mD x=true)(i:j9 x=true)(f:x.length<=1000):(eQ mF MB (ft 23) tl [.str x] ob).run=some (.str (j8 x),ob):=by
 have C:br=16777216:=rfl;have j:∀(l a:List (List Nat)) (q:Option D),a.length+l.length<1000000->∃b,(dS (λd st=>cM mF MB 52 (sn 23) (cP (sb 23 6)) (st.set j7 d)) (l.map .str) (fU x ob (a.map .str) q)).run=some (.next,fU x ob ((l.foldl fh a).map .str) b):=by
  intro l
  induction l with
  |nil=>intro a q _;exact⟨q,rfl⟩
  |cons y l B=>
   intro a q g;rw[aC] at g;obtain⟨o,i,f⟩:=F0 (x:=x) (y:=y) (ob:=ob) (a:=a) (q:=q) (by exact aS (ba _ _) g);obtain⟨b,v⟩:=B (fh a y) (some (.str y)) (by have:=tG a y;exact k9 g this);refine⟨b,?_⟩;show((cM mF MB 52 (sn 23) (cP (sb 23 6)) ((fU x ob (a.map .str) q).set j7 (.str y))).bind λq=>match q.1 with
    |.next=>dS (λd st=>cM mF MB 52 (sn 23) (cP (sb 23 6)) (st.set j7 d)) (l.map .str) q.2
    |.cont=>dS (λd st=>cM mF MB 52 (sn 23) (cP (sb 23 6)) (st.set j7 d)) (l.map .str) q.2
    |.brk=>T.ret (dN.next,q.2)
    |.ret r=>T.ret (dN.ret r,q.2)).run=_
   rw[bq i];rcases f with rfl|rfl<;>exact v
 have A:=jp 47 x;obtain⟨b,w⟩:=j (cn 47 x) [] none (by rw[List.length_nil];exact k9 f A);have e:(mF.fn 145 [.str x] ob).run=some (.tup [.str [],.str [],.str x],ob):=by show((Av x).bind λd=>T.ret (d,ob)).run=_;have:(Av x).run=some (.tup [.str [],.str [],.str x]):=cF i rfl;rw[bq this];rfl
 have s:(ex mF MB 56 (sn 23) (sb 23 3) ⟨va x,none,ob⟩).run=some (.next,⟨va x++[(Cb,.str []),(Cc,.str [])],none,ob⟩):=by rw[Kr,bY,bY,e,<-FZ];rfl
 have k:=Kt x ob;rw[ac (by exact aS f (by decide)),bP] at k;have t:(ex mF MB 51 (sn 23) (sb 23 8) ⟨ee (vc x b++[(rV,.list ((cZ x).map .str))]) gl (.list ((cZ x).map .str)),none,ob⟩).run=some (.next,⟨ee (ee (vc x b++[(rV,.list ((cZ x).map .str))]) gl (.list ((cZ x).map .str))) f0 (.str (bA [47] (cZ x))),none,ob⟩):=by
  have z:(mF.sm [47] fj [.list ((cZ x).map .str)]).run=some (.str (bA [47] (cZ x))):=j3 (qN f);have g:(pE .Add (.str []) (.str (bA [47] (cZ x)))).run=some (.str (bA [47] (cZ x))):=by show(T.chk (decide (0+(bA [47] (cZ x)).length<=br)) (T.ret (D.str ([]++bA [47] (cZ x))))).run=_;have:=qN f;rw[ce (ac (by exact ir this))];rfl
  rw[Ky,bq z,bq g];rfl
 have h:=Kz x ob ((cZ x).map .str) b (bA [47] (cZ x));have p:(ex mF MB 57 (sn 23) (sb 23 2) ⟨va x,none,ob⟩).run=some (.next,⟨va x,none,ob⟩):=by
  cases x with
  |nil=>cases u
  |cons c r=>exact Ko c r ob
 have m:(cM mF MB 60 (sn 23) (bd 23) ⟨dK tl [.str x],none,ob⟩).run=(cM mF MB 51 (sn 23) (sb 23 9::[]) ⟨ee (ee (vc x b++[(rV,.list ((cZ x).map .str))]) gl (.list ((cZ x).map .str))) f0 (.str (bA [47] (cZ x))),none,ob⟩).run:=by rw[Ui,bk (Km x ob),bk (Kn x ob),bk p,bk s,bk k,bk (Ku x ob),bk (st':=fU x ob ((cZ x).map .str) b) (by rw[Kv];exact w),bk (Kx x ob _ b),bk t]
 unfold j8;cases n:!(bA [47] (cZ x)).isEmpty with
 |true=>rw[n,bP] at h;exact fD (m.trans (ff h))
 |false=>rw[n,cU] at h;exact fD (m.trans (ff h))
def Uj(x:List Nat):T D:=.chk (mD x&&j9 x&&decide (x.length<=1000)) (.ret (.str (j8 x)))
def VT:KT:=mF.add 166 (F1 Uj)
theorem Uk(w:aq)(ts:Tb):fz w ts VT 20:=(Uf w ts).next (ER _) (nv (Uf w ts) (ER _) (Pg _) λx ob d h=>by refine ct h ?_;clear h;intro a h;cases h;refine bx a ?_;clear a;intro a c;refine bx a ?_;clear a;intro a b;exact QP x ob a b (ar c))
theorem F2(P:aw)(v u:ai):aJ (c9 P 138) ⟨[v,u],[]⟩=(newTuple [u]>>=λt=>pure [(S [97],v),(S [112],t)]):=by kernel_rfl
def tK(a b:List Nat):T D:=.ask (ip [47] b) (.ret (.str b)) (.ask (!(!a.isEmpty)) (.ret (.str b)) (.ask (ip [47] a.reverse) (.chk (decide (a.length+b.length<=br)) (.ret (.str (a++b)))) (.chk (decide (1+b.length<=br)) (.chk (decide (a.length+([47]++b).length<=br)) (.ret (.str (a++([47]++b))))))))
theorem Ul(a b:List Nat)(ob:List Ob):(eQ VT MB (ft 17) wN [.str a,.tup [.str b]] ob).run=((tK a b).bind λd=>.ret (d,ob)).run:=by kernel_rfl
def QQ(ds:List D):T D:=t2 ds λa b=>tS a λa=>tS b λb=>tK a b
theorem QR(w:aq)(ts:Tb):Ct w ts 21 138 (Fp QQ):=λds ob d ob' r A X vs s C B O rd f G=>by
 have m:((QQ ds).bind λd=>T.ret (d,ob)).run=some (d,ob'):=r;refine bv m λd1 c z=>?_;cases(z);clear r m;refine iK c ?_;clear c;intro a b e c;refine gF c ?_;clear c;intro a x c;refine gF c ?_;clear c;intro b y c;rw[x,y] at e;subst e
 .obtain⟨p,k,rfl,H,I⟩:=EI rd;obtain⟨fd,F,i⟩:∃fd,cK w.params 138 (ft 17) wN fd/\∀v u,aJ fd ⟨[v,u],[]⟩=(newTuple [u]>>=λt=>pure [(S [97],v),(S [112],t)]):=⟨_,Ff _,F2 _⟩;have D:∀l,an (model pw w) l (aJ fd ⟨[p,k],[]⟩) (λq s1=>∃vs,q=cq wN vs/\Keeps s s1/\dj (bJ X s1.heap) ts vs [.str a,.tup [.str b]]) bM s:=λl=>by rw[i];obtain⟨h,g,dr,tk,os⟩:=s;have j:∀b o,h.get? b=some o->(h.push {cls:=.type "tuple",data:=.seq #[k]}).get? b=some o:=λb o e=>aA _ e;refine ah (wpAny_newTuple (ay ⟨[p,.ref h.objs.size],rfl,⟨_,_,rfl,j⟩,.cons (H.mon (gp j)) (.cons (.tup (vs:=#[k]) (n:=0) (cc (aT _ rfl) (mu f (dJ (aF _)))) (by show 1<=16777216;decide) (.cons (I.mon (gp j)) .nil)) .nil)⟩) (by show 1<=sizeLine;rw[bu];decide))
  have E:(eQ VT MB (ft 17) wN [.str a,.tup [.str b]] ob).run=some (d,ob):=by rw[Ul,bq (show(tK a b).run=some d from c)];rfl
  exact kM (Uk w ts) (cV w) F C B O f G D E
def Xh:KT:=VT.add 138 (Fp QQ)
theorem Um(w:aq)(ts:Tb):fz w ts Xh 21:=(Uk w ts).next (Ff _) (QR w ts)
theorem Un(c:Nat)(ob:List Ob):(eQ Xh MB (ft 27) Ao [.str [c]] ob).run=some (.str (mZ [c]),ob):=by kernel_rfl
def Xi(ds:List D):T D:=t1 ds λa=>tS a λx=>t1 x λc=>.ret (.str (mZ [c]))
def oX:KT:=Xh.add 183 (Fp Xi)
theorem Uo(w:aq)(ts:Tb):fz w ts oX 22:=(Um w ts).next (ES _) (jE (Um w ts) (ES _) (Ph _) λds ob d h=>by refine jJ h ?_;clear h;intro a e h;refine gF h ?_;clear h;intro x b h;refine jJ h ?_;clear h;intro c f h;rw[e,b,f,<-ag h];exact⟨rfl,Un _ _⟩)
abbrev Y1(s:Stmt):Prop:=s=.While (bV s) (cP s) [] s.pos
theorem qO{α:Type}{b:Bool}{t:T α}(h:b=true):T.gd b t=t:=by rw[h];rfl
theorem Ce{K:KT}{M:gz}{n:Nat}{sc:Sc}{st:St}(t:Expr)(b o:List Stmt)(p:Pos):ex K M (n+1) sc (.While t b o p) st=T.gd o.isEmpty (dO (λst=>eF K M n sc t st) (λst=>cM K M n sc b st) pP st):=rfl
theorem kf{K:KT}{M:gz}{n:Nat}{sc:Sc}{st:St}{s:Stmt}(a:Y1 s):ex K M (n+1) sc s st=dO (λst=>eF K M n sc (bV s) st) (λst=>cM K M n sc (cP s) st) pP st:=by generalize hw:pP=W;refine(aU (λs=>ex K M (n+1) sc s st) a).trans ((Ce (bV s) (cP s) [] s.pos).trans ((qO (b:=[].isEmpty) rfl).trans ?_));rw[hw]
section
variable{c:St->T (Bool×St)}{f:St->T (dN×St)}{m:Nat}{st st1 st2:St}{o:dN}
theorem KA(h:(c st).run=some (true,st1))(k:(f st1).run=some (o,st2))(a:o=.next\/o=.cont):(dO c f (m+1) st).run=(dO c f m st2).run:=by rw[lZ,bq h,f9,bP,bq k];rcases a with rfl|rfl<;>rfl
theorem F3(h:(c st).run=some (false,st1)):(dO c f (m+1) st).run=some (.next,st1):=by rw[lZ,bq h];rfl
theorem Up(h:(c st).run=some (true,st1))(k:(f st1).run=some (.brk,st2)):(dO c f (m+1) st).run=some (.next,st2):=by rw[lZ,bq h,f9,bP,bq k];rfl
end
abbrev fA:Nm:=[119,111,114,100,115]
abbrev fS:Nm:=[119,111,114,100]
abbrev gX:Nm:=[112,97,116,104,115]
def oY:Stmt:=cu (bd 70) 1
def nE:Stmt:=cu (cP oY) 1
theorem Uq:bd 70=cu (bd 70) 0::oY::cu (bd 70) 2::[]:=by kernel_rfl
theorem QS:cP oY=cu (cP oY) 0::nE::[]:=by kernel_rfl
theorem QT:cP nE=cu (cP nE) 0::cu (cP nE) 1::[]:=by kernel_rfl
def Cf(ws:List (List Nat)):Option (List Nat×List Nat)->List (Nm×D)
 |none=>[(fA,.list (ws.map .str))]
 |some (x,p)=>[(fA,.list (ws.map .str)),(fS,.str x),(f0,.str p)]
def eB(ws:List (List Nat))(ob:List Ob)(a:List (List Nat))(q:Option (List Nat×List Nat)):St:=⟨Cf ws q,some (gX,none,a.map .str),ob⟩
section
variable(ws:List (List Nat))(ob:List Ob)(a:List (List Nat))(x p:List Nat)
theorem KC:(ex oX MB 59 (sn 70) (cu (bd 70) 0) ⟨dK tq [.list (ws.map .str)],none,ob⟩).run=some (.next,eB ws ob [] none):=by kernel_rfl
theorem KE:ex oX MB 58 (sn 70) oY (eB ws ob [] none)=dS (λd st=>cM oX MB 57 (sn 70) (cP oY) (st.set fS d)) (ws.map .str) (eB ws ob [] none):=by kernel_rfl
theorem KF(q:Option (List Nat×List Nat)):(ex oX MB 56 (sn 70) (cu (cP oY) 0) ((eB ws ob a q).set fS (.str x))).run=iff (mD x&&j9 x&&decide (x.length<=1000)) (some (.next,eB ws ob a (some (x,j8 x)))) none:=by
 match q with
 |none=>kernel_rfl
 |some (_,_)=>kernel_rfl
theorem KH:ex oX MB 55 (sn 70) nE (eB ws ob a (some (x,p)))=dO (λst=>eF oX MB 54 (sn 70) (bV nE) st) (λst=>cM oX MB 54 (sn 70) (cP nE) st) pP (eB ws ob a (some (x,p))):=kf (by kernel_rfl)
theorem KJ:(eF oX MB 54 (sn 70) (bV nE) (eB ws ob a (some (x,p)))).run=iff (!cr p []) (iff (eN (.str p)&&iT (a.map .str)) (iff (!jf (.str p) (a.map .str)) (some (true,eB ws ob a (some (x,p)))) (some (false,eB ws ob a (some (x,p))))) none) (some (false,eB ws ob a (some (x,p)))):=by kernel_rfl
theorem KK:(ex oX MB 53 (sn 70) (cu (cP nE) 0) (eB ws ob a (some (x,p)))).run=iff (decide ((a.map D.str).length<br)) (some (.next,⟨Cf ws (some (x,p)),some (gX,none,a.map .str++[.str p]),ob⟩)) none:=by kernel_rfl
theorem KL:ex oX MB 52 (sn 70) (cu (cP nE) 1) (eB ws ob a (some (x,p)))=((oX.fn 159 [.str p] ob).bind λd=>.ret (d.1,(⟨Cf ws (some (x,p)),some (gX,none,a.map .str),d.2⟩:St))).bind λq=>.ret (.next,q.2.set f0 q.1):=by kernel_rfl
theorem KM(q:Option (List Nat×List Nat)):∃st,(ex oX MB 57 (sn 70) (cu (bd 70) 2) (eB ws ob a q)).run=iff (dB (a.map .str)&&decide ((a.map D.str).length<64)) (some (.ret (.list ((dC (cS (a.map .str))).map .str)),st)) none/\st.ob=ob:=by
 match q with
 |none=>exact⟨⟨Cf ws none++[(gX,.list (a.map .str))],none,ob⟩,by kernel_rfl,rfl⟩
 |some (y,z)=>exact⟨⟨Cf ws (some (y,z))++[(gX,.list (a.map .str))],none,ob⟩,by kernel_rfl,rfl⟩
end
def fE(x:List Nat):List Nat:=iff (!(eI x).isEmpty) (iff (!cr (eI x) (List.replicate ((eI x).length:Int).toNat [47]).flatten) (gb 47 (eI x)) (eI x)) (eI x)
theorem Cg(x:List Nat):(eI x).length<=x.length:=by unfold eI cJ;rw[List.length_drop,List.length_take];exact Nat.min_le_right _ _
theorem qP{x:List Nat}(h:x.length<=1000000):(yO x).run=some (.str (fE x)):=by
 have a:br=16777216:=rfl;have:=Cg x;unfold yO fE;rw[f9,f9,f9];cases(!(eI x).isEmpty) with
 |false=>rfl
 |true=>
  rw[bP,bP,show(decide (0<=((eI x).length:Int))&&decide (2*((eI x).length:Int).toNat<=br))=true by rw[ac (by exact aX _),ac (by omega)];rfl,bP]
  cases(!cr (eI x) (List.replicate ((eI x).length:Int).toNat [47]).flatten)<;>rfl
theorem xc(p:List Nat):∀a:List (List Nat),jf (.str p) (a.map .str)=decide (p∈a)
 |[]=>(aG List.not_mem_nil).symm
 |q::r=>by show(cr q p||jf (.str p) (r.map .str))=_;rw[xc p r,Bool.eq_iff_iff,Bool.or_eq_true,eC,aZ,aZ,ao];exact⟨λh=>h.elim (λh=>.inl h.symm) .inr,λh=>h.elim (λh=>.inl h.symm) .inr⟩
theorem tM:∀a:List (List Nat),iT (a.map .str)=true
 |[]=>rfl
 |_::r=>tM r
def oH:Nat->List (List Nat)->List Nat->Option (List (List Nat))
 |0,_,_=>none
 |n+1,a,p=>if p=[]\/p∈a then some a else if p.length<=1000/\a.length<1000 then oH n (a++[p]) (fE p) else none
theorem u7{n:Nat}{a:List (List Nat)}{p:List Nat}:oH (n+1) a p=if p=[]\/p∈a then some a else if p.length<=1000/\a.length<1000 then oH n (a++[p]) (fE p) else none:=rfl
def oI:List (List Nat)->List (List Nat)->Option (List (List Nat))
 |a,[]=>some a
 |a,x::r=>if mD x&&j9 x&&decide (x.length<=1000) then(oH 100 a (j8 x)).bind λb=>oI b r else none
theorem KN{a:List (List Nat)}{x:List Nat}{r:List (List Nat)}:oI a (x::r)=if mD x&&j9 x&&decide (x.length<=1000) then(oH 100 a (j8 x)).bind λb=>oI b r else none:=rfl
def lM(ws:List (List Nat)):Option (List (List Nat)):=(oI [] ws).bind λa=>if a.length<64 then some (dC a) else none
set_option tactic.hygienic true in
theorem xd(ws:List (List Nat))(ob:List Ob)(x:List Nat):∀(n:Nat) (a:List (List Nat)) (p:List Nat) (b:List (List Nat)),oH n a p=some b->∀m,n<=m->∃g,(dO (λst=>eF oX MB 54 (sn 70) (bV nE) st) (λst=>cM oX MB 54 (sn 70) (cP nE) st) m (eB ws ob a (some (x,p)))).run=some (.next,eB ws ob b (some (x,g)))
 |0,_,_,_,h,_,_=>nomatch h
 |n+1,a,p,b,h,m+1,r=>by
  have t:br=16777216:=rfl;rw[u7] at h;have c:=KJ ws ob a x p;rw[xc,tM] at c;by_cases e:p=[]
  .rw[aH (.inl e)] at h;cases h;rw[eC.mpr e] at c;exact⟨p,F3 c⟩
  .rw[eM.mpr e,Bool.not_false,bP,show(eN (.str p)&&true)=true from rfl,bP] at c;by_cases f:p∈a
   .rw[aH (.inr f)] at h;cases h;rw[ac f] at c;exact⟨p,F3 c⟩
   .rw[av (λq=>q.elim e f)] at h;rw[aG f] at c
    split at h
    .rename_i i;obtain⟨g,s⟩:=xd ws ob x n (a++[p]) (fE p) b h m (Nat.le_of_succ_le_succ r);refine⟨g,?_⟩;have j:=KK ws ob a x p;rw[ak,ac (by exact aj i.2 (by decide)),bP] at j;have k:(ex oX MB 52 (sn 70) (cu (cP nE) 1) (eB ws ob (a++[p]) (some (x,p)))).run=some (.next,eB ws ob (a++[p]) (some (x,fE p))):=by
      have l:(oX.fn 159 [.str p] ob).run=some (.str (fE p),ob):=by show((yO p).bind λd=>T.ret (d,ob)).run=_;rw[bq (qP (by exact aj i.1 (by decide)))];rfl
      rw[KL,bY,bY,l];rfl
     rw[KA c (o:=.next) (st2:=eB ws ob (a++[p]) (some (x,fE p))) ?_ (.inl rfl),s];rw[QT,bk j];have:(⟨Cf ws (some (x,p)),some (gX,none,a.map .str++[.str p]),ob⟩:St)=eB ws ob (a++[p]) (some (x,p)):=by unfold eB;rw[be];rfl
     rw[this,bk k];rfl
    .cases h
set_option tactic.hygienic true in
theorem tN(ws:List (List Nat))(ob:List Ob):∀(l a b:List (List Nat)) (q:Option (List Nat×List Nat)),oI a l=some b->∃e,(dS (λd st=>cM oX MB 57 (sn 70) (cP oY) (st.set fS d)) (l.map .str) (eB ws ob a q)).run=some (.next,eB ws ob b e)
 |[],a,b,q,h=>by cases h;exact⟨q,rfl⟩
 |x::l,a,b,q,h=>by
  rw[KN] at h
  split at h
  .rename_i i;obtain⟨c,j,k⟩:=Option.bind_eq_some_iff.mp h;obtain⟨g,o⟩:=xd ws ob x 100 a (j8 x) c j pP (by decide);obtain⟨e,n⟩:=tN ws ob l c b (some (x,g)) k;refine⟨e,?_⟩;have f:=KF ws ob a x q;rw[i,bP] at f;have m:(cM oX MB 57 (sn 70) (cP oY) ((eB ws ob a q).set fS (.str x))).run=some (.next,eB ws ob c (some (x,g))):=by rw[QS,bk f,bk (by rw[KH];exact o)];rfl
   show((cM oX MB 57 (sn 70) (cP oY) ((eB ws ob a q).set fS (.str x))).bind λp=>match p.1 with
    |.next=>dS (λd st=>cM oX MB 57 (sn 70) (cP oY) (st.set fS d)) (l.map .str) p.2
    |.cont=>dS (λd st=>cM oX MB 57 (sn 70) (cP oY) (st.set fS d)) (l.map .str) p.2
    |.brk=>T.ret (dN.next,p.2)
    |.ret r=>T.ret (dN.ret r,p.2)).run=_
   rw[bq m];exact n
  .cases h
set_option tactic.hygienic true in
theorem QU{ws b:List (List Nat)}(h:lM ws=some b)(ob:List Ob):(eQ oX MB (ft 70) tq [.list (ws.map .str)] ob).run=some (.list (b.map .str),ob):=by
 obtain⟨a,f,c⟩:=Option.bind_eq_some_iff.mp h
 split at c
 .rename_i j;cases c;obtain⟨k,i⟩:=tN ws ob ws [] a none f;obtain⟨st,e,d⟩:=KM ws ob a k;rw[dX,ak,ac j,eD] at e;have g:(cM oX MB 60 (sn 70) (bd 70) ⟨dK tq [.list (ws.map .str)],none,ob⟩).run=some (.ret (.list ((dC a).map .str)),st):=by rw[Uq,bk (KC ws ob),bk (by rw[KE];exact i)];exact ff e
  rw[fD g,d]
 .cases c
def Ur(ds:List D):T D:=t1 ds λa=>tL a λds=>.chk (dB ds) ((T.opt (lM (cS ds))).bind λb=>.ret (.list (b.map .str)))
def gA:KT:=oX.add 985 (Fp Ur)
theorem Us(w:aq)(ts:Tb):fz w ts gA 23:=(Uo w ts).next (Fb _) (jE (Uo w ts) (Fb _) (PO _) λds ob d h=>by refine jJ h ?_;clear h;intro a e h;refine IL h ?_;clear h;intro l c h;refine ct h ?_;clear h;intro f h;refine bv h ?_;clear h;intro b g h;have:=QU (bn g) ob;rw[<-om f] at this;rw[e,c,<-ag h];exact⟨rfl,this⟩)
abbrev bR:List Stmt:=UP 51 6
abbrev nR:Sc:=Sn 51 6
def wR:Stmt:=cu bR 2
abbrev nV(i:Nat):Stmt:=cu (cP wR) i
theorem UW:bR=cu bR 0::cu bR 1::wR::cu bR 3::cu bR 4::cu bR 5::cu bR 6::cu bR 7::[]:=by kernel_rfl
theorem Hq:cP wR=nV 0::nV 1::nV 2::nV 3::[]:=by kernel_rfl
abbrev lP:Nm:=[115,101,108,102]
abbrev mK:Nm:=[113,117,111,116,101,100]
abbrev AQ:Nm:=[101,115,99,97,112,101,100,115,116,97,116,101]
abbrev zi:Nm:=[110,101,120,116,99,104,97,114]
abbrev mM:Nm:=[114,101,115,117,108,116]
def vR(qt:Bool)(e:Nat):Option D->List (Nm×D)
 |none=>[(lP,.obj 0),(mK,.bool qt),(AQ,.str [e])]
 |some d=>[(lP,.obj 0),(mK,.bool qt),(AQ,.str [e]),(zi,d)]
def Rt(q:Lx)(nl:D)(b:List Nat)(p:Int)(qt:Bool)(e:Nat)(nx:Option D):St:=⟨vR qt e nx,none,i9 q nl b p⟩
def cD:Option Nat->D
 |none=>.str []
 |some c=>.str [c]
section
variable(W tok:List Nat)(ln:Int)(st:Option Nat)(nl:D)(b:List Nat)(p:Int)(qt:Bool)(e:Nat)(nx:Option D)(c:Nat)(ch:Option Nat)
abbrev rS(W tok:List Nat)(ln:Int)(st:Option Nat)(nl:D)(b:List Nat)(p:Int)(qt:Bool)(e:Nat)(ch:Option Nat):St:=Rt ⟨W,st,tok,ln⟩ nl b p qt e (some (cD ch))
theorem vi:(eF L4 MB 56 nR (bV wR) (Rt ⟨W,st,tok,ln⟩ nl b p qt e nx)).run=some (true,Rt ⟨W,st,tok,ln⟩ nl b p qt e nx):=by cases nx<;>kernel_rfl
theorem Mc:(ex L4 MB 55 nR (nV 0) (Rt ⟨W,st,tok,ln⟩ nl b p qt e nx)).run=iff (decide (0<=p)&&decide (b.length<=10000000)) (iff (decide (p>=(b.length:Int))) (some (.next,rS W tok ln st nl b p qt e none)) (some (.next,rS W tok ln st nl b (p+1) qt e (some (b.getD p.toNat 0))))) none:=by cases nx<;>kernel_rfl
theorem Hr:(ex L4 MB 54 nR (nV 1) (rS W tok ln st nl b p qt e none)).run=some (.next,rS W tok ln st nl b p qt e none):=by kernel_rfl
theorem Hs:(ex L4 MB 54 nR (nV 1) (rS W tok ln st nl b p qt e (some c))).run=iff (cr [c] [10]) (some (.next,rS W tok (ln+1) st nl b p qt e (some c))) (some (.next,rS W tok ln st nl b p qt e (some c))):=by kernel_rfl
theorem AR:(ex L4 MB 53 nR (nV 2) (rS W tok ln st nl b p qt e ch)).run=some (.next,rS W tok ln st nl b p qt e ch):=by kernel_rfl
theorem Za:(ex L4 MB 52 nR (nV 3) (rS W tok ln none nl b p qt e ch)).run=some (.brk,rS W [] ln none nl b p qt e ch):=by kernel_rfl
theorem Xw:(ex L4 MB 52 nR (nV 3) (rS W tok ln (some 32) nl b p qt e none)).run=some (.brk,rS W tok ln none nl b p qt e none):=by kernel_rfl
theorem Xx:(ex L4 MB 52 nR (nV 3) (rS W tok ln (some 32) nl b p qt e (some c))).run=iff (d5 [c] [32,9,13,10]) (iff (!tok.isEmpty) (some (.brk,rS W tok ln (some 32) nl b p qt e (some c))) (iff qt (some (.brk,rS W tok ln (some 32) nl b p qt e (some c))) (some (.cont,rS W tok ln (some 32) nl b p qt e (some c)))))
 (iff (d5 [c] [92]) (some (.next,rS W tok ln (some c) nl b p qt 97 (some c))) (iff (d5 [c] W) (some (.next,rS W [c] ln (some 97) nl b p qt e (some c))) (iff (d5 [c] [39,34]) (some (.next,rS W tok ln (some c) nl b p qt e (some c))) (some (.next,rS W [c] ln (some 97) nl b p qt e (some c)))))):=by kernel_rfl
abbrev q5(W tok:List Nat)(ln:Int)(st:Option Nat)(nl:D)(b:List Nat)(p:Int)(qt:Bool)(e:Nat)(c:Nat):Option (dN×St):=iff (decide (tok.length+1<=br)) (some (.next,rS W (tok++[c]) ln st nl b p qt e (some c))) none
theorem Xy:(ex L4 MB 52 nR (nV 3) (rS W tok ln (some 39) nl b p qt e (some c))).run=iff (cr [c] [39]) (some (.next,rS W tok ln (some 97) nl b p true e (some c))) (iff (d5 [c] [92]) (q5 W tok ln (some 39) nl b p true e c) (q5 W tok ln (some 39) nl b p true e c)):=by kernel_rfl
theorem Xz:(ex L4 MB 52 nR (nV 3) (rS W tok ln (some 34) nl b p qt e (some c))).run=iff (cr [c] [34]) (some (.next,rS W tok ln (some 97) nl b p true e (some c))) (iff (d5 [c] [92]) (some (.next,rS W tok ln (some c) nl b p true 34 (some c))) (q5 W tok ln (some 34) nl b p true e c)):=by kernel_rfl
theorem XA:(ex L4 MB 52 nR (nV 3) (rS W tok ln (some 92) nl b p qt 97 (some c))).run=q5 W tok ln (some 97) nl b p qt 97 c:=by kernel_rfl
theorem XB:(ex L4 MB 52 nR (nV 3) (rS W tok ln (some 92) nl b p qt 34 (some c))).run=iff (!cr [c] [92]) (iff (!cr [c] [34]) (iff (decide (tok.length+1<=br)) (q5 W (tok++[92]) ln (some 34) nl b p qt 34 c) none) (q5 W tok ln (some 34) nl b p qt 34 c)) (q5 W tok ln (some 34) nl b p qt 34 c):=by kernel_rfl
theorem XC:(ex L4 MB 52 nR (nV 3) (rS W tok ln (some 97) nl b p qt e none)).run=some (.brk,rS W tok ln none nl b p qt e none):=by kernel_rfl
theorem XD:(ex L4 MB 52 nR (nV 3) (rS W tok ln (some 97) nl b p qt e (some c))).run=iff (d5 [c] [32,9,13,10]) (iff (!tok.isEmpty) (some (.brk,rS W tok ln (some 32) nl b p qt e (some c))) (iff qt (some (.brk,rS W tok ln (some 32) nl b p qt e (some c))) (some (.cont,rS W tok ln (some 32) nl b p qt e (some c)))))
 (iff (d5 [c] [39,34]) (some (.next,rS W tok ln (some c) nl b p qt e (some c))) (iff (d5 [c] [92]) (some (.next,rS W tok ln (some c) nl b p qt 97 (some c))) (iff (d5 [c] W) (q5 W tok ln (some 97) nl b p qt e c) (iff (d5 [c] [39,34]) (q5 W tok ln (some 97) nl b p qt e c) (q5 W tok ln (some 97) nl b p qt e c))))):=by kernel_rfl
theorem Md:(ex L4 MB 59 nR (cu bR 0) ⟨dK tm [.obj 0],none,i9 ⟨W,st,tok,ln⟩ nl b p⟩).run=some (.next,⟨dK [lP,mK] [.obj 0,.bool false],none,i9 ⟨W,st,tok,ln⟩ nl b p⟩):=by kernel_rfl
theorem Me:(ex L4 MB 58 nR (cu bR 1) ⟨dK [lP,mK] [.obj 0,.bool false],none,i9 ⟨W,st,tok,ln⟩ nl b p⟩).run=some (.next,Rt ⟨W,st,tok,ln⟩ nl b p false 32 none):=by kernel_rfl
theorem Mf:(cM L4 MB 57 nR (cu bR 3::cu bR 4::cu bR 5::cu bR 6::cu bR 7::[]) (rS W tok ln st nl b p qt e ch)).run=iff (!qt) (iff (cr tok []) (some (.ret .none,⟨vR qt e (some (cD ch))++[(mM,.none)],none,i9 ⟨W,st,[],ln⟩ nl b p⟩)) (some (.ret (.str tok),⟨vR qt e (some (cD ch))++[(mM,.str tok)],none,i9 ⟨W,st,[],ln⟩ nl b p⟩))) (some (.ret (.str tok),⟨vR qt e (some (cD ch))++[(mM,.str tok)],none,i9 ⟨W,st,[],ln⟩ nl b p⟩)):=by kernel_rfl
end
abbrev Nt:Nm:=[112,97,116]
abbrev Ut:Nm:=[81,85,69,83,84,73,79,78,95,77,65,82,75]
abbrev Yr:Nm:=[105]
abbrev Y2:Nm:=[99]
abbrev Ys:Nm:=[106]
abbrev KP:Nm:=[115,116,117,102,102]
abbrev tP:Nm:=[114,101,115]
abbrev F4:Nm:=[97,100,100]
def oZ:Stmt:=sb 29 3
abbrev wb(i:Nat):Stmt:=cu (cP oZ) i
theorem Uu:bd 29=sb 29 0::sb 29 1::sb 29 2::oZ::sb 29 4::sb 29 5::[]:=by kernel_rfl
theorem QV:cP oZ=wb 0::wb 1::wb 2::[]:=by kernel_rfl
def u8:Stmt:=cu (cP (wb 2)) 0
theorem QW:cP (wb 2)=u8::[]:=by kernel_rfl
theorem KR:cP u8=cu (cP u8) 0::[]:=by kernel_rfl
theorem KU:rB u8=[]:=by kernel_rfl
def qQ:Stmt:=cu (rB (wb 2)) 0
theorem QX:rB (wb 2)=qQ::[]:=by kernel_rfl
theorem KV:cP qQ=cu (cP qQ) 0::[]:=by kernel_rfl
def u9:Stmt:=cu (rB qQ) 0
theorem F5:rB qQ=u9::[]:=by kernel_rfl
theorem KW:rB u9=cu (rB u9) 0::[]:=by kernel_rfl
abbrev kb(i:Nat):Stmt:=cu (cP u9) i
theorem KX:cP u9=kb 0::kb 1::kb 2::kb 3::kb 4::[]:=by kernel_rfl
theorem KY:cP (kb 1)=cu (cP (kb 1)) 0::[]:=by kernel_rfl
theorem KZ:rB (kb 1)=[]:=by kernel_rfl
theorem K0:rB (kb 2)=[]:=by kernel_rfl
theorem La:cP (kb 3)=cu (cP (kb 3)) 0::[]:=by kernel_rfl
abbrev eb(i:Nat):Stmt:=cu (rB (kb 4)) i
theorem QY:rB (kb 4)=eb 0::eb 1::eb 2::eb 3::eb 4::[]:=by kernel_rfl
def vj:Option (Int×Option (List Nat))->List (Nm×D)
 |none=>[]
 |some (j,none)=>[(Ys,.int j)]
 |some (j,some s)=>[(Ys,.int j),(KP,.str s)]
def Uv(x:List Nat)(i:Int):Option (Nat×Option (Int×Option (List Nat)))->List (Nm×D)
 |none=>[(Nt,.str x),(g8,.none),(Ut,.str [63]),(Xg,.int x.length),(Yr,.int i)]
 |some (c,oj)=>[(Nt,.str x),(g8,.none),(Ut,.str [63]),(Xg,.int x.length),(Yr,.int i),(Y2,.str [c])]++vj oj
abbrev Oc:=Option (Nat×Option (Int×Option (List Nat)))
def bD(x:List Nat)(ob:List Ob)(ds:List D)(i:Int)(o:Oc):St:=⟨Uv x i o,some (tP,some F4,ds),ob⟩
def Lb:Oc->Option (Int×Option (List Nat))
 |none=>none
 |some (_,oj)=>oj
def Uw:Option (Int×Option (List Nat))->Option (List Nat)
 |some (_,s)=>s
 |none=>none
section
variable(x:List Nat)(ob:List Ob)(ds:List D)(i j:Int)(c:Nat)(o:Oc)(oj:Option (Int×Option (List Nat)))(s:Option (List Nat))
theorem Lc:(ex gA MB 59 (sn 29) (sb 29 0) ⟨dK lq [.str x,.none,.str [63]],none,ob⟩).run=some (.next,⟨dK lq [.str x,.none,.str [63]],some (tP,none,[]),ob⟩):=by kernel_rfl
theorem F6:(ex gA MB 58 (sn 29) (sb 29 1) ⟨dK lq [.str x,.none,.str [63]],some (tP,none,[]),ob⟩).run=some (.next,⟨dK lq [.str x,.none,.str [63]],some (tP,some F4,[]),ob⟩):=by kernel_rfl
theorem F7:(ex gA MB 57 (sn 29) (sb 29 2) ⟨dK lq [.str x,.none,.str [63]],some (tP,some F4,[]),ob⟩).run=some (.next,bD x ob [] 0 none):=by kernel_rfl
theorem AH:(eF gA MB 55 (sn 29) (bV oZ) (bD x ob ds i o)).run=some (decide (i<(x.length:Int)),bD x ob ds i o):=by rcases o with _|⟨_,_|⟨_,_|_⟩⟩<;>kernel_rfl
theorem Ld:(ex gA MB 54 (sn 29) (wb 0) (bD x ob ds i o)).run=iff (cL i x.length) (some (.next,bD x ob ds i (some (x.getD (gy i x.length) 0,Lb o)))) none:=by rcases o with _|⟨_,_|⟨_,_|_⟩⟩<;>kernel_rfl
theorem Le:(ex gA MB 53 (sn 29) (wb 1) (bD x ob ds i (some (c,oj)))).run=some (.next,bD x ob ds (i+1) (some (c,oj))):=by rcases oj with _|⟨_,_|_⟩<;>kernel_rfl
theorem Lf:(eF gA MB 51 (sn 29) (bV (wb 2)) (bD x ob ds i (some (c,oj)))).run=some (cr [c] [42],bD x ob ds i (some (c,oj))):=by rcases oj with _|⟨_,_|_⟩<;>kernel_rfl
theorem qR:(eF gA MB 49 (sn 29) (bV qQ) (bD x ob ds i (some (c,oj)))).run=some (cr [c] [63],bD x ob ds i (some (c,oj))):=by rcases oj with _|⟨_,_|_⟩<;>kernel_rfl
theorem xe:(eF gA MB 47 (sn 29) (bV u9) (bD x ob ds i (some (c,oj)))).run=some (cr [c] [91],bD x ob ds i (some (c,oj))):=by rcases oj with _|⟨_,_|_⟩<;>kernel_rfl
theorem Lg:(eF gA MB 49 (sn 29) (bV u8) (bD x ob ds i (some (c,oj)))).run=iff (!(!ds.isEmpty)) (some (true,bD x ob ds i (some (c,oj)))) (iff (cL (-1) ds.length) (((lU .IsNot (ds.getD (gy (-1) ds.length) .none) .none).bind λb=>.ret (b,bD x ob ds i (some (c,oj)))).bind λp=>.ask p.1 (.ret (true,p.2)) (.ret (false,p.2))).run none):=by rcases oj with _|⟨_,_|_⟩<;>kernel_rfl
theorem F8:(ex gA MB 48 (sn 29) (cu (cP u8) 0) (bD x ob ds i (some (c,oj)))).run=iff (decide (ds.length<br)) (some (.next,bD x ob (ds++[.none]) i (some (c,oj)))) none:=by rcases oj with _|⟨_,_|_⟩<;>kernel_rfl
theorem Lh:(ex gA MB 48 (sn 29) (cu (cP qQ) 0) (bD x ob ds i (some (c,oj)))).run=iff (decide (ds.length<br)) (some (.next,bD x ob (ds++[.str [63]]) i (some (c,oj)))) none:=by rcases oj with _|⟨_,_|_⟩<;>kernel_rfl
theorem Li:(ex gA MB 46 (sn 29) (cu (rB u9) 0) (bD x ob ds i (some (c,oj)))).run=iff (decide (ds.length<br)) (some (.next,bD x ob (ds++[.str (mZ [c])]) i (some (c,oj)))) none:=by rcases oj with _|⟨_,_|_⟩<;>kernel_rfl
theorem F9:(ex gA MB 46 (sn 29) (kb 0) (bD x ob ds i (some (c,oj)))).run=some (.next,bD x ob ds i (some (c,some (i,Uw oj)))):=by rcases oj with _|⟨_,_|_⟩<;>kernel_rfl
theorem Ga:(eF gA MB 44 (sn 29) (bV (kb 1)) (bD x ob ds i (some (c,some (j,s))))).run=iff (decide (j<(x.length:Int))) (iff (cL j x.length) (iff (cr [x.getD (gy j x.length) 0] [33]) (some (true,bD x ob ds i (some (c,some (j,s))))) (some (false,bD x ob ds i (some (c,some (j,s)))))) none) (some (false,bD x ob ds i (some (c,some (j,s))))):=by cases s<;>kernel_rfl
theorem Ch:(ex gA MB 43 (sn 29) (cu (cP (kb 1)) 0) (bD x ob ds i (some (c,some (j,s))))).run=some (.next,bD x ob ds i (some (c,some (j+1,s)))):=by cases s<;>kernel_rfl
theorem Gb:(eF gA MB 43 (sn 29) (bV (kb 2)) (bD x ob ds i (some (c,some (j,s))))).run=iff (decide (j<(x.length:Int))) (iff (cL j x.length) (iff (cr [x.getD (gy j x.length) 0] [93]) (some (true,bD x ob ds i (some (c,some (j,s))))) (some (false,bD x ob ds i (some (c,some (j,s)))))) none) (some (false,bD x ob ds i (some (c,some (j,s))))):=by cases s<;>kernel_rfl
theorem xf:(eF gA MB 42 (sn 29) (bV (kb 3)) (bD x ob ds i (some (c,some (j,s))))).run=iff (decide (j<(x.length:Int))) (iff (cL j x.length) (iff (!cr [x.getD (gy j x.length) 0] [93]) (some (true,bD x ob ds i (some (c,some (j,s))))) (some (false,bD x ob ds i (some (c,some (j,s)))))) none) (some (false,bD x ob ds i (some (c,some (j,s))))):=by cases s<;>kernel_rfl
theorem Ci:(ex gA MB 41 (sn 29) (cu (cP (kb 3)) 0) (bD x ob ds i (some (c,some (j,s))))).run=some (.next,bD x ob ds i (some (c,some (j+1,s)))):=by cases s<;>kernel_rfl
theorem Gc:(eF gA MB 41 (sn 29) (bV (kb 4)) (bD x ob ds i (some (c,some (j,s))))).run=some (decide (j>=(x.length:Int)),bD x ob ds i (some (c,some (j,s)))):=by cases s<;>kernel_rfl
theorem Ge:(ex gA MB 40 (sn 29) (eb 0) (bD x ob ds i (some (c,some (j,s))))).run=some (.next,bD x ob ds i (some (c,some (j,some (cJ x (fv x.length i) (fv x.length j)))))):=by cases s<;>kernel_rfl
abbrev eR:List Stmt:=eb 1::eb 2::eb 3::eb 4::[]
theorem Lj:(cM gA MB 40 (sn 29) eR (bD x ob ds i (some (c,some (j,some [97,98]))))).run=iff (decide (ds.length<br)) (some (.next,bD x ob (ds++[.str [91,97,98,93]]) (j+1) (some (c,some (j,some [97,98]))))) none:=by kernel_rfl
theorem Lk:(cM gA MB 40 (sn 29) eR (bD x ob ds i (some (c,some (j,some [33,97]))))).run=iff (decide (ds.length<br)) (some (.next,bD x ob (ds++[.str [91,94,97,93]]) (j+1) (some (c,some (j,some [94,97]))))) none:=by kernel_rfl
theorem Ll:(cM gA MB 40 (sn 29) eR (bD x ob ds i (some (c,some (j,some [42]))))).run=iff (decide (ds.length<br)) (some (.next,bD x ob (ds++[.str [91,42,93]]) (j+1) (some (c,some (j,some [42]))))) none:=by kernel_rfl
theorem Lm:(cM gA MB 40 (sn 29) eR (bD x ob ds i (some (c,some (j,some [63]))))).run=iff (decide (ds.length<br)) (some (.next,bD x ob (ds++[.str [91,63,93]]) (j+1) (some (c,some (j,some [63]))))) none:=by kernel_rfl
theorem Lo:(cM gA MB 40 (sn 29) eR (bD x ob ds i (some (c,some (j,some [91]))))).run=iff (decide (ds.length<br)) (some (.next,bD x ob (ds++[.str [91,92,91,93]]) (j+1) (some (c,some (j,some [92,91]))))) none:=by kernel_rfl
theorem Gf:(cM gA MB 56 (sn 29) (sb 29 4::sb 29 5::[]) (bD x ob ds i o)).run=iff (i==(x.length:Int)) (some (.ret (.list ds),⟨Uv x i o++[(tP,.list ds)],none,ob⟩)) none:=by rcases o with _|⟨_,_|⟨_,_|_⟩⟩<;>kernel_rfl
end
inductive Tk where
 |star|q
 |ch(c:Nat)
 |cl(s:List Nat)
def po:Tk->List Nat
 |.star=>[42]
 |.q=>[63]
 |.ch c=>[c]
 |.cl s=>91::(s++[93])
def lN:Tk->Prop
 |.ch c=>c≠42/\c≠63/\c≠91
 |.cl s=>s=[97,98]\/s=[33,97]\/s=[42]\/s=[63]\/s=[91]
 |_=>True
def Xj(s:List Nat):List Nat:=if s=[33,97] then [91,94,97,93] else if s=[91] then [91,92,91,93] else 91::(s++[93])
abbrev Pt:=Option (List Nat)
def pD:Pt->D
 |none=>.none
 |some s=>.str s
def gO(a:List Pt):Tk->List Pt
 |.star=>if a.getLast?=some none then a else a++[none]
 |.q=>a++[some [63]]
 |.ch c=>a++[some (mZ [c])]
 |.cl s=>a++[some (Xj s)]
theorem Cj(a:List Pt)(t:Tk):(gO a t).length<=a.length+1:=by
 have h:∀p:Pt,(a++[p]).length=a.length+1:=λp=>by rw[ae];rfl
 cases t with
 |star=>
  show(if a.getLast?=some none then a else a++[none]).length<=_
  split
  .exact Nat.le_succ _
  .rw[h];exact aF _
 |q=>exact aO (h _)
 |ch c=>exact aO (h _)
 |cl s=>exact aO (h _)
theorem pp(a:List Nat)(c:Nat)(r:List Nat):(a++c::r).getD (gy (a.length:Int) (a++c::r).length) 0=c:=by have:gy (a.length:Int) (a++c::r).length=a.length:=IK _ _;rw[this,List.getD,List.getElem?_append_right (aF _),Nat.sub_self];rfl
theorem mG(a:List Nat)(c:Nat)(r:List Nat):cL (a.length:Int) (a++c::r).length=true:=by exact fI (aX _) pG
section
variable(x:List Nat)(ob:List Ob)
theorem lO(a b:Nat):cr [a] [b]=decide (a=b):=by
 by_cases h:a=b
 .rw[ac h,h];exact g7 _
 .rw[aG h];exact eM.mpr λq=>h (by cases q;rfl)
theorem AI(ds:List D)(i:Int)(c:Nat)(s:Option (List Nat)):∀(b a r:List Nat),x=a++(b++93::r)->(∀z∈b,z≠93)->∀m,b.length<m->
 (dO (λst=>eF gA MB 42 (sn 29) (bV (kb 3)) st) (λst=>cM gA MB 42 (sn 29) (cP (kb 3)) st) m (bD x ob ds i (some (c,some ((a.length:Int),s))))).run=some (.next,bD x ob ds i (some (c,some (((a++b).length:Int),s))))
 |[],a,r,g,_,m+1,_=>by
  have f:=xf x ob ds i (a.length:Int) c s;rw[List.nil_append] at g;have h:(a.length:Int)<x.length:=by rw[g];exact pG
  rw[ac h,bP] at f;have j:cL (a.length:Int) x.length=true:=by rw[g];exact mG _ _ _
  have k:x.getD (gy (a.length:Int) x.length) 0=93:=by rw[g];exact pp _ _ _
  rw[j,k,bP] at f;rw[List.append_nil];exact F3 f
 |z::b,a,r,g,l,m+1,n=>by
  have f:=xf x ob ds i (a.length:Int) c s;have d:x=a++z::(b++93::r):=g;have h:(a.length:Int)<x.length:=by rw[d];exact pG
  rw[ac h,bP] at f;have j:cL (a.length:Int) x.length=true:=by rw[d];exact mG _ _ _
  have k:x.getD (gy (a.length:Int) x.length) 0=z:=by rw[d];exact pp _ _ _
  rw[j,k,bP,lO,aG (l z (.head _)),Bool.not_false,bP] at f;have e:((a++[z]).length:Int)=a.length+1:=by rw[ae];rfl
  have:=AI ds i c s b (a++[z]) r (by rw[d,aR];rfl) (λy p=>l y (.tail _ p)) m (Nat.lt_of_succ_lt_succ n);rw[e,aR] at this;rw[KA f (o:=.next) (st2:=bD x ob ds i (some (c,some ((a.length:Int)+1,s)))) ?_ (.inl rfl)]
  .exact this
  .rw[La,bk (Ci x ob ds i _ c s)];rfl
theorem Lp(ds:List D)(i j:Int)(c:Nat)(s:List Nat)(b:ds.length<1000000)(h:lN (.cl s)):∃s',(cM gA MB 40 (sn 29) eR (bD x ob ds i (some (c,some (j,some s))))).run=some (.next,bD x ob (ds++[.str (Xj s)]) (j+1) (some (c,some (j,some s')))):=by
 have d:br=16777216:=rfl;have a:decide (ds.length<br)=true:=ac (aI b (by decide));rcases h with rfl|rfl|rfl|rfl|rfl
 .exact⟨_,(Lj x ob ds i j c).trans (cF a rfl)⟩
 .exact⟨_,(Lk x ob ds i j c).trans (cF a rfl)⟩
 .exact⟨_,(Ll x ob ds i j c).trans (cF a rfl)⟩
 .exact⟨_,(Lm x ob ds i j c).trans (cF a rfl)⟩
 .exact⟨_,(Lo x ob ds i j c).trans (cF a rfl)⟩
theorem Lq(a s r:List Nat):cJ (a++(s++r)) (fv (a++(s++r)).length (a.length:Int)) (fv (a++(s++r)).length ((a++s).length:Int))=s:=by
 have b:fv (a++(s++r)).length (a.length:Int)=a.length:=o5 (Dj _ _);have c:fv (a++(s++r)).length ((a++s).length:Int)=(a++s).length:=by rw[<-aR];exact o5 (Dj _ _)
 unfold cJ;rw[b,c,<-aR,List.take_left,List.drop_left]
theorem kX{a:List Pt}{b y r:List Nat}{c:Nat}(f:x=b++c::(y++r))(o:Oc):(eF gA MB 55 (sn 29) (bV oZ) (bD x ob (a.map pD) b.length o)).run=some (true,bD x ob (a.map pD) b.length o)/\
 ∀d i g,(ex gA MB 52 (sn 29) (wb 2) (bD x ob (a.map pD) (b.length+1) (some (c,Lb o)))).run=some (.next,bD x ob d i g)->(cM gA MB 55 (sn 29) (cP oZ) (bD x ob (a.map pD) b.length o)).run=some (.next,bD x ob d i g):=by
 have h:(b.length:Int)<x.length:=by rw[f];exact pG
 have j:cL (b.length:Int) x.length=true:=by rw[f];exact mG _ _ _
 have k:x.getD (gy (b.length:Int) x.length) 0=c:=by rw[f];exact pp _ _ _
 refine⟨by rw[AH,ac h],λd i g e=>?_⟩;have e0:=Ld x ob (a.map pD) b.length o;rw[j,k,bP] at e0;rw[QV,bk e0,bk (Le x ob (a.map pD) b.length c (Lb o)),bk e];rfl
theorem mH{ds:List D}{i:Int}{c:Nat}{oj:Option (Int×Option (List Nat))}:(ex gA MB 52 (sn 29) (wb 2) (bD x ob ds i (some (c,oj)))).run=iff (decide (c=42)) (cM gA MB 51 (sn 29) (u8::[]) (bD x ob ds i (some (c,oj)))).run (cM gA MB 51 (sn 29) (qQ::[]) (bD x ob ds i (some (c,oj)))).run:=by have h:=fR (s:=wb 2) (by kernel_rfl) (Lf x ob ds i c oj);rw[QW,QX,lO] at h;exact h
theorem kY{a z:List Nat}(b:z.length=1):(a.length:Int)+1=((a++z).length:Int):=by rw[ae,b];rfl
theorem y8(a:List Pt)(p:a.length<1000000)(i:Int)(oj:Option (Int×Option (List Nat))):(ex gA MB 52 (sn 29) (wb 2) (bD x ob (a.map pD) i (some (42,oj)))).run=some (.next,bD x ob ((gO a .star).map pD) i (some (42,oj))):=by
 have t:br=16777216:=rfl;have r:(a.map pD).length<br:=by rw[ak];exact aI p (by decide)
 refine(mH x ob).trans ?_;rw[ac rfl,bP];have c:=Lg x ob (a.map pD) i 42 oj;have q:∃b,(eF gA MB 49 (sn 29) (bV u8) (bD x ob (a.map pD) i (some (42,oj)))).run=some (b,bD x ob (a.map pD) i (some (42,oj)))/\(if b then a++[none] else a)=gO a .star:=by
  rcases dT a with e|⟨b,l,e⟩
  .rw[e] at c⊢;exact⟨true,c,rfl⟩
  .rw[e] at c⊢;have k:((b++[l]).map pD).isEmpty=false:=by rw[be];exact pn _ _
   have g:((b++[l]).map pD).length=b.length+1:=by rw[ak,ae];rfl
   have f:gy (-1) (b.length+1)=b.length:=by unfold gy;rw[aH (by exact by decide)];exact XJ _
   have m:cL (-1) (b.length+1)=true:=by unfold cL;rw[ac (by omega),ac (by omega)];rfl
   have d:((b++[l]).map pD).getD b.length .none=pD l:=by rw[be,List.getD,List.getElem?_append_right (by rw[ak];exact aF _),ak,Nat.sub_self];rfl
   have n:gO (b++[l]) .star=if l=none then b++[l] else(b++[l])++[none]:=by unfold gO;rw[List.getLast?_append];cases l<;>rfl
   rw[k,Bool.not_false,Bool.not_true,cU,g,m,bP,f,d] at c;rw[n];cases l with
   |none=>exact⟨false,c,rfl⟩
   |some l=>exact⟨true,c,rfl⟩
 obtain⟨b,e,j⟩:=q;rw[<-j];have h:=fR (s:=u8) (by kernel_rfl) e;rw[KR,KU] at h;cases b with
 |true=>rw[bP] at h;have o:=F8 x ob (a.map pD) i 42 oj;rw[ac r,bP] at o;rw[bk (h.trans (bk o)),aH rfl,be];rfl
 |false=>rw[cU] at h;rw[bk h];rfl
theorem Gg(a:List Pt)(c:a.length<1000000)(i:Int)(oj:Option (Int×Option (List Nat))):(ex gA MB 52 (sn 29) (wb 2) (bD x ob (a.map pD) i (some (63,oj)))).run=some (.next,bD x ob ((a++[some [63]]).map pD) i (some (63,oj))):=by
 have d:(a.map pD).length<br:=by rw[ak];exact aI c (by decide)
 refine(mH x ob).trans ?_;rw[aG (by decide),cU];have h:=fR (s:=qQ) (by kernel_rfl) (qR x ob (a.map pD) i 63 oj);rw[lO,ac rfl,bP,KV] at h;have b:=Lh x ob (a.map pD) i 63 oj;rw[ac d,bP] at b;rw[bk (h.trans (bk b)),be];rfl
theorem Gh(a:List Pt)(e:a.length<1000000)(i:Int)(c:Nat)(oj:Option (Int×Option (List Nat)))(ok:lN (.ch c)):(ex gA MB 52 (sn 29) (wb 2) (bD x ob (a.map pD) i (some (c,oj)))).run=some (.next,bD x ob ((a++[some (mZ [c])]).map pD) i (some (c,oj))):=by
 have f:(a.map pD).length<br:=by rw[ak];exact aI e (by decide)
 refine(mH x ob).trans ?_;rw[aG ok.1,cU];have h:=fR (s:=qQ) (by kernel_rfl) (qR x ob (a.map pD) i c oj);rw[lO,aG ok.2.1,cU,F5] at h;have d:=fR (s:=u9) (by kernel_rfl) (xe x ob (a.map pD) i c oj);rw[lO,aG ok.2.2,cU,KW] at d;have b:=Li x ob (a.map pD) i c oj;rw[ac f,bP] at b;rw[bk (h.trans (bk (d.trans (bk b)))),be];rfl
theorem qS{p z:List Nat}{w:Nat}(e:x=p++w::z):decide ((p.length:Int)<x.length)=true/\cL (p.length:Int) x.length=true/\x.getD (gy (p.length:Int) x.length) 0=w:=
 ⟨ac (by rw[e];exact pG),by rw[e];exact mG _ _ _,by rw[e];exact pp _ _ _⟩
theorem Nu{s:List Nat}(ok:lN (.cl s)):(∀z∈s,z≠93)/\s.length<=2:=by rcases ok with e|e|e|e|e<;>(rw[e];exact⟨by decide,by decide⟩)
theorem Ux{s:List Nat}(ok:lN (.cl s))(a:s≠[33,97]):∃z s',s=z::s'/\z≠33:=by rcases ok with e|e|e|e|e<;>first|exact aK e a|exact⟨_,_,e,by decide⟩
theorem y9(a:List Pt){pr s r:List Nat}(ok:lN (.cl s))(c:x=pr++(s++93::r))(f:Option (List Nat)):∃b p2,s=b++p2/\(∀z∈p2,z≠93)/\(ex gA MB 45 (sn 29) (kb 1) (bD x ob (a.map pD) pr.length (some (91,some ((pr.length:Int),f))))).run=some (.next,bD x ob (a.map pD) pr.length (some (91,some (((pr++b).length:Int),f))))/\p2≠[]:=by
 have d:=Ga x ob (a.map pD) pr.length pr.length 91 f;by_cases j:s=[33,97]
 .obtain⟨g,h,i⟩:=qS x (p:=pr) (w:=33) (z:=97::93::r) (by rw[c,j];rfl);rw[g,h,i,bP,bP,lO,ac rfl,bP] at d;refine⟨[33],[97],j,λz k=>by rw[az.mp k];decide,?_,by decide⟩;rw[fR (s:=kb 1) (by kernel_rfl) d,bP,KY,bk (Ch x ob _ _ _ 91 f),ae];rfl
 .obtain⟨z,s',e⟩:=Ux ok j;refine⟨[],s,rfl,(Nu ok).1,?_,by rw[e.1];exact λq=>nomatch q⟩;obtain⟨g,h,i⟩:=qS x (p:=pr) (w:=z) (z:=s'++93::r) (by rw[c,e.1];rfl);rw[g,h,i,bP,bP,lO,aG e.2,cU] at d;rw[fR (s:=kb 1) (by kernel_rfl) d,cU,KZ,List.append_nil];rfl
theorem Gi(a:List Pt){b p2 r:List Nat}(d:x=b++(p2++93::r))(c:∀z∈p2,z≠93)(l:p2≠[])(i:Int)(f:Option (List Nat)):(ex gA MB 44 (sn 29) (kb 2) (bD x ob (a.map pD) i (some (91,some ((b.length:Int),f))))).run=some (.next,bD x ob (a.map pD) i (some (91,some ((b.length:Int),f)))):=by
 have g:=Gb x ob (a.map pD) i b.length 91 f;obtain⟨z,s',e⟩:∃z s',p2=z::s':=by cases p2 with|nil=>exact aK rfl l|cons z s'=>exact⟨_,_,rfl⟩
 obtain⟨h,j,k⟩:=qS x (p:=b) (w:=z) (z:=s'++93::r) (by rw[d,e];rfl);rw[h,j,k,bP,bP,lO,aG (c z (by rw[e];exact .head _)),cU] at g;rw[fR (s:=kb 2) (by kernel_rfl) g,cU,K0];rfl
theorem Gj(a:List Pt)(t:a.length<1000000){pr s r:List Nat}(ok:lN (.cl s))(c:x=pr++(s++93::r))(oj:Option (Int×Option (List Nat))):∃v,(ex gA MB 52 (sn 29) (wb 2) (bD x ob (a.map pD) pr.length (some (91,oj)))).run=some (.next,bD x ob ((a++[some (Xj s)]).map pD) (((pr++s).length:Int)+1) v):=by
 have h:=fR (s:=qQ) (by kernel_rfl) (qR x ob (a.map pD) pr.length 91 oj);rw[lO,aG (by decide),cU,F5] at h;have j:=fR (s:=u9) (by kernel_rfl) (xe x ob (a.map pD) pr.length 91 oj);rw[lO,ac rfl,bP,KX,bk (F9 x ob _ _ 91 oj)] at j;generalize Uw oj=so at j;obtain⟨b,p2,d,f,k,l⟩:=y9 x ob a ok c so;have i:x=(pr++b)++(p2++93::r):=by rw[c,d,aR,aR]
 have g:p2.length<3:=by have:=(Nu ok).2;rw[d,ae] at this;exact Nat.lt_succ_of_le (aj (aB _ _) this)
 have p:=AI x ob (a.map pD) pr.length 91 so p2 (pr++b) r i f pP (aI g (by decide));rw[<-kf (s:=kb 3) (by kernel_rfl),aR,<-d] at p;have n:=Gc x ob (a.map pD) pr.length (pr++s).length 91 so;have m:decide (((pr++s).length:Int)>=x.length)=false:=aG (by rw[c,<-aR,ae (as:=pr++s),aC];exact λq=>Nat.not_le_of_lt (Sp) (Int.ofNat_le.mp q))
 rw[m] at n;have e:=Ge x ob (a.map pD) pr.length (pr++s).length 91 so;rw[show cJ x (fv x.length (pr.length:Int)) (fv x.length ((pr++s).length:Int))=s by rw[c];exact Lq _ _ _] at e;obtain⟨s',u⟩:=Lp x ob (a.map pD) pr.length (pr++s).length 91 s (by rw[ak];exact t) ok;have o:=fR (s:=kb 4) (by kernel_rfl) n;rw[cU,QY,bk e] at o;rw[bk k,bk (Gi x ob a i f l _ so),bk p,bk (o.trans u)] at j;refine⟨some (91,some (((pr++s).length:Int),some s')),(mH x ob).trans ?_⟩;rw[aG (by decide),cU,bk (h.trans (bk j)),be];rfl
theorem Lr(a:List Pt)(t:Tk)(b r:List Nat)(g:x=b++(po t++r))(ok:lN t)(h:a.length<1000000)(o:Oc):(eF gA MB 55 (sn 29) (bV oZ) (bD x ob (a.map pD) b.length o)).run=some (true,bD x ob (a.map pD) b.length o)/\
 ∃i,(cM gA MB 55 (sn 29) (cP oZ) (bD x ob (a.map pD) b.length o)).run=some (.next,bD x ob ((gO a t).map pD) ((b++po t).length:Int) i):=by
 cases t with
 |star=>obtain⟨f,d⟩:=kX x ob (a:=a) (y:=[]) g o;rw[kY (z:=po .star) rfl] at d;exact⟨f,_,d _ _ _ (y8 x ob a h _ _)⟩
 |q=>obtain⟨f,d⟩:=kX x ob (a:=a) (y:=[]) g o;rw[kY (z:=po .q) rfl] at d;exact⟨f,_,d _ _ _ (Gg x ob a h _ _)⟩
 |ch c=>obtain⟨f,d⟩:=kX x ob (a:=a) (y:=[]) g o;rw[kY (z:=po (.ch c)) rfl] at d;exact⟨f,_,d _ _ _ (Gh x ob a h _ c _ ok)⟩
 |cl s=>
  obtain⟨f,d⟩:=kX x ob (a:=a) (y:=s++[93]) g o;rw[kY (z:=[91]) rfl] at d;obtain⟨i,j⟩:=Gj x ob a h (pr:=b++[91]) (r:=r) ok (by rw[g];show _++(91::(s++[93])++r)=_;simp) (Lb o);refine⟨f,i,d _ _ _ (j.trans ?_)⟩;have e:(((b++[91])++s).length:Int)+1=((b++po (.cl s)).length:Int):=by show _=((b++91::(s++[93])).length:Int);simp only[ae,aC,List.length_nil];omega
  rw[e];rfl
end
def Ls:List (List Nat):=[[97,98],[33,97],[42],[63],[91]]
def tQ(r:List Nat):List (List Nat)->Option (List Nat)
 |[]=>none
 |w::ws=>iff (ip (w++[93]) r) (some w) (tQ r ws)
theorem Lu{r w:List Nat}{ws:List (List Nat)}:tQ r (w::ws)=iff (ip (w++[93]) r) (some w) (tQ r ws):=rfl
def tk1(c:Nat):Tk:=iff (Nat.beq c 42) .star (iff (Nat.beq c 63) .q (.ch c))
def za:Nat->List Nat->Option (List Tk)
 |0,x=>iff x.isEmpty (some []) none
 |n+1,x=>match x with
  |[]=>some []
  |c::r=>iff (Nat.beq c 91) ((tQ r Ls).bind λw=>(za n (r.drop (w.length+1))).map (.cl w::·)) ((za n r).map (tk1 c::·))
def Gk(x:List Nat):Option (List Tk):=za x.length x
theorem qT{r w:List Nat}:∀{ws:List (List Nat)},tQ r ws=some w->w∈ws/\r=w++[93]++r.drop (w.length+1)
 |[],h=>cX h
 |v::ws,h=>by
  rw[Lu] at h;cases e:ip (v++[93]) r with
  |true=>rw[e,bP] at h;rw[<-ag h];have a:=(mf _ _).mp e;rw[ae] at a;exact⟨.head _,by conv=>lhs;rw[<-List.take_append_drop (v.length+1) r,show r.take (v.length+1)=_ from a]⟩
  |false=>rw[e,cU] at h;exact⟨.tail _ (qT h).1,(qT h).2⟩
theorem Lv{w:List Nat}(h:w∈Ls):lN (.cl w):=by
 unfold Ls at h;show w=[97,98]\/w=[33,97]\/w=[42]\/w=[63]\/w=[91]
 simpa using h
theorem QZ{c:Nat}(h:Nat.beq c 91=false):po (tk1 c)=[c]/\lN (tk1 c):=by
 unfold tk1;cases e:Nat.beq c 42 with
 |true=>rw[au e];exact⟨rfl,trivial⟩
 |false=>
  rw[cU];cases a:Nat.beq c 63 with
  |true=>rw[au a];exact⟨rfl,trivial⟩
  |false=>exact⟨rfl,Nat.ne_of_beq_eq_false e,Nat.ne_of_beq_eq_false a,Nat.ne_of_beq_eq_false h⟩
theorem xg{t:Tk}{r:List Nat}{l:List Tk}(ok:lN t)(b:0<(po t).length)(h:r=l.flatMap po/\(∀t∈l,lN t)/\l.length<=r.length):po t++r=(t::l).flatMap po/\(∀u∈t::l,lN u)/\(t::l).length<=(po t++r).length:=by
 refine⟨by rw[List.flatMap_cons,<-h.1],λu a=>?_,?_⟩
 .rcases ao.mp a with e|a
  .rw[e];exact ok
  .exact h.2.1 u a
 .rw[ae,aC,Nat.add_comm];exact Nat.add_le_add b h.2.2
theorem Q0:∀(n:Nat) {x:List Nat} {ts:List Tk},za n x=some ts->x=ts.flatMap po/\(∀t∈ts,lN t)/\ts.length<=x.length:=by
 intro n
 induction n with
 |zero=>
  intro x ts h;cases x with
  |nil=>rw[<-ag h];exact⟨rfl,λk h=>(nomatch h),aF _⟩
  |cons _ _=>exact cX h
 |succ n f=>
  intro x ts h;cases x with
  |nil=>rw[<-ag h];exact⟨rfl,λk h=>(nomatch h),aF _⟩
  |cons c r=>
   replace h:iff (Nat.beq c 91) ((tQ r Ls).bind λw=>(za n (r.drop (w.length+1))).map (.cl w::·)) ((za n r).map (tk1 c::·))=some ts:=h;cases e:Nat.beq c 91 with
   |true=>
    rw[e,bP] at h;refine eW h ?_;clear h;intro w i h;obtain⟨l,a,b⟩:=Option.map_eq_some_iff.mp h;obtain⟨m,g⟩:=qT i;have j:c::r=po (.cl w)++r.drop (w.length+1):=by rw[au e];exact aU (91::·) g
    rw[<-b,j];exact xg (Lv m) (Nat.succ_pos _) (f a)
   |false=>rw[e,cU] at h;obtain⟨l,a,b⟩:=Option.map_eq_some_iff.mp h;obtain⟨d,ok⟩:=QZ e;rw[<-b,show c::r=po (tk1 c)++r from by rw[d];rfl];exact xg ok (by rw[d];exact Nat.one_pos) (f a)
theorem Gl{x:List Nat}{ts:List Tk}(h:Gk x=some ts):x=ts.flatMap po/\(∀t∈ts,lN t)/\ts.length<=x.length:=Q0 _ h
theorem xh(x:List Nat)(ob:List Ob):∀(ts:List Tk) (b:List Nat) (a:List Pt) (o:Oc) (m:Nat),x=b++ts.flatMap po->(∀t∈ts,lN t)->a.length+ts.length<1000000->ts.length<m->
 ∃f,(dO (λst=>eF gA MB 55 (sn 29) (bV oZ) st) (λst=>cM gA MB 55 (sn 29) (cP oZ) st) m (bD x ob (a.map pD) b.length o)).run=some (.next,bD x ob ((ts.foldl gO a).map pD) (x.length:Int) f)
 |[],b,a,o,m+1,c,_,_,_=>by rw[show([]:List Tk).flatMap po=[] from rfl,List.append_nil] at c;have d:=AH x ob (a.map pD) b.length o;rw[aG (by rw[c];exact λq=>Nat.not_lt_of_le (Sp) (Int.ofNat_lt.mp q))] at d;exact⟨o,by rw[F3 d,c];rfl⟩
 |t::ts,b,a,o,m+1,c,ok,e,g=>by rw[aC] at e g;obtain⟨d,f,i⟩:=Lr x ob a t b (ts.flatMap po) c (ok t (.head _)) (by exact aS (ba _ _) e) o;have:=Cj a t;obtain⟨k,h⟩:=xh x ob ts (b++po t) (gO a t) f m (by rw[c,aR];rfl) (λt j=>ok t (.tail _ j)) (by exact k9 e this) (Nat.lt_of_succ_lt_succ g);exact⟨k,by rw[KA d i (.inl rfl)];exact h⟩
def kh(x:List Nat):Option (List Pt):=(Gk x).map λts=>ts.foldl gO []
theorem Q6{x:List Nat}{ps:List Pt}(h:kh x=some ps)(b:x.length<=1000)(ob:List Ob):(eQ gA MB (ft 29) lq [.str x,.none,.str [63]] ob).run=some (.list (ps.map pD),ob):=by obtain⟨ts,f,rfl⟩:=Option.map_eq_some_iff.mp h;obtain⟨g,ok,c⟩:=Gl f;obtain⟨o,d⟩:=xh x ob ts [] [] none pP g ok (by rw[List.length_nil];exact k9 b c) (aS (aj c b) (by decide));rw[<-kf (s:=oZ) (by kernel_rfl)] at d;have a:(ex gA MB 56 (sn 29) oZ (bD x ob [] 0 none)).run=some (.next,bD x ob ((ts.foldl gO []).map pD) (x.length:Int) o):=d;have e:=Gf x ob ((ts.foldl gO []).map pD) x.length o;rw[show((x.length:Int)==(x.length:Int))=true from beq_self_eq_true _,bP] at e;refine fD (Eq.trans ?_ e);show(cM gA MB 60 (sn 29) (bd 29) ⟨dK lq [.str x,.none,.str [63]],none,ob⟩).run=_;rw[Uu,bk (Lc x ob),bk (F6 x ob),bk (F7 x ob),bk a]
def Q7(ds:List D):T D:=t3 ds λa b c=>tS a λx=>tS c λy=>.gd (rD b&&cr y [63])<|.chk (decide (x.length<=1000)) ((T.opt (kh x)).bind λps=>.ret (.list (ps.map pD)))
def C7:KT:=gA.add 190 (Fp Q7)
theorem Uy(w:aq)(ts:Tb):fz w ts C7 24:=(Us w ts).next (ET _) (jE (Us w ts) (ET _) (Pi _) λds ob d h=>by refine WC h ?_;clear h;intro a b c e h;refine gF h ?_;clear h;intro x f h;refine gF h ?_;clear h;intro y g h;refine dz h ?_;clear h;intro k h;refine bx k λi j=>ct h λl h=>bv h λps m h=>?_;rw[e,f,lw i,g,dW j,<-ag h];exact⟨rfl,Q6 (bn m) (ar l) ob⟩)
structure Ms where
 st:Option Nat
 tok:List Nat
 qt:Bool
 esc:Nat
 ln:Int
abbrev Ru(c:Nat):Prop:=c=32\/c=9\/c=13\/c=10
abbrev Mg(c:Nat):Prop:=c=39\/c=34
def AS(m:Ms)(c:Nat):Ms:=⟨m.st,m.tok,m.qt,m.esc,if c=10 then m.ln+1 else m.ln⟩
def fL(m:Ms)(s c:Nat):Option (Ms×Bool):=
 if s=32 then if Ru c then some (m,!m.tok.isEmpty||m.qt) else if c=92 then some (⟨some 92,m.tok,m.qt,97,m.ln⟩,false) else if Mg c then some (⟨some c,m.tok,m.qt,m.esc,m.ln⟩,false) else some (⟨some 97,[c],m.qt,m.esc,m.ln⟩,false)
 else if s=97 then if Ru c then some (⟨some 32,m.tok,m.qt,m.esc,m.ln⟩,!m.tok.isEmpty||m.qt) else if c=92 then some (⟨some 92,m.tok,m.qt,97,m.ln⟩,false) else if Mg c then some (⟨some c,m.tok,m.qt,m.esc,m.ln⟩,false) else some (⟨some 97,m.tok++[c],m.qt,m.esc,m.ln⟩,false)
 else if s=39 then if c=39 then some (⟨some 97,m.tok,true,m.esc,m.ln⟩,false) else some (⟨some 39,m.tok++[c],true,m.esc,m.ln⟩,false)
 else if s=34 then if c=34 then some (⟨some 97,m.tok,true,m.esc,m.ln⟩,false) else if c=92 then some (⟨some 92,m.tok,true,34,m.ln⟩,false) else some (⟨some 34,m.tok++[c],true,m.esc,m.ln⟩,false)
 else if s=92 then if m.esc=97 then some (⟨some 97,m.tok++[c],m.qt,97,m.ln⟩,false) else if m.esc=34 then some (⟨some 34,if c≠92/\c≠34 then m.tok++[92]++[c] else m.tok++[c],m.qt,34,m.ln⟩,false) else none
 else none
def fV(m:Ms):Option Nat->Option (Ms×Bool)
 |none=>match m.st with
  |none=>some (⟨none,[],m.qt,m.esc,m.ln⟩,true)
  |some s=>if s=32\/s=97 then some (⟨none,m.tok,m.qt,m.esc,m.ln⟩,true) else none
 |some c=>match m.st with
  |none=>some (⟨none,[],m.qt,m.esc,(AS m c).ln⟩,true)
  |some s=>fL (AS m c) s c
def Mh(W:List Nat):Prop:=d5 [39] W=false/\d5 [34] W=false
theorem oM(c:Nat):∀l:List Nat,d5 [c] l=decide (c∈l)
 |[]=>rfl
 |a::r=>by show((Nat.beq c a&&true)||d5 [c] r)=_;rw[oM c r,Bool.and_true,Bool.eq_iff_iff,Bool.or_eq_true,aZ,aZ,ao];exact⟨λh=>h.elim (λh=>.inl (au h)) .inr,λh=>h.elim (λh=>.inl (h▸Nat.beq_refl c)) .inr⟩
theorem UX(c:Nat):d5 [c] [32,9,13,10]=decide (Ru c):=by rw[oM];exact decide_eq_decide.mpr (by unfold Ru;simp)
theorem Mi(c:Nat):d5 [c] [39,34]=decide (Mg c):=by rw[oM];exact decide_eq_decide.mpr (by unfold Mg;simp)
theorem Rv(c:Nat):d5 [c] [92]=decide (c=92):=by rw[oM];exact decide_eq_decide.mpr (by simp)
theorem UY{α:Type}{p:Prop}[Decidable p]{t f:α}:iff (decide p) t f=if p then t else f:=by
 by_cases h:p
 .rw[aH h,ac h];rfl
 .rw[av h,aG h];rfl
section
variable{W b:List Nat}{nl:D}{p:Int}
abbrev mS(W:List Nat)(m:Ms)(nl:D)(b:List Nat)(p:Int)(nx:Option D):St:=Rt ⟨W,m.st,m.tok,m.ln⟩ nl b p m.qt m.esc nx
def Gd(W:List Nat)(nl:D)(b:List Nat)(p:Int)(ch:Option Nat)(r:Option (Ms×Bool))(x:Option (dN×St)):Prop:=∀m' a,r=some (m',a)->∃o,x=some (o,mS W m' nl b p (some (cD ch)))/\(a=true->o=.brk)/\(a=false->o=.next\/o=.cont)
variable{ch:Option Nat}{tok:List Nat}{qt:Bool}{esc c:Nat}{ln:Int}
theorem Gd.none{x:Option (dN×St)}:Gd W nl b p ch .none x:=λa a h=>by cases h
theorem Gd.of_eq{r a:Option (Ms×Bool)}{x:Option (dN×St)}(e:r=a)(h:Gd W nl b p ch a x):Gd W nl b p ch r x:=e▸h
theorem Gd.iff{k:Bool}{P:Prop}[Decidable P](e:k=decide P){r a:Option (Ms×Bool)}{x y:Option (dN×St)}(c:P->Gd W nl b p ch r x)(d:¬P->Gd W nl b p ch a y):Gd W nl b p ch (if P then r else a) (Mine.iff k x y):=by
 by_cases h:P
 .rw[aH h,e,ac h];exact c h
 .rw[av h,e,aG h];exact d h
theorem Gd.n{m':Ms}{x:Option (dN×St)}(e:x=some (.next,mS W m' nl b p (some (cD ch)))):Gd W nl b p ch (some (m',false)) x:=λa a h=>by cases h;exact⟨_,e,λh=>(by cases h),λa=>.inl rfl⟩
theorem Gd.both{k:Bool}{r:Option (Ms×Bool)}{x y:Option (dN×St)}(a:Gd W nl b p ch r x)(c:Gd W nl b p ch r y):Gd W nl b p ch r (Mine.iff k x y):=by cases k<;>assumption
theorem Gd.ws{m':Ms}:Gd W nl b p ch (some (m',!m'.tok.isEmpty||m'.qt)) (Mine.iff (!m'.tok.isEmpty) (some (dN.brk,mS W m' nl b p (some (cD ch)))) (Mine.iff m'.qt (some (.brk,mS W m' nl b p (some (cD ch)))) (some (.cont,mS W m' nl b p (some (cD ch)))))):=λa a h=>by cases h;cases m'.tok.isEmpty<;>cases m'.qt<;>first|exact⟨_,rfl,λa=>rfl,λh=>(by cases h)⟩|exact⟨_,rfl,λh=>(by cases h),λa=>.inr rfl⟩
theorem k7{st:Option Nat}(h:tok.length<=10000001):q5 W tok ln st nl b p qt esc c=some (.next,rS W (tok++[c]) ln st nl b p qt esc (some c)):=cF (ac (by have a:br=16777216:=rfl;exact aS h (by decide))) rfl
theorem Rw(a:Mh W):Gd W nl b p (some c) (fL ⟨some 32,tok,qt,esc,ln⟩ 32 c) (ex L4 MB 52 nR (nV 3) (rS W tok ln (some 32) nl b p qt esc (some c))).run:=by
 rw[Xx];refine .of_eq (aH rfl) (.iff (UX c) (λd=>.ws) λd=>.iff (Rv c) (λe=>.n (by rw[e])) λd=>?_);by_cases q:Mg c
 .rw[aH q,show d5 [c] W=false from q.elim (λe=>by rw[e];exact a.1) (λe=>by rw[e];exact a.2),cU,Mi,ac q];exact .n rfl
 .rw[av q,Mi,aG q];exact .both (.n rfl) (.n rfl)
theorem Rx(d:tok.length<=10000001):Gd W nl b p (some c) (fL ⟨some 97,tok,qt,esc,ln⟩ 97 c) (ex L4 MB 52 nR (nV 3) (rS W tok ln (some 97) nl b p qt esc (some c))).run:=by
 rw[XD,k7 d];refine .of_eq (av (by decide)) (.of_eq (aH rfl) (.iff (UX c) (λa=>.ws (m':=⟨some 32,tok,qt,esc,ln⟩)) λa=>?_));by_cases q:Mg c
 .rw[av (λe=>by rw[e] at q;exact aK q (by decide)),aH q,Mi,ac q];exact .n rfl
 .rw[Mi,aG q];exact .iff (Rv c) (λe=>.n (by rw[e])) λa=>by rw[av q];exact .both (.n rfl) (.n rfl)
theorem Mj(a:tok.length<=10000001):Gd W nl b p (some c) (fL ⟨some 39,tok,qt,esc,ln⟩ 39 c) (ex L4 MB 52 nR (nV 3) (rS W tok ln (some 39) nl b p qt esc (some c))).run:=by rw[Xy,k7 a];exact .of_eq (av (by decide)) (.of_eq (av (by decide)) (.of_eq (aH rfl) (.iff (lO c 39) (λd=>.n rfl) λd=>.both (.n rfl) (.n rfl))))
theorem Mk(d:tok.length<=10000001):Gd W nl b p (some c) (fL ⟨some 34,tok,qt,esc,ln⟩ 34 c) (ex L4 MB 52 nR (nV 3) (rS W tok ln (some 34) nl b p qt esc (some c))).run:=by rw[Xz,k7 d];exact .of_eq (av (by decide)) (.of_eq (av (by decide)) (.of_eq (av (by decide)) (.of_eq (aH rfl) (.iff (lO c 34) (λa=>.n rfl) λa=>.iff (Rv c) (λe=>.n (by rw[e])) λa=>.n rfl))))
theorem Ml(g:tok.length<=10000000):Gd W nl b p (some c) (fL ⟨some 92,tok,qt,esc,ln⟩ 92 c) (ex L4 MB 52 nR (nV 3) (rS W tok ln (some 92) nl b p qt esc (some c))).run:=by
 refine .of_eq (av (by decide)) (.of_eq (av (by decide)) (.of_eq (av (by decide)) (.of_eq (av (by decide)) (.of_eq (aH rfl) ?_))));by_cases e:esc=97
 .subst e;rw[XA,k7 (by exact Nat.le_succ_of_le g)];exact .of_eq (aH rfl) (.n rfl)
 .refine .of_eq (av e) ?_;by_cases d:esc=34
  .subst d;refine .of_eq (aH rfl) ?_;rw[XB,k7 (tok:=tok++[92]) (by rw[ae,aV];exact Nat.succ_le_succ g),k7 (tok:=tok) (by exact Nat.le_succ_of_le g),ac (by have i:br=16777216:=rfl;exact aj (Nat.succ_le_succ g) (by decide)),bP,lO,lO];by_cases a:c=92
   .rewrite[ac a,av (λh=>h.1 a)];exact .n rfl
   .by_cases f:c=34
    .rewrite[aG a,ac f,av (λh=>h.2 f)];exact .n rfl
    .rw[aG a,aG f,aH ⟨a,f⟩];exact .n rfl
  .exact .of_eq (av d) .none
set_option tactic.hygienic true in
theorem Nz{m m':Ms}{a:Bool}(l:Mh W)(d:m.tok.length<=10000000)(h:(match m.st,ch with
 |none,_=>some (⟨none,[],m.qt,m.esc,m.ln⟩,true)
 |some s,none=>if s=32\/s=97 then some ((⟨none,m.tok,m.qt,m.esc,m.ln⟩:Ms),true) else none
 |some s,some c=>fL m s c)=some (m',a)):
 ∃o,(ex L4 MB 52 nR (nV 3) (mS W m nl b p (some (cD ch)))).run=some (o,mS W m' nl b p (some (cD ch)))/\(a=true->o=.brk)/\(a=false->o=.next\/o=.cont):=by
 obtain⟨st,tok,qt,esc,ln⟩:=m;dsimp only at d;cases st with
 |none=>cases h;exact⟨.brk,Za W tok ln nl b p qt esc ch,λk=>rfl,λh=>by cases h⟩
 |some s=>
  cases ch with
  |none=>
   dsimp only at h
   split at h
   .rename_i n;cases h;rcases n with rfl|rfl
    .exact⟨.brk,Xw W tok ln nl b p qt esc,λk=>rfl,λh=>by cases h⟩
    .exact⟨.brk,XC W tok ln nl b p qt esc,λk=>rfl,λh=>by cases h⟩
   .cases h
  |some c=>
   dsimp only at h;by_cases e:s=32
   .subst e;exact Rw l _ _ h
   by_cases j:s=97
   .subst j;exact Rx (tok:=tok) (by exact Nat.le_succ_of_le d) _ _ h
   by_cases g:s=39
   .subst g;exact Mj (tok:=tok) (by exact Nat.le_succ_of_le d) _ _ h
   by_cases f:s=34
   .subst f;exact Mk (tok:=tok) (by exact Nat.le_succ_of_le d) _ _ h
   by_cases i:s=92
   .subst i;exact Ml d _ _ h
   unfold fL at h;rw[av e,av j,av g,av f,av i] at h;cases h
theorem nW{m m':Ms}{ch:Option Nat}{a:Bool}{n:Nat}(j:Mh W)(k:m.tok.length<=10000000)(v:b.length<=10000000)(h:fV m ch=some (m',a))(g:b[n]?=ch)(nx:Option D):
 ∃o,(cM L4 MB 56 nR (cP wR) (mS W m nl b n nx)).run=some (o,mS W m' nl b (match ch with|none=>n|some _=>n+1) (some (cD ch)))/\(a=true->o=.brk)/\(a=false->o=.next\/o=.cont):=by
 have d:=Mc W m.tok m.ln m.st nl b n m.qt m.esc nx;rw[ac (by exact aX _),ac v,show(true&&true)=true from rfl,bP] at d;have fin:∀{mm:Ms} {p:Int},(∃o,(ex L4 MB 52 nR (nV 3) (mS W mm nl b p (some (cD ch)))).run=some (o,mS W m' nl b p (some (cD ch)))/\(a=true->o=.brk)/\(a=false->o=.next\/o=.cont))->(cM L4 MB 56 nR (cP wR) (mS W m nl b n nx)).run=(cM L4 MB 53 nR (nV 3::[]) (mS W mm nl b p (some (cD ch)))).run->
  ∃o,(cM L4 MB 56 nR (cP wR) (mS W m nl b n nx)).run=some (o,mS W m' nl b p (some (cD ch)))/\(a=true->o=.brk)/\(a=false->o=.next\/o=.cont):=λ⟨o,l,r,t⟩ e=>by
  refine⟨o,?_,r,t⟩;rw[e];show((ex L4 MB 52 nR (nV 3) (mS W _ nl b _ (some (cD ch)))).bind λp=>match p.1 with
   |.next=>cM L4 MB 52 nR [] p.2
   |o=>T.ret (o,p.2)).run=_
  rw[bq l];cases o<;>rfl
 cases ch with
 |none=>
  have i:b.length<=n:=List.getElem?_eq_none_iff.mp g;rw[ac (by exact Int.ofNat_le.mpr i),bP] at d;refine fin (mm:=m) (Nz j k ?_) ?_
  .unfold fV at h;cases f:m.st<;>(rw[f] at h;exact h)
  .rw[Hq,bk d,bk (Hr W m.tok m.ln m.st nl b n m.qt m.esc),bk (AR W m.tok m.ln m.st nl b n m.qt m.esc none)]
 |some c=>
  have i:n<b.length:=(aY.mp g).1;rw[aG (by exact λq=>Nat.not_le_of_lt (ir i) (Int.ofNat_le.mp q)),cU] at d;have w:b.getD (n:Int).toNat 0=c:=by rw[Int.toNat_natCast,List.getD,g];rfl
  rw[w] at d;have u:(ex L4 MB 54 nR (nV 1) (rS W m.tok m.ln m.st nl b (n+1) m.qt m.esc (some c))).run=some (.next,mS W (AS m c) nl b (n+1) (some (cD (some c)))):=by
   rw[Hs,lO,UY];unfold AS;by_cases e:c=10
   .rw[aH e,aH e]
   .rw[av e,av e]
  refine fin (mm:=AS m c) (Nz j k ?_) ?_
  .unfold fV at h;cases f:m.st with
   |none=>rw[f] at h;rw[show(AS m c).st=none from f];exact h
   |some s=>rw[f] at h;rw[show(AS m c).st=some s from f];exact h
  .rw[Hq,bk d,bk u,bk (AR W (AS m c).tok (AS m c).ln (AS m c).st nl b (n+1) (AS m c).qt (AS m c).esc (some c))]
def kt:Ms->List Nat->Option (Ms×List Nat)
 |m,[]=>match fV m none with
  |some (m',true)=>some (m',[])
  |_=>none
 |m,c::r=>match fV m (some c) with
  |some (m',true)=>some (m',r)
  |some (m',false)=>kt m' r
  |none=>none
theorem Ht{m:Ms}{c:Nat}{r:List Nat}:kt m (c::r)=match fV m (some c) with
 |some (m',true)=>some (m',r)
 |some (m',false)=>kt m' r
 |none=>none:=rfl
theorem AT{m m':Ms}{r:List Nat}(h:kt m []=some (m',r)):fV m none=some (m',true)/\r=[]:=by
 have h:(match fV m none with
  |some (m',true)=>some (m',[])
  |_=>none)=some (m',r):=h
 cases e:fV m none with
 |none=>rw[e] at h;cases h
 |some q=>
  obtain⟨q,b⟩:=q;rw[e] at h;cases b with
  |true=>cases h;exact⟨rfl,rfl⟩
  |false=>cases h
theorem AU{m m':Ms}{c:Nat}{x r:List Nat}(h:kt m (c::x)=some (m',r)):(fV m (some c)=some (m',true)/\r=x)\/∃q,fV m (some c)=some (q,false)/\kt q x=some (m',r):=by
 rw[Ht] at h;cases e:fV m (some c) with
 |none=>rw[e] at h;cases h
 |some q=>
  obtain⟨q,b⟩:=q;rw[e] at h;cases b with
  |true=>cases h;exact .inl ⟨rfl,rfl⟩
  |false=>exact .inr ⟨q,rfl,h⟩
def mN(n:Nat)(r:Option (Ms×Bool)):Prop:=∀m' a,r=some (m',a)->m'.tok.length<=n
theorem mN.ite{n:Nat}{P:Prop}[Decidable P]{r a:Option (Ms×Bool)}(b:mN n r)(c:mN n a):mN n (if P then r else a):=by split<;>assumption
theorem mN.s{n:Nat}{m':Ms}{a:Bool}(h:m'.tok.length<=n):mN n (some (m',a)):=λb b e=>by cases e;exact h
theorem mN.none{n:Nat}:mN n .none:=λa a e=>by cases e
theorem CI{m m':Ms}{s c:Nat}{a:Bool}(h:fL m s c=some (m',a)):m'.tok.length<=m.tok.length+2:=by
 have l0:m.tok.length<=m.tok.length+2:=ba _ _;have l1:(m.tok++[c]).length<=m.tok.length+2:=by rw[ae,aV];exact Nat.le_succ _
 have l2:(if c≠92/\c≠34 then m.tok++[92]++[c] else m.tok++[c]).length<=m.tok.length+2:=by
  split
  .rw[ae,ae];exact aF _
  .exact l1
 have l3:[c].length<=m.tok.length+2:=by rw[aV];exact Nat.succ_pos _
 refine(show mN (m.tok.length+2) (fL m s c) from ?_) m' a h;exact .ite (.ite (.s l0) (.ite (.s l0) (.ite (.s l0) (.s l3)))) (.ite (.ite (.s l0) (.ite (.s l0) (.ite (.s l0) (.s l1)))) (.ite (.ite (.s l0) (.s l1)) (.ite (.ite (.s l0) (.ite (.s l0) (.s l1))) (.ite (.ite (.s l1) (.ite (.s l2) .none)) .none))))
theorem CJ{m m':Ms}{ch:Option Nat}{a:Bool}(h:fV m ch=some (m',a)):m'.tok.length<=m.tok.length+2:=by
 unfold fV at h;cases ch with
 |none=>
  replace h:(match m.st with|none=>_|some s=>_)=some (m',a):=h;cases b:m.st with
  |none=>rw[b] at h;cases h;exact Nat.zero_le _
  |some s=>
   rw[b] at h;replace h:(if s=32\/s=97 then _ else none)=some (m',a):=h;by_cases q:s=32\/s=97
   .rw[aH q] at h;cases h;exact ba _ _
   .rw[av q] at h;cases h
 |some c=>
  cases b:m.st with
  |none=>rw[b] at h;cases h;exact Nat.zero_le _
  |some s=>rw[b] at h;have:=CI (m:=AS m c) (s:=s) (c:=c) h;exact this
theorem CK{b r:List Nat}{c n:Nat}(h:b.drop n=c::r):b[n]?=some c/\b.drop (n+1)=r:=by
 have a:b[n]?=(b.drop n)[0]?:=by rw[List.getElem?_drop];rfl
 refine⟨by rw[a,h];rfl,?_⟩;rw[<-List.drop_drop,h];rfl
theorem xo(p:Mh W)(q:b.length<=900000):∀(x:List Nat) (m m':Ms) (a:List Nat) (n:Nat) (nx:Option D) (k:Nat),b.drop n=x->n<=b.length->kt m x=some (m',a)->m.tok.length+2*x.length<=3000000->x.length<k->
 ∃d,(dO (λst=>eF L4 MB 56 nR (bV wR) st) (λst=>cM L4 MB 56 nR (cP wR) st) k (mS W m nl b n nx)).run=some (.next,mS W m' nl b (((b.length-a.length:Nat)):Int) (some (cD d)))/\a.length<=b.length
 |[],m,m',a,n,nx,k+1,u,w,j,h,t=>by
  have e:b.length<=n:=by have:=aU List.length u;rw[List.length_drop,List.length_nil] at this;exact Nat.le_of_sub_eq_zero this
  .obtain⟨g,rfl⟩:=AT j;obtain⟨o,f,r,y⟩:=nW (nl:=nl) p (by exact aj h (aB _ _)) (by exact aj q (aB _ _)) g (List.getElem?_eq_none_iff.mpr e) nx;rw[r rfl] at f;refine⟨none,?_,Nat.zero_le _⟩;rw[Up (vi W m.tok m.ln m.st nl b n m.qt m.esc nx) f];rw[show b.length-[].length=n from by rw[List.length_nil];exact Nat.le_antisymm e w]
 |c::x,m,m',a,n,nx,k+1,u,w,j,h,t=>by
  obtain⟨s,l⟩:=CK u;have e:n<b.length:=(aY.mp s).1;rw[aC] at h t;rcases AU j with⟨g,z⟩|⟨E,g,j⟩
  .rw[z];obtain⟨o,f,r,y⟩:=nW (nl:=nl) p (by exact ir h) (by exact aj q (aB _ _)) g s nx;rw[r rfl] at f;have v:x.length=b.length-(n+1):=by rw[<-l,List.length_drop]
   refine⟨some c,?_,v▸Nat.sub_le _ _⟩;rw[Up (vi W m.tok m.ln m.st nl b n m.qt m.esc nx) f];rw[show b.length-x.length=n+1 from Ze e v];rfl
  .obtain⟨o,f,y,A⟩:=nW (nl:=nl) p (by exact ir h) (by exact aj q (aB _ _)) g s nx;have i:=CJ g;obtain⟨d,B,C⟩:=xo p q x E m' a (n+1) (some (cD (some c))) k l e j (by exact k9 h i) (by exact Nat.lt_of_succ_lt_succ t);refine⟨d,?_,C⟩;rw[KA (vi W m.tok m.ln m.st nl b n m.qt m.esc nx) f (A rfl)];exact B
def rX(st:Option Nat)(ln:Int)(x:List Nat):Option (Option (List Nat)×Option Nat×Int×List Nat):=(kt ⟨st,[],false,32,ln⟩ x).map λq=>(if q.1.qt=false/\q.1.tok=[] then none else some q.1.tok,q.1.st,q.1.ln,q.2)
def Mm:Option (List Nat)->D
 |none=>.none
 |some x=>.str x
theorem Ry(y:Mh W)(p:b.length<=900000){st st':Option Nat}{ln k:Int}{n:Nat}{l:Option (List Nat)}{c:List Nat}(z:n<=b.length)(h:rX st ln (b.drop n)=some (l,st',k,c)):
 (eQ L4 MB (fm 51 6) tm [.obj 0] (i9 ⟨W,st,[],ln⟩ nl b n)).run=some (Mm l,i9 ⟨W,st',[],k⟩ nl b (((b.length-c.length:Nat)):Int)):=by
 obtain⟨⟨m,r⟩,w,x⟩:=Option.map_eq_some_iff.mp h;cases x;have j:(b.drop n).length<=b.length:=by rw[List.length_drop];exact Nat.sub_le _ _
 obtain⟨d,A,B⟩:=xo (nl:=nl) y p (b.drop n) ⟨st,[],false,32,ln⟩ m r n none pP rfl z w (by show 0+_<=_;exact k9 (bc 2 p) (bc 2 j)) (aS j (aS p (by decide)));have q:((ex L4 MB 57 nR wR (Rt ⟨W,st,[],ln⟩ nl b n false 32 none)).run)=some (.next,mS W m nl b (((b.length-r.length:Nat)):Int) (some (cD d))):=by rw[kf (s:=wR) (by kernel_rfl)];exact A
 have v:=Mf W m.tok m.ln m.st nl b (((b.length-r.length:Nat)):Int) m.qt m.esc d;have i:(cM L4 MB 60 nR bR ⟨dK tm [.obj 0],none,i9 ⟨W,st,[],ln⟩ nl b n⟩).run=(cM L4 MB 57 nR (cu bR 3::cu bR 4::cu bR 5::cu bR 6::cu bR 7::[]) (mS W m nl b (((b.length-r.length:Nat)):Int) (some (cD d)))).run:=by rw[UW];exact(bk (Md W [] ln st nl b n)).trans ((bk (Me W [] ln st nl b n)).trans (bk q))
 obtain⟨u,a,f,g,t⟩:=m;by_cases o:f=false/\a=[]
 .rw[aH o];obtain⟨rfl,rfl⟩:=o;exact fD (i.trans v)
 .rw[av o];refine fD (i.trans (v.trans (?_:_=some (dN.ret (.str a),(⟨vR f g (some (cD d))++[(mM,.str a)],none,i9 ⟨W,u,[],t⟩ nl b (((b.length-r.length:Nat)):Int)⟩:St)))));cases f with
  |true=>rfl
  |false=>rw[eM.mpr λe=>o ⟨rfl,e⟩];rfl
end
def Fc(a:List D->List Ob->D×List Ob->Prop):rN:=λds ob=>match Classical.propDecidable (∃r,a ds ob r) with
 |.isTrue h=>.ret (Classical.choose h)
 |.isFalse _=>.fail
theorem AV{a:List D->List Ob->D×List Ob->Prop}{ds:List D}{ob:List Ob}{r:D×List Ob}(h:(Fc a ds ob).run=some r):a ds ob r:=by
 unfold Fc at h;cases b:Classical.propDecidable (∃r,a ds ob r) with
 |isTrue c=>rw[b] at h;cases h;exact Classical.choose_spec c
 |isFalse c=>rw[b] at h;cases h
theorem Hu{a:List D->List Ob->D×List Ob->Prop}{ds:List D}{ob:List Ob}{r:D×List Ob}(b:∀d,a ds ob d->d=r)(h:a ds ob r):(Fc a ds ob).run=some r:=by
 unfold Fc;cases Classical.propDecidable (∃r,a ds ob r) with
 |isTrue c=>exact aU some (b _ (Classical.choose_spec c))
 |isFalse c=>exact aK ⟨r,h⟩ c
inductive nY(ds:List D)(ob:List Ob)(r:D×List Ob):Prop
 |mk (W:List Nat) (st:Option Nat) (ln:Int) (nl:D) (b:List Nat) (n:Nat) (res:Option (List Nat)) (st':Option Nat) (ln':Int) (rest:List Nat) (a1:ds=[.obj 0]) (a2:ob=i9 ⟨W,st,[],ln⟩ nl b n) (a3:Mh W) (a4:b.length<=900000) (a5:n<=b.length)
 (a6:rX st ln (b.drop n)=some (res,st',ln',rest)) (a7:r=(Mm res,i9 ⟨W,st',[],ln'⟩ nl b (((b.length-rest.length:Nat)):Int)))
theorem Mn{a b:Option Nat}(h:Xu a=Xu b):a=b:=by
 cases a<;>cases b<;>first|rfl|cases h|skip
 rfl
theorem Mo{q c:Lx}{nl a:D}{b d:List Nat}{p e:Int}(h:i9 q nl b p=i9 c a d e):q=c/\nl=a/\b=d/\p=e:=by obtain⟨W,st,tok,ln⟩:=q;obtain⟨r,st',f,o⟩:=c;simp only[i9,UU,zh,nT,List.cons.injEq,Ob.mk.injEq,Prod.mk.injEq,D.str.injEq,D.int.injEq,true_and,and_true] at h;obtain⟨⟨g,i,j,k⟩,l,m,n⟩:=h;exact⟨by rw[g,Mn i,j,k],l,m,n⟩
theorem xq{ds:List D}{ob:List Ob}{r g:D×List Ob}(h:nY ds ob r)(h':nY ds ob g):g=r:=by
 obtain⟨W,st,ln,nl,b,n,y,st1,v,j,a,l,a,a,B,m,rfl⟩:=h;obtain⟨z,st',u,x,A,w,i,k,f,e,a,c,a,a,t,d,rfl⟩:=h';obtain⟨o,p,q,s⟩:=Mo (l.symm.trans c);cases o;subst p q;obtain rfl:n=w:=by exact Int.ofNat.inj s
 cases(ag (m.symm.trans d));rfl
def L5:KT:=L4.add 846 (Fc nY)
theorem Zb(w:aq)(ts:Tb):fz w ts L5 5:=nU (Y9 w ts) (Pu _) (Pv _) λds ob d ob' r=>by obtain⟨W,st,ln,nl,b,n,j,st',i,a,rfl,rfl,c,e,f,g,h⟩:=AV r;cases h;exact⟨rfl,Ry c e f g⟩
section
variable{K:KT}{M:gz}{n:Nat}{sc:Sc}{st st1 st2:St}{d:D}{ds es:List D}{ob':List Ob}
def VU(sc:Sc)(f:Sc->Scope->NY->Bool)(e:Expr):Bool:=match eK e with
 |.lc _ b a _=>match ma b with
  |some g=>f sc a g
  |none=>false
 |_=>false
set_option tactic.hygienic true in
theorem Uz{e:Expr}{f:Sc->Scope->NY->Bool}{G:Expr->Prop}(h:VU sc f e=true)(q:∀b g a p,f sc a g=true->G (.ListComp b [⟨.Name g.1 g.2.1,g.2.2.1,g.2.2.2.1,g.2.2.2.2⟩] a p)):G e:=by
 rw[<-fO e];revert h;unfold VU;generalize eK e=k;cases k<;>first|exact λh=>(ab h).elim|skip
 rename_i b c a p;dsimp only;cases d:ma c with
 |none=>exact λh=>(ab h).elim
 |some g=>exact λh=>(vE d)▸q b g a p h
def Xk(sc:Sc)(e:Expr):Bool:=VU sc Dx e
theorem i0{e:Expr}(h:Xk sc e=true)(a:(ev K M n sc (ch e 1) st).run=some (d,st1))(i:lV d=some ds)(b:(dv (bO K M n sc e st1.v) ds st1.ob).run=some (es,ob')):(ev K M (n+1) sc e st).run=some (.list es,⟨st1.v,st1.ow,ob'⟩):=by revert a b;refine Uz (G:=λe=>(ev K M n sc (ch e 1) st).run=some (d,st1)->(dv (bO K M n sc e st1.v) ds st1.ob).run=some (es,ob')->(ev K M (n+1) sc e st).run=some (.list es,⟨st1.v,st1.ow,ob'⟩)) h λf g c p h a b=>?_;refine(aU T.run (qO (show _=true from h))).trans ?_;rw[bq (show(ev K M n sc g.2.2.1 st).run=_ from a),i,bq (show(T.opt (some ds)).run=_ from rfl)];exact(bq b).trans rfl
abbrev Xl(sc:Sc)(x:Nm)(s:Stmt):Prop:=(s,jG (kd sc x),m7 (bV s),(jj (bV s)).isSome)=(.Assign [.Name (S x) (tp s)] (bV s) s.pos,true,false,false)
theorem jB{s:Stmt}{x:Nm}(h:Xl sc x s)(c:(ev K M n sc (bV s) st).run=some (d,st1)):(ex K M (n+1) sc s st).run=some (.next,st1.set x d):=by
 have a:=aU Prod.snd h;have e:jG (kd sc x)=true:=aU Prod.fst a;have f:m7 (bV s)=false:=aU (λq=>q.2.1) a;have b:(jj (bV s)).isSome=false:=aU (λq=>q.2.2) a;rw[show s=.Assign [.Name (S x) (tp s)] (bV s) s.pos from aU Prod.fst h];show(T.gd (jG (kd sc x)) (pS (ev K M n sc) st x (bV s))).run=_;rw[qO e];unfold pS;rw[f];dsimp only;cases g:jj (bV s) with
 |some m=>rw[g] at b;exact(ab b.symm).elim
 |none=>exact bq c
abbrev UA(sc:Sc)(x:Nm)(s:Stmt):Prop:=(s,jG (kd sc x)&&!jx (bV s))=(.For (.Name (S x) (tp s)) (bV s) (cP s) [] s.pos,true)
theorem zb{s:Stmt}{x:Nm}(h:UA sc x s)(a:(ev K M n sc (bV s) st).run=some (d,st1))(b:lV d=some ds):(ex K M (n+1) sc s st).run=(dS (λd st=>cM K M n sc (cP s) (st.set x d)) ds st1).run:=by have c:(jG (kd sc x)&&!jx (bV s))=true:=aU Prod.snd h;rw[show s=.For (.Name (S x) (tp s)) (bV s) (cP s) [] s.pos from aU Prod.fst h];refine(aU T.run (qO (show(([]:List Stmt).isEmpty&&jG (kd sc x)&&!jx (bV s))=true from c))).trans ?_;rw[bq a,b,bq (show(T.opt (some ds)).run=_ from rfl)];rfl
end
theorem nF{f:D->St->T (dN×St)}{d:D}{ds:List D}{st st1:St}{o:dN}(h:(f d st).run=some (o,st1))(a:o=.next\/o=.cont):(dS f (d::ds) st).run=(dS f ds st1).run:=by
 show((f d st).bind λp=>match p.1 with
  |.next=>dS f ds p.2
  |.cont=>dS f ds p.2
  |.brk=>T.ret (dN.next,p.2)
  |.ret r=>T.ret (dN.ret r,p.2)).run=_
 rw[bq h];rcases a with rfl|rfl<;>rfl
abbrev pq:=List Nat×List Nat
def cb(r:pq):D:=.list [.str r.1,.str r.2]
def Lw(d:D):Option pq:=(rZ d).bind λl=>(C6 l).bind λp=>(je p.1).bind λa=>(je p.2).bind λb=>some (a,b)
theorem Ly(a:D)(b:pq)(h:Lw a=some b):a=cb b:=by refine eW h ?_;clear h;intro l e h;refine eW h ?_;clear h;intro p c h;refine eW h ?_;clear h;intro x d h;refine eW h ?_;clear h;intro y f h;rw[gE e,pM c,d9 d,d9 f,<-ag h];rfl
def iE(a b:List Nat):List Nat:=iff (ip [47] b) b (iff (!(!a.isEmpty)) b (iff (ip [47] a.reverse) (a++b) (a++([47]++b))))
theorem Ck{a b:List Nat}(e:a.length<=100000)(d:b.length<=100000):(tK a b).run=some (.str (iE a b)):=by
 have c:br=16777216:=rfl;unfold tK iE;rw[f9,f9,f9];cases ip [47] b with
 |true=>rfl
 |false=>
  cases !(!a.isEmpty) with
  |true=>rfl
  |false=>
   cases ip [47] a.reverse with
   |true=>rw[cU,cU,bP,ce (ac (by exact AX e d (aO c.symm)))];rfl
   |false=>rw[cU,cU,cU,ce (ac (by exact k9 d (aO c.symm))),ce (ac (by rw[ae];show _+(1+_)<=_;exact AX e d (aO c.symm)))];rfl
def Lz(x:List Nat):Bool:=cr [x.getD 0 0] [46]
def eU(a:List Nat)(is:List bL)(r:pq):Bool:=(!Lz r.2||Lz a)&&dI is r.2
def nH(ps:List Pt):Option (List bL):=ig (λp=>oG (pD p)) ps
def nJ(rs:List pq):Bool:=rs.all (λr=>!r.2.isEmpty&&decide (r.2.length<=1000)&&decide (r.1.length<=1000))&&decide (rs.length<1000)
def em(a:List (List Nat))(ns:List pq):List (List Nat):=a.flatMap λf=>(ns.filter λr=>cr r.1 f).map λr=>iE f r.2
def i6:Nat->List Nat->List pq->Option (List (List Nat))
 |0,_,_=>none
 |n+1,a,rs=>if a=[] then some [[]] else if nJ rs/\a.length<=1000/\cj a≠[] then
   (kh (cj a)).bind λps=>(nH ps).bind λis=>(i6 n (fE a) rs).bind λb=>
    if(∀f∈b,f.length<=10000)/\(em b (rs.filter (eU (cj a) is))).length<64 then some (dC (em b (rs.filter (eU (cj a) is)))) else none
  else none
theorem ve{n:Nat}{a:List Nat}{rs:List pq}:i6 (n+1) a rs=if a=[] then some [[]] else if nJ rs/\a.length<=1000/\cj a≠[] then
 (kh (cj a)).bind λps=>(nH ps).bind λis=>(i6 n (fE a) rs).bind λb=>
  if(∀f∈b,f.length<=10000)/\(em b (rs.filter (eU (cj a) is))).length<64 then some (dC (em b (rs.filter (eU (cj a) is)))) else none
 else none:=rfl
abbrev gH:Nm:=[114,111,119,115]
abbrev qU:Nm:=[114,111,119]
abbrev zc:Nm:=[108,97,115,116]
abbrev iF:Nm:=[116,97,107,101,110]
abbrev i7:Nm:=[102,111,108,100,101,114]
def jr(F:rN):KT:=C7.add 959 F
abbrev sO(i:Nat):Stmt:=sb 66 i
theorem UB:bd 66=sO 0::sO 1::sO 2::sO 3::sO 4::sO 5::sO 6::sO 7::[]:=by kernel_rfl
def vf:Stmt:=cu (cP (sO 4)) 0
theorem Q8:cP (sO 4)=vf::[]:=by kernel_rfl
theorem Q9:cP vf=cu (cP vf) 0::[]:=by kernel_rfl
theorem Ra:rB vf=[]:=by kernel_rfl
def Gm:Stmt:=cu (cP (sO 6)) 0
theorem Rb:cP (sO 6)=Gm::[]:=by kernel_rfl
def vg:Expr:=ch (bV Gm) 1
section
variable(F:rN)(w l:List Nat)(rs:List D)(is:List D)(ds:List D)(ob:List Ob)(q:Option D)
def jC:List (Nm×D):=[(fS,.str w),(gH,.list rs),(zc,.str l)]
def xi:Option D->List (Nm×D)
 |none=>[(fS,.str w),(gH,.list rs),(zc,.str l),(kS,.list is)]
 |some r=>[(fS,.str w),(gH,.list rs),(zc,.str l),(kS,.list is),(qU,r)]
def fK:St:=⟨xi w l rs is q,some (mB,none,ds),ob⟩
def tR(ns:List D):List (Nm×D):=xi w l rs is q++[(mB,.list ns)]
def i8(ns tk:List D):Option D->St
 |none=>⟨tR w l rs is q ns,some (iF,none,tk),ob⟩
 |some f=>⟨tR w l rs is q ns++[(i7,f),(iF,.list tk)],none,ob⟩
def mI(ns tk:List D)(f:D):List (Nm×D):=tR w l rs is q ns++[(i7,f),(iF,.list tk)]
theorem LA:(eQ (jr F) MB (ft 66) jA [.str [],.list rs] ob).run=some (.list [.str []],ob):=by kernel_rfl
theorem LB(c:Nat)(r:List Nat):(ex (jr F) MB 59 (sn 66) (sO 0) ⟨dK jA [.str (c::r),.list rs],none,ob⟩).run=some (.next,⟨dK jA [.str (c::r),.list rs],none,ob⟩):=by kernel_rfl
theorem LC:(ex (jr F) MB 58 (sn 66) (sO 1) ⟨dK jA [.str w,.list rs],none,ob⟩).run=some (.next,⟨jC w (cj w) rs,none,ob⟩):=by kernel_rfl
theorem Gn:(ev (jr F) MB 55 (sn 66) (ch (bV (sO 2)) 1) ⟨jC w l rs,none,ob⟩).run=((C7.fn 190 [.str l,.none,.str [63]] ob).bind λd=>.ret (d.1,(⟨jC w l rs,none,d.2⟩:St))).run:=by kernel_rfl
theorem Gp(d:D):(bO (jr F) MB 55 (sn 66) (bV (sO 2)) (jC w l rs) d ob).run=(((C7.fn 949 [d] ob).bind λr=>.ret (r.1,(⟨[([112,97,114,116],d)],none,r.2⟩:St))).bind λr=>.ret (some r.1,r.2.ob)).run:=by kernel_rfl
theorem Gq:(St.set ⟨jC w l rs,none,ob⟩ kS (.list is))=⟨xi w l rs is none,none,ob⟩:=by kernel_rfl
theorem LD:(ex (jr F) MB 56 (sn 66) (sO 3) ⟨xi w l rs is none,none,ob⟩).run=some (.next,fK w l rs is [] ob none):=by kernel_rfl
theorem LG:(ev (jr F) MB 54 (sn 66) (bV (sO 4)) (fK w l rs is ds ob q)).run=some (.list rs,fK w l rs is ds ob q):=by cases q<;>kernel_rfl
def Gr(n:List Nat)(st:St):T (Bool×St):=(((C7.fn 954 [.list is,.str n] ob).bind λd=>.ret (d.1,(⟨st.v,st.ow,d.2⟩:St))).bind λp=>(T.opt (gB p.1)).bind λb=>.ret (b,p.2)).bind λp=>.ask p.1 (.ret (true,p.2)) (.ret (false,p.2))
theorem Gs(a n:List Nat):(eF (jr F) MB 52 (sn 66) (bV vf) ((fK w l rs is ds ob q).set qU (.list [.str a,.str n]))).run=iff (cL 0 n.length) (iff (!cr [n.getD 0 0] [46]) (Gr is ob n (fK w l rs is ds ob (some (.list [.str a,.str n])))).run
 (iff (cL 0 l.length) (iff (cr [l.getD 0 0] [46]) (Gr is ob n (fK w l rs is ds ob (some (.list [.str a,.str n])))).run (some (false,fK w l rs is ds ob (some (.list [.str a,.str n]))))) none)) none:=by cases q<;>kernel_rfl
theorem Gu(r:D):(ex (jr F) MB 51 (sn 66) (cu (cP vf) 0) (fK w l rs is ds ob (some r))).run=iff (decide (ds.length<br)) (some (.next,fK w l rs is (ds++[r]) ob (some r))) none:=by kernel_rfl
theorem LH:(ex (jr F) MB 54 (sn 66) (sO 5) (fK w l rs is ds ob q)).run=some (.next,i8 w l rs is ob q ds [] none):=by cases q<;>kernel_rfl
theorem LI(ns:List D):(ev (jr F) MB 52 (sn 66) (bV (sO 6)) (i8 w l rs is ob q ns [] none)).run=(((C7.fn 159 [.str w] ob).bind λd=>.ret (d.1,(⟨tR w l rs is q ns,some (iF,none,[]),d.2⟩:St))).bind λp=>(F [p.1,.list rs] p.2.ob).bind λd=>.ret (d.1,(⟨p.2.v,p.2.ow,d.2⟩:St))).run:=by cases q<;>kernel_rfl
theorem Gv(ns tk:List D)(f:D)(u:Option D):(ev (jr F) MB 50 (sn 66) (bV Gm) ((i8 w l rs is ob q ns tk u).set i7 f)).run=((ev (jr F) MB 49 (sn 66) vg ⟨mI w l rs is q ns tk f,none,ob⟩).bind λp=>(pE .Add (.list tk) p.1).bind λd=>.ret (d,p.2)).run:=by cases q<;>cases u<;>kernel_rfl
theorem Gw(ns tk:List D)(f:D):(ev (jr F) MB 48 (sn 66) (ch vg 1) ⟨mI w l rs is q ns tk f,none,ob⟩).run=some (.list ns,⟨mI w l rs is q ns tk f,none,ob⟩):=by cases q<;>kernel_rfl
theorem Gy(ns tk:List D)(f a n:List Nat):(bO (jr F) MB 48 (sn 66) vg (mI w l rs is q ns tk (.str f)) (.list [.str a,.str n]) ob).run=iff (cr a f) ((C7.fn 138 [.str f,.str n] ob).bind λr=>.ret (some r.1,r.2)).run (some (none,ob)):=by cases q<;>kernel_rfl
theorem Gz(ns tk a:List D)(f:D):(St.set ⟨mI w l rs is q ns tk f,none,ob⟩ iF (.list a))=i8 w l rs is ob q ns a (some f):=by cases q<;>kernel_rfl
theorem LJ(ns tk:List D)(u:Option D):∃st,(ex (jr F) MB 52 (sn 66) (sO 7) (i8 w l rs is ob q ns tk u)).run=iff (dB tk&&decide (tk.length<64)) (some (.ret (.list ((dC (cS tk)).map .str)),st)) none/\st.ob=ob:=by
 match u,q with
 |none,none=>exact⟨⟨tR w l rs is none ns++[(iF,.list tk)],none,ob⟩,by kernel_rfl,rfl⟩
 |none,some r=>exact⟨⟨tR w l rs is (some r) ns++[(iF,.list tk)],none,ob⟩,by kernel_rfl,rfl⟩
 |some f,none=>exact⟨i8 w l rs is ob none ns tk (some f),by kernel_rfl,rfl⟩
 |some f,some r=>exact⟨i8 w l rs is ob (some r) ns tk (some f),by kernel_rfl,rfl⟩
end
section
variable(F:rN)(w l:List Nat)(rs:List pq)(is:List bL)(ob:List Ob)
theorem GA(x:List Nat):cr [x.getD 0 0] [46]=Lz x:=rfl
theorem GB{is:List bL}{n:List Nat}{v:List (Nm×D)}{ow:Option (Nm×Option Nm×List D)}(h:n.length<=100000):(Gr (is.map bw) ob n ⟨v,ow,ob⟩).run=some (dI is n,⟨v,ow,ob⟩):=by
 have a:(C7.fn 954 [.list (is.map bw),.str n] ob).run=some (.bool (dI is n),ob):=by
  show((FG [.list (is.map bw),.str n]).bind λd=>T.ret (d,ob)).run=_;have:(FG [.list (is.map bw),.str n]).run=some (.bool (dI is n)):=by show((T.opt (nz (.list (is.map bw)))).bind λis=>T.chk (decide (n.length<=100000)) (T.ret (D.bool (dI is n)))).run=_;rw[qJ,bq (show(T.opt (some is)).run=_ from rfl),ce (ac h)];rfl
  rw[bq this];rfl
 unfold Gr;rw[bY,bY,bY,a];cases dI is n<;>rfl
theorem Cl{q:Option D}(r:pq)(ns:List pq)(rd:List D)(k:r.2.isEmpty=false)(m:r.2.length<=1000)(o:l.isEmpty=false)(t:ns.length<1000000):
 (cM (jr F) MB 54 (sn 66) (cP (sO 4)) ((fK w l rd (is.map bw) (ns.map cb) ob q).set qU (cb r))).run=some (.next,fK w l rd (is.map bw) ((if eU l is r then ns++[r] else ns).map cb) ob (some (cb r))):=by
 have u:br=16777216:=rfl;obtain⟨a,n⟩:=r;have j:∀{x:List Nat},x.isEmpty=false->cL 0 x.length=true:=λ{x} h=>by
  refine fI (by exact aX _) ?_;cases x with
  |nil=>cases h
  |cons c y=>rw[aC];exact Int.ofNat_lt.mpr (Nat.succ_pos _)
 have d:=Gs F w l rd (is.map bw) (ns.map cb) ob q a n;rw[j k,j o,bP,bP,GA,GA] at d;have p:=GB ob (is:=is) (n:=n) (v:=xi w l rd (is.map bw) (some (.list [.str a,.str n]))) (ow:=some (mB,none,ns.map cb)) (aj m (by decide));have b:(Gr (is.map bw) ob n (fK w l rd (is.map bw) (ns.map cb) ob (some (.list [.str a,.str n])))).run=some (dI is n,fK w l rd (is.map bw) (ns.map cb) ob (some (.list [.str a,.str n]))):=p;rw[b] at d;have f:(eF (jr F) MB 52 (sn 66) (bV vf) ((fK w l rd (is.map bw) (ns.map cb) ob q).set qU (.list [.str a,.str n]))).run=some (eU l is (a,n),fK w l rd (is.map bw) (ns.map cb) ob (some (.list [.str a,.str n]))):=by rw[d];unfold eU;dsimp only;cases Lz n<;>cases Lz l<;>cases dI is n<;>rfl
 have i:=fR (s:=vf) (by kernel_rfl) f;rw[Q9,Ra] at i;have e:(ex (jr F) MB 53 (sn 66) vf ((fK w l rd (is.map bw) (ns.map cb) ob q).set qU (cb (a,n)))).run=some (.next,fK w l rd (is.map bw) ((if eU l is (a,n) then ns++[(a,n)] else ns).map cb) ob (some (cb (a,n)))):=by
  refine i.trans ?_;cases eU l is (a,n) with
  |true=>have g:=Gu F w l rd (is.map bw) (ns.map cb) ob (cb (a,n));rw[ak,ac (by exact aj t (aB _ _)),bP] at g;rw[bP];refine(bk g).trans ?_;rw[aH rfl,be];rfl
  |false=>rfl
 rw[Q8,bk e];rfl
theorem qV(rd:List D)(e:l.isEmpty=false):∀(rs ns:List pq) (q:Option D),(∀r∈rs,r.2.isEmpty=false/\r.2.length<=1000)->ns.length+rs.length<1000000->
 ∃c,(dS (λd st=>cM (jr F) MB 54 (sn 66) (cP (sO 4)) (st.set qU d)) (rs.map cb) (fK w l rd (is.map bw) (ns.map cb) ob q)).run=some (.next,fK w l rd (is.map bw) ((ns++rs.filter (eU l is)).map cb) ob c)
 |[],ns,q,_,_=>⟨q,by rw[List.filter_nil,List.append_nil];rfl⟩
 |r::rs,ns,q,h,a=>by
  rw[aC] at a;obtain⟨f,g⟩:=h r (.head _);have i:=Cl F w l is ob (q:=q) r ns rd f g e (by exact aS (ba _ _) a);obtain⟨c,b⟩:=qV rd e rs (if eU l is r then ns++[r] else ns) (some (cb r)) (λr b=>h r (.tail _ b)) (by split<;>(try rw [ae,aV])<;>(first|exact by rw[Nat.succ_add];exact a|exact Nat.le_of_lt a));refine⟨c,?_⟩;rw[List.map_cons,nF i (.inl rfl),b];rw[List.filter_cons];cases eU l is r with
  |true=>rw[aH rfl,aH rfl,aR];rfl
  |false=>rw[av (by decide),av (by decide)]
def Nv(f:List Nat)(d:D):Option D:=match Lw d with
 |some r=>if cr r.1 f then some (.str (iE f r.2)) else none
 |none=>none
theorem tT(f:List Nat)(r:pq):Nv f (cb r)=if cr r.1 f then some (.str (iE f r.2)) else none:=rfl
theorem Cm{q:Option D}(rd:List D)(tk:List D)(f:List Nat)(i:f.length<=10000)(ns:List pq)(c:∀r∈ns,r.2.length<=1000)(nd:List D):
 (dv (bO (jr F) MB 48 (sn 66) vg (mI w l rd (is.map bw) q nd tk (.str f))) (ns.map cb) ob).run=some (((ns.filter λr=>cr r.1 f).map λr=>iE f r.2).map .str,ob):=by
 rw[fY (g:=Nv f)]
 .congr 2
  induction ns with
  |nil=>rfl
  |cons r ns e=>
   rw[List.map_cons,List.filterMap_cons,List.filter_cons,tT];cases cr r.1 f with
   |true=>rw[aH rfl,aH rfl,e λr b=>c r (.tail _ b)];rfl
   |false=>rw[av (by decide),av (by decide),e λr b=>c r (.tail _ b)]
 .intro d h;obtain⟨⟨a,n⟩,b,rfl⟩:=aE.mp h;have:=Gy F w l rd (is.map bw) ob q nd tk f a n;refine(show _=_ from this).trans ?_;have j:(C7.fn 138 [.str f,.str n] ob).run=some (.str (iE f n),ob):=by show((tK f n).bind λd=>T.ret (d,ob)).run=_;rw[bq (Ck (aj i (by decide)) (aj (c _ b) (by decide)))];rfl
  rw[bq j,tT];cases cr a f<;>rfl
theorem oJ{q:Option D}(rd:List D)(ns:List pq)(j:∀r∈ns,r.2.length<=1000)(t:ns.length<1000):∀(a tk:List (List Nat)) (u:Option D),(∀f∈a,f.length<=10000)->(tk++em a ns).length<1000000->
 ∃g,(dS (λd st=>cM (jr F) MB 52 (sn 66) (cP (sO 6)) (st.set i7 d)) (a.map .str) (i8 w l rd (is.map bw) ob q (ns.map cb) (tk.map .str) u)).run=some (.next,i8 w l rd (is.map bw) ob q (ns.map cb) ((tk++em a ns).map .str) g)
 |[],tk,u,_,_=>⟨u,by unfold em;rw[List.flatMap_nil,List.append_nil];rfl⟩
 |f::a,tk,u,h,b=>by
  have m:br=16777216:=rfl;have k:em (f::a) ns=((ns.filter λr=>cr r.1 f).map λr=>iE f r.2)++em a ns:=by unfold em;rw[List.flatMap_cons]
  rw[k] at b⊢;rw[<-aR] at b⊢;generalize hT:((ns.filter λr=>cr r.1 f).map λr=>iE f r.2)=T1 at b⊢;have e:(ev (jr F) MB 49 (sn 66) vg ⟨mI w l rd (is.map bw) q (ns.map cb) (tk.map .str) (.str f),none,ob⟩).run=some (.list (T1.map .str),⟨mI w l rd (is.map bw) q (ns.map cb) (tk.map .str) (.str f),none,ob⟩):=by refine i0 (by kernel_rfl) (Gw F w l rd (is.map bw) ob q (ns.map cb) (tk.map .str) (.str f)) rfl ?_;rw[Cm F w l is ob rd (tk.map .str) f (h f (.head _)) ns j (ns.map cb),hT]
  have c:(pE .Add (.list (tk.map .str)) (.list (T1.map .str))).run=some (.list ((tk++T1).map .str)):=by show(T.chk (decide ((tk.map D.str).length+(T1.map D.str).length<=br)) (T.ret (D.list (tk.map D.str++T1.map D.str)))).run=_;rw[ae,ae] at b;rw[ce (ac (by rw[ak,ak];exact k9 (aO m.symm) b)),be];rfl
  have n:(ev (jr F) MB 50 (sn 66) (bV Gm) ((i8 w l rd (is.map bw) ob q (ns.map cb) (tk.map .str) u).set i7 (.str f))).run=some (.list ((tk++T1).map .str),⟨mI w l rd (is.map bw) q (ns.map cb) (tk.map .str) (.str f),none,ob⟩):=by rw[Gv,bq e,bq c];rfl
  have i:=jB (s:=Gm) (x:=iF) (by kernel_rfl) n;rw[Gz] at i;obtain⟨g,v⟩:=oJ rd ns j t a (tk++T1) (some (.str f)) (λf p=>h f (.tail _ p)) b;refine⟨g,?_⟩;rw[List.map_cons,nF (o:=.next) (st1:=i8 w l rd (is.map bw) ob q (ns.map cb) ((tk++T1).map .str) (some (.str f))) ?_ (.inl rfl),v];rw[Rb,bk i];rfl
end
theorem zd{rs:List pq}(h:nJ rs=true):(∀r∈rs,r.2.isEmpty=false/\r.2.length<=1000/\r.1.length<=1000)/\rs.length<1000:=by refine bx h λb c=>?_;refine⟨λr g=>?_,ar c⟩;have:=aW.mp b r g;refine bx this ?_;clear this;intro this e;refine bx this λa d=>?_;exact⟨(by cases f:r.2.isEmpty<;>first|rfl|(rw[f] at a;cases a)),ar d,ar e⟩
theorem tU{α β:Type}{f:α->Option β}{a:α}{r:List α}{s:List β}(h:ig f (a::r)=some s):∃b s',f a=some b/\ig f r=some s'/\s=b::s':=by
 rw[Qq] at h;cases c:f a with
 |none=>rw[c] at h;cases h
 |some b=>
  cases d:ig f r with
  |none=>rw[c,d] at h;cases h
  |some s'=>rw[c,d] at h;cases h;exact⟨b,s',rfl,rfl,rfl⟩
theorem Cn{ps:List Pt}{is:List bL}(h:nH ps=some is)(F:rN)(w l:List Nat)(rd:List D)(ob:List Ob):(dv (bO (jr F) MB 55 (sn 66) (bV (sO 2)) (jC w l rd)) (ps.map pD) ob).run=some (is.map bw,ob):=by
 unfold nH at h;have:∀(ps:List Pt) (is:List bL),ig (λp=>oG (pD p)) ps=some is->(dv (bO (jr F) MB 55 (sn 66) (bV (sO 2)) (jC w l rd)) (ps.map pD) ob).run=some (is.map bw,ob):=by
  intro ps
  induction ps with
  |nil=>intro is h;cases h;rfl
  |cons p ps g=>
   intro is h;obtain⟨i,l2,a,b,rfl⟩:=tU h;have f:(C7.fn 949 [pD p] ob).run=some (bw i,ob):=by
    show((Qz [pD p]).bind λd=>T.ret (d,ob)).run=_;have:(Qz [pD p]).run=some (bw i):=by show((T.opt (oG (pD p))).bind λi=>T.ret (bw i)).run=_;rw[a];rfl
    rw[bq this];rfl
   have c:(bO (jr F) MB 55 (sn 66) (bV (sO 2)) (jC w l rd) (pD p) ob).run=some (some (bw i),ob):=by rw[Gp,bY,bY,f];rfl
   show((bO (jr F) MB 55 (sn 66) (bV (sO 2)) (jC w l rd) (pD p) ob).bind λp=>(dv (bO (jr F) MB 55 (sn 66) (bV (sO 2)) (jC w l rd)) (ps.map pD) p.2).bind λq=>T.ret ((match p.1 with|some e=>e::q.1|none=>q.1),q.2)).run=_;rw[bq c,bq (g l2 b)];rfl
 exact this ps is h
theorem Rc{F:rN}{w:List Nat}{rs:List pq}{ps:List Pt}{is:List bL}{b:List (List Nat)}(ob:List Ob)(Q:w≠[])(a:nJ rs=true)(B:w.length<=1000)(O:cj w≠[])(J:kh (cj w)=some ps)(L:nH ps=some is)
 (hF:(F [.str (fE w),.list (rs.map cb)] ob).run=some (.list (b.map .str),ob))(N:∀f∈b,f.length<=10000)(A:(em b (rs.filter (eU (cj w) is))).length<64):
 (eQ (jr F) MB (ft 66) jA [.str w,.list (rs.map cb)] ob).run=some (.list ((dC (em b (rs.filter (eU (cj w) is)))).map .str),ob):=by
 obtain⟨g,j⟩:=zd a;have n:(cj w).length<=1000:=by refine aj ?_ B;unfold cj cJ;rw[List.length_drop,List.length_take];omega
 obtain⟨c,r,rfl⟩:∃c r,w=c::r:=by cases w with|nil=>exact aK rfl Q|cons c r=>exact⟨c,r,rfl⟩
 generalize hW:c::r=W at*;have e0:(ex (jr F) MB 59 (sn 66) (sO 0) ⟨dK jA [.str W,.list (rs.map cb)],none,ob⟩).run=some (.next,⟨dK jA [.str W,.list (rs.map cb)],none,ob⟩):=by rw[<-hW];exact LB F (rs.map cb) ob c r
 have C:=LC F W (rs.map cb) ob;have k:(ev (jr F) MB 55 (sn 66) (ch (bV (sO 2)) 1) ⟨jC W (cj W) (rs.map cb),none,ob⟩).run=some (.list (ps.map pD),⟨jC W (cj W) (rs.map cb),none,ob⟩):=by
  have o:(C7.fn 190 [.str (cj W),.none,.str [63]] ob).run=some (.list (ps.map pD),ob):=by
   show((Q7 [.str (cj W),.none,.str [63]]).bind λd=>T.ret (d,ob)).run=_;have:(Q7 [.str (cj W),.none,.str [63]]).run=some (.list (ps.map pD)):=by show(T.chk (decide ((cj W).length<=1000)) ((T.opt (kh (cj W))).bind λps=>T.ret (D.list (ps.map pD)))).run=_;rw[ce (ac n),J];rfl
   rw[bq this];rfl
  rw[Gn,bq o];rfl
 have y:=jB (s:=sO 2) (x:=kS) (by kernel_rfl) (i0 (by kernel_rfl) k rfl (Cn L F W (cj W) (rs.map cb) ob));rw[Gq] at y;have E:=LD F W (cj W) (rs.map cb) (is.map bw) ob;have m:(cj W).isEmpty=false:=by cases P:cj W with|nil=>exact aK P O|cons _ _=>rfl
 obtain⟨q,G⟩:=qV F W (cj W) is ob (rs.map cb) m rs [] none (λr a=>⟨(g r a).1,(g r a).2.1⟩) (by rw[List.length_nil];exact(Nat.zero_add _).symm▸aj j (by decide));have h:=(zb (K:=jr F) (M:=MB) (s:=sO 4) (x:=qU) (by kernel_rfl) (LG F W (cj W) (rs.map cb) (is.map bw) [] ob none) rfl).trans G;rw[List.nil_append] at h;generalize hN:rs.filter (eU (cj W) is)=ns at*;have H:=LH F W (cj W) (rs.map cb) (is.map bw) (ns.map cb) ob q;have t:∀r∈ns,r∈rs:=λr a=>by rw[<-hN] at a;exact(List.mem_filter.mp a).1
 have p:ns.length<1000:=by rw[<-hN];exact aS (List.length_filter_le _ _) j
 have l:(ev (jr F) MB 52 (sn 66) (bV (sO 6)) (i8 W (cj W) (rs.map cb) (is.map bw) ob q (ns.map cb) [] none)).run=some (.list (b.map .str),i8 W (cj W) (rs.map cb) (is.map bw) ob q (ns.map cb) [] none):=by
  have o:(C7.fn 159 [.str W] ob).run=some (.str (fE W),ob):=by show((yO W).bind λd=>T.ret (d,ob)).run=_;rw[bq (qP (by exact aj B (aB _ _)))];rfl
  rw[LI,bY,bY,o];show((F [.str (fE W),.list (rs.map cb)] ob).bind _).run=_;rw[bq hF];rfl
 obtain⟨u,I⟩:=oJ F W (cj W) is ob (q:=q) (rs.map cb) ns (λr a=>(g r (t r a)).2.1) p b [] none N (by rw[List.nil_append];exact aj A (aB _ _));have i:=(zb (K:=jr F) (M:=MB) (s:=sO 6) (x:=i7) (by kernel_rfl) l rfl).trans I;rw[List.nil_append] at i;obtain⟨st,z,v⟩:=LJ F W (cj W) (rs.map cb) (is.map bw) ob q (ns.map cb) ((em b ns).map .str) u;rw[dX,ak,ac A,eD] at z;have e:(cM (jr F) MB 60 (sn 66) (bd 66) ⟨dK jA [.str W,.list (rs.map cb)],none,ob⟩).run=some (.ret (.list ((dC (em b ns)).map .str)),st):=by rw[UB,bk e0,bk C,bk y,bk E,bk h,bk H,bk i];exact ff z
 rw[fD e,v]
def UC:List D->Option (List pq):=ig Lw
def vh(n:Nat)(ds:List D):T D:=t2 ds λa b=>tS a λw=>tL b λds=>(T.opt (UC ds)).bind λrs=>(T.opt (i6 n w rs)).bind λb=>.ret (.list (b.map .str))
theorem qW{n:Nat}{w:List Nat}{rs:List pq}{b:List (List Nat)}(h:i6 n w rs=some b):(vh n [.str w,.list (rs.map cb)]).run=some (.list (b.map .str)):=by show((T.opt (ig Lw (rs.map cb))).bind λrs=>(T.opt (i6 n w rs)).bind λb=>T.ret (D.list (b.map .str))).run=_;rw[iZ (g:=cb) (λa=>rfl),bq (show(T.opt (some rs)).run=_ from rfl),h];rfl
set_option tactic.hygienic true in
theorem LK{n:Nat}{w:List Nat}{rs:List pq}{b:List (List Nat)}(h:i6 (n+1) w rs=some b)(ob:List Ob):(eQ (jr (Fp (vh n))) MB (ft 66) jA [.str w,.list (rs.map cb)] ob).run=some (.list (b.map .str),ob):=by
 rw[ve] at h;by_cases c:w=[]
 .rw[aH c] at h;cases h;rw[c];exact LA (Fp (vh n)) (rs.map cb) ob
 .rw[av c] at h
  split at h
  .rename_i e;have a:=Option.bind_eq_some_iff.mp h;clear h;obtain⟨ps,g,h⟩:=a;have a:=Option.bind_eq_some_iff.mp h;clear h;obtain⟨is,i,h⟩:=a;have a:=Option.bind_eq_some_iff.mp h;clear h;obtain⟨k,j,h⟩:=a
   split at h
   .rename_i f;cases h;refine Rc ob c e.1 e.2.1 e.2.2 g i ?_ f.1 f.2;show((vh n [.str (fE w),.list (rs.map cb)]).bind λd=>T.ret (d,ob)).run=_;rw[bq (qW j)];rfl
   .cases h
  .cases h
theorem UD(w:aq)(ts:Tb):∀n,fz w ts (jr (Fp (vh n))) (24+n)
 |0=>(Uy w ts).add (λds ob d ob' r=>by refine bv (show((vh 0 ds).bind λd=>T.ret (d,ob)).run=some (d,ob') from r) λd1 i k=>?_;exact iK i λa b e h=>gF h λw c h=>IL h λl f h=>bv h λrs g h=>cX h) (qF (yN _))
 |n+1=>((Uy w ts).le (ba 24 (n+1))).add (jE (UD w ts n) (yN _) (PJ _) λds ob d h=>by refine iK h ?_;clear h;intro a b e h;refine gF h ?_;clear h;intro w c h;refine IL h ?_;clear h;intro l f h;refine bv h ?_;clear h;intro rs g h;refine bv h ?_;clear h;intro b j h;rw[e,c,f,kQ (λa b=>Ly a b) (bn g),<-ag h];exact⟨rfl,LK (bn j) ob⟩) (qF (yN _))
def IA:KT:=jr (Fp (vh 5))
theorem Xm(w:aq)(ts:Tb):fz w ts IA 29:=UD w ts 5
section
variable{K:KT}{M:gz}{n:Nat}{sc:Sc}{st st0 st1 st2:St}{df d d1 d2:D}{ob':List Ob}{e:Expr}{b c:Bool}{x:List Nat}
theorem GC{a:Expr}{r:List Expr}(h:dD a=false):lh K M (n+1) sc (a::r) st=(ev K M n sc a st).bind λp=>(lh K M n sc r p.2).bind λq=>T.ret (p.1::q.1,q.2):=by
 show(match dD a with
  |true=>T.fail
  |false=>(ev K M n sc a st).bind λp=>(lh K M n sc r p.2).bind λq=>T.ret (p.1::q.1,q.2))=_
 rw[h]
theorem LL{a:Expr}(h:dD a=false)(b:(ev K M (n+1) sc a st).run=some (d1,st1)):(lh K M (n+2) sc [a] st).run=some ([d1],st1):=by rw[GC h,bq b];rfl
theorem UE{a b:Expr}(h:dD a=false)(d:dD b=false)(e:(ev K M (n+2) sc a st).run=some (d1,st1))(c:(ev K M (n+1) sc b st1).run=some (d2,st2)):(lh K M (n+3) sc [a,b] st).run=some ([d1,d2],st2):=by rw[GC h,bq e,bq (LL d c)];rfl
theorem AJ{f:Expr}{as:List Expr}{p:Pos}(h:fk f=none):ev K M (n+1) sc (.Call f as [] p) st=(ev K M n sc f st).bind λp=>(lh K M n sc as p.2).bind λq=>(iw K p.1 q.1 q.2.ob).bind λd=>T.ret (d.1,(⟨q.2.v,q.2.ow,d.2⟩:St)):=by
 show(match fk f with
  |some m=>T.gd (!iV m.1&&Nat.beq m.2.2.endLine p.line&&Nat.blt as.length 20)<|(ev K M n sc m.1 st).bind λp=>(lh K M n sc as p.2).bind λq=>match je p.1 with
   |some x=>T.gd (!cr (bm m.2.1) cR||fb as) ((K.sm x (bm m.2.1) q.1).bind λd=>T.ret (d,q.2))
   |none=>(match lj p.1 with
    |some r=>(K.rm r (bm m.2.1) q.1).bind λd=>.ret (d,q.2)
    |none=>(T.opt (Iz p.1)).bind λi=>(T.opt p.2.ob[i]?).bind λo=>.gd (isNone (dR o.at_ (bm m.2.1)))<|(T.opt (M.me o.C (bm m.2.1))).bind λf=>(K.fn f (.obj i::q.1) q.2.ob).bind λd=>.ret (d.1,(⟨q.2.v,q.2.ow,d.2⟩:St)))
  |none=>(ev K M n sc f st).bind λp=>(lh K M n sc as p.2).bind λq=>(iw K p.1 q.1 q.2.ob).bind λd=>.ret (d.1,⟨q.2.v,q.2.ow,d.2⟩))=_
 rw[h]
abbrev LM(e:Expr):Prop:=(e,(fk (ch e 0)).isSome,dD (ch e 1))=(.Call (ch e 0) [ch e 1] [] e.pos,false,false)
theorem AK{α:Type}{o:Option α}(h:o.isSome=false):o=none:=by cases o<;>first|rfl|cases h
theorem p1{α β:Type}{a c:α}{b d:β}(h:(a,b)=(c,d)):a=c:=aU Prod.fst h
theorem p2{α β:Type}{a d:α}{b c:β}(h:(a,b)=(d,c)):b=c:=aU Prod.snd h
theorem xj(h:LM e)(c:(ev K M (n+2) sc (ch e 0) st).run=some (df,st0))(a:(ev K M (n+1) sc (ch e 1) st0).run=some (d1,st1))(b:(iw K df [d1] st1.ob).run=some (d,ob')):(ev K M (n+3) sc e st).run=some (d,⟨st1.v,st1.ow,ob'⟩):=by rw[p1 h,AJ (AK (p1 (p2 h))),bq c,bq (LL (p2 (p2 h)) a),bq b];rfl
abbrev LN(e:Expr):Prop:=(e,(fk (ch e 0)).isSome,dD (ch e 1),dD (ch e 2))=(.Call (ch e 0) [ch e 1,ch e 2] [] e.pos,false,false,false)
theorem mJ(h:LN e)(f:(ev K M (n+3) sc (ch e 0) st).run=some (df,st0))(a:(ev K M (n+2) sc (ch e 1) st0).run=some (d1,st1))(b:(ev K M (n+1) sc (ch e 2) st1).run=some (d2,st2))(c:(iw K df [d1,d2] st2.ob).run=some (d,ob')):(ev K M (n+4) sc e st).run=some (d,⟨st2.v,st2.ow,ob'⟩):=by rw[p1 h,AJ (AK (p1 (p2 h))),bq f,bq (UE (p1 (p2 (p2 h))) (p2 (p2 (p2 h))) a b),bq c];rfl
abbrev LP(m:Nm)(e:Expr):Prop:=(e,!cr m cR&&!dD (ch e 1)&&(!iV (ch (ch e 0) 0)&&Nat.beq (ch e 0).pos.endLine e.pos.line))=(.Call (.Attribute (ch (ch e 0) 0) (S m) (ch e 0).pos) [ch e 1] [] e.pos,true)
theorem xk{m:Nm}(h:LP m e)(l:(ev K M (n+2) sc (ch (ch e 0) 0) st).run=some (.str x,st0))(j:(ev K M (n+1) sc (ch e 1) st0).run=some (d1,st1))(k:(K.sm x m [d1]).run=some d):(ev K M (n+3) sc e st).run=some (d,st1):=by
 refine bx (p2 h) λb g=>bx b λc a=>?_;rw[aN] at a;rw[p1 h];show(T.gd (!iV (ch (ch e 0) 0)&&Nat.beq (ch e 0).pos.endLine e.pos.line&&Nat.blt [ch e 1].length 20)<|(ev K M (n+2) sc (ch (ch e 0) 0) st).bind λp=>(lh K M (n+2) sc [ch e 1] p.2).bind λq=>match je p.1 with
  |some x=>T.gd (!cr m cR||fb [ch e 1]) ((K.sm x m q.1).bind λd=>T.ret (d,q.2))
  |none=>(match lj p.1 with
   |some r=>(K.rm r m q.1).bind λd=>.ret (d,q.2)
   |none=>(T.opt (Iz p.1)).bind λi=>(T.opt p.2.ob[i]?).bind λo=>.gd (isNone (dR o.at_ m))<|(T.opt (M.me o.C m)).bind λf=>(K.fn f (.obj i::q.1) q.2.ob).bind λd=>.ret (d.1,(⟨q.2.v,q.2.ow,d.2⟩:St)))).run=some (d,st1)
 rw[qO (show(!iV (ch (ch e 0) 0)&&Nat.beq (ch e 0).pos.endLine e.pos.line&&Nat.blt [ch e 1].length 20)=true by rw[g];rfl),bq l,bq (LL a j)];show(T.gd (!cr m cR||fb [ch e 1]) ((K.sm x m [d1]).bind λd=>T.ret (d,st1))).run=_;rw[qO (show(!cr m cR||fb [ch e 1])=true by rw[c];rfl),bq k];rfl
abbrev Nw(op:CmpOp)(e:Expr):Prop:=(e,jx (ch e 1))=(.Compare (ch e 0) [op] [ch e 1] e.pos,false)
theorem xl{op:CmpOp}{l r:Expr}(h:jx r=false)(e:ji st r=none)(a:(ev K M n sc l st).run=some (d1,st1))(c:(ev K M n sc r st1).run=some (d2,st2))(d:(lU op d1 d2).run=some b):(N1 K M (n+1) sc l [op] [r] st).run=some (b,st2):=by refine(aU T.run (qO (show(!jx r)=true by rw[h];rfl))).trans ?_;rw[e];dsimp only;rw[bq a,bq c,bq d];rfl
theorem AL{op:CmpOp}(h:Nw op e)(f:ji st (ch e 1)=none)(a:(ev K M n sc (ch e 0) st).run=some (d1,st1))(c:(ev K M n sc (ch e 1) st1).run=some (d2,st2))(d:(lU op d1 d2).run=some b):(eF K M (n+2) sc e st).run=some (b,st2):=by rw[p1 h];exact xl (p2 h) f a c d
theorem GD{op:CmpOp}(h:Nw op e)(f:ji st (ch e 1)=none)(a:(ev K M n sc (ch e 0) st).run=some (d1,st1))(c:(ev K M n sc (ch e 1) st1).run=some (d2,st2))(d:(lU op d1 d2).run=some b):(ev K M (n+2) sc e st).run=some (.bool b,st2):=by rw[p1 h];show((N1 K M (n+1) sc (ch e 0) [op] [ch e 1] st).bind λp=>T.ret (D.bool p.1,p.2)).run=_;rw[bq (xl (p2 h) f a c d)];rfl
theorem GE(a:eN d1=true)(b:eN d2=true):(lU .Eq d1 d2).run=some (deq d1 d2):=by show(T.chk (eN d1&&eN d2) (T.ret (deq d1 d2))).run=_;rw[a,b];rfl
theorem ze(a:eN d1=true)(b:eN d2=true):(lU .NotEq d1 d2).run=some (!deq d1 d2):=by show(T.chk (eN d1&&eN d2) (T.ret (!deq d1 d2))).run=_;rw[a,b];rfl
abbrev UF(e:Expr):Prop:=e=.BoolOp .Or [ch e 0,ch e 1] e.pos
theorem Ny(h:UF e)(a:(ev K M n sc (ch e 0) st).run=some (d,st1))(c:gB d=some true):(ev K M (n+1) sc e st).run=some (d,st1):=by rw[h];show((ev K M n sc (ch e 0) st).bind λp=>(T.opt (gB p.1)).bind λb=>T.ask b (T.ret (p.1,p.2)) (ev K M n sc (ch e 1) p.2)).run=_;rw[bq a,c];rfl
theorem AM(h:UF e)(a:(ev K M n sc (ch e 0) st).run=some (d,st1))(f:gB d=some false)(c:(ev K M n sc (ch e 1) st1).run=some (d2,st2)):(ev K M (n+1) sc e st).run=some (d2,st2):=by rw[h];show((ev K M n sc (ch e 0) st).bind λp=>(T.opt (gB p.1)).bind λb=>T.ask b (T.ret (p.1,p.2)) (ev K M n sc (ch e 1) p.2)).run=_;rw[bq a,f];exact c
abbrev UG(op:Operator)(e:Expr):Prop:=e=.BinOp (ch e 0) op (ch e 1) e.pos
theorem zf{op:Operator}(h:UG op e)(a:(ev K M n sc (ch e 0) st).run=some (d1,st1))(b:(ev K M n sc (ch e 1) st1).run=some (d2,st2))(c:(pE op d1 d2).run=some d):(ev K M (n+1) sc e st).run=some (d,st2):=by rw[h];show((ev K M n sc (ch e 0) st).bind λp=>(ev K M n sc (ch e 1) p.2).bind λq=>(pE op p.1 q.1).bind λd=>T.ret (d,q.2)).run=_;rw[bq a,bq b,bq c];rfl
abbrev Rf(e:Expr):Prop:=(e,dD (ch e 0))=(.List [ch e 0] e.pos,false)
theorem AN(h:Rf e)(a:(ev K M (n+1) sc (ch e 0) st).run=some (d,st1)):(ev K M (n+3) sc e st).run=some (.list [d],st1):=by rw[p1 h];show((lh K M (n+2) sc [ch e 0] st).bind λp=>T.chk (decide (p.1.length<=br)) (T.ret (D.list p.1,p.2))).run=_;rw[bq (LL (p2 h) a)];rfl
theorem nK{x y:List (List Nat)}(h:x.length+y.length<=1000000):(pE .Add (.list (x.map .str)) (.list (y.map .str))).run=some (.list ((x++y).map .str)):=by have a:br=16777216:=rfl;show(T.chk (decide ((x.map D.str).length+(y.map D.str).length<=br)) (T.ret (D.list (x.map D.str++y.map D.str)))).run=_;rw[ce (ac (by rw[ak,ak];exact aj h (aB _ _))),be];rfl
theorem ki{g:List D->T D}{ds:List D}{ob:List Ob}(h:(g ds).run=some d):(Fp g ds ob).run=some (d,ob):=by show((g ds).bind λd=>T.ret (d,ob)).run=_;rw[bq h];rfl
theorem kj:∀(n:Nat) (a b:List (List Nat)),io (n+1) (.list (a.map .str)) (.list (b.map .str))=decide (a=b)
 |_,[],[]=>rfl
 |_,[],_::_=>rfl
 |_,_::_,[]=>rfl
 |n,x::a,y::b=>by
  have d:=kj n a b;have c:∀n,io n (.str x) (.str y)=cr x y:=λn=>by cases n<;>rfl
  show(io n (.str x) (.str y)&&gM (io n) (a.map .str) (b.map .str))=_;rw[c,show gM (io n) (a.map .str) (b.map .str)=decide (a=b) from d,Bool.eq_iff_iff,bf,eC,aZ,aZ];simp
end
abbrev bG:List Stmt:=UP 51 5
abbrev nG:Sc:=Sn 51 5
def wG:Stmt:=cu bG 3
theorem UZ:bG=cu bG 0::cu bG 1::cu bG 2::wG::cu bG 4::cu bG 5::[]:=by kernel_rfl
abbrev NA:Nm:=[114,97,119]
section
variable(q:Lx)(nl:D)(b x:List Nat)(p:Int)(d:D)
def AW(d:D)(q:Lx)(nl:D)(b:List Nat)(p:Int):St:=⟨[(lP,.obj 0),(NA,d)],none,i9 q nl b p⟩
theorem Mp:(ex L5 MB 59 nG (cu bG 0) ⟨dK lr [.obj 0],none,i9 q nl b p⟩).run=some (.next,⟨dK lr [.obj 0],none,i9 q nl b p⟩):=by kernel_rfl
theorem Mq:(ex L5 MB 58 nG (cu bG 1) ⟨dK lr [.obj 0],none,i9 q nl b p⟩).run=(((Fc nY [.obj 0] (i9 q nl b p)).bind λd=>.ret (d.1,(⟨dK lr [.obj 0],none,d.2⟩:St))).bind λr=>.ret (dN.next,r.2.set NA r.1)).run:=by kernel_rfl
theorem Mr:(ex L5 MB 57 nG (cu bG 2) (AW d q nl b p)).run=some (.next,AW d q nl b p):=by kernel_rfl
theorem Hv:(eF L5 MB 55 nG (bV wG) (AW .none q nl b p)).run=some (true,AW .none q nl b p):=by kernel_rfl
theorem Hw:(eF L5 MB 55 nG (bV wG) (AW (.str x) q nl b p)).run=some (false,AW (.str x) q nl b p):=by kernel_rfl
theorem Hx:(cM L5 MB 55 nG (cP wG) (AW .none q nl b p)).run=some (.ret .none,AW .none q nl b p):=by kernel_rfl
theorem Mt:(cM L5 MB 56 nG (cu bG 4::cu bG 5::[]) (AW (.str x) q nl b p)).run=some (.ret (.str x),AW (.str x) q nl b p):=by kernel_rfl
end
theorem XE{c:St->T (Bool×St)}{f:St->T (dN×St)}{m:Nat}{st st1 st2:St}{d:D}(h:(c st).run=some (true,st1))(k:(f st1).run=some (.ret d,st2)):(dO c f (m+1) st).run=some (.ret d,st2):=by rw[lZ,bq h,f9,bP,bq k];rfl
theorem Rz{ob:List Ob}{r:D×List Ob}(h:nY [.obj 0] ob r):(eQ L5 MB (fm 51 5) lr [.obj 0] ob).run=some r:=by
 have a:=Hu (λu h'=>xq h h') h;obtain⟨W,st,ln,nl,b,n,d,st',c,f,v,rfl,k,l,o,q,rfl⟩:=h;revert a;refine xt ((((b.length-f.length:Nat)):Int)) λp t=>?_;intro a;have j:(ex L5 MB 58 nG (cu bG 1) ⟨dK lr [.obj 0],none,i9 ⟨W,st,[],ln⟩ nl b n⟩).run=some (.next,AW (Mm d) ⟨W,st',[],c⟩ nl b p):=by rw[Mq,bY,bY,a];rfl
 have g:(cM L5 MB 60 nG bG ⟨dK lr [.obj 0],none,i9 ⟨W,st,[],ln⟩ nl b n⟩).run=(cM L5 MB 57 nG (wG::cu bG 4::cu bG 5::[]) (AW (Mm d) ⟨W,st',[],c⟩ nl b p)).run:=by rw[UZ];exact(bk (Mp _ nl b _)).trans ((bk j).trans (bk (Mr _ nl b p _)))
 have i:∀st r,(dO (λst=>eF L5 MB 55 nG (bV wG) st) (λst=>cM L5 MB 55 nG (cP wG) st) pP st).run=r->(ex L5 MB 56 nG wG st).run=r:=λst r e=>by rw[kf (s:=wG) (by kernel_rfl)];exact e
 cases d with
 |none=>have:=i (AW .none ⟨W,st',[],c⟩ nl b p) _ (XE (m:=999999) (Hv _ nl b p) (Hx _ nl b p));exact fD (g.trans (ff this))
 |some x=>have:=i (AW (.str x) ⟨W,st',[],c⟩ nl b p) _ (F3 (m:=999999) (Hw _ nl b x p));exact fD (g.trans ((bk this).trans (Mt _ nl b x p)))
def L6:KT:=L5.add 839 (Fc nY)
theorem V2(w:aq)(ts:Tb):fz w ts L6 6:=nU (Zb w ts) (Pr _) (Ps _) λds ob d ob' r=>by have h:=AV r;obtain⟨W,st,ln,nl,b,n,e,st',c,a,rfl,f⟩:=id h;exact⟨rfl,Rz h⟩
def XF:rN:=λds ob=>t2 ds λa b=>tO 1 a<|tS b λx=>t2 ob λl o=>(T.opt (V1 o)).bind λq=>tS q.1 λy=>.gd (cr y [10]) (.ret (.str x,[l,nT (.str [10]) q.2.1 q.2.2]))
theorem U0(l:Ob)(x b:List Nat)(p:Int):(eQ L6 MB (fm 39 2) Aq [.obj 1,.str x] [l,nT (.str [10]) b p]).run=some (.str x,[l,nT (.str [10]) b p]):=by kernel_rfl
def L7:KT:=L6.add 520 XF
theorem Yw(w:aq)(ts:Tb):fz w ts L7 7:=nU (V2 w ts) (Pl _) (Pm _) λds ob d ob' r=>by refine iK r ?_;clear r;intro a b e r;refine Ma r ?_;clear r;intro c r;refine gF r ?_;clear r;intro x f r;refine iK r ?_;clear r;intro l o g r;refine bv r ?_;clear r;intro q m r;refine gF r ?_;clear r;intro y h r;refine dz r ?_;clear r;intro i r;obtain⟨j,k⟩:=nZ r;rw[e,c,f,g,<-j,<-k,zg (bn m),h,dW i];exact⟨rfl,U0 _ _ _ _⟩
theorem U1(l:Ob)(x:List Nat):(eQ L7 MB (fm 39 1) tv [.obj 1,.str x,.str [10]] [l,⟨743,[]⟩]).run=some (.none,[l,nT (.str [10]) x 0]):=by kernel_rfl
abbrev bI:List Stmt:=UP 51 0
abbrev nI:Sc:=Sn 51 0
theorem U2:bI=cu bI 0::bI.drop 1:=by kernel_rfl
def XG:List Nat:=[97,98,99,100,102,101,103,104,105,106,107,108,109,110,111,112,113,114,115,116,117,118,119,120,121,122,65,66,67,68,69,70,71,72,73,74,75,76,77,78,79,80,81,82,83,84,85,86,87,88,89,90,48,49,50,51,52,53,54,55,56,57,95]
def XH:List Nat:=[223,224,225,226,227,228,229,230,231,232,233,234,235,236,237,238,239,240,241,242,243,244,245,246,248,249,250,251,252,253,254,255,192,193,194,195,196,197,198,199,200,201,202,203,204,205,206,207,208,209,210,211,212,213,214,216,217,218,219,220,221,222]
def NB:List Nat:=XG++XH
theorem RA:Mh NB:=by constructor<;>kernel_rfl
def CL(d:D)(a:D):List (Nm×D):=dK tw [.obj 0,d,.none,.bool true,a]
theorem U3(x:List Nat):(cM L7 MB 59 nI (bI.drop 1) ⟨CL (.obj 1) (.bool false),none,[⟨878,[]⟩,nT (.str [10]) x 0]⟩).run=some (.next,⟨CL (.obj 1) (.str []),none,[⟨878,zh ⟨NB,some 32,[],1⟩ false [35]⟩,nT (.str [10]) x 0]⟩):=by kernel_rfl
def KI(P:aw):Frag:=yL (hT P) [878,877,743,742,266,265,239,238,802,868,875,513,520,240,236,496,cStatics]
theorem ku{w:aq}{h:Heap}(B:cT w h):(KI w.params).In h:=λa o e=>by obtain⟨x,y⟩:=o9 e;exact B.keep a o x λq=>aK (q▸y) (by decide)
abbrev U5:Str:="__new__"
theorem Mu(w:aq):peek (KI w.params) ⟨pw,w.params⟩ (Bind.madeBy (.ref 743))=some none:=by kernel_rfl
theorem Mv(w:aq):peek (KI w.params) ⟨pw,w.params⟩ (Bind.madeHere "object.__new__" (.ref 743))=some ():=by kernel_rfl
theorem Mw(w:aq):peek (KI w.params) ⟨pw,w.params⟩ (Bind.staticBase (.ref 743))=some (.type "object"):=by kernel_rfl
theorem Hy(w:aq):peek (KI w.params) ⟨pw,w.params⟩ (Bind.madeBy (.type "object"))=some (some "object.__new__"):=by kernel_rfl
theorem RB(w:aq):subIn (KI w.params) (.ref 743) (.type "object")=some true:=by kernel_rfl
theorem Mx(w:aq):subIn (KI w.params) (.ref 743) (.ref 743)=some true:=by kernel_rfl
theorem Hz(w:aq):instIn (KI w.params) (.ref 743) (.type "type")=some true:=by kernel_rfl
theorem My(w:aq):specialIn (KI w.params) (.ref 743) "__call__"=some (some (.builtin "type.__call__")):=by kernel_rfl
theorem Mz(w:aq):findIn (KI w.params) (.ref 743) "__init__"=some (some (.ref 513)):=by kernel_rfl
theorem U6(w:aq):typeIn (KI w.params) (.ref 513)=some (.type "function"):=by kernel_rfl
theorem HA(w:aq):readsIn (KI w.params) 743 (.type "type")=true:=by kernel_rfl
theorem RC(w:aq):findCls (KI w.params) (.ref 743) (.type "type") U5=some (.get (.builtin "staticmethod.__get__") (.ref 240) .none (.ref 743)):=by kernel_rfl
theorem U7(w:aq):recIn (KI w.params) 240 "staticmethod"=some [.ref 236]:=by kernel_rfl
def RD(p:ClassData->Bool):Option Obj->Bool
 |some ⟨_,_,.cls a,_⟩=>p a
 |_=>false
theorem xu{p:ClassData->Bool}{o:Option Obj}(h:RD p o=true):∃e f a b,o=some ⟨e,f,.cls a,b⟩/\p a=true:=by
 cases o with
 |none=>cases h
 |some o=>obtain⟨c,d,x,b⟩:=o;cases x<;>first|exact(ab h).elim|exact⟨_,_,_,_,rfl,h⟩
theorem RE(w:aq):∃c d a f,(KI w.params).lookup 743=some ⟨c,d,.cls a,f⟩/\a.abstract=false/\a.hasDel=false/\a.hasDict=true:=by
 have h:RD (λa=>!a.abstract&&!a.hasDel&&a.hasDict) ((KI w.params).lookup 743)=true:=by kernel_rfl
 have j:=xu h;clear h;obtain⟨c,d,a,f,e,h⟩:=j;refine bx h λb i=>?_;refine bx b ?_;clear b;intro b g;rw[aN] at b g;exact⟨c,d,a,f,e,b,g,i⟩
theorem aL.room1{A:aL}{k:Nat}(h:eO A (k+1)):eO A.in1 k:=⟨h.h,by have:=h.d;show A.depth+k<_;exact Nat.le_of_lt this,by have:=h.u;show A.units+1+8*k+35<cLine;exact ir this⟩
section
variable{w:aq}{A:aL}{R:Result->af->Prop}{h:Heap}{g:Array GenState}{d:Drawn}{t:Nat}{os:OsState}
theorem MA(B:cT w h)(o:R (.ok (.ret (.ref (h.objs.size+1)))) ⟨(h.push emptyDict).push (instObj 743 h.objs.size),g,d,t,os⟩):
 codeAny (model pw w) A (.call (.builtin "object.__new__") ⟨[.ref 743],[]⟩) R ⟨h,g,d,t,os⟩:=by
 have X:=ku B;obtain⟨u,v,r,y,n,k,l,s⟩:=RE w;have c:=X _ _ n;have q:=looks_instIn (M:=model pw w) X (Hz w);have F:=PySem.F.objNew;refine codeAny_call_builtin_code (Code.quiet_builtin _ F.quiet) ?_;simp only[checkBuiltinCall,F.kind,F.split,F.row];have i:Looks (model pw w) h (Bind.madeHere "object.__new__" (.ref 743)) ():=Looks.of_peek X (Mv w);have base:Looks (model pw w) h (Bind.staticBase (.ref 743)) (.type "object"):=Looks.of_peek X (Mw w);have j:Looks (model pw w) h (Bind.madeBy (.type "object")) (some "object.__new__"):=Looks.of_peek X (Hy w);have p:=looks_subIn (M:=model pw w) X (RB w);have args:Bind.checkArgs "object.__new__" ⟨.hand,"object.__new__","__new__",.cls,[]⟩ ⟨[.ref 743],[]⟩=pure ():=by kernel_rfl
 rw[args]
 repeat (first|simp only[bne_self_eq_false,Bool.false_eq_true,if_false]|lk)
 refine codeAny_builtin F.entry ?_;unfold Builtin.«object.__new__»;have m:=aA (instObj 743 (h.push emptyDict).objs.size.pred) (aA emptyDict c);have fin:∀a,an (model pw w) a (do
  let d<-if typeHasDict (.ref 743) then some<$>alloc {cls:=.type "dict",data:=.dict #[]} else pure none
  ret (<-newObj (.ref 743) .plain d)) (λfin s'=>match fin with|.done f=>R (.ok f) s'|.again b=>b.quiet=true/\codeAny (model pw w) A b R s') (λe s'=>R (.error e) s') ⟨h,g,d,t,os⟩:=by
  intro a;show an _ _ ((alloc emptyDict>>=λx=>pure (some x))>>=_) _ _ _;refine ah (ah (wpAny_alloc (ay (ah ?_))));show an _ _ (newObjAsIs _ _ _) _ _ _;unfold newObjAsIs classHasDel;refine ah (wpAny_alloc (ah (ah (wpAny_load (aA _ (aA _ c)) (ay ?_)))));rw[l];refine ay (ay ?_);show R _ _;rw[Heap.size_push];exact o
 repeat (first|simp only[k,Bool.false_eq_true,if_false]|exact fin _|lk)
end
abbrev iH:Nm:=[99,108,115]
abbrev xv:List Nm:=[iH,[97,114,103,115],[107,119,97,114,103,115]]
theorem RF(P:aw):cK P 236 (fm 35 1) xv (c9 P 236):=cN (by kernel_rfl) (by kernel_rfl) (by kernel_rfl)
theorem HB(P:aw)(v u:ai):aJ (c9 P 236) ⟨[v,u],[]⟩=(newTuple [u]>>=λt=>alloc emptyDict>>=λd=>pure (cq xv [v,t,.ref d])):=by kernel_rfl
section
variable{w:aq}{A:aL}{env:Env}{sc:Sc}{s:af}{Q:ai->af->Prop}
theorem iR{x:Str}{pos:Pos}{v:ai}(b:bC w env sc)(B:cT w s.heap)(i:WE (kd sc (bm x))=true)(c:dh (bm x)=true)(a:tX w (S (bm x))=some v\/(tX w (S (bm x))=none/\L9 w (S (bm x))=some v))(q:Q v s):an (model pw w) A (eval (.Name x pos) env) Q bM s:=by
 have h:(x==("__debug__":Str))=false:=by unfold dh at c;refine bx c λe j=>?_;rw[aN] at e;exact hH (x:=bm x) nh e
 have d:env.kindOf x=some .globalImplicit:=by rw[show env.kindOf x=env.kindOf (S (bm x)) from rfl,b.kind];exact zK i
 refine Name_function_global b.k d ?_ h;have f:s.heap.Ns env.globals (tX w):=by rw[b.g];exact UN B
 have g:s.heap.Ns env.builtins (L9 w):=by rw[b.b];exact Yu B
 rcases a with a|⟨c,a⟩
 .exact loadGlobal_global f a q
 .exact loadGlobal_builtin f c g a q
theorem kv{x:Str}{pos:Pos}{v:ai}(c:bC w env sc)(e:zR env s.heap (S (bm x)) v)(a:dh (bm x)=true)(q:Q v s):an (model pw w) A (eval (.Name x pos) env) Q bM s:=by
 have d:(x==("__debug__":Str))=false:=by replace a:=a;unfold dh at a;refine bx a λb f=>?_;rw[aN] at b;exact hH (x:=bm x) nh b
 exact wpAny_Name (hJ (x:=bm x) c e a q) d
end
theorem RG{g:Gx}{ts:Tb}{v:ai}{a:Addr}(h:Rd g ts v (.raw a)):v=.ref a:=by cases h;rfl
abbrev RH:Nm:=[95,95,110,101,119,95,95]
abbrev kz:Nm:=[111,98,106,101,99,116]
abbrev tY:Nm:=[66,121,116,101,115,73,79]
abbrev ik:Nm:=[83,116,114,105,110,103,73,79]
abbrev bN:List Stmt:=UP 35 1
abbrev nN:Sc:=Sn 35 1
theorem U8:bN=cu bN 0::cu bN 1::[]:=by kernel_rfl
def XK:Expr:=ch (bV (cu bN 0)) 0
def XL:Expr:=ch (bV (cu bN 0)) 1
def vk:Expr:=bV (cu bN 1)
theorem U9:cu bN 0=.If (.BoolOp .And [.Compare (.Name (S iH) (ep XK 0)) [.IsNot] [.Name (S tY) (ep XK 1)] XK.pos,.Compare (.Name (S iH) (ep XL 0)) [.IsNot] [.Name (S ik) (ep XL 1)] XL.pos] (bV (cu bN 0)).pos) (cP (cu bN 0)) [] (cu bN 0).pos:=by kernel_rfl
theorem Va:cu bN 1=.Return (some (.Call (.Attribute (.Name (S kz) (ep (ch vk 0) 0)) (S RH) (ep vk 0)) [.Name (S iH) (ep vk 1)] [] vk.pos)) (cu bN 1).pos:=by kernel_rfl
theorem Vb:Nat.beq (ep vk 0).endLine vk.pos.line=true:=by kernel_rfl
theorem RI(w:aq):peek (KI w.params) ⟨pw,w.params⟩ (compareOp .IsNot (.ref 743) (.ref 496))=some (.bool true):=by kernel_rfl
theorem RJ(w:aq):peek (KI w.params) ⟨pw,w.params⟩ (compareOp .IsNot (.ref 743) (.ref 743))=some (.bool false):=by kernel_rfl
theorem HC(w:aq):tX w (S kz)=none/\L9 w (S kz)=some (.type "object"):=⟨by kernel_rfl,by kernel_rfl⟩
theorem Vc(w:aq):peek (KI w.params) ⟨pw,w.params⟩ (specialOf (.type "object") "__getattribute__")=some (some (.builtin "type.__getattribute__")):=by kernel_rfl
theorem Vd(w:aq):peek (KI w.params) ⟨pw,w.params⟩ (opaqueClassAbove (.type "object"))=some none:=by kernel_rfl
theorem Ve(w:aq):peek (KI w.params) ⟨pw,w.params⟩ (typeOf (.type "object"))=some (.type "type"):=by kernel_rfl
theorem MC(w:aq):findIn (KI w.params) (.type "type") "__getattribute__"=some (some (.builtin "type.__getattribute__")):=by kernel_rfl
theorem RK(w:aq):subIn (KI w.params) (.type "type") (.type "type")=some true:=by kernel_rfl
theorem MD(w:aq):peek (KI w.params) ⟨pw,w.params⟩ (hookBefore (.type "type"))=some none:=by kernel_rfl
theorem RL(w:aq):findCls (KI w.params) (.type "object") (.type "type") (S RH)=some (.val (.builtin "object.__new__")):=by kernel_rfl
section
variable{w:aq}{A:aL}{s:af}
theorem CM(B:cT w s.heap){pl:Sem Bool}{Q:ai×List ai->af->Prop}(q:Q (.builtin "object.__new__",[]) {s with toks:=s.toks+1}):an (model pw w) A (getMethod (.type "object") (S RH) pl) Q bM s:=by have X:=ku B;unfold getMethod;refine ah ((Looks.of_peek (M:=model pw w) X (Vc w)).here ?_);dsimp only;rw[aH canon_tga];refine ah (cls_open (hook:=none) X (Looks.of_peek (M:=model pw w) X (Vd w)) (Looks.of_peek (M:=model pw w) X (Ve w)) (MC w) (Looks.of_peek (M:=model pw w) X (MD w)) (RK w) (RL w) ?_);refine ay ?_;show an _ _ (handedOut (.builtin "object.__new__")) _ _ _;rw[handedOut_of (by decide)];exact ay (ay q)
theorem HD{env:Env}{P:Flow->af->Prop}(b:bC w env nN)(B:cT w s.heap)(d:zR env s.heap (S iH) (.ref 743))
 (q:∀tk,s.toks<=tk->P (.ret (.ref (s.heap.objs.size+1))) {s with heap:=(s.heap.push emptyDict).push (instObj 743 s.heap.objs.size),toks:=tk}):an (model pw w) A (execs bN env) P bM s:=by
 rw[U8,U9,Va];have e:dh iH=true:=by kernel_rfl
 refine bg (wpAny_If (wpAny_isTrue_BoolOp (wpAny_allTrue_And_cons ?_)));refine wpAny_isTrue_Compare1 (kv (x:=S iH) (v:=.ref 743) b d e ?_) rfl;refine iR (x:=S tY) (v:=.ref 496) b B (by kernel_rfl) (by kernel_rfl) (.inl (CG w)) ?_;refine(Looks.of_peek (M:=model pw w) (ku B) (RI w)).here (wpAny_truthy_bool ?_);show an _ _ (allTrue .And _ env) _ _ _;refine wpAny_allTrue_And_cons ?_;refine wpAny_isTrue_Compare1 (kv (x:=S iH) (v:=.ref 743) b d e ?_) rfl;refine iR (x:=S ik) (v:=.ref 743) b B (by kernel_rfl) (by kernel_rfl) (.inl (qZ w)) ?_;refine(Looks.of_peek (M:=model pw w) (ku B) (RJ w)).here (wpAny_truthy_bool ?_);show an _ _ (execs [] env) _ _ _;refine wpAny_execs_nil ?_;have f:((ep vk 0).endLine==vk.pos.line)=true:=by rw[beq_iff_eq];exact au Vb
 refine bg (wpAny_Return_some ?_);rw[arm_eval_Call,fW (by rfl)];refine ah (iR (x:=S kz) (v:=.type "object") b B (by kernel_rfl) (by kernel_rfl) (.inr (HC w)) ?_);refine ah (wpAny_standAt ?_);have a:methodCallForm ([Expr.Name (S iH) (ep vk 1)].length+([]:List Keyword).length) (backTo vk.pos (starEach [Expr.Name (S iH) (ep vk 1)] env)) (backToKw vk.pos (keywordEach [] env))=true:=rfl;have c:methodCallPos true (Expr.Name (S kz) (ep (ch vk 0) 0)) env (ep vk 0) vk.pos=pure vk.pos:=by unfold methodCallPos;simp[f]
 unfold methodCall;rw[a];refine ah (wpAny_holding (CM B ?_));refine ah (wpAny_of_eq c ?_);rw[show backTo vk.pos (starEach [Expr.Name (S iH) (ep vk 1)] env)=pl [eval (.Name (S iH) (ep vk 1)) env] from rfl,iM];refine uQ (first:=[]) (id:="object.__new__") ?_;refine kv (s:={s with toks:=s.toks+1}) (x:=S iH) (v:=.ref 743) b d e ?_;refine wpAny_call ?_;obtain⟨i,h,sd,st,g⟩:=s;exact MA B (q _ (Nat.le_succ _))
end
theorem ME(w:aq):∃b c a d,(KI w.params).lookup 743=some ⟨b,c,.cls a,d⟩/\a.mro.isEmpty=false:=by
 have h:RD (λa=>!a.mro.isEmpty) ((KI w.params).lookup 743)=true:=by kernel_rfl
 have f:=xu h;clear h;obtain⟨b,c,a,d,e,h⟩:=f;rw[aN] at h;exact⟨b,c,a,d,e,h⟩
theorem XM(a:Addr)(r:List ai)(b:List (Str×ai)):Nat.ble (Code.builtin "type.__call__" ⟨.ref a::r,b⟩).weight 3=true:=by kernel_rfl
theorem XN(a:Addr)(r:List ai)(b:List (Str×ai)):Nat.ble (Code.builtin "type.__call__" ⟨.ref a::r,b⟩).cUnits 8=true:=by kernel_rfl
theorem q6{A:aL}{a:Addr}{r:List ai}{b:List (Str×ai)}{k:Nat}(h:eO A (k+3)):eO (A.under (.builtin "type.__call__" ⟨.ref a::r,b⟩)) k:=by
 have c:=Nat.le_of_ble_eq_true (XM a r b);have d:=Nat.le_of_ble_eq_true (XN a r b);refine⟨h.h,?_,?_⟩
 .have:=h.d;show A.depth+(Code.builtin "type.__call__" ⟨.ref a::r,b⟩).weight+k<_;exact k9 c this
 .have:=h.u;show A.units+(Code.builtin "type.__call__" ⟨.ref a::r,b⟩).cUnits+8*k+35<_;exact k9 d this
theorem zj(w:aq)(g:Gx)(h:Heap):gc w g [] h []:=⟨rfl,λi o p a=>by simp at a,List.nodup_nil⟩
section
variable{w:aq}{A:aL}{R:Result->af->Prop}{s:af}{k:Nat}
theorem HE(r:eO A (k+1))(B:cT w s.heap)(v:ai){Q:ai->af->Prop}(q:∀s' x dx,Keeps s s'->s.toks<=s'.toks->s'.heap.get? x=some (instObj 743 dx)->s'.heap.get? dx=some emptyDict->s.heap.get? x=none->s.heap.get? dx=none->dx≠x->Q (.ref x) s'):
 codeAny (model pw w) A (.call (.ref 236) ⟨[.ref 743,v],[]⟩) (RV Q) s:=by
 obtain⟨fd,F,i⟩:∃fd,cK w.params 236 (fm 35 1) xv fd/\(∀v u,aJ fd ⟨[v,u],[]⟩=(newTuple [u]>>=λt=>alloc emptyDict>>=λd=>pure (cq xv [v,t,.ref d]))):=⟨_,RF _,HB _⟩;have f:∀m,an (model pw w) m (aJ fd ⟨[.ref 743,v],[]⟩) (λp s1=>∃vs,p=cq xv vs/\Keeps s s1/\dj (bJ [] s1.heap) [] vs [.raw 743,.any,.any]) bM s:=λm=>by rw[i];obtain⟨h,g,dr,tk,os⟩:=s;refine ah (wpAny_newTuple (ah (wpAny_alloc (ay ⟨_,rfl,⟨_,_,rfl,λb o e=>aA _ (aA _ e)⟩,.cons (.raw _) (.cons (.any _) (.cons (.any _) .nil))⟩))) (by show 1<=sizeLine;rw[bu];decide))
 refine fB (ts:=[]) F r (X:=[]) (ob:=[]) B (zj w _ _) (λx z=>by cases z) f λenv D s1 c=>?_;obtain⟨E,y,C⟩:=c.hs.vars iH (.raw 743) rfl;obtain rfl:=RG C;refine am (HD c.e c.hs.base y λtk j=>?_) (λl l x=>x) (λl l x=>x.elim);obtain⟨a,t1,rfl,kk⟩:=c.ks;have n:∀b,a.objs.size<=b->s.heap.get? b=none:=λb f=>by
  cases e:s.heap.get? b with
  |none=>rfl
  |some o=>exact aK (Heap.lt_size (kk _ _ e)) (Nat.not_lt.mpr f)
 refine q _ _ a.objs.size ⟨_,_,rfl,λb o e=>aA _ (aA _ (kk b o e))⟩ (aj c.tk j) ?_ ?_ (n _ (Nat.le_succ _)) (n _ (aF _)) (Nat.ne_of_lt (bh _))
 .show((a.push emptyDict).push (instObj 743 a.objs.size)).get? (a.objs.size+1)=_
  heap_get
 .show((a.push emptyDict).push (instObj 743 a.objs.size)).get? a.objs.size=_
  heap_get
theorem HG(N:eO A (k+5))(B:cT w s.heap)(v:ai)(q:∀s' x dx,Keeps s s'->s.toks<=s'.toks->s'.heap.get? x=some (instObj 743 dx)->s'.heap.get? dx=some emptyDict->s.heap.get? x=none->s.heap.get? dx=none->dx≠x->
 codeAny (model pw w) (A.under (.builtin "type.__call__" ⟨[.ref 743,v],[]⟩)) (.call (.ref 513) ⟨[.ref x,v],[]⟩) (InitBack x R) s'):
 codeAny (model pw w) A (.call (.ref 743) ⟨[v],[]⟩) R s:=by
 have X:=ku B;obtain⟨U,V,H,Z,P,J⟩:=ME w;have p:=X _ _ P;have m:=looks_instIn (M:=model pw w) X (Hz w);have i:=looks_specialIn (M:=model pw w) X (My w);have F:Looks (model pw w) s.heap (mroOf (.ref 743)) H.mro:=((Looks.ld (part:=none) p).andThen .now).andThen .now;have j:Looks (model pw w) s.heap (Bind.madeBy (.ref 743)) none:=Looks.of_peek X (Mu w);obtain⟨h,g,d,t,os⟩:=s;dsimp only at p F j m i;refine codeAny_of_tree ?_;show an _ _ (callAny (.ref 743) _) _ _ _;refine nd_load p ?_;show an _ _ (callAny.viaDunder (.ref 743) _) _ _ _;unfold callAny.viaDunder;refine ah (i.at ?_);dsimp only;rw[tc_bind];refine ah (ay (ah (ay ?_)));refine ay (a:=Fin.again (.call (.builtin "type.__call__") ⟨[.ref 743,v],[]⟩)) (And.intro rfl ?_);refine codeAny_call_builtin_at (Code.quiet_builtin _ (by decide+kernel)) entry_typeCall (check_slot tc_kind tc_split m (tc_args _ _ _) ?_);unfold Builtin.«type.__call__»;show an (model pw w) _ (mroOf (.ref 743)>>=_) _ _ _;refine ah (F.at ?_);rw[J];show an (model pw w) _ (Bind.madeBy (.ref 743)>>=_) _ _ _;refine ah (j.at ?_);show an (model pw w) _ (getAttr (.ref 743) U5>>=_) _ _ _;refine ah (cls_bind (s:=⟨h,g,d,t,os⟩) X (HA w) (RC w) (wpAny_call (sm_get (s:=⟨h,g,d,t+1,os⟩) X (U7 w) ?_)));dsimp only;rw[handedOut_of (by rfl)];refine ay ?_;refine ah (wpAny_holding (wpAny_call ?_));refine codeAny_mono (HE (k:=k) (s:=⟨h,g,d,t+1,os⟩) (q6 (k:=k+1) (N.le (by exact Nat.le_succ _))) B v (Q:=λu s'=>∃x dx,u=.ref x/\Keeps (⟨h,g,d,t,os⟩:af) s'/\t<=s'.toks/\s'.heap.get? x=some (instObj 743 dx)/\s'.heap.get? dx=some emptyDict/\h.get? x=none/\h.get? dx=none/\dx≠x) λs' x dx a b c I e f K=>⟨x,dx,rfl,?_,Nat.le_of_succ_le b,c,I,e,f,K⟩) λr s' z=>?_
 .obtain⟨h',tk,rfl,kk⟩:=a;exact⟨h',tk,rfl,kk⟩
 .rcases r with e|(u|_|_|_)<;>first|exact z.elim|skip
  obtain⟨x,dx,rfl,ks,tk,G,y,nx,E,C⟩:=z;have t1:Looks (model pw w) s'.heap (typeOf (.ref x)) (.ref 743):=(Looks.ld G).andThen .now;have n:(KI w.params).In s'.heap:=by obtain⟨h',T,rfl,kk⟩:=ks;exact X.keeps kk
  have O:Looks (model pw w) s'.heap (isInstance (.ref x) (.ref 743)) true:=t1.andThen (looks_subIn n (Mx w));have L:=q s' x dx ks tk G y nx E C;have l:typeIn (KI w.params) (.ref 513)=some (.type "function"):=U6 w;have D:Looks (model pw w) s'.heap (specialOf (.ref x) "__init__") (some (.ref 513)):=t1.andThen (looks_findIn n (Mz w));have o:=bind_fn (M:=model pw w) n (.ref x) l;obtain⟨Y,W,sd,st,S⟩:=s';refine ah (O.at ?_);simp only[Bool.not_true,Bool.false_eq_true,if_false];unfold callSpecial?;refine ah (wpAny_holding (ah (D.at ?_)));dsimp only;refine wpAny_holding (ah (o.at ?_));dsimp only;refine ah (wpAny_call (codeAny_mono L λr s' z=>?_));rcases r with e|(u|_|_|_)<;>first|exact z|exact z.elim|skip
  obtain⟨rfl,z⟩:=z;exact ay (ay z)
end
theorem Rd.grow{g:Gx}{ts:Tb}{p:Addr×Addr}{v:ai}{d:D}(r:Rd g ts v d):Rd g (ts++[p]) v d:=
 Rd.rec (motive_1:=λv d e=>Rd g (ts++[p]) v d) (motive_2:=λvs ds e=>dj g (ts++[p]) vs ds) .none .bool .int .str (λh l e r=>.list h l r) (λh l e r=>.tup h l r) (λh l=>.rng h l)
  .bi .raw (λh=>.obj (by rw[List.getElem?_append_left (aY.mp h).1];exact h)) (λh=>.deq h) .nn (λh c=>.fn h c) .any .nil (λe e a b=>.cons a b) r
theorem mc.grow{w:aq}{g:Gx}{ts:Tb}{p:Addr×Addr}{es:List bj}{r:List (Nm×D)}(a:mc w g ts es r):mc w g (ts++[p]) es r:=
 mc.rec (motive:=λes r c=>mc w g (ts++[p]) es r) .nil (λh c b=>.cons h.grow b) a
theorem gc.grow{w:aq}{X:List Addr}{ts:Tb}{s s':af}{ob:List Ob}{C x dx:Addr}(O:gc w (bJ X s.heap) ts s.heap ob)(B:cT w s.heap)(ks:Keeps s s')(m:s'.heap.get? x=some (instObj C dx))(f:s'.heap.get? dx=some emptyDict)(d:s.heap.get? dx=none):
 gc w (bJ X s'.heap) (ts++[(x,dx)]) s'.heap (ob++[⟨C,[]⟩]):=by
 have j:gc w (bJ X s'.heap) ts s'.heap ob:=by obtain⟨h',tk,rfl,kk⟩:=ks;exact O.keep kk
 refine⟨by rw[ae,ae,O.len];rfl,λi o p a b=>?_,?_⟩
 .by_cases g:i<ob.length
  .rw[List.getElem?_append_left g] at a;rw[List.getElem?_append_left (by rw[<-O.len];exact g)] at b;have y:=j.each i o p a b;obtain⟨es,n,e,r⟩:=y.dict;exact⟨y.inst,⟨es,n,e,r.grow⟩,y.new⟩
  .have c:ob.length<=i:=Nat.le_of_not_lt g;rw[List.getElem?_append_right c] at a;rw[List.getElem?_append_right (by rw[<-O.len];exact c),<-O.len] at b;have k:i-ob.length=0:=by have:=(aY.mp a).1;simp only[aC,List.length_nil] at this;omega
   rw[k] at a b;cases a;cases b;exact⟨m,⟨[],0,f,.nil⟩,fP B d⟩
 .unfold fG;rw[be];refine List.nodup_append.mpr ⟨O.nodup,List.nodup_cons.mpr ⟨by simp,List.nodup_nil⟩,λa h b l=>?_⟩;rintro rfl;rw[az.mp (show a∈[dx] from l)] at h;obtain⟨⟨es,n,e⟩,q⟩:=O.dict h;rw[d] at e;cases e
theorem b0.grow{w:aq}{env:Env}{X:List Addr}{oa:Addr}{v:List (Nm×D)}{ts:Tb}{s s':af}{ob:List Ob}{C x dx:Addr}(H:b0 w ts env X oa ⟨v,none,ob⟩ s.heap)(ks:Keeps s s')(tk:s.toks<=s'.toks)(i:s'.heap.get? x=some (instObj C dx))(f:s'.heap.get? dx=some emptyDict)(b:s.heap.get? dx=none):
 b0 w (ts++[(x,dx)]) env X oa ⟨v,none,ob++[⟨C,[]⟩]⟩ s'.heap:=by
 have a:=H.keep ks tk;have O:=gc.grow H.obs H.base ks i f b;refine⟨a.base,λy d e=>?_,λc c c e=>(by cases e),O,a.loc,a.cel,λq=>?_,a.live⟩
 .obtain⟨u,h,r⟩:=a.vars y d e;exact⟨u,h,r.grow⟩
 .unfold fG at q;rw[be] at q;rcases List.mem_append.mp q with q|q
  .exact H.off q
  .replace q:=az.mp (show env.locals∈[dx] from q);obtain⟨m,o,c,c,g,c⟩:=H.loc;rw[q,b] at g;cases g
theorem AY{ts:Tb}{s s' a:af}{x dx:Addr}(ks:Keeps s s')(t:s.toks<=s'.toks)(c:s.heap.get? dx=none)(k:Kp (ts++[(x,dx)]) s' a):Kp ts s a:=by
 obtain⟨h,t1,rfl,f⟩:=ks;obtain⟨d,t2,rfl,l2,g⟩:=k;refine⟨d,t2,rfl,aj t l2,λb o e n m=>g b o (f b o e) (λq=>?_) m⟩;unfold fG at q;rw[be] at q;rcases List.mem_append.mp q with q|q
 .exact n q
 .rw[az.mp (show b∈[dx] from q),c] at e;cases e
theorem HH(P:aw)(v u:ai):aJ (c9 P 513) ⟨[v,u],[]⟩=(load 506>>=eT (aJ (c9 P 513) ⟨[v,u],[]⟩)):=by kernel_rfl
def RM(P:aw):Obj:=((hT P).get? 506).getD ⟨.none,none,.plain,#[]⟩
theorem XO(P:aw):(hT P).get? 506=some (RM P):=by kernel_rfl
theorem CN(P:aw)(v u:ai):eT (aJ (c9 P 513) ⟨[v,u],[]⟩) (RM P)=pure (cq tv [v,u,.str (S [10]) 1148]):=by kernel_rfl
theorem Vf(w:aq):peek (KI w.params) ⟨pw,w.params⟩ (keeperOf (.ref 743))=some .machine:=by kernel_rfl
theorem Vg(w:aq):peek (KI w.params) ⟨pw,w.params⟩ (keeperOf (.ref 878))=some .machine:=by kernel_rfl
section
variable{w:aq}{A:aL}{env:Env}{X:List Addr}{oa:Addr}{s:af}{k:Nat}
theorem MF{v:List (Nm×D)}{p0:Addr×Addr}{u:ai}{x:List Nat}{l:Ob}(n:eO A 20)(H:b0 w [p0] env X oa ⟨v,none,[l]⟩ s.heap)(G:0<s.toks)(J:Rd (bJ X s.heap) [p0] u (.str x)):
 codeAny (model pw w) A (.call (.ref 743) ⟨[u],[]⟩) (RV λr j=>∃p1:Addr×Addr,r=.ref p1.1/\b0 w [p0,p1] env X oa ⟨v,none,[l,nT (.str [10]) x 0]⟩ j.heap/\Kp [p0] s j/\s.heap.get? p1.2=none) s:=by
 refine HG (k:=15) n H.base u λs' y c ks tk I h M a E=>?_;have b:=H.grow ks tk I h a;have d:eO (A.under (.builtin "type.__call__" ⟨[.ref 743,u],[]⟩)) 8:=q6 (n.le (by exact aB _ _));obtain⟨fd,F,f,g⟩:∃fd,cK w.params 513 (fm 39 1) tv fd/\(∀v u,aJ fd ⟨[v,u],[]⟩=(load 506>>=eT (aJ fd ⟨[v,u],[]⟩)))/\(∀v u,eT (aJ fd ⟨[v,u],[]⟩) (RM w.params)=pure (cq tv [v,u,.str (S [10]) 1148])):=⟨_,PT _,HH _,CN _⟩;have i:Rd (bJ X s'.heap) ([p0]++[(y,c)]) u (.str x):=by obtain⟨h',K,rfl,kk⟩:=ks;exact(J.mon (gp kk)).grow
 have C:∀m,an (model pw w) m (aJ fd ⟨[.ref y,u],[]⟩) (λB s1=>∃vs,B=cq tv vs/\Keeps s' s1/\dj (bJ X s1.heap) ([p0]++[(y,c)]) vs [.obj 1,.str x,.str [10]]) bM s':=λm=>by refine kZ (f _ _) (b.base.keep _ _ (XO _) (by decide)) ?_;rw[g];exact ay ⟨_,rfl,dc _,.cons (.obj (p:=(y,c)) rfl) (.cons i (.cons (.str _ _ (by decide)) .nil))⟩
 refine codeAny_mono (kM (k:=7) (Yw w _) (cV w) F d b.base b.obs b.live (aI G tk) C (U1 l x)) λr j z=>?_;rcases r with e|(r|_|_|_)<;>first|exact z.elim|skip
 obtain⟨L,q,t,o⟩:=z;cases L;exact⟨rfl,(y,c),rfl,b.kp o q t,AY ks tk a o,a⟩
theorem HI{C:Addr}(c:peek (KI w.params) ⟨pw,w.params⟩ (keeperOf (.ref C))=some .machine){pos:Pos}{as:List (Sem ai)}{a:List (Option Str×Sem ai)}{Q:ai->af->Prop}(d:a.any (λx=>x.1.isNone)=false)(h:an (model pw w) A (evalArgs (.ref C) true (pl as) a) (λx s1=>cT w s1.heap/\an (model pw w) A (call (.ref C) x.pos x.kw) Q bM s1) bM s):an (model pw w) A (callWith pos (.ref C) [] (pl as) a) Q bM s:=
 iN (jQ as) d (am h (λx b z=>(Looks.of_peek (M:=model pw w) (ku z.1) c).here ⟨rfl,z.2⟩) λe e x=>x)
end
def CO:Stmt:=cu (cP (cu bI 0)) 0
theorem RN:cu bI 0=.If (bV (cu bI 0)) [.Assign [.Name (S dH) (tp CO)] (.Call (.Name (S ik) (ep (bV CO) 0)) [.Name (S dH) (ep (bV CO) 1)] [] (bV CO).pos) CO.pos] [] (cu bI 0).pos:=by kernel_rfl
theorem HJ(P:aw)(v u b:ai):aJ (c9 P 802) ⟨[v,u],[(S dq,b)]⟩=(load 795>>=eT (aJ (c9 P 802) ⟨[v,u],[(S dq,b)]⟩)):=by kernel_rfl
def RO(P:aw):Obj:=((hT P).get? 795).getD ⟨.none,none,.plain,#[]⟩
theorem XQ(P:aw):(hT P).get? 795=some (RO P):=by kernel_rfl
theorem CP(P:aw)(v u b:ai):eT (aJ (c9 P 802) ⟨[v,u],[(S dq,b)]⟩) (RO P)=pure (cq tw [v,u,.none,b,.bool false]):=by kernel_rfl
theorem RP(x:List Nat):(eF KB MB 58 nI (bV (cu bI 0)) ⟨CL (.str x) (.bool false),none,[⟨878,[]⟩]⟩).run=some (true,⟨CL (.str x) (.bool false),none,[⟨878,[]⟩]⟩):=by kernel_rfl
theorem HK(x:List Nat)(o:Ob):(St.set ⟨CL (.str x) (.bool false),none,[⟨878,[]⟩,o]⟩ dH (.obj 1))=⟨CL (.obj 1) (.bool false),none,[⟨878,[]⟩,o]⟩:=by kernel_rfl
section
variable{w:aq}{A:aL}{X:List Addr}
theorem HL{p0:Addr×Addr}{u:ai}{x:List Nat}{s0:af}(U:eO A 40)(O:cT w s0.heap)(O0:gc w (bJ X s0.heap) [p0] s0.heap [⟨878,[]⟩])(s:∀x∈X,(s0.heap.get? x).isSome=true)(I:0<s0.toks)(ru:Rd (bJ X s0.heap) [p0] u (.str x)):
 codeAny (model pw w) A (.call (.ref 802) ⟨[.ref p0.1,u],[(S dq,.bool true)]⟩) (RV λr y=>r=.none/\∃p1:Addr×Addr,cT w y.heap/\gc w (bJ X y.heap) [p0,p1] y.heap [⟨878,zh ⟨NB,some 32,[],1⟩ false [35]⟩,nT (.str [10]) x 0]/\Kp [p0] s0 y/\s0.heap.get? p1.2=none) s0:=by
 obtain⟨fd,F,E,G⟩:∃fd,cK w.params 802 (fm 51 0) tw fd/\(∀v u b,aJ fd ⟨[v,u],[(S dq,b)]⟩=(load 795>>=eT (aJ fd ⟨[v,u],[(S dq,b)]⟩)))/\(∀v u b,eT (aJ fd ⟨[v,u],[(S dq,b)]⟩) (RO w.params)=pure (cq tw [v,u,.none,b,.bool false])):=⟨_,PU _,HJ _,CP _⟩;have hb:∀N,an (model pw w) N (aJ fd ⟨[.ref p0.1,u],[(S dq,.bool true)]⟩) (λbs s1=>∃vs,bs=cq tw vs/\Keeps s0 s1/\dj (bJ X s1.heap) [p0] vs [.obj 0,.str x,.none,.bool true,.bool false]) bM s0:=λN=>by refine kZ (E _ _ _) (O.keep _ _ (XQ _) (by decide)) ?_;rw[G];exact ay ⟨_,rfl,dc _,.cons (.obj rfl) (.cons ru (.cons .none (.cons (.bool _) (.cons (.bool _) .nil))))⟩
 refine zX λR kR=>?_;refine fB (k:=39) F U O O0 s hb λenv T s1 a=>?_;have l:eq (A.deeper env) 39:=eO.deeper U;have D:eq (A.deeper env) 0:=l.le (by exact Nat.zero_le _);have m:0<s1.toks:=aI I a.tk;have IE:bQ w [p0] KB MB 0 58:=dQ ib (cV w) jS 58;refine am (?_:an (model pw w) (A.deeper env) (execs bI env) _ bM s1) (λf f x=>x) (λf f x=>x.elim);rw[U2];have ht:=RP x;rw[RN];refine bg (wpAny_If (am (IE.b _ _ _ _ _ ht (A.deeper env) env T 0 D a.e s1 a.hs m) (λc y p2=>?_) λf f x=>x.elim));obtain rfl:=p2.rd;show an _ _ (execs [_] env) _ _ _;refine bg ?_;refine wpAny_Assign_Name ?_ rfl;show an _ _ (eval (.Name (S ik) (ep (bV CO) 0)) env>>=λg=>callWith (bV CO).pos g [] (backTo (bV CO).pos (starEach [Expr.Name (S dH) (ep (bV CO) 1)] env)) (backToKw (bV CO).pos (keywordEach [] env))) _ _ _;refine ah (iR (x:=S ik) (v:=.ref 743) a.e p2.hs.base (by kernel_rfl) (by kernel_rfl) (.inl (qZ w)) ?_);rw[show backTo (bV CO).pos (starEach [Expr.Name (S dH) (ep (bV CO) 1)] env)=pl [eval (.Name (S dH) (ep (bV CO) 1)) env] from rfl,iM];refine HI (Vf w) rfl (fH ?_);obtain⟨u2,K,M⟩:=p2.hs.vars dH (.str x) rfl;refine kv (x:=S dH) (v:=u2) a.e K (by kernel_rfl) ⟨p2.hs.base,?_⟩;refine wpAny_call ?_;refine codeAny_mono (MF (x:=x) (l.one.le (by exact aB _ _)) p2.hs (p2.toks m) M) λr s3 z=>?_;rcases r with e|(r|_|_|_)<;>first|exact z.elim|skip
 obtain⟨p1,rfl,H3,h,i⟩:=z;refine am (hY (x:=dH) (d:=.obj 1) a.e a.hf H3 (by kernel_rfl) (.obj (p:=p1) rfl)) (λf Z z4=>?_) λf f x=>x;obtain⟨j,P,ac⟩:=z4;rw[HK] at P;show an _ _ (execs [] env) _ _ _;refine wpAny_execs_nil ?_;show an _ _ (execs (bI.drop 1) env) _ _ _;have J:0<Z.toks:=aI (aI (p2.toks m) h.toks) j.kq.toks;refine am ((iy (Yw w [p0,p1]) (cV w) 59).xs _ _ _ _ _ (U3 x) (A.deeper env) env T 0 (l.le (by exact aB _ _)) a.e a.hf Z P J) (λfl s5 C=>?_) λf f x=>x.elim;obtain⟨aa,Q,ab,H⟩:=C.ex;cases fl<;>first|exact H.elim|skip
 have n0:s0.heap.get? p1.2=none:=by
  cases e:s0.heap.get? p1.2 with
  |none=>rfl
  |some o=>
   have e2:=lC a.ks e;by_cases W:p1.2∈fG [p0]
   .obtain⟨⟨es,n,t⟩,f⟩:=p2.hs.obs.dict W;rw[i] at t;cases t
   .by_cases Y:p1.2=dM
    .obtain⟨ps,t,f⟩:=p2.hs.base.lam;rw[<-Y,i] at t;cases t
    .rw[p2.kp.get e2 W Y] at i;cases i
 refine kR (.ok (.ret .none)) s5 ⟨rfl,p1,Q.base,Q.obs.mon λb o e c=>(let⟨e,hn⟩:=bT e;cc e λq=>hn (dp _ (a.sub _ q))),?_,n0⟩;refine .mk2 ((zS a.ks).trans (p2.kp.so.trans (h.so.trans (j.kq.so.trans C.kq.so)))) (aj a.tk (aj p2.kp.toks (aj h.toks (aj j.kq.toks C.kq.toks)))) λb o e L B=>?_;have nl:=a.nl (cO e);have V:=a.nc (cO e);have nd:b∉fG [p0,p1]:=λq=>by
  rcases ao.mp (show b∈p0.2::[p1.2] from q) with q|q
  .exact L (az.mpr q)
  .rw[az.mp q,n0] at e;cases e
 exact C.kq.get (j.kq.get (h.get (p2.kp.get (lC a.ks e) L B) L B) nd B nl V λq=>aK rfl q) nd B nl V λq=>aK rfl q
end
theorem HM(w:aq):makesIn (KI w.params) 878=true:=by kernel_rfl
theorem MG(w:aq):findIn (KI w.params) (.ref 878) "__init__"=some (some (.ref 802)):=by kernel_rfl
theorem Vh(w:aq):typeIn (KI w.params) (.ref 802)=some (.type "function"):=by kernel_rfl
abbrev Yz(x:List Nat):List Ob:=[⟨878,zh ⟨NB,some 32,[],1⟩ false [35]⟩,nT (.str [10]) x 0]
section
variable{w:aq}{A:aL}{X:List Addr}
theorem MH{u:ai}{x:List Nat}{s:af}(F:eO A 50)(B:cT w s.heap)(a:∀x∈X,(s.heap.get? x).isSome=true)(v:0<s.toks)(C:Rd (bJ X s.heap) [] u (.str x)):
 codeAny (model pw w) A (.call (.ref 878) ⟨[u],[(S dq,.bool true)]⟩) (RV λr j=>∃p0 p1:Addr×Addr,r=.ref p0.1/\cT w j.heap/\gc w (bJ X j.heap) [p0,p1] j.heap (Yz x)/\Kp [] s j/\s.heap.get? p0.2=none/\s.heap.get? p1.2=none) s:=by
 have K:=ku B;have Y:=makes_of (M:=model pw w) K (HM w);have q:=looks_findIn (M:=model pw w) K (MG w);have i:=λk=>bind_fn (M:=model pw w) K k (Vh w);obtain⟨h,g,d,t,os⟩:=s;dsimp only at K Y q i B a v C;refine make_core Y q i (.inl rfl) ?_;have kk:∀b o,h.get? b=some o->((h.push emptyDict).push (instObj 878 h.objs.size)).get? b=some o:=λb o e=>aA _ (aA _ e);have ks:Keeps (⟨h,g,d,t,os⟩:af) ⟨(h.push emptyDict).push (instObj 878 h.objs.size),g,d,t,os⟩:=⟨_,_,rfl,kk⟩;have H:((h.push emptyDict).push (instObj 878 h.objs.size)).get? (h.objs.size+1)=some (instObj 878 h.objs.size):=by heap_get
 have m:((h.push emptyDict).push (instObj 878 h.objs.size)).get? h.objs.size=some emptyDict:=by heap_get
 have f:h.get? h.objs.size=none:=dJ (aF _);have O:=gc.grow (s:=⟨h,g,d,t,os⟩) (s':=⟨(h.push emptyDict).push (instObj 878 h.objs.size),g,d,t,os⟩) (X:=X) (zj w _ h) B ks H m f;have l:eO (A.under (.builtin "type.__call__" ⟨.ref 878::[u],[(S dq,.bool true)]⟩)) 40:=q6 (F.le (by exact aB _ _));have p:Rd (bJ X ((h.push emptyDict).push (instObj 878 h.objs.size))) ([]++[(h.objs.size+1,h.objs.size)]) u (.str x):=(C.mon (gp kk)).grow;have c:∀x∈X,((((h.push emptyDict).push (instObj 878 h.objs.size))).get? x).isSome=true:=λy I=>by obtain⟨o,G⟩:=ax.mp (a y I);rw[kk _ _ G];rfl
 refine codeAny_mono (HL (p0:=(h.objs.size+1,h.objs.size)) (s0:=⟨(h.push emptyDict).push (instObj 878 h.objs.size),g,d,t,os⟩) l (B.keeps kk) O c v p) λr j z=>?_;rcases r with e|(r|_|_|_)<;>first|exact z.elim|skip
 obtain⟨rfl,p1,D,E,J,n⟩:=z;refine⟨rfl,(h.objs.size+1,h.objs.size),p1,rfl,D,E,AY (ts:=[]) ks (aF _) f J,f,?_⟩;cases e:h.get? p1.2 with
 |none=>rfl
 |some o=>have:=kk _ _ e;rw[show((h.push emptyDict).push (instObj 878 h.objs.size)).get? p1.2=none from n] at this;cases this
end
theorem AZ(w:aq):findIn (KI w.params) (.ref 878) "__iter__"=some (some (.ref 868)):=by kernel_rfl
theorem A0(w:aq):findIn (KI w.params) (.ref 878) "__next__"=some (some (.ref 875)):=by kernel_rfl
theorem HN(w:aq):typeIn (KI w.params) (.ref 868)=some (.type "function"):=by kernel_rfl
theorem RQ(w:aq):typeIn (KI w.params) (.ref 875)=some (.type "function"):=by kernel_rfl
theorem RS(w:aq):findIn (KI w.params) (.ref 878) "__len__"=some none:=by kernel_rfl
theorem MI(w:aq):findIn (KI w.params) (.ref 878) "__length_hint__"=some none:=by kernel_rfl
section
variable{w:aq}{A:aL}{s:af}{x dx:Addr}{es:List bj}{n:Nat}{E:ai->af->Prop}
theorem A1{Q:Option ai->af->Prop}(B:cT w s.heap)(d:s.heap.get? x=some (instObj 878 dx))(f:s.heap.get? dx=some (dictOf es n))
 (h:an (model pw w) A (call (.ref 875) [.ref x]) (λv s'=>Q (some v) s') (λe s'=>an (model pw w) A (isInstance e (.type "StopIteration")) (λb a=>if b=true then Q none a else E e a) E s') s):an (model pw w) A (pyNext (.ref x)) Q E s:=by
 unfold pyNext;refine ah (wpAny_attempt (special_fn (name:="__next__") (args:=[]) (ku B) (gj d f) (A0 w) (RQ w) (am h (λv s' i=>ay i) λe s' g=>?_)));refine ah (am g (λb a c=>?_) λj j z=>z);cases b with
 |true=>exact ay c
 |false=>exact wpAny_throw c
theorem MJ{Q:ai->af->Prop}(B:cT w s.heap)(j:s.heap.get? x=some (instObj 878 dx))(k:s.heap.get? dx=some (dictOf es n))
 (h:an (model pw w) A (call (.ref 868) [.ref x]) (λv s'=>v=.ref x/\(cT w s'.heap/\s'.heap.get? x=some (instObj 878 dx)/\∃es n,s'.heap.get? dx=some (dictOf es n))/\Q (.ref x) s') bM s):an (model pw w) A (pyIter (.ref x)) Q bM s:=by
 have X:=ku B;have I:=gj j k;have one:an (model pw w) A (call (.ref 868) [.ref x]>>=λv=>pure (some v)) (λr s'=>r=some (.ref x)/\(cT w s'.heap/\s'.heap.get? x=some (instObj 878 dx)/\∃es n,s'.heap.get? dx=some (dictOf es n))/\Q (.ref x) s') bM s:=
  ah (am h (λv s' z=>ay ⟨by rw[z.1],z.2⟩) λd d z=>z)
 have C6:∀a:Sem ai,an (model pw w) A (callSpecialIfBoundUnlessNone? (.ref x) "__iter__" a) (λr s'=>r=some (.ref x)/\(cT w s'.heap/\s'.heap.get? x=some (instObj 878 dx)/\∃es n,s'.heap.get? dx=some (dictOf es n))/\Q (.ref x) s') bM s:=by
  intro a;simp only[callSpecialIfBoundUnlessNone?,bindSpecialIfBound?];refine wpAny_holding (ah (ah (ah (I.type.here ((looks_findIn X (AZ w)).here ?_)))));refine ah (wpAny_askSetting (wpAny_ite ?_));have fin:an (model pw w) A (if(ai.ref 868==ai.none)=true then(a>>=λv=>pure (some v)) else(call (.ref 868) [.ref x]>>=λv=>pure (some v))) (λr s'=>r=some (.ref x)/\(cT w s'.heap/\s'.heap.get? x=some (instObj 878 dx)/\∃es n,s'.heap.get? dx=some (dictOf es n))/\Q (.ref x) s') bM s:=by rw[av (show ¬((ai.ref 868==ai.none)=true) from ab)];exact one
  split
  .exact ah ((bind_fn X _ (HN w)).here (ay (by exact fin)))
  .exact wpAny_tryCatch (ah ((bind_fn X _ (HN w)).here (ay (by exact fin))))
 unfold pyIter;refine ah (ah (I.type.here ((looks_findIn X (AZ w)).here ?_)));show an (model pw w) A (callSpecialIfBoundUnlessNone? (.ref x) "__iter__" _>>=_) Q bM s;refine ah (am (C6 _) (λr s' z=>?_) λd d z=>z);obtain⟨rfl,⟨e,b,i,l,c⟩,q⟩:=z;have f:=gj b c;have g:=ku e;refine ah (ah (f.type.here ((looks_findIn g (A0 w)).here ?_)));exact ay q
theorem HO{Q:Bool->af->Prop}(B:cT w s.heap)(a:s.heap.get? x=some (instObj 878 dx))(b:s.heap.get? dx=some (dictOf es n))(q:Q true s):an (model pw w) A (Builtin.List.listLengthHint (.ref x)) Q E s:=by have X:=ku B;have I:=gj a b;unfold Builtin.List.listLengthHint;refine ah (ah (I.type.here ((looks_findIn X (RS w)).here ?_)));show an (model pw w) A (specialOf (ai.ref x) (Str.ofString "__length_hint__")>>=_) _ _ _;refine ah (ah (I.type.here ((looks_findIn X (MI w)).here ?_)));exact ay q
end
abbrev q7:List Nm:=[lP]
theorem RT(P:aw):cK P 868 (fm 51 9) q7 (c9 P 868):=cN (by kernel_rfl) (by kernel_rfl) (by kernel_rfl)
theorem RU(P:aw):∀vs:List ai,vs.length=q7.length->aJ (c9 P 868) ⟨vs,[]⟩=pure (cq q7 vs):=iq rfl λv=>by kernel_rfl
theorem Vi(ob:List Ob):(eQ KB MB (fm 51 9) q7 [.obj 0] ob).run=some (.obj 0,ob):=by kernel_rfl
abbrev bX:List Stmt:=UP 51 10
abbrev nX:Sc:=Sn 51 10
theorem NC:bX=cu bX 0::cu bX 1::cu bX 2::[]:=by kernel_rfl
abbrev vX(d:D):List (Nm×D):=[(lP,.obj 0),(pg,d)]
section
variable(q:Lx)(nl:D)(b x:List Nat)(p:Int)
theorem MK:(ex L6 MB 59 nX (cu bX 0) ⟨dK iA [.obj 0],none,i9 q nl b p⟩).run=(((Fc nY [.obj 0] (i9 q nl b p)).bind λd=>.ret (d.1,(⟨dK iA [.obj 0],none,d.2⟩:St))).bind λr=>.ret (dN.next,r.2.set pg r.1)).run:=by kernel_rfl
theorem ML:(cM L6 MB 59 nX (cu bX 1::cu bX 2::[]) ⟨vX (.str x),none,i9 q nl b p⟩).run=some (.ret (.str x),⟨vX (.str x),none,i9 q nl b p⟩):=by kernel_rfl
theorem MM:(eF L6 MB 57 nX (bV (cu bX 1)) ⟨vX .none,none,i9 q nl b p⟩).run=some (true,⟨vX .none,none,i9 q nl b p⟩):=by kernel_rfl
end
theorem xw{ob ob':List Ob}{d:D}(h:nY [.obj 0] ob (d,ob')):(ex L6 MB 59 nX (cu bX 0) ⟨dK iA [.obj 0],none,ob⟩).run=some (.next,⟨vX d,none,ob'⟩):=by have a:=Hu (λi h'=>xq h h') h;obtain⟨W,st,ln,nl,b,n,f,st',e,c,g,rfl,g⟩:=id h;rw[MK,bY,bY,a];rfl
theorem Vj{ob ob':List Ob}{x:List Nat}(h:nY [.obj 0] ob (.str x,ob')):(eQ L6 MB (fm 51 10) iA [.obj 0] ob).run=some (.str x,ob'):=by
 have e0:=xw h;obtain⟨W,st,ln,nl,b,n,i,st',d,a,c,rfl,c,c,c,c,e⟩:=id h;obtain⟨c,f⟩:=Prod.mk.inj e;subst f;have g:(cM L6 MB 60 nX bX ⟨dK iA [.obj 0],none,i9 ⟨W,st,[],ln⟩ nl b n⟩).run=some (.ret (.str x),⟨vX (.str x),none,i9 ⟨W,st',[],d⟩ nl b (((b.length-a.length:Nat)):Int)⟩):=by rw[NC];exact(bk e0).trans (ML _ nl b x _)
 exact fD g
abbrev vm:Nm:=[83,116,111,112,73,116,101,114,97,116,105,111,110]
def YA:Stmt:=cu (cP (cu bX 1)) 0
def Vk:Stmt->Expr
 |.Raise (some e) _ _=>e
 |s=>bV s
theorem RW:cu bX 1=.If (bV (cu bX 1)) [.Raise (some (.Name (S vm) (Vk YA).pos)) none YA.pos] [] (cu bX 1).pos:=by kernel_rfl
theorem RX(w:aq):tX w (S vm)=none/\L9 w (S vm)=some (.type "StopIteration"):=⟨by kernel_rfl,by kernel_rfl⟩
inductive KG(bad FL:List Addr)(s s':af):Prop
 |mk (h':Heap) (tk:Nat) (e:s'={s with heap:=h',toks:=tk}) (l:s.toks<=tk) (k:∀b o,s.heap.get? b=some o->b∉bad->b∉FL->h'.get? b=some o)
 (f:∀b o,b∈FL->s.heap.get? b=some o->(∀vs,o.data≠.fields vs)->∃sl,h'.get? b=some {o with slots:=sl})
theorem KG.trans{c FL:List Addr}{s s1 f:af}(a:KG c FL s s1)(b:KG c FL s1 f):KG c FL s f:=by obtain⟨q,t1,rfl,l1,k,h⟩:=a;obtain⟨j,t2,rfl,l2,l,i⟩:=b;refine⟨j,t2,rfl,aj l1 l2,λb o e n m=>l b o (k b o e n m) n m,λb o m e d=>?_⟩;obtain⟨p,g⟩:=h b o m e d;exact i b {o with slots:=p} m g d
theorem KG.toks{b FL:List Addr}{s s':af}(a:KG b FL s s'):s.toks<=s'.toks:=by obtain⟨c,c,rfl,l,c⟩:=a;exact l
theorem KG.so{b FL:List Addr}{s s':af}(a:KG b FL s s'):So s s':=let⟨h,t,e,_,_,_⟩:=a;⟨h,t,e⟩
theorem KG.get{c FL:List Addr}{s s':af}(a:KG c FL s s'){b:Addr}{o:Obj}(e:s.heap.get? b=some o)(n:b∉c)(m:b∉FL):s'.heap.get? b=some o:=by obtain⟨d,d,rfl,d,k,d⟩:=a;exact k b o e n m
theorem KG.fl{c FL:List Addr}{s s':af}(a:KG c FL s s'){b:Addr}{o:Obj}(m:b∈FL)(e:s.heap.get? b=some o)(d:∀vs,o.data≠.fields vs):∃g,s'.heap.get? b=some {o with slots:=g}:=by obtain⟨f,f,rfl,f,f,k⟩:=a;exact k b o m e d
theorem KG.mk2{a FL:List Addr}{s s':af}(o:So s s')(l:s.toks<=s'.toks)(k:∀b o,s.heap.get? b=some o->b∉a->b∉FL->s'.heap.get? b=some o)(f:∀b o,b∈FL->s.heap.get? b=some o->(∀vs,o.data≠.fields vs)->∃c,s'.heap.get? b=some {o with slots:=c}):KG a FL s s':=by obtain⟨h,t,rfl⟩:=o;exact⟨h,t,rfl,l,k,f⟩
theorem KG.of_ks{a FL:List Addr}{s s':af}(k:Keeps s s')(t:s.toks<=s'.toks):KG a FL s s':=.mk2 (zS k) t (λb o e c c=>lC k e) λb o c e c=>⟨o.slots,lC k e⟩
theorem KG.of_kp{ts:Tb}{a FL:List Addr}{s s':af}(c:∀b,b∈fG ts\/b=dM->b∈a)(f:∀b∈FL,b∉fG ts/\b≠dM)(k:Kp ts s s'):KG a FL s s':=by obtain⟨h,t1,rfl,l1,g⟩:=k;exact⟨h,t1,rfl,l1,λb o e n m=>g b o e (λq=>n (c b (.inl q))) λq=>n (c b (.inr q)),λb o m e d=>⟨o.slots,g b o e (f b m).1 (f b m).2⟩⟩
def gK(l:List Env)(FL:List Addr)(h:Heap):Prop:=∀env∈l,env.scope.kind≠.module/\∃L o,env.frame=some L/\L∈FL/\h.get? L=some o/\∀vs,o.data≠.fields vs
theorem gK.kg{l:List Env}{f FL:List Addr}{s s':af}(F:gK l FL s.heap)(k:KG f FL s s'):gK l FL s'.heap:=λenv i=>by obtain⟨a,L,o,b,c,d,e⟩:=F env i;obtain⟨j,t1,rfl,l1,m,h⟩:=k;obtain⟨n,g⟩:=h L o c d e;exact⟨a,L,_,b,c,g,e⟩
theorem gK.fun{base h:Heap}{FL:List Addr}(f:∀L∈FL,base.get? L=none):∀{l:List Env},gK l FL h->h.FunFrames base l
 |[],_=>trivial
 |env::r,F=>by obtain⟨a,L,o,b,c,d,e⟩:=F env (.head _);exact⟨a,⟨L,o,b,f L c,d,e⟩,gK.fun f λe g=>F e (.tail _ g)⟩
section
variable{w:aq}{A:aL}{X FL:List Addr}{s:af}{p0 p1:Addr×Addr}{outer:List Env}
theorem CQ{env:Env}{S:List Addr}{oa:Addr}{st:St}{h:af}{h':Heap}{e:Addr}{sc:Sc}(F:A.frames=some outer)(hF:gK outer FL s.heap)(i:∀b∈FL,b∈X/\b∉fG [p0,p1]/\b≠dM/\(hT w.params).get? b=none)(z:s.heap.get? env.locals=none)(R:∀x c,env.cells.lookup x=some c->s.heap.get? c=none)(Q:bC w env sc)(P:env.frame=some env.locals)
 (B:b0 w [p0,p1] env S oa st h.heap)(so:So s h)(N:s.toks<=h.toks)(f:∀b o,s.heap.get? b=some o->b∉fG [p0,p1]->b≠dM->h.heap.get? b=some o)(v:Heap.MadeExc h.heap h' e "StopIteration" []):
 an (model pw w) (A.deeper env) (leaving env (.ref e)) (λj t=>(λr u=>∃e o,r=.error (.ref e)/\u.heap.get? e=some o/\o.cls=.type "StopIteration"/\cT w u.heap/\KG (dM::fG [p0,p1]) FL s u) (Except.error (ai.ref e):Result) t) (λV t=>(λr u=>∃e o,r=.error (.ref e)/\u.heap.get? e=some o/\o.cls=.type "StopIteration"/\cT w u.heap/\KG (dM::fG [p0,p1]) FL s u) (Except.error V:Result) t) {h with heap:=h'}:=by
 obtain⟨mL,oL,aa,Z,H,E,j⟩:=B.loc;have l:∀L∈env.locals::FL,(hideAll h.heap (env.locals::FL)).get? L=none:=λL hL=>hideAll_none _ hL;have D:gK (env::outer) (env.locals::FL) h':=λY k=>by
  rcases ao.mp k with qq|k
  .rw[qq];exact⟨by rw[Q.k];exact λq=>(by cases q),env.locals,oL,P,.head _,v.keeps _ _ H,λvs q=>by rw[E] at q;cases q⟩
  .obtain⟨a,L,o,U,O,d1,W⟩:=hF Y k;obtain⟨j,K,M,j⟩:=i L O;exact⟨a,L,o,U,.tail _ O,v.keeps _ _ (f L o d1 K M),W⟩
 obtain⟨te,J,j⟩:=v.there;refine wpAny_leaving_first (base:=hideAll h.heap (env.locals::FL)) (aL.frames_deeper F) (D.fun l) P J (λb o e=>v.keeps _ _ (of_hideAll _ e)) (?_:_=none) rfl rfl λC hl=>?_
 .cases q:(hideAll h.heap (env.locals::FL)).get? e with
  |none=>rfl
  |some o=>have:=of_hideAll _ q;rw[v.new] at this;cases this
 .obtain⟨l1,j,l3,l4⟩:=hl;obtain⟨oe,vs,T,oT,ts,he,y,j⟩:=l3;have g:∀b o,h.heap.get? b=some o->b∉env.locals::FL->C.get? b=some o:=λb o e n=>l1 b o (hideAll_get _ e n);have p:∀b o,(hT w.params).get? b=some o->b∉env.locals::FL:=λb o e q=>by
   rcases ao.mp q with q|q
   .rw[q,Q.newL] at e;cases e
   .rw[(i b q).2.2.2] at e;cases e
  refine⟨e,oe,rfl,he,y,⟨λb o e n=>g b o (B.base.keep b o e n) (p b o e),?_⟩,.mk2 (so.trans ⟨_,_,rfl⟩) N (λb o e n m=>?_) λb o m e d=>?_⟩
  .obtain⟨ps,I,G⟩:=B.base.lam;refine⟨ps,g _ _ I λq=>?_,G⟩;rcases ao.mp q with q|q
   .exact B.noloc q.symm
   .exact(i _ q).2.2.1 rfl
  .refine g b o (f b o e (λq=>n (.tail _ q)) λq=>n (by rw[q];exact .head _)) λq=>?_;rcases ao.mp q with q|q
   .rw[q,z] at e;cases e
   .exact m q
  .obtain⟨j,K,M,j⟩:=i b m;exact l4 b o (v.keeps _ _ (f b o e K M)) d
theorem CR{ob ob':List Ob}(K:eO A 20)(G:A.frames=some outer)(hF:gK outer FL s.heap)(C:∀b∈FL,b∈X/\b∉fG [p0,p1]/\b≠dM/\(hT w.params).get? b=none)(B:cT w s.heap)(O:gc w (bJ X s.heap) [p0,p1] s.heap ob)(t:∀x∈X,(s.heap.get? x).isSome=true)(ht:0<s.toks)
 (h:nY [.obj 0] ob (.none,ob')):codeAny (model pw w) A (.call (.ref 875) ⟨[.ref p0.1],[]⟩) (λr j=>∃e o,r=.error (.ref e)/\j.heap.get? e=some o/\o.cls=.type "StopIteration"/\cT w j.heap/\KG (dM::fG [p0,p1]) FL s j) s:=by
 obtain⟨fd,F,D⟩:∃fd,cK w.params 875 (fm 51 10) iA fd/\(∀vs:List ai,vs.length=iA.length->aJ fd ⟨vs,[]⟩=pure (cq iA vs)):=⟨_,EV _,EW _⟩;have V:=kO (w:=w) (args:=⟨[.ref p0.1],[]⟩) (X:=X) (ts:=[p0,p1]) (s:=s) (ds:=[.obj 0]) (D [.ref p0.1] rfl) (.cons (.obj rfl) .nil);refine fB (k:=19) F K B O t V λenv J s1 a=>?_;have g:eq (A.deeper env) 19:=eO.deeper K;have p:0<s1.toks:=aI ht a.tk;have R:=iy (V2 w [p0,p1]) (cV w) 59;have P:bQ w [p0,p1] L6 MB 6 57:=dQ (V2 w [p0,p1]) (cV w) jS 57;obtain⟨W,st,ln,nl,b,n,ab,st',u,f,d,Z,hW,d,d,d,U⟩:=id h;have e0:=xw h;have m:=MM ⟨W,st',[],u⟩ nl b (((b.length-f.length:Nat)):Int);have l:ob'=i9 ⟨W,st',[],u⟩ nl b (((b.length-f.length:Nat)):Int):=(Prod.mk.inj U).2;rw[<-l] at m;show an (model pw w) (A.deeper env) (execs bX env) _ _ s1;rw[NC];rw[RW];refine bg (am (R.x _ _ _ _ _ e0 (A.deeper env) env J 0 (g.le (by exact aB _ _)) a.e a.hf s1 a.hs p) (λT j p2=>?_) λd d x=>x.elim);obtain⟨I,N,aa,E⟩:=p2.ex;cases T<;>first|exact E.elim|skip
 have H:0<j.toks:=p2.toks p;show an _ _ (execs _ env) _ _ _;refine bg (wpAny_If (am (P.b _ _ _ _ _ m (A.deeper env) env J I (g.le (by exact aB _ _)) a.e j N H) (λc s3 i=>?_) λd d x=>x.elim));obtain rfl:=i.rd;show an _ _ (execs [_] env) _ _ _;refine bg ?_;refine owsi_raiseC g.h (am (iR (x:=S vm) (v:=.type "StopIteration") (Q:=λv y=>v=.type "StopIteration"/\y=s3) a.e i.hs.base (by kernel_rfl) (by kernel_rfl) (.inr (RX w)) ⟨rfl,rfl⟩) (λd d z=>z) λd d z=>z.elim) λh' e Y=>?_;exact CQ G hF C a.newL a.newC a.e a.fr i.hs ((zS a.ks).trans (p2.kq.so.trans i.kp.so)) (aj a.tk (aj p2.kq.toks i.kp.toks)) (λb o e L M=>i.kp.get (p2.kq.get (lC a.ks e) L M (a.nl (cO e)) (a.nc (cO e)) λq=>aK rfl q) L M) Y
end
def gZ:Nat->Option Nat->Int->List Nat->Option (List (List Nat))
 |0,_,_,_=>none
 |n+1,st,ln,x=>match rX st ln x with
  |some (some t,st',a,r)=>(gZ n st' a r).map (t::·)
  |some (none,_,_,_)=>some []
  |none=>none
theorem n6{n:Nat}{st:Option Nat}{ln:Int}{x:List Nat}:gZ (n+1) st ln x=match rX st ln x with
 |some (some t,st',a,r)=>(gZ n st' a r).map (t::·)
 |some (none,_,_,_)=>some []
 |none=>none:=rfl
theorem lQ{Q:ai->af->Prop}{r:Result}{s:af}(h:RV Q r s):∃v,r=.ok (.ret v)/\Q v s:=by rcases r with e|(v|_|_|_)<;>first|exact h.elim|exact⟨_,rfl,h⟩
theorem tZ:∀{x r:List Nat} {m m':Ms},kt m x=some (m',r)->∃k,r=x.drop k/\r.length+k=x.length
 |[],r,m,m',h=>by rw[(AT h).2];exact⟨0,rfl,rfl⟩
 |c::x,r,m,m',h=>by
  rcases AU h with⟨_,e⟩|⟨q,_,h⟩
  .rw[e];exact⟨1,rfl,rfl⟩
  .obtain⟨k,a,b⟩:=tZ h;exact⟨k+1,a,by rw[aC];exact aU _ b⟩
theorem HP{b a:List Nat}{pos:Nat}{st st':Option Nat}{ln d:Int}{e:Option (List Nat)}(j:pos<=b.length)(h:rX st ln (b.drop pos)=some (e,st',d,a)):b.drop (b.length-a.length)=a/\a.length<=b.length:=by obtain⟨⟨m,r⟩,f,g⟩:=Option.map_eq_some_iff.mp h;cases g;obtain⟨k,i,c⟩:=tZ f;rw[List.length_drop] at c;show b.drop (b.length-r.length)=r/\r.length<=b.length;replace c:r.length+k=b.length-pos:=c;refine⟨?_,Zd c⟩;rw[show b.length-r.length=pos+k from Zc j c,<-List.drop_drop,<-i]
def StrsAre(vs:List ai)(ws:List (List Nat)):Prop:=∀g ts,dj g ts vs (ws.map .str)
section
variable{w:aq}{A:aL}{X FL:List Addr}{p0 p1:Addr×Addr}{outer:List Env}{SL:Addr}
abbrev n7(a:Array ai)(c:Nat):Obj:={cls:=.type "list",data:=.seq a c}
theorem q8{h h':Heap}{ob:List Ob}{f:Array ai}{c:Nat}(t:SL∈X)(m:(hT w.params).get? SL=none)(g:h.get? SL=some (n7 f c))(k:∀b,b≠SL->h'.get? b=h.get? b)(j:h'.get? SL≠none)(B:cT w h)(O:gc w (bJ X h) [p0,p1] h ob)(d:∀x∈X,(h.get? x).isSome=true):
 cT w h'/\gc w (bJ X h') [p0,p1] h' ob/\∀x∈X,(h'.get? x).isSome=true:=by
 have A:SL≠dM:=B.notPL g λq=>by cases q
 refine⟨⟨λb o e n=>?_,?_⟩,⟨O.len,λi o p a b=>?_,O.nodup⟩,λx u=>?_⟩
 .rw[k b λq=>by rw[q,m] at e;cases e];exact B.keep b o e n
 .obtain⟨ps,e,l⟩:=B.lam;exact⟨ps,by rw[k _ A.symm];exact e,l⟩
 .have y:=O.each i o p a b;obtain⟨es,n,e,r⟩:=y.dict;have v:p.1≠SL:=λq=>by have:=y.inst;rw[q,g] at this;exact aK (aU Obj.cls (ag this)) (λq=>by cases q)
  have z:p.2≠SL:=λq=>by rw[q,g] at e;exact aK (aU Obj.cls (ag e)) (by show ¬(ai.type "list"=ai.type _);decide)
  refine⟨by rw[k _ v];exact y.inst,⟨es,n,by rw[k _ z];exact e,r.mon λb o e D=>?_⟩,y.new⟩;have C:=bT e;clear e;obtain⟨e,s⟩:=C;exact cc (by rw[k b λq=>s (q▸t)];exact e) s
 .by_cases q:x=SL
  .rw[q];exact kK j
  .rw[k x q];exact d x u
structure RY(w:aq)(X FL:List Addr)(p0 p1:Addr×Addr)(SL:Addr):Prop where
 fl:∀b∈FL,b∈X/\b∉fG [p0,p1]/\b≠dM/\(hT w.params).get? b=none
 sl:SL∈X/\SL∉FL/\SL∉fG [p0,p1]/\SL≠dM/\(hT w.params).get? SL=none
theorem MN{s:af}{ob ob':List Ob}{t:List Nat}(i:eO A 21)(B:cT w s.heap)(O:gc w (bJ X s.heap) [p0,p1] s.heap ob)(c:∀x∈X,(s.heap.get? x).isSome=true)(m:0<s.toks)(d:∃o,ob[0]?=some o/\o.C=878)(b:nY [.obj 0] ob (.str t,ob')):
 an (model pw w) A (pyNext (.ref p0.1)) (λr s1=>∃v,r=some v/\Rd (bJ X s1.heap) [p0,p1] v (.str t)/\cT w s1.heap/\gc w (bJ X s1.heap) [p0,p1] s1.heap ob'/\Kp [p0,p1] s s1) bM s:=by
 obtain⟨o,d,j⟩:=d;have y:=O.each 0 _ p0 d rfl;obtain⟨es,n,l,q⟩:=y.dict;have h:=y.inst;rw[j] at h;obtain⟨fd,F,f⟩:∃fd,cK w.params 875 (fm 51 10) iA fd/\(∀vs:List ai,vs.length=iA.length->aJ fd ⟨vs,[]⟩=pure (cq iA vs)):=⟨_,EV _,EW _⟩;have g:=kO (w:=w) (args:=⟨[.ref p0.1],[]⟩) (X:=X) (ts:=[p0,p1]) (s:=s) (ds:=[.obj 0]) (f [.ref p0.1] rfl) (.cons (.obj rfl) .nil);have a:=kM (k:=6) (V2 w [p0,p1]) (cV w) F (i.le (by decide)) B O c m g (Vj b);refine A1 B h l (wpAny_call (codeAny_mono a λr s1 z=>?_));have p:=lQ z;clear z;obtain⟨v,e,z⟩:=p;rw[e];exact⟨v,rfl,z⟩
theorem MP{s:af}{ob ob':List Ob}(k:eO A 21)(h:A.frames=some outer)(hF:gK outer FL s.heap)(f:∀b∈FL,b∈X/\b∉fG [p0,p1]/\b≠dM/\(hT w.params).get? b=none)(B:cT w s.heap)(O:gc w (bJ X s.heap) [p0,p1] s.heap ob)(c:∀x∈X,(s.heap.get? x).isSome=true)(q:0<s.toks)(d:∃o,ob[0]?=some o/\o.C=878)(a:nY [.obj 0] ob (.none,ob')):
 an (model pw w) A (pyNext (.ref p0.1)) (λr s1=>r=none/\cT w s1.heap/\KG (dM::fG [p0,p1]) FL s s1) bM s:=by
 obtain⟨o,d,l⟩:=d;have y:=O.each 0 _ p0 d rfl;obtain⟨es,n,m,t⟩:=y.dict;have i:=y.inst;rw[l] at i;refine A1 B i m (wpAny_call (codeAny_mono (CR (k.le (by decide)) h hF f B O c q a) λr s1 z=>?_));obtain⟨e,o,j,p,g,z⟩:=z;rw[j];refine wpAny_isInstance (show s1.TypeIs (.ref e) "StopIteration" from⟨o,p,g⟩) owsi_facts.sub ?_;rw[aH rfl];exact⟨rfl,z⟩
theorem xx{s:af}{g:ai}{R:Result->af->Prop}{h:Option ai->af->Prop}(o:an (model pw w) A.in1 (pyNext g) h bM s)(l:∀s1,h none s1->R (.ok (.ret .none)) s1)
 (m:∀v s1,h (some v) s1->∃d c,s1.heap.get? SL=some (n7 d c)/\d.size<=1000000/\∀j h',h'.get? SL=some (n7 (d.push v) j)->(∀b,b≠SL->h'.get? b=s1.heap.get? b)->codeAny (model pw w) A (.builtin "list.extend.loop" ⟨[.ref SL,g,.none],[]⟩) R {s1 with heap:=h'}):
 codeAny (model pw w) A (.builtin "list.extend.loop" ⟨[.ref SL,g,.none],[]⟩) R s:=by
 refine codeAny_builtin PySem.F.entry_extend_loop ?_;rw[aL.under_plainId PySem.F.plain_extend_loop _];refine Oi λQ E k=>?_;show an _ A.in1 (pyNext g>>=_) _ _ s;refine ah (am o (λr s1 z=>?_) λp p z=>z.elim);cases r with
 |none=>exact ay (k _ _ (l s1 z))
 |some v=>
  obtain⟨d,c,i,e,q⟩:=m v s1 z;replace e:d.size<=sizeLine:=by rw[bu];exact aj e (by decide)
  show an _ A.in1 (updateSeq SL (·.push v)>>=_) _ _ _;refine ah (wpAny_updateSeq (f:=λa=>a.push v) i rfl (ay (k _ _ ⟨plainId_quiet PySem.F.plain_extend_loop _,?_⟩)) e (by rw[Array.size_push];exact Nat.succ_le_succ e));exact q _ _ (Heap.get?_update_self (Obj.mapSeq (λa=>a.push v)) i rfl) λb n=>Heap.get?_update_other _ _ n.symm
structure Vl(w:aq)(X FL:List Addr)(p0 p1:Addr×Addr)(SL:Addr)(outer:List Env)(ob:List Ob)(acc:Array ai)(c:Nat)(s:af):Prop where
 B:cT w s.heap
 O:gc w (bJ X s.heap) [p0,p1] s.heap ob
 live:∀x∈X,(s.heap.get? x).isSome=true
 ht:0<s.toks
 hF:gK outer FL s.heap
 hS:s.heap.get? SL=some (n7 acc c)
def RZ(w:aq)(FL:List Addr)(p0 p1:Addr×Addr)(SL:Addr)(words:List (List Nat))(b:Array ai)(s:af)(r:Result)(c:af):Prop:=
 r=.ok (.ret .none)/\cT w c.heap/\KG (SL::dM::fG [p0,p1]) FL s c/\∃a d vs,c.heap.get? SL=some (n7 a d)/\a.toList=b.toList++vs/\StrsAre vs words
theorem MQ{ob:List Ob}{a:Array ai}{c r:Nat}{s s1:af}{v:ai}{h':Heap}(L:RY w X FL p0 p1 SL)(B:cT w s1.heap)(O:gc w (bJ X s1.heap) [p0,p1] s1.heap ob)(j:∀x∈X,(s.heap.get? x).isSome=true)(D:0<s.toks)(p:Kp [p0,p1] s s1)(hF:gK outer FL s.heap)(l:s1.heap.get? SL=some (n7 a c))
 (t:h'.get? SL=some (n7 (a.push v) r))(k:∀b,b≠SL->h'.get? b=s1.heap.get? b):Vl w X FL p0 p1 SL outer ob (a.push v) r {s1 with heap:=h'}/\KG (SL::dM::fG [p0,p1]) FL s {s1 with heap:=h'}:=by
 have u:KG (SL::dM::fG [p0,p1]) FL s s1:=KG.of_kp (λb q=>q.elim (λq=>.tail _ (.tail _ q)) λq=>by rw[q];exact .tail _ (.head _)) (λb m=>⟨(L.fl b m).2.1,(L.fl b m).2.2.1⟩) p;have d:∀x∈X,(s1.heap.get? x).isSome=true:=λx E=>by
  obtain⟨o,C⟩:=ax.mp (j x E);by_cases g:x∈fG [p0,p1]
  .exact(O.dict g).1.elim λes q=>q.elim λn e=>by rw[e];rfl
  .by_cases h:x=dM
   .rw[h];exact B.lam.elim λy q=>by rw[q.1];rfl
   .rw[p.get C g h];rfl
 obtain⟨z,A,f⟩:=q8 L.sl.1 L.sl.2.2.2.2 l k (cO t) B O d;have i:KG (SL::dM::fG [p0,p1]) FL s1 {s1 with heap:=h'}:=⟨_,_,rfl,aF _,λb o e n y=>by rw[k b λq=>n (by rw[q];exact .head _)];exact e,λb o m e y=>⟨o.slots,by rw[k b λq=>L.sl.2.1 (q▸m)];exact e⟩⟩;exact⟨⟨z,A,f,aI D p.toks,(hF.kg u).kg i,t⟩,u.trans i⟩
theorem CS(hA:eO A 22)(H:A.frames=some outer)(L:RY w X FL p0 p1 SL){W b:List Nat}{nl:D}(hW:Mh W)(hb:b.length<=900000)(k:Nat):∀(st:Option Nat) (ln:Int) (pos:Nat) (words:List (List Nat)) (a:Array ai) (c:Nat) (s:af),gZ k st ln (b.drop pos)=some words->pos<=b.length->
 Vl w X FL p0 p1 SL outer (i9 ⟨W,st,[],ln⟩ nl b pos) a c s->a.size+words.length<=1000000->codeAny (model pw w) A (.builtin "list.extend.loop" ⟨[.ref SL,.ref p0.1,.none],[]⟩) (RZ w FL p0 p1 SL words a s) s:=by
 induction k with
 |zero=>exact λi i i i i i i h i i i=>cX h
 |succ k ih=>
  intro st ln pos words a c s h N I J;rw[n6] at h;cases f:rX st ln (b.drop pos) with
  |none=>rw[f] at h;exact cX h
  |some q=>
   obtain⟨l,st',p,j⟩:=q;rw[f] at h;have y:∀d,d=(match l with|some t=>D.str t|none=>D.none)->nY [.obj 0] (i9 ⟨W,st,[],ln⟩ nl b pos) (d,i9 ⟨W,st',[],p⟩ nl b (((b.length-j.length:Nat)):Int)):=λd e=>⟨W,st,ln,nl,b,pos,l,st',p,j,rfl,rfl,hW,hb,N,f,by rw[e];cases l<;>rfl⟩;have P:∃o,(i9 ⟨W,st,[],ln⟩ nl b pos)[0]?=some o/\o.C=878:=⟨_,rfl,rfl⟩;have B:eO A.in1 21:=aL.room1 hA;cases l with
   |none=>
    refine xx (MP B H I.hF L.fl I.B I.O I.live I.ht P (y _ rfl)) (λs1 z=>?_) λv s1 z=>cX z.1.symm;obtain⟨i,F,E⟩:=z;refine⟨rfl,F,?_,a,c,[],?_,(List.append_nil _).symm,λi i=>(ag h)▸.nil⟩
    .exact .mk2 E.so E.toks (λb o e n m=>E.get e (λq=>n (.tail _ q)) m) λb o m e d=>E.fl m e d
    .exact E.get I.hS (λq=>(ao.mp q).elim L.sl.2.2.2.1 L.sl.2.2.1) L.sl.2.1
   |some t=>obtain⟨ws,h1,M⟩:=Option.map_eq_some_iff.mp h;obtain⟨G,aa⟩:=HP N f;rw[<-M,aC] at J;refine xx (MN B I.B I.O I.live I.ht P (y _ rfl)) (λs1 z=>z.elim λv z=>cX z.1) λv s1 z=>?_;obtain⟨v',ev,Q,F,S,O⟩:=z;rw[<-ag ev] at Q;have C:s1.heap.get? SL=some (n7 a c):=O.get I.hS L.sl.2.2.1 L.sl.2.2.2.1;refine⟨a,c,C,aj (ba _ _) J,λU h' Y Z=>?_⟩;obtain⟨R,K⟩:=MQ L F S I.live I.ht O I.hF C Y Z;refine codeAny_mono (ih st' p (b.length-j.length) ws (a.push v) U _ (by rw[G];exact h1) (Nat.sub_le _ _) R (by rw[Array.size_push,Nat.add_assoc,Nat.add_comm 1];exact J)) λr s2 z=>?_;obtain⟨z1,z2,z3,x,T,vs,z4,z5,z6⟩:=z;refine⟨z1,z2,K.trans z3,x,T,v::vs,z4,by rw[z5,Array.toList_push,aR];rfl,λg ts=>?_⟩;obtain⟨u,V,l3⟩:=m9 Q;rw[V,<-M];exact .cons (.str _ _ l3) (z6 g ts)
end
section
variable{w:aq}{A:aL}{X FL:List Addr}{p0 p1:Addr×Addr}{outer:List Env}{s:af}
theorem CT{h:Heap}{L:List Addr}(b:∀x∈L,(h.get? x).isSome=true){a:Addr}(n:h.get? a=none):a∉L:=λq=>by have:=b _ q;rw[n] at this;cases this
theorem CU(hA:eO A 26)(az:A.frames=some outer)(h:∀b∈FL,b∈X/\b∉fG [p0,p1]/\b≠dM/\(hT w.params).get? b=none){W b:List Nat}{nl:D}(hW:Mh W)(M:b.length<=900000){k:Nat}{words:List (List Nat)}(al:gZ k (some 32) 1 b=some words)(hz:words.length<=1000000)
 (B:cT w s.heap)(O:gc w (bJ X s.heap) [p0,p1] s.heap (i9 ⟨W,some 32,[],1⟩ nl b 0))(N:∀x∈X,(s.heap.get? x).isSome=true)(ht:0<s.toks)(hF:gK outer FL s.heap){Q:ai->af->Prop}
 (q:∀SL J c vs s2,s2.heap.get? SL=some (n7 J c)->J.toList=vs->StrsAre vs words->cT w s2.heap->KG (dM::fG [p0,p1]) FL s s2->s.heap.get? SL=none->Q (.ref SL) s2):an (model pw w) A (call (.type "list") [.ref p0.1]) Q bM s:=by
 refine callType_codes (Q₁:=λobj R=>obj=.ref s.heap.objs.size/\R={s with heap:=s.heap.push {cls:=.type "list",data:=.seq #[]}}) PySem.F.called_list (PySem.F.typeCall_list_1 _) PySem.F.entry_list_init
  (code_list_new _ ⟨rfl,rfl⟩) λobj R am=>?_
 obtain⟨rfl,rfl⟩:=am;have G:(s.heap.push {cls:=.type "list",data:=.seq #[]}).get? s.heap.objs.size=some (n7 #[] 0):=aT _ rfl;have nS:s.heap.get? s.heap.objs.size=none:=dJ (aF _);refine⟨⟨_,G,rfl⟩,PySem.F.args_list_init_2 _ _,?_⟩;revert G nS;refine xt s.heap.objs.size λSL au=>?_;intro G nS;have kk:∀b o,s.heap.get? b=some o->(s.heap.push {cls:=.type "list",data:=.seq #[]}).get? b=some o:=λb o e=>aA _ e;revert G kk;refine xr (s.heap.push {cls:=.type "list",data:=.seq #[]}) λI=>?_;intro G kk;have B1:cT w I:=B.keeps kk;have O1:gc w (bJ X I) [p0,p1] I (i9 ⟨W,some 32,[],1⟩ nl b 0):=O.keep kk;have ar:gc w (bJ (SL::X) I) [p0,p1] I (i9 ⟨W,some 32,[],1⟩ nl b 0):=by
  refine⟨O.len,λi o p a b=>?_,O.nodup⟩;have y:=O.each i o p a b;obtain⟨es,n,e,r⟩:=y.dict;refine⟨kk _ _ y.inst,⟨es,n,kk _ _ e,r.mon λb o e g=>?_⟩,y.new⟩;have zq:=bT e;clear e;obtain⟨e,hn⟩:=zq;refine cc (kk _ _ e) λq=>?_;rcases ao.mp q with q|q
  .rw[q,nS] at e;cases e
  .exact hn q
 have Y:∀x∈SL::X,(I.get? x).isSome=true:=λx hx=>by
  rcases ao.mp hx with qq|hx
  .rw[qq];rw[G];rfl
  .obtain⟨o,ho⟩:=ax.mp (N x hx);rw[kk _ _ ho];rfl
 have U:(hT w.params).get? SL=none:=fP B nS;have nP:SL≠dM:=B1.notPL G λq=>by cases q
 have nD:SL∉fG [p0,p1]:=λq=>by obtain⟨⟨es,n,e⟩,g⟩:=O.dict q;rw[nS] at e;cases e
 have nX:SL∉X:=CT N nS;have LO:RY w (SL::X) FL p0 p1 SL:=⟨λb m=>⟨.tail _ (h b m).1,(h b m).2⟩,.head _,λm=>nX (h SL m).1,nD,nP,U⟩;show an (model pw w) A.in1.in1 (do let aL<-Builtin.List.listItems (.ref SL);Builtin.List.listUpdate (.ref SL) (λg=>#[]);letGo aL.toList.reverse;Builtin.List.listExtendWith (.ref SL) (.ref p0.1) .none) _ _ _;refine jR λQ1 k1=>?_;refine ah ?_;unfold Builtin.List.listItems;refine ah (wpAny_seqItems G rfl (ay ?_));show an _ _ (updateSeq SL (λg=>#[])>>=λg=>letGo (#[]:Array ai).toList.reverse>>=λg=>Builtin.List.listExtendWith (.ref SL) (.ref p0.1) .none) _ _ _;refine ah (wpAny_updateSeq G rfl ?_);have j:=Heap.get?_update_self (Obj.mapSeq (λg=>(#[]:Array ai))) G rfl;have C:∀b,b≠SL->(I.update SL (Obj.mapSeq (λg=>(#[]:Array ai)))).get? b=I.get? b:=λb M=>Heap.get?_update_other _ _ M.symm;refine ah (wpAny_letGo ?_);obtain⟨c2,H⟩:∃c2,(I.update SL (Obj.mapSeq (λg=>(#[]:Array ai)))).get? SL=some (n7 #[] c2):=⟨_,j⟩;obtain⟨B2,O2,f⟩:=q8 (.head _) U G C (cO H) B1 ar Y;revert j C H B2 O2 f;refine xr (I.update SL (Obj.mapSeq (λg=>(#[]:Array ai)))) λh2=>?_;intro j C H B2 O2 f;have y2:=O2.each 0 _ p0 rfl rfl;obtain⟨es,n,ac,g⟩:=y2.dict;have aG:SL≠p0.1:=λq=>by have:=y2.inst;rw[<-q,H] at this;exact aK (aU Obj.cls (ag this)) (λq=>by cases q)
 unfold Builtin.List.listExtendWith;refine ah ((gj y2.inst ac).type.here ?_);have e1:Builtin.List.listSameRef (.ref SL) (.ref p0.1)=false:=by simp[Builtin.List.listSameRef,aG]
 have e2:(ai.ref 878==ai.type "list")=false:=by decide
 have e3:(ai.ref 878==ai.type "tuple")=false:=by decide
 simp only[e1,e2,e3,Bool.or_false,Bool.false_eq_true,if_false];obtain⟨fd,F,av⟩:∃fd,cK w.params 868 (fm 51 9) q7 fd/\(∀vs:List ai,vs.length=q7.length->aJ fd ⟨vs,[]⟩=pure (cq q7 vs)):=⟨_,RT _,RU _⟩;have aw:=kO (w:=w) (args:=⟨[.ref p0.1],[]⟩) (X:=SL::X) (ts:=[p0,p1]) (s:={s with heap:=h2}) (ds:=[.obj 0]) (av [.ref p0.1] rfl) (.cons (.obj rfl) .nil);have V:=kM (k:=0) (A:=A.in1.in1) (K:=KB) (s0:={s with heap:=h2}) (ib (w:=w) (ts:=[p0,p1]) (k:=0)) (cV w) F (⟨hA.h,by have:=hA.d;show A.depth+1<_;exact ir this,by have:=hA.u;show A.units+1+1+8*1+35<_;exact ir this⟩) B2 O2 f ht aw (Vi _);refine ah (MJ (s:={s with heap:=h2}) B2 y2.inst ac (wpAny_call (codeAny_mono V λr P z=>?_)));obtain⟨v,rfl,rv,B3,O3,L⟩:=lQ z;have y3:=O3.each 0 _ p0 rfl rfl;obtain⟨Xo,n3,ad,g⟩:=y3.dict;have hv:v=.ref p0.1:=by
  cases rv with
  |obj hp=>cases hp;rfl
 refine⟨hv,⟨B3,y3.inst,Xo,n3,ad⟩,?_⟩;refine ah (wpAny_holding (HO B3 y3.inst ad ?_));rw[aH (show(true||_)=true from Bool.true_or _)];have S:P.heap.get? SL=some (n7 #[] c2):=L.get H nD nP;have Z:∀x∈SL::X,(P.heap.get? x).isSome=true:=λx hx=>by
  obtain⟨o,ho⟩:=ax.mp (f x hx);by_cases ae:x∈fG [p0,p1]
  .obtain⟨⟨es,n,e⟩,g⟩:=O3.dict ae;rw[e];rfl
  .by_cases ak:x=dM
   .subst ak;obtain⟨g,e',g⟩:=B3.lam;rw[e'];rfl
   .rw[L.get (s:={s with heap:=h2}) ho ae ak];rfl
 refine ah (wpAny_rule ?_);refine ah ?_;show an _ _ (updateSeq SL (·.push .none)>>=λg=>updateSeq SL (·.pop)) _ _ _;have z0:(#[]:Array ai).size<=sizeLine:=by rw[bu];decide
 refine ah (wpAny_updateSeq S rfl ?_ z0 (by show 1<=_;rw[bu];decide));have ab:=Heap.get?_update_self (Obj.mapSeq (·.push ai.none)) S rfl;have aq:∀b,b≠SL->(P.heap.update SL (Obj.mapSeq (·.push ai.none))).get? b=P.heap.get? b:=λb M=>Heap.get?_update_other _ _ M.symm;refine wpAny_updateSeq ab rfl ?_ (by show 1<=_;rw[bu];decide) (by show 0<=_;exact Nat.zero_le _);have T:=Heap.get?_update_self (Obj.mapSeq (·.pop)) ab rfl;have E:∀b,b≠SL->((P.heap.update SL (Obj.mapSeq (·.push ai.none))).update SL (Obj.mapSeq (·.pop))).get? b=P.heap.get? b:=λb M=>(Heap.get?_update_other _ _ M.symm).trans (aq b M);obtain⟨c5,u⟩:∃c5,((P.heap.update SL (Obj.mapSeq (·.push ai.none))).update SL (Obj.mapSeq (·.pop))).get? SL=some (n7 #[] c5):=⟨_,T⟩;obtain⟨B5,O5,l⟩:=q8 (.head _) U S E (cO u) B3 O3 Z;revert T E u B5 O5 l;refine xr ((P.heap.update SL (Obj.mapSeq (·.push ai.none))).update SL (Obj.mapSeq (·.pop))) λh5=>?_;intro T E u B5 O5 l;have t:∀b o,s.heap.get? b=some o->b∉fG [p0,p1]->b≠dM->h5.get? b=some o:=λb o e n1 n2=>by
  have nb:b≠SL:=λq=>by rw[q,nS] at e;cases e
  rw[E b nb];exact L.get (s:={s with heap:=h2}) (by show h2.get? b=_;rw[C b nb];exact kk b o e) n1 n2
 obtain⟨h6,aa,rfl,l6,k6⟩:=L;have aD:KG (dM::fG [p0,p1]) FL s {s with heap:=h5,toks:=aa}:=⟨h5,aa,rfl,l6,λb o e n g=>t b o e (λq=>n (.tail _ q)) λq=>n (by rw[q];exact .head _),λb o m e g=>⟨o.slots,t b o e (h b m).2.1 (h b m).2.2.1⟩⟩;refine ay (k1 _ _ ?_);refine⟨plainId_quiet PySem.F.plain_extend_loop _,codeAny_mono (CS (A:=A.in1) (s:={s with heap:=h5,toks:=aa}) ⟨hA.h,by have:=hA.d;show A.depth+22<_;exact ir this,by have:=hA.u;show A.units+1+8*22+35<_;exact ir this⟩ az LO hW M k (some 32) 1 0 words #[] c5 al (Nat.zero_le _) ⟨B5,O5,l,aI ht l6,hF.kg aD,u⟩ (by show 0+_<=_;exact Nat.add_le_add_left hz _)) λr s7 z=>?_⟩;obtain⟨rfl,B7,aE,J,c7,vs,as,aC,aB⟩:=z;have ap:s.heap.get? SL=none:=by first|exact nS|(rw[<-au];exact dJ (aF _))
 refine⟨rfl,q SL J c7 vs s7 as (by rw[aC];rfl) aB B7 ?_ ap⟩;obtain⟨h8,aM,rfl,l8,k8,f8⟩:=aE;refine⟨h8,aM,rfl,aj l6 l8,λb o e n m=>?_,λb o m e d=>f8 b o m (t b o e (h b m).2.1 (h b m).2.2.1) d⟩;refine k8 b o (t b o e (λq=>n (.tail _ q)) λq=>n (by rw[q];exact .head _)) (λq=>?_) m;rcases ao.mp q with q|q
 .rw[q,ap] at e;cases e
 .exact n q
end
abbrev R0:Nm:=[115]
abbrev iI:Nm:=[108,101,120]
abbrev q9:Nm:=[108,105,115,116]
abbrev pz:Nm:=[115,104,108,101,120]
abbrev bS:List Stmt:=bd 52
abbrev nS:Sc:=sn 52
theorem Vm:bS=cu bS 0::cu bS 1::cu bS 2::cu bS 3::cu bS 4::[]:=by kernel_rfl
def zl:Expr:=bV (cu bS 1)
def V3:Keyword:=((TK zl)[0]?).getD ⟨none,zl,zl.pos⟩
def HQ:Expr:=bV (cu bS 4)
theorem Vn:cu bS 1=.Assign [.Name (S iI) (tp (cu bS 1))] (.Call (.Name (S pz) (ep zl 0)) [.Name (S R0) (ep zl 1)] [⟨some (S dq),.Name (S dq) V3.value.pos,V3.pos⟩] zl.pos) (cu bS 1).pos:=by kernel_rfl
theorem Vo:cu bS 4=.Return (some (.Call (.Name (S q9) (ep HQ 0)) [.Name (S iI) (ep HQ 1)] [] HQ.pos)) (cu bS 4).pos:=by kernel_rfl
theorem HR(P:aw)(v:ai):aJ (c9 P 890) ⟨[v],[]⟩=(load 883>>=eT (aJ (c9 P 890) ⟨[v],[]⟩)):=by kernel_rfl
def R1(P:aw):Obj:=((hT P).get? 883).getD ⟨.none,none,.plain,#[]⟩
theorem XR(P:aw):(hT P).get? 883=some (R1 P):=by kernel_rfl
theorem CV(P:aw)(v:ai):eT (aJ (c9 P 890) ⟨[v],[]⟩) (R1 P)=pure (cq tx [v,.bool false,.bool true]):=by kernel_rfl
abbrev xy(x:List Nat):List (Nm×D):=dK tx [.str x,.bool false,.bool true]
theorem MR(x:List Nat):(ex KB MB 59 nS (cu bS 0) ⟨xy x,none,[]⟩).run=some (.next,⟨xy x,none,[]⟩):=by kernel_rfl
theorem MS(x:List Nat):(ex KB MB 57 nS (cu bS 2) ⟨xy x++[(iI,.obj 0)],none,Yz x⟩).run=some (.next,⟨xy x++[(iI,.obj 0)],none,[⟨878,zh ⟨NB,some 32,[],1⟩ true [35]⟩,nT (.str [10]) x 0]⟩):=by kernel_rfl
theorem MT(x:List Nat):(ex KB MB 56 nS (cu bS 3) ⟨xy x++[(iI,.obj 0)],none,[⟨878,zh ⟨NB,some 32,[],1⟩ true [35]⟩,nT (.str [10]) x 0]⟩).run=some (.next,⟨xy x++[(iI,.obj 0)],none,i9 ⟨NB,some 32,[],1⟩ (.str [10]) x 0⟩):=by kernel_rfl
theorem HS(x:List Nat)(ob:List Ob):(St.set ⟨xy x,none,ob⟩ iI (.obj 0))=⟨xy x++[(iI,.obj 0)],none,ob⟩:=by kernel_rfl
theorem HT(w:aq):tX w (S pz)=some (.ref 878):=by kernel_rfl
theorem MU(w:aq):tX w (S q9)=none/\L9 w (S q9)=some (.type "list"):=⟨by kernel_rfl,by kernel_rfl⟩
def ju(x:List Nat):Option (List (List Nat)):=gZ (x.length+2) (some 32) 1 x
theorem b0.grow2{w:aq}{env:Env}{X:List Addr}{oa:Addr}{v:List (Nm×D)}{s s':af}{p0 p1:Addr×Addr}{ob:List Ob}(H:b0 w [] env X oa ⟨v,none,[]⟩ s.heap)(k:Kp [] s s')(B:cT w s'.heap)(O:gc w (bJ X s'.heap) [p0,p1] s'.heap ob)(n0:s.heap.get? p0.2=none)(g:s.heap.get? p1.2=none):
 b0 w [p0,p1] env X oa ⟨v,none,ob⟩ s'.heap:=by
 have b:=H.kp k B (zj w _ _);refine⟨B,λy d e=>?_,λa a a e=>(by cases e),O,b.loc,b.cel,λq=>?_,b.live⟩
 .obtain⟨u,f,r⟩:=b.vars y d e;exact⟨u,f,(r.grow (p:=p0)).grow (p:=p1)⟩
 .obtain⟨m,o,a,a,c,a⟩:=H.loc;rcases ao.mp (show env.locals∈p0.2::[p1.2] from q) with q|q
  .rw[q,n0] at c;cases c
  .rw[az.mp q,g] at c;cases c
section
variable{w:aq}{A:aL}{X FL:List Addr}{outer:List Env}{s:af}
theorem rc{env:Env}{oa:Addr}{st:St}{s1 c:af}{p0 p1:Addr×Addr}(ks:Keeps s s1)(f:Kq env [] oa st s1 c)(n0:c.heap.get? p0.2=none)(g:c.heap.get? p1.2=none)(b:Addr)(d:s.heap.get? b≠none):b∉fG [p0,p1]:=λq=>by
 have a:c.heap.get? b≠none:=f.up b (by
  cases e:s.heap.get? b with
  |none=>exact aK e d
  |some o=>exact cO (lC ks e))
 rcases ao.mp (show b∈p0.2::[p1.2] from q) with q|q
 .rw[q] at a;exact a n0
 .rw[az.mp q] at a;exact a g
theorem zm{f:Ft}{xs:List Nm}{ds:List D}{ob:List Ob}{env:Env}{z:List Addr}{s1 d u v x y:af}{p0 p1:Addr×Addr}{h i j k:Addr}{G H I J:List (Nm×D)}{l m p r:List Ob}(a:wh w [] f xs ds ob X s env z s1)(t:Kq env [] h ⟨G,none,l⟩ s1 d)(A:Kp [] d u)(n0:d.heap.get? p0.2=none)(F:d.heap.get? p1.2=none)
 (B:Kq env [p0,p1] i ⟨H,none,m⟩ u v)(C:Kq env [p0,p1] j ⟨I,none,p⟩ v x)(E:Kq env [p0,p1] k ⟨J,none,r⟩ x y)(b:Addr)(o:Obj)(e:s.heap.get? b=some o)(n:b≠dM):y.heap.get? b=some o:=by
 have g:=cO e;have nl:=a.nl g;have c:=a.nc g;have nd:=rc a.ks t n0 F b g;exact E.get (C.get (B.get (A.get (t.get (lC a.ks e) (by simp[fG]) n nl c λq=>aK rfl q) (by simp[fG]) n) nd n nl c λq=>aK rfl q) nd n nl c λq=>aK rfl q) nd n nl c λq=>aK rfl q
theorem CW{E:Ft}{xs:List Nm}{ds:List D}{ob:List Ob}{env:Env}{C:List Addr}{s1 r:af}{p0 p1:Addr×Addr}{P:Addr}{v6:List (Nm×D)}{x:List Nat}{words:List (List Nat)}(J:A.frames=some outer)(hF:gK outer FL s.heap)(l:∀b∈FL,b∈X/\b≠dM/\(hT w.params).get? b=none)(z:∀x∈X,(s.heap.get? x).isSome=true)
 (j:wh w [] E xs ds ob X s env C s1)(k:b0 w [p0,p1] env C P ⟨v6,none,i9 ⟨NB,some 32,[],1⟩ (.str [10]) x 0⟩ r.heap)(N:0<r.toks)(hA:eO (A.deeper env) 30)(i:∀b,s.heap.get? b≠none->b∉fG [p0,p1])(f:∀b o,s.heap.get? b=some o->b≠dM->r.heap.get? b=some o)(S:So s r)(T:s.toks<=r.toks)
 (hx:x.length<=900000)(hs:ju x=some words)(V:words.length<=1000000):
 an (model pw w) (A.deeper env) (call (.type "list") [.ref p0.1]) (λv R=>Rd (bJ X R.heap) [] v (.list (words.map .str))/\cT w R.heap/\KG [dM] FL s R) bM r:=by
 have hL:br=16777216:=rfl;have u:∀b∈env.locals::FL,b∈C/\b∉fG [p0,p1]/\b≠dM/\(hT w.params).get? b=none:=λb t=>by
  rcases ao.mp t with Q|t
  .rw[Q];exact⟨j.hf.loc,k.off,k.noloc,j.e.newL⟩
  .obtain⟨Y,q2,q3⟩:=l b t;exact⟨j.sub _ Y,i b (zZ (z b Y)),q2,q3⟩
 have F:gK (env::outer) (env.locals::FL) r.heap:=λen p=>by
  rcases ao.mp p with Q|p
  .rw[Q];obtain⟨mL,oL,ac,ab,K,I,zz⟩:=k.loc;exact⟨by rw[j.e.k];exact λq=>(by cases q),env.locals,oL,j.fr,.head _,K,λvs q=>by rw[I] at q;cases q⟩
  .obtain⟨a,L,o,b1,U,d1,e1⟩:=hF en p;exact⟨a,L,o,b1,.tail _ U,f L o d1 (l L U).2.1,e1⟩
 refine CU (X:=C) (FL:=env.locals::FL) (p0:=p0) (p1:=p1) (nl:=.str [10]) (hA.le (by exact aB _ _)) (aL.frames_deeper J) u RA hx hs V k.base k.obs k.live N F λSL aa c vs s9 G h M Z g O=>?_;have H:SL∉X:=λq=>by have:=k.live SL (j.sub _ q);rw[O] at this;cases this
 have B:=M (bJ X s9.heap) [];have y:vs.length=words.length:=by rw[B.length,ak]
 refine⟨.list (cc G H) ?_ (by rw[h];exact B),Z,.mk2 (S.trans g.so) (aj T g.toks) (λb o e n m=>?_) λb o m e d=>g.fl (.tail _ m) (f b o e (l b m).2.1) d⟩
 .rw[<-aM,h,y];exact aj V (aB _ _)
 .have t:=cO e;have W:b≠dM:=λq=>n (by rw[q];exact .head _);refine g.get (f b o e W) (λq=>?_) λq=>?_
  .rcases ao.mp q with q|q
   .exact W q
   .exact i b t q
  .rcases ao.mp q with q|q
   .exact j.nl t q
   .exact m q
theorem rf{u:ai}{x:List Nat}{words:List (List Nat)}(hA:eO A 80)(Z:A.frames=some outer)(hF:gK outer FL s.heap)(O:∀b∈FL,b∈X/\b≠dM/\(hT w.params).get? b=none)(B:cT w s.heap)(j:∀x∈X,(s.heap.get? x).isSome=true)(ht:0<s.toks)(ru:Rd (bJ X s.heap) [] u (.str x))(hx:x.length<=900000)(hs:ju x=some words)(hz:words.length<=1000000):
 codeAny (model pw w) A (.call (.ref 890) ⟨[u],[]⟩) (RV λv J=>Rd (bJ X J.heap) [] v (.list (words.map .str))/\cT w J.heap/\KG [dM] FL s J) s:=by
 have hL:br=16777216:=rfl;obtain⟨fd,F,Q,U⟩:∃fd,cK w.params 890 (ft 52) tx fd/\(∀v,aJ fd ⟨[v],[]⟩=(load 883>>=eT (aJ fd ⟨[v],[]⟩)))/\(∀v,eT (aJ fd ⟨[v],[]⟩) (R1 w.params)=pure (cq tx [v,.bool false,.bool true])):=⟨_,uX _,HR _,CV _⟩;have hb:∀A',an (model pw w) A' (aJ fd ⟨[u],[]⟩) (λbs s1=>∃vs,bs=cq tx vs/\Keeps s s1/\dj (bJ X s1.heap) [] vs [.str x,.bool false,.bool true]) bM s:=λA'=>by refine kZ (Q _) (B.keep _ _ (XR _) (by decide)) ?_;rw[U];exact ay ⟨_,rfl,dc _,.cons ru (.cons (.bool _) (.cons (.bool _) .nil))⟩
 refine zX λR kR=>?_;refine fB (k:=79) F hA B (zj w _ _) j hb λenv K s1 a=>?_;have f:eq (A.deeper env) 79:=eO.deeper hA;have q:0<s1.toks:=aI ht a.tk;refine am (?_:an (model pw w) (A.deeper env) (execs bS env) _ bM s1) (λc c x=>x) (λc c x=>x.elim);rw[Vm];have e0:=MR x;have N:=MS x;have e3:=MT x;rw[Vn,Vo];have M:=iy (ib (w:=w) (ts:=[]) (k:=0)) (cV w) 59;refine bg (am (M.x _ _ _ _ _ e0 (A.deeper env) env K 0 (f.le (by exact Nat.zero_le _)) a.e a.hf s1 a.hs q) (λn J p2=>?_) λc c x=>x.elim);obtain⟨ab,l,ao,V⟩:=p2.ex;cases n<;>first|exact V.elim|skip
 have t:0<J.toks:=p2.toks q;show an _ _ (execs _ env) _ _ _;refine bg (wpAny_Assign_Name ?_ rfl);show an _ _ (eval (.Name (S pz) (ep zl 0)) env>>=λg=>callWith zl.pos g [] (backTo zl.pos (starEach [Expr.Name (S R0) (ep zl 1)] env)) (backToKw zl.pos (keywordEach [⟨some (S dq),.Name (S dq) V3.value.pos,V3.pos⟩] env))) _ _ _;refine ah (iR (x:=S pz) (v:=.ref 878) a.e l.base (by kernel_rfl) (by kernel_rfl) (.inl (HT w)) ?_);rw[show backTo zl.pos (starEach [Expr.Name (S R0) (ep zl 1)] env)=pl [eval (.Name (S R0) (ep zl 1)) env] from rfl];obtain⟨u2,aa,ae⟩:=l.vars R0 (.str x) rfl;obtain⟨b2,P,ad⟩:=l.vars dq (.bool true) rfl;refine HI (Vg w) rfl ?_;refine evalArgs_kw rfl (hG (as:=[eval (.Name (S R0) (ep zl 1)) env]) ?_);refine kv (x:=S R0) (v:=u2) a.e aa (by kernel_rfl) ?_;refine wpAny_evalAll_cons ?_;refine ah (kv (x:=S dq) (v:=b2) a.e P (by kernel_rfl) (ah (wpAny_standAt (ay (wpAny_evalAll_nil ⟨l.base,?_⟩)))));rw[WI ad];show an _ _ (call (.ref 878) [u2] [(S dq,.bool true)]) _ _ _;refine wpAny_call (codeAny_mono (MH (X:=K) (f.one.le (by exact aB _ _)) l.base l.live t ae) λr s3 z=>?_);obtain⟨v3,rfl,p0,p1,rfl,B3,O3,h,n0,n1⟩:=lQ z;have H3:=b0.grow2 l h B3 O3 n0 n1;refine am (hY (x:=iI) (d:=.obj 0) a.e a.hf H3 (by kernel_rfl) (.obj (p:=p0) rfl)) (λc s4 z4=>?_) λc c x=>x;obtain⟨i,H4,ar⟩:=z4;rw[HS] at H4;have y:0<s4.toks:=aI (aI t h.toks) i.kq.toks;have IS:=iy (ib (w:=w) (ts:=[p0,p1]) (k:=0)) (cV w);refine bg (am ((IS 57).x _ _ _ _ _ N (A.deeper env) env K ab (f.le (by exact Nat.zero_le _)) a.e a.hf s4 H4 y) (λn s5 H=>?_) λc c x=>x.elim);obtain⟨ac,H5,ap,W⟩:=H.ex;cases n<;>first|exact W.elim|skip
 have C:0<s5.toks:=H.toks y;refine bg (am ((IS 56).x _ _ _ _ _ e3 (A.deeper env) env K ac (f.le (by exact Nat.zero_le _)) a.e a.hf s5 H5 C) (λn s6 I=>?_) λc c x=>x.elim);obtain⟨al,L,aq,Y⟩:=I.ex;cases n<;>first|exact Y.elim|skip
 have G:∀b,s.heap.get? b≠none->b∉fG [p0,p1]:=rc a.ks p2.kq n0 n1;have m:∀b o,s.heap.get? b=some o->b≠dM->s6.heap.get? b=some o:=zm a p2.kq h n0 n1 i.kq H.kq I.kq;have ag:So s s6:=(zS a.ks).trans (p2.kq.so.trans (h.so.trans (i.kq.so.trans (H.kq.so.trans I.kq.so))));have ak:s.toks<=s6.toks:=aj a.tk (aj p2.kq.toks (aj h.toks (aj i.kq.toks (aj H.kq.toks I.kq.toks))));show an _ _ (execs _ env) _ _ _;refine bg (wpAny_Return_some ?_);show an _ _ (eval (.Name (S q9) (ep HQ 0)) env>>=λg=>callWith HQ.pos g [] (backTo HQ.pos (starEach [Expr.Name (S iI) (ep HQ 1)] env)) (backToKw HQ.pos (keywordEach [] env))) _ _ _;refine ah (iR (x:=S q9) (v:=.type "list") a.e L.base (by kernel_rfl) (by kernel_rfl) (.inr (MU w)) ?_);rw[show backTo HQ.pos (starEach [Expr.Name (S iI) (ep HQ 1)] env)=pl [eval (.Name (S iI) (ep HQ 1)) env] from rfl,iM];refine rK (T:="list") ?_;obtain⟨u6,D,af⟩:=L.vars iI (.obj 0) rfl;have E:u6=.ref p0.1:=by obtain⟨p,e,N⟩:=Yd af;cases e;exact N
 rw[E] at D;refine kv (x:=S iI) (v:=.ref p0.1) a.e D (by kernel_rfl) ?_;exact am (CW Z hF O j a L (I.toks C) (f.one.le (by exact aB _ _)) G m ag ak hx hs hz) (λv s z=>kR (.ok (.ret v)) s z) λc c x=>x
end
section
variable{K:KT}{M:gz}{n:Nat}{sc:Sc}{st st0 st1 st2 st':St}{d d1 d2 r:D}{ob ob':List Ob}{e:Expr}{v:List (Nm×D)}
def UH(e:Expr):Bool:=VU [] (λa a g=>g.2.2.2.1.isEmpty) e
def xm(sc:Sc)(e:Expr)(v:List (Nm×D))(d:D):List (Nm×D):=match e with
 |.ListComp _ b a _=>match ma b with
  |some g=>ee (m5 a.names sc v) (bm g.1) d
  |none=>[]
 |_=>[]
theorem nM(h:UH e=true){w:List (Nm×D)}(i:xm sc e v d=w)(f:(ev K M (n+1) (BS e sc) (ch e 0) ⟨w,none,ob⟩).run=some (r,st')):(bO K M (n+1) sc e v d ob).run=some (some r,st'.ob):=by
 rw[<-i] at f;revert f;refine Uz (G:=λe=>(ev K M (n+1) (BS e sc) (ch e 0) ⟨xm sc e v d,none,ob⟩).run=some (r,st')->(bO K M (n+1) sc e v d ob).run=some (some r,st'.ob)) h λc g b p h f=>?_;replace h:g.2.2.2.1=[]:=List.isEmpty_iff.mp h;rw[h] at f⊢;show((zO K M (n+1) (eh b.names sc) [] ⟨ee (m5 b.names sc v) (bm g.1) d,none,ob⟩).bind λq=>
  T.ask q.1 ((ev K M (n+1) (eh b.names sc) c q.2).bind λr=>T.ret (some r.1,r.2.ob)) (T.ret (none,q.2.ob))).run=_
 rw[bq (a:=(true,⟨ee (m5 b.names sc v) (bm g.1) d,none,ob⟩)) rfl,f9,bP];rw[bq (show(ev K M (n+1) (eh b.names sc) c ⟨ee (m5 b.names sc v) (bm g.1) d,none,ob⟩).run=_ from f)];rfl
abbrev Rg(e:Expr):Prop:=(e,dD (ch e 0),dD (ch e 1))=(.List [ch e 0,ch e 1] e.pos,false,false)
theorem LQ(h:Rg e)(a:(ev K M (n+2) sc (ch e 0) st).run=some (d1,st1))(b:(ev K M (n+1) sc (ch e 1) st1).run=some (d2,st2)):(ev K M (n+4) sc e st).run=some (.list [d1,d2],st2):=by rw[p1 h];show((lh K M (n+3) sc [ch e 0,ch e 1] st).bind λp=>T.chk (decide (p.1.length<=br)) (T.ret (D.list p.1,p.2))).run=_;rw[bq (UE (p1 (p2 h)) (p2 (p2 h)) a b)];rfl
theorem tV{f:D->D->Bool}:∀{l:List D},(∀a∈l,f a a=true)->gM f l l=true
 |[],_=>rfl
 |a::r,h=>by show(f a a&&gM f r r)=true;rw[h a (.head _),tV λb c=>h b (.tail _ c)];rfl
end
def jH(S:rN):KT:=IA.add 890 S
abbrev cQ:Nm:=[112,97,116,116,101,114,110,115]
abbrev fT:Nm:=[114,101,97,100]
abbrev km:Nm:=[100,117,101]
abbrev nO:Nm:=[116,111,108,100]
abbrev sH(i:Nat):Stmt:=sb 71 i
theorem UI:bd 71=sH 0::sH 1::sH 2::sH 3::sH 4::sH 5::sH 6::sH 7::sH 8::[]:=by kernel_rfl
abbrev bH(i:Nat):Stmt:=cu (cP (sH 6)) i
theorem Rh:cP (sH 6)=bH 0::bH 1::bH 2::[]:=by kernel_rfl
theorem Ri:rB (sH 2)=[]:=by kernel_rfl
abbrev VV:Expr:=ch (ch (bV (sH 2)) 1) 1
abbrev IB:Expr:=bV (sH 3)
abbrev C8:Expr:=ch (bV (bH 1)) 1
abbrev LR:Expr:=ch (bV (bH 2)) 1
abbrev VW:Expr:=ch (bV (sH 7)) 1
abbrev VX:Expr:=ch (ch (ch VW 0) 1) 1
abbrev C9:Expr:=ch (bV (sH 8)) 0
abbrev VY:Expr:=ch (bV (sH 8)) 1
section
variable(S:rN)(kd pd rd nd pa rw du to:List D)(kk w:D)(o:Bool)(ob:List Ob)(x:List Nat)
abbrev UJ(kd pd rd:List D):List (Nm×D):=[(eS,.list kd),(cQ,.list pd),(fT,.list rd)]
abbrev AO(kd pd rd nd:List D):List (Nm×D):=[(eS,.list kd),(cQ,.list pd),(fT,.list rd),(gk,.list nd)]
abbrev gQ(kd pd rd nd pa:List D):List (Nm×D):=[(eS,.list kd),(cQ,.list pd),(fT,.list rd),(gk,.list nd),(gX,.list pa)]
def oK(kd pd rd nd pa rw:List D):List (Nm×D):=[(eS,.list kd),(cQ,.list pd),(fT,.list rd),(gk,.list nd),(gX,.list pa),(gH,.list rw)]
def iG:St:=iff o ⟨oK kd pd rd nd pa rw++[(km,.list du),(lK,kk),(fS,w)],some (nO,none,to),ob⟩ ⟨oK kd pd rd nd pa rw++[(km,.list du),(lK,kk),(fS,w),(nO,.list to)],none,ob⟩
def UK:Option (D×D)->St
 |none=>⟨oK kd pd rd nd pa rw++[(km,.list du)],some (nO,none,to),ob⟩
 |some (kk,w)=>iG kd pd rd nd pa rw du to kk w false ob
theorem LS:(ev (jH S) MB 58 (sn 71) (bV (sH 0)) ⟨UJ kd pd rd,none,ob⟩).run=((IA.fn 978 [.list kd] ob).bind λd=>.ret (d.1,(⟨UJ kd pd rd,none,d.2⟩:St))).run:=by kernel_rfl
theorem LT:(ev (jH S) MB 57 (sn 71) (bV (sH 1)) ⟨AO kd pd rd nd,none,ob⟩).run=((IA.fn 985 [.list (cJ rd 0 (fv rd.length (kd.length:Int)))] ob).bind λd=>.ret (d.1,(⟨AO kd pd rd nd,none,d.2⟩:St))).run:=by kernel_rfl
theorem GF:(ev (jH S) MB 54 (sn 71) (ch (bV (sH 2)) 0) ⟨gQ kd pd rd nd pa,none,ob⟩).run=some (.list pa,⟨gQ kd pd rd nd pa,none,ob⟩):=by kernel_rfl
theorem GG:(ev (jH S) MB 53 (sn 71) (ch (ch (bV (sH 2)) 1) 0) ⟨gQ kd pd rd nd pa,none,ob⟩).run=some (.bi .sorted,⟨gQ kd pd rd nd pa,none,ob⟩):=by kernel_rfl
theorem GH:(ev (jH S) MB 51 (sn 71) (ch VV 1) ⟨gQ kd pd rd nd pa,none,ob⟩).run=some (.list nd,⟨gQ kd pd rd nd pa,none,ob⟩):=by kernel_rfl
theorem GI(ys:List D):(bO (jH S) MB 51 (sn 71) VV (gQ kd pd rd nd pa) (.list ys) ob).run=iff (dB ys&&decide ((bA [47] (cS ys)).length+1<=br)) (some (some (.str (bA [47] (cS ys))),ob)) none:=by kernel_rfl
theorem GJ:(ev (jH S) MB 54 (sn 71) (ch IB 1) ⟨gQ kd pd rd nd pa,none,ob⟩).run=some (.list pa,⟨gQ kd pd rd nd pa,none,ob⟩):=by kernel_rfl
theorem GK:xm (sn 71) IB (gQ kd pd rd nd pa) (.str x)=[([112],.str x)]:=by kernel_rfl
theorem GL:(ev (jH S) MB 52 (BS IB (sn 71)) (ch (ch IB 0) 0) ⟨[([112],.str x)],none,ob⟩).run=((IA.fn 159 [.str x] ob).bind λd=>.ret (d.1,(⟨[([112],.str x)],none,d.2⟩:St))).run:=by kernel_rfl
theorem GM:(ev (jH S) MB 51 (BS IB (sn 71)) (ch (ch IB 0) 1) ⟨[([112],.str x)],none,ob⟩).run=some (.str (cj x),⟨[([112],.str x)],none,ob⟩):=by kernel_rfl
theorem LU:(ex (jH S) MB 55 (sn 71) (sH 4) ⟨oK kd pd rd nd pa rw,none,ob⟩).run=some (.next,⟨oK kd pd rd nd pa rw,some (km,none,[]),ob⟩):=by kernel_rfl
theorem LV:(ex (jH S) MB 54 (sn 71) (sH 5) ⟨oK kd pd rd nd pa rw,some (km,none,[]),ob⟩).run=some (.next,UK kd pd rd nd pa rw [] [] ob none):=by kernel_rfl
theorem GN:(ev (jH S) MB 52 (sn 71) (bV (sH 6)) (UK kd pd rd nd pa rw du to ob none)).run=iff (fN 0 (pd.length:Int)) (some (.rng 0 (pd.length:Int),UK kd pd rd nd pa rw du to ob none)) none:=by kernel_rfl
theorem GO(q:Option (D×D))(k:Nat):(ex (jH S) MB 51 (sn 71) (bH 0) ((UK kd pd rd nd pa rw du to ob q).set lK (.int (0+(k:Int))))).run=iff (cL ((kd.length:Int)+(0+(k:Int))) rd.length) (some (.next,iG kd pd rd nd pa rw du to (.int (0+(k:Int))) (rd.getD (gy ((kd.length:Int)+(0+(k:Int))) rd.length) .none) (match q with|none=>true|some _=>false) ob)) none:=by rcases q with _|⟨_,_⟩<;>kernel_rfl
theorem Co:(ev (jH S) MB 48 (sn 71) (ch (bV (bH 1)) 0) (iG kd pd rd nd pa rw du to kk w o ob)).run=some (.list du,iG kd pd rd nd pa rw du to kk w o ob):=by cases o<;>kernel_rfl
theorem Cp:(ev (jH S) MB 46 (sn 71) (ch (ch C8 0) 0) (iG kd pd rd nd pa rw du to kk w o ob)).run=some (.raw 971,iG kd pd rd nd pa rw du to kk w o ob):=by cases o<;>kernel_rfl
theorem Cq:(ev (jH S) MB 45 (sn 71) (ch (ch C8 0) 1) (iG kd pd rd nd pa rw du to kk w o ob)).run=some (.list nd,iG kd pd rd nd pa rw du to kk w o ob):=by cases o<;>kernel_rfl
theorem Cr:(ev (jH S) MB 44 (sn 71) (ch (ch C8 0) 2) (iG kd pd rd nd pa rw du to kk w o ob)).run=((dA (.list pd) kk).bind λd=>.ret (d,iG kd pd rd nd pa rw du to kk w o ob)).run:=by cases o<;>kernel_rfl
theorem Cs:(ev (jH S) MB 44 (sn 71) (ch (ch (ch C8 1) 0) 0) (iG kd pd rd nd pa rw du to kk w o ob)).run=some (.raw 937,iG kd pd rd nd pa rw du to kk w o ob):=by cases o<;>kernel_rfl
theorem Cu:(ev (jH S) MB 43 (sn 71) (ch (ch (ch C8 1) 0) 1) (iG kd pd rd nd pa rw du to kk w o ob)).run=((dA (.list pd) kk).bind λd=>.ret (d,iG kd pd rd nd pa rw du to kk w o ob)).run:=by cases o<;>kernel_rfl
theorem Cv(a:List D):(iG kd pd rd nd pa rw du to kk w o ob).set km (.list a)=iG kd pd rd nd pa rw a to kk w o ob:=by cases o<;>kernel_rfl
theorem Cx:(ev (jH S) MB 47 (sn 71) (ch (bV (bH 2)) 0) (iG kd pd rd nd pa rw du to kk w o ob)).run=some (.list to,iG kd pd rd nd pa rw du to kk w false ob):=by cases o<;>kernel_rfl
theorem Cy:(ev (jH S) MB 45 (sn 71) (ch (ch LR 0) 0) (iG kd pd rd nd pa rw du to kk w false ob)).run=some (.raw 959,iG kd pd rd nd pa rw du to kk w false ob):=by kernel_rfl
theorem Cz:(ev (jH S) MB 44 (sn 71) (ch (ch LR 0) 1) (iG kd pd rd nd pa rw du to kk w false ob)).run=some (w,iG kd pd rd nd pa rw du to kk w false ob):=by kernel_rfl
theorem CA:(ev (jH S) MB 43 (sn 71) (ch (ch LR 0) 2) (iG kd pd rd nd pa rw du to kk w false ob)).run=some (.list rw,iG kd pd rd nd pa rw du to kk w false ob):=by kernel_rfl
theorem CB:(ev (jH S) MB 44 (sn 71) (ch (ch LR 1) 0) (iG kd pd rd nd pa rw du to kk w false ob)).run=some (w,iG kd pd rd nd pa rw du to kk w false ob):=by kernel_rfl
theorem CD(a:List D):(iG kd pd rd nd pa rw du to kk w false ob).set nO (.list a)=iG kd pd rd nd pa rw du a kk w false ob:=by kernel_rfl
theorem GP:(ev (jH S) MB 47 (sn 71) (ch (ch (bV (sH 7)) 0) 0) (iG kd pd rd nd pa rw du to kk w false ob)).run=some (.list to,iG kd pd rd nd pa rw du to kk w false ob):=by kernel_rfl
theorem GQ:(ev (jH S) MB 47 (sn 71) (ch (ch (bV (sH 7)) 0) 1) (iG kd pd rd nd pa rw du to kk w false ob)).run=some (.list du,iG kd pd rd nd pa rw du to kk w false ob):=by kernel_rfl
theorem GR:(ev (jH S) MB 43 (sn 71) (ch (ch (ch (ch VW 0) 1) 0) 0) (iG kd pd rd nd pa rw du to kk w false ob)).run=some (.str [32],iG kd pd rd nd pa rw du to kk w false ob):=by kernel_rfl
theorem GS:(ev (jH S) MB 41 (sn 71) (ch VX 1) (iG kd pd rd nd pa rw du to kk w false ob)).run=some (.list to,iG kd pd rd nd pa rw du to kk w false ob):=by kernel_rfl
theorem GT:(bO (jH S) MB 41 (sn 71) VX (iG kd pd rd nd pa rw du to kk w false ob).v (.str x) ob).run=iff (!x.isEmpty&&decide (x.length<=100000)) (some (some (.str (dt x)),ob)) none:=by kernel_rfl
theorem GU:(ev (jH S) MB 47 (sn 71) (ch C9 1) (iG kd pd rd nd pa rw du to kk w false ob)).run=some (.list pa,iG kd pd rd nd pa rw du to kk w false ob):=by kernel_rfl
theorem GV:(ev (jH S) MB 47 (sn 71) (ch VY 1) (iG kd pd rd nd pa rw du to kk w false ob)).run=some (.list pa,iG kd pd rd nd pa rw du to kk w false ob):=by kernel_rfl
theorem GW:xm (sn 71) C9 (iG kd pd rd nd pa rw du to kk w false ob).v (.str x)=[(gH,.list rw),([112],.str x)]:=by kernel_rfl
theorem GX:(ev (jH S) MB 46 (BS C9 (sn 71)) (ch (ch C9 0) 0) ⟨[(gH,.list rw),([112],.str x)],none,ob⟩).run=some (.raw 959,⟨[(gH,.list rw),([112],.str x)],none,ob⟩):=by kernel_rfl
theorem GY:(ev (jH S) MB 45 (BS C9 (sn 71)) (ch (ch C9 0) 1) ⟨[(gH,.list rw),([112],.str x)],none,ob⟩).run=iff (decide (x.length<=100000)) (some (.str (eZ x),⟨[(gH,.list rw),([112],.str x)],none,ob⟩)) none:=by kernel_rfl
theorem GZ:(ev (jH S) MB 44 (BS C9 (sn 71)) (ch (ch C9 0) 2) ⟨[(gH,.list rw),([112],.str x)],none,ob⟩).run=some (.list rw,⟨[(gH,.list rw),([112],.str x)],none,ob⟩):=by kernel_rfl
theorem G0:(bO (jH S) MB 47 (sn 71) VY (iG kd pd rd nd pa rw du to kk w false ob).v (.str x) ob).run=some (some (.list [.str x]),ob):=by kernel_rfl
end
abbrev rW:=List (List (List bL))
def jF(SP:List Nat->Option (List (List Nat)))(ds:List D):T D:=t1 ds λa=>tS a λs=>(T.opt (SP s)).bind λws=>.ret (.list (ws.map .str))
def bF(ks:List dL):List (List Nat):=dC ((bz ks).map (bA [47]))
def cH(ps:List (List Nat)):List pq:=ps.map λp=>(fE p,cj p)
def UL(a:List (List Nat))(w:List Nat):List (List Nat):=if a=[] then [w] else a
def js(ks:List dL)(ps:List (List bL)):List (List Nat):=UL (nC (bz ks) ps) (dY ps)
def bW(ks:List dL)(pats:rW):List (List Nat):=pats.flatMap (js ks)
structure LW(ks:List dL)(pats:rW)(rd:List (List Nat)):Prop where
 small:(ks.map List.length).sum<100000
 few:(bz ks).length<64
 nlen:∀n∈bz ks,(bA [47] n).length<=1000000
 paths:lM (rd.take ks.length)=some (bF ks)
 plen:∀p∈bF ks,p.length<=1000
 pne:pats≠[]
 pfew:pats.length<=1000
 pok:∀ps∈pats,w6 (bz ks) ps=true/\wY ps=true
 rlen:rd.length=ks.length+pats.length
 told:∀k ps w,pats[k]?=some ps->rd[ks.length+k]?=some w->∃os,i6 5 w (cH (bF ks))=some os/\UL os w=js ks ps
 dfew:(bW ks pats).length<=1000000
 dok:∀w∈bW ks pats,w≠[]/\w.length<=1000
 djoin:(bA [32] ((bW ks pats).map dt)).length<=800000
 back:∀p∈bF ks,i6 5 (eZ p) (cH (bF ks))=some [p]
theorem gY:∀a:List (List Nat),eN (.list (a.map .str))=true
 |[]=>rfl
 |_::r=>gY r
theorem jt(a:List (List Nat)):gB (.list (a.map .str))=some (decide (a≠[])):=by cases a<;>rfl
theorem xn(ks:List dL)(a:rW)(ps:List (List bL)):bW ks (a++[ps])=bW ks a++js ks ps:=by unfold bW;rw[List.flatMap_append,List.flatMap_cons,List.flatMap_nil,List.append_nil]
section
variable{SP:List Nat->Option (List (List Nat))}{ks:List dL}{pats:rW}{rd:List (List Nat)}(H:LW ks pats rd)(ob:List Ob)
abbrev kD(ks:List dL):List D:=ks.map cG
abbrev fa(pats:rW):List D:=pats.map eA
abbrev sD(l:List (List Nat)):List D:=l.map .str
abbrev KS(SP:List Nat->Option (List (List Nat))):KT:=jH (Fp (jF SP))
abbrev wM(ks:List dL)(pats:rW)(rd:List (List Nat))(du to:List (List Nat))(kk w:D)(o:Bool)(ob:List Ob):St:=
 iG (kD ks) (fa pats) (sD rd) (kD (bz ks)) (sD (bF ks)) ((cH (bF ks)).map cb) (sD du) (sD to) kk w o ob
abbrev wH(ks:List dL)(pats:rW)(rd:List (List Nat))(du to:List (List Nat))(ob:List Ob)(q:Option (D×D)):St:=
 UK (kD ks) (fa pats) (sD rd) (kD (bz ks)) (sD (bF ks)) ((cH (bF ks)).map cb) (sD du) (sD to) ob q
include H
theorem CE{k:Nat}{ps:List (List bL)}{w:List Nat}(v:pats[k]?=some ps)(B:rd[ks.length+k]?=some w)(du:List (List Nat))(l:(du++js ks ps).length<=1000000)(q:Option (D×D)):
 (cM (KS SP) MB 52 (sn 71) (cP (sH 6)) ((wH ks pats rd du du ob q).set lK (.int (0+(k:Int))))).run=some (.next,wH ks pats rd (du++js ks ps) (du++js ks ps) ob (some (.int (0+(k:Int)),.str w))):=by
 have J:br=16777216:=rfl;have z:ps∈pats:=List.mem_of_getElem? v;obtain⟨r,y⟩:=H.pok ps z;obtain⟨os,t,u⟩:=H.told k ps w v B;have A:ks.length+k<rd.length:=(aY.mp B).1;refine xt (match q with|none=>true|some _=>false) λo I=>?_;have e0:(ex (KS SP) MB 51 (sn 71) (bH 0) ((wH ks pats rd du du ob q).set lK (.int (0+(k:Int))))).run=some (.next,wM ks pats rd du du (.int (0+(k:Int))) (.str w) o ob):=by
  refine(GO (Fp (jF SP)) (kD ks) (fa pats) (sD rd) (kD (bz ks)) (sD (bF ks)) ((cH (bF ks)).map cb) (sD du) (sD du) ob q k).trans ?_;have g:((kD ks).length:Int)+(0+(k:Int))=((ks.length+k:Nat):Int):=by rw[ak];omega
  have m:(sD rd).getD (gy (((ks.length+k:Nat)):Int) (sD rd).length) D.none=.str w:=by rw[kP (by exact aX _),Int.toNat_natCast,List.getD,List.getElem?_map,B];rfl
  rw[g,m,fI (by exact aX _) (by rw[ak];exact Int.ofNat_lt.mpr A),bP,<-I]
  all_goals (cases q<;>rfl)
 have f:∀st:St,((dA (.list (fa pats)) (.int (0+(k:Int)))).bind λd=>T.ret (d,st)).run=some (eA ps,st):=λst=>by
  have:(dA (.list (fa pats)) (.int (0+(k:Int)))).run=some (eA ps):=by rw[show(0+(k:Int))=(k:Int) from by exact Int.zero_add _];exact eH (by rw[List.getElem?_map,v];rfl)
  rw[bq this];rfl
 have rT:(iw (KS SP) (.raw 971) [.list (kD (bz ks)),eA ps] ob).run=some (.list (sD (nC (bz ks) ps)),ob):=by refine(show(Fp Ua [fJ (bz ks),eA ps] ob).run=_ from ki ?_);show((T.opt (tF (fJ (bz ks)))).bind λks=>(T.opt (oU (eA ps))).bind λps=>T.chk (w6 ks ps) (T.ret (D.list ((nC ks ps).map .str)))).run=_;rw[AF,nA,bq (a:=bz ks) rfl,bq (a:=ps) rfl,ce r];rfl
 have i:(iw (KS SP) (.raw 937) [eA ps] ob).run=some (.str (dY ps),ob):=by refine(show(Fp Qr [eA ps] ob).run=_ from ki ?_);show((T.opt (oU (eA ps))).bind λps=>T.chk (wY ps) (T.ret (D.str (dY ps)))).run=_;rw[nA,bq (a:=ps) rfl,ce y];rfl
 have F:∀o,(ev (KS SP) MB 48 (sn 71) C8 (wM ks pats rd du du (.int (0+(k:Int))) (.str w) o ob)).run=some (.list (sD (js ks ps)),wM ks pats rd du du (.int (0+(k:Int))) (.str w) o ob):=λo=>by
  have g:=mJ (K:=KS SP) (M:=MB) (n:=43) (e:=ch C8 0) (sc:=sn 71) (by kernel_rfl) (Cp (Fp (jF SP)) (kD ks) (fa pats) (sD rd) (kD (bz ks)) (sD (bF ks)) ((cH (bF ks)).map cb) (sD du) (sD du) (.int (0+(k:Int))) (.str w) o ob)
   (Cq (Fp (jF SP)) _ _ _ _ _ _ _ _ _ _ o ob) ((Cr (Fp (jF SP)) _ _ _ _ _ _ _ _ _ _ o ob).trans (f _)) (ob':=ob) (by cases o<;>exact rT)
  have j:(ev (KS SP) MB 47 (sn 71) (ch C8 0) (wM ks pats rd du du (.int (0+(k:Int))) (.str w) o ob)).run=some (.list (sD (nC (bz ks) ps)),wM ks pats rd du du (.int (0+(k:Int))) (.str w) o ob):=by refine g.trans ?_;cases o<;>rfl
  unfold js UL;by_cases c:nC (bz ks) ps=[]
  .rw[aH c];have m:=xj (K:=KS SP) (M:=MB) (n:=42) (e:=ch (ch C8 1) 0) (sc:=sn 71) (by kernel_rfl) (Cs (Fp (jF SP)) (kD ks) (fa pats) (sD rd) (kD (bz ks)) (sD (bF ks)) ((cH (bF ks)).map cb) (sD du) (sD du) (.int (0+(k:Int))) (.str w) o ob)
    ((Cu (Fp (jF SP)) _ _ _ _ _ _ _ _ _ _ o ob).trans (f _)) (ob':=ob) (by cases o<;>exact i)
   have p:=AN (n:=44) (e:=ch C8 1) (by kernel_rfl) m;refine(AM (n:=47) (e:=C8) (by kernel_rfl) j (by rw[jt,c];rfl) p).trans ?_;cases o<;>rfl
  .rw[av c];exact Ny (n:=47) (e:=C8) (by kernel_rfl) j (by rw[jt,ac c])
 have C:(ex (KS SP) MB 50 (sn 71) (bH 1) (wM ks pats rd du du (.int (0+(k:Int))) (.str w) o ob)).run=some (.next,wM ks pats rd (du++js ks ps) du (.int (0+(k:Int))) (.str w) o ob):=by have h:=zf (n:=48) (e:=bV (bH 1)) (op:=.Add) (by kernel_rfl) (Co (Fp (jF SP)) (kD ks) (fa pats) (sD rd) (kD (bz ks)) (sD (bF ks)) ((cH (bF ks)).map cb) (sD du) (sD du) (.int (0+(k:Int))) (.str w) o ob) (F o) (nK (by rw[ae] at l;exact l));have:=jB (s:=bH 1) (x:=km) (by kernel_rfl) h;rw[Cv] at this;exact this
 have vg:(iw (KS SP) (.raw 959) [.str w,.list ((cH (bF ks)).map cb)] ob).run=some (.list (sD os),ob):=by refine(show(Fp (vh 5) [.str w,.list ((cH (bF ks)).map cb)] ob).run=_ from ki (qW t))
 have G:∀b,(ev (KS SP) MB 47 (sn 71) LR (wM ks pats rd b du (.int (0+(k:Int))) (.str w) false ob)).run=some (.list (sD (js ks ps)),wM ks pats rd b du (.int (0+(k:Int))) (.str w) false ob):=λb=>by
  have g:=mJ (K:=KS SP) (M:=MB) (n:=42) (e:=ch LR 0) (sc:=sn 71) (by kernel_rfl) (Cy (Fp (jF SP)) (kD ks) (fa pats) (sD rd) (kD (bz ks)) (sD (bF ks)) ((cH (bF ks)).map cb) (sD b) (sD du) (.int (0+(k:Int))) (.str w) ob)
   (Cz (Fp (jF SP)) _ _ _ _ _ _ _ _ _ _ ob) (CA (Fp (jF SP)) _ _ _ _ _ _ _ _ _ _ ob) (ob':=ob) vg
  rw[<-u];unfold UL;by_cases c:os=[]
  .rw[aH c];have p:=AN (n:=43) (e:=ch LR 1) (by kernel_rfl) (CB (Fp (jF SP)) (kD ks) (fa pats) (sD rd) (kD (bz ks)) (sD (bF ks)) ((cH (bF ks)).map cb) (sD b) (sD du) (.int (0+(k:Int))) (.str w) ob);exact AM (n:=46) (e:=LR) (by kernel_rfl) g (by rw[jt,c];rfl) p
  .rw[av c];exact Ny (n:=46) (e:=LR) (by kernel_rfl) g (by rw[jt,ac c])
 have E:(ex (KS SP) MB 49 (sn 71) (bH 2) (wM ks pats rd (du++js ks ps) du (.int (0+(k:Int))) (.str w) o ob)).run=some (.next,wM ks pats rd (du++js ks ps) (du++js ks ps) (.int (0+(k:Int))) (.str w) false ob):=by have h:=zf (n:=47) (e:=bV (bH 2)) (op:=.Add) (by kernel_rfl) (Cx (Fp (jF SP)) (kD ks) (fa pats) (sD rd) (kD (bz ks)) (sD (bF ks)) ((cH (bF ks)).map cb) (sD (du++js ks ps)) (sD du) (.int (0+(k:Int))) (.str w) o ob) (G _) (nK (by rw[ae] at l;exact l));have:=jB (s:=bH 2) (x:=nO) (by kernel_rfl) h;rw[CD] at this;exact this
 rw[Rh,bk e0,bk C,bk E];rfl
theorem qX:∀(m k:Nat) (q:Option (D×D)),k+m=pats.length->
 ∃a,(dS (λd st=>cM (KS SP) MB 52 (sn 71) (cP (sH 6)) (st.set lK d)) ((List.range' k m).map λ(k:Nat)=>.int (0+(k:Int))) (wH ks pats rd (bW ks (pats.take k)) (bW ks (pats.take k)) ob q)).run=some (.next,wH ks pats rd (bW ks pats) (bW ks pats) ob a)/\(0<m->a≠none)
 |0,k,q,h=>⟨q,by rw[List.take_of_length_le (by exact aO h.symm)];rfl,λh=>aK h (Nat.lt_irrefl 0)⟩
 |m+1,k,q,h=>by
  have j:k<pats.length:=by exact ir (aO h)
  have e:pats[k]?=some pats[k]:=aD j;have n:rd[ks.length+k]?=some (rd[ks.length+k]'(by rw[H.rlen];exact ir (aO h))):=aD _;have i:pats.take (k+1)=pats.take k++[pats[k]]:=by rw[List.take_succ,e];rfl
  have l:(bW ks (pats.take k)++js ks pats[k]).length<=1000000:=by
   rw[<-xn,<-i];refine aj ?_ H.dfew;have:bW ks pats=bW ks (pats.take (k+1))++bW ks (pats.drop (k+1)):=by unfold bW;rw[<-List.flatMap_append,List.take_append_drop]
   rw[this,ae];exact ba _ _
  have c:=CE (SP:=SP) H ob e n (bW ks (pats.take k)) l q;rw[<-xn,<-i] at c;obtain⟨a,g,r⟩:=qX m (k+1) (some (.int (0+(k:Int)),.str (rd[ks.length+k]'(by rw[H.rlen];exact ir (aO h))))) (by exact by rw[Nat.succ_add];exact h);refine⟨a,?_,λr f=>?_⟩
  .rw[List.range'_succ,List.map_cons,nF c (.inl rfl)];exact g
  .cases m with
   |zero=>subst f;have b:=g;rw[show List.range' (k+1) 0=[] from rfl] at b;have:=aU (λo=>o.map λp:dN×St=>p.2.ow) b;exact nomatch this
   |succ m=>exact(by assumption:0<m+1->a≠none) (Nat.succ_pos _) f
theorem G1:(ex (KS SP) MB 59 (sn 71) (sH 0) ⟨dK oF [.list (kD ks),.list (fa pats),.list (sD rd)],none,ob⟩).run=some (.next,⟨AO (kD ks) (fa pats) (sD rd) (kD (bz ks)),none,ob⟩)/\
 (ex (KS SP) MB 58 (sn 71) (sH 1) ⟨AO (kD ks) (fa pats) (sD rd) (kD (bz ks)),none,ob⟩).run=some (.next,⟨gQ (kD ks) (fa pats) (sD rd) (kD (bz ks)) (sD (bF ks)),none,ob⟩):=by
 have c:(IA.fn 978 [.list (kD ks)] ob).run=some (.list (kD (bz ks)),ob):=by refine(show(Fp Ue [fJ ks] ob).run=_ from ki ?_);show((T.opt (tF (fJ ks))).bind λks=>T.chk (decide ((ks.map List.length).sum<100000)) (T.ret (fJ (bz ks)))).run=_;rw[AF,bq (a:=ks) rfl,ce (ac H.small)];rfl
 have e0:=jB (K:=KS SP) (M:=MB) (s:=sH 0) (x:=gk) (by kernel_rfl) ((LS (Fp (jF SP)) (kD ks) (fa pats) (sD rd) ob).trans ((bq c).trans rfl));have e:cJ (sD rd) 0 (fv (sD rd).length ((kD ks).length:Int))=sD (rd.take ks.length):=by unfold cJ fv;have:=H.rlen;rw[av (by exact mX _),ak,ak,List.drop_zero,show min ((ks.length:Int)).toNat rd.length=ks.length from Zf _ (by rw[H.rlen];exact ba _ _)];exact List.map_take.symm
 have d:(IA.fn 985 [.list (cJ (sD rd) 0 (fv (sD rd).length ((kD ks).length:Int)))] ob).run=some (.list (sD (bF ks)),ob):=by rw[e];refine(show(Fp Ur [.list (sD (rd.take ks.length))] ob).run=_ from ki ?_);show(T.chk (dB (sD (rd.take ks.length))) ((T.opt (lM (cS (sD (rd.take ks.length))))).bind λb=>T.ret (D.list (b.map .str)))).run=_;rw[ce (dX _),eD,H.paths];rfl
 have f:=jB (K:=KS SP) (M:=MB) (s:=sH 1) (x:=gX) (by kernel_rfl) ((LT (Fp (jF SP)) (kD ks) (fa pats) (sD rd) (kD (bz ks)) ob).trans ((bq d).trans rfl));exact⟨e0,f⟩
theorem Rj:(ex (KS SP) MB 57 (sn 71) (sH 2) ⟨gQ (kD ks) (fa pats) (sD rd) (kD (bz ks)) (sD (bF ks)),none,ob⟩).run=some (.next,⟨gQ (kD ks) (fa pats) (sD rd) (kD (bz ks)) (sD (bF ks)),none,ob⟩):=by
 have k:br=16777216:=rfl;have h:(dv (bO (KS SP) MB 51 (sn 71) VV (gQ (kD ks) (fa pats) (sD rd) (kD (bz ks)) (sD (bF ks)))) (kD (bz ks)) ob).run=some (sD ((bz ks).map (bA [47])),ob):=by
  rw[cY (g:=λd=>match ii d with|some n=>.str (bA [47] n)|none=>.none)]
  .unfold kD sD;rw[aQ,aQ];congr 2;refine List.map_congr_left λn l=>?_;show(match ii (cG n) with|some n=>D.str (bA [47] n)|none=>.none)=_;rw[iC];rfl
  .intro d c;obtain⟨n,i,rfl⟩:=aE.mp c;refine(GI (Fp (jF SP)) (kD ks) (fa pats) (sD rd) (kD (bz ks)) (sD (bF ks)) ob (n.map .str)).trans ?_;have:=H.nlen n i;rw[dX,eD,ac (by exact aj (Nat.succ_le_succ this) (by decide))];show _=some (some (match ii (cG n) with|some n=>D.str (bA [47] n)|none=>.none),ob);rw[iC];rfl
 have f:=i0 (K:=KS SP) (M:=MB) (n:=51) (e:=VV) (sc:=sn 71) (by kernel_rfl) (GH (Fp (jF SP)) (kD ks) (fa pats) (sD rd) (kD (bz ks)) (sD (bF ks)) ob) rfl h;have j:(iw (KS SP) (.bi .sorted) [.list (sD ((bz ks).map (bA [47])))] ob).run=some (.list (sD (bF ks)),ob):=by
  refine(show((Dr .sorted [.list (sD ((bz ks).map (bA [47])))]).bind λr=>T.ret (r,ob)).run=_ from ?_);have:(Dr .sorted [.list (sD ((bz ks).map (bA [47])))]).run=some (.list (sD (bF ks))):=by show(T.chk (dB (sD ((bz ks).map (bA [47])))&&decide ((sD ((bz ks).map (bA [47]))).length<64)) (T.ret (D.list ((dC (cS (sD ((bz ks).map (bA [47]))))).map .str)))).run=_;have:=H.few;rw[ce (by rw[dX,ak,ak,ac this];rfl),eD];rfl
  rw[bq this];rfl
 have b:=xj (n:=51) (e:=ch (bV (sH 2)) 1) (by kernel_rfl) (GG (Fp (jF SP)) (kD ks) (fa pats) (sD rd) (kD (bz ks)) (sD (bF ks)) ob) f j;have a:=AL (n:=54) (e:=bV (sH 2)) (op:=.NotEq) (by kernel_rfl) (by kernel_rfl) (GF (Fp (jF SP)) (kD ks) (fa pats) (sD rd) (kD (bz ks)) (sD (bF ks)) ob) b (ze (gY _) (gY _));have c:(!deq (.list (sD (bF ks))) (.list (sD (bF ks))))=false:=by
  have:deq (.list (sD (bF ks))) (.list (sD (bF ks)))=true:=by rw[show deq (.list (sD (bF ks))) (.list (sD (bF ks)))=decide (bF ks=bF ks) from kj 4 _ _];exact ac rfl
  rw[this];rfl
 rw[c] at a;have:=fR (s:=sH 2) (by kernel_rfl) a;rw[cU,Ri] at this;exact this
theorem Rk:(ex (KS SP) MB 56 (sn 71) (sH 3) ⟨gQ (kD ks) (fa pats) (sD rd) (kD (bz ks)) (sD (bF ks)),none,ob⟩).run=some (.next,⟨oK (kD ks) (fa pats) (sD rd) (kD (bz ks)) (sD (bF ks)) ((cH (bF ks)).map cb),none,ob⟩):=by
 have b:(dv (bO (KS SP) MB 54 (sn 71) IB (gQ (kD ks) (fa pats) (sD rd) (kD (bz ks)) (sD (bF ks)))) (sD (bF ks)) ob).run=some ((cH (bF ks)).map cb,ob):=by
  rw[cY (g:=λd=>match d with|.str p=>cb (fE p,cj p)|_=>.none)]
  .unfold sD cH;rw[aQ,aQ];rfl
  .intro d c;obtain⟨p,h,rfl⟩:=aE.mp c;have f:(IA.fn 159 [.str p] ob).run=some (.str (fE p),ob):=by show((yO p).bind λd=>T.ret (d,ob)).run=_;rw[bq (qP (aj (H.plen p h) (by decide)))];rfl
   have:=LQ (K:=KS SP) (M:=MB) (n:=50) (e:=ch IB 0) (by kernel_rfl) ((GL (Fp (jF SP)) ob p).trans ((bq f).trans rfl)) (GM (Fp (jF SP)) ob p);exact nM (n:=53) (e:=IB) (by kernel_rfl) (GK (kD ks) (fa pats) (sD rd) (kD (bz ks)) (sD (bF ks)) p) this
 have a:=i0 (K:=KS SP) (M:=MB) (n:=54) (e:=IB) (sc:=sn 71) (by kernel_rfl) (GJ (Fp (jF SP)) (kD ks) (fa pats) (sD rd) (kD (bz ks)) (sD (bF ks)) ob) rfl b;exact jB (s:=sH 3) (x:=gH) (by kernel_rfl) a
theorem Rl:∃kk w,(ex (KS SP) MB 53 (sn 71) (sH 6) (wH ks pats rd [] [] ob none)).run=some (.next,wM ks pats rd (bW ks pats) (bW ks pats) kk w false ob):=by
 have c:=GN (Fp (jF SP)) (kD ks) (fa pats) (sD rd) (kD (bz ks)) (sD (bF ks)) ((cH (bF ks)).map cb) (sD []) (sD []) ob;have g:fN 0 ((fa pats).length:Int)=true:=by have:=H.pfew;rw[ak];exact eY (by exact aX _) (by omega)
 rw[g,bP] at c;obtain⟨b,d,e⟩:=qX (SP:=SP) H ob pats.length 0 none (by exact U4 _);have f:=zb (K:=KS SP) (M:=MB) (s:=sH 6) (x:=lK) (sc:=sn 71) (n:=52) (by kernel_rfl) c (ds:=(List.range' 0 pats.length).map λ(k:Nat)=>.int (0+(k:Int))) (by show some ((List.range (((fa pats).length:Int)-0).toNat).map λ(k:Nat)=>D.int (0+(k:Int)))=_;rw[ak,List.range_eq_range',show((pats.length:Int)-0).toNat=pats.length from by exact Yy _])
 have a:b≠none:=e (by
  have:=H.pne;cases pats with
  |nil=>exact aK rfl this
  |cons=>exact Nat.succ_pos _)
 obtain⟨⟨kk,w⟩,rfl⟩:∃p,b=some p:=by cases b with|none=>exact aK rfl a|some p=>exact⟨p,rfl⟩
 exact⟨kk,w,f.trans d⟩
theorem LX(kk w:D):(eF (KS SP) MB 49 (sn 71) (ch (bV (sH 7)) 0) (wM ks pats rd (bW ks pats) (bW ks pats) kk w false ob)).run=some (false,wM ks pats rd (bW ks pats) (bW ks pats) kk w false ob):=by
 have a:(!deq (.list (sD (bW ks pats))) (.list (sD (bW ks pats))))=false:=by
  have:deq (.list (sD (bW ks pats))) (.list (sD (bW ks pats)))=true:=by rw[show deq (.list (sD (bW ks pats))) (.list (sD (bW ks pats)))=decide (bW ks pats=bW ks pats) from kj 4 _ _];exact ac rfl
  rw[this];rfl
 have b:=AL (K:=KS SP) (M:=MB) (n:=47) (e:=ch (bV (sH 7)) 0) (sc:=sn 71) (op:=.NotEq) (by kernel_rfl) (by kernel_rfl) (GP (Fp (jF SP)) (kD ks) (fa pats) (sD rd) (kD (bz ks)) (sD (bF ks)) ((cH (bF ks)).map cb) (sD (bW ks pats)) (sD (bW ks pats)) kk w ob)
  (GQ (Fp (jF SP)) _ _ _ _ _ _ _ _ _ _ ob) (ze (gY _) (gY _))
 rw[a] at b;exact b
theorem LY(kk w:D):(ev (KS SP) MB 44 (sn 71) (ch (ch VW 0) 1) (wM ks pats rd (bW ks pats) (bW ks pats) kk w false ob)).run=some (.str (bA [32] ((bW ks pats).map dt)),wM ks pats rd (bW ks pats) (bW ks pats) kk w false ob):=by
 have k:br=16777216:=rfl;have j:(dv (bO (KS SP) MB 41 (sn 71) VX (wM ks pats rd (bW ks pats) (bW ks pats) kk w false ob).v) (sD (bW ks pats)) ob).run=some (sD ((bW ks pats).map dt),ob):=by
  rw[cY (g:=λd=>match d with|.str p=>.str (dt p)|_=>.none)]
  .unfold sD;rw[aQ,aQ];rfl
  .intro d f;obtain⟨p,i,rfl⟩:=aE.mp f;obtain⟨b,c⟩:=H.dok p i;refine(GT (Fp (jF SP)) (kD ks) (fa pats) (sD rd) (kD (bz ks)) (sD (bF ks)) ((cH (bF ks)).map cb) (sD (bW ks pats)) (sD (bW ks pats)) kk w ob p).trans (cF ?_ rfl);rw[ac (by exact aj c (aB _ _))];cases p with
   |nil=>exact aK rfl b
   |cons=>rfl
 have a:=i0 (K:=KS SP) (M:=MB) (n:=41) (e:=VX) (sc:=sn 71) (by kernel_rfl) (GS (Fp (jF SP)) (kD ks) (fa pats) (sD rd) (kD (bz ks)) (sD (bF ks)) ((cH (bF ks)).map cb) (sD (bW ks pats)) (sD (bW ks pats)) kk w ob) rfl j;have h:((KS SP).sm [32] fj [.list (sD ((bW ks pats).map dt))]).run=some (.str (bA [32] ((bW ks pats).map dt))):=by have:=H.djoin;exact j3 (by show _+1<=_;exact aS this (by decide))
 exact xk (n:=41) (m:=fj) (e:=ch (ch VW 0) 1) (by kernel_rfl) (GR (Fp (jF SP)) (kD ks) (fa pats) (sD rd) (kD (bz ks)) (sD (bF ks)) ((cH (bF ks)).map cb) (sD (bW ks pats)) (sD (bW ks pats)) kk w ob) a h
theorem Rm(kk w:D):(ex (KS SP) MB 51 (sn 71) (sH 8) (wM ks pats rd (bW ks pats) (bW ks pats) kk w false ob)).run=some (.ret (.bool true),wM ks pats rd (bW ks pats) (bW ks pats) kk w false ob):=by
 have m:(dv (bO (KS SP) MB 47 (sn 71) VY (wM ks pats rd (bW ks pats) (bW ks pats) kk w false ob).v) (sD (bF ks)) ob).run=some ((bF ks).map λp=>.list [.str p],ob):=by
  rw[cY (g:=λd=>.list [d])]
  .unfold sD;rw[aQ];rfl
  .intro d a;obtain⟨p,f,rfl⟩:=aE.mp a;exact G0 (Fp (jF SP)) (kD ks) (fa pats) (sD rd) (kD (bz ks)) (sD (bF ks)) ((cH (bF ks)).map cb) (sD (bW ks pats)) (sD (bW ks pats)) kk w ob p
 have l:(dv (bO (KS SP) MB 47 (sn 71) C9 (wM ks pats rd (bW ks pats) (bW ks pats) kk w false ob).v) (sD (bF ks)) ob).run=some ((bF ks).map λp=>.list [.str p],ob):=by
  rw[cY (g:=λd=>.list [d])]
  .unfold sD;rw[aQ];rfl
  .intro d a;obtain⟨p,f,rfl⟩:=aE.mp a;have h:=(GY (Fp (jF SP)) ((cH (bF ks)).map cb) ob p).trans (cF (ac (aj (H.plen p f) (by decide))) rfl);have vg:(iw (KS SP) (.raw 959) [.str (eZ p),.list ((cH (bF ks)).map cb)] ob).run=some (.list [.str p],ob):=
    (show(Fp (vh 5) [.str (eZ p),.list ((cH (bF ks)).map cb)] ob).run=_ from ki (qW (H.back p f)))
   have:=mJ (K:=KS SP) (M:=MB) (n:=43) (e:=ch C9 0) (by kernel_rfl) (GX (Fp (jF SP)) ((cH (bF ks)).map cb) ob p) h (GZ (Fp (jF SP)) ((cH (bF ks)).map cb) ob p) vg;exact nM (n:=46) (e:=C9) (by kernel_rfl) (GW (kD ks) (fa pats) (sD rd) (kD (bz ks)) (sD (bF ks)) ((cH (bF ks)).map cb) (sD (bW ks pats)) (sD (bW ks pats)) kk w ob p) this
 have j:=i0 (K:=KS SP) (M:=MB) (n:=47) (e:=C9) (sc:=sn 71) (by kernel_rfl) (GU (Fp (jF SP)) (kD ks) (fa pats) (sD rd) (kD (bz ks)) (sD (bF ks)) ((cH (bF ks)).map cb) (sD (bW ks pats)) (sD (bW ks pats)) kk w ob) rfl l;have k:=i0 (K:=KS SP) (M:=MB) (n:=47) (e:=VY) (sc:=sn 71) (by kernel_rfl) (GV (Fp (jF SP)) (kD ks) (fa pats) (sD rd) (kD (bz ks)) (sD (bF ks)) ((cH (bF ks)).map cb) (sD (bW ks pats)) (sD (bW ks pats)) kk w ob) rfl m;have b:eN (.list ((bF ks).map λp=>.list [.str p]))=true:=lT λd a=>by obtain⟨p,o,rfl⟩:=aE.mp a;rfl
 have c:deq (.list ((bF ks).map λp=>.list [.str p])) (.list ((bF ks).map λp=>.list [.str p]))=true:=tV λd a=>by obtain⟨p,o,rfl⟩:=aE.mp a;show(cr p p&&true)=true;rw[g7];rfl
 have i:=GD (n:=48) (e:=bV (sH 8)) (op:=.Eq) (by kernel_rfl) (by kernel_rfl) j k (GE b b);rw[c] at i;exact Fv (s:=sH 8) (by kernel_rfl) i
end
abbrev CC:Int:=161243136000
def bZ(sc:List Int):List Int:=([279993211,762160,777639012]++sc.take 4).map λx=>x%CC
def eV(sc:List Int):List Nat:=[(yQ sc.sum).toNat]
def kn(o:List Nat):List (List Nat):=[[97],[97,98],[98],[42],[97,42],[46,97],[91,97,93],[105,116,39,115],[97,32,98],[97]++o]
def qY(v:Int)(o:List Nat):dL:=(List.range (v%3+1).toNat).map λk=>(kn o).getD (Fi v k) []
theorem G2(v:Int)(k:Nat):Fi v k<10:=by have:=Aw (v/(3*10^k));exact(Int.toNat_lt' (by decide)).mpr (Int.emod_lt_of_pos _ (by decide))
theorem Rn(v:Int)(o:List Nat):Fj v o=(qY v o).map .str:=by unfold Fj qY;rw[aQ];refine List.map_congr_left λk b=>?_;have h:=G2 v k;have e:fZ o=(kn o).map .str:=rfl;have a:Fi v k<(kn o).length:=h;show(fZ o).getD (Fi v k) .none=.str ((kn o).getD (Fi v k) []);rw[e,List.getD,List.getD,List.getElem?_map,aD a];rfl
def eL(a:dL):List Nat:=[46,47]++bA [47,47] a++[47,120,47,46,46]
def bU(sc:List Int):List dL:=(bZ sc).map λv=>qY v (eV sc)
def cx(sc:List Int):rW:=(bZ sc).map λv=>qG (v/3000) (eV sc)
def bt(sc:List Int):List (List Nat):=(bU sc).map eL++(cx sc).map dY
def gJ(ws:List (List Nat)):List (List Nat):=(List.range ws.length).map λk=>fy (k%3) (ws.getD k [])
abbrev KD:KT:=KS λa=>none
structure G3(sc:List Int):Prop where
 kjoin:∀k∈bU sc,(bA [47,47] k).length<=100000
 pok:∀p∈cx sc,wY p=true
 wok:∀w∈bt sc,w≠[]/\w.length<=100000
 wfew:(bt sc).length<=100000
 sjoin:(bA [32] (gJ (bt sc))).length<=800000
 held:LW (bU sc) (cx sc) (bt sc)
abbrev ij:Nm:=[115,99,114,105,112,116]
abbrev dU:Nm:=[100,114,97,119,115]
abbrev tW:Nm:=[111,100,100]
abbrev sL(i:Nat):Stmt:=sb 72 i
theorem UM:bd 72=sL 0::sL 1::sL 2::sL 3::sL 4::sL 5::sL 6::[]:=by kernel_rfl
abbrev VZ:Expr:=ch (bV (sL 4)) 0
abbrev V0:Expr:=ch (bV (sL 4)) 1
abbrev Db:Expr:=ch (ch (bV (sL 5)) 1) 1
section
variable(sd dr kd pd wd rd:List D)(o x:List Nat)(i:Int)(k:Nat)(d:D)(ob:List Ob)
abbrev l0(sd:List D):List (Nm×D):=[(ij,.list sd)]
abbrev l1(sd dr:List D):List (Nm×D):=[(ij,.list sd),(dU,.list dr)]
abbrev l2(sd dr:List D)(o:List Nat):List (Nm×D):=[(ij,.list sd),(dU,.list dr),(tW,.str o)]
abbrev l3(sd dr:List D)(o:List Nat)(kd:List D):List (Nm×D):=[(ij,.list sd),(dU,.list dr),(tW,.str o),(eS,.list kd)]
abbrev l4(sd dr:List D)(o:List Nat)(kd pd:List D):List (Nm×D):=[(ij,.list sd),(dU,.list dr),(tW,.str o),(eS,.list kd),(cQ,.list pd)]
abbrev l5(sd dr:List D)(o:List Nat)(kd pd wd:List D):List (Nm×D):=[(ij,.list sd),(dU,.list dr),(tW,.str o),(eS,.list kd),(cQ,.list pd),(fA,.list wd)]
abbrev l6(sd dr:List D)(o:List Nat)(kd pd wd rd:List D):List (Nm×D):=[(ij,.list sd),(dU,.list dr),(tW,.str o),(eS,.list kd),(cQ,.list pd),(fA,.list wd),(fT,.list rd)]
theorem G4:(ev KD MB 57 (sn 72) (ch (bV (sL 0)) 1) ⟨l0 sd,none,ob⟩).run=iff (decide (3+(cJ sd 0 (fv sd.length 4)).length<=br)) (some (.list ([.int 279993211,.int 762160,.int 777639012]++cJ sd 0 (fv sd.length 4)),⟨l0 sd,none,ob⟩)) none:=by kernel_rfl
theorem G5:(bO KD MB 57 (sn 72) (bV (sL 0)) (l0 sd) (.int i) ob).run=some (some (.int (i%CC)),ob):=by kernel_rfl
theorem LZ:(ev KD MB 57 (sn 72) (bV (sL 1)) ⟨l1 sd dr,none,ob⟩).run=iff (mY sd) (some (.str [(yQ (pI sd).sum).toNat],⟨l1 sd dr,none,ob⟩)) none:=by kernel_rfl
theorem G6:(ev KD MB 55 (sn 72) (ch (bV (sL 2)) 1) ⟨l2 sd dr o,none,ob⟩).run=some (.list dr,⟨l2 sd dr o,none,ob⟩):=by kernel_rfl
theorem G7:(bO KD MB 55 (sn 72) (bV (sL 2)) (l2 sd dr o) (.int i) ob).run=iff (decide (1+o.length<=br)) (some (some (.list (Fj i o)),ob)) none:=by kernel_rfl
theorem G8:(ev KD MB 54 (sn 72) (ch (bV (sL 3)) 1) ⟨l3 sd dr o kd,none,ob⟩).run=some (.list dr,⟨l3 sd dr o kd,none,ob⟩):=by kernel_rfl
theorem G9:(bO KD MB 54 (sn 72) (bV (sL 3)) (l3 sd dr o kd) (.int i) ob).run=some (some (eA (qG (i/3000) o)),ob):=by kernel_rfl
theorem Ha:(ev KD MB 52 (sn 72) (ch VZ 1) ⟨l4 sd dr o kd pd,none,ob⟩).run=some (.list kd,⟨l4 sd dr o kd pd,none,ob⟩):=by kernel_rfl
theorem Hb(ys:List D):(bO KD MB 52 (sn 72) VZ (l4 sd dr o kd pd) (.list ys) ob).run=iff (dB ys&&decide ((bA [47,47] (cS ys)).length+2<=br)) (iff (decide (2+(bA [47,47] (cS ys)).length<=br)) (iff (decide (([46,47]++bA [47,47] (cS ys)).length+5<=br)) (some (some (.str ([46,47]++bA [47,47] (cS ys)++[47,120,47,46,46])),ob)) none) none) none:=by kernel_rfl
theorem Hc:(ev KD MB 52 (sn 72) (ch V0 1) ⟨l4 sd dr o kd pd,none,ob⟩).run=some (.list pd,⟨l4 sd dr o kd pd,none,ob⟩):=by kernel_rfl
theorem Hd:(bO KD MB 52 (sn 72) V0 (l4 sd dr o kd pd) d ob).run=(((IA.fn 937 [d] ob).bind λr=>.ret (r.1,(⟨[([112],d)],none,r.2⟩:St))).bind λr=>.ret (some r.1,r.2.ob)).run:=by kernel_rfl
theorem Hg:(ev KD MB 50 (sn 72) (ch (ch (ch (bV (sL 5)) 1) 0) 0) ⟨l5 sd dr o kd pd wd,none,ob⟩).run=some (.str [32],⟨l5 sd dr o kd pd wd,none,ob⟩):=by kernel_rfl
theorem Hh:(ev KD MB 48 (sn 72) (ch Db 1) ⟨l5 sd dr o kd pd wd,none,ob⟩).run=iff (fN 0 (wd.length:Int)) (some (.rng 0 (wd.length:Int),⟨l5 sd dr o kd pd wd,none,ob⟩)) none:=by kernel_rfl
theorem Hi:xm (sn 72) Db (l5 sd dr o kd pd wd) (.int i)=[(fA,.list wd),(lK,.int i)]:=by kernel_rfl
theorem Hj:(ev KD MB 47 (BS Db (sn 72)) (ch (ch Db 0) 0) ⟨[(fA,.list wd),(lK,.int i)],none,ob⟩).run=some (.raw 942,⟨[(fA,.list wd),(lK,.int i)],none,ob⟩):=by kernel_rfl
theorem Hk:(ev KD MB 46 (BS Db (sn 72)) (ch (ch Db 0) 1) ⟨[(fA,.list wd),(lK,.int i)],none,ob⟩).run=some (.int (i%3),⟨[(fA,.list wd),(lK,.int i)],none,ob⟩):=by kernel_rfl
theorem Hl:(ev KD MB 45 (BS Db (sn 72)) (ch (ch Db 0) 2) ⟨[(fA,.list wd),(lK,.int i)],none,ob⟩).run=((dA (.list wd) (.int i)).bind λd=>.ret (d,(⟨[(fA,.list wd),(lK,.int i)],none,ob⟩:St))).run:=by kernel_rfl
theorem Hm:(ev KD MB 49 (sn 72) (ch (ch (bV (sL 6)) 0) 0) ⟨l6 sd dr o kd pd wd rd,none,ob⟩).run=some (.list rd,⟨l6 sd dr o kd pd wd rd,none,ob⟩):=by kernel_rfl
theorem Ho:(ev KD MB 49 (sn 72) (ch (ch (bV (sL 6)) 0) 1) ⟨l6 sd dr o kd pd wd rd,none,ob⟩).run=some (.list wd,⟨l6 sd dr o kd pd wd rd,none,ob⟩):=by kernel_rfl
end
section
variable{sc:List Int}(H:G3 sc)(ob:List Ob)
abbrev iD(sc:List Int):List D:=sc.map .int
structure Ro(sc:List Int)(ob:List Ob):Prop where
 d0:(ev KD MB 58 (sn 72) (bV (sL 0)) ⟨l0 (iD sc),none,ob⟩).run=some (.list (iD (bZ sc)),⟨l0 (iD sc),none,ob⟩)
 e0:(ex KD MB 59 (sn 72) (sL 0) ⟨l0 (iD sc),none,ob⟩).run=some (.next,⟨l1 (iD sc) (iD (bZ sc)),none,ob⟩)
 e1:(ex KD MB 58 (sn 72) (sL 1) ⟨l1 (iD sc) (iD (bZ sc)),none,ob⟩).run=some (.next,⟨l2 (iD sc) (iD (bZ sc)) (eV sc),none,ob⟩)
 e2:(ex KD MB 57 (sn 72) (sL 2) ⟨l2 (iD sc) (iD (bZ sc)) (eV sc),none,ob⟩).run=some (.next,⟨l3 (iD sc) (iD (bZ sc)) (eV sc) (kD (bU sc)),none,ob⟩)
 e3:(ex KD MB 56 (sn 72) (sL 3) ⟨l3 (iD sc) (iD (bZ sc)) (eV sc) (kD (bU sc)),none,ob⟩).run=some (.next,⟨l4 (iD sc) (iD (bZ sc)) (eV sc) (kD (bU sc)) (fa (cx sc)),none,ob⟩)
 e4:(ex KD MB 55 (sn 72) (sL 4) ⟨l4 (iD sc) (iD (bZ sc)) (eV sc) (kD (bU sc)) (fa (cx sc)),none,ob⟩).run=some (.next,⟨l5 (iD sc) (iD (bZ sc)) (eV sc) (kD (bU sc)) (fa (cx sc)) (sD (bt sc)),none,ob⟩)
 e5:(ev KD MB 51 (sn 72) (ch (bV (sL 5)) 1) ⟨l5 (iD sc) (iD (bZ sc)) (eV sc) (kD (bU sc)) (fa (cx sc)) (sD (bt sc)),none,ob⟩).run=some (.str (bA [32] (gJ (bt sc))),⟨l5 (iD sc) (iD (bZ sc)) (eV sc) (kD (bU sc)) (fa (cx sc)) (sD (bt sc)),none,ob⟩)
 e6:(ev KD MB 51 (sn 72) (ch (bV (sL 6)) 0) ⟨l6 (iD sc) (iD (bZ sc)) (eV sc) (kD (bU sc)) (fa (cx sc)) (sD (bt sc)) (sD (bt sc)),none,ob⟩).run=some (.bool true,⟨l6 (iD sc) (iD (bZ sc)) (eV sc) (kD (bU sc)) (fa (cx sc)) (sD (bt sc)) (sD (bt sc)),none,ob⟩)
include H
theorem L8:Ro sc ob:=by
 have B:br=16777216:=rfl;have l:cJ (iD sc) 0 (fv (iD sc).length 4)=iD (sc.take 4):=by
  unfold cJ fv;rw[av (by exact mX _),List.drop_zero,ak,show(4:Int).toNat=4 from rfl];by_cases h:4<=sc.length
  .rw[Nat.min_eq_left h];exact List.map_take.symm
  .rw[Nat.min_eq_right (by exact Nat.le_of_not_le h),List.take_of_length_le (by rw[ak];exact aF _),List.take_of_length_le (by exact Nat.le_of_not_le h)]
 have c:=G4 (iD sc) ob;rw[l,ac (by rw[ak,List.length_take];omega),bP] at c;have q:(dv (bO KD MB 57 (sn 72) (bV (sL 0)) (l0 (iD sc))) (iD ([279993211,762160,777639012]++sc.take 4)) ob).run=some (iD (bZ sc),ob):=by
  rw[cY (g:=λd=>match d with|.int i=>.int (i%CC)|_=>.none)]
  .unfold iD bZ;rw[aQ,aQ];rfl
  .intro d b;obtain⟨i,o,rfl⟩:=aE.mp b;exact G5 (iD sc) i ob
 have d0:=i0 (K:=KD) (M:=MB) (n:=57) (e:=bV (sL 0)) (sc:=sn 72) (by kernel_rfl) c (ds:=iD ([279993211,762160,777639012]++sc.take 4)) (by unfold iD;rw[be];rfl) q;have e0:=jB (s:=sL 0) (x:=dU) (by kernel_rfl) d0;have L:=LZ (iD sc) (iD (bZ sc)) ob;rw[xY,bP,xZ] at L;have r:=jB (s:=sL 1) (x:=tW) (by kernel_rfl) L;have t:(dv (bO KD MB 55 (sn 72) (bV (sL 2)) (l2 (iD sc) (iD (bZ sc)) (eV sc))) (iD (bZ sc)) ob).run=some (kD (bU sc),ob):=by
  rw[cY (g:=λd=>match d with|.int i=>cG (qY i (eV sc))|_=>.none)]
  .unfold iD kD bU;rw[aQ,aQ];rfl
  .intro d b;obtain⟨i,o,rfl⟩:=aE.mp b;refine(G7 (iD sc) (iD (bZ sc)) (eV sc) i ob).trans (cF (ac (by show 1+1<=br;exact aB _ _)) ?_);rw[Rn]
 have O:=jB (s:=sL 2) (x:=eS) (by kernel_rfl) (i0 (K:=KD) (M:=MB) (n:=55) (e:=bV (sL 2)) (sc:=sn 72) (by kernel_rfl) (G6 (iD sc) (iD (bZ sc)) (eV sc) ob) rfl t);have u:(dv (bO KD MB 54 (sn 72) (bV (sL 3)) (l3 (iD sc) (iD (bZ sc)) (eV sc) (kD (bU sc)))) (iD (bZ sc)) ob).run=some (fa (cx sc),ob):=by
  rw[cY (g:=λd=>match d with|.int i=>eA (qG (i/3000) (eV sc))|_=>.none)]
  .unfold iD fa cx;rw[aQ,aQ];rfl
  .intro d b;obtain⟨i,o,rfl⟩:=aE.mp b;exact G9 (iD sc) (iD (bZ sc)) (kD (bU sc)) (eV sc) i ob
 have P:=jB (s:=sL 3) (x:=cQ) (by kernel_rfl) (i0 (K:=KD) (M:=MB) (n:=54) (e:=bV (sL 3)) (sc:=sn 72) (by kernel_rfl) (G8 (iD sc) (iD (bZ sc)) (kD (bU sc)) (eV sc) ob) rfl u);have v:(dv (bO KD MB 52 (sn 72) VZ (l4 (iD sc) (iD (bZ sc)) (eV sc) (kD (bU sc)) (fa (cx sc)))) (kD (bU sc)) ob).run=some (sD ((bU sc).map eL),ob):=by
  rw[cY (g:=λd=>match ii d with|some n=>.str (eL n)|none=>.none)]
  .unfold kD sD;rw[aQ,aQ];refine aU (λx=>some (x,ob)) (List.map_congr_left λn o=>?_);show(match ii (cG n) with|some n=>D.str (eL n)|none=>.none)=_;rw[iC];rfl
  .intro d b;obtain⟨n,U,rfl⟩:=aE.mp b;refine(Hb (iD sc) (iD (bZ sc)) (kD (bU sc)) (fa (cx sc)) (eV sc) ob (n.map .str)).trans ?_;have:=H.kjoin n U;show iff (dB (n.map .str)&&_) _ _=some (some (match ii (cG n) with|some n=>D.str (eL n)|none=>.none),ob);rw[iC,dX,eD,ac (by exact k9 (aO B.symm) this),ac (by exact k9 (aO B.symm) this),ac (by rw[ae];show 2+_+5<=_;exact k9 (aO B.symm) this)];rfl
 have w:(dv (bO KD MB 52 (sn 72) V0 (l4 (iD sc) (iD (bZ sc)) (eV sc) (kD (bU sc)) (fa (cx sc)))) (fa (cx sc)) ob).run=some (sD ((cx sc).map dY),ob):=by
  rw[cY (g:=λd=>match oU d with|some p=>.str (dY p)|none=>.none)]
  .unfold fa sD;rw[aQ,aQ];refine aU (λx=>some (x,ob)) (List.map_congr_left λn o=>?_);show(match oU (eA n) with|some p=>D.str (dY p)|none=>.none)=_;rw[nA];rfl
  .intro d b;obtain⟨p,V,rfl⟩:=aE.mp b;refine(Hd (iD sc) (iD (bZ sc)) (kD (bU sc)) (fa (cx sc)) (eV sc) (eA p) ob).trans ?_;have E:(IA.fn 937 [eA p] ob).run=some (.str (dY p),ob):=by refine(show(Fp Qr [eA p] ob).run=_ from ki ?_);show((T.opt (oU (eA p))).bind λps=>T.chk (wY ps) (T.ret (D.str (dY ps)))).run=_;rw[nA,bq (a:=p) rfl,ce (H.pok p V)];rfl
   rw[bY,bY,E];show _=some (some (match oU (eA p) with|some p=>D.str (dY p)|none=>.none),ob);rw[nA];rfl
 have Q:=jB (s:=sL 4) (x:=fA) (by kernel_rfl) (zf (n:=53) (e:=bV (sL 4)) (op:=.Add) (by kernel_rfl)
  (i0 (K:=KD) (M:=MB) (n:=52) (e:=VZ) (sc:=sn 72) (by kernel_rfl) (Ha (iD sc) (iD (bZ sc)) (kD (bU sc)) (fa (cx sc)) (eV sc) ob) rfl v)
  (i0 (K:=KD) (M:=MB) (n:=52) (e:=V0) (sc:=sn 72) (by kernel_rfl) (Hc (iD sc) (iD (bZ sc)) (kD (bU sc)) (fa (cx sc)) (eV sc) ob) rfl w)
  (nK (by have:=H.wfew;unfold bt at this;rw[ae] at this;exact aj this (aB _ _))))
 have f:=Hh (iD sc) (iD (bZ sc)) (kD (bU sc)) (fa (cx sc)) (sD (bt sc)) (eV sc) ob;have N:=H.wfew;rw[show((sD (bt sc)).length:Int)=((bt sc).length:Int) by rw[ak],eY (by exact aX _) (by omega),bP] at f;have y:(dv (bO KD MB 48 (sn 72) Db (l5 (iD sc) (iD (bZ sc)) (eV sc) (kD (bU sc)) (fa (cx sc)) (sD (bt sc)))) ((List.range (((bt sc).length:Int)-0).toNat).map λ(k:Nat)=>.int (0+(k:Int))) ob).run=some (sD (gJ (bt sc)),ob):=by
  rw[lI (a:=((bt sc).length:Int)) (g:=λk=>.str (fy (k%3) ((bt sc).getD k [])))]
  .unfold sD gJ;rw[aQ,show((bt sc).length:Int).toNat=(bt sc).length from by exact Int.toNat_natCast _];rfl
  .intro k S;have I:k<(bt sc).length:=by exact S
   have F:(bt sc)[k]?=some (bt sc)[k]:=aD I;obtain⟨Y,Z⟩:=H.wok _ (List.mem_of_getElem? F);have X:(dA (.list (sD (bt sc))) (.int (0+(k:Int)))).run=some (.str (bt sc)[k]):=by rw[show(0+(k:Int))=(k:Int) from by exact Int.zero_add _];exact eH (by rw[List.getElem?_map,F];rfl)
   have E:(iw KD (.raw 942) [.int ((0+(k:Int))%3),.str (bt sc)[k]] ob).run=some (.str (fy (k%3) (bt sc)[k]),ob):=by
    refine(show(Fp T2 [.int ((0+(k:Int))%3),.str (bt sc)[k]] ob).run=_ from ki ?_);show(T.chk (decide (0<=(0+(k:Int))%3)&&decide ((0+(k:Int))%3<3)&&!(bt sc)[k].isEmpty&&decide ((bt sc)[k].length<=100000)) (T.ret (D.str (fy ((0+(k:Int))%3).toNat (bt sc)[k])))).run=_;have J:(!(bt sc)[k].isEmpty)=true:=by
     cases W:(bt sc)[k] with
     |nil=>exact aK W Y
     |cons=>rfl
    rw[ce (by rw[ac (by omega),ac (by omega),J,ac Z];rfl),show((0+(k:Int))%3).toNat=k%3 from by omega];rfl
   have G:(bt sc).getD k []=(bt sc)[k]:=by rw[List.getD,F];rfl
   rw[G];have:=mJ (K:=KD) (M:=MB) (n:=44) (e:=ch Db 0) (by kernel_rfl) (Hj (sD (bt sc)) (0+(k:Int)) ob) (Hk (sD (bt sc)) (0+(k:Int)) ob) ((Hl (sD (bt sc)) (0+(k:Int)) ob).trans (by rw[bq X];rfl)) E;exact nM (n:=47) (e:=Db) (by kernel_rfl) (Hi (iD sc) (iD (bZ sc)) (kD (bU sc)) (fa (cx sc)) (sD (bt sc)) (eV sc) (0+(k:Int))) this
 have z:=i0 (K:=KD) (M:=MB) (n:=48) (e:=Db) (sc:=sn 72) (by kernel_rfl) f rfl y;have R:(KD.sm [32] fj [.list (sD (gJ (bt sc)))]).run=some (.str (bA [32] (gJ (bt sc)))):=by have:=H.sjoin;exact j3 (by show _+1<=_;exact aS this (by decide))
 have A:=xk (n:=48) (m:=fj) (e:=ch (bV (sL 5)) 1) (by kernel_rfl) (Hg (iD sc) (iD (bZ sc)) (kD (bU sc)) (fa (cx sc)) (sD (bt sc)) (eV sc) ob) z R;have C:deq (.list (sD (bt sc))) (.list (sD (bt sc)))=true:=by rw[show deq (.list (sD (bt sc))) (.list (sD (bt sc)))=decide (bt sc=bt sc) from kj 4 _ _];exact ac rfl
 have j:=GD (K:=KD) (M:=MB) (n:=49) (e:=ch (bV (sL 6)) 0) (sc:=sn 72) (op:=.Eq) (by kernel_rfl) (by kernel_rfl) (Hm (iD sc) (iD (bZ sc)) (kD (bU sc)) (fa (cx sc)) (sD (bt sc)) (sD (bt sc)) (eV sc) ob)
  (Ho (iD sc) (iD (bZ sc)) (kD (bU sc)) (fa (cx sc)) (sD (bt sc)) (sD (bt sc)) (eV sc) ob) (GE (gY _) (gY _))
 rw[C] at j;exact⟨d0,e0,r,O,P,Q,A,j⟩
end
theorem Sq(w:aq)(ts:Tb):fz w ts KD 29:=(Xm w ts).add (λds ob d ob' r=>by refine bv (show((jF (λi=>none) ds).bind λd=>T.ret (d,ob)).run=some (d,ob') from r) λd1 c g=>?_;exact jJ c λa e h=>gF h λx f h=>bv h λws b h=>cX b) (qF (uX _))
section
variable{w:aq}{A:aL}{env:Env}{X FL:List Addr}{oa:Addr}{s s' s0:af}{v:List (Nm×D)}
theorem b0.kg(H:b0 w [] env X oa ⟨v,none,[]⟩ s.heap)(k:KG [dM] FL s s')(B:cT w s'.heap)(L:∀b∈FL,b∈X)(F:∀b∈FL,∃o es ep,s.heap.get? b=some o/\o.data=.dict es ep):b0 w [] env X oa ⟨v,none,[]⟩ s'.heap:=by
 obtain⟨h',tk,rfl,l,y,E⟩:=k;have j:∀{a:Addr} {m:Str->Option ai},s.heap.Ns a m->a≠dM->h'.Ns a m:=λ{a m} ⟨o,es,ep,g,h,I⟩ t=>by
  by_cases i:a∈FL
  .obtain⟨N,e⟩:=E a o i g λvs q=>by rw[h] at q;cases q
   exact⟨_,es,ep,e,h,I⟩
  .exact⟨o,es,ep,y a o g (λq=>t (az.mp q)) i,h,I⟩
 have f:∀{x:Str} {c:Addr} {u:Option ai},env.cells.lookup x=some c->s.heap.IsCell c u->h'.IsCell c u:=λ{x c u} p ⟨o,g,h⟩=>by refine⟨o,y c o g (λq=>(H.nocell p).2 (az.mp q)) λq=>?_,h⟩;obtain⟨J,es,ep,n,d2⟩:=F c q;rw[g] at n;cases n;rw[h] at d2;cases d2
 have D:gT (bJ X s.heap) (bJ X h'):=λa o e c=>by have O:=bT e;clear e;obtain⟨e,t⟩:=O;refine cc (y a o e (λq=>?_) λq=>t (L a q)) t;refine H.base.notPL e ?_ (az.mp q);rcases c with c|c|c|c|c<;>(rw[c];exact λq=>by cases q)
 refine⟨B,λx d e=>?_,λl l l e=>(by cases e),zj w _ _,?_,λx c e=>?_,H.off,λa M=>?_⟩
 .obtain⟨u,A,r⟩:=H.vars x d e;refine⟨u,?_,r.mon D⟩;rcases A with⟨a,m,z,C⟩|⟨a,c,p,C⟩
  .exact .inl ⟨a,m,j z H.noloc,C⟩
  .exact .inr ⟨a,c,p,f p C⟩
 .obtain⟨m,z⟩:=H.loc;exact⟨m,j z H.noloc⟩
 .obtain⟨u,A⟩:=H.cel x c e;exact⟨u,f e A⟩
 .obtain⟨o,g⟩:=ax.mp (H.live a M);by_cases i:a∈FL
  .obtain⟨J,es,ep,n,d2⟩:=F a i;obtain⟨N,e⟩:=E a J i n λvs q=>by rw[d2] at q;cases q
   show(h'.get? a).isSome=true;rw[e];rfl
  .by_cases G:a=dM
   .rw[G];obtain⟨l,K,l⟩:=B.lam;show(h'.get? dM).isSome=true;rw[K];rfl
   .show(h'.get? a).isSome=true;rw[y a o g (λq=>G (az.mp q)) i];rfl
theorem zn{ts:Tb}{K:KT}{M:gz}{k:Nat}{sc:Sc}(i:∀n,jU w ts K M k n)(j:eq A k)(l:bC w env sc)(g:c0 X env){c:List Stmt}{Q:Flow->af->Prop}{st':St}:∀(b:List Stmt) (n:Nat) (st:St) (oa:Addr) (s:af),(cM K M n sc b st).run=some (.next,st')->b0 w ts env X oa st s.heap->0<s.toks->
 (∀d a,b0 w ts env X a st' d.heap->Kq env ts oa st s d->rE oa st s.heap a st'->0<d.toks->an (model pw w) A (execs c env) Q bM d)->an (model pw w) A (execs (b++c) env) Q bM s
 |[],0,_,_,_,h,_,_,_=>nomatch h
 |_::_,0,_,_,_,h,_,_,_=>nomatch h
 |[],n+1,st,oa,s,h,H,e,q=>by cases h;exact q s oa H (Kq.refl _) rE.refl e
 |t::b,n+1,st,oa,s,h,H,e,q=>by
  refine bB h ?_;clear h;intro f st1 u h;cases f<;>first|cases h|skip
  refine bg (am ((i n).x _ _ _ _ _ u A env X oa j l g s H e) (λr s1 p1=>?_) λz z x=>x);obtain⟨oa1,m,f,p⟩:=p1.ex;cases r<;>first|exact p.elim|skip
  exact zn i j l g b n st1 oa1 s1 h m (p1.toks e) λd a o v y t2=>q d a o (p1.kq.trans f v) (f.trans p1.kq.up y) t2
theorem xz(g:KG [dM] FL s0 s)(h:s0.heap.get? env.locals=none)(f:∀x c,env.cells.lookup x=some c->s0.heap.get? c=none){st:St}(a:st.ow=none)(hF:∀b∈FL,b≠dM)(k:Kq env [] oa st s s'):KG [dM] FL s0 s':=by
 have nl:∀b o,s0.heap.get? b=some o->b≠env.locals:=λb o e q=>by rw[q,h] at e;cases e
 have i:∀b o,s0.heap.get? b=some o->∀x c,env.cells.lookup x=some c->b≠c:=λb o e x c l q=>by rw[q,f x c l] at e;cases e
 refine .mk2 (g.so.trans k.so) (aj g.toks k.toks) (λb o e n m=>k.get (g.get e n m) (by simp[fG]) (λq=>n (az.mpr q)) (nl b o e) (i b o e) λq=>aK a q) λb o m e d=>?_;obtain⟨p,j⟩:=g.fl m e d;exact⟨p,k.get j (by simp[fG]) (hF b m) (nl b o e) (i b o e) λq=>aK a q⟩
theorem A2(g:KG [dM] FL s0 s)(hF:∀b∈FL,b≠dM)(k:Kp [] s s'):KG [dM] FL s0 s':=
 g.trans (KG.of_kp (ts:=[]) (λb q=>q.elim (λq=>by simp[fG] at q) λq=>az.mpr q) (λb m=>⟨by simp[fG],hF b m⟩) k)
theorem HU(g:KG [dM] FL s0 s){L:Addr}(a:s0.heap.get? L=none)(k:KG [dM] (L::FL) s s'):KG [dM] FL s0 s':=by
 refine .mk2 (g.so.trans k.so) (aj g.toks k.toks) (λb o e n m=>k.get (g.get e n m) n λq=>?_) λb o m e d=>?_
 .rcases ao.mp q with q|q
  .rw[q,a] at e;cases e
  .exact m q
 .obtain⟨f,c⟩:=g.fl m e d;exact k.fl (o:={o with slots:=f}) (.tail _ m) c d
end
theorem xA(w:aq):tX w (S gS)=some (.ref 890):=by kernel_rfl
def c7:Expr:=ch (bV (sH 7)) 0
def d7:Expr:=ch (bV (sH 7)) 1
def a7:Expr:=ch (ch (ch (bV (sH 7)) 1) 0) 1
theorem R2:sH 7=.If (.BoolOp .Or [c7,.Compare (.Call (.Name (S gS) (ep (ch d7 0) 0)) [a7] [] (ep d7 0)) [.NotEq] [.Name (S km) (ep d7 1)] d7.pos] (bV (sH 7)).pos) (cP (sH 7)) [] (sH 7).pos:=by kernel_rfl
theorem MV:dD a7=false:=by kernel_rfl
section
variable{w:aq}{A:aL}{X FL:List Addr}{outer:List Env}{s:af}
structure A3(w:aq)(X FL:List Addr)(h:Heap):Prop where
 fl:∀b∈FL,b∈X/\b≠dM/\(hT w.params).get? b=none
 dic:∀b∈FL,∃o es ep,h.get? b=some o/\o.data=.dict es ep
theorem A3.kg{X FL:List Addr}{s s':af}(F:A3 w X FL s.heap)(k:KG [dM] FL s s'):A3 w X FL s'.heap:=⟨F.fl,λb a=>by
 obtain⟨o,es,ep,e,d⟩:=F.dic b a;obtain⟨g,t1,rfl,l1,h,f⟩:=k;obtain⟨i,c⟩:=f b o a e λvs q=>by rw[d] at q;cases q
 exact⟨_,es,ep,c,d⟩⟩
theorem A3.cons{c:List Addr}{env:Env}{oa:Addr}{st:St}{h:Heap}(F:A3 w X FL h)(i:∀b∈X,b∈c)(d:c0 c env){sc:Sc}(e:bC w env sc)(H:b0 w [] env c oa st h):A3 w c (env.locals::FL) h:=by
 refine⟨λb a=>?_,λb a=>?_⟩
 .rcases ao.mp a with rfl|a
  .exact⟨d.loc,H.noloc,e.newL⟩
  .exact⟨i _ (F.fl b a).1,(F.fl b a).2⟩
 .rcases ao.mp a with rfl|a
  .obtain⟨m,o,es,ep,g,f,j⟩:=H.loc;exact⟨o,es,ep,g,f⟩
  .exact F.dic b a
theorem gK.cons{env:Env}{oa:Addr}{st:St}{h:Heap}{g:List Addr}(F:gK outer FL h)(l:env.scope.kind=.function)(k:env.frame=some env.locals)(H:b0 w [] env g oa st h):gK (env::outer) (env.locals::FL) h:=λi f=>by
 rcases ao.mp f with p|f
 .rw[p];obtain⟨m,o,es,ep,n,j,r⟩:=H.loc;exact⟨by rw[l];exact λq=>(by cases q),env.locals,o,k,.head _,n,λvs q=>by rw[j] at q;cases q⟩
 .obtain⟨a,L,o,b,c,d,e⟩:=F i f;exact⟨a,L,o,b,.tail _ c,d,e⟩
theorem A3.cons1{c:List Addr}{env:Env}{oa:Addr}{st:St}{h:Heap}(d:c0 c env){sc:Sc}(e:bC w env sc)(H:b0 w [] env c oa st h):A3 w c [env.locals] h:=A3.cons (X:=[]) (FL:=[]) ⟨λb a=>(by cases a),λb a=>(by cases a)⟩ (λb a=>by cases a) d e H
theorem gK.cons1{env:Env}{oa:Addr}{st:St}{h:Heap}{a:List Addr}(d:env.scope.kind=.function)(c:env.frame=some env.locals)(H:b0 w [] env a oa st h):gK [env] [env.locals] h:=gK.cons (outer:=[]) (FL:=[]) (λe b=>by cases b) d c H
abbrev Vp(ks:List dL)(pats:rW)(rd:List (List Nat))(kk w:D):List (Nm×D):=oK (kD ks) (fa pats) (sD rd) (kD (bz ks)) (sD (bF ks)) ((cH (bF ks)).map cb)++[(km,.list (sD (bW ks pats))),(lK,kk),(fS,w),(nO,.list (sD (bW ks pats)))]
theorem CX{ks:List dL}{pats:rW}{rd:List (List Nat)}(H:LW ks pats rd)(ad:ju (bA [32] ((bW ks pats).map dt))=some (bW ks pats))(hA:eO A 120)(ab:A.frames=some outer)(hF:gK outer FL s.heap)(C:A3 w X FL s.heap)(B:cT w s.heap)(L:∀x∈X,(s.heap.get? x).isSome=true)(ht:0<s.toks)
 {Q T U:ai}(ao:dj (bJ X s.heap) [] [Q,T,U] [.list (kD ks),.list (fa pats),.list (sD rd)]):codeAny (model pw w) A (.call (.ref 990) ⟨[Q,T,U],[]⟩) (RV λv P=>v=.bool true/\cT w P.heap/\KG [dM] FL s P) s:=by
 obtain⟨fd,F,Z⟩:∃fd,cK w.params 990 (ft 71) oF fd/\(∀vs:List ai,vs.length=oF.length->aJ fd ⟨vs,[]⟩=pure (cq oF vs)):=⟨_,Fd _,PP _⟩;have D:=kO (w:=w) (args:=⟨[Q,T,U],[]⟩) (X:=X) (ts:=[]) (s:=s) (Z [Q,T,U] rfl) ao;refine zX λR kR=>?_;refine fB (k:=119) F hA B (zj w _ _) L D λenv l s1 a=>?_;have o:eq (A.deeper env) 119:=eO.deeper hA;have f:eq (A.deeper env) 29:=o.le (by exact aB _ _);have ae:0<s1.toks:=aI ht a.tk;have h:∀b∈FL,b≠dM:=λb D=>(C.fl b D).2.1;refine am (?_:an (model pw w) (A.deeper env) (execs (bd 71) env) _ bM s1) (λd d x=>x) (λd d x=>x.elim);obtain⟨kk,j,h6⟩:=Rl (SP:=λd=>none) H [];have E:(cM KD MB 60 (sn 71) [sH 0,sH 1,sH 2,sH 3,sH 4,sH 5,sH 6] ⟨dK oF [.list (kD ks),.list (fa pats),.list (sD rd)],none,[]⟩).run=some (.next,wM ks pats rd (bW ks pats) (bW ks pats) kk j false []):=by refine(bk (G1 (SP:=λd=>none) H []).1).trans ((bk (G1 (SP:=λd=>none) H []).2).trans ((bk (Rj H [])).trans ((bk (Rk H [])).trans ((bk (LU (Fp (jF λd=>none)) _ _ _ _ _ _ [])).trans ((bk (LV (Fp (jF λd=>none)) _ _ _ _ _ _ [])).trans ((bk h6).trans ?_))))));exact AA
 rw[show bd 71=[sH 0,sH 1,sH 2,sH 3,sH 4,sH 5,sH 6]++[sH 7,sH 8] from UI];have IS:=iy (Sq w []) (cV w);have ag:KG [dM] FL s s1:=KG.of_ks a.ks a.tk;refine zn IS f a.e a.hf [sH 0,sH 1,sH 2,sH 3,sH 4,sH 5,sH 6] 60 _ 0 s1 E a.hs ae λP i H2 k2 o2 G=>?_;have ak:KG [dM] FL s P:=xz ag a.newL a.newC rfl h k2;have W:(eF KD MB 49 (sn 71) c7 (wM ks pats rd (bW ks pats) (bW ks pats) kk j false [])).run=_:=LX (SP:=λd=>none) H [] kk j;have Y:(ev KD MB 44 (sn 71) a7 (wM ks pats rd (bW ks pats) (bW ks pats) kk j false [])).run=some (.str (bA [32] ((bW ks pats).map dt)),wM ks pats rd (bW ks pats) (bW ks pats) kk j false []):=LY (SP:=λd=>none) H [] kk j;have h8:=Rm (SP:=λd=>none) H [] kk j;have IE:∀n,bQ w [] KD MB 29 n:=dQ (Sq w []) (cV w) jS;rw[R2];refine bg (wpAny_If (wpAny_isTrue_BoolOp (wpAny_allTrue_Or_cons (am ((IE 49).b _ _ _ _ _ W (A.deeper env) env l i f a.e P H2 G) (λc s3 N=>?_) λd d x=>x))));obtain rfl:=N.rd;have I:=N.toks G;have al:=A2 ak h N.kp;show an _ _ (allTrue .Or _ env) _ _ _;refine wpAny_allTrue_Or_cons (wpAny_isTrue_Compare1 ?_ rfl);show an _ _ (eval (.Name (S gS) (ep (ch d7 0) 0)) env>>=λg=>callWith (ep d7 0) g [] (backTo (ep d7 0) (starEach [a7] env)) (backToKw (ep d7 0) (keywordEach [] env))) _ _ _;refine ah (iR (x:=S gS) (v:=.ref 890) a.e N.hs.base (by kernel_rfl) (by kernel_rfl) (.inl (xA w)) ?_);rw[fx a7 [] MV,show((false,eval a7 env)::starEach [] env)=pl [eval a7 env] from rfl,dP,iM];refine qF (uX w.params) (A.deeper env) (ep d7 0) [] [eval a7 env] s3 _ ?_;refine am ((IE 44).e _ _ _ _ _ Y (A.deeper env) env l i f a.e s3 N.hs I) (λu s4 O=>⟨O.hs.base,?_⟩) λd d x=>x;have J:=O.toks I;have p:=A2 al h O.kp;have t:b0 w [] env l i ⟨Vp ks pats rd kk j,none,[]⟩ s4.heap:=O.hs;have m:A3 w l (env.locals::FL) s4.heap:=(C.kg p).cons a.sub a.hf a.e t;refine wpAny_call (codeAny_mono (rf (X:=l) (FL:=env.locals::FL) (x:=bA [32] ((bW ks pats).map dt)) (words:=bW ks pats) (o.one.le (by exact aB _ _)) (aL.frames_deeper ab) ((hF.kg p).cons a.e.k a.fr t) m.fl t.base t.live J O.rd (aj H.djoin (by decide)) ad H.dfew) λr s9 z=>?_);obtain⟨v9,rfl,ap,B9,q⟩:=lQ z;have H9:=t.kg q B9 (λb D=>(m.fl b D).1) m.dic;obtain⟨vd,af,aq⟩:=H9.vars km (.list (sD (bW ks pats))) (by kernel_rfl);refine kv (x:=S km) (v:=vd) a.e af (by kernel_rfl) ?_;have aa:(lU .NotEq (.list (sD (bW ks pats))) (.list (sD (bW ks pats)))).run=some false:=by rw[ze (gY _) (gY _),show deq (.list (sD (bW ks pats))) (.list (sD (bW ks pats)))=decide (bW ks pats=bW ks pats) from kj 4 _ _,ac rfl];rfl
 refine su (X:=l) (ts:=[]) aa ap aq (by have:=o.u;exact ir this) (wpAny_truthy_bool (wpAny_allTrue_Or_nil ?_));show an _ _ (execs [] env) _ _ _;refine wpAny_execs_nil ?_;have K:KG [dM] FL s s9:=HU p a.newL q;show an _ _ (execs [sH 8] env) _ _ _;refine bg (am ((IS 51).x _ _ _ _ _ h8 (A.deeper env) env l i f a.e a.hf s9 H9 (aI J q.toks)) (λfl as M=>?_) λd d x=>x);obtain⟨ar,V,d,y⟩:=M.ex;cases fl<;>first|exact y.elim|skip
 exact kR (.ok (.ret _)) _ ⟨WI y,V.base,xz K a.newL a.newC rfl h M.kq⟩
end
section
variable{w:aq}{ts:Tb}{K:KT}{M:gz}{k n:Nat}{A:aL}{env:Env}{X:List Addr}{oa:Addr}{sc:Sc}{st st':St}{s:af}
theorem HW(F:∀n,bQ w ts K M k n){c:Int}{kk:Nat}{f z G:Pos}{r:List Expr}{g:Expr}{op:Operator}{d:D}(h:(ev K M (n+4) sc (.BinOp (.List (.Constant (.int c) kk f::r) z) op g G) st).run=some (d,st'))(J:eq A k)(L:bC w env sc)(H:b0 w ts env X oa st s.heap):
 an (model pw w) A (eval (.BinOp (.List (.Constant (.int c) kk f::r) z) op g G) env) (λv s1=>PE w ts env X oa st st' s d v s1/\0<s1.toks) bM s:=by
 refine bB h ?_;clear h;intro d2 st2 O h;refine bB h ?_;clear h;intro d3 U P h;refine bv h ?_;clear h;intro Y Q h;cases h;have S:an (model pw w) A (eval (.List (.Constant (.int c) kk f::r) z) env) (λv s1=>PE w ts env X oa st st2 s d2 v s1/\0<s1.toks) bM s:=by refine bB O λds C I i=>?_;refine ct i ?_;clear i;intro j i;cases i;replace j:=ar j;have u:=hM (env:=env) _ _ _ _ _ I;refine bB (show(((ev K M (n+1) sc (.Constant (.int c) kk f) st).bind λp=>(lh K M (n+1) sc r p.2).bind λq=>T.ret (p.1::q.1,q.2))).run=some (ds,C) from I) λZ V R m=>?_;refine bB m ?_;clear m;intro es W t m;cases m;cases R;refine wpAny_List ?_;rw[u,dP];refine hG (?_:fo w A (evalEach (.Constant (.int c) kk f::r) env) _ s);show an (model pw w) A (eval (.Constant (.int c) kk f) env) (λv s1=>fo w A (evalEach r env) (λvs o=>_) s1) bM s;refine wpAny_Constant_int ?_;have N:b0 w ts env X oa st ({s with toks:=s.toks+1}:af).heap:=H;refine((F (n+1)).l _ _ _ _ _ t A env X oa J L {s with toks:=s.toks+1} N (Nat.succ_pos _)).1.mono λvs o p=>?_;have B:PL w ts env X oa st _ s (.int c::es) (.int c s.toks::vs) o:=⟨.cons (.int _ _) p.rd,p.hs,(ut 1).trans p.kp,p.shr⟩;have y:0<o.toks:=aI (Nat.succ_pos _) p.kp.toks;obtain⟨a,b,c,d,e⟩:=uw (cls:="list") B j;exact⟨by rw[B.rd.length,bu];exact j,⟨.list a b c,d,e,B.shr⟩,y⟩
 refine wpAny_BinOp (am S (λa s1 p1=>am ((F _).e _ _ _ _ _ P A env X oa J L s1 p1.1.hs p1.2) (λb o p2=>?_) (λE E x=>x)) λE E x=>x);exact fw (sj Q (p1.1.rd.on p1.1.hs p2.kp p2.shr) p2.rd p2.hs.hid λv s3 r ks tk=>⟨p1.1.step (p2.step (.quiet p2.hs ks tk r)),aI (p2.toks p1.2) tk⟩)
end
theorem Vs:sL 0=.Assign [.Name (S dU) (VS (sL 0)).pos] (.ListComp (ch (bV (sL 0)) 0) (iP (bV (sL 0))) (Fg (bV (sL 0))) (bV (sL 0)).pos) (sL 0).pos:=by kernel_rfl
theorem Vt:bV (sL 0)=.ListComp (ch (bV (sL 0)) 0) (iP (bV (sL 0))) (Fg (bV (sL 0))) (bV (sL 0)).pos:=by kernel_rfl
theorem Vu:wO (iP (bV (sL 0)))=.BinOp (.List (.Constant (.int 279993211) (Jz (wP (yP (ch (wO (iP (bV (sL 0)))) 0)) 0)) (wP (yP (ch (wO (iP (bV (sL 0)))) 0)) 0).pos::(yP (ch (wO (iP (bV (sL 0)))) 0)).tail) (ch (wO (iP (bV (sL 0)))) 0).pos) .Add (ch (wO (iP (bV (sL 0)))) 1) (wO (iP (bV (sL 0)))).pos:=by kernel_rfl
theorem Vv:(Nat.beq (VS (sL 0)).pos.line (bV (sL 0)).pos.line&&!((Fg (bV (sL 0))).names.any λp=>p.1==S dU&&(p.2==.local||p.2==.cell)))=true:=by kernel_rfl
theorem xB:kd (sn 72) dU=some .local:=by kernel_rfl
theorem R5(sd dr:List D):(St.set ⟨l0 sd,none,[]⟩ dU (.list dr))=⟨l1 sd dr,none,[]⟩:=by kernel_rfl
theorem R6{w:aq}{env:Env}(e:bC w env (sn 72)){x:Str}{xp b:Pos}{d:Expr}{c:List Comprehension}{a:Scope}{l:Nat}(h:bm x=dU)(j:Nat.beq xp.line b.line=true)(k:(a.names.any λp=>p.1==x&&(p.2==.local||p.2==.cell))=false):
 swapsWith (.ListComp d c a b) (some (.Name x xp)) l env=pure true:=by
 show(pure (env.blockKind==.function&&env.kindOf x==some .local&&xp.line==b.line&&!(a.names.any λp=>p.1==x&&(p.2==.local||p.2==.cell))):Sem Bool)=pure true;have f:env.blockKind=.function:=by unfold Env.blockKind;rw[e.k];rfl
 have g:env.kindOf x=some .local:=by rw[show env.kindOf x=env.kindOf (S (bm x)) from rfl,e.kind,h];exact xB
 have i:xp.line=b.line:=au j;rw[f,g,i,k];congr 1;show((ScopeKind.function==ScopeKind.function)&&(some NameKind.local==some NameKind.local)&&(b.line==b.line)&&!false)=true;rw[show(b.line==b.line)=true from beq_self_eq_true _];rfl
theorem zo{w:aq}{A:aL}{env:Env}{X:List Addr}{oa:Addr}{s:af}{sd dr:List D}(d0:(ev KD MB 58 (sn 72) (bV (sL 0)) ⟨l0 sd,none,[]⟩).run=some (.list dr,⟨l0 sd,none,[]⟩))(g:eq A 29)(b:bC w env (sn 72))(h:c0 X env)(H:b0 w [] env X oa ⟨l0 sd,none,[]⟩ s.heap):
 an (model pw w) A (exec (sL 0) env) (λi s'=>PS w [] env X oa ⟨l0 sd,none,[]⟩ ⟨l1 sd dr,none,[]⟩ s .next i s'/\0<s'.toks) bM s:=by
 rw[Vs];refine bx Vv λj d=>?_;rw[aN] at d;rw[Vt] at d0;have a:=sR (Sq w []) (cV w) (n:=57) (xp:=(VS (sL 0)).pos) (pos:=(sL 0).pos) (A:=A) (env:=env) (X:=X) (oa:=oa) (s:=s) (sc:=sn 72) (x:=S dU) (by rw[show bm (S dU)=dU from rfl,xB];rfl) d0 (R6 b rfl j d) g b h H (λl d1 st1 e f=>by
  obtain⟨y,m,k,as,e⟩:=e;have c:l=wO (iP (bV (sL 0))):=by rw[e];rfl
  rw[Vu] at c;rw[c] at f⊢;exact HW (n:=53) (dQ (Sq w []) (cV w) jS) f g b H)
 rw[show bm (S dU)=dU from rfl,R5] at a;exact a
abbrev vn:Nm:=[95,108,97,119,95,104,101,108,100]
theorem MW(w:aq):tX w (S vn)=some (.ref 990):=by kernel_rfl
def a5:Expr:=ch (bV (sL 5)) 1
def c6:Expr:=ch (bV (sL 6)) 0
def d6:Expr:=ch (bV (sL 6)) 1
theorem Vq:sL 5=.Assign [.Name (S fT) (tp (sL 5))] (.Call (.Name (S gS) (ep (bV (sL 5)) 0)) [a5] [] (bV (sL 5)).pos) (sL 5).pos:=by kernel_rfl
theorem Vr:sL 6=.Return (some (.BoolOp .And [c6,.Call (.Name (S vn) (ep d6 0)) [.Name (S eS) (ep d6 1),.Name (S cQ) (ep d6 2),.Name (S fT) (ep d6 3)] [] d6.pos] (bV (sL 6)).pos)) (sL 6).pos:=by kernel_rfl
theorem R3:dD a5=false:=by kernel_rfl
theorem R4(sd dr:List D)(o:List Nat)(kd pd wd rd:List D):(St.set ⟨l5 sd dr o kd pd wd,none,[]⟩ fT (.list rd))=⟨l6 sd dr o kd pd wd rd,none,[]⟩:=by kernel_rfl
section
variable{w:aq}{A:aL}{s:af}
theorem HV{sc:List Int}(H:G3 sc)(W:ju (bA [32] (gJ (bt sc)))=some (bt sc))(Y:ju (bA [32] ((bW (bU sc) (cx sc)).map dt))=some (bW (bU sc) (cx sc)))
 (hA:eO A 200)(t:A.frames=some [])(B:cT w s.heap){u:ai}(ru:Rd (bJ [] s.heap) [] u (.list (iD sc))):codeAny (model pw w) A (.call (.ref 995) ⟨[u],[]⟩) (RV λv o=>v=.bool true/\cT w o.heap/\KG [dM] [] s o) s:=by
 obtain⟨fd,F,Q⟩:∃fd,cK w.params 995 (ft 72) tt fd/\(∀vs:List ai,vs.length=tt.length->aJ fd ⟨vs,[]⟩=pure (cq tt vs)):=⟨_,PQ _,PR _⟩;have q:=kO (w:=w) (args:=⟨[u],[]⟩) (X:=[]) (ts:=[]) (s:=s) (ds:=[.list (iD sc)]) (Q [u] rfl) (.cons ru .nil);refine zX λR kR=>?_;refine fB (k:=199) F hA B (zj w _ _) (λx hx=>by cases hx) q λenv m s1 a=>?_;have j:eq (A.deeper env) 199:=eO.deeper hA;have c:eq (A.deeper env) 29:=j.le (by exact aB _ _);have f:∀b∈([]:List Addr),b≠dM:=λb q=>by cases q
 refine am (?_:an (model pw w) (A.deeper env) (execs (bd 72) env) _ bM s1) (λd d x=>x) (λd d x=>x.elim);obtain⟨d0,e0,e1,e2,e3,e4,O,P⟩:=L8 H [];have y:(cM KD MB 59 (sn 72) [sL 1,sL 2,sL 3,sL 4] ⟨l1 (iD sc) (iD (bZ sc)),none,[]⟩).run=some (.next,⟨l5 (iD sc) (iD (bZ sc)) (eV sc) (kD (bU sc)) (fa (cx sc)) (sD (bt sc)),none,[]⟩):=
  (bk e1).trans ((bk e2).trans ((bk e3).trans ((bk e4).trans AA)))
 rw[show bd 72=sL 0::([sL 1,sL 2,sL 3,sL 4]++[sL 5,sL 6]) from UM];have IS:=iy (Sq w []) (cV w);have IE:∀n,bQ w [] KD MB 29 n:=dQ (Sq w []) (cV w) jS;have aa:KG [dM] [] s s1:=KG.of_ks a.ks a.tk;refine bg (am (zo (X:=m) (oa:=0) d0 c a.e a.hf a.hs) (λfl M p1=>?_) λd d x=>x);obtain⟨p1,Z⟩:=p1;obtain⟨oa1,H1,o1,f1⟩:=p1.ex;cases fl<;>first|exact f1.elim|skip
 have G:KG [dM] [] s M:=xz aa a.newL a.newC rfl f p1.kq;refine zn IS c a.e a.hf [sL 1,sL 2,sL 3,sL 4] 59 _ oa1 M y H1 Z λo J H2 k2 o2 C=>?_;have ab:KG [dM] [] s o:=xz G a.newL a.newC rfl f k2;replace O:(ev KD MB 51 (sn 72) a5 ⟨l5 (iD sc) (iD (bZ sc)) (eV sc) (kD (bU sc)) (fa (cx sc)) (sD (bt sc)),none,[]⟩).run=_:=O;replace P:(ev KD MB 51 (sn 72) c6 ⟨l6 (iD sc) (iD (bZ sc)) (eV sc) (kD (bU sc)) (fa (cx sc)) (sD (bt sc)) (sD (bt sc)),none,[]⟩).run=_:=P;rw[Vq,Vr];refine bg (wpAny_Assign_Name ?_ rfl);show an _ _ (eval (.Name (S gS) (ep (bV (sL 5)) 0)) env>>=λg=>callWith (bV (sL 5)).pos g [] (backTo (bV (sL 5)).pos (starEach [a5] env)) (backToKw (bV (sL 5)).pos (keywordEach [] env))) _ _ _;refine ah (iR (x:=S gS) (v:=.ref 890) a.e H2.base (by kernel_rfl) (by kernel_rfl) (.inl (xA w)) ?_);rw[fx a5 [] R3,show((false,eval a5 env)::starEach [] env)=pl [eval a5 env] from rfl,dP,iM];refine qF (uX w.params) (A.deeper env) (bV (sL 5)).pos [] [eval a5 env] o _ ?_;refine am ((IE 51).e _ _ _ _ _ O (A.deeper env) env m J c a.e o H2 C) (λu4 s4 K=>⟨K.hs.base,?_⟩) λd d x=>x;have D:=K.toks C;have ac:=A2 ab f K.kp;have p:=K.hs;have i:A3 w m [env.locals] s4.heap:=A3.cons1 a.hf a.e p;refine wpAny_call (codeAny_mono (rf (X:=m) (FL:=[env.locals]) (x:=bA [32] (gJ (bt sc))) (words:=bt sc) (j.one.le (by exact aB _ _)) (aL.frames_deeper t) (gK.cons1 a.e.k a.fr p) i.fl p.base p.live D K.rd (aj H.sjoin (by decide)) W (aj H.wfew (by decide))) λr s5 z=>?_);obtain⟨v5,rfl,ao,B5,l⟩:=lQ z;have H5:=p.kg l B5 (λb q=>(i.fl b q).1) i.dic;have I:KG [dM] [] s s5:=HU ac a.newL l;refine am (hY (x:=fT) a.e a.hf H5 (by kernel_rfl) ao) (λd s6 z6=>?_) λd d x=>x;obtain⟨L,H6,d⟩:=z6;rw[R4] at H6;have E:0<s6.toks:=aI (aI D l.toks) L.kq.toks;have ad:KG [dM] [] s s6:=xz I a.newL a.newC rfl f L.kq;show an _ _ (execs [_] env) _ _ _;refine bg (wpAny_Return_some (wpAny_And2 (am ((IE 51).e _ _ _ _ _ P (A.deeper env) env m J c a.e s6 H6 E) (λv7 s7 N=>?_) λd d x=>x)));have ae:=A2 ad f N.kp;have h:=N.hs;rw[WI N.rd];refine wpAny_truthy_bool ?_;show an _ _ (eval (.Name (S vn) (ep d6 0)) env>>=λg=>callWith d6.pos g [] (backTo d6.pos (starEach [Expr.Name (S eS) (ep d6 1),Expr.Name (S cQ) (ep d6 2),Expr.Name (S fT) (ep d6 3)] env)) (backToKw d6.pos (keywordEach [] env))) _ _ _;refine ah (iR (x:=S vn) (v:=.ref 990) a.e h.base (by kernel_rfl) (by kernel_rfl) (.inl (MW w)) ?_);rw[show backTo d6.pos (starEach [Expr.Name (S eS) (ep d6 1),Expr.Name (S cQ) (ep d6 2),Expr.Name (S fT) (ep d6 3)] env)=pl [eval (.Name (S eS) (ep d6 1)) env,eval (.Name (S cQ) (ep d6 2)) env,eval (.Name (S fT) (ep d6 3)) env] from rfl,iM];refine qF (Fd w.params) (A.deeper env) d6.pos [] _ s7 _ ?_;obtain⟨k1,T,ag⟩:=h.vars eS (.list (kD (bU sc))) (by kernel_rfl);obtain⟨k2,U,ak⟩:=h.vars cQ (.list (fa (cx sc))) (by kernel_rfl);obtain⟨k3,V,al⟩:=h.vars fT (.list (sD (bt sc))) (by kernel_rfl);refine kv (x:=S eS) (v:=k1) a.e T (by kernel_rfl) ?_;refine kv (x:=S cQ) (v:=k2) a.e U (by kernel_rfl) ?_;refine kv (x:=S fT) (v:=k3) a.e V (by kernel_rfl) ⟨h.base,?_⟩;refine wpAny_call (codeAny_mono (CX (X:=m) (FL:=[env.locals]) H.held Y (j.one.le (by exact aB _ _)) (aL.frames_deeper t) (gK.cons1 a.e.k a.fr h) (A3.cons1 a.hf a.e h) h.base h.live (N.toks E) (.cons ag (.cons ak (.cons al .nil)))) λr s8 z=>?_);obtain⟨v8,rfl,rfl,B8,af⟩:=lQ z;exact kR (.ok (.ret _)) _ ⟨rfl,B8,HU ae a.newL af⟩
end
theorem A4:∀x:List Nat,mU x x=false
 |[]=>rfl
 |a::x=>by show(Nat.blt a a||(Nat.beq a a&&mU x x))=false;rw[A4 x,Bool.and_false,Bool.or_false];exact Bool.eq_false_iff.mpr λh=>Nat.lt_irrefl a (Nat.blt_eq.mp h)
theorem kA{a b:Nat}{x y:List Nat}:mU (a::x) (b::y)=true↔a<b\/(a=b/\mU x y=true):=by show(Nat.blt a b||(Nat.beq a b&&mU x y))=true↔_;rw[Bool.or_eq_true,bf,Nat.blt_eq,Nat.beq_eq]
theorem mO:∀x y:List Nat,mU x y=true\/x=y\/mU y x=true
 |[],[]=>.inr (.inl rfl)
 |[],_::_=>.inl rfl
 |_::_,[]=>.inr (.inr rfl)
 |a::x,b::y=>by
  rcases Nat.lt_trichotomy a b with h|h|h
  .exact .inl (kA.mpr (.inl h))
  .rcases mO x y with k|k|k
   .exact .inl (kA.mpr (.inr ⟨h,k⟩))
   .exact .inr (.inl (by rw[h,k]))
   .exact .inr (.inr (kA.mpr (.inr ⟨h.symm,k⟩)))
  .exact .inr (.inr (kA.mpr (.inl h)))
set_option tactic.hygienic true in
theorem lb:∀{x y z:List Nat},mU x y=true->mU y z=true->mU x z=true
 |[],_,[],h,k=>by rename_i y;cases y<;>cases k
 |[],_,_::_,_,_=>rfl
 |_::_,[],_,h,_=>by cases h
 |_::_,_::_,[],_,k=>by cases k
 |a::x,b::y,c::z,h,k=>by
  rw[kA] at h k⊢;rcases h with h|⟨h,h'⟩<;>rcases k with k|⟨k,d⟩
  .exact .inl (Nat.lt_trans h k)
  .exact .inl (k▸h)
  .exact .inl (h▸k)
  .exact .inr ⟨h.trans k,lb h' d⟩
theorem ja{x y:List Nat}(h:mU x y=true):mU y x=false:=by
 cases k:mU y x with
 |false=>rfl
 |true=>have:=lb h k;rw[A4] at this;cases this
theorem db(x y:List Nat)(r:List (List Nat)):jI x (y::r)=if mU x y=true then x::y::r else y::jI x r:=by show(match mU x y with|true=>_|false=>_)=_;cases mU x y<;>rfl
theorem xC(x y:List Nat):∀l:List (List Nat),jI x (jI y l)=jI y (jI x l)
 |[]=>by
  rw[show jI y []=[y] from rfl,show jI x []=[x] from rfl,db,db];rcases mO x y with h|h|h
  .rw[aH h,av (by rw[ja h];decide)];rfl
  .rw[h]
  .rw[aH h,av (by rw[ja h];decide)];rfl
 |z::r=>by
  have e:=xC x y r;rw[db y z,db x z];by_cases b:mU y z=true<;>by_cases a:mU x z=true
  .rw[aH b,aH a,db x y,db y x];rcases mO x y with h|h|h
   .rw[aH h,av (by rw[ja h];decide),db,aH b]
   .rw[h]
   .rw[aH h,av (by rw[ja h];decide),db,aH a]
  .have d:mU y x=true:=by
    rcases mO y x with h|h|h
    .exact h
    .exact aK (h▸b) a
    .exact aK (lb h b) a
   rw[aH b,av a,db,av (by rw[ja d];decide),db,av a,db,aH b]
  .have c:mU x y=true:=by
    rcases mO x y with h|h|h
    .exact h
    .exact aK (h▸a) b
    .exact aK (lb h a) b
   rw[av b,aH a,db,aH a,db,av (by rw[ja c];decide),db,av b]
  .rw[av b,av a,db,av a,db,av b,e]
theorem t4{l c:List (List Nat)}(h:l.Perm c):dC l=dC c:=by
 induction h with
 |nil=>rfl
 |cons x _ d=>show jI x _=jI x _;rw[d]
 |swap x y l=>exact xC y x (dC l)
 |trans _ _ a b=>exact a.trans b
theorem xD(x:List Nat):∀l:List (List Nat),(jI x l).Perm (x::l)
 |[]=>.refl _
 |y::r=>by
  rw[db]
  split
  .exact .refl _
  .exact((xD x r).cons y).trans (.swap x y r)
theorem gw:∀l:List (List Nat),(dC l).Perm l
 |[]=>.refl _
 |x::r=>(xD x (dC r)).trans ((gw r).cons x)
theorem rg{l:List (List Nat)}{x:List Nat}:x∈dC l↔x∈l:=(gw l).mem_iff
theorem HX(l:List (List Nat)):(dC l).length=l.length:=(gw l).length_eq
theorem jv{α:Type}{p:α->Bool}{l:List α}(h:l.Nodup):(l.filter p).Nodup:=List.Pairwise.filter p h
theorem rh{α β:Type}{f:α->List β}{g:β->α}:∀{l:List α},l.Nodup->(∀a∈l,(f a).Nodup)->(∀a∈l,∀b∈f a,g b=a)->(l.flatMap f).Nodup
 |[],_,_,_=>List.nodup_nil
 |a::r,k,h,d=>by obtain⟨o,p⟩:=List.nodup_cons.mp k;rw[List.flatMap_cons];refine List.nodup_append.mpr ⟨h a (.head _),rh p (λb c=>h b (.tail _ c)) (λb c=>d b (.tail _ c)),λx m y n=>?_⟩;rintro rfl;obtain⟨b,c,e⟩:=List.mem_flatMap.mp n;have i:=d a (.head _) x m;have j:=d b (.tail _ c) x e;exact o (by rw[<-i,j];exact c)
abbrev J:List (List Nat)->List Nat:=bA [47]
def sN(x:List Nat):Prop:=x≠[]/\47∉x
theorem zr{c:Nat}:∀{x:List Nat} {i:Nat} {k:Int},c∉x->fi c x i k=k
 |[],_,_,_=>rfl
 |a::r,i,k,h=>by
  have b:Nat.beq a c=false:=by
   cases q:Nat.beq a c with
   |false=>rfl
   |true=>exact aK (au q▸List.Mem.head _) h
  show fi c r (i+1) (match Nat.beq a c with|true=>_|false=>k)=k;rw[b];exact zr λq=>h (.tail _ q)
theorem A5{c:Nat}{z:List Nat}:∀{y:List Nat} {i:Nat} {k:Int},fi c (y++z) i k=fi c z (i+y.length) (fi c y i k)
 |[],_,_=>rfl
 |a::y,i,k=>by show fi c (y++z) (i+1) _=fi c z (i+(y.length+1)) (fi c y (i+1) _);rw[A5,show i+1+y.length=i+(y.length+1) by exact Nat.succ_add _ _]
theorem ND{y x:List Nat}(h:47∉x):lA 47 (y++47::x)=(y.length:Int):=by unfold lA;rw[A5];show fi 47 x (0+y.length+1) ((0+y.length:Nat):Int)=_;rw[zr h,Nat.zero_add]
theorem MX{y x:List Nat}(h:47∉x):eI (y++47::x)=y++[47]:=by have a:fv (y++47::x).length ((y.length:Int)+1)=y.length+1:=o5 (k:=y.length+1) (by rw[ae,aC];exact Nat.add_le_add_left (Nat.succ_le_succ (Nat.zero_le _)) _);unfold eI cJ;rw[ND h,a,List.drop_zero,List.take_append,List.take_of_length_le (Nat.le_succ _),Nat.add_sub_cancel_left];rfl
theorem MY{y x:List Nat}(h:47∉x):cj (y++47::x)=x:=by have a:fv (y++47::x).length ((y.length:Int)+1)=y.length+1:=o5 (k:=y.length+1) (by rw[ae,aC];exact Nat.add_le_add_left (Nat.succ_le_succ (Nat.zero_le _)) _);unfold cj cJ;rw[ND h,a,List.take_length,List.drop_append];simp
theorem NE{x:List Nat}(h:47∉x):lA 47 x= -1:=zr h
theorem MZ{x:List Nat}(h:47∉x):eI x=[]:=by unfold eI cJ fv;rw[NE h];simp
theorem M0{x:List Nat}(h:47∉x):cj x=x:=by unfold cj cJ fv;rw[NE h];simp
theorem rk(x y:List Nat)(r:List (List Nat)):J (x::y::r)=x++47::J (y::r):=by show x++[47]++J (y::r)=_;rw[aR];rfl
theorem rn:∀{p:List (List Nat)} {x:List Nat},p≠[]->J (p++[x])=J p++47::x
 |[],_,h=>aK rfl h
 |[y],x,_=>rk y x []
 |y::z::r,x,_=>by show J (y::z::(r++[x]))=_;rw[rk,rk,show z::(r++[x])=(z::r)++[x] from rfl,rn (p:=z::r) (by simp),aR];rfl
theorem zs{p:List (List Nat)}(h:∀x∈p,sN x)(g:p≠[]):∃y c,J p=y++[c]/\c≠47:=by
 rcases dT p with rfl|⟨q,x,rfl⟩
 .exact aK rfl g
 .obtain⟨a,b⟩:=h x (List.mem_append_right _ (.head _));rcases dT x with rfl|⟨z,c,rfl⟩
  .exact aK rfl a
  .have d:c≠47:=λe=>b (by rw[e];exact List.mem_append_right _ (.head _));by_cases f:q=[]
   .subst f;exact⟨z,c,rfl,d⟩
   .exact⟨J q++47::z,c,by rw[rn f,aR];rfl,d⟩
theorem zt{p:List (List Nat)}(h:∀x∈p,sN x)(a:p≠[]):J p≠[]:=λq=>by obtain⟨y,c,e,b⟩:=zs h a;rw[q] at e;cases y<;>cases e
theorem HY{p:List (List Nat)}{x:List Nat}(b:47∉x):cj (J (p++[x]))=x:=by
 by_cases a:p=[]
 .subst a;exact M0 b
 .rw[rn a];exact MY b
theorem zu{y:List Nat}{c:Nat}(h:c≠47):gb 47 (y++[c]++[47])=y++[c]:=by
 unfold gb;rw[List.reverse_append,List.reverse_append];have a:Nat.beq c 47=false:=by
  cases q:Nat.beq c 47 with
  |false=>rfl
  |true=>exact aK (au q) h
 show(lW 47 (47::c::y.reverse)).reverse=_;have:lW 47 (47::c::y.reverse)=c::y.reverse:=by show lW 47 (c::y.reverse)=_;show(match Nat.beq c 47 with|true=>_|false=>c::y.reverse)=_;rw[a]
 rw[this,List.reverse_cons,List.reverse_reverse]
theorem HZ{p:List (List Nat)}{x:List Nat}(h:∀x∈p,sN x)(f:47∉x):fE (J (p++[x]))=J p:=by
 by_cases b:p=[]
 .subst b;unfold fE;rw[show J ([]++[x])=x from rfl,MZ f];rfl
 .obtain⟨y,c,e,d⟩:=zs h b;unfold fE;rw[rn b,MX f,e,zu d];have g:(!(y++[c]++[47]).isEmpty)=true:=by rw[pn];rfl
  have i:cr (y++[c]++[47]) (List.replicate (((y++[c]++[47]).length:Int)).toNat [47]).flatten=false:=eM.mpr λq=>by
   have:c∈(List.replicate (((y++[c]++[47]).length:Int)).toNat [47]).flatten:=by rw[<-q];simp
   obtain⟨l,j,a⟩:=List.mem_flatten.mp this;rw[(List.mem_replicate.mp j).2] at a;exact d (az.mp a)
  rw[g,i];rfl
theorem H0{x:List Nat}(h:47∉x):cn 47 x=[x]:=by
 induction x with
 |nil=>rfl
 |cons a r c=>
  have b:Nat.beq a 47=false:=by
   cases q:Nat.beq a 47 with
   |false=>rfl
   |true=>exact aK (au q▸List.Mem.head _) h
  show(match Nat.beq a 47 with|true=>_|false=>match cn 47 r with|[]=>[[a]]|y::ys=>(a::y)::ys)=_;rw[b,c λq=>h (.tail _ q)]
theorem kB{x r:List Nat}(h:47∉x):cn 47 (x++47::r)=x::cn 47 r:=by
 induction x with
 |nil=>rfl
 |cons a x c=>
  have b:Nat.beq a 47=false:=by
   cases q:Nat.beq a 47 with
   |false=>rfl
   |true=>exact aK (au q▸List.Mem.head _) h
  show(match Nat.beq a 47 with|true=>_|false=>match cn 47 (x++47::r) with|[]=>[[a]]|y::ys=>(a::y)::ys)=_;rw[b,c λq=>h (.tail _ q)]
theorem vo:∀{p:List (List Nat)},(∀x∈p,sN x)->p≠[]->cn 47 (J p)=p
 |[],_,h=>aK rfl h
 |[x],h,_=>H0 (h x (.head _)).2
 |x::y::r,h,_=>by rw[rk,kB (h x (.head _)).2,vo (λz a=>h z (.tail _ a)) (by simp)]
theorem H8{p q:List (List Nat)}(c:∀x∈p,sN x)(d:∀x∈q,sN x)(h:J p=J q):p=q:=by
 by_cases a:p=[]<;>by_cases b:q=[]
 .rw[a,b]
 .rw[a] at h;exact aK h.symm (zt d b)
 .rw[b] at h;exact aK h (zt c a)
 .rw[<-vo c a,h,vo d b]
theorem Vw{b:List Nat}(h:47∉b):ip [47] b=false:=by
 cases b with
 |nil=>rfl
 |cons a r=>
  show(Nat.beq 47 a&&true)=false;rw[Bool.and_true];cases q:Nat.beq 47 a with
  |false=>rfl
  |true=>exact aK (au q▸List.Mem.head _) h
theorem M1{p:List (List Nat)}{x:List Nat}(h:∀x∈p,sN x)(d:47∉x):iE (J p) x=J (p++[x]):=by
 unfold iE;rw[Vw d,cU];by_cases a:p=[]
 .subst a;rfl
 .obtain⟨y,c,e,b⟩:=zs h a;rw[rn a,e,pn];have:ip [47] (y++[c]).reverse=false:=by
   rw[List.reverse_append];show(Nat.beq 47 c&&true)=false;rw[Bool.and_true];cases q:Nat.beq 47 c with
   |false=>rfl
   |true=>exact aK (au q).symm b
  rw[this];rfl
def gN(x:List Nat):Prop:=sN x/\x≠[46]/\x≠[46,46]
theorem n8{a:List (List Nat)}{x:List Nat}(h:gN x):fh a x=a++[x]:=by unfold fh;rewrite[av (λq=>q.elim h.1.1 h.2.1),aH (.inl h.2.2)];rfl
theorem Ia(a:List (List Nat)):fh a []=a:=by unfold fh;rw[aH (.inl rfl)]
theorem xE{T:List Nat}:∀{k:List (List Nat)} {a:List (List Nat)},(∀x∈k,gN x)->k≠[]->(cn 47 (bA [47,47] k++47::T)).foldl fh a=(cn 47 T).foldl fh (a++k)
 |[],_,_,h=>aK rfl h
 |[x],a,h,_=>by rw[show bA [47,47] [x]=x from rfl,kB (h x (.head _)).1.2,List.foldl_cons,n8 (h x (.head _))]
 |x::y::r,a,h,_=>by
  have e:bA [47,47] (x::y::r)++47::T=x++47::([]++47::(bA [47,47] (y::r)++47::T)):=by show x++[47,47]++bA [47,47] (y::r)++47::T=_;simp
  rw[e,kB (h x (.head _)).1.2,kB (by simp),List.foldl_cons,List.foldl_cons,n8 (h x (.head _)),Ia,xE (λz b=>h z (.tail _ b)) (by simp),aR];rfl
theorem Ib{k:List (List Nat)}(h:∀x∈k,gN x)(a:k≠[]):j8 ([46,47]++bA [47,47] k++[47,120,47,46,46])=J k:=by
 have e:[46,47]++bA [47,47] k++[47,120,47,46,46]=[46]++47::(bA [47,47] k++47::[120,47,46,46]):=by simp
 have b:cZ ([46,47]++bA [47,47] k++[47,120,47,46,46])=k:=by
  unfold cZ;rw[e,kB (by decide),List.foldl_cons,show fh [] [46]=[] by unfold fh;rw[aH (.inr rfl)],xE h a,List.nil_append,show cn 47 [120,47,46,46]=[[120],[46,46]] from by rfl,List.foldl_cons,List.foldl_cons,List.foldl_nil,n8 (x:=[120]) ⟨⟨by decide,by decide⟩,by decide,by decide⟩];unfold fh;rewrite[av (by decide),av (λq=>by
   rcases q with q|q|q
   .exact q rfl
   .cases k<;>cases q
   .rw[List.getLast?_append] at q;cases q),List.dropLast_concat]
  rfl
 unfold j8;rw[b];have:=zt (λx d=>(h x d).1) a;show iff (!(J k).isEmpty) (J k) [46]=J k;cases c:J k with
 |nil=>exact aK c this
 |cons=>rfl
set_option tactic.hygienic true in
theorem Ic{a:List dL}{p z:dL}:z∈iQ a p↔z∈a\/z=p:=by
 unfold iQ
 split
 .rename_i h;exact⟨.inl,λq=>q.elim id λq=>q▸h⟩
 .rw[List.mem_append,az]
theorem t5:∀{l a:List dL} {z:dL},z∈l.foldl iQ a↔z∈a\/z∈l
 |[],a,z=>by simp
 |p::l,a,z=>by rw[List.foldl_cons,t5,Ic,ao,or_assoc]
set_option tactic.hygienic true in
theorem zv{a:List dL}{p:dL}(h:a.Nodup):(iQ a p).Nodup:=by
 unfold iQ
 split
 .exact h
 .rename_i b;exact List.nodup_append.mpr ⟨h,List.nodup_cons.mpr ⟨by simp,List.nodup_nil⟩,λx c y d e=>b (by rw[<-az.mp d,<-e];exact c)⟩
theorem oN:∀{l a:List dL},a.Nodup->(l.foldl iQ a).Nodup
 |[],_,h=>h
 |p::l,a,h=>oN (l:=l) (zv h)
theorem oO(ks:List dL):(bz ks).Nodup:=oN List.nodup_nil
theorem jb{ks:List dL}{z:dL}:z∈bz ks↔∃k∈ks,z∈dw k:=by unfold bz;rw[t5,List.mem_flatMap];simp
theorem fM{p z:dL}:z∈dw p↔∃k,k<p.length/\z=p.take (k+1):=by unfold dw;rw[aE];exact⟨λ⟨k,a,b⟩=>⟨k,List.mem_range.mp a,b.symm⟩,λ⟨k,a,b⟩=>⟨k,List.mem_range.mpr a,b.symm⟩⟩
theorem im{p z:dL}{x:List Nat}:z∈dw (p++[x])↔z∈dw p\/z=p++[x]:=by
 rw[fM,fM];constructor
 .rintro⟨k,a,rfl⟩;rw[ae,aV] at a;by_cases h:k<p.length
  .exact .inl ⟨k,h,by rw[List.take_append_of_le_length (by exact ir h)]⟩
  .exact .inr (List.take_of_length_le (by rw[ae,aV];exact Nat.lt_of_not_le h))
 .rintro(⟨k,a,rfl⟩|rfl)
  .exact⟨k,by rw[ae];exact Nat.lt_succ_of_lt a,by rw[List.take_append_of_le_length (by exact ir a)]⟩
  .exact⟨p.length,by rw[ae,aV];exact bh _,(List.take_of_length_le (by rw[ae,aV];exact bh _)).symm⟩
theorem oP{p q z:dL}(a:z∈dw q)(b:q∈dw p):z∈dw p:=by obtain⟨j,d,rfl⟩:=fM.mp b;obtain⟨k,c,rfl⟩:=fM.mp a;rw[List.length_take] at c;refine fM.mpr ⟨k,by omega,?_⟩;rw[List.take_take,Nat.min_eq_left (by omega)]
theorem CY{p z:dL}(h:z∈dw p):∀x∈z,x∈p:=by obtain⟨k,b,rfl⟩:=fM.mp h;exact λx a=>List.mem_of_mem_take a
theorem Id{p z:dL}(h:z∈dw p):z≠[]/\z.length<=p.length:=by obtain⟨k,a,rfl⟩:=fM.mp h;refine⟨λq=>?_,by rw[List.length_take];exact Nat.min_le_right _ _⟩;have:=aU List.length q;rw[List.length_take,List.length_nil] at this;omega
def gR(n:dL):Prop:=∀x∈n,gN x
theorem gR.s{n:dL}(h:gR n):∀x∈n,sN x:=λx a=>(h x a).1
theorem t6:∀(m:Nat) (p:dL) (L:List dL) (c:Nat),p.length=m->m<c->gR p->(∀q∈L,gR q)->L.Nodup->(∀q∈L,q.length<=p.length->∀z∈dw q,z∈L)->(∀z∈dw p,(J z).length<=1000)->L.length+m<1000->
 ∃g:List dL,oH c (L.map J) (J p)=some (g.map J)/\g.Nodup/\(∀q∈g,gR q)/\(∀z,z∈g↔z∈L\/z∈dw p)/\g.length<=L.length+m
 |0,p,L,c+1,t,_,_,l,v,_,_,_=>by
  obtain rfl:=List.length_eq_zero_iff.mp t;refine⟨L,?_,v,l,λz=>?_,by exact aF _⟩
  .rw[u7];rw[aH (.inl rfl)]
  .exact⟨.inl,λq=>q.elim id λq=>by obtain⟨k,O,P⟩:=fM.mp q;exact aK O (Nat.not_lt_zero _)⟩
 |m+1,p,L,c+1,t,N,j,l,v,n,f,w=>by
  rcases dT p with rfl|⟨p0,x,rfl⟩
  .cases t
  .have i:p0++[x]∈dw (p0++[x]):=im.mpr (.inr rfl);have o:J (p0++[x])∈L.map J↔p0++[x]∈L:=by rw[aE];exact⟨λ⟨q,d,e⟩=>H8 (l q d).s j.s e▸d,λh=>⟨_,h,rfl⟩⟩
   have C:J (p0++[x])≠[]:=zt j.s (by simp);rw[u7];by_cases u:p0++[x]∈L
   .rw[aH (.inr (o.mpr u))];refine⟨L,rfl,v,l,λz=>⟨.inl,λq=>q.elim id λq=>n _ u (aF _) z q⟩,by exact ba _ _⟩
   .rewrite[av (λq=>q.elim C λq=>u (o.mp q)),aH ⟨f _ i,by rw[ak];exact aS (ba _ _) w⟩,HZ (λy D=>(j y (List.mem_append_left _ D)).1) (j x (List.mem_append_right _ (.head _))).1.2];have e:L.map J++[J (p0++[x])]=(L++[p0++[x]]).map J:=by rw[be];rfl
    rw[e];have B:p0.length=m:=by rw[ae,aV] at t;exact Nat.succ.inj t
    obtain⟨g,F,G,H,I,A⟩:=t6 m p0 (L++[p0++[x]]) c B (by exact Nat.lt_of_succ_lt_succ N) (λy D=>j y (List.mem_append_left _ D)) (λq d=>by
     rcases List.mem_append.mp d with d|d
     .exact l q d
     .rw[az.mp d];exact j)
     (List.nodup_append.mpr ⟨v,List.nodup_cons.mpr ⟨by simp,List.nodup_nil⟩,λa K b M e=>u (by rw[<-az.mp M,<-e];exact K)⟩)
     (λq d r z E=>by
      rcases List.mem_append.mp d with d|d
      .exact List.mem_append_left _ (n q d (by rw[ae];exact Nat.le_succ_of_le r) z E)
      .rw[az.mp d,ae,aV] at r;omega)
     (λz w=>f z (im.mpr (.inl w))) (by rw[ae,aV];exact by rw[Nat.succ_add];exact w)
    refine⟨g,F,G,H,λz=>?_,by rw[ae,aV] at A;exact by rw[Nat.succ_add] at A;exact A⟩;rewrite[I,im,List.mem_append,az];constructor
    .rintro((h|h)|h)
     .exact .inl h
     .exact .inr (.inr h)
     .exact .inr (.inl h)
    .rintro(h|h|h)
     .exact .inl (.inl h)
     .exact .inr h
     .exact .inl (.inr h)
theorem rp:∀(ks:List dL) (L:List dL),(∀k∈ks,gR k/\k≠[]/\k.length<=3/\(eL k).length<=1000/\∀z∈dw k,(J z).length<=1000)->(∀q∈L,gR q)->L.Nodup->(∀q∈L,∀z∈dw q,z∈L)->L.length+3*ks.length<900->
 ∃g:List dL,oI (L.map J) (ks.map eL)=some (g.map J)/\g.Nodup/\(∀z,z∈g↔z∈L\/∃k∈ks,z∈dw k)
 |[],L,_,_,l,_,_=>⟨L,rfl,l,λz=>⟨.inl,λq=>by rcases q with q|⟨k,f,_⟩;exact q;cases f⟩⟩
 |k::ks,L,f,A,l,c,m=>by
  obtain⟨n,s,i,t,u⟩:=f k (.head _);rw[aC] at m;obtain⟨L1,v,w,x,j,y⟩:=t6 k.length k L 100 rfl (by exact aS i (by decide)) n A l (λq a C=>c q a) u (by exact k9 m i);have d:∀q∈L1,∀z∈dw q,z∈L1:=λq a z e=>(j z).mpr (by
   rcases(j q).mp a with h|h
   .exact .inl (c q h z e)
   .exact .inr (oP e h))
  obtain⟨L2,o,p,r⟩:=rp ks L1 (λq a=>f q (.tail _ a)) x w d (by exact AX m i y);refine⟨L2,?_,p,λz=>?_⟩
  .show(if mD (eL k)&&j9 (eL k)&&decide ((eL k).length<=1000) then(oH 100 (L.map J) (j8 (eL k))).bind λb=>oI b (ks.map eL) else none)=_;have B:j9 (eL k)=true:=by
    unfold j9;have:cJ (eL k) 0 (fv (eL k).length 1)=[46]:=by unfold eL cJ fv;rw[av (by exact mX _),List.drop_zero,show((1:Int)).toNat=1 from rfl,Nat.min_eq_left (by simp)];rfl
    rw[this];rfl
   rw[show mD (eL k)=true from rfl,B,ac t,aH (show(true&&true&&true)=true from rfl),show j8 (eL k)=J k from Ib n s,v];exact o
  .rw[r,j];constructor
   .rintro((h|h)|⟨q,a,h⟩)
    .exact .inl h
    .exact .inr ⟨k,.head _,h⟩
    .exact .inr ⟨q,.tail _ a,h⟩
   .rintro(h|⟨q,a,h⟩)
    .exact .inl (.inl h)
    .rcases ao.mp a with rfl|a
     .exact .inl (.inr h)
     .exact .inr ⟨q,a,h⟩
theorem zw{ks:List dL}(i:∀k∈ks,gR k/\k≠[]/\k.length<=3/\(eL k).length<=1000/\∀z∈dw k,(J z).length<=1000)(j:3*ks.length<64):lM (ks.map eL)=some (bF ks)/\(bz ks).length<64:=by
 obtain⟨f,d,n,o⟩:=rp ks [] i (λq c=>by cases c) List.nodup_nil (λq c=>by cases c) (by rw[List.length_nil];exact(Nat.zero_add _).symm▸aj j (by decide));have m:f.Perm (bz ks):=(List.perm_ext_iff_of_nodup n (oO ks)).mpr λz=>by rw[o,jb];exact⟨λq=>q.elim (λq=>by cases q) id,.inr⟩
 have b:(bz ks).length<64:=by
  have p:∀(l a:List dL),(l.foldl iQ a).length<=a.length+l.length:=qL;have g:=p (ks.flatMap dw) [];have r:(ks.flatMap dw).length<=3*ks.length:=by
   have:∀l:List dL,(∀k∈l,k.length<=3)->(l.flatMap dw).length<=3*l.length:=by
    intro l
    induction l with
    |nil=>intro u;exact aF _
    |cons k l t=>
     intro h;have:=t λq c=>h q (.tail _ c);have s:=h k (.head _);rw[List.flatMap_cons,ae,aC];have:(dw k).length=k.length:=by unfold dw;rw[ak,List.length_range]
     omega
   exact this ks λk e=>(i k e).2.2.1
  unfold bz;rw[List.length_nil] at g;exact AX j g r
 refine⟨?_,b⟩;replace d:oI [] (ks.map eL)=some (f.map J):=d;unfold lM bF;rw[d,Option.bind_some,aH (by rw[ak,m.length_eq];exact b),t4 (m.map J)]
def gI(i:bL):Prop:=i=none\/i=some (false,[])\/(∃c,c≠47/\i=some (true,[c]))\/i=some (true,[97,98])\/i=some (false,[97])
def M2:bL->Tk
 |none=>.star
 |some (false,[])=>.q
 |some (true,[c])=>if c=42\/c=63\/c=91 then .cl [c] else .ch c
 |some (true,x)=>.cl x
 |some (false,x)=>.cl (33::x)
theorem lf(c:Nat):eG c=if c=42\/c=63\/c=91 then [91,c,93] else [c]:=by
 unfold eG;rw[oM,UY];by_cases h:c=42\/c=63\/c=91
 .rw[aH h,aH (by simpa using h)]
 .rw[av h,av (by simpa using h)]
theorem Vx{i:bL}(h:gI i):po (M2 i)=da i:=by
 rcases h with rfl|rfl|⟨c,_,rfl⟩|rfl|rfl
 .rfl
 .rfl
 .show po (if c=42\/c=63\/c=91 then .cl [c] else .ch c)=eG c;rw[lf]
  split<;>rfl
 .rfl
 .rfl
theorem R7{a b:Nat}(h:a≠b):Nat.beq a b=false:=by
 cases e:Nat.beq a b with
 |true=>exact aK (au e) h
 |false=>rfl
theorem R8{n c:Nat}{r:List Nat}(a:c≠42)(b:c≠63)(d:c≠91):za (n+1) (c::r)=(za n r).map (.ch c::·):=by show iff (Nat.beq c 91) _ ((za n r).map (iff (Nat.beq c 42) .star (iff (Nat.beq c 63) .q (.ch c))::·))=_;rw[R7 a,R7 b,R7 d];rfl
theorem Vy{n:Nat}{i:bL}(h:gI i)(r:List Nat):za (n+1) (po (M2 i)++r)=(za n r).map (M2 i::·):=by
 rcases h with e|e|⟨c,_,e⟩|e|e<;>rw[e]
 .rfl
 .rfl
 .show za (n+1) (po (if c=42\/c=63\/c=91 then .cl [c] else .ch c)++r)=(za n r).map ((if c=42\/c=63\/c=91 then .cl [c] else .ch c)::·);by_cases a:c=42\/c=63\/c=91
  .rw[aH a];rcases a with e|e|e<;>(rw[e];rfl)
  .rw[av a];exact R8 (λq=>a (.inl q)) (λq=>a (.inr (.inl q))) (λq=>a (.inr (.inr q)))
 .rfl
 .rfl
theorem xF:∀{is:List bL} (n:Nat),(∀i∈is,gI i)->is.length<=n->za n (cC is)=some (is.map M2)
 |[],0,_,_=>rfl
 |[],_+1,_,_=>rfl
 |i::is,0,_,q=>aK q (Nat.not_succ_le_zero _)
 |i::is,n+1,h,q=>by show za (n+1) (da i++cC is)=_;rw[<-Vx (h i (.head _)),Vy (h i (.head _)),xF n (λj a=>h j (.tail _ a)) (Nat.le_of_succ_le_succ q)];rfl
theorem R9{i:bL}(h:gI i):0<(da i).length:=by
 rcases h with e|e|⟨c,_,e⟩|e|e<;>rw[e]
 .exact Nat.one_pos
 .exact Nat.one_pos
 .show 0<(eG c).length;rw[lf]
  split<;>exact Nat.succ_pos _
 .exact Nat.succ_pos _
 .exact Nat.succ_pos _
theorem t7:∀{is:List bL},(∀i∈is,gI i)->is.length<=(cC is).length
 |[],_=>aF _
 |i::is,h=>by show _<=(da i++cC is).length;rw[ae,aC,Nat.add_comm];exact Nat.add_le_add (R9 (h i (.head _))) (t7 λj a=>h j (.tail _ a))
theorem zx{is:List bL}(h:∀i∈is,gI i):Gk (cC is)=some (is.map M2):=xF _ h (t7 h)
def Ie(a:List bL)(i:bL):List bL:=match i with
 |none=>if a.getLast?=some none then a else a++[none]
 |some p=>a++[some p]
def jc(is:List bL):List bL:=is.foldl Ie []
theorem M3{i:bL}(h:gI i)(f:i≠none):∃s,(∀a,gO a (M2 i)=a++[some s])/\oG (.str s)=some i:=by
 rcases h with rfl|rfl|⟨c,_,rfl⟩|rfl|rfl
 .exact aK rfl f
 .exact⟨[63],λb=>rfl,rfl⟩
 .show∃s,(∀a,gO a (if c=42\/c=63\/c=91 then .cl [c] else .ch c)=a++[some s])/\_;by_cases d:c=42\/c=63\/c=91
  .rw[aH d];rcases d with rfl|rfl|rfl
   .exact⟨_,λb=>rfl,rfl⟩
   .exact⟨_,λb=>rfl,rfl⟩
   .exact⟨_,λb=>rfl,rfl⟩
  .rw[av d];refine⟨mZ [c],λb=>rfl,?_⟩;have e:mZ [c]=(match iU c eE with|true=>[92,c]|false=>[c]):=by show(match iU c eE with|true=>[92,c]|false=>[c])++[]=_;rw[List.append_nil]
   rw[e];cases g:iU c eE with
   |true=>rfl
   |false=>show(if c=63 then some (some (false,[])) else if c=91 then none else some (some (true,[c])))=_;rw[av (λq=>d (.inr (.inl q))),av (λq=>d (.inr (.inr q)))]
 .exact⟨_,λb=>rfl,rfl⟩
 .exact⟨_,λb=>rfl,rfl⟩
theorem n9{α β:Type}{f:α->Option β}{x:α}{b:β}:∀{l:List α} {t:List β},ig f l=some t->f x=some b->ig f (l++[x])=some (t++[b])
 |[],t,h,d=>by cases h;show(f x).bind (λb=>some [b])=_;rw[d];rfl
 |a::l,t,h,d=>by obtain⟨c,t',e,g,rfl⟩:=tU h;show(f a).bind (λb=>(ig f (l++[x])).bind λs=>some (b::s))=_;rw[e,n9 g d];rfl
theorem jd{α:Type}(a:List α)(x:α):(a++[x]).getLast?=some x:=by rw[List.getLast?_append];rfl
theorem jw:∀(is:List bL) (ps:List Pt) (a:List bL),(∀i∈is,gI i)->ig (λp=>oG (pD p)) ps=some a->(ps.getLast?=some none↔a.getLast?=some none)->
 ig (λp=>oG (pD p)) ((is.map M2).foldl gO ps)=some (is.foldl Ie a)
 |[],_,_,_,h,_=>h
 |i::is,ps,a,c,h,f=>by
  rw[List.map_cons,List.foldl_cons,List.foldl_cons];by_cases d:i=none
  .subst d;show ig _ ((is.map M2).foldl gO (if ps.getLast?=some none then ps else ps++[none]))=some (is.foldl Ie (if a.getLast?=some none then a else a++[none]));by_cases e:ps.getLast?=some none
   .rw[aH e,aH (f.mp e)];exact jw is ps a (λj b=>c j (.tail _ b)) h f
   .rw[av e,av (λq=>e (f.mpr q))];exact jw is _ _ (λj b=>c j (.tail _ b)) (n9 h rfl) (by rw[jd,jd];exact⟨λm=>rfl,λm=>rfl⟩)
  .obtain⟨s,g,k⟩:=M3 (c i (.head _)) d;have l:Ie a i=a++[i]:=by cases i with|none=>exact aK rfl d|some p=>rfl
   rw[g,l];exact jw is _ _ (λj b=>c j (.tail _ b)) (n9 h k) (by rw[jd,jd];exact⟨λq=>(by cases q),λq=>(by cases q;exact aK rfl d)⟩)
theorem zy{is:List bL}(h:∀i∈is,gI i):∃ps,kh (cC is)=some ps/\nH ps=some (jc is):=by refine⟨(is.map M2).foldl gO [],?_,jw is [] [] h rfl (by exact⟨λq=>(by cases q),λq=>(by cases q)⟩)⟩;unfold kh;rw[zx h];rfl
theorem CZ(x:List Nat)(sp:List Nat):cW x (cW x sp none) none=cW x sp none:=by
 have a:∀(l:List Nat) (s:Nat),(!(l.filter λt=>decide (t<=s)).isEmpty)=true↔∃t∈l,t<=s:=λl s=>by rw[aN,List.isEmpty_eq_false_iff_exists_mem];exact⟨λ⟨t,c⟩=>⟨t,(List.mem_filter.mp c).1,ar (List.mem_filter.mp c).2⟩,λ⟨t,f,g⟩=>⟨t,List.mem_filter.mpr ⟨f,ac g⟩⟩⟩
 show(List.range (x.length+1)).filter (λs=>!((cW x sp none).filter λt=>decide (t<=s)).isEmpty)=(List.range (x.length+1)).filter (λs=>!(sp.filter λt=>decide (t<=s)).isEmpty);refine List.filter_congr λs h=>?_;rw[Bool.eq_iff_iff,a,a];constructor
 .rintro⟨t,c,b⟩;obtain⟨j,d⟩:=List.mem_filter.mp c;obtain⟨u,i,e⟩:=(a sp t).mp d;exact⟨u,i,aj e b⟩
 .rintro⟨t,c,b⟩;exact⟨s,List.mem_filter.mpr ⟨h,(a sp s).mpr ⟨t,c,b⟩⟩,aF _⟩
set_option tactic.hygienic true in
theorem xG(x:List Nat):∀(is a:List bL) (sp:List Nat),(is.foldl Ie a).foldl (cW x) sp=is.foldl (cW x) (a.foldl (cW x) sp)
 |[],_,_=>rfl
 |i::is,a,sp=>by
  rw[List.foldl_cons,List.foldl_cons,xG x is];congr 1;cases i with
  |some p=>show(a++[some p]).foldl (cW x) sp=_;rw[List.foldl_append];rfl
  |none=>
   show(if a.getLast?=some none then a else a++[none]).foldl (cW x) sp=_
   split
   .rename_i h;rcases dT a with rfl|⟨b,l,rfl⟩
    .cases h
    .rw[jd] at h;cases h;rw[List.foldl_append];show cW x _ none=cW x (cW x _ none) none;rw[CZ]
   .rw[List.foldl_append];rfl
theorem C1(is:List bL)(x:List Nat):dI (jc is) x=dI is x:=by unfold dI jc;rw[xG];rfl
set_option tactic.hygienic true in
theorem C2{i:bL}{is:List bL}(h:gI i):Lz (cC (i::is))=mC i:=by
 show cr [(da i++cC is).getD 0 0] [46]=mC i;rcases h with rfl|rfl|⟨c,_,rfl⟩|rfl|rfl
 .rfl
 .rfl
 .have e:mC (some (true,[c]))=cr [c] [46]:=by show((true==true)&&(cr [c] [46]&&true))=_;rw[Bool.and_true];rfl
  rw[e];show cr [(eG c++cC is).getD 0 0] [46]=_;rw[lf]
  split
  .rename_i a;rcases a with rfl|rfl|rfl<;>rfl
  .rfl
 .rfl
 .rfl
theorem zA{i:bL}(h:gI i):47∉da i/\da i≠[]/\(da i).length<=4:=by
 rcases h with rfl|rfl|⟨c,a,rfl⟩|rfl|rfl
 .exact⟨by decide,by decide,by decide⟩
 .exact⟨by decide,by decide,by decide⟩
 .show 47∉eG c/\eG c≠[]/\(eG c).length<=4;rw[lf]
  split
  .refine⟨λq=>?_,by simp,by simp⟩;simp at q;exact a q.symm
  .refine⟨λq=>a (az.mp q).symm,by simp,by simp⟩
 .exact⟨by decide,by decide,by decide⟩
 .exact⟨by decide,by decide,by decide⟩
theorem vq:∀{is:List bL},(∀i∈is,gI i)->47∉cC is/\(is≠[]->cC is≠[])/\(cC is).length<=4*is.length
 |[],_=>⟨by simp[cC],λh=>aK rfl h,aF _⟩
 |i::is,h=>by obtain⟨a,b,c⟩:=zA (h i (.head _));obtain⟨d,k,f⟩:=vq λj g=>h j (.tail _ g);have e:cC (i::is)=da i++cC is:=rfl;rw[e];refine⟨λq=>(List.mem_append.mp q).elim a d,λk q=>b (List.append_eq_nil_iff.mp q).1,?_⟩;rw[ae,aC];exact k9 c f
def pk(p:List (List bL))(n:dL):Bool:=decide (n.length=p.length)&&eJ p n
theorem rq{p:List (List bL)}{n:dL}:eJ p n=true↔∀k,k<n.length->fq p n k=true:=by unfold eJ;rw[aW];exact⟨λh k a=>h k (List.mem_range.mpr a),λh k a=>h k (List.mem_range.mp a)⟩
theorem t8{p:List (List bL)}{is:List bL}{n:dL}{x:List Nat}(h:n.length=p.length):eJ (p++[is]) (n++[x])=(eJ p n&&w4 is x):=by
 rw[Bool.eq_iff_iff,bf,rq,rq];have d:∀k,k<n.length->fq (p++[is]) (n++[x]) k=fq p n k:=λk a=>by unfold fq;rw[List.getElem?_append_left (by exact Nat.lt_of_lt_of_eq a h),List.getElem?_append_left a]
 have c:fq (p++[is]) (n++[x]) n.length=w4 is x:=by unfold fq;rw[List.getElem?_append_right (by exact aO h.symm),List.getElem?_append_right (by exact aF _),h,Nat.sub_self];rfl
 constructor
 .intro q;refine⟨λk a=>?_,?_⟩
  .rw[<-d k a];exact q k (by rw[ae];exact Nat.lt_succ_of_lt a)
  .rw[<-c];exact q n.length (by rw[ae,aV];exact bh _)
 .rintro⟨e,f⟩ k a;rw[ae,aV] at a;by_cases b:k<n.length
  .rw[d k b];exact e k b
  .rw[show k=n.length by exact Nat.le_antisymm (ir a) (ir (Nat.le_of_not_lt b)),c];exact f
theorem A6{b:List Nat}{i:bL}{is:List bL}{x:List Nat}(h:gI i)(a:x≠[]):eU (cC (i::is)) (jc (i::is)) (b,x)=w4 (i::is) x:=by
 cases x with
 |nil=>exact aK rfl a
 |cons c r=>show((!Lz (c::r)||Lz (cC (i::is)))&&dI (jc (i::is)) (c::r))=(!(cr [c] [46]&&!mC i)&&dI (i::is) (c::r));rw[C2 h,C1,show Lz (c::r)=cr [c] [46] from rfl];cases cr [c] [46]<;>cases mC i<;>rfl
structure zB(N:List dL)(rows:List pq):Prop where
 nodup:N.Nodup
 good:∀n∈N,gR n/\n≠[]
 pre:∀n x,n++[x]∈N->n=[]\/n∈N
 few:N.length<64
 len:∀n∈N,(J n).length<=1000/\∀x∈n,x.length<=1000
 rows:rows.Perm (N.map λm=>(fE (J m),cj (J m)))
section
variable{N:List dL}{rows:List pq}(W:zB N rows)
abbrev N0(N:List dL):List dL:=[]::N
include W
theorem rt{n:dL}(h:n∈N0 N):gR n:=by
 rcases ao.mp h with b|h
 .rw[b];exact λx a=>by cases a
 .exact(W.good n h).1
theorem A7:(N0 N).Nodup:=List.nodup_cons.mpr ⟨λh=>(W.good _ h).2 rfl,W.nodup⟩
theorem rx{m:dL}(h:m∈N):∃n x,m=n++[x]/\n∈N0 N/\gN x/\fE (J m)=J n/\cj (J m)=x:=by
 obtain⟨g,c⟩:=W.good m h;rcases dT m with rfl|⟨n,x,rfl⟩
 .exact aK rfl c
 .have a:=g x (List.mem_append_right _ (.head _));refine⟨n,x,rfl,?_,a,HZ (λy b=>(g y (List.mem_append_left _ b)).1) a.1.2,HY a.1.2⟩;rcases W.pre n x h with e|e
  .rw[e];exact .head _
  .exact .tail _ e
theorem Ig:nJ rows=true:=by
 unfold nJ;rw[bf,aW];refine⟨λr i=>?_,ac (by rw[W.rows.length_eq,ak];have:=W.few;exact aj this (aB _ _))⟩;obtain⟨m,b,rfl⟩:=aE.mp (W.rows.mem_iff.mp i);obtain⟨n,x,e,a,f,c,d⟩:=rx W b;have h:=(W.len m b);have j:x.length<=1000:=h.2 x (by rw[e];exact List.mem_append_right _ (.head _));have g:(J n).length<=1000:=by
  rcases ao.mp a with k|a
  .rw[k];exact Nat.zero_le _
  .exact(W.len n a).1
 show(!(cj (J m)).isEmpty&&decide ((cj (J m)).length<=1000)&&decide ((fE (J m)).length<=1000))=true;rw[c,d,ac j,ac g];cases x with
 |nil=>exact aK rfl f.1.1
 |cons=>rfl
theorem M4{p:List (List bL)}{i:bL}{is:List bL}(B:gI i):(em (dC (((N0 N).filter (pk p)).map J)) (rows.filter (eU (cC (i::is)) (jc (i::is))))).Perm (((N0 N).filter (pk (p++[i::is]))).map J):=by
 have D:(em (dC (((N0 N).filter (pk p)).map J)) (rows.filter (eU (cC (i::is)) (jc (i::is))))).Perm (em (((N0 N).filter (pk p)).map J) (rows.filter (eU (cC (i::is)) (jc (i::is))))):=(gw _).flatMap_right _;have E:∀(o:List dL),(∀n∈o,n∈N0 N)->(em (o.map J) (rows.filter (eU (cC (i::is)) (jc (i::is))))).Perm ((o.flatMap λn=>N.filter λm=>cr (fE (J m)) (J n)&&eU (cC (i::is)) (jc (i::is)) (fE (J m),cj (J m))).map J):=by
  intro o
  induction o with
  |nil=>intro L;exact .refl _
  |cons n o I=>
   intro u;have l:=u n (.head _);rw[List.flatMap_cons,be];show((((rows.filter _).filter λr=>cr r.1 (J n)).map λr=>iE (J n) r.2)++em (o.map J) _).Perm _;refine .append ?_ (I λx H=>u x (.tail _ H));rw[List.filter_filter];refine((W.rows.filter _).map _).trans ?_;rw[List.filter_map,aQ];have e:∀m∈N.filter ((λa=>cr a.fst (J n)&&eU (cC (i::is)) (jc (i::is)) a)∘λm=>(fE (J m),cj (J m))),((λr=>iE (J n) r.snd)∘λm=>(fE (J m),cj (J m))) m=J m:=λm v=>by obtain⟨b,c⟩:=List.mem_filter.mp v;obtain⟨C,x,e,f,t,k,q⟩:=rx W b;replace c:(cr (fE (J m)) (J n)&&eU (cC (i::is)) (jc (i::is)) (fE (J m),cj (J m)))=true:=c;have j:=dW (Bool.and_eq_true_iff.mp c).1;rw[k] at j;show iE (J n) (cj (J m))=J m;rw[q,<-j,e];exact M1 (rt W f).s t.1.2
   rw[List.map_congr_left e];exact .refl _
 refine D.trans ((E _ λn l=>(List.mem_filter.mp l).1).trans (.map J ?_));refine(List.perm_ext_iff_of_nodup ?_ (jv (A7 W))).mpr λm=>?_
 .refine rh (g:=List.dropLast) (jv (A7 W)) (λn L=>jv W.nodup) λn l m v=>?_;obtain⟨b,c⟩:=List.mem_filter.mp v;obtain⟨C,x,e,f,t,k,q⟩:=rx W b;have j:=dW (Bool.and_eq_true_iff.mp c).1;rw[k] at j;rw[e,List.dropLast_concat];exact H8 (rt W f).s (rt W (List.mem_filter.mp l).1).s j
 .rw[List.mem_flatMap,List.mem_filter];constructor
  .rintro⟨n,l,v⟩;obtain⟨b,c⟩:=List.mem_filter.mp v;obtain⟨y,z⟩:=List.mem_filter.mp l;obtain⟨C,x,e,f,t,k,q⟩:=rx W b;refine bx c λj A=>?_;replace j:=dW j;rw[k] at j;obtain rfl:=H8 (rt W f).s (rt W y).s j;rw[k,q,A6 B t.1.1] at A;refine bx z λd w=>?_;replace d:=ar d;refine⟨.tail _ b,?_⟩;unfold pk;rw[e,t8 d,w,A,ac (by rw[ae,ae,d];rfl)];rfl
  .rintro⟨b,c⟩;refine bx c λd w=>?_;replace d:=ar d;have b:m∈N:=by
    rcases ao.mp b with K|h
    .rw[ae,aV,K,List.length_nil] at d;exact aK d (Nat.succ_ne_zero _).symm
    .exact h
   obtain⟨n,x,e,l,t,k,q⟩:=rx W b;rw[e,ae,ae] at d;replace d:n.length=p.length:=Nat.add_right_cancel d;rw[e,t8 d] at w;refine bx w λF G=>?_;refine⟨n,List.mem_filter.mpr ⟨l,?_⟩,List.mem_filter.mpr ⟨b,?_⟩⟩
   .unfold pk;rw[F,ac d];rfl
   .rw[k,q,g7,A6 B t.1.1,G];rfl
def gP(p:List (List bL)):Prop:=∀is∈p,is≠[]/\is.length<=10/\∀i∈is,gI i
omit W in
theorem xH{p:List (List bL)}(h:gP p):(∀x∈p.map cC,sN x)/\(dY p).length<=p.length*41:=by
 refine⟨λx e=>?_,?_⟩
 .obtain⟨is,d,rfl⟩:=aE.mp e;obtain⟨a,b,c⟩:=h is d;obtain⟨f,g,i⟩:=vq c;exact⟨g a,f⟩
 .have:=gW (s:=[47]) (m:=40) (l:=p.map cC) λx e=>by obtain⟨is,d,rfl⟩:=aE.mp e;obtain⟨a,b,c⟩:=h is d;have:=(vq c).2.2;exact k9 (bc 4 b) this
  rw[ak] at this;exact this
theorem xI:∀(m:Nat) (p:List (List bL)) (a:Nat),p.length=m->m<a->m<=20->gP p->i6 a (dY p) rows=some (dC (((N0 N).filter (pk p)).map J))
 |0,p,a+1,d,_,_,_=>by
  obtain rfl:=List.length_eq_zero_iff.mp d;have e:(N0 N).filter (pk [])=[[]]:=by rw[List.filter_cons_of_pos (by rfl)];congr 1;refine List.filter_eq_nil_iff.mpr λn s=>?_;have:=(W.good n s).2;unfold pk;rw[aG (p:=List.length n=([]:List (List bL)).length) (λq=>this (List.length_eq_zero_iff.mp q)),Bool.false_and];decide
  rw[e];show i6 (a+1) [] rows=some [[]];rw[ve,aH rfl]
 |m+1,p,a+1,d,l,b,t=>by
  rcases dT p with rfl|⟨p0,is,rfl⟩
  .cases d
  .have g:p0.length=m:=by rw[ae,aV] at d;exact Nat.succ.inj d
   obtain⟨F,H,v⟩:=t is (List.mem_append_right _ (.head _));have WA:gP p0:=λx u=>t x (List.mem_append_left _ u);obtain⟨sn,y⟩:=xH t;have k:dY (p0++[is])=J (p0.map cC++[cC is]):=by unfold dY;rw[be];rfl
   rw[be] at sn;replace sn:∀x∈p0.map cC++[cC is],sN x:=sn;have c:47∉cC is:=(sn _ (List.mem_append_right _ (.head _))).2;have j:dY (p0++[is])≠[]:=by rw[k];exact zt sn (by simp)
   have C:cj (dY (p0++[is]))=cC is:=by rw[k];exact HY c
   have D:fE (dY (p0++[is]))=dY p0:=by rw[k];exact HZ (λx u=>sn x (List.mem_append_left _ u)) c
   obtain⟨ps,z,A⟩:=zy v;have E:=xI m p0 a g (by exact Nat.lt_of_succ_lt_succ l) (by exact Nat.le_of_lt b) WA;cases is with
   |nil=>exact aK rfl F
   |cons i is=>
    have w:=M4 W (p:=p0) (is:=is) (v i (.head _));have o:∀f∈dC (((N0 N).filter (pk p0)).map J),f.length<=10000:=λf l=>by
     obtain⟨n,s,rfl⟩:=aE.mp (rg.mp l);rcases ao.mp (List.mem_filter.mp s).1 with G|h
     .rw[G];exact Nat.zero_le _
     .have:=(W.len n h).1;exact aj this (aB _ _)
    have r:(em (dC (((N0 N).filter (pk p0)).map J)) (rows.filter (eU (cC (i::is)) (jc (i::is))))).length<64:=by
     rw[w.length_eq,ak];have B:(N0 N).filter (pk (p0++[i::is]))=N.filter (pk (p0++[i::is])):=by rw[List.filter_cons_of_neg];unfold pk;rw[aG (by rw[ae,aV,List.length_nil];omega),Bool.false_and];decide
     rw[B];have:=List.length_filter_le (pk (p0++[i::is])) N;have:=W.few;omega
    rw[ve,av j,C,D,aH ⟨Ig W,by rw[ae,aV] at y;exact AX (bc 41 b) (bc 41 (aO g)) y,(sn _ (List.mem_append_right _ (.head _))).1⟩,z,Option.bind_some,A,Option.bind_some,E,Option.bind_some,aH ⟨o,r⟩,t4 w]
theorem xJ{p:List (List bL)}(c:gP p)(a:p≠[])(b:p.length<=4):i6 5 (dY p) rows=some (nC N p):=by
 rw[xI W p.length p 5 rfl (by exact Nat.lt_succ_of_le b) (by exact aj b (aB _ _)) c];congr 2;rw[List.filter_cons_of_neg]
 .rfl
 .unfold pk;rw[aG (λq=>a (List.length_eq_zero_iff.mp q.symm)),Bool.false_and];decide
end
def kC(x:List Nat):List bL:=x.map λc=>some (true,[c])
theorem xK(x:List Nat):cC (kC x)=eZ x:=by unfold cC kC eZ;rw[aQ,List.flatMap];congr 1
theorem t9(x y:List Nat):eZ (x++y)=eZ x++eZ y:=by unfold eZ;rw[List.flatMap_append]
theorem A8:∀n:dL,eZ (J n)=dY (n.map kC)
 |[]=>rfl
 |[x]=>(xK x).symm
 |x::y::r=>by rw[rk,t9,show(47::J (y::r))=[47]++J (y::r) from rfl,t9,A8 (y::r),show eZ [47]=[47] from by rfl,<-xK x];show _=cC (kC x)++[47]++bA [47] (((y::r).map kC).map cC);rw[aR];rfl
theorem xL:∀(is:List bL) (y:List Nat),is.foldl (cW y) []=[]
 |[],_=>rfl
 |i::is,y=>by
  rewrite[List.foldl_cons,show cW y [] i=[] from ?_,xL is y]
  .rfl
  cases i with
  |none=>show(List.range (y.length+1)).filter (λs=>!(([]:List Nat).filter λt=>decide (t<=s)).isEmpty)=[];exact List.filter_eq_nil_iff.mpr λs a=>by simp
  |some p=>rfl
theorem xM(y:List Nat):∀(x:List Nat) (k:Nat),((kC x).foldl (cW y) [k]).contains y.length=true->y.drop k=x
 |[],k,h=>by replace h:([k].contains y.length)=true:=h;rw[List.contains_iff_mem,az] at h;rw[<-h,List.drop_length]
 |c::x,k,h=>by
  have e:(kC (c::x)).foldl (cW y) [k]=(kC x).foldl (cW y) (cW y [k] (some (true,[c]))):=rfl;rw[e] at h;have d:cW y [k] (some (true,[c]))=if k<y.length/\y.getD k 0=c then [k+1] else []:=by
   show(([k].filter λs=>decide (s<y.length)&&(d5 [y.getD s 0] [c]==true)).map (·+1))=_;by_cases a:k<y.length/\y.getD k 0=c
   .rw[aH a,List.filter_cons_of_pos (by rw[ac a.1,a.2,oM];simp)];rfl
   .rw[av a,List.filter_cons_of_neg (λq=>a ?_)]
    .rfl
    .refine bx q λf b=>?_;rw[oM] at b;have g:decide (y.getD k 0∈[c])=true:=by
      cases h:decide (y.getD k 0∈[c]) with
      |true=>rfl
      |false=>rw[h] at b;cases b
     exact⟨ar f,az.mp (ar g)⟩
  rw[d] at h;by_cases a:k<y.length/\y.getD k 0=c
  .rw[aH a] at h;have:=xM y x (k+1) h;rw[List.drop_eq_getElem_cons a.1,this];congr 1;have:=a.2;rw[List.getD,aD a.1] at this;exact this
  .rw[av a,xL] at h;cases h
theorem Ih(y:List Nat):∀(x:List Nat) (k:Nat),k<=y.length->y.drop k=x->((kC x).foldl (cW y) [k]).contains y.length=true
 |[],k,h,e=>by
  have:k=y.length:=by have:=aU List.length e;rw[List.length_drop,List.length_nil] at this;omega
  rw[this];show [y.length].contains y.length=true;rw[List.contains_iff_mem];exact .head _
 |c::x,k,h,e=>by
  have a:k<y.length:=by have:=aU List.length e;rw[List.length_drop,aC] at this;omega
  rw[List.drop_eq_getElem_cons a] at e;obtain⟨b,d⟩:=List.cons.inj e;have f:cW y [k] (some (true,[c]))=[k+1]:=by show(([k].filter λs=>decide (s<y.length)&&(d5 [y.getD s 0] [c]==true)).map (·+1))=_;rw[List.filter_cons_of_pos (by rw[ac a,oM,List.getD,aD a,Option.getD_some,b];simp)];rfl
  show((kC x).foldl (cW y) (cW y [k] (some (true,[c])))).contains y.length=true;rw[f];exact Ih y x (k+1) a d
theorem A9{x y:List Nat}(b:x≠[])(d:y≠[]):w4 (kC x) y=true↔y=x:=by
 cases x with
 |nil=>exact aK rfl b
 |cons a x=>
  cases y with
  |nil=>exact aK rfl d
  |cons c y=>
   show(!(cr [c] [46]&&!mC (some (true,[a])))&&dI (kC (a::x)) (c::y))=true↔_;rw[bf];constructor
   .exact λh=>xM (c::y) (a::x) 0 h.2
   .intro h;refine⟨?_,Ih (c::y) (a::x) 0 (Nat.zero_le _) h⟩;injection h with h1 h2;have e:mC (some (true,[a]))=cr [a] [46]:=by show((true==true)&&(cr [a] [46]&&true))=_;rw[Bool.and_true];rfl
    rw[e,h1];cases cr [a] [46]<;>rfl
theorem Ii{n:dL}(h:gR n)(j:∀x∈n,x.length<=10):gP (n.map kC):=λis d=>by obtain⟨x,e,rfl⟩:=aE.mp d;obtain⟨⟨a,b⟩,k⟩:=h x e;refine⟨λq=>a (List.map_eq_nil_iff.mp q),by unfold kC;rw[ak];exact j x e,λi g=>?_⟩;obtain⟨c,f,rfl⟩:=aE.mp g;exact .inr (.inr (.inl ⟨c,λq=>b (q▸f),rfl⟩))
theorem Sa{n m:dL}(c:gR n)(f:gR m):pk (n.map kC) m=true↔m=n:=by
 unfold pk;rw[bf,aZ,ak,rq];constructor
 .rintro⟨d,e⟩;refine List.ext_getElem d λk a b=>?_;have:=e k a;unfold fq at this;rw[List.getElem?_map,aD b,aD a] at this;exact(A9 (c _ (List.getElem_mem b)).1.1 (f _ (List.getElem_mem a)).1.1).mp this
 .rintro rfl;refine⟨rfl,λk a=>?_⟩;unfold fq;rw[List.getElem?_map,aD a];exact(A9 (c _ (List.getElem_mem a)).1.1 (c _ (List.getElem_mem a)).1.1).mpr rfl
theorem ry{α:Type}[DecidableEq α]{p:α->Bool}{a:α}:∀{l:List α},l.Nodup->a∈l->(∀b∈l,p b=true↔b=a)->l.filter p=[a]
 |[],_,h,_=>by cases h
 |b::l,g,h,f=>by
  obtain⟨i,j⟩:=List.nodup_cons.mp g;by_cases e:b=a
  .subst e;rw[List.filter_cons_of_pos ((f b (.head _)).mpr rfl)];congr 1;refine List.filter_eq_nil_iff.mpr λc d q=>i ?_;rw[<-(f c (.tail _ d)).mp q];exact d
  .rw[List.filter_cons_of_neg (λq=>e ((f b (.head _)).mp q))];refine ry j ?_ λc d=>f c (.tail _ d);rcases ao.mp h with h|h
   .exact aK h.symm e
   .exact h
theorem C3{N:List dL}{rows:List pq}(W:zB N rows){n:dL}(h:n∈N)(b:n.length<=4)(c:∀x∈n,x.length<=10):i6 5 (eZ (J n)) rows=some [J n]:=by have a:=(W.good n h);rw[A8,xJ W (Ii a.1 c) (λq=>a.2 (List.map_eq_nil_iff.mp q)) (by rw[ak];exact b)];have e:(N.filter λm=>decide (m.length=(n.map kC).length)&&eJ (n.map kC) m)=[n]:=ry W.nodup h λm d=>Sa a.1 (W.good m d).1;unfold nC;rw[e];rfl
def Go(s:Nat)(t x:List Nat)(s':Nat)(t':List Nat):Prop:=∀qt esc ln,∃c a b,∀r,kt ⟨some s,t,qt,esc,ln⟩ (x++r)=kt ⟨some s',t',c,a,b⟩ r
theorem Go.nil(s:Nat)(t:List Nat):Go s t [] s t:=λqt esc ln=>⟨qt,esc,ln,λa=>rfl⟩
theorem Go.trans{s1 c d:Nat}{t1 t2 t3 x y:List Nat}(a:Go s1 t1 x c t2)(b:Go c t2 y d t3):Go s1 t1 (x++y) d t3:=λqt esc ln=>by obtain⟨i,e,l1,g⟩:=a qt esc ln;obtain⟨j,f,l2,h⟩:=b i e l1;exact⟨j,f,l2,λr=>by rw[aR,g,h]⟩
theorem rz{m m':Ms}{s c:Nat}{r:List Nat}(a:m.st=some s)(h:fL (AS m c) s c=some (m',false)):kt m (c::r)=kt m' r:=by
 have e:fV m (some c)=some (m',false):=by unfold fV;rw[a];exact h
 show(match fV m (some c) with
  |some (m',true)=>some (m',r)
  |some (m',false)=>kt m' r
  |none=>none)=kt m' r
 rw[e]
theorem NF{s c s':Nat}{t t':List Nat}(h:∀qt esc ln,∃d a b,fL ⟨some s,t,qt,esc,ln⟩ s c=some (⟨some s',t',d,a,b⟩,false)):Go s t [c] s' t':=λqt esc ln=>by obtain⟨q,e,l,f⟩:=h qt esc (if c=10 then ln+1 else ln);exact⟨q,e,l,λr=>rz (m:=⟨some s,t,qt,esc,ln⟩) (s:=s) rfl f⟩
theorem XS{s c d s':Nat}{t t':List Nat}{e0:Nat}(h:∀qt esc ln,∃b a,fL ⟨some s,t,qt,esc,ln⟩ s c=some (⟨some 92,t,b,e0,a⟩,false))(i:∀qt ln,∃b e a,fL ⟨some 92,t,qt,e0,ln⟩ 92 d=some (⟨some s',t',b,e,a⟩,false)):Go s t [c,d] s' t':=λqt esc ln=>by obtain⟨q,l,g⟩:=h qt esc (if c=10 then ln+1 else ln);obtain⟨k,f,l2,j⟩:=i q (if d=10 then l+1 else l);exact⟨k,f,l2,λr=>(rz (m:=⟨some s,t,qt,esc,ln⟩) (s:=s) rfl g).trans (rz (m:=⟨some 92,t,q,e0,l⟩) (s:=92) rfl j)⟩
def M5(c:Nat):Prop:=¬Ru c/\c≠92/\¬Mg c
theorem XT{c:Nat}{t:List Nat}(h:M5 c):Go 97 t [c] 97 (t++[c]):=NF λqt esc ln=>⟨qt,esc,ln,by unfold fL;rw[av (by decide),aH rfl,av h.1,av h.2.1,av h.2.2]⟩
theorem XU{c:Nat}{t:List Nat}(h:M5 c):Go 32 t [c] 97 [c]:=NF λqt esc ln=>⟨qt,esc,ln,by unfold fL;rw[aH rfl,av h.1,av h.2.1,av h.2.2]⟩
theorem NG{c:Nat}{t:List Nat}(h:Mg c):Go 32 t [c] c t:=NF λqt esc ln=>⟨qt,esc,ln,by
 have a:¬Ru c:=by rcases h with rfl|rfl<;>decide
 have b:c≠92:=by rcases h with rfl|rfl<;>decide
 unfold fL;rw[aH rfl,av a,av b,aH h]⟩
theorem NH{c:Nat}{t:List Nat}(h:Mg c):Go 97 t [c] c t:=NF λqt esc ln=>⟨qt,esc,ln,by
 have a:¬Ru c:=by rcases h with rfl|rfl<;>decide
 have b:c≠92:=by rcases h with rfl|rfl<;>decide
 unfold fL;rw[av (by decide),aH rfl,av a,av b,aH h]⟩
theorem NI{t:List Nat}:Go 39 t [39] 97 t:=NF λqt esc ln=>⟨true,esc,ln,rfl⟩
theorem XV{c:Nat}{t:List Nat}(h:c≠39):Go 39 t [c] 39 (t++[c]):=NF λqt esc ln=>⟨true,esc,ln,by unfold fL;rw[av (by decide),av (by decide),aH rfl,av h]⟩
theorem NJ{t:List Nat}:Go 34 t [34] 97 t:=NF λqt esc ln=>⟨true,esc,ln,rfl⟩
theorem Vz{c:Nat}{t:List Nat}(h:c≠34)(a:c≠92):Go 34 t [c] 34 (t++[c]):=NF λqt esc ln=>⟨true,esc,ln,by unfold fL;rw[av (by decide),av (by decide),av (by decide),aH rfl,av h,av a]⟩
theorem NK{c:Nat}{t:List Nat}(h:c=92\/c=34):Go 34 t [92,c] 34 (t++[c]):=XS (e0:=34) (λqt esc ln=>⟨true,ln,rfl⟩) λqt ln=>⟨qt,34,ln,by rcases h with rfl|rfl<;>rfl⟩
theorem VA{c:Nat}{t:List Nat}:Go 97 t [92,c] 97 (t++[c]):=XS (e0:=97) (λqt esc ln=>⟨qt,ln,rfl⟩) λqt ln=>⟨qt,97,ln,rfl⟩
theorem VB{c:Nat}{t:List Nat}:Go 32 t [92,c] 97 (t++[c]):=XS (e0:=97) (λqt esc ln=>⟨qt,ln,rfl⟩) λqt ln=>⟨qt,97,ln,rfl⟩
theorem VC{t:List Nat}:Go 39 t Ax 39 (t++[39]):=
 (NI.trans (NH (c:=34) (.inr rfl))).trans ((Vz (c:=39) (by decide) (by decide)).trans (NJ.trans (NH (c:=39) (.inl rfl))))
theorem Sb{a b:Nat}(h:a≠b):Nat.beq a b=false:=by
 cases q:Nat.beq a b with
 |false=>rfl
 |true=>exact aK (au q) h
theorem zC:∀(x t:List Nat),Go 39 t (cB 39 Ax x) 39 (t++x)
 |[],t=>by rw[List.append_nil];exact .nil 39 t
 |a::r,t=>by
  by_cases h:a=39
  .subst h;have:=(VC (t:=t)).trans (zC r (t++[39]));rw[aR] at this;exact this
  .have e:cB 39 Ax (a::r)=[a]++cB 39 Ax r:=by show(match Nat.beq a 39 with|true=>_|false=>a::cB 39 Ax r)=_;rw[Sb h];rfl
   have:=(XV (t:=t) h).trans (zC r (t++[a]));rw[aR] at this;rw[e];exact this
theorem ua{c:Nat}(h:eX c=true):M5 c:=by
 have f:∀k:Nat,eX k=false->c≠k:=λk a q=>by rw[q,a] at h;cases h
 refine⟨?_,f 92 (by kernel_rfl),?_⟩
 .rintro(q|q|q|q)
  .exact f 32 (by kernel_rfl) q
  .exact f 9 (by kernel_rfl) q
  .exact f 13 (by kernel_rfl) q
  .exact f 10 (by kernel_rfl) q
 .rintro(q|q)
  .exact f 39 (by kernel_rfl) q
  .exact f 34 (by kernel_rfl) q
theorem Ba:∀(x t:List Nat),(∀c∈x,M5 c)->Go 97 t x 97 (t++x)
 |[],t,_=>by rw[List.append_nil];exact .nil 97 t
 |a::r,t,h=>by have:=(XT (t:=t) (h a (.head _))).trans (Ba r (t++[a]) λc b=>h c (.tail _ b));rw[aR] at this;exact this
theorem xN{x:List Nat}(e:x≠[]):Go 32 [] (dt x) 97 x:=by
 unfold dt;cases b:x.all eX with
 |true=>
  rw[aW] at b;cases x with
  |nil=>exact aK rfl e
  |cons a r=>exact(XU (t:=[]) (ua (b a (.head _)))).trans (Ba r [a] λc d=>ua (b c (.tail _ d)))
 |false=>exact((NG (t:=[]) (c:=39) (.inl rfl)).trans (zC x [])).trans NI
theorem Ij:∀(x t:List Nat),Go 97 t (x.flatMap λc=>[92,c]) 97 (t++x)
 |[],t=>by rw[List.append_nil];exact .nil 97 t
 |a::r,t=>by have:=(VA (c:=a) (t:=t)).trans (Ij r (t++[a]));rw[aR] at this;exact this
theorem vt:∀(x t:List Nat),Go 34 t (cB 34 [92,34] (cB 92 [92,92] x)) 34 (t++x)
 |[],t=>by rw[List.append_nil];exact .nil 34 t
 |a::r,t=>by
  by_cases h:a=92
  .subst h;have:=(NK (t:=t) (.inl rfl)).trans (vt r (t++[92]));rw[aR] at this;exact this
  .have e:cB 92 [92,92] (a::r)=a::cB 92 [92,92] r:=by show(match Nat.beq a 92 with|true=>_|false=>a::cB 92 [92,92] r)=_;rw[Sb h]
   rw[e];by_cases b:a=34
   .subst b;have:=(NK (t:=t) (.inr rfl)).trans (vt r (t++[34]));rw[aR] at this;exact this
   .have c:cB 34 [92,34] (a::cB 92 [92,92] r)=[a]++cB 34 [92,34] (cB 92 [92,92] r):=by show(match Nat.beq a 34 with|true=>_|false=>a::cB 34 [92,34] (cB 92 [92,92] r))=_;rw[Sb b];rfl
    have:=(Vz (t:=t) b h).trans (vt r (t++[a]));rw[aR] at this;rw[c];exact this
theorem zD{x:List Nat}(b:x≠[]):∀k:Nat,Go 32 [] (fy k x) 97 x
 |0=>xN b
 |1=>by
  cases x with
  |nil=>exact aK rfl b
  |cons a r=>exact(VB (c:=a) (t:=[])).trans (Ij r [a])
 |k+2=>((NG (t:=[]) (c:=34) (.inr rfl)).trans (vt x [])).trans NJ
theorem Sd{t r:List Nat}{qt:Bool}{e:Nat}{ln:Int}(b:t≠[]):kt ⟨some 97,t,qt,e,ln⟩ (32::r)=some (⟨some 32,t,qt,e,ln⟩,r):=by
 have h:(!t.isEmpty||qt)=true:=by
  cases t with
  |nil=>exact aK rfl b
  |cons=>rfl
 have a:fV ⟨some 97,t,qt,e,ln⟩ (some 32)=some (⟨some 32,t,qt,e,ln⟩,!t.isEmpty||qt):=rfl;rw[h] at a;rw[Ht,a]
theorem Se{y t r:List Nat}(h:Go 32 [] y 97 t)(b:t≠[])(ln:Int):∃a,rX (some 32) ln (y++32::r)=some (some t,some 32,a,r):=by obtain⟨q,e,l,c⟩:=h false 32 ln;refine⟨l,?_⟩;unfold rX;rw[c,Sd b,Option.map_some,av (λz=>b z.2)]
theorem M6{y t:List Nat}(h:Go 32 [] y 97 t)(c:t≠[])(ln:Int):∃b,rX (some 32) ln y=some (some t,none,b,[]):=by obtain⟨q,e,l,a⟩:=h false 32 ln;replace a:=a [];rw[List.append_nil] at a;refine⟨l,?_⟩;unfold rX;rw[a,show kt ⟨some 97,t,q,e,l⟩ []=some (⟨none,t,q,e,l⟩,[]) from rfl,Option.map_some,av (λz=>c z.2)]
theorem xO:∀(ps:List (List Nat×List Nat)) (n:Nat) (ln:Int),(∀p∈ps,p.2≠[]/\Go 32 [] p.1 97 p.2)->ps.length<n->gZ n (some 32) ln (bA [32] (ps.map (·.1)))=some (ps.map (·.2))
 |_,0,_,_,h=>aK h (Nat.not_lt_zero _)
 |[],n+1,ln,_,_=>rfl
 |[p],n+1,ln,h,a=>by
  obtain⟨b,c⟩:=h p (.head _);obtain⟨l,e⟩:=M6 c b ln;cases n with
  |zero=>exact aK a (by show ¬ 1<1;decide)
  |succ n=>show gZ (n+1+1) (some 32) ln p.1=some [p.2];rw[n6,e];rfl
 |p::q::r,n+1,ln,h,a=>by
  obtain⟨b,c⟩:=h p (.head _);have d:bA [32] ((p::q::r).map (·.1))=p.1++32::bA [32] ((q::r).map (·.1)):=by show p.1++[32]++bA [32] ((q::r).map (·.1))=_;rw[aR];rfl
  obtain⟨l,e⟩:=Se (r:=bA [32] ((q::r).map (·.1))) c b ln;have g:=xO (q::r) n l (λx f=>h x (.tail _ f)) (by rw[aC] at a;exact Nat.lt_of_succ_lt_succ a);rw[d];rw[n6,e];show(gZ n (some 32) l (bA [32] ((q::r).map (·.1)))).map (p.2::·)=_;rw[g];rfl
theorem Bb:∀l:List (List Nat),l.length<=(bA [32] l).length+1
 |[]=>Nat.zero_le _
 |[a]=>by show 1<=_;exact Nat.succ_pos _
 |a::b::r=>by have:=Bb (b::r);show(b::r).length+1<=(a++[32]++bA [32] (b::r)).length+1;rw[ae,ae,aV];exact ir this
theorem ub{ps:List (List Nat×List Nat)}(h:∀p∈ps,p.2≠[]/\Go 32 [] p.1 97 p.2):ju (bA [32] (ps.map (·.1)))=some (ps.map (·.2)):=by unfold ju;refine xO ps _ 1 h ?_;have:=Bb (ps.map (·.1));rw[ak] at this;exact Nat.lt_succ_of_le this
theorem uc(x:List Nat):(dt x).length<=x.length*6+2:=by
 unfold dt;cases x.all eX with
 |true=>show x.length<=_;exact Sp
 |false=>have:=fC 39 Ax x;show(([39]++cB 39 Ax x)++[39]).length<=_;rw[ae,ae];have e:Ax.length+1=6:=rfl;rw[e] at this;show 1+_+1<=_;exact ir this
theorem Bc:∀x:List Nat,(x.flatMap λc=>[92,c]).length=x.length*2
 |[]=>rfl
 |a::r=>by show(92::a::(r.flatMap λc=>[92,c])).length=(r.length+1)*2;rw[aC,aC,Bc r];exact Nat.le_antisymm (Sp) (Sp)
theorem xP(x:List Nat)(h:x.length<=100):∀k:Nat,(fy k x).length<=1000
 |0=>by have:=uc x;show(dt x).length<=_;exact k9 (bc 6 h) this
 |1=>by show(x.flatMap λc=>[92,c]).length<=_;rw[Bc];exact aj (Nat.mul_le_mul_right _ h) (by decide)
 |k+2=>by have d:=fC 92 [92,92] x;have e:=fC 34 [92,34] (cB 92 [92,92] x);show(([34]++cB 34 [92,34] (cB 92 [92,92] x))++[34]).length<=_;rw[ae,ae];have a:([92,92]:List Nat).length+1=3:=rfl;have b:([92,34]:List Nat).length+1=3:=rfl;rw[a] at d;rw[b] at e;show 1+_+1<=_;omega
theorem Ik(t:Int):(yQ t).toNat≠47:=by
 unfold yQ
 split
 .omega
 .split<;>omega
theorem xQ{c:Nat}(b:c≠47):∀x∈kn [c],gN x/\x.length<=4:=λx a=>by
 unfold kn at a;simp only[ao,List.not_mem_nil,or_false] at a;rcases a with a|a|a|a|a|a|a|a|a|rfl
 all_goals first|(subst a;exact⟨⟨⟨by decide,by decide⟩,by decide,by decide⟩,by decide⟩)|skip
 refine⟨⟨⟨by simp,λq=>?_⟩,by simp,by simp⟩,by simp⟩;rcases ao.mp q with q|q
 .cases q
 .exact b (az.mp q).symm
theorem Sf{c:Nat}(d:c≠47)(v:Int):gR (qY v [c])/\qY v [c]≠[]/\(qY v [c]).length<=3/\∀x∈qY v [c],x.length<=4:=by
 have f:∀x∈qY v [c],x∈kn [c]:=λx b=>by obtain⟨k,g,rfl⟩:=aE.mp b;have e:Fi v k<(kn [c]).length:=G2 v k;rw[List.getD,aD e];exact List.getElem_mem e
 have a:(qY v [c]).length=(v%3+1).toNat:=by unfold qY;rw[ak,List.length_range]
 refine⟨λx b=>(xQ d x (f x b)).1,λq=>?_,by omega,λx b=>(xQ d x (f x b)).2⟩;rw[q,List.length_nil] at a;omega
theorem Il{c:Nat}(b:c≠47)(k:Nat):gI ((gG [c]).getD k none):=by
 rw[List.getD];cases h:(gG [c])[k]? with
 |none=>exact .inl rfl
 |some i=>
  have a:=List.mem_of_getElem? h;show gI i;unfold gG at a;simp only[ao,List.not_mem_nil,or_false] at a;rcases a with rfl|rfl|rfl|rfl|rfl|rfl|rfl|rfl|rfl|rfl|rfl|rfl
  .exact .inr (.inr (.inl ⟨97,by decide,rfl⟩))
  .exact .inr (.inr (.inl ⟨98,by decide,rfl⟩))
  .exact .inr (.inr (.inl ⟨42,by decide,rfl⟩))
  .exact .inl rfl
  .exact .inl rfl
  .exact .inr (.inl rfl)
  .exact .inr (.inr (.inr (.inl rfl)))
  .exact .inr (.inr (.inr (.inr rfl)))
  .exact .inr (.inr (.inl ⟨46,by decide,rfl⟩))
  .exact .inr (.inr (.inl ⟨91,by decide,rfl⟩))
  .exact .inr (.inr (.inl ⟨c,b,rfl⟩))
  .exact .inr (.inr (.inl ⟨32,by decide,rfl⟩))
theorem Sg{c:Nat}(d:c≠47)(p:Int):qG p [c]≠[]/\(qG p [c]).length<=2/\∀is∈qG p [c],is≠[]/\is.length<=3/\∀i∈is,gI i:=by
 have a:(qG p [c]).length=(p%2+1).toNat:=by unfold qG;rw[ak,List.length_range]
 refine⟨λq=>by rw[q,List.length_nil] at a;omega,by omega,λis b=>?_⟩;obtain⟨k,g,rfl⟩:=aE.mp b;generalize p/(2*5184^k)%5184=q;have f:(jq q [c]).length=(q%3+1).toNat:=by unfold jq;rw[ak,List.length_range]
 refine⟨λz=>by rw[z,List.length_nil] at f;omega,by omega,λi e=>?_⟩;obtain⟨j,g,rfl⟩:=aE.mp e;exact Il d _
theorem M7{i:bL}(h:gI i):lJ i=true:=by rcases h with rfl|rfl|⟨c,_,rfl⟩|rfl|rfl<;>rfl
theorem og(sc:List Int):(bZ sc).length<=7/\bZ sc≠[]:=by unfold bZ;refine⟨?_,by simp⟩;rw[ak,ae,List.length_take];show 3+_<=7;omega
section
variable(sc:List Int)
theorem mP:∀k∈bU sc,gR k/\k≠[]/\k.length<=3/\∀x∈k,x.length<=4:=λk a=>by obtain⟨v,b,rfl⟩:=aE.mp a;exact Sf (Ik _) v
theorem kE:∀p∈cx sc,p≠[]/\p.length<=2/\∀is∈p,is≠[]/\is.length<=3/\∀i∈is,gI i:=λp a=>by obtain⟨v,b,rfl⟩:=aE.mp a;exact Sg (Ik _) _
theorem oh:(bU sc).length<=7:=by unfold bU;rw[ak];exact(og sc).1
theorem lg:(cx sc).length<=7/\cx sc≠[]:=by unfold cx;refine⟨by rw[ak];exact(og sc).1,λq=>(og sc).2 (List.map_eq_nil_iff.mp q)⟩
theorem VD{p:List (List bL)}(h:p∈cx sc):gP p:=λis d=>by obtain⟨a,b,c⟩:=(kE sc p h).2.2 is d;exact⟨a,by exact aj b (aB _ _),c⟩
theorem xR{p:List (List bL)}(h:p∈cx sc):dY p≠[]/\(dY p).length<=82:=by obtain⟨a,b,d⟩:=kE sc p h;obtain⟨s1,c⟩:=xH (VD sc h);exact⟨zt s1 (λq=>a (List.map_eq_nil_iff.mp q)),by exact k9 (bc 41 b) c⟩
theorem ud{k:dL}(h:k∈bU sc):(bA [47,47] k).length<=18:=by obtain⟨c,c,a,b⟩:=mP sc k h;have:=gW (s:=[47,47]) (m:=4) (l:=k) b;have e:4+([47,47]:List Nat).length=6:=rfl;rw[e] at this;exact k9 (bc 6 a) this
theorem ue{k:dL}(h:k∈bU sc):(eL k).length<=25:=by have:=ud sc h;unfold eL;rw[ae,ae];show 2+_+5<=_;exact ir this
theorem mQ:∀w∈bt sc,w≠[]/\w.length<=100:=λw a=>by
 rcases List.mem_append.mp a with a|a
 .obtain⟨k,b,rfl⟩:=aE.mp a;have:=ue sc b;exact⟨by unfold eL;simp,by exact aj this (aB _ _)⟩
 .obtain⟨p,c,rfl⟩:=aE.mp a;have:=xR sc c;exact⟨this.1,by omega⟩
theorem uf:(bt sc).length<=14:=by have:=oh sc;have:=(lg sc).1;unfold bt;rw[ae,ak,ak];omega
theorem g6{n:dL}(h:n∈bz (bU sc)):gR n/\n≠[]/\n.length<=3/\(∀x∈n,x.length<=4)/\(J n).length<=15:=by obtain⟨k,o,i⟩:=jb.mp h;obtain⟨a,b,c,d⟩:=mP sc k o;have g:=CY i;obtain⟨j,f⟩:=Id i;have e:∀x∈n,x.length<=4:=λx e=>d x (g x e);have:(J n).length<=n.length*5:=gW (s:=[47]) (m:=4) (l:=n) e;exact⟨λx e=>a x (g x e),j,by exact aj f c,e,by exact AX (bc 5 c) (bc 5 f) this⟩
theorem mR:lM ((bU sc).map eL)=some (bF (bU sc))/\(bz (bU sc)).length<64:=by have:=oh sc;refine zw (λk e=>?_) (by exact ir (bc 3 this));obtain⟨a,b,c,d⟩:=mP sc k e;have:=ue sc e;refine⟨a,b,c,by exact aj this (aB _ _),λz f=>?_⟩;have:=(g6 sc (jb.mpr ⟨k,e,f⟩)).2.2.2.2;exact aj this (aB _ _)
theorem Bd:zB (bz (bU sc)) (cH (bF (bU sc))):=by
 refine⟨oO _,λn c=>⟨(g6 sc c).1,(g6 sc c).2.1⟩,λn x h=>?_,(mR sc).2,λn c=>?_,?_⟩
 .by_cases c:n=[]
  .exact .inl c
  .obtain⟨k,f,i⟩:=jb.mp h;refine .inr (jb.mpr ⟨k,f,oP (im.mpr (.inl ?_)) i⟩);rcases dT n with e|⟨m,y,e⟩
   .exact aK e c
   .rw[e];exact im.mpr (.inr rfl)
 .obtain⟨d,d,d,a,b⟩:=g6 sc c;exact⟨by exact aj b (aB _ _),λx g=>by have:=a x g;exact aj this (aB _ _)⟩
 .have h:=(gw ((bz (bU sc)).map J)).map λp=>(fE p,cj p);rw[aQ] at h;exact h
theorem ug{p:List Nat}(h:p∈bF (bU sc)):∃n∈bz (bU sc),p=J n:=by obtain⟨n,a,rfl⟩:=aE.mp (rg.mp h);exact⟨n,a,rfl⟩
theorem Be{p:List (List bL)}(f:p∈cx sc):(js (bU sc) p).length<=64/\∀w∈js (bU sc) p,w≠[]/\w.length<=82:=by
 obtain⟨a,b⟩:=xR sc f;have d:(nC (bz (bU sc)) p).length<=64/\∀w∈nC (bz (bU sc)) p,w≠[]/\w.length<=82:=by
  unfold nC;refine⟨?_,λw c=>?_⟩
  .rw[HX,ak];exact aj (List.length_filter_le _ _) (Nat.le_of_lt (mR sc).2)
  .obtain⟨n,e,rfl⟩:=aE.mp (rg.mp c);obtain⟨g,h,i,i,l⟩:=g6 sc (List.mem_filter.mp e).1;exact⟨zt g.s h,by show(J n).length<=82;exact aj l (aB _ _)⟩
 unfold js UL
 split
 .exact⟨by show 1<=64;exact Nat.succ_pos _,λw c=>by rw[az.mp c];exact⟨a,b⟩⟩
 .exact d
theorem uh{α β:Type}{f:α->List β}{m:Nat}:∀{l:List α},(∀a∈l,(f a).length<=m)->(l.flatMap f).length<=l.length*m
 |[],_=>Nat.zero_le _
 |a::l,h=>by have:=uh λb c=>h b (.tail _ c);have:=h a (.head _);rw[List.flatMap_cons,ae,aC,Nat.add_mul,Nat.one_mul];omega
theorem mT:(bW (bU sc) (cx sc)).length<=448/\∀w∈bW (bU sc) (cx sc),w≠[]/\w.length<=82:=by
 refine⟨?_,λw b=>?_⟩
 .have:=uh (m:=64) (f:=js (bU sc)) (l:=cx sc) λp a=>(Be sc a).1;have:=(lg sc).1;unfold bW;omega
 .obtain⟨p,a,h⟩:=List.mem_flatMap.mp b;exact(Be sc a).2 w h
theorem Im{m:Nat}:∀{l:List Nat},(∀x∈l,x<=m)->l.sum<=l.length*m
 |[],_=>Nat.zero_le _
 |a::l,h=>by have:=Im λb c=>h b (.tail _ c);have:=h a (.head _);rw[List.sum_cons,aC,Nat.add_mul,Nat.one_mul];omega
theorem Io{p:List (List bL)}(j:p∈cx sc):wY p=true:=by obtain⟨a,b,c⟩:=kE sc p j;unfold wY;rw[ac (by exact aj b (aB _ _)),Bool.true_and,aW];intro is g;obtain⟨d,e,f⟩:=c is g;rw[ac (by exact aj e (aB _ _)),Bool.true_and,aW];exact λi h=>M7 (f i h)
theorem Ip{α:Type}{x:List α}(h:x≠[]):mD x=true:=by
 cases x with
 |nil=>exact aK rfl h
 |cons=>rfl
theorem Sh:LW (bU sc) (cx sc) (bt sc) where
 small:=by
  have:=Im (m:=3) (l:=(bU sc).map List.length) λx h=>by obtain⟨k,u,rfl⟩:=aE.mp h;exact(mP sc k u).2.2.1
  have:=oh sc;rw[ak] at*;omega
 few:=(mR sc).2
 nlen:=λn f=>by have:=(g6 sc f).2.2.2.2;show(J n).length<=_;omega
 paths:=by unfold bt;rw[List.take_append_of_le_length (by rw[ak];exact aF _),List.take_of_length_le (by rw[ak];exact aF _)];exact(mR sc).1
 plen:=λp r=>by obtain⟨n,f,rfl⟩:=ug sc r;have:=(g6 sc f).2.2.2.2;omega
 pne:=(lg sc).2
 pfew:=by have:=(lg sc).1;omega
 pok:=λps d=>by obtain⟨a,b,c⟩:=kE sc ps d;refine⟨?_,Io sc d⟩;unfold w6;rw[ac (mR sc).2,ac (by omega),bf,bf,aW,aW];refine⟨⟨rfl,λis q=>Ip (c is q).1⟩,λn f=>?_⟩;rw[aW];intro x h;obtain⟨g,i,i,l,i⟩:=g6 sc f;have:=l x h;rw[Ip (g x h).1.1,ac (by omega)];rfl
 rlen:=by unfold bt;rw[ae,ak,ak]
 told:=λk ps w j o=>by
  have d:=List.mem_of_getElem? j;have e:w=dY ps:=by unfold bt at o;rw[List.getElem?_append_right (by rw[ak];omega),ak,Nat.add_sub_cancel_left,List.getElem?_map,j] at o;cases o;rfl
  obtain⟨a,b,i⟩:=kE sc ps d;refine⟨nC (bz (bU sc)) ps,?_,?_⟩
  .rw[e];exact xJ (Bd sc) (VD sc d) a (by omega)
  .rw[e];rfl
 dfew:=by have:=(mT sc).1;omega
 dok:=λw t=>by have:=(mT sc).2 w t;exact⟨this.1,by omega⟩
 djoin:=by
  have j:=gW (s:=[32]) (m:=494) (l:=(bW (bU sc) (cx sc)).map dt) λx h=>by obtain⟨w,t,rfl⟩:=aE.mp h;have:=uc w;have:=((mT sc).2 w t).2;omega
  rw[ak] at j;exact aj j (aj (Nat.mul_le_mul_right _ (mT sc).1) (by decide))
 back:=λp r=>by obtain⟨n,f,rfl⟩:=ug sc r;obtain⟨i,i,a,b,i⟩:=g6 sc f;exact C3 (Bd sc) f (by omega) λx h=>by have:=b x h;omega
theorem xS:(List.range (bt sc).length).map (λk=>(bt sc).getD k [])=bt sc:=by refine List.ext_getElem (by rw[ak,List.length_range]) λk b a=>?_;rw[List.getElem_map,List.getElem_range,List.getD,aD a];rfl
theorem zE:ju (bA [32] (gJ (bt sc)))=some (bt sc):=by
 have h:=ub (ps:=(List.range (bt sc).length).map λk=>(fy (k%3) ((bt sc).getD k []),(bt sc).getD k [])) λp c=>by
  obtain⟨k,a,rfl⟩:=aE.mp c;replace a:=List.mem_range.mp a;have b:(bt sc).getD k []∈bt sc:=by rw[List.getD,aD a];exact List.getElem_mem a
  exact⟨(mQ sc _ b).1,zD (mQ sc _ b).1 _⟩
 rw[aQ,aQ] at h;exact h.trans (aU some (xS sc))
theorem Iq:ju (bA [32] ((bW (bU sc) (cx sc)).map dt))=some (bW (bU sc) (cx sc)):=by
 have h:=ub (ps:=(bW (bU sc) (cx sc)).map λw=>(dt w,w)) λp a=>by obtain⟨w,b,rfl⟩:=aE.mp a;have:=((mT sc).2 w b).1;exact⟨this,xN this⟩
 rw[aQ,aQ] at h;exact h.trans (aU some (List.map_id' _))
theorem C4:G3 sc where
 kjoin:=λk a=>by have:=ud sc a;exact aj this (aB _ _)
 pok:=λp e=>Io sc e
 wok:=λw f=>by have:=mQ sc w f;exact⟨this.1,by omega⟩
 wfew:=by have:=uf sc;omega
 sjoin:=by
  have b:=gW (s:=[32]) (m:=1000) (l:=gJ (bt sc)) λx g=>by
   obtain⟨k,a,rfl⟩:=aE.mp g;replace a:=List.mem_range.mp a;refine xP _ ?_ _;have d:(bt sc).getD k []∈bt sc:=by rw[List.getD,aD a];exact List.getElem_mem a
   exact(mQ sc _ d).2
  have c:(gJ (bt sc)).length=(bt sc).length:=by unfold gJ;rw[ak,List.length_range]
  rw[c] at b;exact aj b (aj (Nat.mul_le_mul_right _ (uf sc)) (by decide))
 held:=Sh sc
end
theorem VE(P:aw):∃vs:Array ai,(hT P).get? dM=some {cls:=.none,data:=.fields vs}/\TriplesOk vs.toList:=by refine⟨_,(by kernel_rfl:(hT P).get? 185=some {cls:=.none,data:=.fields #[]}),trivial⟩
theorem Si{w:aq}{h:Heap}(Y:∀b o,(hT w.params).get? b=some o->h.get? b=some o):cT w h:=by obtain⟨vs,e,t⟩:=VE w.params;refine⟨λb o q c=>Y b o q,vs,Y _ _ e,t,λvs' a=>⟨#[],?_⟩⟩;rw[e] at a;cases a;rw[Array.append_empty]
theorem VF(w:aq):tX w rC.name=some (.ref 995):=by kernel_rfl
theorem xT{g:Gx}{ts:Tb}:∀{vs:List ai} {ns:List Int},IntsAre vs ns->dj g ts vs (iD ns)
 |_,_,.nil=>.nil
 |_,_,.cons n t h=>.cons (.int n t) (xT h)
theorem xU:∀{vs:List ai} {ns:List Int},IntsAre vs ns->vs.length=ns.length
 |_,_,.nil=>rfl
 |_,_,.cons n t h=>aU (·+1) (xU h)
theorem Ir{P:aw}{h:Heap}{v:ai}{n:Int}(r:Well P h v (.int n)):∃t,v=.int n t:=by cases r with|int n t=>exact⟨t,rfl⟩
theorem ui{P:aw}{h:Heap}:∀{ns:List Int} {vs:List ai},WellAll P h vs (ns.map WData.int)->IntsAre vs ns
 |[],vs,a=>by cases(show WellAll P h vs [] from a);exact .nil
 |n::ns,vs,a=>by
  cases(show WellAll P h vs (.int n::ns.map WData.int) from a) with
  |cons b c=>obtain⟨t,e⟩:=Ir b;rw[e];exact .cons n t (ui c)
theorem uj:∀ns:List Int,ofPys (ns.map PyData.int)=ns.map WData.int
 |[]=>rfl
 |_::r=>aU (_::·) (uj r)
set_option tactic.hygienic true in
theorem It{w:aq}{c:af}{s:Str->Option ai}{a l:Addr}{ns:List Int}(Y:∀b o,(hT w.params).get? b=some o->c.heap.get? b=some o)(i:s rC.name=some (.ref a))(A:c.heap.Ns mainGlobals s)(D:c.gens=#[])
 (C:Well w.params c.heap (.ref l) (.list (ns.map WData.int)))(f:ns.length<=63):an (model pw w) callerA (PySem.call (.ref a) [.ref l]) (λv s'=>v=.bool true/\OldK c.heap s'.heap/\s'.os=c.os/\AllBare s'.gens) bM c:=by
 have B:cT w c.heap:=Si Y;obtain rfl:a=995:=by have m:=(A.agree (UN B) rC.name).symm.trans i;rw[VF] at m;cases m;rfl
 cases C with
 |list e y=>
  rename_i vs;have n:=ui y;have F:Rd (bJ [] c.heap) [] (.ref l) (.list (iD ns)):=by refine .list (cc e (λq=>by cases q)) ?_ (by simpa using xT n);show vs.toArray.size<=br;rw[List.size_toArray,xU n];exact aj f (by decide)
  refine wpAny_call (codeAny_mono (HV (C4 ns) (zE ns) (Iq ns) ⟨rfl,by decide,by decide⟩ rfl B F) λr G z=>?_);obtain⟨v,rfl,rfl,u,k⟩:=lQ z;obtain⟨h',tk,rfl,t,p,t⟩:=k;refine⟨rfl,?_,rfl,.of_eq D⟩;obtain⟨h,e0,H⟩:=VE w.params;obtain⟨ps,j,t,gP⟩:=u.lam;obtain⟨g,E⟩:=gP h e0;have x:=Y _ _ e0;refine⟨λb o eb=>?_,λb o eb=>?_⟩
  .by_cases d:b=dM
   .subst d;rw[x] at eb;cases eb;exact .inr (.inl ⟨⟨189,_,_,Y _ _ (S7 w.params),rfl,rfl,rfl⟩,rfl,h,g,rfl,by rw[<-E];exact j⟩)
   .exact .inl (p b o eb (λq=>d (az.mp q)) (λq=>by cases q))
  .by_cases d:b=dM
   .subst d;exact⟨_,j⟩
   .exact⟨o,p b o eb (λq=>d (az.mp q)) (λq=>by cases q)⟩
set_option tactic.hygienic true in
theorem XW:pA.Holds:=by
 refine holds_law VK λt=>NR t ?_;intro w j k y u G Y a g o args l as d b h i f
 wrow_args d b h i f
 rename_i ns _ _ _ _ _ _ _ _ _ _ _ _ s _ _ _ c _;refine am (It (ns:=ns) Y g G.T.g o (by rw[<-uj];exact s) (by exact ir (Nat.le_of_not_lt λq=>c (Int.ofNat_lt.mpr q)))) (λv s' z=>?_) λe e x=>x.elim;obtain⟨rfl,m,r,n⟩:=z;exact⟨.inl ⟨_,_,[],rfl,λe=>rfl,ReadsW.bool true,by first|rfl|wrow_post,λe=>⟨List.nodup_nil,λe p=>nomatch p⟩⟩,m,r,n⟩
end Mine
theorem PySem.Challenge.cw_il0209_01_holds : PySem.Challenge.rw_il0209_01.Holds :=
  Mine.XW
