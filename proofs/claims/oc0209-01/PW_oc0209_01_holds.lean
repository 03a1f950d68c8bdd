import PyProof.Rows.All
import PySem.Syntax
import PyProof.FString4
import KE.KStar
import KE.KBoundM
import KE.KSortKey
import KE.KLam
import PyProof.ListRange
import KE.KNestM
import Wide.All
import Open.Line
import OpenK.KMore
import OpenK.KMake
import OpenK.KMeth
import OpenK.KDict
import OpenK.KFacts
import OpenK.XOpen
import OpenK.KTop
import OpenK.KCell
import OpenK.KWalk
import Wide.FinOn
import PySem.Challenge.RW_oc0209_01
set_option autoImplicit false
set_option Elab.async false
set_option maxRecDepth 100000
set_option maxHeartbeats 8000000
set_option tactic.hygienic false
set_option genSizeOf false
set_option genInjectivity false
set_option bootstrap.genMatcherCode false
set_option backward.match.sparseCases false
set_option linter.all false
namespace Mine
abbrev Z9:=@Option.some.inj
abbrev Z8:=@PySem.wpAny_bind
abbrev Z7:=@List.getElem?_eq_getElem
abbrev Z0:=@List.length_map
abbrev ZZ:=@List.append_assoc
abbrev ZY:=@List.mem_cons_of_mem
abbrev ZX:=@List.mem_cons_self
abbrev ZW:=@PySem.wpAny_pure
abbrev ZV:=@congrArg
abbrev ZU:=@Option.map_eq_some_iff
abbrev ZT:=@List.append_nil
abbrev ZS:=@List.mem_cons
abbrev ZR:=@Bool.and_eq_true_iff
abbrev ZQ:=@Nat.le_add_left
abbrev ZP:=@List.getElem?_eq_some_iff
abbrev ZO:=@PySem.wpAny_mono
abbrev ZN:=@List.nodup_cons
abbrev ZM:=@List.mem_append_right
abbrev ZL:=@of_decide_eq_true
abbrev ZK:=@List.mem_of_getElem?
abbrev ZJ:=@Bool.and_eq_true
abbrev ZI:=@List.length_append
abbrev ZH:=@List.getElem?_map
abbrev ZG:=@Nat.lt_of_le_of_lt
abbrev ZF:=@List.getElem?_append_right
abbrev ZE:=@Nat.le_refl
abbrev ZD:=@Nat.le_trans
abbrev ZC:=@Nat.le_of_ble_eq_true
abbrev ZB:=@List.mem_filter
abbrev ZA:=@decide_eq_true
abbrev Zz:=@List.all_eq_true
abbrev Zy:=@List.mem_append
abbrev Zx:=@Option.some_ne_none
abbrev Zw:=@PySem.wpAny_holding
abbrev Zv:=@Array.getElem?_setIfInBounds_ne
abbrev Zu:=@PySem.Heap.get?_push_size
abbrev Zt:=@List.mem_iff_getElem
abbrev Zr:=@Nat.eq_of_beq_eq_true
abbrev Zq:=@PySem.Heap.get?_push_of_some
abbrev Zp:=@Nat.le_add_right
abbrev Zo:=@decide_eq_false
abbrev Zn:=@List.mem_singleton
abbrev Zm:=@List.mem_append_left
abbrev Zl:=@List.nodup_append
abbrev Zk:=@Nat.ne_of_lt
abbrev Zj:=@Nat.lt_of_lt_of_le
abbrev Zi:=@List.map_cons
abbrev Ze:=@Option.isNone_iff_eq_none
abbrev Zd:=@Option.bind_eq_some_iff
abbrev Zc:=@List.map_append
abbrev Zb:=@List.length_filter_le
abbrev Za:=@List.mem_map
abbrev Y9:=@beq_iff_eq
abbrev Y8:=@List.mem_map_of_mem
abbrev Y7:=@Prod.mk.inj
abbrev Y6:=@List.mem_range
abbrev Y5:=@List.filter_congr
abbrev Y4:=@List.lookup_cons
abbrev Y3:=@beq_self_eq_true
abbrev Y1:=@List.pairwise_cons
abbrev Y0:=@List.getElem_mem
abbrev YZ:=@Array.getElem?_setIfInBounds_self_of_lt
abbrev YY:=@PySem.Sem.bind_eq_wrap'
abbrev YX:=@Nat.not_lt_zero
abbrev YW:=@Nat.le_antisymm
abbrev YV:=@Option.isSome_iff_exists
abbrev YU:=@List.filter_cons
abbrev YT:=@PySem.Calls.Name_function_global
abbrev YS:=@Array.getElem?_toList
abbrev YR:=@PySem.wpAny_standAt
abbrev YQ:=@Nat.lt_of_succ_lt_succ
abbrev YO:=@Nat.le_succ_of_le
abbrev YN:=@Option.some.injEq
abbrev YM:=@Bool.not_eq_true'
abbrev YL:=@PySem.Sem.wrap_wrap
abbrev YK:=@List.length_cons
abbrev YJ:=@List.not_mem_nil
abbrev YI:=@PySem.wpAny_newObj_type
abbrev YH:=@decide_eq_true_eq
abbrev YG:=@PySem.Heap.lt_size
abbrev YF:=@Array.getElem?_eq_none
abbrev YE:=@Nat.le_of_lt
abbrev YD:=@List.map_map
abbrev YC:=@List.isEmpty_iff
abbrev YB:=@PySem.Heap.SameBut.update
abbrev YA:=@Nat.zero_add
abbrev Yz:=@List.take_succ_eq_append_getElem
abbrev Yx:=@Nat.add_sub_cancel_left
abbrev Yw:=@Nat.ne_of_gt
abbrev Yv:=@Nat.lt_succ_self
abbrev Yu:=@List.take_length
abbrev Yt:=@List.getElem?_append_left
abbrev Ys:=@beq_eq_false_iff_ne
abbrev Yr:=@Nat.lt_succ_of_le
abbrev Yq:=@List.getElem?_eq_none
abbrev Yp:=@PySem.Calls.loadGlobal_builtin
abbrev Yo:=@Nat.le_of_eq
abbrev Yn:=@Nat.not_succ_le_zero
abbrev Ym:=@List.length_take
abbrev Yl:=@List.replicate_succ
abbrev Yk:=@Array.length_toList
abbrev Yj:=@List.map_congr_left
abbrev Yi:=@Array.getElem?_eq_getElem
abbrev Yh:=@PySem.Heap.get?_update_self
abbrev Yg:=@Nat.add_right_comm
abbrev Ye:=@List.filter_append
abbrev Yd:=@Nat.add_comm
abbrev Yb:=@Int.zero_add
abbrev X9:=@PySem.wpAny_field
abbrev X0:=@List.drop_eq_nil_iff
abbrev XZ:=@Nat.not_lt
abbrev XY:=@List.range_succ
abbrev XX:=@PySem.Calls.callWith_builtin
abbrev XW:=@Nat.sub_self
abbrev XV:=@Nat.lt_or_ge
abbrev XU:=@Nat.zero_le
abbrev XS:=@PySem.sizeLine_eq
abbrev XQ:=@PySem.wpAny_of_eq
abbrev XO:=@List.cons.inj
abbrev XN:=@Nat.le_of_not_lt
abbrev XM:=@List.exists_cons_of_ne_nil
abbrev XK:=@List.getD_eq_getElem?_getD
abbrev XJ:=@Nat.ble_eq_true_of_le
abbrev XI:=@List.flatten_cons
abbrev XH:=@Nat.le_succ
abbrev XG:=@List.count_append
abbrev XF:=@Nat.lt_irrefl
abbrev XE:=@PySem.wpAny_load
abbrev XD:=@PySem.intKind_is
abbrev XC:=@PySem.Value.ref.inj
abbrev XB:=@List.getElem?_range
abbrev XA:=@Array.eq_empty_of_size_eq_zero
abbrev Xz:=@PySem.Sem.bind_eq_wrap
abbrev Xy:=@Nat.succ.inj
abbrev Xx:=@List.take_of_length_le
abbrev Xw:=@List.forIn_cons
abbrev Xv:=@Nat.add_assoc
abbrev Xu:=@PySem.Obj.isFreed_of_fields
abbrev Xs:=@PySem.builtinLookup_eq_fast
abbrev Xr:=@PySem.F.plainAttrs_list
abbrev Xq:=@List.length_range
abbrev Xp:=@PySem.wpAny_setField
abbrev Xo:=@PySem.isSubtype_type
abbrev Xn:=@Array.getElem?_eq_some_iff
abbrev Xm:=@PySem.wpAny_call_entry
abbrev Xl:=@Option.bind_some
abbrev Xk:=@List.any_eq_true
abbrev Xj:=@List.getElem?_eq_none_iff
abbrev Xi:=@List.drop_eq_getElem_cons
abbrev Xh:=@List.filterMap_cons
abbrev Xg:=@List.dropWhile_cons
abbrev Xf:=@List.filterMap_cons_some
abbrev Xe:=@PySem.strLen_append
abbrev Xd:=@Option.map_some
abbrev Xb:=@PySem.call_meets
abbrev Xa:=@Int.natCast_nonneg
abbrev W9:=@PySem.Obj.data_mapFields
abbrev W8:=@Bool.false_ne_true
abbrev W7:=@PySem.wpAny_call
abbrev W6:=@Int.ofNat_dvd_left
abbrev W5:=@PySem.W.mg_none_of
abbrev W4:=@PySem.wpAny_throw
abbrev W3:=@PySem.wpAny_callSpecial?_slot
abbrev W2:=@Int.le_refl
abbrev W0:=@PySem.W.plainGet_of
abbrev WZ:=@List.getElem?_cons_succ
abbrev WY:=@Nat.beq_refl
abbrev WX:=@PySem.wpAny_seqItems
abbrev WW:=@List.range_succ_eq_map
abbrev WV:=@List.drop_eq_nil_of_le
abbrev WU:=@PySem.Heap.get?_update_other
abbrev WT:=@Nat.le_of_succ_le_succ
abbrev WS:=@List.length_eq_one_iff
abbrev WR:=@List.nodup_nil
abbrev WQ:=@List.dropWhile_sublist
abbrev WO:=@PySem.entryFor_of_tree
abbrev WN:=@PySem.wpAny_isInstance
abbrev WM:=@List.getElem_map
abbrev WK:=@Int.ofNat.inj
abbrev WJ:=@List.map_drop
abbrev WI:=@PySem.wpAny_point
abbrev WH:=@PySem.codeAny_builtin
abbrev WG:=@PySem.typeLookup_type
abbrev WE:=@and_congr_right
abbrev WD:=@Classical.em
abbrev WC:=@PySem.codeAny_mono
end Mine
noncomputable section
namespace Mine
section
theorem Hr{p q:Prop}(i0:p)(i1:q):p/\q:=⟨i0,i1⟩
theorem c9{p q r:Prop}(i0:p)(i1:q)(i2:r):p/\q/\r:=⟨i0,i1,i2⟩
theorem CB{p q r s:Prop}(i0:p)(i1:q)(i2:r)(i3:s):p/\q/\r/\s:=⟨i0,i1,i2,i3⟩
theorem Iv{p q r s t:Prop}(i0:p)(i1:q)(i2:r)(i3:s)(i4:t):p/\q/\r/\s/\t:=⟨i0,i1,i2,i3,i4⟩
theorem Jw{p q r s t u:Prop}(i0:p)(i1:q)(i2:r)(i3:s)(i4:t)(i5:u):p/\q/\r/\s/\t/\u:=⟨i0,i1,i2,i3,i4,i5⟩
theorem Ii{p q r s t u v:Prop}(i0:p)(i1:q)(i2:r)(i3:s)(i4:t)(i5:u)(i6:v):p/\q/\r/\s/\t/\u/\v:=⟨i0,i1,i2,i3,i4,i5,i6⟩
theorem Iy{p q r s t u v w:Prop}(i0:p)(i1:q)(i2:r)(i3:s)(i4:t)(i5:u)(i6:v)(i7:w):p/\q/\r/\s/\t/\u/\v/\w:=⟨i0,i1,i2,i3,i4,i5,i6,i7⟩
theorem EE{p q r s t u v w x y z m n o:Prop}(i0:p)(i1:q)(i2:r)(i3:s)(i4:t)(i5:u)(i6:v)(i7:w)(i8:x)(i9:y)(i10:z)(i11:m)(i12:n)(i13:o):p/\q/\r/\s/\t/\u/\v/\w/\x/\y/\z/\m/\n/\o:=⟨i0,i1,i2,i3,i4,i5,i6,i7,i8,i9,i10,i11,i12,i13⟩
theorem JE{α:Type}{p:α->Prop}(a:α)(i0:p a):∃ a,p a:=⟨a,i0⟩
theorem aY{α:Type}{p q:α->Prop}(a:α)(i0:p a)(i1:q a):∃ a,p a/\q a:=⟨a,Hr i0 i1⟩
theorem iF{α:Type}{p q r:α->Prop}(a:α)(i0:p a)(i1:q a)(i2:r a):∃ a,p a/\q a/\r a:=⟨a,c9 i0 i1 i2⟩
theorem EB{α:Type}{p q r s:α->Prop}(a:α)(i0:p a)(i1:q a)(i2:r a)(i3:s a):∃ a,p a/\q a/\r a/\s a:=⟨a,CB i0 i1 i2 i3⟩
theorem Jl{α:Type}{p q r s t:α->Prop}(a:α)(i0:p a)(i1:q a)(i2:r a)(i3:s a)(i4:t a):∃ a,p a/\q a/\r a/\s a/\t a:=⟨a,Iv i0 i1 i2 i3 i4⟩
theorem Js{α:Type}{p q r s t u:α->Prop}(a:α)(i0:p a)(i1:q a)(i2:r a)(i3:s a)(i4:t a)(i5:u a):∃ a,p a/\q a/\r a/\s a/\t a/\u a:=⟨a,Jw i0 i1 i2 i3 i4 i5⟩
theorem IW{α:Type}{p q r s t u v:α->Prop}(a:α)(i0:p a)(i1:q a)(i2:r a)(i3:s a)(i4:t a)(i5:u a)(i6:v a):∃ a,p a/\q a/\r a/\s a/\t a/\u a/\v a:=⟨a,Ii i0 i1 i2 i3 i4 i5 i6⟩
theorem JJ{α:Type}{p q r s t u v w:α->Prop}(a:α)(i0:p a)(i1:q a)(i2:r a)(i3:s a)(i4:t a)(i5:u a)(i6:v a)(i7:w a):∃ a,p a/\q a/\r a/\s a/\t a/\u a/\v a/\w a:=⟨a,Iy i0 i1 i2 i3 i4 i5 i6 i7⟩
theorem Fb{α:Type}{p q r s t u v w x y z m n o:α->Prop}(a:α)(i0:p a)(i1:q a)(i2:r a)(i3:s a)(i4:t a)(i5:u a)(i6:v a)(i7:w a)(i8:x a)(i9:y a)(i10:z a)(i11:m a)(i12:n a)(i13:o a):∃ a,p a/\q a/\r a/\s a/\t a/\u a/\v a/\w a/\x a/\y a/\z a/\m a/\n a/\o a:=⟨a,EE i0 i1 i2 i3 i4 i5 i6 i7 i8 i9 i10 i11 i12 i13⟩
theorem uS{α β:Type}{p:α->β->Prop}(a:α)(b:β)(i0:p a b):∃ a b,p a b:=⟨a,JE b i0⟩
theorem nB{α β:Type}{p q:α->β->Prop}(a:α)(b:β)(i0:p a b)(i1:q a b):∃ a b,p a b/\q a b:=⟨a,aY b i0 i1⟩
theorem rm{α β:Type}{p q r:α->β->Prop}(a:α)(b:β)(i0:p a b)(i1:q a b)(i2:r a b):∃ a b,p a b/\q a b/\r a b:=⟨a,iF b i0 i1 i2⟩
theorem vq{α β:Type}{p q r s:α->β->Prop}(a:α)(b:β)(i0:p a b)(i1:q a b)(i2:r a b)(i3:s a b):∃ a b,p a b/\q a b/\r a b/\s a b:=⟨a,EB b i0 i1 i2 i3⟩
theorem CF{α β:Type}{p q r s t:α->β->Prop}(a:α)(b:β)(i0:p a b)(i1:q a b)(i2:r a b)(i3:s a b)(i4:t a b):∃ a b,p a b/\q a b/\r a b/\s a b/\t a b:=⟨a,Jl b i0 i1 i2 i3 i4⟩
theorem JN{α β:Type}{p q r s t u:α->β->Prop}(a:α)(b:β)(i0:p a b)(i1:q a b)(i2:r a b)(i3:s a b)(i4:t a b)(i5:u a b):∃ a b,p a b/\q a b/\r a b/\s a b/\t a b/\u a b:=⟨a,Js b i0 i1 i2 i3 i4 i5⟩
theorem Jv{α β:Type}{p q r s t u v:α->β->Prop}(a:α)(b:β)(i0:p a b)(i1:q a b)(i2:r a b)(i3:s a b)(i4:t a b)(i5:u a b)(i6:v a b):∃ a b,p a b/\q a b/\r a b/\s a b/\t a b/\u a b/\v a b:=⟨a,IW b i0 i1 i2 i3 i4 i5 i6⟩
theorem JK{α β:Type}{p q r s t u v w:α->β->Prop}(a:α)(b:β)(i0:p a b)(i1:q a b)(i2:r a b)(i3:s a b)(i4:t a b)(i5:u a b)(i6:v a b)(i7:w a b):∃ a b,p a b/\q a b/\r a b/\s a b/\t a b/\u a b/\v a b/\w a b:=⟨a,JJ b i0 i1 i2 i3 i4 i5 i6 i7⟩
theorem Gf{α β:Type}{p q r s t u v w x y z m n o:α->β->Prop}(a:α)(b:β)(i0:p a b)(i1:q a b)(i2:r a b)(i3:s a b)(i4:t a b)(i5:u a b)(i6:v a b)(i7:w a b)(i8:x a b)(i9:y a b)(i10:z a b)(i11:m a b)(i12:n a b)(i13:o a b):∃ a b,p a b/\q a b/\r a b/\s a b/\t a b/\u a b/\v a b/\w a b/\x a b/\y a b/\z a b/\m a b/\n a b/\o a b:=⟨a,Fb b i0 i1 i2 i3 i4 i5 i6 i7 i8 i9 i10 i11 i12 i13⟩
theorem IP{α β γ:Type}{p:α->β->γ->Prop}(a:α)(b:β)(c:γ)(i0:p a b c):∃ a b c,p a b c:=⟨a,uS b c i0⟩
theorem sx{α β γ:Type}{p q:α->β->γ->Prop}(a:α)(b:β)(c:γ)(i0:p a b c)(i1:q a b c):∃ a b c,p a b c/\q a b c:=⟨a,nB b c i0 i1⟩
theorem zd{α β γ:Type}{p q r:α->β->γ->Prop}(a:α)(b:β)(c:γ)(i0:p a b c)(i1:q a b c)(i2:r a b c):∃ a b c,p a b c/\q a b c/\r a b c:=⟨a,rm b c i0 i1 i2⟩
theorem vx{α β γ:Type}{p q r s:α->β->γ->Prop}(a:α)(b:β)(c:γ)(i0:p a b c)(i1:q a b c)(i2:r a b c)(i3:s a b c):∃ a b c,p a b c/\q a b c/\r a b c/\s a b c:=⟨a,vq b c i0 i1 i2 i3⟩
theorem GH{α β γ:Type}{p q r s t:α->β->γ->Prop}(a:α)(b:β)(c:γ)(i0:p a b c)(i1:q a b c)(i2:r a b c)(i3:s a b c)(i4:t a b c):∃ a b c,p a b c/\q a b c/\r a b c/\s a b c/\t a b c:=⟨a,CF b c i0 i1 i2 i3 i4⟩
theorem H6{α β γ:Type}{p q r s t u:α->β->γ->Prop}(a:α)(b:β)(c:γ)(i0:p a b c)(i1:q a b c)(i2:r a b c)(i3:s a b c)(i4:t a b c)(i5:u a b c):∃ a b c,p a b c/\q a b c/\r a b c/\s a b c/\t a b c/\u a b c:=⟨a,JN b c i0 i1 i2 i3 i4 i5⟩
theorem GA{α β γ:Type}{p q r s t u v w:α->β->γ->Prop}(a:α)(b:β)(c:γ)(i0:p a b c)(i1:q a b c)(i2:r a b c)(i3:s a b c)(i4:t a b c)(i5:u a b c)(i6:v a b c)(i7:w a b c):∃ a b c,p a b c/\q a b c/\r a b c/\s a b c/\t a b c/\u a b c/\v a b c/\w a b c:=⟨a,JK b c i0 i1 i2 i3 i4 i5 i6 i7⟩
theorem Ij{α β γ δ:Type}{p:α->β->γ->δ->Prop}(a:α)(b:β)(c:γ)(d:δ)(i0:p a b c d):∃ a b c d,p a b c d:=⟨a,IP b c d i0⟩
theorem Gy{α β γ δ:Type}{p q:α->β->γ->δ->Prop}(a:α)(b:β)(c:γ)(d:δ)(i0:p a b c d)(i1:q a b c d):∃ a b c d,p a b c d/\q a b c d:=⟨a,sx b c d i0 i1⟩
theorem HW{α β γ δ:Type}{p q r:α->β->γ->δ->Prop}(a:α)(b:β)(c:γ)(d:δ)(i0:p a b c d)(i1:q a b c d)(i2:r a b c d):∃ a b c d,p a b c d/\q a b c d/\r a b c d:=⟨a,zd b c d i0 i1 i2⟩
theorem HJ{α β γ δ:Type}{p q r s:α->β->γ->δ->Prop}(a:α)(b:β)(c:γ)(d:δ)(i0:p a b c d)(i1:q a b c d)(i2:r a b c d)(i3:s a b c d):∃ a b c d,p a b c d/\q a b c d/\r a b c d/\s a b c d:=⟨a,vx b c d i0 i1 i2 i3⟩
theorem Ee{α β γ δ:Type}{p q r s t:α->β->γ->δ->Prop}(a:α)(b:β)(c:γ)(d:δ)(i0:p a b c d)(i1:q a b c d)(i2:r a b c d)(i3:s a b c d)(i4:t a b c d):∃ a b c d,p a b c d/\q a b c d/\r a b c d/\s a b c d/\t a b c d:=⟨a,GH b c d i0 i1 i2 i3 i4⟩
theorem Ie{α β γ δ:Type}{p q r s t u v w:α->β->γ->δ->Prop}(a:α)(b:β)(c:γ)(d:δ)(i0:p a b c d)(i1:q a b c d)(i2:r a b c d)(i3:s a b c d)(i4:t a b c d)(i5:u a b c d)(i6:v a b c d)(i7:w a b c d):∃ a b c d,p a b c d/\q a b c d/\r a b c d/\s a b c d/\t a b c d/\u a b c d/\v a b c d/\w a b c d:=⟨a,GA b c d i0 i1 i2 i3 i4 i5 i6 i7⟩
theorem IA{α β γ δ Z:Type}{p q r:α->β->γ->δ->Z->Prop}(a:α)(b:β)(c:γ)(d:δ)(e:Z)(i0:p a b c d e)(i1:q a b c d e)(i2:r a b c d e):∃ a b c d e,p a b c d e/\q a b c d e/\r a b c d e:=⟨a,HW b c d e i0 i1 i2⟩
theorem JS{α β γ δ Z:Type}{p q r s t:α->β->γ->δ->Z->Prop}(a:α)(b:β)(c:γ)(d:δ)(e:Z)(i0:p a b c d e)(i1:q a b c d e)(i2:r a b c d e)(i3:s a b c d e)(i4:t a b c d e):∃ a b c d e,p a b c d e/\q a b c d e/\r a b c d e/\s a b c d e/\t a b c d e:=⟨a,Ee b c d e i0 i1 i2 i3 i4⟩
theorem I8{α β γ δ Z:Type}{p q r s t u v w:α->β->γ->δ->Z->Prop}(a:α)(b:β)(c:γ)(d:δ)(e:Z)(i0:p a b c d e)(i1:q a b c d e)(i2:r a b c d e)(i3:s a b c d e)(i4:t a b c d e)(i5:u a b c d e)(i6:v a b c d e)(i7:w a b c d e):∃ a b c d e,p a b c d e/\q a b c d e/\r a b c d e/\s a b c d e/\t a b c d e/\u a b c d e/\v a b c d e/\w a b c d e:=⟨a,Ie b c d e i0 i1 i2 i3 i4 i5 i6 i7⟩
theorem Jr{α β γ δ Z ζ:Type}{p q r:α->β->γ->δ->Z->ζ->Prop}(a:α)(b:β)(c:γ)(d:δ)(e:Z)(f:ζ)(i0:p a b c d e f)(i1:q a b c d e f)(i2:r a b c d e f):∃ a b c d e f,p a b c d e f/\q a b c d e f/\r a b c d e f:=⟨a,IA b c d e f i0 i1 i2⟩
theorem Ik{α β γ δ Z ζ:Type}{p q r s t u v w:α->β->γ->δ->Z->ζ->Prop}(a:α)(b:β)(c:γ)(d:δ)(e:Z)(f:ζ)(i0:p a b c d e f)(i1:q a b c d e f)(i2:r a b c d e f)(i3:s a b c d e f)(i4:t a b c d e f)(i5:u a b c d e f)(i6:v a b c d e f)(i7:w a b c d e f):∃ a b c d e f,p a b c d e f/\q a b c d e f/\r a b c d e f/\s a b c d e f/\t a b c d e f/\u a b c d e f/\v a b c d e f/\w a b c d e f:=⟨a,I8 b c d e f i0 i1 i2 i3 i4 i5 i6 i7⟩
theorem bU{p q:Prop}{G:Prop}(h:p/\q)(k:p->q->G):G:=k h.1 h.2
theorem gm{p q r:Prop}{G:Prop}(h:p/\q/\r)(k:p->q->r->G):G:=k h.1 h.2.1 h.2.2
theorem D7{p q r s:Prop}{G:Prop}(h:p/\q/\r/\s)(k:p->q->r->s->G):G:=k h.1 h.2.1 h.2.2.1 h.2.2.2
theorem EH{p q r s t:Prop}{G:Prop}(h:p/\q/\r/\s/\t)(k:p->q->r->s->t->G):G:=k h.1 h.2.1 h.2.2.1 h.2.2.2.1 h.2.2.2.2
theorem JC{p q r s t u:Prop}{G:Prop}(h:p/\q/\r/\s/\t/\u)(k:p->q->r->s->t->u->G):G:=k h.1 h.2.1 h.2.2.1 h.2.2.2.1 h.2.2.2.2.1 h.2.2.2.2.2
theorem Hl{p q r s t u v:Prop}{G:Prop}(h:p/\q/\r/\s/\t/\u/\v)(k:p->q->r->s->t->u->v->G):G:=k h.1 h.2.1 h.2.2.1 h.2.2.2.1 h.2.2.2.2.1 h.2.2.2.2.2.1 h.2.2.2.2.2.2
theorem GI{p q r s t u v w:Prop}{G:Prop}(h:p/\q/\r/\s/\t/\u/\v/\w)(k:p->q->r->s->t->u->v->w->G):G:=k h.1 h.2.1 h.2.2.1 h.2.2.2.1 h.2.2.2.2.1 h.2.2.2.2.2.1 h.2.2.2.2.2.2.1 h.2.2.2.2.2.2.2
theorem EG{p q r s t u v w x y z m n o:Prop}{G:Prop}(h:p/\q/\r/\s/\t/\u/\v/\w/\x/\y/\z/\m/\n/\o)(k:p->q->r->s->t->u->v->w->x->y->z->m->n->o->G):G:=k h.1 h.2.1 h.2.2.1 h.2.2.2.1 h.2.2.2.2.1 h.2.2.2.2.2.1 h.2.2.2.2.2.2.1 h.2.2.2.2.2.2.2.1 h.2.2.2.2.2.2.2.2.1 h.2.2.2.2.2.2.2.2.2.1 h.2.2.2.2.2.2.2.2.2.2.1 h.2.2.2.2.2.2.2.2.2.2.2.1 h.2.2.2.2.2.2.2.2.2.2.2.2.1 h.2.2.2.2.2.2.2.2.2.2.2.2.2
theorem df{α:Type}{p:α->Prop}{G:Prop}(h:∃ a,p a)(k:∀ a,p a->G):G:=h.elim k
theorem aF{α:Type}{p q:α->Prop}{G:Prop}(h:∃ a,p a/\q a)(k:∀ a,p a->q a->G):G:=h.elim fun a h=>bU h (k a)
theorem iu{α:Type}{p q r:α->Prop}{G:Prop}(h:∃ a,p a/\q a/\r a)(k:∀ a,p a->q a->r a->G):G:=h.elim fun a h=>gm h (k a)
theorem Hb{α:Type}{p q r s:α->Prop}{G:Prop}(h:∃ a,p a/\q a/\r a/\s a)(k:∀ a,p a->q a->r a->s a->G):G:=h.elim fun a h=>D7 h (k a)
theorem I5{α:Type}{p q r s t:α->Prop}{G:Prop}(h:∃ a,p a/\q a/\r a/\s a/\t a)(k:∀ a,p a->q a->r a->s a->t a->G):G:=h.elim fun a h=>EH h (k a)
theorem IE{α:Type}{p q r s t u:α->Prop}{G:Prop}(h:∃ a,p a/\q a/\r a/\s a/\t a/\u a)(k:∀ a,p a->q a->r a->s a->t a->u a->G):G:=h.elim fun a h=>JC h (k a)
theorem IH{α:Type}{p q r s t u v:α->Prop}{G:Prop}(h:∃ a,p a/\q a/\r a/\s a/\t a/\u a/\v a)(k:∀ a,p a->q a->r a->s a->t a->u a->v a->G):G:=h.elim fun a h=>Hl h (k a)
theorem IS{α:Type}{p q r s t u v w:α->Prop}{G:Prop}(h:∃ a,p a/\q a/\r a/\s a/\t a/\u a/\v a/\w a)(k:∀ a,p a->q a->r a->s a->t a->u a->v a->w a->G):G:=h.elim fun a h=>GI h (k a)
theorem EY{α:Type}{p q r s t u v w x y z m n o:α->Prop}{G:Prop}(h:∃ a,p a/\q a/\r a/\s a/\t a/\u a/\v a/\w a/\x a/\y a/\z a/\m a/\n a/\o a)(k:∀ a,p a->q a->r a->s a->t a->u a->v a->w a->x a->y a->z a->m a->n a->o a->G):G:=h.elim fun a h=>EG h (k a)
theorem nz{α β:Type}{p:α->β->Prop}{G:Prop}(h:∃ a b,p a b)(k:∀ a b,p a b->G):G:=h.elim fun a h=>df h (k a)
theorem qf{α β:Type}{p q:α->β->Prop}{G:Prop}(h:∃ a b,p a b/\q a b)(k:∀ a b,p a b->q a b->G):G:=h.elim fun a h=>aF h (k a)
theorem vR{α β:Type}{p q r:α->β->Prop}{G:Prop}(h:∃ a b,p a b/\q a b/\r a b)(k:∀ a b,p a b->q a b->r a b->G):G:=h.elim fun a h=>iu h (k a)
theorem xT{α β:Type}{p q r s:α->β->Prop}{G:Prop}(h:∃ a b,p a b/\q a b/\r a b/\s a b)(k:∀ a b,p a b->q a b->r a b->s a b->G):G:=h.elim fun a h=>Hb h (k a)
theorem D3{α β:Type}{p q r s t:α->β->Prop}{G:Prop}(h:∃ a b,p a b/\q a b/\r a b/\s a b/\t a b)(k:∀ a b,p a b->q a b->r a b->s a b->t a b->G):G:=h.elim fun a h=>I5 h (k a)
theorem IG{α β:Type}{p q r s t u:α->β->Prop}{G:Prop}(h:∃ a b,p a b/\q a b/\r a b/\s a b/\t a b/\u a b)(k:∀ a b,p a b->q a b->r a b->s a b->t a b->u a b->G):G:=h.elim fun a h=>IE h (k a)
theorem JI{α β:Type}{p q r s t u v:α->β->Prop}{G:Prop}(h:∃ a b,p a b/\q a b/\r a b/\s a b/\t a b/\u a b/\v a b)(k:∀ a b,p a b->q a b->r a b->s a b->t a b->u a b->v a b->G):G:=h.elim fun a h=>IH h (k a)
theorem Ji{α β:Type}{p q r s t u v w:α->β->Prop}{G:Prop}(h:∃ a b,p a b/\q a b/\r a b/\s a b/\t a b/\u a b/\v a b/\w a b)(k:∀ a b,p a b->q a b->r a b->s a b->t a b->u a b->v a b->w a b->G):G:=h.elim fun a h=>IS h (k a)
theorem Gl{α β:Type}{p q r s t u v w x y z m n o:α->β->Prop}{G:Prop}(h:∃ a b,p a b/\q a b/\r a b/\s a b/\t a b/\u a b/\v a b/\w a b/\x a b/\y a b/\z a b/\m a b/\n a b/\o a b)(k:∀ a b,p a b->q a b->r a b->s a b->t a b->u a b->v a b->w a b->x a b->y a b->z a b->m a b->n a b->o a b->G):G:=h.elim fun a h=>EY h (k a)
theorem IX{α β γ:Type}{p:α->β->γ->Prop}{G:Prop}(h:∃ a b c,p a b c)(k:∀ a b c,p a b c->G):G:=h.elim fun a h=>nz h (k a)
theorem g9{α β γ:Type}{p q:α->β->γ->Prop}{G:Prop}(h:∃ a b c,p a b c/\q a b c)(k:∀ a b c,p a b c->q a b c->G):G:=h.elim fun a h=>qf h (k a)
theorem zQ{α β γ:Type}{p q r:α->β->γ->Prop}{G:Prop}(h:∃ a b c,p a b c/\q a b c/\r a b c)(k:∀ a b c,p a b c->q a b c->r a b c->G):G:=h.elim fun a h=>vR h (k a)
theorem u9{α β γ:Type}{p q r s:α->β->γ->Prop}{G:Prop}(h:∃ a b c,p a b c/\q a b c/\r a b c/\s a b c)(k:∀ a b c,p a b c->q a b c->r a b c->s a b c->G):G:=h.elim fun a h=>xT h (k a)
theorem Hh{α β γ:Type}{p q r s t:α->β->γ->Prop}{G:Prop}(h:∃ a b c,p a b c/\q a b c/\r a b c/\s a b c/\t a b c)(k:∀ a b c,p a b c->q a b c->r a b c->s a b c->t a b c->G):G:=h.elim fun a h=>D3 h (k a)
theorem IY{α β γ:Type}{p q r s t u:α->β->γ->Prop}{G:Prop}(h:∃ a b c,p a b c/\q a b c/\r a b c/\s a b c/\t a b c/\u a b c)(k:∀ a b c,p a b c->q a b c->r a b c->s a b c->t a b c->u a b c->G):G:=h.elim fun a h=>IG h (k a)
theorem Jq{α β γ:Type}{p q r s t u v w:α->β->γ->Prop}{G:Prop}(h:∃ a b c,p a b c/\q a b c/\r a b c/\s a b c/\t a b c/\u a b c/\v a b c/\w a b c)(k:∀ a b c,p a b c->q a b c->r a b c->s a b c->t a b c->u a b c->v a b c->w a b c->G):G:=h.elim fun a h=>Ji h (k a)
theorem Hk{α β γ δ:Type}{p:α->β->γ->δ->Prop}{G:Prop}(h:∃ a b c d,p a b c d)(k:∀ a b c d,p a b c d->G):G:=h.elim fun a h=>IX h (k a)
theorem Fj{α β γ δ:Type}{p q:α->β->γ->δ->Prop}{G:Prop}(h:∃ a b c d,p a b c d/\q a b c d)(k:∀ a b c d,p a b c d->q a b c d->G):G:=h.elim fun a h=>g9 h (k a)
theorem zY{α β γ δ:Type}{p q r:α->β->γ->δ->Prop}{G:Prop}(h:∃ a b c d,p a b c d/\q a b c d/\r a b c d)(k:∀ a b c d,p a b c d->q a b c d->r a b c d->G):G:=h.elim fun a h=>zQ h (k a)
theorem JQ{α β γ δ:Type}{p q r s:α->β->γ->δ->Prop}{G:Prop}(h:∃ a b c d,p a b c d/\q a b c d/\r a b c d/\s a b c d)(k:∀ a b c d,p a b c d->q a b c d->r a b c d->s a b c d->G):G:=h.elim fun a h=>u9 h (k a)
theorem El{α β γ δ:Type}{p q r s t:α->β->γ->δ->Prop}{G:Prop}(h:∃ a b c d,p a b c d/\q a b c d/\r a b c d/\s a b c d/\t a b c d)(k:∀ a b c d,p a b c d->q a b c d->r a b c d->s a b c d->t a b c d->G):G:=h.elim fun a h=>Hh h (k a)
theorem Hw{α β γ δ:Type}{p q r s t u v w:α->β->γ->δ->Prop}{G:Prop}(h:∃ a b c d,p a b c d/\q a b c d/\r a b c d/\s a b c d/\t a b c d/\u a b c d/\v a b c d/\w a b c d)(k:∀ a b c d,p a b c d->q a b c d->r a b c d->s a b c d->t a b c d->u a b c d->v a b c d->w a b c d->G):G:=h.elim fun a h=>Jq h (k a)
theorem Jh{α β γ δ Z:Type}{p:α->β->γ->δ->Z->Prop}{G:Prop}(h:∃ a b c d e,p a b c d e)(k:∀ a b c d e,p a b c d e->G):G:=h.elim fun a h=>Hk h (k a)
theorem Jm{α β γ δ Z:Type}{p q r:α->β->γ->δ->Z->Prop}{G:Prop}(h:∃ a b c d e,p a b c d e/\q a b c d e/\r a b c d e)(k:∀ a b c d e,p a b c d e->q a b c d e->r a b c d e->G):G:=h.elim fun a h=>zY h (k a)
theorem IQ{α β γ δ Z:Type}{p q r s t:α->β->γ->δ->Z->Prop}{G:Prop}(h:∃ a b c d e,p a b c d e/\q a b c d e/\r a b c d e/\s a b c d e/\t a b c d e)(k:∀ a b c d e,p a b c d e->q a b c d e->r a b c d e->s a b c d e->t a b c d e->G):G:=h.elim fun a h=>El h (k a)
theorem I1{α β γ δ Z:Type}{p q r s t u v w:α->β->γ->δ->Z->Prop}{G:Prop}(h:∃ a b c d e,p a b c d e/\q a b c d e/\r a b c d e/\s a b c d e/\t a b c d e/\u a b c d e/\v a b c d e/\w a b c d e)(k:∀ a b c d e,p a b c d e->q a b c d e->r a b c d e->s a b c d e->t a b c d e->u a b c d e->v a b c d e->w a b c d e->G):G:=h.elim fun a h=>Hw h (k a)
theorem Iw{α β γ δ Z ζ:Type}{p:α->β->γ->δ->Z->ζ->Prop}{G:Prop}(h:∃ a b c d e f,p a b c d e f)(k:∀ a b c d e f,p a b c d e f->G):G:=h.elim fun a h=>Jh h (k a)
theorem Jp{α β γ δ Z ζ:Type}{p q r:α->β->γ->δ->Z->ζ->Prop}{G:Prop}(h:∃ a b c d e f,p a b c d e f/\q a b c d e f/\r a b c d e f)(k:∀ a b c d e f,p a b c d e f->q a b c d e f->r a b c d e f->G):G:=h.elim fun a h=>Jm h (k a)
theorem GC{α β γ δ Z ζ:Type}{p q r s t u v w:α->β->γ->δ->Z->ζ->Prop}{G:Prop}(h:∃ a b c d e f,p a b c d e f/\q a b c d e f/\r a b c d e f/\s a b c d e f/\t a b c d e f/\u a b c d e f/\v a b c d e f/\w a b c d e f)(k:∀ a b c d e f,p a b c d e f->q a b c d e f->r a b c d e f->s a b c d e f->t a b c d e f->u a b c d e f->v a b c d e f->w a b c d e f->G):G:=h.elim fun a h=>I1 h (k a)
inductive Lx where
 |v (i:Nat) | n (k:Nat) | s (x:Lx) | a (x y:Lx)
noncomputable def Ej:List Nat->Nat->Nat
 |[],_=>0
 |x::r,i=>match i with
  |0=>x
  |i+1=>Ej r i
noncomputable def vS(f:List Nat)(e:Lx):Nat:=match e with
 |.v i=>Ej f i
 |.n k=>k
 |.s x=>vS f x+1
 |.a x y=>vS f x+vS f y
noncomputable def D9(e:Lx):List Nat:=match e with
 |.v i=>[i]
 |.n _=>[]
 |.s x=>D9 x
 |.a x y=>D9 x++D9 y
noncomputable def Ch(e:Lx):Nat:=match e with
 |.v _=>0
 |.n k=>k
 |.s x=>Ch x+1
 |.a x y=>Ch x+Ch y
noncomputable def Bn(f:List Nat):List Nat->Nat
 |[]=>0
 |i::r=>Ej f i+Bn f r
theorem AK(f l m:List Nat):Bn f (l++m)=Bn f l+Bn f m:=by
 induction l with
 |nil=>exact(YA _).symm
 |cons i r h=>exact(ZV (Ej f i + ·) h).trans (Xv ..).symm
theorem zK(f:List Nat)(e:Lx):vS f e=Bn f (D9 e)+Ch e:=by
 induction e with
 |v i=>rfl
 |n k=>exact(YA k).symm
 |s x h=>exact ZV (· + 1) h
 |a x y h k=>exact(congr (ZV HAdd.hAdd h) k).trans ((Nat.add_add_add_comm ..).trans (ZV (· + (Ch x+Ch y)) (AK f _ _).symm))
noncomputable def D4(i:Nat):List Nat->Option (List Nat)
 |[]=>none
 |j::r=>if Nat.beq i j then some r else(D4 i r).map (j::·)
theorem DM{f:List Nat}{i:Nat}{l:List Nat}:∀ {r:List Nat},D4 i l=some r->Bn f l=Ej f i+Bn f r:=by
 induction l with
 |nil=>exact fun h=>nomatch h
 |cons j l ih=>
  intro r h
  by_cases q:Nat.beq i j=true
  ·exact Z9 ((if_pos q).symm.trans h)▸Zr q▸rfl
  ·exact(ZU.mp ((if_neg q).symm.trans h)).elim fun r' h=>h.2▸(ZV (Ej f j + ·) (ih h.1)).trans (Nat.add_left_comm ..)
noncomputable def Ef:List Nat->List Nat->Bool
 |[],_=>true
 |i::r,l=>match D4 i l with
  |none=>false
  |some l'=>Ef r l'
theorem Dq{f r:List Nat}:∀ {l:List Nat},Ef r l=true->Bn f r<=Bn f l:=by
 induction r with
 |nil=>exact fun zz=>XU _
 |cons i r ih=>
  intro l h
  cases q:D4 i l with
  |none=>exact nomatch (show false=true from(show(match D4 i l with | none=>false | some l'=>Ef r l')=true from h)▸q▸rfl)
  |some l'=>exact DM q▸Nat.add_le_add_left (ih ((show(match D4 i l with | none=>false | some l'=>Ef r l')=Ef r l' from q▸rfl)▸h)) _
noncomputable def zr:List (Lx×Lx)->Lx×Lx
 |[]=>(.n 0,.n 0)
 |p::r=>(.a p.1 (zr r).1,.a p.2 (zr r).2)
noncomputable def Hyp(f:List Nat)(G:Prop):List (Lx×Lx)->Prop
 |[]=>G
 |p::r=>vS f p.1<=vS f p.2->Hyp f G r
theorem qS{f:List Nat}{G P:Prop}{hs:List (Lx×Lx)}(h:G->P):Hyp f G hs->Hyp f P hs:=by
 induction hs with
 |nil=>exact h
 |cons _ _ ih=>exact fun k q=>ih (k q)
theorem C4{f:List Nat}{hs:List (Lx×Lx)}:Hyp f (vS f (zr hs).1<=vS f (zr hs).2) hs:=by
 induction hs with
 |nil=>exact ZE 0
 |cons _ _ ih=>exact fun q=>qS (fun h=>Nat.add_le_add q h) ih
theorem om(f:List Nat)(hs:List (Lx×Lx))(g:Lx×Lx)(h:(Ef (D9 (.a g.1 (zr hs).2)) (D9 (.a g.2 (zr hs).1))&&Nat.ble (Ch (.a g.1 (zr hs).2)) (Ch (.a g.2 (zr hs).1)))=true):Hyp f (vS f g.1<=vS f g.2) hs:=
 qS (fun k=>Nat.le_of_add_le_add_right (ZD (zK f _▸zK f (.a g.2 (zr hs).1)▸Nat.add_le_add (Dq (ZR.mp h).1) (ZC (ZR.mp h).2):vS f (.a g.1 (zr hs).2)<=vS f (.a g.2 (zr hs).1)) (Nat.add_le_add_left k _))) C4
theorem DW{x y:Nat}:x<=x-y+y:=Nat.sub_le_iff_le_add.mp (ZE _)
theorem Gz{x y:Nat}(h:y<=x):x-y+y<=x:=Yo (Nat.sub_add_cancel h)
theorem eE{x y:Nat}(h:x=y):x<=y:=Yo h
theorem lC{x y:Nat}(h:x=y):y<=x:=Yo h.symm
@[elab_as_elim] theorem bI{α:Type}{G:Option α->Prop}(o:Option α)(h:o=none->G none)(k:∀ a,o=some a->G (some a)):G o:=by
 cases o with
 |none=>exact h rfl
 |some a=>exact k a rfl
@[elab_as_elim] theorem lQ{G:Bool->Prop}(b:Bool)(h:b=false->G false)(k:b=true->G true):G b:=by
 cases b with
 |false=>exact h rfl
 |true=>exact k rfl
@[elab_as_elim] theorem JL{α:Type}{G:List α->Prop}(l:List α)(h:l=[]->G [])(k:∀ a r,l=a::r->G (a::r)):G l:=by
 cases l with
 |nil=>exact h rfl
 |cons a r=>exact k a r rfl
theorem a9{α:Type}{a:α}{P:Prop}(h:(none:Option α)=some a):P:=nomatch h
theorem aQ{α:Type}{a:α}{P:Prop}:(none:Option α)=some a->P:=a9
theorem jC{P:Prop}(h:false=true):P:=nomatch h
theorem eY{P:Prop}:false=true->P:=jC
open PySem
inductive V where
 |none | ah | scr
 |bool (b:Bool) | int (i:Int) | str (s:Str) | ref (k:Nat) | aI (k:Nat)
 deriving DecidableEq,Inhabited
inductive O where
 |list (vs:List V)
 |tup (vs:List V)
 |dict (es:List (Int×V))
 |set (xs:List Int)
 |cell (v:V)
 |inst (d:Nat)
 |ns (vs:List V)
 |node (vs:List V) (d:Nat)
 |bD (a b:Int)
 |iter (l i:Nat)
 |p6 (k:Nat)
 |view (k:Nat)
 |exc (cls:Nat) (args:V)
 |dead
 |tab (k:Nat)
 |gA
 deriving Inhabited
inductive Tr where
 |nil
 |node (k:Nat) (o:O) (r:Tr)
namespace Tr
noncomputable def get:Tr->Nat->Option O
 |.nil,_=>none
 |.node k o r,i=>match Nat.beq k i with
  |true=>some o
  |false=>r.get i
noncomputable def set:Tr->Nat->O->Tr
 |.nil,_,_=>.nil
 |.node k o r,i,x=>match Nat.beq k i with
  |true=>.node k x r
  |false=>.node k o (r.set i x)
noncomputable def ins(t:Tr)(n:Nat)(x:O):Tr:=.node n x t
end Tr
structure aq where
 n:Nat
 t:Tr
 fz:List Nat
inductive Rs(α:Type) where
 |ok (a:α) (s:aq) (e:List V)
 |exc (c:Nat) (a:V) (s:aq) (e:List V)
 |bad
@[elab_as_elim] theorem pf{α:Type}{G:Rs α->Prop}(r:Rs α)(h:∀ a s e,r = .ok a s e->G (.ok a s e))(k:∀ c a s e,r = .exc c a s e->G (.exc c a s e))(l:r = .bad->G .bad):G r:=by
 cases r with
 |ok a s e=>exact h a s e rfl
 |exc c a s e=>exact k c a s e rfl
 |bad=>exact l rfl
abbrev M(α:Type):=aq->List V->Rs α
namespace M
variable {α β:Type}
@[reducible] noncomputable def ret(a:α):M α:=fun s e=>.ok a s e
@[reducible] noncomputable def bad:M α:=fun zz zz=>.bad
@[reducible] noncomputable def bind(x:M α)(f:α->M β):M β:=fun s e=>match x s e with
 |.ok a s' e'=>f a s' e'
 |.exc c a s' e'=>.exc c a s' e'
 |.bad=>.bad
@[reducible] noncomputable def obj(k:Nat):M O:=fun s e=>match s.t.get k with
 |some o=>.ok o s e
 |none=>.bad
@[reducible] noncomputable def upd(k:Nat)(o:O):M Unit:=fun s e=>.ok () ⟨s.n,s.t.set k o,s.fz⟩ e
@[reducible] noncomputable def new(o:O):M Nat:=fun s e=>.ok s.n ⟨s.n+1,s.t.ins s.n o,s.fz⟩ e
@[reducible] noncomputable def raise(cls:Nat):M α:=fun s e=>.exc cls .ah s e
@[reducible] noncomputable def kH(o:O):M V:=fun s e=>.ok (.ref s.n) ⟨s.n+1,s.t.ins s.n o,s.fz⟩ e
@[reducible] noncomputable def gi(vs:List V):M V:=if Nat.ble vs.length 10000 then kH (.list vs) else bad
@[reducible] noncomputable def gQ(vs:List V):M V:=if Nat.ble vs.length 10000 then kH (.tup vs) else bad
theorem bind_assoc{γ:Type}(x:M α)(f:α->M β)(g:β->M γ):bind (bind x f) g=bind x fun a=>bind (f a) g:=by
 funext s e
 dsimp only[bind]
 cases x s e<;>rfl
end M
noncomputable def V.at:List V->Nat->V
 |[],_=>.ah
 |v::_,0=>v
 |_::r,n+1=>V.at r n
noncomputable def V.put:List V->Nat->V->List V
 |[],_,_=>[]
 |_::r,0,x=>x::r
 |v::r,n+1,x=>v::V.put r n x
@[reducible] noncomputable def az{α β:Type}(o:Option α)(f:α->M β):M β:=match o with
 |some a=>f a
 |none=>.bad
noncomputable def refOf:V->Option Nat
 |.ref k=>some k
 |_=>none
noncomputable def intOf:V->Option Int
 |.int i=>some i
 |_=>none
noncomputable def aE:V->Option Nat
 |.aI k=>some k
 |_=>none
noncomputable def dp:O->Option (List V)
 |.list xs=>some xs
 |_=>none
noncomputable def qu:O->Option (List V)
 |.tup xs=>some xs
 |_=>none
noncomputable def l8:O->Option (List (Int×V))
 |.dict es=>some es
 |_=>none
noncomputable def setOf:O->Option (List Int)
 |.set xs=>some xs
 |_=>none
noncomputable def wi:O->Option V
 |.cell v=>some v
 |_=>none
noncomputable def lz:O->Option Nat
 |.inst d=>some d
 |_=>none
noncomputable def vG:O->Option (List V)
 |.ns vs=>some vs
 |_=>none
noncomputable def zt:O->Option (List V×Nat)
 |.node vs d=>some (vs,d)
 |_=>none
noncomputable def wI:O->Option Nat
 |.p6 j=>some j
 |_=>none
noncomputable def we:O->Option (Nat×Nat)
 |.iter l i=>some (l,i)
 |_=>none
noncomputable def excOf:O->Option (Nat×V)
 |.exc c v=>some (c,v)
 |_=>none
noncomputable def dy:O->Option (Bool×List V)
 |.list xs=>some (true,xs)
 |.tup xs=>some (false,xs)
 |_=>none
noncomputable def oN(v:V):M V:=fun s e=>match v with
 |.ah=>.bad
 |v=>.ok v s e
@[reducible] noncomputable def one{β:Type}(as:List V)(f:V->M β):M β:=match as with
 |[v]=>f v
 |_=>.bad
@[reducible] noncomputable def zero{β:Type}(as:List V)(f:M β):M β:=match as with
 |[]=>f
 |_=>.bad
@[reducible] noncomputable def two{β:Type}(as:List V)(f:V->V->M β):M β:=match as with
 |[v,w]=>f v w
 |_=>.bad
noncomputable def af(i:Nat):M V:=fun s e=>match aE (V.at e i) with
 |some k=>az (s.t.get k) (fun o=>az (wi o) oN) s e
 |none=>oN (V.at e i) s e
noncomputable def bt(i:Nat)(x:V):M Unit:=fun s e=>match aE (V.at e i) with
 |some k=>az (s.t.get k) (fun o=>az (wi o) fun zz=>.upd k (.cell x)) s e
 |none=>.ok () s (V.put e i x)
noncomputable def B0:V->Option Bool
 |.bool b=>some b
 |_=>none
noncomputable def F5:V->Option Str
 |.str x=>some x
 |_=>none
noncomputable def yB(a b:V):Option Bool:=match a with
 |.none=>if b = .none then some true else none
 |.bool x=>(B0 b).map (x == ·)
 |.int x=>(intOf b).map (x == ·)
 |.str x=>(F5 b).map (x == ·)
 |_=>none
noncomputable def fw(eq:V->V->Option Bool):List V->List V->Option Bool
 |[],ys=>match ys with
  |[]=>some true
  |_::_=>none
 |x::xs,ys=>match ys with
  |[]=>none
  |y::ys=>match eq x y,fw eq xs ys with
   |some c,some d=>some (c&&d)
   |_,_=>none
noncomputable def gB(eq:V->V->Option Bool)(p q:Bool×List V):Option Bool:=
 if Nat.beq p.2.length q.2.length then(if p.1==q.1 then fw eq p.2 q.2 else none) else if p.1&&q.1 then some false else none
noncomputable def gx(s:aq):Nat->V->V->Option Bool
 |0,_,_=>none
 |n+1,a,b=>match refOf a,refOf b with
  |some j,some k=>match (s.t.get j).bind dy,(s.t.get k).bind dy with
   |some p,some q=>gB (gx s n) p q
   |_,_=>none
  |none,none=>yB a b
  |_,_=>none
noncomputable def oS:Nat:=100
noncomputable def intsOf:List V->Option (List Int)
 |[]=>some []
 |v::r=>(intOf v).bind fun i=>(intsOf r).map fun l=>i::l
noncomputable def kQ(x:Int):List Int->Option Nat
 |[]=>none
 |y::r=>if y==x then some 0 else(kQ x r).map (· + 1)
noncomputable def insI(x:Int):List Int->List Int
 |[]=>[x]
 |y::r=>if x<=y then x::y::r else y::insI x r
noncomputable def sortI:List Int->List Int
 |[]=>[]
 |x::r=>insI x (sortI r)
noncomputable def rZ(a:Int):Nat->List Int
 |0=>[]
 |n+1=>a::rZ (a+1) n
noncomputable def xG(a b:Int):List Int:=rZ a (b-a).toNat
noncomputable def gN(s:aq)(x:V):List V->Option (List Bool)
 |[]=>some []
 |y::r=>match gx s oS y x,gN s x r with
  |some c,some l=>some (c::l)
  |_,_=>none
noncomputable def anyB:List Bool->Bool
 |[]=>false
 |b::r=>b||anyB r
noncomputable def wF:O->Option Bool
 |.list xs=>some (!xs.isEmpty)
 |.tup xs=>some (!xs.isEmpty)
 |.dict xs=>some (!xs.isEmpty)
 |_=>none
noncomputable def DZ(s:aq):V->Option Bool
 |.none=>some false
 |.bool b=>some b
 |.int i=>some (i !=0)
 |.ref k=>(s.t.get k).bind wF
 |_=>none
noncomputable def bO(i:Int):Bool:=Nat.blt i.natAbs 4611686018427387904
noncomputable def binI(op:Operator)(x y:Int):M V:=match op with
  |.Add=>.ret (.int (x+y))
  |.Sub=>.ret (.int (x-y))
  |.Mult=>if bO x&&bO y then .ret (.int (x*y)) else .bad
  |.FloorDiv=>if y==0||!bO y then .bad else .ret (.int (Int.fdiv x y))
  |.Mod=>if y==0 then .bad else .ret (.int (Int.fmod x y))
  |.Pow=>match y with
   |.ofNat n=>if bO x&&Nat.ble n 16 then .ret (.int (x ^ n)) else .bad
   |_=>.bad
  |_=>.bad
noncomputable def C7(op:Operator)(xs:List V)(b:V):M V:=match op with
  |.Add=>az (refOf b) fun k=>.bind (.obj k) fun p=>az (dp p) fun ys=>.gi (xs++ys)
  |.Mult=>az (intOf b) fun y=>if Nat.ble y.natAbs 10000 then .gi (List.replicate y.toNat xs).flatten else .bad
  |_=>.bad
noncomputable def xg(op:Operator)(a b:V):M V:=match intOf a with
 |some x=>az (intOf b) fun y=>binI op x y
 |none=>az (refOf a) fun j=>.bind (.obj j) fun o=>az (dp o) fun xs=>C7 op xs b
noncomputable def idxOf(i:Int)(n:Nat):Option Nat:=match i with
 |.ofNat k=>if Nat.blt k n then some k else none
 |.negSucc k=>if Nat.blt k n then some (n-1-k) else none
noncomputable def M.gj{α:Type}(hd cls:Nat):M α:=match hd with
 |0=>M.raise cls
 |1=>M.raise (cls+100)
 |_=>M.bad
noncomputable def AX(hd:Nat)(a i:V):M V:=az (refOf a) fun j=>az (intOf i) fun x=>.bind (.obj j) fun o=>match dy o with
 |some (l,xs)=>if bO x then(match idxOf x xs.length with
    |some k=>az xs[k]? .ret
    |none=>match l with
     |true=>.gj hd 0
     |false=>.bad) else .bad
 |none=>az (l8 o) fun es=>az (es.lookup x) .ret
noncomputable def natOf(i:Int):Option Nat:=match i with
 |.ofNat k=>some k
 |.negSucc _=>none
noncomputable def yo(o:Option V)(d:Nat):Option Nat:=match o with
 |none=>some d
 |some v=>(intOf v).bind natOf
noncomputable def Gb(a:V)(lo hi:Option V):M V:=az (refOf a) fun j=>.bind (.obj j) fun o=>az (dp o) fun xs=>az (yo lo 0) fun l=>az (yo hi xs.length) fun h=>.gi ((xs.take h).drop l)
noncomputable def oR:V->Bool
 |.none=>true
 |_=>false
noncomputable def Ct(y:Bool):V->Bool
 |.bool x=>x==y
 |_=>false
noncomputable def Ho(a b:V):Option Bool:=match b with
 |.none=>some (oR a)
 |.bool y=>some (Ct y a)
 |_=>none
noncomputable def GW(s:aq)(a:V)(o:O):Option Bool:=match o with
 |.list xs=>(gN s a xs).map anyB
 |.dict es=>(intOf a).map fun x=>(es.lookup x).isSome
 |.set xs=>(intOf a).map fun x=>xs.contains x
 |_=>none
noncomputable def vJ(s:aq)(a b:V):Option Bool:=(refOf b).bind fun k=>(s.t.get k).bind (GW s a)
noncomputable def DK(op:CmpOp)(x y:Int):Bool:=match op with
 |.Lt=>decide (x<y)
 |.LtE=>decide (x<=y)
 |.Gt=>decide (y<x)
 |_=>decide (y<=x)
noncomputable def Ak(s:aq)(op:CmpOp)(a b:V):Option Bool:=match op with
 |.Is=>Ho a b
 |.IsNot=>(Ho a b).map not
 |.Eq=>gx s oS a b
 |.NotEq=>(gx s oS a b).map not
 |.In=>vJ s a b
 |.NotIn=>(vJ s a b).map not
 |op=>(intOf a).bind fun x=>(intOf b).map fun y=>DK op x y
noncomputable def mO(op:CmpOp)(a b:V):M V:=fun s e=>match Ak s op a b with
 |some r=>.ok (.bool r) s e
 |none=>.bad
inductive Bi where
 |len | aW | cX | list | tuple | sum | max | sorted | bool | set
 deriving DecidableEq
noncomputable def Ac:List Int->Int
 |[]=>0
 |x::r=>x+Ac r
noncomputable def gv:Int->List Int->Int
 |m,[]=>m
 |m,x::r=>gv (if m<x then x else m) r
noncomputable def lenOf(d5:Nat)(s:aq)(v:V):Option Nat:=match v with
 |.scr=>some d5
 |v=>(refOf v).bind fun k=>((s.t.get k).bind dy).map (·.2.length)
noncomputable def sO(o:O):Option (List Int):=(dp o).bind intsOf
noncomputable def Dw(o:O):Option (List Int):=(dy o).bind fun p=>intsOf p.2
noncomputable def Jx(b:Bi)(o:O):M V:=match b with
 |.tuple=>az (dp o) .gQ
 |.sum=>az (sO o) fun l=>.ret (.int (Ac l))
 |.max=>az (sO o) fun l=>match l with
  |x::l=>.ret (.int (gv x l))
  |[]=>.bad
 |.sorted=>az (Dw o) fun l=>if Nat.blt l.length 64 then .gi ((sortI l).map .int) else .bad
 |.bool=>az (dp o) fun xs=>.ret (.bool (!xs.isEmpty))
 |_=>.bad
noncomputable def uz(d5:Nat)(b:Bi)(as:List V):M V:=match b with
 |.len=>one as fun v s e=>match lenOf d5 s v with
  |some n=>.ok (.int n) s e
  |none=>.bad
 |.aW=>one as fun v=>az (intOf v) fun n=>if bO n then .kH (.bD 0 n) else .bad
 |.cX=>two as fun v w=>az (intOf v) fun a=>az (intOf w) fun n=>if bO a&&bO n then .kH (.bD a n) else .bad
 |.list=>one as fun v=>az (refOf v) fun k=>.bind (.obj k) fun o=>match dy o with
  |some p=>.gi p.2
  |none=>match o with
   |.bD a b=>.gi ((xG a b).map .int)
   |_=>.bad
 |.set=>zero as (.kH (.set []))
 |b=>one as fun v=>az (refOf v) fun k=>.bind (.obj k) (Jx b)
inductive Me where
 |append | extend | pop | clear | remove | get | values | add
 deriving DecidableEq
noncomputable def fx(k:Nat)(xs:List V):List V:=xs.take k++xs.drop (k+1)
noncomputable def p7:Me->Nat
 |.get=>1
 |.values=>1
 |.add=>2
 |_=>0
noncomputable def BM:O->Nat
 |.list _=>0
 |.dict _=>1
 |.set _=>2
 |_=>3
noncomputable def ur(m:Me)(o:O):Bool:=Nat.beq (p7 m) (BM o)
noncomputable def En(m:Me)(k:Nat)(xs:List V)(as:List V):M V:=match m with
 |.append=>one as fun v=>if Nat.blt xs.length 10000 then .bind (.upd k (.list (xs++[v]))) fun zz=>.ret .none else .bad
 |.extend=>one as fun v=>az (refOf v) fun j=>.bind (.obj j) fun p=>az (dp p) fun ys=>if Nat.blt (xs.length+ys.length) 10000 then .bind (.upd k (.list (xs++ys))) fun zz=>.ret .none else .bad
 |.pop=>zero as (az xs.getLast? fun v=>.bind (.upd k (.list xs.dropLast)) fun zz=>.ret v)
 |.clear=>zero as (.bind (.upd k (.list [])) fun zz=>.ret .none)
 |.remove=>one as fun v=>az (intOf v) fun x=>az (intsOf xs) fun l=>match kQ x l with
  |some i=>.bind (.upd k (.list (fx i xs))) fun zz=>.ret .none
  |none=>.raise 1
 |_=>.bad
noncomputable def HK(m:Me)(k:Nat)(es:List (Int×V))(as:List V):M V:=match m with
 |.get=>match as with
  |[]=>.bad
  |a::r=>az (intOf a) fun x=>match r with
   |[]=>.ret ((es.lookup x).getD .none)
   |d::r=>zero r (.ret ((es.lookup x).getD d))
 |.values=>zero as (.kH (.view k))
 |_=>.bad
noncomputable def H4(m:Me)(k:Nat)(xs:List Int)(as:List V):M V:=match m with
 |.add=>one as fun v=>az (intOf v) fun x=>if xs.contains x then .ret .none else if Nat.blt xs.length 1000 then .bind (.upd k (.set (xs++[x]))) fun zz=>.ret .none else .bad
 |_=>.bad
noncomputable def Cm(m:Me)(k:Nat)(as:List V):M V:=.bind (.obj k) fun o=>match p7 m with
 |0=>az (dp o) fun xs=>En m k xs as
 |1=>az (l8 o) fun es=>HK m k es as
 |_=>az (setOf o) fun xs=>H4 m k xs as
noncomputable def putD(x:Int)(v:V)(es:List (Int×V)):List (Int×V):=
 if(es.lookup x).isSome then repD x v es else es++[(x,v)]
where
 repD (x:Int) (v:V):List (Int×V)->List (Int×V)
  |[]=>[]
  |(y,w)::r=>if x==y then(y,v)::repD x v r else(y,w)::repD x v r
noncomputable def delD(x:Int):List (Int×V)->List (Int×V)
 |[]=>[]
 |(y,w)::r=>if x==y then delD x r else(y,w)::delD x r
noncomputable def hG(k:Nat):List Nat->Bool
 |[]=>true
 |j::r=>match Nat.beq k j with
  |true=>false
  |false=>hG k r
@[reducible] noncomputable def M.zE(k:Nat)(o:O):M Unit:=fun s e=>match hG k s.fz with
 |true=>.ok () ⟨s.n,s.t.set k o,s.fz⟩ e
 |false=>.bad
noncomputable def Du(a i v:V):M Unit:=az (refOf a) fun j=>az (intOf i) fun x=>.bind (.obj j) fun o=>match dp o with
 |some xs=>if bO x then az (idxOf x xs.length) fun k=>.upd j (.list (V.put xs k v)) else .bad
 |none=>az (l8 o) fun es=>if Nat.blt es.length 1000 then .zE j (.dict (putD x v es)) else .bad
noncomputable def DR(a i:V):M Unit:=az (refOf a) fun j=>az (intOf i) fun x=>.bind (.obj j) fun o=>az (l8 o) fun es=>if(es.lookup x).isSome then .zE j (.dict (delD x es)) else .bad
noncomputable def vg(a:V)(f:Nat):M V:=az (refOf a) fun j=>.bind (.obj j) fun o=>match lz o with
 |some d=>.bind (.obj d) fun p=>az (vG p) fun vs=>if Nat.blt f 4 then oN (V.at vs f) else .bad
 |none=>az (zt o) fun p=>if Nat.ble 10 f&&Nat.blt f 13 then oN (V.at p.1 (f-10)) else .bad
noncomputable def yG(a:V)(f:Nat)(v:V):M Unit:=az (refOf a) fun j=>.bind (.obj j) fun o=>match lz o with
 |some d=>.bind (.obj d) fun p=>az (vG p) fun vs=>if Nat.blt f 4 then .upd d (.ns (V.put vs f v)) else .bad
 |none=>az (zt o) fun p=>if Nat.ble 10 f&&Nat.blt f 13 then .upd j (.node (V.put p.1 (f-10) v) p.2) else .bad
inductive It where
 |lst (k:Nat)
 |tup (k:Nat)
 |bD (a b:Int)
 |pW (k:Nat) (es:List (Int×V))
 |vw (k:Nat) (es:List (Int×V))
noncomputable def HM(s:aq)(k:Nat):O->Option It
 |.list _=>some (.lst k)
 |.tup _=>some (.tup k)
 |.bD a b=>some (.bD a b)
 |.dict es=>some (.pW k es)
 |.view d=>((s.t.get d).bind l8).map (.vw d)
 |_=>none
noncomputable def nK(s:aq)(x:V):Option It:=(refOf x).bind fun k=>(s.t.get k).bind (HM s k)
noncomputable def eH(s:aq)(x:It)(i:Nat):Option (Option V):=match x with
 |.lst k=>((s.t.get k).bind dp).map (·[i]?)
 |.tup k=>((s.t.get k).bind qu).map (·[i]?)
 |.bD a b=>some (if a+i<b then some (.int (a+i)) else none)
 |.pW _ es=>some (es[i]?.map fun p=>.int p.1)
 |.vw _ es=>some (es[i]?.map (·.2))
noncomputable def d4{α:Type}(x:It)(m:M α):M α:=match x with
 |.pW k _=>hold k m
 |.vw k _=>hold k m
 |_=>m
where
 hold (k:Nat) (m:M α):M α:=fun s e=>match m ⟨s.n,s.t,k::s.fz⟩ e with
  |.ok a s' e'=>.ok a ⟨s'.n,s'.t,s.fz⟩ e'
  |.exc c a s' e'=>.exc c a ⟨s'.n,s'.t,s.fz⟩ e'
  |.bad=>.bad
end
section
open PySem
inductive Tg where
 |one (i:Nat)
 |many (is:List Nat)
 |rev (is:List Nat)
inductive Sk where
 |loc | own
 |cM (p:Nat)
abbrev dG:=List (Str×Sk)
inductive Fl where
 |next | brk | cont
 |ret (v:V)
abbrev eP:=Nat->List V->M V
structure Fn where
 names:dG
 bR:List Nat
 star:Option Nat
 dflt:List V
 body:eP->List Int->List (M Fl)
noncomputable def aA(hd:Nat)(t:Tg)(v:V):M Unit:=match t with
 |.one i=>bt i v
 |.many is=>tup is id
 |.rev is=>tup is List.reverse
where
 tup (is:List Nat) (f:∀ {α:Type},List α->List α):M Unit:=match hd with
  |0=>az (refOf v) fun k=>.bind (.obj k) fun o=>az (qu o) fun vs=>if Nat.beq vs.length is.length then go (f is) (f vs) else .bad
  |_=>.bad
 go:List Nat->List V->M Unit
  |[],_=>.ret ()
  |i::is,vs=>match vs with
   |[]=>.bad
   |v::vs=>.bind (bt i v) fun zz=>go is vs
noncomputable def bq(outer:List V):dG->aq->aq×List V
 |[],s=>(s,[])
 |(_,k)::r,s=>match k with
  |.loc=>match bq outer r s with
   |(s',e)=>(s',.ah::e)
  |.cM p=>match bq outer r s with
   |(s',e)=>(s',V.at outer p::e)
  |.own=>match bq outer r ⟨s.n+1,s.t.ins s.n (.cell .ah),s.fz⟩ with
   |(s',e)=>(s',.aI s.n::e)
noncomputable def fm{α:Type}(b:dG)(m:M α):M α:=fun s e=>match bq e b s with
 |(s1,e1)=>match m s1 e1 with
  |.ok a s' _=>.ok a s' e
  |.exc _ _ _ _=>.bad
  |.bad=>.bad
@[reducible] noncomputable def fE{α:Type}(hd:Nat)(x:M α):M α:=match hd with
 |0=>x
 |_=>.bad
noncomputable def Dc(hd:Nat)(m:Me):Bool:=match m with
 |.remove=>Nat.beq hd 0
 |_=>true
noncomputable def sC(v:V):M Bool:=fun s e=>match DZ s v with
 |some c=>.ok c s e
 |none=>.bad
noncomputable def aG(x:M V):M Bool:=.bind x sC
@[reducible] noncomputable def both(x:M V):M V×M Bool:=(x,aG x)
noncomputable def Af(op:BoolOp)(c:Bool)(v:V)(y:M V):M V:=match op,c with
 |.And,false=>.ret v
 |.Or,true=>.ret v
 |_,_=>y
noncomputable def yx(op:BoolOp)(v:V)(y:M V):M V:=.bind (sC v) fun c=>Af op c v y
noncomputable def wK{α:Type}(m:M α):M α:=fun s e=>match m s e with
 |.exc _ _ _ _=>.bad
 |r=>r
noncomputable def dQ(f:V->M Unit)(x:It):Nat->Nat->M Unit
 |0,_=>.bad
 |n+1,i=>fun s e=>match eH s x i with
  |some (some v)=>M.bind (f v) (fun zz=>dQ f x n (i+1)) s e
  |some none=>.ok () s e
  |none=>.bad
noncomputable def dK{α:Type}(x:V)(k:It->M α):M α:=fun s e=>match nK s x with
 |some it=>d4 it (k it) s e
 |none=>.bad
noncomputable def bc:Nat:=2000
noncomputable def gD:M V×M Bool:=both .bad
noncomputable def aL(op:Operator)(x y:M V):M V:=.bind x fun a=>.bind y fun b=>xg op a b
noncomputable def iM(x:M V):M V:=.bind x fun a=>az (intOf a) fun i=>.ret (.int (-i))
noncomputable def pX(x:M Bool):M Bool:=.bind x fun b=>.ret (!b)
noncomputable def aO(op:CmpOp)(x y:M V):M V:=.bind x fun a=>.bind y fun b=>mO op a b
noncomputable def Aa(op:BoolOp):List (M V)->M V
 |[]=>.bad
 |x::r=>match r with
  |[]=>x
  |_=>.bind x fun v=>yx op v (Aa op r)
noncomputable def eI(op:BoolOp):List (M Bool)->M Bool
 |[]=>.ret (match op with | .And=>true | .Or=>false)
 |x::r=>.bind x fun c=>match op,c with
  |.And,false=>.ret false
  |.Or,true=>.ret true
  |_,_=>eI op r
noncomputable def br{α:Type}(t:M Bool)(b o:M α):M α:=.bind t fun c=>match c with
  |true=>b
  |false=>o
noncomputable def cR:List (M V)->M (List V)
 |[]=>.ret []
 |x::r=>.bind x fun v=>.bind (cR r) fun vs=>.ret (v::vs)
noncomputable def eList(es:List (M V)):M V:=.bind (cR es) fun vs=>.gi vs
noncomputable def eu(es:List (M V)):M V:=.bind (cR es) fun vs=>.gQ vs
noncomputable def kJ:M V:=.kH (.dict [])
noncomputable def Co:V->Bool
 |.scr=>true
 |_=>false
noncomputable def aD(hd:Nat)(scr:List Int)(x y:M V):M V:=.bind x fun a=>.bind y fun b=>match Co a with
  |true=>az (intOf b) fun x=>az scr[x.toNat]? fun y=>if decide (0<=x) then .ret (.int y) else .bad
  |false=>AX hd a b
noncomputable def Ar:Option (M V)->M (Option V)
 |none=>.ret none
 |some x=>.bind x fun v=>.ret (some v)
noncomputable def gR(x:M V)(lo hi:Option (M V)):M V:=.bind x fun a=>.bind (Ar lo) fun l=>.bind (Ar hi) fun h=>Gb a l h
noncomputable def ez(x:M V)(f:Nat):M V:=.bind x fun a=>vg a f
noncomputable def el(F:eP)(f:Nat)(es:List (M V)):M V:=.bind (cR es) fun vs=>F f vs
noncomputable def aS(n:Nat)(b:Bi)(es:List (M V)):M V:=.bind (cR es) fun vs=>uz n b vs
noncomputable def bE(hd:Nat)(x:M V)(m:Me)(es:List (M V)):M V:=.bind x fun a=>az (refOf a) fun k=>.bind (.obj k) fun o=>if ur m o&&Dc hd m then .bind (cR es) fun vs=>Cm m k vs else .bad
noncomputable def uT(b:Bool)(v:V):M (List V):=match b with
 |false=>.ret [v]
 |true=>az (refOf v) fun k=>.bind (.obj k) fun o=>az (dy o) fun p=>.ret p.2
noncomputable def fD:List (Bool×M V)->M (List V)
 |[]=>.ret []
 |(b,x)::r=>.bind x fun v=>.bind (uT b v) fun us=>.bind (fD r) fun vs=>.ret (us++vs)
noncomputable def jU(F:eP)(x:M V)(f:Nat)(es:M (List V)):M V:=.bind x fun a=>az (refOf a) fun k=>.bind (.obj k) fun q=>az (lz q) fun d=>.bind (.obj d) fun w=>az (vG w) fun zz=>.bind es fun vs=>F f (.ref k::vs)
noncomputable def iterM(a:V):M Nat:=az (refOf a) fun k=>.bind (.obj k) fun o=>az (dp o) fun zz=>.new (.iter k 0)
noncomputable def nextM(j:Nat):M V:=.bind (.obj j) fun q=>az (we q) fun zz=>.kH (.p6 j)
noncomputable def Bq(x:M V):M V:=.bind x fun a=>.bind (iterM a) nextM
noncomputable def Av(o:O):M V:=az (wI o) fun j=>.bind (.obj j) fun q=>az (we q) fun p=>.bind (.obj p.1) fun r=>az (dp r) fun xs=>match xs[p.2]? with
  |some v=>.bind (.upd j (.iter p.1 (p.2+1))) fun zz=>.ret v
  |none=>.bind (.upd j .dead) fun zz=>.raise 2
noncomputable def C9(x:M V):M V:=.bind x fun a=>az (refOf a) fun k=>.bind (.obj k) Av
noncomputable def CM(i:Nat)(x:M V):M V:=.bind x fun a=>.bind (bt i a) fun zz=>.ret a
noncomputable def DC(x:M V):M V:=.bind x fun a=>az (refOf a) fun k=>.bind (.obj k) fun o=>az (qu o) fun zz=>.ret (.bool true)
noncomputable def vV(x:M V):M V:=.bind x fun a=>az (refOf a) fun k=>.bind (.obj k) fun o=>az (excOf o) fun p=>if Nat.beq (p.1 % 100) 1 then az (refOf p.2) fun j=>.ret (.ref j) else .bad
noncomputable def xn(p q:Str)(x:M V):M V:=if Nat.blt p.length 1000&&Nat.blt q.length 1000 then .bind x fun a=>az (intOf a) fun i=>if i==0 then .ret (.str (Str.empty++p++Str.ofString "0"++q)) else .bad else .bad
noncomputable def FJ(k x:Int):List (Int×Int)->List (Int×Int)
 |[]=>[(k,x)]
 |p::r=>if k<=p.1 then(k,x)::p::r else p::FJ k x r
noncomputable def BV:List (Int×Int)->List (Int×Int)
 |[]=>[]
 |p::r=>FJ p.1 p.2 (BV r)
noncomputable def allM:List (M Bool)->M Bool
 |[]=>.ret true
 |x::r=>.bind x fun c=>match c with
  |true=>allM r
  |false=>.ret false
noncomputable def iB(hd:Nat)(t:Tg)(ifs:List (M Bool))(g:M Unit)(v:V):M Unit:=.bind (aA hd t v) fun zz=>.bind (allM ifs) fun c=>match c with
  |false=>.ret ()
  |true=>g
noncomputable def cw(x:M V)(acc:Nat):M Unit:=.bind x fun a=>.bind (Cm .append acc [a]) fun zz=>.ret ()
noncomputable def Ew(t:Tg)(x:M V)(ifs:List (M Bool))(r:Nat->M Unit)(acc:Nat):M Unit:=.bind x fun x=>wK (dK x fun x=>dQ (fun v=>iB 0 t ifs (r acc) v) x bc 0)
noncomputable def bz(x:M V)(t:Tg)(ifs:List (M Bool))(r:Nat->M Unit)(b:dG):M V:=.bind x fun x=>wK (dK x fun x=>.bind (.new (.list [])) fun acc=>
    .bind (fm b (dQ (fun v=>iB 0 t ifs (r acc) v) x bc 0)) fun zz=>.ret (.ref acc))
noncomputable def Hv:O->Option (Int×Int)
 |.bD a b=>some (a,b)
 |_=>none
noncomputable def Cf(b:dG)(p:Nat)(key:M V):List Int->M (List (Int×Int))
 |[]=>.ret []
 |i::r=>.bind (fm b (.bind (bt p (.int i)) fun zz=>key)) fun v=>az (intOf v) fun k=>.bind (Cf b p key r) fun ks=>.ret ((k,i)::ks)
noncomputable def yV(x:M V)(b:dG)(p:Nat)(key:M V):M V:=.bind x fun a=>az (refOf a) fun k=>.bind (.obj k) fun o=>az (Hv o) fun q=>.bind (Cf b p key (xG q.1 q.2)) fun ks=>.gi ((BV ks).map fun p=>.int p.2)
noncomputable def j4(x y:M V)(v:V):M Unit:=.bind x fun o=>.bind y fun j=>Du o j v
noncomputable def mU(x:M V)(f:Nat)(v:V):M Unit:=.bind x fun o=>yG o f v
noncomputable def gU:List (V->M Unit)->V->M Unit
 |[],_=>.ret ()
 |a::r,v=>.bind (a v) fun zz=>gU r v
noncomputable def nV(k:M Fl)(f:Fl):M Fl:=match f with
 |.next=>k
 |.cont=>k
 |.brk=>.ret .next
 |.ret v=>.ret (.ret v)
noncomputable def bM(t:M Bool)(b:M Fl)(o:M Fl):Nat->M Fl
 |0=>.bad
 |n+1=>br t (.bind b (nV (bM t b o n))) o
noncomputable def pT(x:It)(asg:V->M Unit)(b:M Fl):Nat->Nat->M Fl
 |0,_=>.bad
 |n+1,i=>fun s e=>match eH s x i with
  |some (some v)=>M.bind (asg v) (fun zz=>M.bind b (nV (pT x asg b n (i+1)))) s e
  |some none=>.ok .next s e
  |none=>.bad
structure GS where
 i:Nat
 last:V
 inf:Bool
inductive GR where
 |done | err | bad
 |item (v:V) (g:GS)
noncomputable def yr(xs:List V)(g:GS):GR:=match xs[g.i]? with
 |none=>.done
 |some v=>match intOf v with
  |none=>.bad
  |some x=>if x==127 then .done else if x==0 then(match oR g.last with
    |true=>.err
    |false=>.item g.last ⟨g.i+1,g.last,true⟩) else .item (.int x) ⟨g.i+1,.int x,false⟩
noncomputable def da(s:aq)(k:Nat)(g:GS):GR:=match g.inf with
 |true=>.item g.last g
 |false=>match (s.t.get k).bind dp with
  |some xs=>yr xs g
  |none=>.bad
noncomputable def rf(k:Nat)(asg:V->M Unit)(b:M Fl):Nat->GS->M Fl
 |0,_=>.bad
 |n+1,g=>fun s e=>match da s k g with
  |.item v g'=>M.bind (asg v) (fun zz=>M.bind b (nV (rf k asg b n g'))) s e
  |.done=>.ok .next s e
  |.err=>M.bind (M.gQ [.str (Str.ofString "invalid grouping")]) (fun t s e=>.exc 1 t s e) s e
  |.bad=>.bad
noncomputable def HQ(op:Operator)(x y:Int):M V:=match op with
 |.Add=>.ret (.int (x+y))
 |.Sub=>.ret (.int (x-y))
 |_=>.bad
noncomputable def xI(op:Operator)(a b:V):M V:=az (intOf a) fun x=>az (intOf b) fun y=>HQ op x y
noncomputable def iY(b:M Fl)(h:Nat->V->M Fl):M Fl:=fun s e=>match b s e with
 |.exc c a s' e'=>h c a s' e'
 |r=>r
noncomputable def Cr(fl g:Fl):M Fl:=match g with
 |.next=>.ret fl
 |g=>.ret g
noncomputable def JH(c:Nat)(a:V)(g:Fl):M Fl:=match g with
 |.next=>fun s e=>.exc c a s e
 |_=>.bad
noncomputable def cH(b:M Fl)(f0 f1:M Fl):M Fl:=fun s e=>match b s e with
 |.ok fl s' e'=>M.bind f0 (Cr fl) s' e'
 |.exc c a s' e'=>match Nat.blt c 100 with
  |true=>M.bind f1 (JH c a) s' e'
  |false=>.bad
 |.bad=>.bad
noncomputable def calm(b:M Fl):M Fl:=fun s e=>match b s e with
 |.exc _ _ _ _=>.bad
 |r=>r
noncomputable def uc(i:Nat):M Unit:=fun s e=>match aE (V.at e i) with
 |some _=>.bad
 |none=>.ok () s (V.put e i .ah)
noncomputable def au:List (M Fl)->M Fl
 |[]=>.ret .next
 |x::r=>.bind x fun f=>match f with
  |.next=>au r
  |f=>.ret f
noncomputable def aJ(x:M V)(ts:List (V->M Unit)):M Fl:=.bind x fun a=>.bind (gU ts a) fun zz=>.ret .next
noncomputable def dZ(i:Nat)(op:Operator)(x:M V):M Fl:=.bind (af i) fun a=>.bind x fun b=>.bind (xI op a b) fun c=>.bind (bt i c) fun zz=>.ret .next
noncomputable def qB(o:M V)(f:Nat)(op:Operator)(x:M V):M Fl:=.bind o fun y=>.bind (vg y f) fun a=>.bind x fun b=>.bind (xI op a b) fun c=>.bind (yG y f c) fun zz=>.ret .next
noncomputable def aZ(x:M V):M Fl:=.bind x fun zz=>.ret .next
noncomputable def jS(is:List Nat)(x:M V):M Fl:=.bind x fun a=>.bind (aA 0 (.rev is) a) fun zz=>.ret .next
noncomputable def eo(x:M V):M Fl:=.bind x fun v=>.bind (.gQ [v]) fun t s e=>.exc 1 t s e
noncomputable def b9(x:M V):M Fl:=.bind x fun a=>.ret (.ret a)
noncomputable def dB(t:Tg)(x:M V)(b:M Fl):M Fl:=.bind x fun x=>dK x fun x=>pT x (aA 0 t) b bc 0
noncomputable def rv(t:Tg)(x:M V)(b:M Fl):M Fl:=.bind x fun v=>az (refOf v) fun k=>rf k (aA 0 t) b bc ⟨0,.none,false⟩
noncomputable def Al(x y:M V):M Fl:=.bind x fun a=>.bind y fun b=>.bind (DR a b) fun zz=>.ret .next
noncomputable def nW(c n:Nat)(m:M Fl):M Fl:=match Nat.beq (c % 100) n with
 |true=>m
 |false=>.bad
noncomputable def iV(n:Nat)(x y:M Fl):M Fl:=iY x fun c zz=>nW c n (calm y)
noncomputable def xV(i:Nat)(y:M Fl)(v:V):M Fl:=.bind (bt i v) fun zz=>.bind (calm y) fun f=>.bind (uc i) fun zz=>.ret f
noncomputable def n6(i:Nat)(x y:M Fl):M Fl:=iY x fun c a=>nW c 1 (.bind (.kH (.exc (c % 100) a)) (xV i y))
noncomputable def eB:List Nat->List V->M Unit
 |i::is,v::vs=>.bind (bt i v) fun zz=>eB is vs
 |[],[]=>.ret ()
 |_,_=>.bad
noncomputable def gn(f:Fn)(args:List V):Option (List V×List V):=match f.dflt with
 |[]=>match Nat.ble f.bR.length args.length&&(f.star.isSome||Nat.beq args.length f.bR.length) with
  |true=>some (args.take f.bR.length,args.drop f.bR.length)
  |false=>none
 |d=>match Nat.beq (args.length+d.length) f.bR.length with
  |true=>some (args++d,[])
  |false=>none
noncomputable def aU(F:eP)(scr:List Int)(f:Fn)(args:List V):M V:=fun s e=>match gn f args with
 |none=>.bad
 |some (all,over)=>match callIn s all over with
  |.ok v s' _=>.ok v s' e
  |.exc c a s' _=>.exc c a s' e
  |.bad=>.bad
where
 callIn (s:aq) (all over:List V):Rs V:=match f.star with
  |none=>match bq [] f.names s with
   |(s1,e1)=>M.bind (eB f.bR all) (fun zz=>fin) s1 e1
  |some i=>match M.gQ over s [] with
   |.ok t s0 _=>match bq [] f.names s0 with
    |(s1,e1)=>M.bind (eB (f.bR++[i]) (all++[t])) (fun zz=>fin) s1 e1
   |_=>.bad
 fin:M V:=.bind (au (f.body F scr)) fun fl=>match fl with
  |.ret v=>.ret v
  |.next=>.ret .none
  |_=>.bad
noncomputable def mkObj(o:Nat->O)(init:List V->M V)(args:List V):M V:=.bind (.new (.ns [.ah,.ah,.ah,.ah])) fun d=>.bind (.new (o d)) fun k=>.bind (init (.ref k::args)) fun r=>if oR r then .ret (.ref k) else .bad
end
end Mine
end
noncomputable section
open PySem
namespace Mine.L1
noncomputable def de:Fn:=
 {names:=[("self",.loc),("node",.loc)],bR:=[0,1],star:=none,dflt:=[],body:=fun F scr=>[aJ (af 1) [mU (af 0) 10],
  aJ (.ret (.int 0)) [mU (af 0) 11],
  aJ (eList []) [mU (af 0) 12]]}
noncomputable def bN:Fn:=
 {names:=[("self",.loc),("graph",.loc),("node",.loc),("predecessors",.loc)],bR:=[0,1],star:=none,dflt:=[.none],body:=fun F scr=>[aJ (kJ) [mU (af 0) 0],
  aJ (.ret .none) [mU (af 0) 1],
  aJ (.ret (.int 0)) [mU (af 0) 2],
  aJ (.ret (.int 0)) [mU (af 0) 3],
  br (aG (aO .IsNot (af 1) (.ret .none))) (au [dB (.many [2,3]) (.bad) (au [aZ (jU F (af 0) 4 (fD [(false,af 2),(true,af 3)]))])]) (au [])]}
noncomputable def bx:Fn:=
 {names:=[("self",.loc),("node",.loc),("result",.loc)],bR:=[0,1],star:=none,dflt:=[],body:=fun F scr=>[br (aG (aO .Is (CM 2 (bE 0 (ez (af 0) 0) .get [af 1])) (.ret .none))) (au [aJ (el F 27 [af 1]) [j4 (ez (af 0) 0) (af 1),aA 0 (.one 2)]]) (au []),
  b9 (af 2)]}
noncomputable def cI:Fn:=
 {names:=[("self",.loc),("node",.loc),("predecessors",.loc),("nodeinfo",.loc),("pred",.loc),("pred_info",.loc)],bR:=[0,1],star:=(some 2),dflt:=[],body:=fun F scr=>[br (aG (aO .IsNot (ez (af 0) 1) (.ret .none))) (au [eo (.ret (.str "Nodes cannot be added after a call to prepare()"))]) (au []),
  aJ (jU F (af 0) 3 (cR [af 1])) [aA 0 (.one 3)],
  qB (af 3) 11 .Add (aS scr.length .len [af 2]),
  dB (.one 4) (af 2) (au [aJ (jU F (af 0) 3 (cR [af 4])) [aA 0 (.one 5)],aZ (bE 0 (ez (af 5) 12) .append [af 1])])]}
noncomputable def bP:Fn:=
 {names:=[("self",.loc),("cycle",.loc)],bR:=[0],star:=none,dflt:=[],body:=fun F scr=>[br (aG (aO .IsNot (ez (af 0) 1) (.ret .none))) (au [eo (.ret (.str "cannot prepare() more than once"))]) (au []),
  aJ (bz (bE 0 (ez (af 0) 0) .values []) (.one 1) [aG (aO .Eq (ez (af 1) 11) (.ret (.int 0)))] (cw (ez (af 1) 10)) [(".0",.loc),("i",.loc)]) [mU (af 0) 1],
  aJ (jU F (af 0) 10 (cR [])) [aA 0 (.one 1)],
  br (aG (af 1)) (au [.bad]) (au [])]}
noncomputable def bK:Fn:=
 {names:=[("self",.loc),("result",.loc),("n2i",.loc),("node",.loc)],bR:=[0],star:=none,dflt:=[],body:=fun F scr=>[br (aG (aO .Is (ez (af 0) 1) (.ret .none))) (au [eo (.ret (.str "prepare() must be called first"))]) (au []),
  aJ (aS scr.length .tuple [ez (af 0) 1]) [aA 0 (.one 1)],
  aJ (ez (af 0) 0) [aA 0 (.one 2)],
  dB (.one 3) (af 1) (au [aJ (.ret (.int (-1))) [mU (aD 0 scr (af 2) (af 3)) 11]]),
  aZ (bE 0 (ez (af 0) 1) .clear []),
  qB (af 0) 2 .Add (aS scr.length .len [af 1]),
  b9 (af 1)]}
noncomputable def bJ:Fn:=
 {names:=[("self",.loc)],bR:=[0],star:=none,dflt:=[],body:=fun F scr=>[br (aG (aO .Is (ez (af 0) 1) (.ret .none))) (au [eo (.ret (.str "prepare() must be called first"))]) (au []),
  b9 (Aa .Or [aO .Lt (ez (af 0) 3) (ez (af 0) 2),aS scr.length .bool [ez (af 0) 1]])]}
noncomputable def cA:Fn:=
 {names:=[("self",.loc),("nodes",.loc),("n2i",.loc),("node",.loc),("nodeinfo",.loc),("stat",.loc),("successor",.loc),("successor_info",.loc)],bR:=[0],star:=(some 1),dflt:=[],body:=fun F scr=>[br (aG (aO .Is (ez (af 0) 1) (.ret .none))) (au [eo (.ret (.str "prepare() must be called first"))]) (au []),
  aJ (ez (af 0) 0) [aA 0 (.one 2)],
  dB (.one 3) (af 1) (au [br (aG (aO .Is (CM 4 (bE 0 (af 2) .get [af 3])) (.ret .none))) (au [eo (xn "node " " was not added using add()" (af 3))]) (au []),aJ (ez (af 4) 11) [aA 0 (.one 5)],br (aG (aO .NotEq (af 5) (.ret (.int (-1))))) (au [br (aG (aO .GtE (af 5) (.ret (.int 0)))) (au [eo (xn "node " " was not passed out (still not ready)" (af 3))]) (au [br (aG (aO .Eq (af 5) (.ret (.int (-2))))) (au [eo (xn "node " " was already marked done" (af 3))]) (au [.bad])])]) (au []),aJ (.ret (.int (-2))) [mU (af 4) 11],dB (.one 6) (ez (af 4) 12) (au [aJ (aD 0 scr (af 2) (af 6)) [aA 0 (.one 7)],qB (af 7) 11 .Sub (.ret (.int 1)),br (aG (aO .Eq (ez (af 7) 11) (.ret (.int 0)))) (au [aZ (bE 0 (ez (af 0) 1) .append [af 6])]) (au [])]),qB (af 0) 3 .Add (.ret (.int 1))])]}
noncomputable def bF:Fn:=
 {names:=[("self",.loc),("n2i",.loc),("stack",.loc),("itstack",.loc),("seen",.loc),("node2stacki",.loc),("node",.loc)],bR:=[0],star:=none,dflt:=[],body:=fun F scr=>[aJ (ez (af 0) 0) [aA 0 (.one 1)],
  aJ (eList []) [aA 0 (.one 2)],
  aJ (eList []) [aA 0 (.one 3)],
  aJ (aS scr.length .set []) [aA 0 (.one 4)],
  aJ (kJ) [aA 0 (.one 5)],
  dB (.one 6) (af 1) (au [br (aG (aO .In (af 6) (af 4))) (au [.ret .cont]) (au []),bM (aG (.ret (.bool true))) (au [br (aG (aO .In (af 6) (af 4))) (au [br (aG (aO .In (af 6) (af 5))) (au [b9 (aL .Add (gR (af 2) (some (aD 0 scr (af 5) (af 6))) none) (eList [af 6]))]) (au [])]) (au [aZ (bE 0 (af 4) .add [af 6]),aZ (bE 0 (af 3) .append [Bq (ez (aD 0 scr (af 1) (af 6)) 12)]),aJ (aS scr.length .len [af 2]) [j4 (af 5) (af 6)],aZ (bE 0 (af 2) .append [af 6])]),bM (aG (af 2)) (au [iV 2 (au [aJ (C9 (aD 0 scr (af 3) (iM (.ret (.int 1))))) [aA 0 (.one 6)],.ret .brk]) (au [Al (af 5) (bE 2 (af 2) .pop []),aZ (bE 2 (af 3) .pop [])])]) (au [.ret .brk]) bc]) (au []) bc]),
  b9 (.ret .none)]}
noncomputable def aN:Fn:=
 {names:=[("expected",.loc),("actual",.loc),("i",.loc),("j",.loc),("missing",.loc),("unexpected",.loc),("e",.loc),("a",.loc)],bR:=[0,1],star:=none,dflt:=[],body:=fun F scr=>[aJ (.ret (.int 0)) [aA 0 (.one 2),aA 0 (.one 3)],
  aJ (eList []) [aA 0 (.one 4)],
  aJ (eList []) [aA 0 (.one 5)],
  bM (aG (.ret (.bool true))) (au [iV 0 (au [aJ (aD 0 scr (af 0) (af 2)) [aA 0 (.one 6)],aJ (aD 0 scr (af 1) (af 3)) [aA 0 (.one 7)],br (aG (aO .Lt (af 6) (af 7))) (au [aZ (bE 0 (af 4) .append [af 6]),dZ 2 .Add (.ret (.int 1)),bM (aG (aO .Eq (aD 0 scr (af 0) (af 2)) (af 6))) (au [dZ 2 .Add (.ret (.int 1))]) (au []) bc]) (au [br (aG (aO .Gt (af 6) (af 7))) (au [aZ (bE 0 (af 5) .append [af 7]),dZ 3 .Add (.ret (.int 1)),bM (aG (aO .Eq (aD 0 scr (af 1) (af 3)) (af 7))) (au [dZ 3 .Add (.ret (.int 1))]) (au []) bc]) (au [dZ 2 .Add (.ret (.int 1)),cH (au [bM (aG (aO .Eq (aD 0 scr (af 0) (af 2)) (af 6))) (au [dZ 2 .Add (.ret (.int 1))]) (au []) bc]) (au [dZ 3 .Add (.ret (.int 1)),bM (aG (aO .Eq (aD 0 scr (af 1) (af 3)) (af 7))) (au [dZ 3 .Add (.ret (.int 1))]) (au []) bc]) (au [dZ 3 .Add (.ret (.int 1)),bM (aG (aO .Eq (aD 1 scr (af 1) (af 3)) (af 7))) (au [dZ 3 .Add (.ret (.int 1))]) (au []) bc])])])]) (au [aZ (bE 2 (af 4) .extend [gR (af 0) (some (af 2)) none]),aZ (bE 2 (af 5) .extend [gR (af 1) (some (af 3)) none]),.ret .brk])]) (au []) bc,
  b9 (eu [af 4,af 5])]}
noncomputable def bh:Fn:=
 {names:=[("expected",.loc),("actual",.loc),("missing",.loc),("item",.loc)],bR:=[0,1],star:=none,dflt:=[],body:=fun F scr=>[aJ (eList []) [aA 0 (.one 2)],
  bM (aG (af 0)) (au [aJ (bE 0 (af 0) .pop []) [aA 0 (.one 3)],iV 1 (au [aZ (bE 0 (af 1) .remove [af 3])]) (au [aZ (bE 2 (af 2) .append [af 3])])]) (au []) bc,
  b9 (eu [af 2,af 1])]}
noncomputable def dc:Fn:=
 {names:=[("script",.loc),("cells",.loc),("place",.loc)],bR:=[0],star:=none,dflt:=[],body:=fun F scr=>[aJ (eList [.ret (.int 0),.ret (.int 6),.ret (.int 12)]) [aA 0 (.one 1)],
  dB (.one 2) (aS scr.length .aW [aS scr.length .len [af 0]]) (au [aJ (aL .Add (aD 0 scr (af 1) (aL .Mod (af 2) (.ret (.int 3)))) (aD 0 scr (af 0) (af 2))) [j4 (af 1) (aL .Mod (af 2) (.ret (.int 3)))]]),
  b9 (bz (af 1) (.one 1) [] (cw (eu [aL .Add (.ret (.int 1)) (aL .Mod (aL .FloorDiv (af 1) (.ret (.int 5))) (.ret (.int 8))),aL .Add (.ret (.int 2)) (aL .Mod (af 1) (.ret (.int 5)))])) [(".0",.loc),("cell",.loc)])]}
noncomputable def cL:Fn:=
 {names:=[("row",.loc),("held",.loc),("marks",.loc),("whole",.loc),("size",.loc)],bR:=[0],star:=none,dflt:=[],body:=fun F scr=>[aJ (gR (af 0) none none) [aA 0 (.one 1)],
  aJ (eList []) [aA 0 (.one 2)],
  aJ (.ret (.int 0)) [aA 0 (.one 3)],
  rv (.one 4) (af 0) (au [aJ (aL .Add (af 3) (af 4)) [aA 0 (.one 3)],br (aG (aO .Gt (af 3) (.ret (.int 16)))) (au [.ret .brk]) (au []),aZ (bE 0 (af 2) .append [af 3])]),
  br (aG (aO .NotEq (af 0) (af 1))) (au [b9 (.ret .none)]) (au []),
  b9 (af 2)]}
noncomputable def d9:Fn:=
 {names:=[("classes",.own),("mask",.own),("picked",.loc),("row",.loc),("number",.own)],bR:=[0,1],star:=none,dflt:=[],body:=fun F scr=>[aJ (bz (aS scr.length .aW [.ret (.int 3)]) (.one 1) [aG (aO .Eq (aL .Mod (aL .FloorDiv (af 3) (aL .Pow (.ret (.int 2)) (af 1))) (.ret (.int 2))) (.ret (.int 1)))] (cw (aD 0 scr (af 2) (af 1))) [(".0",.loc),("k",.loc),("classes",.cM 0),("mask",.cM 1)]) [aA 0 (.one 2)],
  aJ (eList []) [aA 0 (.one 3)],
  dB (.one 4) (aS scr.length .cX [.ret (.int 1),.ret (.int 17)]) (au [br (pX (aG (bz (af 2) (.many [1,2]) [eI .Or [aG (aO .Lt (af 3) (af 1)),aG (aO .NotEq (aL .Mod (aL .Sub (af 3) (af 1)) (af 2)) (.ret (.int 0)))]] (cw (.ret (.int 1))) [(".0",.loc),("first",.loc),("step",.loc),("number",.cM 4)]))) (au [aZ (bE 0 (af 3) .append [af 4])]) (au [])]),
  b9 (af 3)]}
noncomputable def fh:Fn:=
 {names:=[("classes",.loc),("mask",.loc),("whole",.loc),("k",.loc),("one",.loc),("two",.loc)],bR:=[0,1],star:=none,dflt:=[],body:=fun F scr=>[aJ (.ret (.int 1)) [aA 0 (.one 2)],
  dB (.one 3) (aS scr.length .aW [.ret (.int 3)]) (au [br (aG (aO .Eq (aL .Mod (aL .FloorDiv (af 1) (aL .Pow (.ret (.int 2)) (af 3))) (.ret (.int 2))) (.ret (.int 1)))) (au [jS [4,5] (eu [af 2,aD 0 scr (aD 0 scr (af 0) (af 3)) (.ret (.int 1))]),bM (aG (aO .NotEq (af 5) (.ret (.int 0)))) (au [jS [4,5] (eu [af 5,aL .Mod (af 4) (af 5)])]) (au []) bc,aJ (aL .FloorDiv (aL .Mult (af 2) (aD 0 scr (aD 0 scr (af 0) (af 3)) (.ret (.int 1)))) (af 4)) [aA 0 (.one 2)]]) (au [])]),
  b9 (af 2)]}
noncomputable def eM:Fn:=
 {names:=[("rows",.loc),("meets",.loc),("k",.loc),("mask",.loc),("alone",.loc)],bR:=[0],star:=none,dflt:=[],body:=fun F scr=>[aJ (eList [eList []]) [aA 0 (.one 1)],
  dB (.one 2) (aS scr.length .aW [.ret (.int 3)]) (au [dB (.one 3) (aS scr.length .aW [aL .Pow (.ret (.int 2)) (af 2)]) (au [br (aG (aO .Eq (af 3) (.ret (.int 0)))) (au [aZ (bE 0 (af 1) .append [aD 0 scr (af 0) (af 2)])]) (au [aJ (aD 0 scr (el F 13 [aD 0 scr (af 1) (af 3),aD 0 scr (af 0) (af 2)]) (.ret (.int 0))) [aA 0 (.one 4)],aZ (bE 0 (af 1) .append [aD 0 scr (el F 13 [aD 0 scr (af 1) (af 3),af 4]) (.ret (.int 0))])])])]),
  b9 (af 1)]}
noncomputable def eG:Fn:=
 {names:=[("members",.own),("above",.loc),("two",.own),("one",.own),("told",.loc),("missing",.loc),("unexpected",.loc)],bR:=[0],star:=none,dflt:=[],body:=fun F scr=>[aJ (bz (af 0) (.one 1) [] (cw (eList [])) [(".0",.loc),("row",.loc)]) [aA 0 (.one 1)],
  dB (.one 2) (aS scr.length .aW [aS scr.length .len [af 0]]) (au [dB (.one 3) (aS scr.length .aW [af 2]) (au [aJ (el F 13 [aD 0 scr (af 0) (af 3),aD 0 scr (af 0) (af 2)]) [aA 0 (.one 4)],aJ (bz (aD 0 scr (af 0) (af 3)) (.one 1) [aG (aO .NotIn (af 1) (aD 0 scr (af 2) (af 3)))] (cw (af 1)) [(".0",.loc),("number",.loc),("members",.cM 0),("two",.cM 2)]) [aA 0 (.one 5)],aJ (bz (aD 0 scr (af 0) (af 2)) (.one 1) [aG (aO .NotIn (af 1) (aD 0 scr (af 2) (af 3)))] (cw (af 1)) [(".0",.loc),("number",.loc),("members",.cM 0),("one",.cM 3)]) [aA 0 (.one 6)],br (aG (aO .NotEq (af 4) (eu [af 5,af 6]))) (au [b9 (.ret .none)]) (au []),br (aG (aO .Eq (aD 0 scr (af 4) (.ret (.int 1))) (eList []))) (au [aZ (bE 0 (aD 0 scr (af 1) (af 2)) .append [af 3])]) (au [br (aG (aO .Eq (aD 0 scr (af 4) (.ret (.int 0))) (eList []))) (au [aZ (bE 0 (aD 0 scr (af 1) (af 3)) .append [af 2])]) (au [])])])]),
  b9 (af 1)]}
noncomputable def eU:Fn:=
 {names:=[("sorter",.loc),("error",.loc)],bR:=[0],star:=none,dflt:=[],body:=fun F scr=>[n6 1 (au [aZ (jU F (af 0) 9 (cR [.ret (.int 0)]))]) (au [b9 (aO .Eq (vV (af 1)) (eu [.ret (.str "node 0 was already marked done")]))]),
  b9 (.ret (.bool false))]}
noncomputable def cN:Fn:=
 {names:=[("above",.loc),("sorter",.loc),("node",.loc),("answers",.loc),("rounds",.loc),("weights",.own),("turn",.loc),("group",.loc)],bR:=[0],star:=none,dflt:=[],body:=fun F scr=>[aJ (el F 29 []) [aA 0 (.one 1)],
  dB (.one 2) (aS scr.length .aW [aS scr.length .len [af 0]]) (au [aZ (jU F (af 1) 4 (fD [(false,af 2),(true,aD 0 scr (af 0) (af 2))]))]),
  aJ (eList [jU F (af 1) 5 (cR [])]) [aA 0 (.one 3)],
  aJ (eList []) [aA 0 (.one 4)],
  aJ (kJ) [aA 0 (.one 5)],
  dB (.one 6) (aS scr.length .aW [aS scr.length .len [af 0]]) (au [br (aG (aO .Is (jU F (af 1) 7 (cR [])) (.ret (.bool true)))) (au [aJ (jU F (af 1) 6 (cR [])) [aA 0 (.one 7)],br (pX (aG (DC (af 7)))) (au [b9 (.ret .none)]) (au []),aZ (bE 0 (af 4) .append [aS scr.length .sorted [af 7]]),dB (.one 2) (af 7) (au [aJ (aL .Sub (iM (.ret (.int 1))) (aS scr.length .sum [bz (aD 0 scr (af 0) (af 2)) (.one 1) [] (cw (bE 0 (af 2) .get [af 1,.ret (.int 99)])) [(".0",.loc),("other",.loc),("weights",.cM 5)]])) [j4 (af 5) (af 2)]]),aZ (bE 0 (af 3) .append [jU F (af 1) 9 (fD [(true,af 7)])])]) (au [])]),
  br (eI .Or [aG (aO .IsNot (jU F (af 1) 7 (cR [])) (.ret (.bool false))),aG (aO .NotEq (jU F (af 1) 6 (cR [])) (eu []))]) (au [b9 (.ret .none)]) (au []),
  br (eI .Or [aG (bz (af 3) (.one 1) [aG (aO .IsNot (af 1) (.ret .none))] (cw (.ret (.int 1))) [(".0",.loc),("answer",.loc)]),pX (aG (el F 21 [af 1]))]) (au [b9 (.ret .none)]) (au []),
  b9 (eu [af 4,af 5])]}
noncomputable def ec:Fn:=
 {names:=[("members",.own),("order",.loc),("ranks",.own),("k",.own),("over",.loc),("last",.loc)],bR:=[0],star:=none,dflt:=[],body:=fun F scr=>[aJ (yV (aS scr.length .aW [aS scr.length .len [af 0]]) [("k",.loc),("members",.cM 0)] 0 (iM (aS scr.length .len [aD 0 scr (af 1) (af 0)]))) [aA 0 (.one 1)],
  aJ (kJ) [aA 0 (.one 2)],
  dB (.one 3) (af 1) (au [aJ (bz (af 2) (.one 1) [pX (aG (bz (aD 0 scr (af 3) (af 2)) (.one 1) [aG (aO .NotIn (af 1) (aD 0 scr (af 3) (af 2)))] (cw (af 1)) [(".0",.loc),("number",.loc),("j",.cM 1),("members",.cM 3)]))] (cw (aD 0 scr (af 4) (af 1))) [(".0",.loc),("j",.own),("k",.cM 3),("members",.cM 0),("ranks",.cM 2)]) [aA 0 (.one 4)],aJ (aL .Add (aS scr.length .max [aL .Add (eList [iM (.ret (.int 1))]) (af 4)]) (.ret (.int 1))) [j4 (af 2) (af 3)]]),
  aJ (aS scr.length .max [bz (af 1) (.one 1) [] (cw (aD 0 scr (af 2) (af 1))) [(".0",.loc),("k",.loc),("ranks",.cM 2)]]) [aA 0 (.one 5)],
  b9 (bz (aS scr.length .aW [aL .Add (af 5) (.ret (.int 1))]) (.one 1) [] (cw (bz (aS scr.length .aW [aS scr.length .len [af 2]]) (.one 1) [aG (aO .Eq (aD 0 scr (af 3) (af 1)) (af 2))] (cw (af 1)) [(".0",.loc),("k",.loc),("rank",.cM 1),("ranks",.cM 3)])) [(".0",.loc),("rank",.own),("members",.cM 0),("ranks",.cM 2)])]}
noncomputable def fo:Fn:=
 {names:=[("members",.loc),("weights",.loc),("laid",.loc),("taken",.loc),("k",.loc),("missing",.loc),("left",.loc)],bR:=[0,1],star:=none,dflt:=[],body:=fun F scr=>[aJ (aS scr.length .list [aS scr.length .cX [.ret (.int 1),.ret (.int 17)]]) [aA 0 (.one 2)],
  aJ (eList []) [aA 0 (.one 3)],
  dB (.one 4) (aS scr.length .aW [aS scr.length .len [af 0]]) (au [br (aG (aO .Gt (aD 0 scr (af 1) (af 4)) (.ret (.int 0)))) (au [aJ (aL .Add (af 2) (aL .Mult (aD 0 scr (af 0) (af 4)) (aD 0 scr (af 1) (af 4)))) [aA 0 (.one 2)]]) (au [aJ (aL .Add (af 3) (aL .Mult (aD 0 scr (af 0) (af 4)) (iM (aD 0 scr (af 1) (af 4))))) [aA 0 (.one 3)]])]),
  aJ (el F 14 [af 3,af 2]) [aA 0 (.many [5,6])],
  b9 (eu [af 5,aS scr.length .sorted [af 6],af 3])]}
noncomputable def cq:Fn:=
 {names:=[("classes",.own),("mask",.loc),("wants",.own),("rows",.loc),("meets",.loc),("members",.loc),("row",.loc),("above",.loc),("run",.loc),("free",.loc),("numbers",.loc),("laid",.loc)],bR:=[0],star:=none,dflt:=[],body:=fun F scr=>[aJ (bz (aS scr.length .aW [.ret (.int 8)]) (.one 1) [] (cw (el F 17 [af 2,af 1])) [(".0",.loc),("mask",.loc),("classes",.cM 0)]) [aA 0 (.one 2)],
  aJ (bz (af 0) (.many [1,2]) [] (cw (el F 16 [eList [af 1,af 2,.ret (.int 0),af 1]])) [(".0",.loc),("first",.loc),("step",.loc)]) [aA 0 (.one 3)],
  br (aG (aO .NotEq (af 3) (eList [aD 0 scr (af 2) (.ret (.int 1)),aD 0 scr (af 2) (.ret (.int 2)),aD 0 scr (af 2) (.ret (.int 4))]))) (au [b9 (.ret (.bool false))]) (au []),
  aJ (el F 19 [af 3]) [aA 0 (.one 4)],
  br (aG (aO .NotEq (gR (af 4) (some (.ret (.int 1))) none) (gR (af 2) (some (.ret (.int 1))) none))) (au [b9 (.ret (.bool false))]) (au []),
  dB (.one 1) (aS scr.length .cX [.ret (.int 1),.ret (.int 8)]) (au [br (eI .And [aG (aD 0 scr (af 2) (af 1)),aG (aO .NotEq (el F 16 [eList [aD 0 scr (aD 0 scr (af 2) (af 1)) (.ret (.int 0)),el F 18 [af 0,af 1],.ret (.int 0)]]) (aD 0 scr (af 2) (af 1)))]) (au [b9 (.ret (.bool false))]) (au [])]),
  aJ (eList []) [aA 0 (.one 5)],
  dB (.one 6) (gR (af 4) (some (.ret (.int 1))) none) (au [br (eI .And [aG (af 6),aG (aO .NotIn (af 6) (af 5))]) (au [aZ (bE 0 (af 5) .append [af 6])]) (au [])]),
  aJ (el F 20 [af 5]) [aA 0 (.one 7)],
  br (aG (aO .Is (af 7) (.ret .none))) (au [b9 (.ret (.bool false))]) (au []),
  aJ (el F 22 [af 7]) [aA 0 (.one 8)],
  br (eI .Or [aG (aO .Is (af 8) (.ret .none)),aG (aO .NotEq (aD 0 scr (af 8) (.ret (.int 0))) (el F 23 [af 5]))]) (au [b9 (.ret (.bool false))]) (au []),
  aJ (bz (aD 0 scr (af 2) (.ret (.int 0))) (.one 1) [aG (aO .NotIn (af 1) (aL .Add (aL .Add (aD 0 scr (af 2) (.ret (.int 1))) (aD 0 scr (af 2) (.ret (.int 2)))) (aD 0 scr (af 2) (.ret (.int 4)))))] (cw (af 1)) [(".0",.loc),("number",.loc),("wants",.cM 2)]) [aA 0 (.one 9)],
  aJ (aS scr.length .list [aS scr.length .cX [.ret (.int 1),.ret (.int 17)]]) [aA 0 (.one 10)],
  aJ (aS scr.length .sorted [aL .Add (aL .Add (aD 0 scr (af 3) (.ret (.int 0))) (aD 0 scr (af 3) (.ret (.int 1)))) (aD 0 scr (af 3) (.ret (.int 2)))]) [aA 0 (.one 11)],
  br (eI .Or [aG (aO .NotEq (el F 13 [af 10,af 11]) (eu [af 9,eList []])),aG (aO .NotEq (af 10) (aD 0 scr (af 2) (.ret (.int 0))))]) (au [b9 (.ret (.bool false))]) (au []),
  br (eI .Or [aG (aO .NotEq (af 11) (aS scr.length .sorted [aL .Add (aL .Add (aD 0 scr (af 2) (.ret (.int 1))) (aD 0 scr (af 2) (.ret (.int 2)))) (aD 0 scr (af 2) (.ret (.int 4)))])),aG (aO .NotEq (el F 24 [af 5,aD 0 scr (af 8) (.ret (.int 1))]) (eu [eList [],af 9,eList []]))]) (au [b9 (.ret (.bool false))]) (au []),
  b9 (aO .Eq (gR (af 4) (some (.ret (.int 1))) none) (gR (af 2) (some (.ret (.int 1))) none))]}
noncomputable def oH:Fn:=
 {names:=[("script",.loc)],bR:=[0],star:=none,dflt:=[],body:=fun F scr=>[b9 (el F 25 [el F 15 [af 0]])]}
noncomputable def fns:List (Nat×Fn):=[(1,de),(2,bN),(3,bx),(4,cI),(5,bP),(6,bK),(7,bJ),(9,cA),(10,bF),(13,aN),(14,bh),(15,dc),(16,cL),(17,d9),(18,fh),(19,eM),(20,eG),(21,eU),(22,cN),(23,ec),(24,fo),(25,cq),(26,oH)]
noncomputable def places:List (Nat×Nat×Option Nat):=[(1,4,some 1),(2,6,some 0),(3,6,some 1),(4,6,some 2),(5,6,some 3),(6,6,some 4),(7,6,some 5),(9,6,some 7),(10,6,some 8),(13,11,none),(14,12,none),(15,14,none),(16,15,none),(17,16,none),(18,17,none),(19,18,none),(20,19,none),(21,20,none),(22,21,none),(23,22,none),(24,23,none),(25,24,none),(26,25,none)]
end Mine.L1
end
noncomputable section
open PySem PySem.W PyProof.Rows
namespace Mine
namespace Tr
theorem beq_eq(i j:Nat):Nat.beq i j=decide (i=j):=by
 by_cases h:i=j
 ·subst h;rw[ZA rfl];exact WY i
 ·rw[Zo h]
  refine lQ (Nat.beq i j) (fun q=>?_) fun q=>?_
  ·rfl
  ·exact absurd (Zr q) h
theorem get_set(x:O):∀ (t:Tr) (i j:Nat),(t.set i x).get j=if j=i then(t.get j).map (fun zz=>x) else t.get j
 |.nil,i,j=>by by_cases h:j=i<;>dsimp only[set,get]<;>simp[h]
 |.node k o r,i,j=>by
  simp only[set,beq_eq]
  by_cases h:k=i
  ·rw[ZA h];simp only[get,beq_eq]
   by_cases q:k=j
   ·rw[ZA q,if_pos (q.symm.trans h)];rfl
   ·rw[Zo q,if_neg fun e=>q (h.trans e.symm)]
  ·rw[Zo h];simp only[get,beq_eq]
   by_cases q:k=j
   ·rw[ZA q,if_neg fun e=>h (q.trans e)]
   ·rw[Zo q];exact get_set x r i j
noncomputable def Full(t:Tr)(n:Nat):Prop:=∀ k,(t.get k).isSome=true↔k<n
theorem yD:Full .nil 0:=fun k=>by simp[get]
theorem Full.set{t:Tr}{n:Nat}(h:Full t n)(i:Nat)(x:O):Full (t.set i x) n:=fun k=>by
 rw[get_set]
 by_cases e:k=i
 ·subst e
  rw[if_pos rfl,<-h k]
  cases t.get k<;>rfl
 ·rw[if_neg e];exact h k
theorem get_ins(x:O)(t:Tr)(n:Nat)(_:Full t n)(j:Nat):(t.ins n x).get j=if j=n then some x else t.get j:=by
 rw[ins,get,beq_eq]
 by_cases h:n=j
 ·rw[ZA h,if_pos h.symm]
 ·rw[Zo h,if_neg (Ne.symm h)]
theorem Full.ins{t:Tr}{n:Nat}(h:Full t n)(x:O):Full (t.ins n x) (n+1):=fun k=>by
 rw[get_ins x t n h]
 by_cases e:k=n
 ·clear h;refine e▸?_;simp
 ·rw[if_neg e,h k];omega
end Tr
structure Wd where
 prog:Program
 w:World
 sa:Addr
 os:OsState
 jx:Addr
 node:Addr
 mg:Str->Option Value
 mb:Str->Option Value
 K:Frag
 scr:List Int
 pos:Nat->Nat
 D5:Nat->Addr
 tab:Addr
noncomputable def VR(D:Wd)(ρ:List Addr):V->Value->Prop
 |.none,v=>v = .none
 |.bool b,v=>v = .bool b
 |.int i,v=>∃ t,v = .int i t
 |.str x,v=>∃ t,v = .str x t
 |.ref k,v=>∃ a,ρ[k]? = some a/\v = .ref a
 |.scr,v=>v = .ref D.sa
 |.ah,_=>False
 |.aI _,_=>False
noncomputable def bB(D:Wd)(ρ:List Addr):List V->List Value->Prop
 |[],[]=>True
 |x::xs,y::ys=>VR D ρ x y/\bB D ρ xs ys
 |_,_=>False
noncomputable def VO(D:Wd)(ρ:List Addr)(v:V)(o:Option Value):Prop:=(v = .ah/\o=none)∨∃ y,o=some y/\VR D ρ v y
noncomputable def fP(D:Wd)(ρ:List Addr):List (Int×V)->List (Int×Value)->Prop
 |[],[]=>True
 |x::xs,y::ys=>x.1=y.1/\VR D ρ x.2 y.2/\fP D ρ xs ys
 |_,_=>False
noncomputable def dw:List Str:=["_node2info", "_ready_nodes", "_npassedout", "_nfinished"]
noncomputable def nH:List V->Nat
 |[]=>0
 |.ah::r=>nH r+1
 |_::r=>nH r
noncomputable def AG(D:Wd)(ρ:List Addr)(vs:List V)(es:List DictEntry):Prop:=
 vs.length=4/\es.length+nH vs<=4/\(∀ i x,dw[i]? = some x->∃ r,getL x es=some r/\VO D ρ (V.at vs i) r)/\∀ x,x∉dw->getL x es=some none
noncomputable def aT(c:Nat):String:=match c % 100 with
 |0=> "IndexError"
 |1=> "ValueError"
 |_=> "StopIteration"
inductive EL(t:String)(D:Wd)(ρ:List Addr)(vs:List V)(o:Obj):Prop where
 |mk (items:Array Value) (n:Nat) (e:o={cls:=.type t,data:=.seq items n}) (r:bB D ρ vs items.toList) (b:vs.length<=10000)
noncomputable def OR(D:Wd)(ρ:List Addr):O->Obj->Prop
 |.list vs,o=>EL "list" D ρ vs o
 |.tup vs,o=>EL "tuple" D ρ vs o
 |.dict es,o=>∃ kvs,o.IsDictOf (intKind D.prog D.w) kvs/\fP D ρ es kvs/\es.length<=10000
 |.cell v,o=>∃ x,o={cls:=.type "cell",data:=.cell x}/\VO D ρ v x
 |.inst d,o=>∃ a,ρ[d]? = some a/\o=instObj D.jx a
 |.ns vs,o=>∃ es n,o=dictOf es n/\AG D ρ vs es
 |.node vs d,o=>∃ a sl,ρ[d]? = some a/\o={cls:=.ref D.node,dict:=some a,data:=.plain,slots:=sl}/\vs.length=3/\∀ i,i<3->VO D ρ (V.at vs i) (sl[D.pos i]?).join
 |.bD a b,o=>(bO a=true/\bO b=true)/\∃ t u v,o={cls:=.type "range",dict:=none,data:=.fields #[.int a t,.int b u,.int 1 v],slots:=#[]}
 |.iter l i,o=>∃ a,ρ[l]? = some a/\o={cls:=.type "list_iterator",data:=.fields #[.ref a,.int i 0]}
 |.view k,o=>∃ a,ρ[k]? = some a/\o={cls:=.type "dict_values",data:=.fields #[.ref a]}
 |.exc c a,o=>∃ vs,o.cls = .type (aT c)/\o.data = .fields vs/\(a = .ah∨∃ y,vs[0]? = some y/\VR D ρ a y)
 |.dead,_=>True
 |.set xs,o=>∃ es ep t,o.ExactSet/\o.data = .set es ep t/\ElemsOf (intKind D.prog D.w) es.toList/\(∀ k,xs.contains k=true↔∃ e∈es.toList,(intKind D.prog D.w).is k e.2=true)
   /\es.size<scanBound/\t.fits es.size=true/\es.size=xs.length/\xs.length<=1000
 |.p6 k,o=>∃ a,ρ[k]? = some a/\o={cls:=.type "method-wrapper",data:=.fields #[.builtin "list_iterator.__next__",.ref a]}
 |.tab k,o=>ρ[k]? = some D.tab/\o={cls:=.none,data:=.fields #[]}
 |.gA,o=>∃ vs,o={cls:=.none,data:=.fields vs}
theorem get_append{α:Type}{l l':List α}{k:Nat}{a:α}(h:l[k]? = some a):(l++l')[k]? = some a:=by
 refine(Yt (ZP.mp h).1).trans ?_;exact h
theorem VR.mono{D:Wd}{ρ ρ':List Addr}{v:V}{x:Value}(h:VR D ρ v x):VR D (ρ++ρ') v x:=by
 cases v<;>first | exact h | (refine aF h fun a h1 h2=>?_;clear h;exact aY a (get_append h1) h2)
theorem bB.mono{D:Wd}{ρ ρ':List Addr}:∀ {vs:List V} {xs:List Value},bB D ρ vs xs->bB D (ρ++ρ') vs xs
 |[],[],_=>trivial
 |_::_,_::_,h=>⟨h.1.mono,bB.mono h.2⟩
 |[],_::_,h=>h.elim
 |_::_,[],h=>h.elim
theorem VO.mono{D:Wd}{ρ ρ':List Addr}{v:V}{x:Option Value}(h:VO D ρ v x):VO D (ρ++ρ') v x:=h.imp id fun⟨y,h1,h2⟩=>(aY y h1 h2.mono)
theorem fP.mono{D:Wd}{ρ ρ':List Addr}:∀ {vs:List (Int×V)} {xs:List (Int×Value)},fP D ρ vs xs->fP D (ρ++ρ') vs xs
 |[],[],_=>trivial
 |_::_,_::_,h=>(c9 h.1 h.2.1.mono (fP.mono h.2.2))
 |[],_::_,h=>h.elim
 |_::_,[],h=>h.elim
theorem OR.mono{D:Wd}{ρ ρ':List Addr}{o:O}{x:Obj}(h:OR D ρ o x):OR D (ρ++ρ') o x:=by
 cases o with
 |list vs=>obtain⟨i,n,e,h,b⟩:=h;exact⟨i,n,e,h.mono,b⟩
 |tup vs=>obtain⟨i,n,e,h,b⟩:=h;exact⟨i,n,e,h.mono,b⟩
 |dict es=>refine iu h fun k e h b=>?_;exact iF k e h.mono b
 |cell v=>refine aF h fun x e h=>?_;exact aY x e h.mono
 |inst d=>refine aF h fun a e h=>?_;exact aY a (get_append e) h
 |ns vs=>refine D3 h fun es n e h1 h2 h3 h4=>?_;clear h;exact CF es n e h1 h2 (fun i x q=>let ⟨y,g1,g2⟩:=h3 i x q;(aY y g1 g2.mono)) h4
 |node vs d=>refine xT h fun a sl e h1 h2 h3=>?_;clear h;exact vq a sl (get_append e) h1 h2 (fun i q=>(h3 i q).mono)
 |bD a b=>exact h
 |iter l i=>refine aF h fun a e h=>?_;exact aY a (get_append e) h
 |view k=>refine aF h fun a e h=>?_;exact aY a (get_append e) h
 |exc c a=>refine iu h fun vs e1 e2 e3=>?_;clear h;exact iF vs e1 e2 (e3.imp id fun⟨y,g1,g2⟩=>(aY y g1 g2.mono))
 |dead=>trivial
 |set xs=>exact h
 |p6 k=>refine aF h fun a e h=>?_;exact aY a (get_append e) h
 |tab k=>exact⟨get_append h.1,h.2⟩
 |gA=>exact h
structure Gm where
 A:Around
 env:Env
 kp:Addr->Option Obj
 fr:List (Addr×(Str->Option Value))
 nm:List Str
 fz:Addr->Option Obj
 kg:Nat->Option GenState
structure Hg(kg:Nat->Option GenState)(gs:Array GenState):Prop where
 bare:AllBare gs
 kept:∀ g x,kg g=some x->gs[g]? = some x
@[reducible] noncomputable def Gm.own(Y:Gm)(ρ:List Addr):List Addr:=Y.env.locals::(Y.fr.map (·.1)++ρ)
noncomputable def iI(D:Wd)(Y:Gm)(ρ:List Addr)(m:Str->Option Value)(x:Str)(v:V):Prop:=match aE v with
 |some k=>(Y.env.kindOf x=some .cell∨Y.env.kindOf x=some .free)/\∃ a,Y.env.cells.lookup x=some a/\ρ[k]? = some a
 |none=>Y.env.kindOf x=some .local/\(v = .ah∨∃ y,m x=some y/\VR D ρ v y)
theorem iI.aI{D:Wd}{Y:Gm}{ρ:List Addr}{m:Str->Option Value}{x:Str}{v:V}{k:Nat}(h:iI D Y ρ m x v)(e:aE v=some k):(Y.env.kindOf x=some .cell∨Y.env.kindOf x=some .free)/\∃ a,Y.env.cells.lookup x=some a/\ρ[k]? = some a:=by
 unfold iI at h;replace h:=e▸h;exact h
theorem iI.loc{D:Wd}{Y:Gm}{ρ:List Addr}{m:Str->Option Value}{x:Str}{v:V}(h:iI D Y ρ m x v)(e:aE v=none):Y.env.kindOf x=some .local/\(v = .ah∨∃ y,m x=some y/\VR D ρ v y):=by
 unfold iI at h;replace h:=e▸h;exact h
theorem iI.oy{D:Wd}{Y:Gm}{ρ:List Addr}{m:Str->Option Value}{x:Str}{v:V}{k:Nat}(e:aE v=some k)(h:(Y.env.kindOf x=some .cell∨Y.env.kindOf x=some .free)/\∃ a,Y.env.cells.lookup x=some a/\ρ[k]? = some a):iI D Y ρ m x v:=by
 unfold iI;exact e▸h
theorem iI.jQ{D:Wd}{Y:Gm}{ρ:List Addr}{m:Str->Option Value}{x:Str}{v:V}(e:aE v=none)(h:Y.env.kindOf x=some .local/\(v = .ah∨∃ y,m x=some y/\VR D ρ v y)):iI D Y ρ m x v:=by
 unfold iI;exact e▸h
noncomputable def Sl(D:Wd)(Y:Gm)(ρ:List Addr)(m:Str->Option Value)(Z:List V):Prop:=
 Z.length=Y.nm.length/\∀ i x,Y.nm[i]? = some x->iI D Y ρ m x (V.at Z i)
theorem iI.mono{D:Wd}{Y:Gm}{ρ ρ':List Addr}{m:Str->Option Value}{x:Str}{v:V}(h:iI D Y ρ m x v):iI D Y (ρ++ρ') m x v:=by
 refine bI (aE v) (fun e=>?_) fun k e=>?_
 ·exact iI.jQ e ((h.loc e).imp id fun q=>q.imp id fun⟨y,h2,h3⟩=>(aY y h2 h3.mono))
 ·exact iI.oy e ((h.aI e).imp id fun⟨a,h2,h3⟩=>(aY a h2 (get_append h3)))
theorem Sl.mono{D:Wd}{Y:Gm}{ρ ρ':List Addr}{m:Str->Option Value}{Z:List V}(h:Sl D Y ρ m Z):Sl D Y (ρ++ρ') m Z:=⟨h.1,fun i x q=>(h.2 i x q).mono⟩
inductive Eu(D:Wd)(ρ:List Addr)(h:Heap)(k:Nat)(o:O):Prop where
 |mk (a:Addr) (x:Obj) (h1:ρ[k]? = some a) (h2:h.get? a=some x) (h3:OR D ρ o x)
structure St(D:Wd)(Y:Gm)(ρ:List Addr)(J:aq)(Z:List V)(s:Shared):Prop where
 keep:∀ a o,Y.kp a=some o->s.heap.get? a=some o
 dU:∀ p∈Y.fr,s.heap.Ns p.1 p.2
 loc:∃ m,s.heap.Ns Y.env.locals m/\Sl D Y ρ m Z
 obj:∀ k o,J.t.get k=some o->Eu D ρ s.heap k o
 num:J.n=ρ.length
 full:J.t.Full J.n
 nd:(Y.own ρ).Nodup
 ap:∀ a∈Y.own ρ,Y.kp a=none
 os:s.os=D.os
 gen:Hg Y.kg s.gens
 d4:∀ a o,Y.fz a=some o->s.heap.get? a=some o/\∃ k es,ρ[k]? = some a/\J.t.get k=some (.dict es)/\hG k J.fz=false
section
variable {D:Wd}{Y:Gm}{ρ:List Addr}{J:aq}{Z:List V}{s:Shared}
theorem St.live(S:St D Y ρ J Z s){a:Addr}(h:a∈Y.own ρ):∃ x,s.heap.get? a=some x:=by
 rcases ZS.mp h with rfl | h
 ·refine aF S.loc fun zz qz1 zz=>?_;obtain⟨o,_,_,ho,_⟩:=qz1;exact⟨o,ho⟩
 ·rcases Zy.mp h with h | h
  ·obtain⟨p,hp,rfl⟩:=Za.mp h
   refine g9 (S.dU p hp) fun o zz zz ho zz=>?_;exact⟨o,ho⟩
  ·obtain⟨k,hk,rfl⟩:=Zt.mp h
   haveI:(J.t.get k).isSome=true:=(S.full k).mpr (S.num▸hk)
   obtain⟨o,ho⟩:=YV.mp this
   obtain⟨a,x,h1,h2,_⟩:=S.obj k o ho
   rw[Z7 hk] at h1
   obtain rfl:=Z9 h1;exact⟨x,h2⟩
theorem St.fresh(S:St D Y ρ J Z s):s.heap.objs.size∉Y.own ρ:=fun h=>by
 refine df (S.live h) fun x hx=>?_
 exact absurd (YG hx) (XF _)
theorem St.dM(S:St D Y ρ J Z s):Y.kp s.heap.objs.size=none:=by
 refine bI (Y.kp s.heap.objs.size) (fun h=>?_) fun o h=>?_
 ·rfl
 ·exact absurd (YG (S.keep _ _ h)) (XF _)
theorem jB{k:Nat}{a:Addr}(h:ρ[k]? = some a):a∈Y.own ρ:=ZY _ (ZM _ (ZK h))
theorem r8{p:Addr×(Str->Option Value)}(h:p∈Y.fr):p.1∈Y.own ρ:=ZY _ (Zm _ (Y8 h))
theorem St.heap{s':Shared}(S:St D Y ρ J Z s)(hk:∀ a o,(a∈ρ∨Y.kp a=some o)->s.heap.get? a=some o->s'.heap.get? a=some o)(hn:∀ a m,(a=Y.env.locals∨a∈Y.fr.map (·.1))->s.heap.Ns a m->s'.heap.Ns a m)(ho:s'.os=s.os)(hg:Hg Y.kg s'.gens):St D Y ρ J Z s' where
 keep:=fun a o h=>hk a o (.inr h) (S.keep a o h)
 dU:=fun p h=>hn _ _ (.inr (Y8 h)) (S.dU p h)
 loc:=let ⟨m,h1,h2⟩:=S.loc;(aY m (hn _ _ (.inl rfl) h1) h2)
 obj:=fun k o h=>let ⟨a,x,h1,h2,h3⟩:=S.obj k o h;⟨a,x,h1,hk a x (.inl (ZK h1)) h2,h3⟩
 num:=S.num
 full:=S.full
 nd:=S.nd
 ap:=S.ap
 os:=ho.trans S.os
 gen:=hg
 d4:=fun a o h=>let ⟨h1,k,es,h2,h3⟩:=S.d4 a o h;⟨hk a o (.inl (ZK h2)) h1,k,es,h2,h3⟩
theorem St.ext{s':Shared}(S:St D Y ρ J Z s)(hk:∀ a o,s.heap.get? a=some o->s'.heap.get? a=some o)(ho:s'.os=s.os:=by rfl)(hg:s'.gens=s.gens:=by rfl):St D Y ρ J Z s':=
 S.heap (fun a o zz=>hk a o) (fun zz zz zz h=>h.keeps hk) ho (hg▸S.gen)
theorem St.toks(S:St D Y ρ J Z s)(t:Nat):St D Y ρ J Z {s with toks:=t}:=S.ext fun zz zz h=>h
theorem St.tH(S:St D Y ρ J Z s)(x:Obj):St D Y ρ J Z {s with heap:=s.heap.push x}:=S.ext fun zz zz h=>Zq x h
theorem St.other{h':Heap}{b:Addr}(S:St D Y ρ J Z s)(hs:Heap.SameBut b s.heap h')(hb:b∉Y.own ρ)(hkb:Y.kp b=none):St D Y ρ J Z {s with heap:=h'}:=by
 refine S.heap (fun a o h e=>?_) (fun a m h e=>?_) rfl S.gen
 ·refine(hs.2 a ?_).trans e
  rintro rfl
  rcases h with h | h
  ·exact hb (ZY _ (ZM _ h))
  ·replace h:=(hkb).symm.trans h;contradiction
 ·refine e.sameBut hs ?_
  rintro rfl
  rcases h with rfl | h
  ·exact hb ZX
  ·exact hb (ZY _ (Zm _ h))
theorem St.take{a:Addr}{x:Obj}{o:O}(S:St D Y ρ J Z s)(hx:s.heap.get? a=some x)(ha:a∉Y.own ρ)(hka:Y.kp a=none)(h:OR D (ρ++[a]) o x) :
  St D Y (ρ++[a]) ⟨J.n+1,J.t.ins J.n o,J.fz⟩ Z s where
 keep:=S.keep
 dU:=S.dU
 loc:=let ⟨m,h1,h2⟩:=S.loc;(aY m h1 h2.mono)
 obj:=fun k o' e=>by
  rw[Tr.get_ins o J.t J.n S.full] at e
  by_cases hk:k=J.n
  ·subst hk
   rw[if_pos rfl] at e
   obtain rfl:=Z9 e
   exact⟨a,x,by refine S.num▸?_;simp,hx,h⟩
  ·replace e:=(if_neg hk).symm.trans e
   obtain⟨b,y,h1,h2,h3⟩:=S.obj k o' e
   exact⟨b,y,get_append h1,h2,h3.mono⟩
 num:=by simp[S.num]
 full:=S.full.ins o
 nd:=by
  have e:Y.own (ρ++[a])=Y.own ρ++[a]:=by simp[Gm.own]
  exact e▸(Zl.mpr (c9 S.nd (by simp) (fun b hb c hc=>by
   rw[Zn] at hc;clear e;clear h;clear hka;clear hx;refine hc▸?_
   rintro rfl;exact ha hb)))
 ap:=fun b hb=>by
  haveI e:Y.own (ρ++[a])=Y.own ρ++[a]:=by simp[Gm.own]
  replace hb:=e▸hb
  rcases Zy.mp hb with hb | hb
  ·exact S.ap b hb
  ·rw[Zn] at hb;clear e;clear h;refine hb▸?_;exact hka
 os:=S.os
 gen:=S.gen
 d4:=fun b o' e=>by
  refine bU (S.d4 b o' e) fun h1 qz0=>?_;obtain⟨k,es,h2,h3,h4⟩:=qz0
  refine⟨h1,k,es,get_append h2,?_,h4⟩
  haveI hk:k≠J.n:=by
   haveI:=(ZP.mp h2).1
   exact S.num▸(Zk this)
  rw[Tr.get_ins o J.t J.n S.full,if_neg hk];exact h3
theorem St.new{x:Obj}{o:O}(S:St D Y ρ J Z s)(h:OR D (ρ++[s.heap.objs.size]) o x)(hf:x.isFreed=false) :
  St D Y (ρ++[s.heap.objs.size]) ⟨J.n+1,J.t.ins J.n o,J.fz⟩ Z {s with heap:=s.heap.push x}:=
 (S.tH x).take (Zu _ hf) S.fresh S.dM h
theorem jZ{a:Addr}(S:St D Y ρ J Z s):VR D (ρ++[a]) (.ref J.n) (.ref a):=(aY a (by rw[S.num];simp) rfl)
theorem dF{α:Type}{l:List α}(h:l.Nodup){i j:Nat}{a:α}(hi:l[i]? = some a)(hj:l[j]? = some a):i=j:=by
 have h1:=ZP.mp hi
 haveI h2:=ZP.mp hj
 exact(List.getElem_inj h).mp (h1.2.trans h2.2.symm)
theorem St.inj(S:St D Y ρ J Z s){i j:Nat}{a:Addr}(hi:ρ[i]? = some a)(hj:ρ[j]? = some a):i=j:=by
 haveI h:=((Zl.mp (ZN.mp S.nd).2).2).1
 exact dF h hi hj
theorem St.upd{h':Heap}{k:Nat}{a:Addr}{x:Obj}{o:O}(S:St D Y ρ J Z s)(hk:ρ[k]? = some a)(hs:Heap.SameBut a s.heap h')(hx:h'.get? a=some x)(h:OR D ρ o x)(hz:(∀ es,J.t.get k≠some (.dict es))∨hG k J.fz=true) :
  St D Y ρ ⟨J.n,J.t.set k o,J.fz⟩ Z {s with heap:=h'} where
 keep:=fun b o' e=>(hs.2 b (by rintro rfl;replace e:=(S.ap b (jB hk)).symm.trans e;contradiction)).trans (S.keep b o' e)
 dU:=fun p hp=>(S.dU p hp).sameBut hs (by
  intro e
  have hnd:=(Zl.mp (ZN.mp S.nd).2).2.2
  exact hnd p.1 (Y8 hp) a (ZK hk) e)
 loc:=let ⟨m,h1,h2⟩:=S.loc;(aY m (h1.sameBut hs (by
  intro e
  exact(ZN.mp S.nd).1 (e▸ZM _ (ZK hk)))) h2)
 obj:=fun j o' e=>by
  rw[Tr.get_set] at e
  by_cases hj:j=k
  ·clear hz;subst hj
   replace e:=(if_pos rfl).symm.trans e
   refine bI (J.t.get j) (fun q=>?_) fun o₀ q=>?_
   ·rw[q] at e;contradiction
   ·rw[q] at e;obtain rfl:=Z9 e;exact⟨a,x,hk,hx,h⟩
  ·replace e:=(if_neg hj).symm.trans e
   obtain⟨b,y,h1,h2,h3⟩:=S.obj j o' e
   exact⟨b,y,h1,(hs.2 b fun q=>hj (S.inj h1 (q▸hk))).trans h2,h3⟩
 num:=S.num
 full:=S.full.set k o
 nd:=S.nd
 ap:=S.ap
 os:=S.os
 gen:=S.gen
 d4:=fun b o' e=>by
  refine bU (S.d4 b o' e) fun h1 qz2=>?_;obtain⟨j,es,h2,h3,h4⟩:=qz2
  have hjk:j≠k:=by
   rintro rfl
   rcases hz with hz | hz
   ·exact hz es h3
   ·replace h4:=(hz).symm.trans h4;exact Bool.noConfusion h4
  refine⟨(hs.2 b fun q=>hjk (S.inj h2 (q▸hk))).trans h1,j,es,h2,?_,h4⟩
  rw[Tr.get_set,if_neg hjk];exact h3
end
inductive HE(Y:Gm)(ρ:List Addr)(vs:Array Value)(x T:Addr)(s:Shared):Prop where
 |mk (y1:vs[1]? = some (.ref T)) (y2:T≠x) (y3:T∉Y.own ρ) (y4:Y.kp T=none) (oT:Obj) (ts:Array Value) (y5:s.heap.get? T=some oT) (y6:oT.data = .fields ts) (y7:4<=ts.size)
inductive m6(D:Wd)(Y:Gm)(ρ:List Addr)(c:Nat)(a:V)(x:Addr)(T:Option Addr)(s:Shared):Prop where
 |mk (o:Obj) (vs:Array Value) (x1:s.heap.get? x=some o) (x2:o.cls = .type (aT c)) (x3:o.data = .fields vs) (x4:6<=vs.size) (x5:x∉Y.own ρ) (x6:Y.kp x=none)
  (x7:a = .ah∨∃ y,vs[0]? = some y/\VR D ρ a y) (x8:c<100->vs[2]? = some .none)
  (x9:match T with
   |none=>vs[1]? = some .none
   |some T=>HE Y ρ vs x T s)
inductive XR(D:Wd)(Y:Gm)(ρ:List Addr)(c:Nat)(a:V)(e:Value)(s:Shared):Prop where
 |mk (x:Addr) (T:Option Addr) (he:e = .ref x) (X:m6 D Y ρ c a x T s)
inductive XT(D:Wd)(Y:Gm)(ρ:List Addr)(c:Nat)(a:V)(e:Value)(s:Shared):Prop where
 |mk (x T:Addr) (he:e = .ref x) (X:m6 D Y ρ c a x (some T) s)
theorem XT.xr{D:Wd}{Y:Gm}{ρ:List Addr}{c:Nat}{a:V}{e:Value}{s:Shared}(h:XT D Y ρ c a e s):XR D Y ρ c a e s:=let ⟨x,T,he,h⟩:=h;⟨x,some T,he,h⟩
theorem m6.heap{D:Wd}{Y:Gm}{ρ:List Addr}{c:Nat}{a:V}{x:Addr}{T:Option Addr}{s s':Shared}(X:m6 D Y ρ c a x T s)(h:s'.heap=s.heap):m6 D Y ρ c a x T s':=by
 obtain⟨o,vs,x1,x2,x3,x4,x5,x6,x7,x8,x9⟩:=X
 refine⟨o,vs,h▸x1,x2,x3,x4,x5,x6,x7,x8,?_⟩
 cases T with
 |none=>exact x9
 |some T=>obtain⟨y1,y2,y3,y4,oT,ts,y5,y6,y7⟩:=x9;exact⟨y1,y2,y3,y4,oT,ts,h▸y5,y6,y7⟩
section
variable {α β γ δ:Type}
inductive Out(D:Wd)(Y:Gm)(ρ:List Addr)(P:List Addr->β->α->Prop)(b:β)(J:aq)(Z:List V)(a:α)(s:Shared):Prop where
 |mk (ρ':List Addr) (h1:P (ρ++ρ') b a) (h2:St D Y (ρ++ρ') J Z s)
inductive Exc(D:Wd)(Y:Gm)(ρ:List Addr)(c:Nat)(a:V)(J:aq)(Z:List V)(e:Value)(s:Shared):Prop where
 |mk (ρ':List Addr) (h1:XR D Y (ρ++ρ') c a e s) (h2:St D Y (ρ++ρ') J Z s)
noncomputable def W(D:Wd)(Y:Gm)(ρ:List Addr)(J:aq)(Z:List V)(t:Sem α)(P:List Addr->β->α->Prop)(r:Rs β):Prop:=
 ∀ s,St D Y ρ J Z s->match r with
  |.bad=>True
  |.ok b J' Z'=>wpAny (model D.prog D.w) Y.A t (Out D Y ρ P b J' Z') (fun zz zz=>False) s
  |.exc c a J' Z'=>wpAny (model D.prog D.w) Y.A t (fun zz zz=>False) (Exc D Y ρ c a J' Z') s
variable {D:Wd}{Y:Gm}{ρ:List Addr}{J:aq}{Z:List V}{P:List Addr->β->α->Prop}{P':List Addr->δ->γ->Prop}
theorem Im{γ:Type}{M:Model}{A:Around}{t t':Sem γ}{Q:γ->Shared->Prop}{E:Value->Shared->Prop}{s:Shared}(h:t=t')(x:wpAny M A t' Q E s):wpAny M A t Q E s:=h▸x
theorem W.bad{t:Sem α}:W D Y ρ J Z t P .bad:=fun zz zz=>trivial
theorem W.az{t:Sem α}{o:Option γ}{f:γ->M β}(h:∀ a,o=some a->W D Y ρ J Z t P (f a J Z)):W D Y ρ J Z t P (az o f J Z):=by
 cases o with
 |none=>exact W.bad
 |some a=>exact h a rfl
theorem W.pure{a:α}{b:β}(h:P ρ b a):W D Y ρ J Z (pure a) P (.ok b J Z):=fun zz S=>ZW ⟨[],(ZT ρ).symm▸h,(ZT ρ).symm▸S⟩
theorem W.bind{t:Sem α}{k:α->Sem γ}{x:M β}{f:β->M δ}(h:W D Y ρ J Z t P (x J Z))(hk:∀ ρ' b J' Z' a,x J Z = .ok b J' Z'->P (ρ++ρ') b a->W D Y (ρ++ρ') J' Z' (k a) P' (f b J' Z')):W D Y ρ J Z (t>>=k) P' (M.bind x f J Z):=by
 intro s S
 haveI h1:=h s S
 unfold M.bind
 refine pf (x J Z) (fun b J' Z' e=>?_) (fun c a J' Z' e=>?_) fun e=>?_
 ·replace h1:=e▸h1
  show match f b J' Z' with
   |.bad=>True
   |.ok b2 J2 Z2=>_
   |.exc c a J2 Z2=>_
  refine pf (f b J' Z') (fun b2 J2 Z2 e2=>?_) (fun c a2 J2 Z2 e2=>?_) fun e2=>?_
  ·refine Z8 (ZO h1 (fun a s1 q=>?_) fun zz zz q=>q.elim)
   obtain⟨ρ',hp,S'⟩:=q
   haveI:=hk ρ' b J' Z' a e hp s1 S'
   replace this:=e2▸this
   refine ZO this (fun c s2 q=>?_) fun zz zz q=>q.elim
   obtain⟨ρ2,hp2,S2⟩:=q
   exact⟨ρ'++ρ2,by rw[<-ZZ];exact hp2,by rw[<-ZZ];exact S2⟩
  ·refine Z8 (ZO h1 (fun a s1 q=>?_) fun zz zz q=>q.elim)
   obtain⟨ρ',hp,S'⟩:=q
   haveI:=hk ρ' b J' Z' a e hp s1 S'
   rw[e2] at this
   refine ZO this (fun c s2 q=>q.elim) fun zz s2 q=>?_
   obtain⟨ρ2,hp2,S2⟩:=q
   exact⟨ρ'++ρ2,by rw[<-ZZ];exact hp2,by rw[<-ZZ];exact S2⟩
  ·trivial
 ·replace h1:=e▸h1
  exact Z8 (ZO h1 (fun zz zz q=>q.elim) fun zz zz q=>q)
 ·trivial
theorem W.by{t t':Sem α}{r:Rs β}(h:W D Y ρ J Z t P r)(hw:∀ (Q:α->Shared->Prop) (E:Value->Shared->Prop) s,wpAny (model D.prog D.w) Y.A t Q E s->wpAny (model D.prog D.w) Y.A t' Q E s):W D Y ρ J Z t' P r:=by
 intro s S
 haveI:=h s S
 clear h;cases r with
 |bad=>trivial
 |ok b J' Z'=>exact hw _ _ _ this
 |exc c a J' Z'=>exact hw _ _ _ this
theorem W.holding{vs:List Value}{t:Sem α}{r:Rs β}(h:W D Y ρ J Z t P r):W D Y ρ J Z (holding vs t) P r:=h.by fun zz zz zz=>Zw
theorem W.bj{p:Pos}{k:Unit->Sem α}{r:Rs β}(h:W D Y ρ J Z (k ()) P r):W D Y ρ J Z (standAt p>>=k) P r:=h.by fun zz zz zz h=>Z8 (YR h)
theorem W.rule{tag:String}{k:Unit->Sem α}{r:Rs β}(h:W D Y ρ J Z (k ()) P r):W D Y ρ J Z (PySem.rule tag>>=k) P r:=h.by fun zz zz zz h=>Z8 (wpAny_rule h)
theorem W.operate{vs:List Value}{t:Sem Value}{P:List Addr->β->Value->Prop}{r:Rs β}(h:W D Y ρ J Z t P r):W D Y ρ J Z (operate vs t) P r:=h.by fun zz zz zz h Y p hY=>by
 rw[Sem.wp_operate];exact h Y p hY
theorem W.release{vs ks:List Value}{k:Unit->Sem α}{r:Rs β}(h:W D Y ρ J Z (k ()) P r):W D Y ρ J Z (PySem.release vs ks>>=k) P r:=h.by fun zz zz zz h=>Z8 fun Y p hY=>by
 rw[Sem.wp_release];exact h
theorem W.mono{t:Sem α}{P2:List Addr->β->α->Prop}{r:Rs β}(h:W D Y ρ J Z t P r)(hp:∀ ρ' b a,P (ρ++ρ') b a->P2 (ρ++ρ') b a):W D Y ρ J Z t P2 r:=by
 intro s S
 haveI:=h s S
 clear h;cases r with
 |bad=>trivial
 |ok b J' Z'=>exact ZO this (fun a s' q=>let ⟨ρ',h1,h2⟩:=q;⟨ρ',hp _ _ _ h1,h2⟩) fun zz zz q=>q
 |exc c a J' Z'=>exact this
end
section
variable {D:Wd}{Y:Gm}{ρ:List Addr}{J:aq}{Z:List V}
structure aV(D:Wd)(Y:Gm):Prop where
 glob:∀ h:Heap,(∀ a o,Y.kp a=some o->h.get? a=some o)->h.Ns Y.env.globals D.mg/\h.Ns Y.env.builtins D.mb
 eQ:∀ h:Heap,(∀ a o,Y.kp a=some o->h.get? a=some o)->D.K.In h
 scr:∀ h:Heap,(∀ a o,Y.kp a=some o->h.get? a=some o)->∃ vs,h.IsList D.sa vs.toArray/\IntsAre vs D.scr
 d5:D.scr.length<=63
 units:Y.A.units<=8000
 depth:Y.A.depth<=800
 qA:(Y.kp sysModules).isSome=true
 lim:∀ h:Heap,(∀ a o,Y.kp a=some o->h.get? a=some o)->h.NoLimit
 ge:Y.env.globals=mainGlobals/\Y.env.builtins=builtinsNs
 kind:Y.env.scope.kind = .function
 names:Y.nm.Nodup
 plain:∀ x∈Y.nm,(x==("__classdict__" : Str))=false/\(x==("__debug__" : Str))=false
theorem pg(i j:Nat)(v:V):∀ Z:List V,V.at (V.put Z i v) j=if j=i/\i<Z.length then v else V.at Z j:=by
 intro Z
 induction Z generalizing i j with
 |nil=>exact(if_neg fun h=>absurd h.2 (YX _)).symm
 |cons x r ih=>
  cases i with
  |zero=>cases j with
   |zero=>rfl
   |succ j=>rfl
  |succ i=>cases j with
   |zero=>rfl
   |succ j=>exact(ih i j).trans (ite_congr (propext ⟨fun h=>⟨ZV _ h.1,Nat.succ_lt_succ h.2⟩,fun h=>⟨Xy h.1,YQ h.2⟩⟩) (fun zz=>rfl) fun zz=>rfl)
theorem fb(i:Nat)(v:V):∀ Z:List V,(V.put Z i v).length=Z.length:=by
 intro Z
 induction Z generalizing i with
 |nil=>rfl
 |cons x r ih=>cases i with
  |zero=>rfl
  |succ i=>exact ZV (· + 1) (ih i)
theorem loadCell{env:Env}{x:Str}{a:Addr}{o:Obj}{v:Value}{M:Model}{A:Around}{E:Value->Shared->Prop}{s:Shared}{Q:Value->Shared->Prop}(hk:env.scope.kind = .function)(hx:env.kindOf x=some .cell∨env.kindOf x=some .free)(hd:(x==("__classdict__" : Str))=false)(hc:env.cells.lookup x=some a)(ho:s.heap.get? a=some o)(hv:o.data = .cell (some v))(h:Q v s) :
  wpAny M A (loadName env x) Q E s:=hx.elim (fun k=>wpAny_loadName_cell hk k hc ⟨o,ho,hv⟩ h) fun k=>wpAny_loadName_free hk k hc ⟨o,ho,hv⟩ h hd
theorem F4{v:V}{x:Value}(h:VR D ρ v x):v≠.ah:=by
 rintro rfl;exact h
theorem DL{v:V}{x:Value}(h:VR D ρ v x):aE v=none:=by
 cases v<;>first | rfl | exact h.elim
theorem pH{o:O}{v:V}:wi o=some v->o = .cell v:=by
 cases o with
 |cell=>intro h;exact(Z9 h)▸rfl
 |_=>exact aQ
theorem fO{v:V}{k:Nat}:refOf v=some k->v = .ref k:=by
 cases v with
 |ref=>intro h;exact(Z9 h)▸rfl
 |_=>exact aQ
theorem eR{v:V}{k:Int}:intOf v=some k->v = .int k:=by
 cases v with
 |int=>intro h;exact(Z9 h)▸rfl
 |_=>exact aQ
theorem W.live{α:Type}{t:Sem α}{P:List Addr->V->α->Prop}{v:V}(h:v≠.ah->W D Y ρ J Z t P (.ok v J Z)):W D Y ρ J Z t P (oN v J Z):=by
 cases v with
 |ah=>exact W.bad
 |_=>exact h nofun
theorem VO.there{v:V}{o:Option Value}(h:VO D ρ v o)(hv:v≠.ah):∃ y,o=some y/\VR D ρ v y:=h.resolve_left fun q=>hv q.1
theorem W.load(B:aV D Y){i:Nat}{x:Str}(hx:Y.nm[i]? = some x):W D Y ρ J Z (loadName Y.env x) (VR D) (af i J Z):=by
 unfold af
 refine bI (aE (V.at Z i)) (fun e=>?_) fun k e=>?_
 ·refine W.live fun hv s S=>?_
  refine aF S.loc fun m hn hl=>?_
  refine bU ((hl.2 i x hx).loc e) fun h1 h=>?_
  refine aF (h.resolve_left hv) fun y h2 h3=>?_
  exact wpAny_loadName_local B.kind h1 hn h2 ⟨[],(ZT ρ).symm▸h3,(ZT ρ).symm▸S⟩
 ·refine W.az fun o q=>W.az fun v hv=>W.live fun hu s S=>?_
  obtain rfl:=pH hv
  refine aF S.loc fun m hn hl=>?_
  refine bU ((hl.2 i x hx).aI e) fun h1 qz1=>?_;obtain⟨a,h2,h3⟩:=qz1
  obtain⟨a',y,g1,g2,z,rfl,g4⟩:=S.obj k _ q
  replace g1:=(h3).symm.trans g1;cases g1
  refine aF (g4.there hu) fun u qz3 g5=>?_;clear g4;subst qz3
  exact loadCell B.kind h1 (B.plain x (ZK hx)).1 h2 g2 rfl ⟨[],(ZT ρ).symm▸g5,(ZT ρ).symm▸S⟩
theorem W.name(B:aV D Y){i:Nat}{x:Str}{p:Pos}(hx:Y.nm[i]? = some x):W D Y ρ J Z (eval (.Name x p) Y.env) (VR D) (af i J Z):=
 (W.load B hx).by fun zz zz zz h=>wpAny_Name h (B.plain x (ZK hx)).2
theorem Sl.set{m:Str->Option Value}{i:Nat}{x:Str}{v:V}{y:Value}(B:aV D Y)(h:Sl D Y ρ m Z)(hx:Y.nm[i]? = some x)(hk:Y.env.kindOf x=some .local)(hv:VR D ρ v y) :
  Sl D Y ρ (fun z=>if z=x then some y else m z) (V.put Z i v):=by
 refine⟨by rw[fb];exact h.1,fun j z hz=>?_⟩
 haveI hi:i<Z.length:=by rw[h.1];exact(ZP.mp hx).1
 rw[pg]
 by_cases e:j=i
 ·subst e
  replace hz:=(hx).symm.trans hz;obtain rfl:=Z9 hz
  rw[if_pos ⟨rfl,hi⟩]
  exact iI.jQ (DL hv) ⟨hk,.inr (aY y (if_pos rfl) hv)⟩
 ·rw[if_neg (fun q=>e q.1)]
  haveI hne:z≠x:=fun q=>e (dF B.names hz (q▸hx))
  have:=h.2 j z hz
  refine bI (aE (V.at Z j)) (fun q=>?_) fun k q=>?_
  ·exact iI.jQ q ((if_neg hne)▸(this.loc q))
  ·exact iI.oy q (this.aI q)
theorem uZ{env:Env}{x:Str}{a:Addr}{o:Obj}{v:Value}{c:Option Value}{M:Model}{A:Around}{E:Value->Shared->Prop}{s:Shared}{Q:Unit->Shared->Prop}(hk:env.scope.kind = .function)(hx:env.kindOf x=some .cell∨env.kindOf x=some .free)(hc:env.cells.lookup x=some a)(ho:s.heap.get? a=some o)(hv:o.data = .cell c)(h:Q () {s with heap:=s.heap.update a fun o=>{o with data:=.cell (some v)}}):wpAny M A (storeName env x v) Q E s:=by
 haveI e:storeName env x v=(do cellSet (<-cellOf env x) (some v)):=by rcases hx with q | q<;>(unfold storeName;rw[q,hk];rfl)
 refine e▸Z8 (wpAny_cellOf hc (Z8 (XE ho ?_)))
 exact hv▸(wpAny_update ho h)
theorem St.locals{m':Str->Option Value}{Z':List V}{h':Heap}{s:Shared}(S:St D Y ρ J Z s)(hn:h'.Ns Y.env.locals m')(hs:Heap.SameBut Y.env.locals s.heap h')(hl:Sl D Y ρ m' Z'):St D Y ρ J Z' {s with heap:=h'} where
 keep:=fun b o e=>(hs.2 b (by rintro rfl;replace e:=(S.ap _ ZX).symm.trans e;contradiction)).trans (S.keep b o e)
 dU:=fun p hp=>(S.dU p hp).sameBut hs (by
  intro e
  exact(ZN.mp S.nd).1 (e▸Zm _ (Y8 hp)))
 loc:=(aY _ hn hl)
 obj:=fun k o e=>by
  obtain⟨a,z,h1,h2,h3⟩:=S.obj k o e
  exact⟨a,z,h1,(hs.2 a fun q=>(ZN.mp S.nd).1 (q▸ZM _ (ZK h1))).trans h2,h3⟩
 num:=S.num
 full:=S.full
 nd:=S.nd
 ap:=S.ap
 os:=S.os
 gen:=S.gen
 d4:=fun b o e=>by
  obtain⟨h1,j,es,h2,h3⟩:=S.d4 b o e
  exact⟨(hs.2 b fun q=>(ZN.mp S.nd).1 (q▸ZM _ (ZK h2))).trans h1,j,es,h2,h3⟩
theorem St.local{i:Nat}{x:Str}{v:V}{y:Value}{m:Str->Option Value}{h':Heap}{s:Shared}(B:aV D Y)(S:St D Y ρ J Z s)(hl:Sl D Y ρ m Z)(hx:Y.nm[i]? = some x)(hk:Y.env.kindOf x=some .local)(hv:VR D ρ v y)(hn:h'.Ns Y.env.locals (fun z=>if z=x then some y else m z))(hs:Heap.SameBut Y.env.locals s.heap h'):St D Y ρ J (V.put Z i v) {s with heap:=h'}:=S.locals hn hs (hl.set B hx hk hv)
theorem W.store(B:aV D Y){i:Nat}{x:Str}{v:V}{y:Value}(hx:Y.nm[i]? = some x)(hv:VR D ρ v y):W D Y ρ J Z (storeName Y.env x y) (fun zz zz zz=>True) (bt i v J Z):=by
 unfold bt
 refine bI (aE (V.at Z i)) (fun e=>?_) fun k e=>?_
 ·intro s S
  refine aF S.loc fun m hn hl=>?_
  have hs:=(hl.2 i x hx).loc e
  refine wpAny_storeName_local hs.1 hn (fun h' hn' hs'=>⟨[],trivial,?_⟩) (B.kind▸rfl)
  rw[ZT]
  exact(S.local B hl hx hs.1 hv hn' hs').toks _
 ·refine W.az fun o q=>W.az fun v₀ h₀ s S=>?_
  obtain rfl:=pH h₀
  refine aF S.loc fun m hn hl=>?_
  refine bU ((hl.2 i x hx).aI e) fun h1 qz0=>?_;obtain⟨a,h2,h3⟩:=qz0
  obtain⟨a',z,g1,g2,z',rfl,g4⟩:=S.obj k _ q
  replace g1:=(h3).symm.trans g1;cases g1
  refine uZ B.kind h1 h2 g2 rfl ⟨[],trivial,?_⟩
  rw[ZT]
  exact S.upd h3 (YB ..) (Yh _ g2 rfl) (aY (some y) rfl (.inr ⟨y,rfl,hv⟩)) (.inl fun es e=>by replace e:=(q).symm.trans e;cases e)
theorem j8{i:Nat}{x:V}(h:aE (V.at Z i)=none):bt i x J Z = .ok () J (V.put Z i x):=by
 unfold bt;exact h▸rfl
theorem W.global(B:aV D Y){x:Str}{v:Value}{p:Pos}{α β:Type}{k:Value->Sem α}{P:List Addr->β->α->Prop}{r:Rs β}(hx:Y.env.kindOf x=some .globalImplicit)(hv:D.mg x=some v)(h:W D Y ρ J Z (k v) P r)(hd:(x==("__debug__" : Str))=false:=by decide):W D Y ρ J Z (eval (.Name x p) Y.env>>=k) P r:=by
 intro s S
 haveI:=h s S
 haveI g:=(B.glob s.heap S.keep).1
 have key:∀ {Q:α->Shared->Prop} {E:Value->Shared->Prop},wpAny _ Y.A (k v) Q E s->wpAny (model D.prog D.w) Y.A (eval (.Name x p) Y.env>>=k) Q E s:=fun q=>
  Z8 (YT B.kind hx (Calls.loadGlobal_global g hv q) hd)
 clear h;cases r with
 |bad=>trivial
 |ok b J' Z'=>exact key this
 |exc c a J' Z'=>exact key this
theorem W.builtin(B:aV D Y){x:Str}{v:Value}{p:Pos}{α β:Type}{k:Value->Sem α}{P:List Addr->β->α->Prop}{r:Rs β}(hx:Y.env.kindOf x=some .globalImplicit)(hm:D.mg x=none)(hv:D.mb x=some v)(h:W D Y ρ J Z (k v) P r)(hd:(x==("__debug__" : Str))=false:=by decide):W D Y ρ J Z (eval (.Name x p) Y.env>>=k) P r:=by
 intro s S
 haveI:=h s S
 haveI g:=B.glob s.heap S.keep
 have key:∀ {Q:α->Shared->Prop} {E:Value->Shared->Prop},wpAny _ Y.A (k v) Q E s->wpAny (model D.prog D.w) Y.A (eval (.Name x p) Y.env>>=k) Q E s:=fun q=>
  Z8 (YT B.kind hx (Yp g.1 hm g.2 hv q) hd)
 clear h;cases r with
 |bad=>trivial
 |ok b J' Z'=>exact key this
 |exc c a J' Z'=>exact key this
end
section
variable {α β:Type}{i:Int}{s:Shared}
section
variable {D:Wd}{Y:Gm}{ρ:List Addr}{J:aq}{Z:List V}
theorem bp{P:List Addr->β->α->Prop}{b:β}{a:α}(S:St D Y ρ J Z s)(t:Nat)(h:P ρ b a):Out D Y ρ P b J Z a {s with toks:=t}:=
 ⟨[],by rw[ZT];exact h,by rw[ZT];exact S.toks t⟩
theorem a7{P:List Addr->β->α->Prop}{b:β}{a:α}(S:St D Y ρ J Z s)(h:P ρ b a):Out D Y ρ P b J Z a s:=
 ⟨[],by rw[ZT];exact h,by rw[ZT];exact S⟩
theorem pA{x:Obj}{o:O}(S:St D Y ρ J Z s)(h:OR D (ρ++[s.heap.objs.size]) o x)(hf:x.isFreed=false)(t:Nat) :
  Out D Y ρ (VR D) (.ref J.n) ⟨J.n+1,J.t.ins J.n o,J.fz⟩ Z (.ref s.heap.objs.size) {s with heap:=s.heap.push x,toks:=t}:=
 ⟨[s.heap.objs.size],jZ S,(S.new h hf).toks t⟩
theorem dS{x:Obj}{o:O}(S:St D Y ρ J Z s)(h:OR D (ρ++[s.heap.objs.size]) o x)(hf:x.isFreed=false) :
  Out D Y ρ (VR D) (.ref J.n) ⟨J.n+1,J.t.ins J.n o,J.fz⟩ Z (.ref s.heap.objs.size) {s with heap:=s.heap.push x}:=
 ⟨[s.heap.objs.size],jZ S,S.new h hf⟩
theorem cU{a b:Nat}(h:Nat.blt a b=true):a<b:=ZC h
theorem dO(h:bO i=true) : -(2 ^ 62)<i/\i<2 ^ 62:=by
 haveI:=cU h
 omega
theorem mT(h:bO i=true):Builtin.Int.intBits i<=64:=intBits_le_64 (by have:=(dO h).1;omega) (by have:=(dO h).2;omega)
theorem ve(h:bO i=true):i.natAbs.log2<9000:=by
 haveI:=cU h
 by_cases z:i.natAbs=0
 ·refine z▸?_;decide +kernel
 ·exact Zj ((Nat.log2_lt z).mpr (this)) (show 62<=9000 by decide)
noncomputable def EA:Const->M V
 |.none=>.ret .none
 |.bool b=>.ret (.bool b)
 |.int i=>.ret (.int i)
 |.str x=>.ret (.str x)
 |_=>.bad
theorem W.const{k:Const}{n:Nat}{p:Pos}:W D Y ρ J Z (eval (.Constant k n p) Y.env) (VR D) (EA k J Z):=by
 cases k with
 |none=>exact fun s S=>wpAny_Constant_none (a7 S rfl)
 |bool b=>exact fun s S=>wpAny_Constant_bool (a7 S rfl)
 |int i=>exact fun s S=>wpAny_Constant_int (bp S _ ⟨_,rfl⟩)
 |str x=>exact fun s S=>wpAny_Constant_str (bp S _ ⟨_,rfl⟩)
 |_=>exact W.bad
theorem W.ite{α β:Type}{t:Sem α}{P:List Addr->β->α->Prop}{c:Prop}[Decidable c]{a b:M β}(h1:c->W D Y ρ J Z t P (a J Z))(h2:¬c->W D Y ρ J Z t P (b J Z)):W D Y ρ J Z t P ((if c then a else b:M β) J Z):=by
 by_cases h:c
 ·rw[if_pos h];exact h1 h
 ·rw[if_neg h];exact h2 h
theorem W.CE{op:Operator}{x y:Int}{t u:Tok}:W D Y ρ J Z (binaryOp op (.int x t) (.int y u)) (VR D) (xg op (.int x) (.int y) J Z):=by
 cases op
 case MatMult=>exact W.bad
 case Div=>exact W.bad
 case LShift=>exact W.bad
 case RShift=>exact W.bad
 case BitOr=>exact W.bad
 case BitXor=>exact W.bad
 case BitAnd=>exact W.bad
 case Add=>exact fun s S=>PyProof.Rows.add_int (bp S _ ⟨_,rfl⟩)
 case Sub=>exact fun s S=>PyProof.Rows.sub_int (bp S _ ⟨_,rfl⟩)
 case Mult=>
  refine W.ite (fun h=>?_) fun h=>W.bad
  rw[ZJ] at h
  exact fun s S=>PyProof.Rows.mul_int (bp S _ ⟨_,rfl⟩) (IntMulOk.of_left (mT h.1))
 case Mod=>
  refine W.ite (fun h=>W.bad) fun h=>?_
  exact fun s S=>PyProof.Rows.mod_int' (by simpa using h) (bp S _ ⟨_,rfl⟩)
 case Pow=>
  cases y with
  |negSucc n=>exact W.bad
  |ofNat n=>
   refine W.ite (fun h=>?_) fun h=>W.bad
   replace h:=ZR.mp h
   intro s S
   refine PyProof.Rows.pow_int (by simp) ?_ (bp S _ ⟨_,rfl⟩)
   haveI h1:=mT h.1
   haveI h2:=ZC h.2
   haveI h3:=Nat.mul_le_mul h1 h2
   haveI h4:((Builtin.Int.intBits x:Int)*(Int.ofNat n))=((Builtin.Int.intBits x*n:Nat):Int):=by push_cast;rfl
   omega
 case FloorDiv=>
  refine W.ite (fun h=>W.bad) fun h=>?_
  rw[Bool.not_eq_true,Bool.or_eq_false_iff] at h
  exact fun s S=>PyProof.Rows.floordiv_int (by simpa using h.1) (bp S _ ⟨_,rfl⟩) (.inl (PyProof.noPylong_of_log2 (ve (by simpa using h.2))))
theorem W.neg{x:Int}{t:Tok}:W D Y ρ J Z (unaryOp .USub (.int x t)) (VR D) (.ok (.int (-x)) J Z):=fun zz S=>PyProof.Rows.neg_int (bp S _ ⟨_,rfl⟩)
end
end
section
variable {α:Type}{a:Addr}{vs xs:List V}{k:Nat}{o:O}{b:V}{x y:Value}
section
variable {D:Wd}{Y:Gm}{ρ:List Addr}{J:aq}{Z:List V}{s:Shared}
theorem bB.length:∀ {vs:List V} {xs:List Value},bB D ρ vs xs->vs.length=xs.length
 |[],[],_=>rfl
 |_::_,_::_,h=>by simp[bB.length h.2]
 |[],_::_,h=>h.elim
 |_::_,[],h=>h.elim
theorem bB.get:∀ {vs:List V} {xs:List Value},bB D ρ vs xs->∀ {i:Nat} {v:V},vs[i]? = some v->∃ x,xs[i]? = some x/\VR D ρ v x
 |[],[],_,i,v,e=>by simp at e
 |v::_,x::_,h,0,w,e=>by simp at e;subst e;exact aY x rfl h.1
 |_::_,_::_,h,i+1,w,e=>by
  exact bB.get h.2 e
 |[],_::_,h,_,_,_=>h.elim
 |_::_,[],h,_,_,_=>h.elim
theorem bB.append:∀ {vs:List V} {xs:List Value} {ws:List V} {ys:List Value},bB D ρ vs xs->bB D ρ ws ys->bB D ρ (vs++ws) (xs++ys)
 |[],[],_,_,_,h=>h
 |_::_,_::_,_,_,h,h'=>⟨h.1,bB.append h.2 h'⟩
 |[],_::_,_,_,h,_=>h.elim
 |_::_,[],_,_,h,_=>h.elim
theorem bB.take:∀ {vs:List V} {xs:List Value},bB D ρ vs xs->∀ k,bB D ρ (vs.take k) (xs.take k)
 |[],[],_,k=>by cases k<;>trivial
 |_::_,_::_,_,0=>trivial
 |_::_,_::_,h,k+1=>⟨h.1,bB.take h.2 k⟩
 |[],_::_,h,_=>h.elim
 |_::_,[],h,_=>h.elim
theorem bB.drop:∀ {vs:List V} {xs:List Value},bB D ρ vs xs->∀ k,bB D ρ (vs.drop k) (xs.drop k)
 |[],[],_,k=>by cases k<;>trivial
 |_::_,_::_,h,0=>h
 |_::_,_::_,h,k+1=>bB.drop h.2 k
 |[],_::_,h,_=>h.elim
 |_::_,[],h,_=>h.elim
theorem bB.rep{xs:List Value}(h:bB D ρ vs xs):∀ k,bB D ρ (List.replicate k vs).flatten (List.replicate k xs).flatten
 |0=>trivial
 |k+1=>by
  exact h.append (bB.rep h k)
inductive C2(D:Wd)(ρ:List Addr)(h:Heap)(a:Addr)(vs:List V):Prop where
 |mk (items:Array Value) (n:Nat) (l:IsL h a items n) (r:bB D ρ vs items.toList) (b:vs.length<=10000) (z:items.size=vs.length)
inductive TupAt(D:Wd)(ρ:List Addr)(h:Heap)(a:Addr)(vs:List V):Prop where
 |mk (items:Array Value) (n:Nat) (l:IsT h a items n) (r:bB D ρ vs items.toList) (b:vs.length<=10000) (z:items.size=vs.length)
theorem St.dN(S:St D Y ρ J Z s)(h:J.t.get k=some o)(ha:ρ[k]? = some a):∃ x,s.heap.get? a=some x/\OR D ρ o x:=by
 obtain⟨b,x,h1,h2,h3⟩:=S.obj k _ h
 replace h1:=(ha).symm.trans h1;obtain rfl:=Z9 h1
 exact aY x h2 h3
theorem St.list(S:St D Y ρ J Z s)(h:J.t.get k=some (.list vs))(ha:ρ[k]? = some a):C2 D ρ s.heap a vs:=by
 refine aF (S.dN h ha) fun x h2 qz1=>?_;obtain⟨items,n,rfl,h4,h5⟩:=qz1
 exact⟨items,n,h2,h4,h5,by refine h4.length▸?_;rfl⟩
theorem St.tup(S:St D Y ρ J Z s)(h:J.t.get k=some (.tup vs))(ha:ρ[k]? = some a):TupAt D ρ s.heap a vs:=by
 refine aF (S.dN h ha) fun x h2 qz3=>?_;obtain⟨items,n,rfl,h4,h5⟩:=qz3
 exact⟨items,n,h2,h4,h5,by refine h4.length▸?_;rfl⟩
theorem VR.ref{v:V}(h:VR D ρ v x)(e:refOf v=some k):∃ a,ρ[k]? = some a/\x = .ref a:=by
 obtain rfl:=fO e;exact h
theorem VR.int{v:V}{i:Int}(h:VR D ρ v x)(e:intOf v=some i):∃ t,x = .int i t:=by
 obtain rfl:=eR e;exact h
theorem bW:dp o=some xs->o = .list xs:=by
 cases o with
 |list=>intro h;exact(Z9 h)▸rfl
 |_=>exact aQ
theorem fL:qu o=some xs->o = .tup xs:=by
 cases o with
 |tup=>intro h;exact(Z9 h)▸rfl
 |_=>exact aQ
theorem eT{xs:List (Int×V)}:l8 o=some xs->o = .dict xs:=by
 cases o with
 |dict=>intro h;exact(Z9 h)▸rfl
 |_=>exact aQ
theorem yO{xs:List Int}:setOf o=some xs->o = .set xs:=by
 cases o with
 |set=>intro h;exact(Z9 h)▸rfl
 |_=>exact aQ
theorem eJ:dy o=some (true,xs)->o = .list xs:=by
 cases o with
 |list=>intro h;exact(Y7 (Z9 h)).2▸rfl
 |tup=>intro h;cases h
 |_=>exact aQ
theorem fR:dy o=some (false,xs)->o = .tup xs:=by
 cases o with
 |tup=>intro h;exact(Y7 (Z9 h)).2▸rfl
 |list=>intro h;cases h
 |_=>exact aQ
theorem eg{h:Heap}{items:Array Value}{n:Nat}(x:IsT h a items n):IsTup h a items:=(iF _ x rfl ⟨n,rfl⟩)
theorem dg{n:Nat}(h:n<=10000):n<=sizeLine:=by exact XS▸(ZD h (ZQ 10000 16767216))
theorem W.obj{β:Type}{t:Sem α}{P:List Addr->β->α->Prop}{f:O->M β}(h:∀ o,J.t.get k=some o->W D Y ρ J Z t P (f o J Z)):W D Y ρ J Z t P (M.bind (M.obj k) f J Z):=by
 delta M.bind M.obj
 refine bI (J.t.get k) (fun e=>?_) fun o e=>?_
 ·exact W.bad
 ·exact h o e
theorem W.gi{xs:List Value}(h:bB D ρ vs xs):W D Y ρ J Z (newList xs) (VR D) (M.gi vs J Z):=by
 refine W.ite (fun hb=>fun s S=>?_) fun zz=>W.bad
 haveI hb:=ZC hb
 refine YI (dS S ⟨_,_,rfl,by exact h.mono,hb⟩ rfl) ?_
 show xs.toArray.size<=sizeLine
 exact List.size_toArray▸h.length▸(dg hb)
theorem W.gQ{xs:List Value}(h:bB D ρ vs xs):W D Y ρ J Z (newTuple xs) (VR D) (M.gQ vs J Z):=by
 refine W.ite (fun hb=>fun s S=>?_) fun zz=>W.bad
 haveI hb:=ZC hb
 refine YI (dS S ⟨_,_,rfl,by exact h.mono,hb⟩ rfl) ?_
 show xs.toArray.size<=sizeLine
 exact List.size_toArray▸h.length▸(dg hb)
theorem foldl_rep(items:Array Value):∀ (k:Nat) (acc:Array Value),(List.foldl (fun x1 x2=>x1++x2) acc (List.replicate k items)).toList=acc.toList++(List.replicate k items.toList).flatten
 |0,acc=>by simp
 |k+1,acc=>by
  simp only[Yl,List.foldl_cons,foldl_rep items k,Yl];refine(XI).trans ?_
  simp
theorem ub:∀ k:Nat,(List.replicate k ([]:List α)).flatten=[]
 |0=>rfl
 |k+1=>by dsimp only[List.replicate_succ,List.flatten_cons];refine(ub k).trans ?_;rfl
theorem W.add{aj:Addr}{j:Nat}(ho:J.t.get j=some (.list xs))(hj:ρ[j]? = some aj)(hb:VR D ρ b y):W D Y ρ J Z (binaryOp .Add (.ref aj) y) (VR D) (C7 .Add xs b J Z):=by
 refine W.az fun k hk=>?_
 refine aF (hb.ref hk) fun ak hk qz5=>?_;clear hb;refine qz5▸?_
 refine W.obj fun p hp=>W.az fun ys hy=>W.ite (fun hle=>fun s S=>?_) fun zz=>W.bad
 obtain rfl:=bW hy
 haveI hle:=ZC hle
 obtain⟨i1,n1,l1,r1,_,z1⟩:=S.list ho hj
 obtain⟨i2,n2,l2,r2,_,z2⟩:=S.list hp hk
 rw[ZI] at hle
 exact P.add_list l1 l2 (dS S ⟨_,_,rfl,by rw[Array.toList_append];exact(r1.append r2).mono,by rw[ZI];exact hle⟩ rfl) (z1▸z2▸(dg hle))
theorem W.rep{aj:Addr}{j:Nat}(ho:J.t.get j=some (.list xs))(hj:ρ[j]? = some aj)(hb:VR D ρ b y):W D Y ρ J Z (binaryOp .Mult (.ref aj) y) (VR D) (C7 .Mult xs b J Z):=by
 refine W.az fun y hy=>?_
 refine df (hb.int hy) fun u qz0=>?_;clear hb;refine qz0▸?_
 refine W.ite (fun hle=>W.ite (fun hz=>fun s S=>?_) fun zz=>W.bad) fun zz=>W.bad
 haveI hle:=ZC hle
 haveI hz:=ZC hz
 obtain⟨i1,n1,l1,r1,_,z1⟩:=S.list ho hj
 haveI hfl:(List.replicate y.toNat xs).flatten.length=y.toNat*xs.length:=by simp
 have hsz:i1.size*y.toNat<=10000:=by rw[z1,Nat.mul_comm,<-hfl];exact hz
 haveI hq:bB D ρ (List.replicate y.toNat xs).flatten (List.foldl (fun x1 x2=>x1++x2) #[] (List.replicate (if i1.isEmpty=true then 0 else y.toNat) i1)).toList:=by
  rw[foldl_rep]
  simp only[List.nil_append]
  by_cases he:i1.isEmpty=true
  ·rw[if_pos he]
   haveI h0:i1 = #[]:=by simpa using he
   haveI h1:xs=[]:=by
    haveI:=r1.length
    rw[h0] at this
    exact List.length_eq_zero_iff.mp (this)
   rw[h1,ub];trivial
  ·rw[if_neg he];exact r1.rep _
 haveI fin:=dS (o:=.list (List.replicate y.toNat xs).flatten) (x:={cls:=.type "list",data:=.seq (List.foldl (fun x1 x2=>x1++x2) #[] (List.replicate (if i1.isEmpty=true then 0 else y.toNat) i1))}) S ⟨_,_,rfl,hq.mono,hz⟩ rfl
 exact wpAny_binaryOp_repeat_ref (by decide) ⟨_,l1,rfl⟩ (fun s'=>typeIs_int s' y u) noFill_list_mul F.fills_int_mul F.slot_int_rmul repeat_list F.slot_int_index.lookup
  (Xb F.slot_int_rmul (typeIs_int s y u) F.entry_int_rmul (F.args_int_rmul_2 _ _) (int___rmul___int_list y u _ i1 n1)
   (CB l1 rfl ⟨_,l1,rfl⟩ (Xb F.slot_list_mul ⟨_,l1,rfl⟩ F.entry_list_mul (F.args_list_mul_2 _ _)
    (AutoListH.list___mul___list_int_3 _ i1 n1 y u (by simp[Builtin.List.listFitsIndex];omega) (by omega) (by simp[Builtin.List.listTooLong,sizeLine];exact ZD hsz (ZQ 10000 16767216))) ⟨l1,fin⟩)))
theorem W.bin{op:Operator}{a:V}(ha:VR D ρ a x)(hb:VR D ρ b y):W D Y ρ J Z (binaryOp op x y) (VR D) (xg op a b J Z):=by
 unfold xg
 refine bI (intOf a) (fun e=>?_) fun i e=>?_
 ·refine W.az fun j hj=>?_
  refine aF (ha.ref hj) fun aj hj qz6=>?_;clear ha;refine qz6▸?_
  refine W.obj fun o ho=>W.az fun xs hx=>?_
  obtain rfl:=bW hx
  cases op with
  |Add=>exact W.add ho hj hb
  |Mult=>exact W.rep ho hj hb
  |_=>exact W.bad
 ·obtain⟨t,rfl⟩:=ha.int e
  refine W.az fun j hj=>?_
  obtain⟨u,rfl⟩:=hb.int hj
  exact W.CE
end
end
section
variable {α β:Type}{e h:Addr}{i:Int}{n j k:Nat}
noncomputable def aw{α β:Type}(D:Wd)(Y:Gm)(t:Sem α)(P:List Addr->β->α->Prop)(m:M β):Prop:=∀ ρ J Z,W D Y ρ J Z t P (m J Z)
section
variable {D:Wd}{Y:Gm}{ρ:List Addr}{J:aq}{Z:List V}{s:Shared}
theorem aw.bin{l r:Expr}{op:Operator}{p:Pos}{x y:M V}(hl:aw D Y (eval l Y.env) (VR D) x)(hr:aw D Y (eval r Y.env) (VR D) y) :
  aw D Y (eval (.BinOp l op r p) Y.env) (VR D) (.bind x fun a=>.bind y fun b=>xg op a b):=fun ρ J Z=>by
 dsimp only[eval_BinOp]
 refine(hl ρ J Z).bind fun ρ1 a J1 Z1 xa zz ha=>(W.holding (hr _ _ _)).bind fun ρ2 b J2 Z2 xb zz hb=>W.bj (W.operate (W.bin ha.mono hb))
theorem Fq:(Int.negSucc j+(n:Int)).toNat=n-1-j:=
 (ZV Int.toNat (Int.add_comm ..)).trans ((Int.toNat_sub n (j+1)).trans ((Nat.sub_sub n 1 j).trans (ZV (n - ·) (Yd 1 j))).symm)
theorem F6(h:j<n) : -(n:Int)<=Int.negSucc j:=Int.neg_le_neg (Int.ofNat_le.mpr h)
theorem jy{α:Type}{c:Prop}[Decidable c]{x k:α}(h:(if c then some x else none)=some k):c/\x=k:=
 (WD c).elim (fun q=>⟨q,Z9 ((if_pos q).symm.trans h)⟩) fun q=>a9 ((if_neg q).symm.trans h)
theorem uA{α:Type}{c:Prop}[Decidable c]{x:α}(h:(if c then some x else none)=none):¬c:=fun q=>nomatch (if_pos q).symm.trans h
theorem mj(h:idxOf i n=some k):seqIndex? i n=some k:=by
 cases i with
 |ofNat j=>exact bU (jy h) fun q e=>e▸seqIndex_of (Xa j) (Int.ofNat_lt.mpr (cU q))
 |negSucc j=>exact bU (jy h) fun q e=>e▸(seqIndex_neg (Int.negSucc_lt_zero j) (F6 (cU q))).trans (ZV some Fq)
theorem vT{a b:Nat}(h:¬Nat.blt a b=true):b<=a:=XN fun q=>h (XJ q)
theorem sW(h:idxOf i n=none):i < -(n:Int)∨(n:Int)<=i:=by
 cases i with
 |ofNat j=>exact .inr (Int.ofNat_le.mpr (vT (uA h)))
 |negSucc j=>exact .inl (Int.neg_lt_neg (Int.ofNat_lt.mpr (Yr (vT (uA h)))))
theorem rD(h:idxOf i n=some k):k<n/\(0<=i->i.toNat=k)/\(i<0->(i+n).toNat=k/\-(n:Int)<=i):=by
 cases i with
 |ofNat j=>exact bU (jy h) fun q e=>e▸c9 (cU q) (fun zz=>rfl) fun q=>absurd q (Int.not_lt.mpr (Xa j))
 |negSucc j=>exact bU (jy h) fun q e=>e▸c9 (ZG (Nat.sub_le _ _) (Nat.sub_lt (Nat.zero_lt_of_lt (cU q)) Nat.one_pos)) (fun q=>absurd q (Int.not_le.mpr (Int.negSucc_lt_zero j))) fun zz=>⟨Fq,F6 (cU q)⟩
theorem uD{h':Heap}{tk:Nat}{c:Nat}(S:St D Y ρ J Z s)(hx:Heap.NewExc s.heap h' e (aT c)):Exc D Y ρ c .ah J Z (.ref e) {s with heap:=h',toks:=tk}:=by
 refine vR hx.there fun ob tp he hcls hd=>?_
 refine⟨[],?_,?_⟩
 ·rw[ZT]
  refine⟨e,none,rfl,ob,_,he,hcls,hd,by simp,?_,?_,.inl rfl,fun zz=>rfl,rfl⟩
  ·intro hm
   obtain⟨x,hx'⟩:=S.live hm
   rw[hx.new] at hx';contradiction
  ·refine bI (Y.kp e) (fun q=>?_) fun o q=>?_
   ·rfl
   ·haveI:=S.keep e o q;replace this:=(hx.new).symm.trans this;contradiction
 ·rw[ZT]
  exact S.ext hx.keeps
theorem xD{h':Heap}{tk:Nat}{c:Nat}(hc:100<=c)(S:St D Y ρ J Z s)(hx:Heap.NewExc s.heap h' e (aT c)):Exc D Y ρ c .ah J Z (.ref e) {s with heap:=h'.update e (Obj.mapFields (·.setIfInBounds 2 (.ref h))),toks:=tk}:=by
 refine vR hx.there fun ob tp he hcls hd=>?_
 haveI hne:e∉Y.own ρ:=by
  intro hm
  obtain⟨x,hx'⟩:=S.live hm
  replace hx':=(hx.new).symm.trans hx';contradiction
 have hke:Y.kp e=none:=by
  refine bI (Y.kp e) (fun q=>?_) fun o q=>?_
  ·rfl
  ·haveI:=S.keep e o q;replace this:=(hx.new).symm.trans this;contradiction
 haveI hd':=W9 hd (·.setIfInBounds 2 (Value.ref h))
 refine⟨[],?_,?_⟩
 ·rw[ZT]
  exact⟨e,none,rfl,_,_,Yh _ he (Xu hd'),(Obj.cls_mapFields _ _).trans hcls,hd',by simp,hne,hke,.inl rfl,fun q=>absurd q (XZ.mpr ‹_›),by rfl⟩
 ·rw[ZT]
  exact((S.ext (s':={s with heap:=h',toks:=tk}) hx.keeps).other (YB ..) hne hke)
theorem fP.length:∀ {es:List (Int×V)} {kvs:List (Int×Value)},fP D ρ es kvs->es.length=kvs.length
 |[],[],_=>rfl
 |_::_,_::_,h=>by simp[fP.length h.2.2]
 |[],_::_,h=>h.elim
 |_::_,[],h=>h.elim
theorem fP.look:∀ {es:List (Int×V)} {kvs:List (Int×Value)},fP D ρ es kvs->∀ x,match es.lookup x with
  |some v=>∃ y,valueAt kvs x=some y/\VR D ρ v y
  |none=>valueAt kvs x=none
 |[],[],_,x=>rfl
 |(k,v)::es,(k',y)::kvs,h,x=>by
  refine gm h fun h1 h2 h3=>?_;clear h
  dsimp only at h1 h2
  subst h1
  simp only[Y4,valueAt,List.find?_cons]
  by_cases e:x=k
  ·subst e
   simp only[Y3,decide_true]
   exact aY y rfl h2
  ·haveI e1:=Ys.mpr e
   haveI e2:=Zo (Ne.symm e)
   rw[e1,e2]
   exact fP.look h3 x
 |[],_::_,h,_=>h.elim
 |_::_,[],h,_=>h.elim
inductive EU(D:Wd)(ρ:List Addr)(h:Heap)(a:Addr)(es:List (Int×V)):Prop where
 |mk (kvs:List (Int×Value)) (d:h.DictOf (intKind D.prog D.w) a kvs) (r:fP D ρ es kvs) (b:es.length<=10000)
theorem St.dict{es:List (Int×V)}{a:Addr}(S:St D Y ρ J Z s)(h:J.t.get k=some (.dict es))(ha:ρ[k]? = some a):EU D ρ s.heap a es:=by
 refine aF (S.dN h ha) fun x h2 qz1=>?_;obtain⟨kvs,h3,h4,h5⟩:=qz1
 exact⟨kvs,Heap.dictOf_iff.mpr (aY x h2 h3),h4,h5⟩
theorem St.noSys{a:Addr}(B:aV D Y)(S:St D Y ρ J Z s)(ha:ρ[k]? = some a):(a==sysModules)=false:=by
 rw[Ys]
 rintro rfl
 haveI:=S.ap _ (jB ha)
 haveI h:=B.qA
 rw[this] at h
 exact W8 h
noncomputable def Md(Y:Gm):Nat->Prop
 |0=>Y.A.handled=none
 |1=>∃ h o vs,Y.A.handled=some (.ref h)/\Y.kp h=some o/\o.data = .fields vs/\vs[2]? = some .none
 |_=>True
theorem nN:entryFor table "proto.unchain" = some Builtin.«proto.unchain»:=WO (by kernel_rfl)
theorem rQ{A:Around}{E:Value->Shared->Prop}{Q:α->Shared->Prop}{oe oh:Obj}{vs ws:Array Value}(hh:A.handled=some (.ref h))(hne:h≠e)(ho:s.heap.get? h=some oh)(hd:oh.data = .fields vs)(h2:vs[2]? = some .none)(he:s.heap.get? e=some oe)(hde:oe.data = .fields ws)(hz:2<ws.size)(hE:E (.ref e) {s with heap:=s.heap.update e (Obj.mapFields (·.setIfInBounds 2 (.ref h)))}):wpAny (model D.prog D.w) A (raiseNew (.ref e):Sem α) Q E s:=by
 dsimp only[raiseNew]
 refine Z8 (wpAny_handled ?_)
 refine hh▸?_
 dsimp only
 haveI e1:((Value.ref h !=Value.ref e)=true):=by simp[hne]
 rw[if_pos e1]
 refine Z8 (Zw (wpAny_runValue (WH nN ?_)))
 unfold Builtin.«proto.unchain»
 dsimp only
 refine Z8 (X9 ho hd h2 ?_)
 rw[if_pos (by rfl)]
 refine ZW ?_
 dsimp only
 refine Z8 ?_
 exact Xp he hde hz (W4 hE)
theorem pN{A:Around}{E:Value->Shared->Prop}{l:Addr}{items:Array Value}{k:Int}{t:Tok}{Q:Value->Shared->Prop}{oh:Obj}{vs:Array Value}(hA:A.handled=some (.ref h))(hl:s.heap.IsList l items)(ho:s.heap.get? h=some oh)(hdh:oh.data = .fields vs)(h2:vs[2]? = some .none)(hout:k < -(items.size:Int)∨(items.size:Int)<=k)(hlo : -(2 ^ 63)<=k)(hhi:k<2 ^ 63)(hE:∀ h' tk e,Heap.NewExc s.heap h' e "IndexError"->E (.ref e) {s with heap:=h'.update e (Obj.mapFields (·.setIfInBounds 2 (.ref h))),toks:=tk}) :
  wpAny (model D.prog D.w) A (getItem (.ref l) (.int k t)) Q E s:=by
 haveI rz:∀ {A':Around} {α:Type} {Q:α->Shared->Prop} {msg:String},A'.handled=some (.ref h)->wpAny (model D.prog D.w) A' (raiseErrorWords "IndexError" msg:Sem α) Q E s:=by
  intro A' α Q msg hA'
  skip
  refine Z8 (wpAny_mkText (Z8 ?_))
  skip
  refine Z8 (YI ?_)
  refine Z8 (XQ (a:=Value.none) (by dsimp only[firstArgMember,plainExc_IndexError.first];rfl) ?_)
  rw[plainExc_IndexError.own]
  refine YI ?_
  haveI fresh:∀ (hp:Heap) (x y:Obj) b o,hp.get? b=some o->((hp.push x).push y).get? b=some o:=fun hp x y b o hb=>Zq _ (Zq _ hb)
  refine rQ hA' ?_ (fresh _ _ _ _ _ ho) hdh h2 (Zu _ rfl) rfl (by simp) ?_
  ·intro e
   clear hlo hhi hout
   haveI:=YG ho
   haveI h3:=ZV (fun n=>n) e
   dsimp only at h3
   rw[h3] at this
   exact absurd this (by simp)
  ·exact hE _ _ _ ⟨fresh _ _ _,Heap.get?_none_of_le (by simp),_,_,Zu _ rfl,rfl,rfl⟩
 refine iu (id hl) fun o ho' hc qz3=>?_;obtain⟨ne,hd⟩:=qz3
 dsimp only[getItem]
 try with_reducible refine Zw ?_
 first | refine Z8 (ZW ?_) | skip
 refine Z8 (wpAny_sequenceKey hl.typeIs (by decide) ?_)
 refine Z8 (W3 hl.typeIs slot_list_getitem
  (Xm slot_list_getitem hl.typeIs entry_list_getitem ?_ (args_list_getitem _ _)))
 show wpAny _ _ (Builtin.List.listSubscript? (.int k t)>>=_) _ _ s
 refine Z8 (wpAny_listSubscript_int (fitsIndex_both hlo hhi) ?_)
 clear hlo hhi
 cases k with
 |ofNat j=>
  have hx:items[j]? = none:=by
   rcases hout with h | h
   ·exact absurd h (by simp only[Int.ofNat_eq_natCast];simp)
   ·exact YF (by haveI:(items.size:Int)<=(j:Int):=h;omega)
  refine Z8 (Z8 (wpAny_seqItemAt ho' hd (ZW ?_)))
  exact hx▸(Z8 (wpAny_rule (Z8 (rz hA))))
 |negSucc j=>
  have hidx:seqIndex? (Int.negSucc j) items.size=none:=by
   rcases hout with h | h
   ·exact seqIndex_below h
   ·exact absurd h (by haveI:=Int.negSucc_lt_zero j;omega)
  refine Z8 (Z8 ?_)
  refine Z8 (WX ho' hd (ZW (ZW ?_)))
  rw[hidx]
  exact Z8 (wpAny_rule (Z8 (rz hA)))
theorem W.GY{hd:Nat}(hh:Md Y hd){xs:List V}{aj:Addr}{t:Tok}{t':Sem Value}(ho:J.t.get j=some (.list xs))(hj:ρ[j]? = some aj)(hs:bO i=true)(hw:∀ {s:Shared} {T id:String} {Q:Value->Shared->Prop} {E:Value->Shared->Prop},s.TypeIs (.ref aj) T->typeLookup (.type T) "__getitem__" = Pure.pure (some (.builtin id))->wpAny (model D.prog D.w) Y.A (getItem (.ref aj) (.int i t)) Q E s->wpAny (model D.prog D.w) Y.A t' Q E s) :
  W D Y ρ J Z t' (VR D) ((match idxOf i xs.length with | some k=>Mine.az xs[k]? M.ret | none=>M.gj hd 0:M V) J Z):=by
 haveI hb1:=dO hs
 refine bI (idxOf i xs.length) (fun e=>?_) fun k e=>?_
 ·have go:∀ {s:Shared} {Q:Value->Shared->Prop} {E:Value->Shared->Prop},St D Y ρ J Z s->(∀ items n,IsL s.heap aj items n->(i < -(items.size:Int)∨(items.size:Int)<=i)->wpAny (model D.prog D.w) Y.A (getItem (.ref aj) (.int i t)) Q E s)->wpAny (model D.prog D.w) Y.A t' Q E s:=fun S h=>by
   obtain⟨items,n,l1,r1,_,z1⟩:=S.list ho hj
   exact hw (aY _ l1 rfl) slot_list_getitem.lookup (h items n l1 (z1▸(sW e)))
  match hd,hh with
  |0,hh=>exact fun s S=>go S fun items n l1 hx=>wpAny_getItem_list_out hh l1.isList hx (by omega) (by omega) fun h' tk e hx=>uD S hx
  |1,⟨h,o,vs,g1,g2,g3,g4⟩=>exact fun s S=>go S fun items n l1 hx=>pN g1 l1.isList (S.keep _ _ g2) g3 g4 hx (by omega) (by omega) fun h' tk e hx=>xD (by decide) S hx
  |n+2,_=>exact W.bad
 ·refine W.az fun v q s S=>?_
  obtain⟨items,n,l1,r1,_,z1⟩:=S.list ho hj
  refine aF (r1.get q) fun y hy hv=>?_
  haveI f:=rD e
  have hy':items[k]? = some y:=(YS)▸hy
  refine hw (aY _ l1 rfl) slot_list_getitem.lookup ?_
  by_cases h0:0<=i
  ·exact wpAny_getItem_list l1.isList h0 (by omega) ((f.2.1 h0)▸hy') (a7 S hv)
  ·haveI h0:i<0:=by omega
   exact wpAny_getItem_list_neg l1.isList h0 (by rw[z1];exact(f.2.2 h0).2) (by omega) (z1▸((f.2.2 h0).1)▸hy') (a7 S hv)
theorem W.idx{hd:Nat}(hh:Md Y hd){a b:V}{x y:Value}{t':Sem Value}(ha:VR D ρ a x)(hb:VR D ρ b y)(hw:∀ {s:Shared} {T id:String} {Q:Value->Shared->Prop} {E:Value->Shared->Prop},s.TypeIs x T->typeLookup (.type T) "__getitem__" = Pure.pure (some (.builtin id))->wpAny (model D.prog D.w) Y.A (getItem x y) Q E s->wpAny (model D.prog D.w) Y.A t' Q E s) :
  W D Y ρ J Z t' (VR D) (AX hd a b J Z):=by
 refine W.az fun j hj=>W.az fun i hi=>?_
 refine aF (ha.ref hj) fun aj hj qz5=>?_;clear ha;subst qz5
 obtain⟨t,rfl⟩:=hb.int hi
 refine W.obj fun o ho=>?_
 refine bI (dy o) (fun e=>?_) fun p e=>?_
 ·clear e
  refine W.az fun es hes=>W.az fun v e s S=>?_
  obtain rfl:=eT hes
  obtain⟨kvs,d1,d2,_⟩:=S.dict ho hj
  haveI:=d2.look i
  rw[e] at this
  refine aF this fun y h1 h2=>?_;clear this
  refine hw d1.typeIs slot_dict_getitem.lookup ?_
  exact wpAny_getItem_of (XD D.prog D.w i t) d1.mapOf h1 (bp S _ h2)
 ·obtain⟨l,xs⟩:=p
  refine W.ite (fun hs=>?_) fun zz=>W.bad
  cases l with
  |true=>have h__:=eJ e;subst h__;exact W.GY hh ho hj hs hw
  |false=>
   obtain rfl:=fR e
   refine bI (idxOf i xs.length) (fun e=>?_) fun k e=>?_
   ·exact W.bad
   ·refine W.az fun v q s S=>?_
    haveI hb1:=dO hs
    obtain⟨items,n,l1,r1,_,z1⟩:=S.tup ho hj
    refine aF (r1.get q) fun y hy hv=>?_
    haveI hy':items[k]? = some y:=(YS)▸hy
    refine hw (aY _ l1 rfl) F.slot_tuple_getitem.lookup ?_
    exact PyProof.Rows.getItem_tuple (eg l1) (by omega) (by omega) (z1▸(mj e)) hy' (a7 S hv)
end
end
section
open SeqAt (EqAt RcAt RcNeAt)
section
variable {D:Wd}{Y:Gm}{ρ:List Addr}{J:aq}{Z:List V}{s:Shared}
noncomputable def back(ρ:List Addr):Value->V
 |.none=>.none
 |.bool b=>.bool b
 |.int i _=>.int i
 |.str x _=>.str x
 |.ref a=>.ref (ρ.idxOf a)
 |_=>.ah
theorem St.H9(S:St D Y ρ J Z s):ρ.Nodup:=((Zl.mp (ZN.mp S.nd).2).2).1
theorem tO{v:V}{y:Value}(hn:ρ.Nodup)(h:VR D ρ v y)(hs:v≠.scr):back ρ y=v:=by
 cases v with
 |none=>subst h;rfl
 |ah=>exact h.elim
 |scr=>exact absurd rfl hs
 |bool b=>subst h;rfl
 |int i=>refine df h fun t qz1=>?_;clear h;subst qz1;rfl
 |str x=>refine df h fun t qz3=>?_;clear h;subst qz3;rfl
 |ref k=>
  refine aF h fun a h1 qz5=>?_;clear h;subst qz5
  haveI hm:=ZK h1
  haveI:ρ[ρ.idxOf a]? = some a:=by
   refine(Z7 (List.idxOf_lt_length_of_mem hm)).trans ?_
   simp
  exact(dF hn this h1)▸rfl
 |aI k=>exact h.elim
theorem mQ(e:Nat->Bool)(n:Nat):(List.range (n+1)).all e=(e 0&&(List.range n).all fun j=>e (j+1)):=by
 rw[WW,List.all_cons,List.all_map];rfl
theorem nv{eq:V->V->Option Bool}{a b:V}{as bs:List V}{r:Bool}(q:fw eq (a::as) (b::bs)=some r):∃ c d,eq a b=some c/\fw eq as bs=some d/\r=(c&&d):=by
 haveI q:(match eq a b,fw eq as bs with
  |some c,some d=>some (c&&d)
  |_,_=>none)=some r:=q
 refine bI (eq a b) (fun e1=>?_) fun c e1=>?_
 ·replace q:=e1▸q;contradiction
 ·refine bI (fw eq as bs) (fun e2=>?_) fun d e2=>?_
  ·replace q:=e1▸e2▸q;contradiction
  ·replace q:=e1▸e2▸q;obtain rfl:=Z9 q;exact rm c d rfl rfl rfl
theorem mH{eq:V->V->Option Bool}(h:∀ a r,eq a a=some r->r=true):∀ {as:List V} {r:Bool},fw eq as as=some r->r=true
 |[],r,q=>(Z9 q).symm
 |a::as,r,q=>by
  refine vR (nv q) fun c d e1 e2 qz0=>?_;clear q;refine qz0▸?_
  rw[h a c e1];refine(mH h e2).trans ?_;rfl
theorem sh{a:V}{r:Bool}(h:yB a a=some r):r=true:=by
 cases a<;>first | (cases h;done) | (haveI:=Z9 h;rw[<-this];first | done | exact Y3 _)
theorem sV{eq:V->V->Option Bool}(h:∀ a r,eq a a=some r->r=true){p:Bool×List V}{r:Bool}(q:gB eq p p=some r):r=true:=by
 unfold gB at q
 rw[if_pos (WY _),if_pos (Y3 _)] at q
 exact mH h q
theorem qx:∀ (n:Nat) (a:V) (r:Bool),gx J n a a=some r->r=true
 |0,_,_,h=>by contradiction
 |n+1,a,r,h=>by
  dsimp only[gx] at h
  refine bI (refOf a) (fun e=>?_) fun j e=>?_
  ·rw[e] at h;exact sh h
  ·replace h:=e▸h
   dsimp only at h
   refine bI ((J.t.get j).bind dy) (fun q=>?_) fun p q=>?_
   ·replace h:=q▸h;contradiction
   ·rw[q] at h;exact sV (qx n) h
inductive sU(A:Around)(s:Shared):Value->Value->Bool->Prop where
 |none:sU A s .none .none true
 |bool (p q:Bool):sU A s (.bool p) (.bool q) (p==q)
 |int (p:Int) (t:Tok) (q:Int) (u:Tok):sU A s (.int p t) (.int q u) (p==q)
 |str (p:Str) (t:Tok) (q:Str) (u:Tok):sU A s (.str p t) (.str q u) (p==q)
 |len {a b:Addr} {i1 i2:Array Value} (l1:s.heap.IsList a i1) (l2:s.heap.IsList b i2) (hz:(i1.size !=i2.size)=true) (hn:a≠b):sU A s (.ref a) (.ref b) false
 |list {a b:Addr} {i1 i2:Array Value} {e:Nat->Bool} {r:Bool} (l1:s.heap.IsList a i1) (l2:s.heap.IsList b i2) (hz:i1.size=i2.size) (he:∀ j (h1:j<i1.size) (h2:j<i2.size),EqAt A.in1 s i1[j] i2[j] (e j)) (hr:r=(List.range i1.size).all e) (hs:a=b->r=true):sU A s (.ref a) (.ref b) r
 |tup {a b:Addr} {i1 i2:Array Value} {e:Nat->Bool} {r:Bool} (l1:s.heap.IsTuple a i1) (l2:s.heap.IsTuple b i2) (he:∀ j (h1:j<i1.size) (h2:j<i2.size),EqAt A.in1 s i1[j] i2[j] (e j)) (hr:r=((List.range (min i1.size i2.size)).all e&&i1.size==i2.size)) (hs:a=b->r=true):sU A s (.ref a) (.ref b) r
theorem sU.rc{A:Around}{x y:Value}{r:Bool}(h:sU A s x y r)(hu:A.units<cLine):RcAt A s x y r:=by
 cases h with
 |none=>exact RcAt.none_none
 |bool p q=>exact RcAt.bool_bool _ _
 |int p t q u=>exact RcAt.int_int _ _ _ _
 |str p t q u=>exact RcAt.str_str _ _ _ _
 |len l1 l2 hz hn=>exact RcAt.lists_lengths l1 l2 hz hu
 |list l1 l2 hz he hr hs=>rw[hr];exact RcAt.lists l1 l2 hz hu he
 |tup l1 l2 he hr hs=>rw[hr];exact RcAt.tuples l1 l2 hu he
theorem sU.ne{A:Around}{x y:Value}{r:Bool}(h:sU A s x y r)(hu:A.units<cLine):RcNeAt A s x y (!r):=by
 cases h with
 |none=>exact RcNeAt.none_none
 |bool p q=>exact RcNeAt.bool_bool _ _
 |int p t q u=>exact RcNeAt.int_int _ _ _ _
 |str p t q u=>exact RcNeAt.str_str _ _ _ _
 |len l1 l2 hz hn=>exact RcNeAt.lists_lengths l1 l2 hz hu
 |list l1 l2 hz he hr hs=>rw[hr];exact RcNeAt.lists l1 l2 hz hu he
 |tup l1 l2 he hr hs=>rw[hr];exact RcNeAt.tuples l1 l2 hu he
theorem sU.eq{A:Around}{x y:Value}{r:Bool}(h:sU A s x y r)(hu:A.units<cLine):EqAt A s x y r:=by
 have hr:=h.rc hu
 have go:∀ {a b:Addr},(a=b->r=true)->RcAt A s (.ref a) (.ref b) r->EqAt A s (.ref a) (.ref b) r:=fun {a b} q1 q2=>by
  by_cases e:a=b
  ·exact(q1 e)▸e▸(EqAt.same _)
  ·exact EqAt.of_refs e q2
 cases h with
 |none=>exact EqAt.same _
 |bool p q=>exact EqAt.bool_bool _ _
 |int p t q u=>exact EqAt.int_int _ _ _ _
 |str p t q u=>exact EqAt.str_str _ _ _ _
 |len l1 l2 hz hn=>exact EqAt.of_refs hn hr
 |list l1 l2 hz he hr' hs=>exact go hs hr
 |tup l1 l2 he hr' hs=>exact go hs hr
theorem rC{eq:V->V->Option Bool}{P:Value->Value->Bool->Prop}(h:∀ a b x y r,eq a b=some r->VR D ρ a x->VR D ρ b y->P x y r):∀ {as bs:List V} {xs ys:List Value} {r:Bool},fw eq as bs=some r->bB D ρ as xs->bB D ρ bs ys->
  ∃ e:Nat->Bool,(∀ j (h1:j<xs.length) (h2:j<ys.length),P xs[j] ys[j] (e j))/\r=(List.range xs.length).all e
 |[],bs,xs,ys,r,q,ha,hb=>by
  cases xs with
  |cons _ _=>exact ha.elim
  |nil=>
   clear hb;cases bs with
   |cons _ _=>contradiction
   |nil=>exact aY (fun zz=>true) (fun j h1=>absurd h1 (YX _)) ((Z9 q).symm)
 |a::as,bs,xs,ys,r,q,ha,hb=>by
  cases xs with
  |nil=>exact ha.elim
  |cons x xs=>
   cases bs with
   |nil=>contradiction
   |cons b bs=>
    cases ys with
    |nil=>exact hb.elim
    |cons y ys=>
     refine vR (nv q) fun c d e1 e2 qz2=>?_;clear q;refine qz2▸?_
     refine aF (rC h e2 ha.2 hb.2) fun e he hr=>?_
     refine aY (fun j=>Nat.casesOn j c e) (fun j=>?_) (by simp only[YK,mQ,hr];rfl)
     cases j with
     |zero=>exact fun zz zz=>h a b x y c e1 ha.1 hb.1
     |succ j=>exact fun q1 q2=>he j (YQ q1) (YQ q2)
theorem xh{v:V}{b:Bool}:B0 v=some b->v = .bool b:=by
 cases v with
 |bool=>intro h;exact Z9 h▸rfl
 |_=>exact aQ
theorem Ag{v:V}{x:Str}:F5 v=some x->v = .str x:=by
 cases v with
 |str=>intro h;exact Z9 h▸rfl
 |_=>exact aQ
theorem CW{A:Around}{a b:V}{x y:Value}{r:Bool}(h:yB a b=some r)(ha:VR D ρ a x)(hb:VR D ρ b y):sU A s x y r:=by
 cases a with
 |none=>
  refine bU (jy h) fun e1 e2=>?_
  rw[<-e2,show x = .none from ha,show y = .none from(e1▸hb:VR D ρ .none y)];exact .none
 |bool p=>exact aF (ZU.mp h) fun q h1 h2=>h2▸(show x = .bool p from ha)▸(show y = .bool q from(xh h1▸hb:VR D ρ (.bool q) y))▸.bool p q
 |int p=>exact aF (ZU.mp h) fun q h1 h2=>df ha fun t e1=>df (eR h1▸hb:VR D ρ (.int q) y) fun u e2=>h2▸e1▸e2▸.int p t q u
 |str p=>exact aF (ZU.mp h) fun q h1 h2=>df ha fun t e1=>df (Ag h1▸hb:VR D ρ (.str q) y) fun u e2=>h2▸e1▸e2▸.str p t q u
 |_=>exact a9 h
theorem bind_some{α β:Type}{o:Option α}{f:α->Option β}{b:β}(h:o.bind f=some b):∃ a,o=some a/\f a=some b:=Zd.mp h
noncomputable def n7{α:Type}(l:List α):Option α:=match l with
 |[]=>none
 |a::r=>match r with
  |[]=>some a
  |_::_=>none
theorem gV{α:Type}{l:List α}{a:α}(h:n7 l=some a):l=[a]:=by
 cases l with
 |nil=>exact a9 h
 |cons b r=>cases r with
  |nil=>exact Z9 h▸rfl
  |cons _ _=>exact a9 h
theorem pD(S:St D Y ρ J Z s):∀ (n:Nat) (A:Around) (a b:V) (x y:Value) (r:Bool),A.units+n<cLine->gx J n a b=some r->VR D ρ a x->VR D ρ b y->sU A s x y r
 |0,_,_,_,_,_,_,_,h,_,_=>by contradiction
 |n+1,A,a,b,x,y,r,hu,h,ha,hb=>by
  haveI hr:=h
  dsimp only[gx] at h
  refine bI (refOf a) (fun ea=>?_) fun j ea=>?_
  ·cases eb:refOf b with
   |none=>replace h:=ea▸eb▸h;exact CW h ha hb
   |some k=>rw[ea,eb] at h;contradiction
  ·cases eb:refOf b with
   |none=>rw[ea,eb] at h;contradiction
   |some k=>
    replace h:=ea▸eb▸h
    refine aF (ha.ref ea) fun aj hj qz5=>?_;clear ha;refine qz5▸?_
    refine aF (hb.ref eb) fun ak hk qz0=>?_;clear hb;refine qz0▸?_
    have hs:aj=ak->r=true:=fun e=>by
     clear qz0;subst e
     obtain rfl:=S.inj hj hk
     obtain rfl:=fO ea
     obtain rfl:=fO eb
     exact qx _ _ _ hr
    clear hr
    dsimp only at h
    refine bI ((J.t.get j).bind dy) (fun q1=>?_) fun p q1=>?_
    ·replace h:=q1▸h;contradiction
    ·refine bI ((J.t.get k).bind dy) (fun q2=>?_) fun q q2=>?_
     ·replace h:=q1▸q2▸h;contradiction
     ·replace h:=q1▸q2▸h
      refine aF (bind_some q1) fun o1 oj w1=>?_
      refine aF (bind_some q2) fun o2 ok w2=>?_
      obtain⟨l1,xs⟩:=p
      obtain⟨l2,ys⟩:=q
      have ih:=fun {as bs:List V} {us vs:List Value} (z:fw (gx J n) as bs=some r) (g1:bB D ρ as us) (g2:bB D ρ bs vs)=>rC (P:=EqAt A.in1 s) (fun a b x y r h1 h2 h3=>(pD S n A.in1 a b x y r (by show A.units+1+n<cLine;exact om [_,_,_] [(.s (.a (.v 0) (.s (.v 1))),.v 2)] (.s (.a (.s (.v 0)) (.v 1)),.v 2) rfl hu) h1 h2 h3).eq (by show A.units+1<cLine;exact om [_,_,_] [(.s (.a (.v 0) (.s (.v 1))),.v 2)] (.s (.s (.v 0)),.v 2) rfl hu)) z g1 g2
      unfold gB at h
      dsimp only at h
      by_cases hl:Nat.beq xs.length ys.length=true
      ·rw[if_pos hl] at h
       have hl:=Zr hl
       cases l1<;>cases l2<;>first | (contradiction;done) | skip
       ·cases fR w1
        cases fR w2
        obtain⟨i1,n1,t1,r1,_,z1⟩:=S.tup oj hj
        obtain⟨i2,n2,t2,r2,_,z2⟩:=S.tup ok hk
        obtain⟨e,he,h1⟩:=ih h r1 r2
        refine .tup (e:=e) (iF _ t1 rfl ⟨_,rfl⟩) (iF _ t2 rfl ⟨_,rfl⟩) (fun j q1 q2=>he j q1 q2) ?_ hs
        simp only[show i1.size=i2.size by rw[z1,z2,hl],Nat.min_self,h1,Yk,show i1.size=i2.size by rw[z1,z2,hl],Y3,Bool.and_true]
       ·cases eJ w1
        cases eJ w2
        obtain⟨i1,n1,t1,r1,_,z1⟩:=S.list oj hj
        obtain⟨i2,n2,t2,r2,_,z2⟩:=S.list ok hk
        obtain⟨e,he,h1⟩:=ih h r1 r2
        exact .list (e:=e) t1.isList t2.isList (by rw[z1,z2,hl]) (fun j q1 q2=>he j q1 q2) h1 hs
      ·replace h:=(if_neg hl).symm.trans h
       cases l1<;>cases l2<;>first | (contradiction;done) | skip
       injection h with h__;subst h__
       obtain rfl:=eJ w1
       obtain rfl:=eJ w2
       obtain⟨i1,n1,t1,r1,_,z1⟩:=S.list oj hj
       obtain⟨i2,n2,t2,r2,_,z2⟩:=S.list ok hk
       exact .len t1.isList t2.isList (by rw[z1,z2,bne_iff_ne];exact fun q=>hl (by exact q▸(WY _))) fun e=>nomatch hs e
end
end
section
variable {r:Bool}{a b:V}{x y:Value}
open SeqAt (EqAt RcAt RcNeAt)
section
variable {D:Wd}{Y:Gm}{ρ:List Addr}{J:aq}{Z:List V}{s:Shared}
theorem tR{v:V}{n:Nat}(h:gx J n v a=some r):v≠.scr:=by
 rintro rfl
 cases n with
 |zero=>contradiction
 |succ n=>
  dsimp only[gx] at h
  refine bI (refOf a) (fun q=>?_) fun k q=>?_
  ·rw[q] at h;clear q;cases a<;>contradiction
  ·rw[q] at h;contradiction
theorem ux(S:St D Y ρ J Z s){A:Around}(hu:A.units+oS<cLine)(ha:VR D ρ a x):∀ {vs:List V} {ys:List Value},bB D ρ vs ys->(∀ v∈vs,(gx J oS v a).isSome=true)->
  ∀ y∈ys,EqAt A s y x (gx J oS (back ρ y) a==some true)
 |[],[],_,_,y,hy=>by contradiction
 |v::vs,z::ys,h,hd,y,hy=>by
  rcases ZS.mp hy with rfl | hy
  ·obtain⟨r,hr⟩:=YV.mp (hd v ZX)
   refine(tO S.H9 h.1 (tR hr))▸hr▸?_
   have:=(pD S oS A v a y x r hu hr h.1 ha).eq (ZG (Zp _ _) hu)
   clear hr;cases r<;>exact this
  ·exact ux S hu ha h.2 (fun v hv=>hd v (ZY _ hv)) y hy
 |[],_::_,h,_,_,_=>h.elim
 |_::_,[],h,_,_,_=>h.elim
theorem m8:∀ {vs:List V} {l:List Bool},gN J a vs=some l->(∀ v∈vs,(gx J oS v a).isSome=true)/\l=vs.map fun v=>gx J oS v a==some true
 |[],l,h=>by
  obtain rfl:=Z9 h
  exact⟨fun v hv=>(by contradiction),rfl⟩
 |v::vs,l,h=>by
  dsimp only[gN] at h
  refine bI (gx J oS v a) (fun q=>?_) fun c q=>?_
  ·replace h:=q▸h;contradiction
  ·refine bI (gN J a vs) (fun q2=>?_) fun l' q2=>?_
   ·replace h:=q▸q2▸h;contradiction
   ·rw[q,q2] at h;injection h with h__;subst h__
    refine bU (m8 q2) fun h1 h2=>?_
    refine⟨fun w hw=>?_,?_⟩
    ·rcases ZS.mp hw with rfl | hw
     ·refine q▸?_;rfl
     ·exact h1 w hw
    ·refine Zi▸q▸h2▸?_
     clear q;cases c<;>rfl
theorem flags(S:St D Y ρ J Z s):∀ {vs:List V} {ys:List Value},bB D ρ vs ys->(∀ v∈vs,(gx J oS v a).isSome=true)->
  (vs.map fun v=>gx J oS v a==some true)=ys.map fun y=>gx J oS (back ρ y) a==some true
 |[],[],_,_=>rfl
 |v::vs,y::ys,h,hd=>by
  refine df (YV.mp (hd v ZX)) fun r hr=>?_
  refine(Zi).trans ?_;exact Zi▸(flags S h.2 fun v hv=>hd v (ZY _ hv))▸(tO S.H9 h.1 (tR hr))▸rfl
 |[],_::_,h,_=>h.elim
 |_::_,[],h,_=>h.elim
theorem gI{α:Type}(f:α->Bool):∀ l:List α,anyB (l.map f)=l.any f
 |[]=>rfl
 |x::r=>by simp only[Zi,List.any_cons,anyB,gI f r]
theorem aV.room(B:aV D Y):Y.A.in1.units+oS<cLine:=by
 haveI:=B.units
 exact om [_] [(.v 0,.n 8000)] (.s (.a (.s (.v 0)) (.n 100)),.n 9900) rfl this
theorem St.set{k:Nat}{xs:List Int}{a:Addr}(S:St D Y ρ J Z s)(h:J.t.get k=some (.set xs))(ha:ρ[k]? = some a):s.heap.SetOf (intKind D.prog D.w) a (fun k=>xs.contains k) xs.length/\xs.length<=1000:=by
 refine aF (S.dN h ha) fun x h2 qz3=>?_;obtain⟨es,ep,t,h3,h4,h5,h6,h7,h8,h9,h10⟩:=qz3
 exact⟨(Ie x es ep t h2 h3 h4 h5 h6 h7 h8 h9),h10⟩
theorem same_none:isSame x .none=Pure.pure (x==.none):=by cases x<;>rfl
theorem is_none(h:VR D ρ a x):(x==.none)=oR a:=by
 cases a with
 |none=>subst h;rfl
 |bool b=>subst h;rfl
 |scr=>subst h;rfl
 |int i=>refine df h fun t qz5=>?_;clear h;subst qz5;rfl
 |str i=>refine df h fun t qz0=>?_;clear h;subst qz0;rfl
 |ref k=>refine aF h fun zz zz qz2=>?_;clear h;subst qz2;rfl
 |ah=>exact h.elim
 |aI k=>exact h.elim
theorem vN{q:Bool}(h:VR D ρ a x):isSame x (.bool q)=Pure.pure (Ct q a):=by
 cases a with
 |none=>subst h;rfl
 |bool b=>subst h;cases b<;>cases q<;>rfl
 |scr=>subst h;rfl
 |int i=>refine df h fun t qz4=>?_;clear h;subst qz4;rfl
 |str i=>refine df h fun t qz6=>?_;clear h;subst qz6;rfl
 |ref k=>refine aF h fun zz zz qz1=>?_;clear h;subst qz1;rfl
 |ah=>exact h.elim
 |aI k=>exact h.elim
theorem tX(h:Ho a b=some r)(ha:VR D ρ a x)(hb:VR D ρ b y):isSame x y=Pure.pure r:=by
 cases b with
 |none=>rw[<-Z9 h,show y = .none from hb];exact same_none▸(is_none ha)▸rfl
 |bool q=>rw[<-Z9 h,show y = .bool q from hb];exact vN ha
 |_=>exact a9 h
theorem vU(B:aV D Y)(h:vJ J a b=some r)(ha:VR D ρ a x)(hb:VR D ρ b y)(S:St D Y ρ J Z s)(f:Bool->Bool){Q:Value->Shared->Prop}{E:Value->Shared->Prop}(hQ:∀ t,Q (.bool (f r)) {s with toks:=t}){op:CmpOp}(hf:op = .In/\f=id∨op = .NotIn/\f=not) :
  wpAny (model D.prog D.w) Y.A (compareOp op x y) Q E s:=by
 refine aF (bind_some h) fun k hk h=>?_
 refine aF (bind_some h) fun o ok h=>?_
 refine aF (hb.ref hk) fun ak hk qz3=>?_;clear hb;refine qz3▸?_
 cases o with
 |list xs=>
  obtain⟨l,e,rfl⟩:=ZU.mp h
  obtain⟨items,n,l1,r1,_,z1⟩:=S.list ok hk
  obtain⟨h1,h2⟩:=m8 e
  rw[h2,flags S r1 h1,gI] at hQ
  have hr:=fun y hy=>ux S B.room ha r1 h1 y (by simpa using hy)
  rcases hf with⟨rfl,rfl⟩ | ⟨rfl,rfl⟩
  ·exact SeqAt.in_listAt (fun y=>gx J oS (back ρ y) a==some true) l1.isList hr (by simpa using hQ s.toks)
  ·exact SeqAt.notIn_listAt (fun y=>gx J oS (back ρ y) a==some true) l1.isList hr (by simpa using hQ s.toks)
 |dict es=>
  obtain⟨i,hi,rfl⟩:=ZU.mp h
  obtain⟨t,rfl⟩:=ha.int hi
  obtain⟨kvs,d1,d2,_⟩:=S.dict ok hk
  have hl:=d2.look i
  have e:(es.lookup i).isSome=(valueAt kvs i).isSome:=by
   refine bI (es.lookup i) (fun q=>?_) fun v q=>?_
   ·rw[q] at hl;rw[hl];rfl
   ·rw[q] at hl;refine aF hl fun y hy zz=>?_;clear hl;rw[hy];rfl
  rw[e] at hQ
  rcases hf with⟨rfl,rfl⟩ | ⟨rfl,rfl⟩
  ·exact wpAny_in_of (XD D.prog D.w i t) (S.noSys B hk) d1.mapOf (hQ _)
  ·exact wpAny_notIn_of (XD D.prog D.w i t) (S.noSys B hk) d1.mapOf (hQ _)
 |set zs=>
  obtain⟨i,hi,rfl⟩:=ZU.mp h
  obtain⟨t,rfl⟩:=ha.int hi
  rcases hf with⟨rfl,rfl⟩ | ⟨rfl,rfl⟩
  ·exact wpAny_inSet_of (XD D.prog D.w i t) rfl (S.set ok hk).1 (hQ _)
  ·exact wpAny_notInSet_of (XD D.prog D.w i t) rfl (S.set ok hk).1 (hQ _)
 |_=>exact a9 h
theorem W.cmp(B:aV D Y){op:CmpOp}(ha:VR D ρ a x)(hb:VR D ρ b y):W D Y ρ J Z (compareOp op x y) (VR D) (mO op a b J Z):=by
 have hroom:Y.A.units+oS<cLine:=by haveI:=B.units;show Y.A.units+100<9900;exact om [_] [(.v 0,.n 8000)] (.s (.a (.v 0) (.n 100)),.n 9900) rfl this
 have hr1:=ZG (Zp _ _) hroom
 unfold mO
 refine bI (Ak J op a b) (fun e=>?_) fun r e=>?_
 ·exact W.bad
 ·intro s S
  haveI num:(intOf a).bind (fun x=>(intOf b).map fun y=>DK op x y)=some r->∃ p q t u,x = .int p t/\y = .int q u/\r=DK op p q:=fun h=>by
   refine aF (bind_some h) fun p h1 h=>?_
   refine aF (ZU.mp h) fun q h2 h3=>?_
   obtain⟨t,rfl⟩:=ha.int h1
   obtain⟨u,rfl⟩:=hb.int h2
   exact HW p q t u rfl rfl h3.symm
  cases op with
  |Eq=>exact(pD S oS Y.A a b x y r hroom e ha hb).rc hr1 _ _ _ _ (a7 S rfl)
  |NotEq=>
   obtain⟨r,h,rfl⟩:=ZU.mp e
   exact(pD S oS Y.A a b x y r hroom h ha hb).ne hr1 _ _ _ _ (a7 S rfl)
  |Is=>
   show wpAny _ _ (isSame x y>>=fun r=>Pure.pure (Value.bool r)) _ _ _
   exact(tX e ha hb)▸(ZW (a7 S rfl))
  |IsNot=>
   obtain⟨r,h,rfl⟩:=ZU.mp e
   show wpAny _ _ (isSame x y>>=fun r=>Pure.pure (Value.bool (!r))) _ _ _
   rw[tX h ha hb]
   exact ZW (a7 S rfl)
  |In=>exact vU B e ha hb S id (fun t=>bp S t rfl) (.inl ⟨rfl,rfl⟩)
  |NotIn=>
   refine aF (ZU.mp e) fun r h qz2=>?_;clear num;refine qz2▸?_
   exact vU B h ha hb S not (fun t=>bp S t rfl) (.inr ⟨rfl,rfl⟩)
  |Lt=>refine zY (num e) fun p q t u qz4 qz5 qz6=>?_;clear num;subst qz4;subst qz5;refine qz6▸?_;exact PyProof.Rows.lt_int (a7 S rfl)
  |LtE=>refine zY (num e) fun p q t u qz3 qz4 qz5=>?_;clear num;subst qz3;subst qz4;refine qz5▸?_;exact PyProof.Rows.le_int (a7 S rfl)
  |Gt=>refine zY (num e) fun p q t u qz2 qz3 qz4=>?_;clear num;subst qz2;subst qz3;refine qz4▸?_;exact PyProof.Rows.gt_int (a7 S rfl)
  |GtE=>refine zY (num e) fun p q t u qz1 qz2 qz3=>?_;clear num;subst qz1;subst qz2;subst qz3;exact PyProof.Rows.ge_int (a7 S rfl)
end
end
section
variable {op:BoolOp}{e:Expr}{es:List Expr}{x y:M V}{p:Pos}{t:Sem Value}
section
variable {D:Wd}{Y:Gm}{ρ:List Addr}{J:aq}{Z:List V}{s:Shared}
noncomputable def jX(_:List Addr)(b x:Bool):Prop:=x=b
theorem empty_eq{α β:Type}{a:Array α}{l:List β}(h:a.size=l.length):a.isEmpty=l.isEmpty:=by
 cases l with
 |nil=>obtain rfl:=(XA h);rfl
 |cons y ys=>
  refine lQ a.isEmpty (fun q=>?_) fun q=>?_
  ·rfl
  ·rw[Array.isEmpty_iff] at q
   subst q
   exact Nat.noConfusion h
theorem W.truth(B:aV D Y){v:V}{x:Value}(hv:VR D ρ v x):W D Y ρ J Z (truthy x) jX (sC v J Z):=by
 unfold sC
 cases v with
 |none=>subst hv;exact fun s S=>PyProof.Rows.truthy_none (a7 S rfl)
 |bool b=>subst hv;exact fun s S=>wpAny_truthy_bool (a7 S rfl)
 |int i=>refine df hv fun t qz1=>?_;clear hv;refine qz1▸?_;exact fun s S=>PyProof.Rows.truthy_int (a7 S rfl)
 |ref k=>
  refine aF hv fun a hk qz3=>?_;clear hv;refine qz3▸?_
  refine bI (DZ J (.ref k)) (fun q=>?_) fun r q=>?_
  ·exact W.bad
  ·refine aF (bind_some q) fun o ok h=>?_
   intro s S
   cases o with
   |list xs=>
    obtain rfl:=Z9 h
    obtain⟨items,n,l1,r1,hl,z1⟩:=S.list ok hk
    exact wpAny_truthy_list l1.isList (by rw[z1];omega) (bp S _ (ZV not (empty_eq z1)))
   |tup xs=>
    obtain rfl:=Z9 h
    obtain⟨items,n,l1,r1,hl,z1⟩:=S.tup ok hk
    exact PyProof.Rows.truthy_tuple (eg l1) (by rw[z1];omega) (bp S _ (ZV not (empty_eq z1)))
   |dict es=>
    obtain rfl:=Z9 h
    clear q
    obtain⟨kvs,d1,d2,hl⟩:=S.dict ok hk
    haveI hz:=d2.length
    refine wpAny_truthy_dict (S.noSys B hk) d1 (by refine hz▸?_;omega) (bp S _ ?_)
    clear d2;clear hl;clear ok;cases es<;>cases kvs<;>first | rfl | cases hz
   |_=>exact a9 h
 |_=>exact W.bad
theorem aw.HY(B:aV D Y)(h:aw D Y (eval e Y.env) (VR D) x)(he:isTrue e Y.env (eval e Y.env)=(do let v <-eval e Y.env;standAt e.pos;holding [v] (truthy v))) :
  aw D Y (isTrue e Y.env (eval e Y.env)) jX (aG x):=fun ρ J Z=>by
 exact he▸((h ρ J Z).bind fun ρ1 v J1 Z1 y zz hv=>W.bj (W.holding (W.truth B hv)))
theorem aw.HH{x:M Bool}(h:aw D Y (isTrue e Y.env (eval e Y.env)) jX x) :
  aw D Y (isTrue (.UnaryOp .Not e p) Y.env t) jX (.bind x fun b=>.ret (!b)):=fun ρ J Z=>by
 exact(h ρ J Z).bind fun ρ1 b J1 Z1 y zz hb=>W.pure (show(!y) = !b by exact(hb)▸rfl)
theorem aw.neg(h:aw D Y (eval e Y.env) (VR D) x) :
  aw D Y (eval (.UnaryOp .USub e p) Y.env) (VR D) (iM x):=fun ρ J Z=>by
 refine(h ρ J Z).bind fun ρ1 v J1 Z1 y zz hv=>W.bj (W.az fun i hi=>?_)
 refine df (hv.int hi) fun t qz5=>?_;clear hv;refine qz5▸?_
 exact W.holding W.neg
theorem aw.cmp(B:aV D Y){l r:Expr}{op:CmpOp}(hl:aw D Y (eval l Y.env) (VR D) x)(hr:aw D Y (eval r Y.env) (VR D) y)(hm:behindInMarks op r=false) :
  aw D Y (eval (.Compare l [op] [r] p) Y.env) (VR D) (.bind x fun a=>.bind y fun b=>mO op a b):=fun ρ J Z=>by
 rw[eval_Compare1,markedBehindIn_of_false hm]
 exact(hl ρ J Z).bind fun ρ1 a J1 Z1 xa zz ha=>(W.holding (hr _ _ _)).bind fun ρ2 b J2 Z2 xb zz hb=>W.bj (W.operate (W.cmp B ha.mono hb))
theorem aw.Bs(B:aV D Y){l r:Expr}{op:CmpOp}(hl:aw D Y (eval l Y.env) (VR D) x)(hr:aw D Y (eval r Y.env) (VR D) y)(hm:behindInMarks op r=false) :
  aw D Y (isTrue (.Compare l [op] [r] p) Y.env t) jX (aG (.bind x fun a=>.bind y fun b=>mO op a b)):=fun ρ J Z=>by
 rw[isTrue_Compare1,markedBehindIn_of_false hm]
 unfold aG
 rw[M.bind_assoc]
 haveI e:(fun a=>M.bind (M.bind y fun b=>mO op a b) sC)=fun a=>M.bind y fun b=>M.bind (mO op a b) sC:=by
  funext a;rw[M.bind_assoc]
 rw[e]
 exact(hl ρ J Z).bind fun ρ1 a J1 Z1 xa zz ha=>(W.holding (hr _ _ _)).bind fun ρ2 b J2 Z2 xb zz hb=>W.bj ((W.operate (W.cmp B ha.mono hb)).bind fun ρ3 v J3 Z3 z zz hv=>W.holding (W.truth B hv))
theorem aw.nil:aw D Y (spliced (backTo p (starEach [] Y.env))) (bB D) (.ret []):=fun ρ J Z=>W.pure trivial
theorem aw.cons{rest:List Expr}{y:M (List V)}(h:aw D Y (eval e Y.env) (VR D) x)(hr:aw D Y (spliced (backTo p (starEach rest Y.env))) (bB D) y)(he:starEach (e::rest) Y.env=(false,eval e Y.env)::starEach rest Y.env):aw D Y (spliced (backTo p (starEach (e::rest) Y.env))) (bB D) (.bind x fun v=>.bind y fun vs=>.ret (v::vs)):=fun ρ J Z=>by
 rw[he]
 show W D Y ρ J Z (do
  let v <-eval e Y.env
  let here <-(pure [v]:Sem (List Value))
  return here++(<-holding here (spliced (backTo p (starEach rest Y.env))))) _ _
 refine(h ρ J Z).bind fun ρ1 v J1 Z1 a zz hv=>?_
 exact(W.holding (hr _ _ _)).bind fun ρ2 vs J2 Z2 as zz hs=>W.pure ⟨hv.mono,hs⟩
theorem aw.list{y:M (List V)}(h:aw D Y (spliced (backTo p (starEach es Y.env))) (bB D) y):aw D Y (eval (.List es p) Y.env) (VR D) (.bind y fun vs=>.gi vs):=fun ρ J Z=>by
 exact W.bj ((h ρ J Z).bind fun ρ1 vs J1 Z1 as zz hv=>W.gi hv)
theorem aw.tup{k:Nat}{y:M (List V)}(h:aw D Y (spliced (backTo p (starEach es Y.env))) (bB D) y):aw D Y (eval (.Tuple es k p) Y.env) (VR D) (.bind y fun vs=>.gQ vs):=fun ρ J Z=>by
 exact W.bj ((h ρ J Z).bind fun ρ1 vs J1 Z1 as zz hv=>W.gQ hv)
theorem aw.Dx:aw D Y (allTrue op [] Y.env) jX (.ret (match op with | .And=>true | .Or=>false)):=fun ρ J Z=>by
 cases op<;>exact W.pure rfl
theorem aw.AR{rest:List Expr}{x y:M Bool}(h:aw D Y (isTrue e Y.env (eval e Y.env)) jX x)(hr:aw D Y (allTrue op rest Y.env) jX y) :
  aw D Y (allTrue op (e::rest) Y.env) jX (.bind x fun c=>match op,c with | .And,false=>.ret false | .Or,true=>.ret true | _,_=>y):=fun ρ J Z=>by
 refine(h ρ J Z).bind fun ρ1 c J1 Z1 d zz hc=>?_
 cases(hc)
 cases op<;>cases c<;>first | exact W.pure rfl | exact hr _ _ _
theorem aw.eI{x:M Bool}(h:aw D Y (allTrue op es Y.env) jX x):aw D Y (isTrue (.BoolOp op es p) Y.env t) jX x:=fun ρ J Z=>by
 dsimp only[arm_isTrue_BoolOp];exact h ρ J Z
theorem aw.HO(h:aw D Y t (VR D) x):aw D Y (boolOp p op [t]) (VR D) x:=h
set_option backward.match.sparseCases true in
theorem aw.AJ(B:aV D Y){t2:Sem Value}{ts:List (Sem Value)}(h:aw D Y t (VR D) x)(hr:aw D Y (boolOp p op (t2::ts)) (VR D) y) :
  aw D Y (boolOp p op (t::t2::ts)) (VR D) (.bind x fun v=>yx op v y):=fun ρ J Z=>by
 show W D Y ρ J Z (do
  let v <-t
  standAt p
  let t <-holding [v] (truthy v)
  match op,t with
  |.And,false | .Or,true=>pure v
  |_,_=>boolOp p op (t2::ts)) _ _
 refine(h ρ J Z).bind fun ρ1 v J1 Z1 a zz hv=>W.bj ?_
 refine(W.holding (W.truth B hv)).bind fun ρ2 c' J2 Z2 d e hc=>?_
 cases(hc)
 cases op<;>cases c'<;>first | exact W.pure hv.mono | exact hr _ _ _
theorem aw.JA(h:aw D Y (boolOp p op (evalEach es Y.env)) (VR D) x):aw D Y (eval (.BoolOp op es p) Y.env) (VR D) x:=fun ρ J Z=>by
 dsimp only[arm_eval_BoolOp];exact h ρ J Z
theorem ml{slice:Expr}{o i:Value}(h:∀ l u p,slice≠.Slice l u none p):subscripted slice false o i=operate [o,i] (getItem o i):=by
 unfold subscripted
 cases slice with
 |Slice l u st p=>cases st with
  |none=>exact absurd rfl (h _ _ _)
  |some _=>rfl
 |_=>rfl
end
end
section
variable {α β γ δ:Type}
section
variable {D:Wd}{Y:Gm}{ρ:List Addr}{J:aq}{Z:List V}{s:Shared}
theorem W.nest{P:List Addr->β->α->Prop}{P':List Addr->δ->γ->Prop}{t:Sem α}{u:Sem γ}{k:α->Sem γ}{x:M β}{f:β->M δ}(h:W D Y ρ J Z t P (x J Z))(hk:∀ ρ' b J' Z' a,x J Z = .ok b J' Z'->P (ρ++ρ') b a->W D Y (ρ++ρ') J' Z' (k a) P' (f b J' Z'))(hu:∀ s (Q:γ->Shared->Prop) (E:Value->Shared->Prop),St D Y ρ J Z s->wpAny (model D.prog D.w) Y.A t (fun a s₁=>wpAny (model D.prog D.w) Y.A (k a) Q E s₁) E s->wpAny (model D.prog D.w) Y.A u Q E s) :
  W D Y ρ J Z u P' (M.bind x f J Z):=by
 intro s S
 haveI h1:=h s S
 unfold M.bind
 refine pf (x J Z) (fun b J' Z' e=>?_) (fun c a J' Z' e=>?_) fun e=>?_
 ·replace h1:=e▸h1
  show match f b J' Z' with
   |.bad=>True
   |.ok b2 J2 Z2=>_
   |.exc c a J2 Z2=>_
  refine pf (f b J' Z') (fun b2 J2 Z2 e2=>?_) (fun c a2 J2 Z2 e2=>?_) fun e2=>?_
  ·refine hu s _ _ S (ZO h1 (fun a s1 q=>?_) fun zz zz q=>q.elim)
   obtain⟨ρ',hp,S'⟩:=q
   haveI:=hk ρ' b J' Z' a e hp s1 S'
   replace this:=e2▸this
   refine ZO this (fun c s2 q=>?_) fun zz zz q=>q.elim
   obtain⟨ρ2,hp2,S2⟩:=q
   exact⟨ρ'++ρ2,by rw[<-ZZ];exact hp2,by rw[<-ZZ];exact S2⟩
  ·refine hu s _ _ S (ZO h1 (fun a s1 q=>?_) fun zz zz q=>q.elim)
   obtain⟨ρ',hp,S'⟩:=q
   haveI:=hk ρ' b J' Z' a e hp s1 S'
   rw[e2] at this
   refine ZO this (fun c s2 q=>q.elim) fun zz s2 q=>?_
   obtain⟨ρ2,hp2,S2⟩:=q
   exact⟨ρ'++ρ2,by rw[<-ZZ];exact hp2,by rw[<-ZZ];exact S2⟩
  ·trivial
 ·replace h1:=e▸h1
  exact hu s _ _ S (ZO h1 (fun zz zz q=>q.elim) fun zz zz q=>q)
 ·trivial
theorem W.HG{P:List Addr->β->α->Prop}{t t':Sem α}{r:Rs β}(h:W D Y ρ J Z t P r)(hw:∀ s (Q:α->Shared->Prop) (E:Value->Shared->Prop),St D Y ρ J Z s->wpAny (model D.prog D.w) Y.A t Q E s->wpAny (model D.prog D.w) Y.A t' Q E s):W D Y ρ J Z t' P r:=by
 intro s S
 haveI:=h s S
 clear h;cases r with
 |bad=>trivial
 |ok b J' Z'=>exact hw _ _ _ S this
 |exc c a J' Z'=>exact hw _ _ _ S this
theorem W.hold{P':List Addr->δ->γ->Prop}{vs:List Value}{m:Sem α}{k:α->Sem γ}{r:Rs δ}(h:W D Y ρ J Z (m>>=k) P' r):W D Y ρ J Z (PySem.holding vs m>>=k) P' r:=
 h.by fun zz zz zz h Y p hY=>by
  haveI:=h Y p hY
  rw[Sem.wp_bind'] at this ⊢
  rw[Sem.wp_holding];exact this
noncomputable def DS(D:Wd)(ρ:List Addr)(o:Option V)(x:Value):Prop:=match o with
 |none=>x = .none
 |some v=>VR D ρ v x
theorem aw.Fs:aw D Y (valueOrNone (evalOpt none Y.env)) (DS D) (.ret none):=fun ρ J Z=>W.pure rfl
theorem aw.FT{e:Expr}{x:M V}(h:aw D Y (eval e Y.env) (VR D) x):aw D Y (valueOrNone (evalOpt (some e) Y.env)) (DS D) (.bind x fun v=>.ret (some v)):=fun ρ J Z=>by
 haveI:=(h ρ J Z).bind (f:=fun v=>M.ret (some v)) (P':=DS D) (k:=Pure.pure) fun ρ1 v J1 Z1 a zz hv=>W.pure hv
 rw[bind_pure] at this
 exact this
theorem Bw(items:Array Value)(l h:Nat):slicePick items (some (l:Int)) (some (h:Int)) none=((items.toList.take h).drop l).toArray:=by
 rw[slicePick_plain]
 simp only[Option.elim,clipAt_nat]
 rw[List.drop_take]
 haveI hz:items.toList.length=items.size:=by rfl
 by_cases hl:l<=items.size
 ·rw[Nat.min_eq_left hl]
  by_cases hh:h<=items.size
  ·rw[Nat.min_eq_left hh]
  ·rw[Nat.min_eq_right (by omega),Xx (by simp),Xx (by simp;omega)]
 ·rw[WV (by rw[hz,Nat.min_eq_right (by omega)];exact ZE _),WV (by omega)]
  simp
theorem zI(items:Array Value)(h:Nat):slicePick items none (some (h:Int)) none=((items.toList.take h).drop 0).toArray:=by
 rw[slicePick_upto'];rfl
theorem w5(items:Array Value)(l:Nat):slicePick items (some (l:Int)) none none=((items.toList.take items.size).drop l).toArray:=by
 rw[slicePick_from',Xx (by simp)]
theorem zq(items:Array Value):slicePick items none none none=((items.toList.take items.size).drop 0).toArray:=by
 rw[slicePick_plain];rfl
theorem part_of{o:Option V}{x:Value}{d k:Nat}(h:DS D ρ o x)(e:yo o d=some k):∃ p:Option Int,IsPart x p/\(p=none/\k=d∨p=some (k:Int)):=by
 cases o with
 |none=>exact aY none ((show x = .none from h)▸.none) (.inl ⟨rfl,(Z9 e).symm⟩)
 |some v=>
  refine aF (bind_some e) fun i h1 h2=>?_
  cases i with
  |negSucc _=>exact a9 h2
  |ofNat j=>exact df (eR h1▸h:VR D ρ (.int (.ofNat j)) x) fun t e=>Z9 h2▸e▸aY _ (.int _ _) (.inr rfl)
theorem xX(items:Array Value){l h:Nat}(lo hi:Option Int)(hl:lo=none/\l=0∨lo=some (l:Int))(hh:hi=none/\h=items.size∨hi=some (h:Int)):slicePick items lo hi none=((items.toList.take h).drop l).toArray:=by
 rcases hl with⟨rfl,rfl⟩ | rfl<;>rcases hh with⟨rfl,rfl⟩ | rfl
 ·exact zq items
 ·exact zI items h
 ·exact w5 items l
 ·exact Bw items l h
theorem aw.Je{v:Expr}{lo hi:Option Expr}{p ps:Pos}{x:M V}{y z:M (Option V)}(h:aw D Y (eval v Y.env) (VR D) x)(hl:aw D Y (valueOrNone (evalOpt lo Y.env)) (DS D) y)(hh:aw D Y (valueOrNone (evalOpt hi Y.env)) (DS D) z) :
  aw D Y (eval (.Subscript v (.Slice lo hi none ps) p) Y.env) (VR D) (.bind x fun a=>.bind y fun l=>.bind z fun u=>Gb a l u):=fun ρ J Z=>by
 refine(h ρ J Z).bind fun ρ1 a J1 Z1 xa zz ha=>?_
 refine W.hold ?_
 rw[arm_eval_Slice,bind_assoc]
 refine(hl _ _ _).bind fun ρ2 l J2 Z2 xl zz hl'=>?_
 rw[bind_assoc]
 refine W.hold ((hh _ _ _).bind fun ρ3 u J3 Z3 xu zz hu'=>?_)
 rw[bind_assoc]
 refine W.hold ?_
 show W D Y _ _ _ (newFields "slice" [xl,xu,.none]>>=fun i=>standAt p>>=fun zz=>subscriptTail v (.Slice lo hi none ps) xa i) _ _
 haveI ha:=(ha.mono (ρ':=ρ2)).mono (ρ':=ρ3)
 refine W.az fun k hk=>?_
 refine aF (ha.ref hk) fun ak hk qz1=>?_;clear ha;refine qz1▸?_
 refine W.obj fun o ho=>W.az fun xs hx=>W.az fun l0 h0=>W.az fun h1 h2=>W.ite (fun hb=>fun s S=>?_) fun zz=>W.bad
 obtain rfl:=bW hx
 haveI hb:=ZC hb
 obtain⟨items,n,l1,r1,hle,z1⟩:=S.list ho hk
 refine Z8 (YI (Z8 (YR ?_)) (show(3:Nat)<=sizeLine+2 by exact XS▸(ZQ _ _)))
 have S':=S.tH {cls:=.type "slice",data:=.fields #[xl,xu,.none]}
 have l1':=l1.push {cls:=.type "slice",data:=.fields #[xl,xu,.none]}
 refine tail_any (aY _ l1' rfl) slot_list_getitem.lookup ?_ rfl
 refine aF (part_of hl' h0) fun lo' p1 g1=>?_
 refine aF (part_of hu' h2) fun hi' p2 g2=>?_
 refine wpAny_getItem_list_slice l1'.isList (Heap.IsSliceOf.new ..) p1 p2 .none (by decide) ?_ (by rw[z1];exact dg hle)
 exact(xX items lo' hi' g1 (by rw[z1];exact g2))▸(dS S' ⟨_,_,rfl,by exact((r1.take h1).drop l0).mono,hb⟩ rfl)
end
end
section
variable {x:Int}{es:List (Int×V)}{vs:List V}{xs:List Value}{k:Nat}{v:V}
section
variable {D:Wd}{Y:Gm}{ρ:List Addr}{J:aq}{Z:List V}{s:Shared}
noncomputable def sI:Me->Str
 |.append=> "append" | .extend=> "extend" | .pop=> "pop" | .clear=> "clear" | .remove=> "remove" | .get=> "get" | .values=> "values" | .add=> "add"
noncomputable def zL:Me->String
 |.append=> "list.append" | .extend=> "list.extend" | .pop=> "list.pop" | .clear=> "list.clear" | .remove=> "list.remove" | .get=> "dict.get" | .values=> "dict.values" | .add=> "set.add"
noncomputable def Be:Me->String
 |.get=> "dict" | .values=> "dict" | .add=> "set" | _=> "list"
theorem jO{a:Addr}{items:Array Value}{n:Nat}{f:Array Value->Array Value}{x:Value}{vs₀:List V}(S:St D Y ρ J Z s)(ho:J.t.get k=some (.list vs₀))(hk:ρ[k]? = some a)(hl:IsL s.heap a items n)(hr:bB D ρ vs (f items).toList)(hb:vs.length<=10000)(hv:VR D ρ v x):Out D Y ρ (VR D) v ⟨J.n,J.t.set k (.list vs),J.fz⟩ Z x {s with heap:=s.heap.update a (Obj.mapSeq f)}:=
 ⟨[],by rw[ZT];exact hv,by rw[ZT];exact S.upd hk (YB ..) (hl.update f) ⟨_,_,rfl,hr,hb⟩ (.inl fun es e=>by replace e:=(ho).symm.trans e;have h__:=Z9 e;cases h__)⟩
theorem jA(xs:Array Value)(k:Nat)(h:k<xs.size):(xs.eraseIdxIfInBounds k).toList=xs.toList.take k++xs.toList.drop (k+1):=by
 rw[Array.eraseIdxIfInBounds,dif_pos h,Array.toList_eraseIdx,List.eraseIdx_eq_take_drop_succ]
theorem bB.fx(h:bB D ρ vs xs)(k:Nat):bB D ρ (fx k vs) (xs.take k++xs.drop (k+1)):=(h.take k).append (h.drop (k+1))
theorem nE(k:Nat)(vs:List V):(fx k vs).length<=vs.length:=
 ZD (Yo ZI) (ZD (Nat.add_le_add_left ((List.drop_sublist_drop_left vs (XH k)).length_le) _) (Yo (ZI.symm.trans (ZV List.length (List.take_append_drop k vs)))))
theorem ints_get:∀ {vs:List V} {l:List Int},intsOf vs=some l->vs=l.map V.int
 |[],l,h=>Z9 h▸rfl
 |v::vs,l,h=>aF (bind_some h) fun i h1 h=>aF (ZU.mp h) fun l' h2 h3=>h3▸eR h1▸ZV _ (ints_get h2)
theorem bB.ints:∀ {l:List Int} {xs:List Value},bB D ρ (l.map V.int) xs->∀ y∈xs,∃ i t,y=Value.int i t
 |[],[],_,_,h=>by contradiction
 |i::l,x::xs,h,y,hy=>by
  rcases ZS.mp hy with rfl | hy
  ·refine df h.1 fun t qz1=>?_;clear h;clear hy;refine qz1▸?_;exact uS i t rfl
  ·exact bB.ints h.2 y hy
 |[],_::_,h,_,_=>h.elim
 |_::_,[],h,_,_=>h.elim
noncomputable def Em(x:Int):Value->Bool
 |.int i _=>i==x
 |_=>false
theorem oJ{t:Tok}(h:∀ y∈xs,∃ i t,y=Value.int i t):∀ y∈xs,MeetsSeq.EqGives y (.int x t) (Em x y):=fun y hy=>by
 refine nz (h y hy) fun i u qz3=>?_;clear hy;refine qz3▸?_
 exact MeetsSeq.EqGives.int i x u t
theorem mw:∀ {l:List Int} {xs:List Value} {j:Nat},bB D ρ (l.map V.int) xs->kQ x l=some j->∃ hj:j<xs.length,Em x xs[j]=true/\∀ m (hm:m<xs.length),m<j->Em x xs[m]=false
 |[],[],j,_,h=>a9 h
 |i::l,y::xs,j,hr,h=>df hr.1 fun t e=>e▸(by
  by_cases e:(i==x)=true
  ·exact Z9 ((if_pos e).symm.trans h)▸⟨Nat.succ_pos _,e,fun m hm hl=>absurd hl (YX _)⟩
  ·refine aF (ZU.mp ((if_neg e).symm.trans h)) fun n q e'=>e'▸(mw hr.2 q).elim fun h1 h2=>⟨Nat.succ_lt_succ h1,h2.1,fun m hm hl=>?_⟩
   cases m with
   |zero=>exact Bool.eq_false_iff.mpr e
   |succ m=>exact h2.2 m (YQ hm) (YQ hl))
 |[],_::_,_,h,_=>h.elim
 |_::_,[],_,h,_=>h.elim
theorem mq:∀ {l:List Int} {xs:List Value},bB D ρ (l.map V.int) xs->kQ x l=none->∀ y∈xs,Em x y=false
 |[],[],_,_,y,hy=>absurd hy YJ
 |i::l,y::xs,hr,h,z,hz=>df hr.1 fun t e=>(by
  by_cases q:(i==x)=true
  ·exact nomatch (if_pos q).symm.trans h
  ·exact(ZS.mp hz).elim (fun hz=>hz▸e▸Bool.eq_false_iff.mpr q) fun hz=>mq hr.2 (Option.map_eq_none_iff.mp ((if_neg q).symm.trans h)) z hz)
 |[],_::_,h,_,_,_=>h.elim
 |_::_,[],h,_,_,_=>h.elim
theorem mu(h:vs.getLast? = some v):vs[vs.length-1]? = some v:=by
 exact(List.getLast?_eq_getElem?)▸h
theorem Tr.ph{o:O}:∀ {t:Tr},t.get k=some o->t.set k o=t
 |.nil,_=>rfl
 |.node j x r,h=>by
  dsimp only[Tr.get] at h
  dsimp only[Tr.set]
  refine lQ (Nat.beq j k) (fun q=>?_) fun q=>?_
  ·rw[q] at h;exact ZV (Tr.node j x) (Tr.ph h)
  ·rw[q] at h;exact Z9 h▸rfl
theorem ph{o:O}(h:J.t.get k=some o):(⟨J.n,J.t.set k o,J.fz⟩:aq)=J:=ZV (fun t=>aq.mk J.n t J.fz) (Tr.ph h)
theorem W.FC{α β:Type}{P:List Addr->β->α->Prop}{t:List Value->Sem α}{f:V->M β}(hv:bB D ρ vs xs)(h:∀ v x,VR D ρ v x->W D Y ρ J Z (t [x]) P (f v J Z)):W D Y ρ J Z (t xs) P (one vs f J Z):=by
 cases vs with
 |nil=>exact W.bad
 |cons v r=>
  cases r with
  |cons _ _=>exact W.bad
  |nil=>
   cases xs with
   |nil=>exact hv.elim
   |cons x xs=>cases xs with
    |cons _ _=>exact hv.2.elim
    |nil=>exact h v x hv.1
theorem W.one{t:List Value->Sem Value}{f:V->M V}(hv:bB D ρ vs xs)(h:∀ v x,VR D ρ v x->W D Y ρ J Z (t [x]) (VR D) (f v J Z)):W D Y ρ J Z (t xs) (VR D) (one vs f J Z):=W.FC (t:=t) hv h
theorem W.zero{t:List Value->Sem Value}{f:M V}(hv:bB D ρ vs xs)(h:W D Y ρ J Z (t []) (VR D) (f J Z)):W D Y ρ J Z (t xs) (VR D) (zero vs f J Z):=by
 cases vs with
 |cons _ _=>exact W.bad
 |nil=>
  cases xs with
  |nil=>exact h
  |cons _ _=>exact hv.elim
section
variable {k:Nat}{a:Addr}{ys vs:List V}{xs:List Value}
theorem Ae{items:Array Value}{n j:Nat}{y:Value}(S:St D Y ρ J Z s)(ho:J.t.get k=some (.list ys))(hk:ρ[k]? = some a)(l1:IsL s.heap a items n)(r1:bB D ρ ys items.toList)(hle:ys.length<=10000)(h:j<items.size)(hvy:VR D ρ v y) :
  Out D Y ρ (VR D) v ⟨J.n,J.t.set k (.list (fx j ys)),J.fz⟩ Z y {s with heap:=s.heap.update a (Obj.mapSeq fun xs=>xs.eraseIdxIfInBounds j)}:=
 jO S ho hk l1 (by rw[jA _ _ h];exact r1.fx j) (ZD (nE j ys) hle) hvy
theorem W.wQ(ho:J.t.get k=some (.list ys))(hk:ρ[k]? = some a)(hv:bB D ρ vs xs):W D Y ρ J Z (call (.builtin "list.append") (.ref a::xs)) (VR D) (En .append k ys vs J Z):=
 W.one (t:=fun xs=>call (.builtin "list.append") (.ref a::xs)) hv fun v x hx=>W.ite (fun hb=>fun s S=>by
  haveI hb:=cU hb
  obtain⟨items,n,l1,r1,hle,z1⟩:=S.list ho hk
  exact Xb F.slot_list_append (aY _ l1 rfl) F.entry_list_append (F.args_list_append_2 _ _) (list_append a items n x (by rw[z1];exact dg hle))
   ⟨l1,jO S ho hk l1 (by rw[Array.toList_push];exact r1.append ⟨hx,trivial⟩) (by rw[ZI];exact hb) rfl⟩) fun zz=>W.bad
theorem W.yE(ho:J.t.get k=some (.list ys))(hk:ρ[k]? = some a)(hv:bB D ρ vs xs):W D Y ρ J Z (call (.builtin "list.extend") (.ref a::xs)) (VR D) (En .extend k ys vs J Z):=
 W.one (t:=fun xs=>call (.builtin "list.extend") (.ref a::xs)) hv fun v x hx=>W.az fun j hj=>by
  refine aF (hx.ref hj) fun b hj e=>e▸?_
  refine W.obj fun p hp=>W.az fun zs hz=>W.ite (fun hb=>fun s S=>?_) fun zz=>W.bad
  haveI hb:=cU hb
  obtain⟨i1,n1,l1,r1,_,z1⟩:=S.list ho hk
  obtain⟨i2,n2,l2,r2,_,z2⟩:=S.list (bW hz▸hp) hj
  haveI hle:=ZD (YE hb) (by decide:10000<=sizeLine)
  exact Xb F.slot_list_extend (aY _ l1 rfl) F.entry_list_extend (F.args_list_extend_2 _ _) (AutoSeq1.list_extend_list_list_0 a i1 n1 b i2 n2 (fun q=>nomatch (ZR.mp q).2.symm.trans (show Builtin.List.listTooLong (i1.size+i2.size)=false from z1▸z2▸Zo (XZ.mpr hle))) (z1▸ZD (Zp _ _) hle) (z1▸z2▸YO hle))
   (c9 l1 l2 (jO S ho hk l1 (by rw[Array.toList_append];exact r1.append r2) (ZI▸YE hb) rfl))
theorem W.Ft(ho:J.t.get k=some (.list ys))(hk:ρ[k]? = some a)(hv:bB D ρ vs xs):W D Y ρ J Z (call (.builtin "list.pop") (.ref a::xs)) (VR D) (En .pop k ys vs J Z):=
 W.zero (t:=fun xs=>call (.builtin "list.pop") (.ref a::xs)) hv (W.az fun v q s S=>by
   obtain⟨items,n,l1,r1,hle,z1⟩:=S.list ho hk
   refine aF (r1.get (mu q)) fun y hy hvy=>?_
   haveI hlt:=(ZP.mp (mu q)).1
   haveI hy':items[items.size-1]? = some y:=by rw[z1,<-YS];exact hy
   refine Xb F.slot_list_pop (aY _ l1 rfl) F.entry_list_pop (F.args_list_pop_1 _) (MeetsSeq.list_pop_last a items n y hy' (by rw[z1];exact dg hle))
    ⟨l1,jO S ho hk l1 ?_ (ZD (List.length_dropLast▸Nat.sub_le _ _) hle) hvy⟩
   rw[jA _ _ (by rw[z1];exact hlt),z1,Nat.sub_add_cancel (Nat.zero_lt_of_lt hlt),WV (Yk▸z1▸ZE _),ZT,List.dropLast_eq_take]
   exact r1.take _)
theorem W.AD(ho:J.t.get k=some (.list ys))(hk:ρ[k]? = some a)(hv:bB D ρ vs xs):W D Y ρ J Z (call (.builtin "list.clear") (.ref a::xs)) (VR D) (En .clear k ys vs J Z):=
 W.zero (t:=fun xs=>call (.builtin "list.clear") (.ref a::xs)) hv fun s S=>by
  obtain⟨items,n,l1,r1,hle,z1⟩:=S.list ho hk
  exact Xb F.slot_list_clear (aY _ l1 rfl) F.entry_list_clear (F.args_list_clear_1 _) (AutoSeq1.list_clear_list_0 a items n (z1▸(dg hle))) ⟨l1,jO S ho hk l1 trivial (by simp) rfl⟩
theorem W.zG(ho:J.t.get k=some (.list ys))(hk:ρ[k]? = some a)(hv:bB D ρ vs xs)(hA:Y.A.handled=none):W D Y ρ J Z (call (.builtin "list.remove") (.ref a::xs)) (VR D) (En .remove k ys vs J Z):=
 W.one (t:=fun xs=>call (.builtin "list.remove") (.ref a::xs)) hv fun v x hx=>W.az fun i hi=>W.az fun l hl=>by
  refine df (hx.int hi) fun t qz6=>?_;clear hx;refine qz6▸?_
  obtain rfl:=ints_get hl
  refine bI (kQ i l) (fun q2=>?_) fun j q2=>?_
  ·intro s S
   obtain⟨items,n,l1,r1,hle,z1⟩:=S.list ho hk
   haveI h3:=mq r1 q2
   exact Xb F.slot_list_remove (aY _ l1 rfl) F.entry_list_remove (F.args_list_remove_2 _ _)
    (MeetsSeq.list_remove_none a items n (.int i t) (Em i) (fun y hy=>oJ r1.ints y (by simpa using hy)) (fun m hm=>h3 _ (by simp)))
    (c9 l1 hA (fun h' tk e hx=>uD S hx))
  ·intro s S
   obtain⟨items,n,l1,r1,hle,z1⟩:=S.list ho hk
   obtain⟨h1,h2,h3⟩:=mw r1 q2
   haveI h1':j<items.size:=by simpa using h1
   exact Xb F.slot_list_remove (aY _ l1 rfl) F.entry_list_remove (F.args_list_remove_2 _ _)
    (MeetsSeq.list_remove a items n (.int i t) (Em i) (fun y hy=>oJ r1.ints y (by simpa using hy)) j h1' (by simpa using h2) (fun m hm hl=>by haveI:=h3 m (hm) hl;rwa [Array.getElem_toList] at this) (z1▸(dg hle)))
    ⟨l1,Ae S ho hk l1 r1 hle h1' rfl⟩
theorem W.FN{zs:List Int}(ho:J.t.get k=some (.set zs))(hk:ρ[k]? = some a)(hv:bB D ρ vs xs):W D Y ρ J Z (call (.builtin "set.add") (.ref a::xs)) (VR D) (H4 .add k zs vs J Z):=
 W.one (t:=fun xs=>call (.builtin "set.add") (.ref a::xs)) hv fun v x hx=>W.az fun i hi=>by
  refine df (hx.int hi) fun t qz1=>?_;clear hx;subst qz1
  refine W.ite (fun hc=>fun s S=>?_) fun hc=>W.ite (fun hb=>fun s S=>?_) fun zz=>W.bad
  ·obtain⟨d1,hle⟩:=S.set ho hk
   refine call_set_add (XD D.prog D.w i t) rfl d1 (by show _<4096;exact om [_] [(.v 0,.n 1000)] (.s (.s (.v 0)),.n 4096) rfl hle) fun h' hs hd=>⟨[],rfl,?_⟩
   rw[ZT]
   refine Hw hd fun x es ep tb g1 g2 g3 g4 g5 g6 g7 g8=>?_;clear hd
   haveI:=S.upd (o:=.set zs) hk hs g1 (GA es ep tb g2 g3 g4 (fun k=>?_) g6 g7 ?_ hle) (.inl fun es e=>by rw[ho] at e;have h__:=Z9 e;cases h__)
   ·rw[ph ho] at this
    exact this.toks _
   ·rw[<-g5 k]
    by_cases e:k=i
    ·clear g5;clear g8;rw[e];rw[hc];simp
    ·simp[e]
   ·rw[g8,if_pos hc]
  ·refine bU (S.set ho hk) fun d1 hle=>?_
   haveI hb:=cU hb
   refine call_set_add (XD D.prog D.w i t) rfl d1 (by show _<4096;exact ZG hb (ZQ (Nat.succ 1000) 3095)) fun h' hs hd=>⟨[],rfl,?_⟩
   rw[ZT]
   refine Hw hd fun x es ep tb g1 g2 g3 g4 g5 g6 g7 g8=>?_;clear hd
   refine(S.upd (o:=.set (zs++[i])) hk hs g1 (GA es ep tb g2 g3 g4 (fun k=>?_) g6 g7 ?_ ?_) (.inl fun es e=>by rw[ho] at e;have h__:=Z9 e;cases h__)).toks _
   ·rw[<-g5 k]
    simp
   ·rw[g8,if_neg hc];simp
   ·rw[ZI];exact hb
theorem fP.at{kvs:List (Int×Value)}(h:fP D ρ es kvs)(i:Int){d:V}{y:Value}(hd:VR D ρ d y):VR D ρ ((es.lookup i).getD d) ((valueAt kvs i).getD y):=by
 haveI:=h.look i
 refine bI (es.lookup i) (fun q=>?_) fun v q=>?_
 ·replace this:=q▸this;exact this▸hd
 ·rw[q] at this;refine aF this fun z h1 h2=>?_;clear this;exact h1▸h2
theorem W.F0(B:aV D Y)(ho:J.t.get k=some (.dict es))(hk:ρ[k]? = some a)(hv:bB D ρ vs xs):W D Y ρ J Z (call (.builtin "dict.get") (.ref a::xs)) (VR D) (HK .get k es vs J Z):=by
 cases vs with
 |nil=>exact W.bad
 |cons w r=>
  cases xs with
  |nil=>exact hv.elim
  |cons x xs=>
   refine W.az fun i hi=>?_
   obtain⟨hw,hv⟩:=hv
   refine df (hw.int hi) fun t qz3=>?_;clear hw;refine qz3▸?_
   cases r with
   |nil=>
    cases xs with
    |cons _ _=>exact hv.elim
    |nil=>
     intro s S
     obtain⟨kvs,d1,d2,_⟩:=S.dict ho hk
     exact call_meetsIn F.slot_dict_get d1.typeIs F.entry_dict_get (F.args_dict_get_2 _ _) (meets_dict_get (intKind D.prog D.w) a (XD D.prog D.w i t) (S.noSys B hk)) (aY _ d1.mapOf (bp S _ (d2.at i rfl)))
   |cons d r=>
    cases xs with
    |nil=>exact hv.elim
    |cons y xs=>
     refine W.zero (t:=fun xs=>call (.builtin "dict.get") (.ref a::.int i t::y::xs)) hv.2 fun s S=>?_
     obtain⟨kvs,d1,d2,_⟩:=S.dict ho hk
     exact call_meetsIn F.slot_dict_get d1.typeIs F.entry_dict_get (F.args_dict_get_3 _ _ _) (meets_dict_get_default (intKind D.prog D.w) a (XD D.prog D.w i t) (S.noSys B hk) y) (aY _ d1.mapOf (bp S _ (d2.at i hv.1)))
theorem W.xy(B:aV D Y)(ho:J.t.get k=some (.dict es))(hk:ρ[k]? = some a)(hv:bB D ρ vs xs):W D Y ρ J Z (call (.builtin "dict.values") (.ref a::xs)) (VR D) (HK .values k es vs J Z):=
 W.zero (t:=fun xs=>call (.builtin "dict.values") (.ref a::xs)) hv fun s S=>by
  obtain⟨kvs,d1,d2,_⟩:=S.dict ho hk
  exact call_meetsIn F.slot_dict_values d1.typeIs F.entry_dict_values (F.args_dict_values_1 _) (meets_dict_values (intKind D.prog D.w) a (S.noSys B hk)) ⟨⟨kvs,d1⟩,dS S (aY a (get_append hk) rfl) rfl⟩
theorem W.me(B:aV D Y){m:Me}(hk:ρ[k]? = some a)(hv:bB D ρ vs xs)(hrem:m = .remove->Y.A.handled=none) :
  W D Y ρ J Z (call (.builtin (zL m)) (.ref a::xs)) (VR D) (Cm m k vs J Z):=by
 refine W.obj fun o ho=>?_
 haveI hL:∀ {r:M V} {f:List V->M V},r=Mine.az (dp o) f->(∀ ys,J.t.get k=some (.list ys)->W D Y ρ J Z (call (.builtin (zL m)) (.ref a::xs)) (VR D) (f ys J Z))->W D Y ρ J Z (call (.builtin (zL m)) (.ref a::xs)) (VR D) (r J Z):=fun e h=>by
  rw[e];exact W.az fun ys hy=>h ys (by rw[ho,bW hy])
 cases m with
 |append=>exact hL rfl fun ys ho=>W.wQ ho hk hv
 |extend=>exact hL rfl fun ys ho=>W.yE ho hk hv
 |pop=>exact hL rfl fun ys ho=>W.Ft ho hk hv
 |clear=>exact hL rfl fun ys ho=>W.AD ho hk hv
 |remove=>exact hL rfl fun ys ho=>W.zG ho hk hv (hrem rfl)
 |get=>exact W.az fun ys hy=>W.F0 B (by rw[ho,eT hy]) hk hv
 |values=>exact W.az fun ys hy=>W.xy B (by rw[ho,eT hy]) hk hv
 |add=>exact W.az fun ys hy=>W.FN (by rw[ho,yO hy]) hk hv
end
end
end
section
variable {D:Wd}{Y:Gm}{ρ:List Addr}{J:aq}{Z:List V}{s:Shared}
theorem BD(m:Me):PlainAttrs (Be m)/\Slot (Be m) (sI m) (zL m)/\typeOf (.builtin (zL m))=pure (.type "method_descriptor"):=by
 cases m
 ·exact c9 Xr F.slot_list_append F.type_list_append
 ·exact c9 Xr F.slot_list_extend F.type_list_extend
 ·exact c9 Xr F.slot_list_pop F.type_list_pop
 ·exact c9 Xr F.slot_list_clear F.type_list_clear
 ·exact c9 Xr F.slot_list_remove F.type_list_remove
 ·exact c9 F.plainAttrs_dict F.slot_dict_get F.type_dict_get
 ·exact c9 F.plainAttrs_dict F.slot_dict_values F.type_dict_values
 ·exact c9 F.plainAttrs_set F.slot_set_add F.type_set_add
theorem fS{M:Model}{A:Around}{E:Value->Shared->Prop}{f:Value}{ts:List (Bool×Sem Value)}{Q:Args->Shared->Prop}(hs:ts.any (·.1)=false)(h:wpAny M A (spliced ts) (fun vs s'=>Q ⟨vs,[]⟩ s') E s) :
  wpAny M A (evalArgs f true ts []) Q E s:=by
 cases ts with
 |nil=>
  skip
  refine Z8 (ZO h (fun vs s' h'=>?_) fun zz zz x=>x)
  refine Zw ?_
  exact Z8 (ZW (Z8 (ZW (ZW h'))))
 |cons x r=>
  obtain⟨b,t⟩:=x
  cases b with
  |true=>simp at hs
  |false=>exact Calls.evalArgs_plain h
theorem yu{m:Me}{o:O}{x:Obj}(h:ur m o=true)(ho:OR D ρ o x):x.cls = .type (Be m)/\x.dict=none:=by
 haveI h:=Zr h
 haveI ty:∀ n,p7 m=n->Be m=match n with | 0=> "list" | 1=> "dict" | _=> "set":=fun n e=>by subst e;clear h;cases m<;>rfl
 haveI lt:p7 m<3:=by clear h;clear ty;cases m<;>decide
 have t:=ty _ h
 replace lt:=h▸lt
 clear h;cases o with
 |list xs=>obtain⟨_,_,rfl,_⟩:=ho;exact⟨by rw[t];rfl,rfl⟩
 |dict es=>refine aF ho fun zz qz1 zz=>?_;clear ho;obtain⟨_,_,e,_⟩:=qz1;exact⟨by rw[t];exact e.1,e.2.1⟩
 |set es=>refine g9 ho fun zz zz zz e zz=>?_;clear ho;exact⟨by rw[t];exact e.1,e.2.1⟩
 |_=>exact absurd lt (XF 3)
structure yw(Y:Gm)(o:Expr)(name:Str)(apos pos:Pos)(args:List Expr):Prop where
 base:attributeBase o name Y.env (eval o Y.env)=eval o Y.env
 EK:methodCallForm (args.length+([]:List Keyword).length) (backTo pos (starEach args Y.env)) (backToKw pos (keywordEach [] Y.env))=true
 line:(apos.endLine==pos.line)=true
 star:(backTo pos (starEach args Y.env)).any (·.1)=false
theorem aw.met(B:aV D Y){o:Expr}{name:Str}{apos pos:Pos}{args:List Expr}{m:Me}{x:M V}{y:M (List V)}(K:yw Y o name apos pos args)(hn:name=sI m){hd:Nat}(hh:Md Y hd)(ho:aw D Y (eval o Y.env) (VR D) x)(ha:aw D Y (spliced (backTo pos (starEach args Y.env))) (bB D) y) :
  aw D Y (eval (.Call (.Attribute o name apos) args [] pos) Y.env) (VR D) (.bind x fun a=>az (refOf a) fun k=>.bind (.obj k) fun o=>if ur m o&&Dc hd m then .bind y fun vs=>Cm m k vs else .bad):=fun ρ J Z=>by
 subst hn
 rw[arm_eval_Call,K.base]
 refine(ho ρ J Z).bind fun ρ1 a J1 Z1 xa zz hv=>W.bj (W.az fun k hk=>?_)
 refine aF (hv.ref hk) fun ak hk qz3=>?_;clear hv;refine qz3▸?_
 refine W.obj fun ob ho'=>W.ite (fun hm=>?_) fun zz=>W.bad
 rw[ZJ] at hm
 obtain⟨hm,hm2⟩:=hm
 haveI hrem:m = .remove->Y.A.handled=none:=by
  rintro rfl
  haveI:hd=0:=Zr hm2
  clear hm2;subst this
  exact hh
 refine W.nest (ha _ _ _) (fun ρ2 vs J2 Z2 xs zz hv=>W.me B (get_append hk) hv hrem) fun s Q E S hq=>?_
 refine aF (S.dN ho' hk) fun z h2 h3=>?_
 refine bU (yu hm h3) fun c1 c2=>?_
 refine gm (BD m) fun f1 f2 f3=>?_
 dsimp only[methodCall]
 refine K.EK▸?_
 refine Z8 (Zw (getMethod_builtin (aY z h2 c1) f1 f2 f3 (fun a e=>by obtain rfl:=XC e;exact aY z h2 c2) ?_))
 haveI hpos:methodCallPos true o Y.env apos pos=pure pos:=by unfold methodCallPos;rw[K.line];rfl
 exact Z8 (XQ hpos (XX K.star (fS K.star hq)))
end
section
variable {A:Around}{c:Nat}{a:V}{e:Value}{E:Value->Shared->Prop}
section
variable {D:Wd}{Y:Gm}{ρ:List Addr}{J:aq}{Z:List V}{s:Shared}
structure jY(Y:Gm):Prop where
 around:∃ outer,Y.A.frames=some (Y.env::outer)/\∀ e∈outer,e.scope.kind≠.module/\∃ p∈Y.fr,e.frame=some p.1
 own:Y.env.frame=some Y.env.locals
theorem yc{h h':Heap}{a:Addr}{m:Str->Option Value}{S:List Addr}(x:Heap.SlotsOnly S h h')(hn:h.Ns a m):h'.Ns a m:=by
 refine zQ hn fun o es ep ho hd r=>?_;clear hn
 refine df (x.2.2 a o ho) fun sl e=>?_
 exact zd _ es ep e hd r
theorem ft(a:Addr):(default:Heap).get? a=none:=Heap.get?_none_of_le (by show(default:Heap).objs.size<=a;exact XU _)
theorem l6{h:Heap}{a:Addr}{m:Str->Option Value}(hn:h.Ns a m):∃ o,h.get? a=some o/\∀ vs,o.data≠.fields vs:=by
 refine zQ hn fun o es ep ho hd zz=>?_;clear hn
 exact aY o ho (fun vs e=>by replace e:=(hd).symm.trans e;exact PySem.Data.noConfusion e)
theorem St.vk(B:aV D Y)(R:jY Y)(S:St D Y ρ J Z s){outer:List Env}(ho:∀ e∈outer,e.scope.kind≠.module/\∃ p∈Y.fr,e.frame=some p.1) :
  s.heap.FunFrames default (Y.env::outer)/\∀ b∈(Y.env::outer).filterMap (·.frame),b∉ρ/\b∈Y.own ρ:=by
 have h1:=(ZN.mp S.nd).1
 have h2:=(Zl.mp (ZN.mp S.nd).2).2.2
 haveI key:∀ l:List Env,(∀ e∈l,e.scope.kind≠.module/\∃ p∈Y.fr,e.frame=some p.1)->s.heap.FunFrames default l/\∀ b∈l.filterMap (·.frame),b∉ρ/\b∈Y.own ρ:=by
  intro l
  induction l with
  |nil=>intro _;exact⟨trivial,fun b hb=>by simp at hb⟩
  |cons e r ih=>
   intro hl
   refine bU (ih fun e' he'=>hl e' (ZY _ he')) fun g1 g2=>?_
   obtain⟨k1,p,hp,k2⟩:=hl e ZX
   refine aF (l6 (S.dU p hp)) fun o ho hd=>?_
   refine⟨⟨k1,⟨p.1,o,k2,ft _,ho,hd⟩,g1⟩,fun b hb=>?_⟩
   rw[Xh,k2] at hb
   rcases ZS.mp hb with rfl | hb
   ·exact⟨fun hm=>h2 _ (Y8 hp) _ hm rfl,r8 hp⟩
   ·exact g2 b hb
 refine bU (key outer ho) fun g1 g2=>?_
 refine aF S.loc fun m hn zz=>?_
 refine aF (l6 hn) fun o ho hd=>?_
 refine⟨⟨by refine B.kind▸?_;decide,⟨_,o,R.own,ft _,ho,hd⟩,g1⟩,fun b hb=>?_⟩
 rw[Xh,R.own] at hb
 rcases ZS.mp hb with rfl | hb
 ·exact⟨fun hm=>h1 (ZM _ hm),ZX⟩
 ·exact g2 b hb
theorem St.slots{S':List Addr}{h':Heap}(S:St D Y ρ J Z s)(hs:∀ b∈S',b∉ρ/\b∈Y.own ρ)(x:Heap.SlotsOnly S' s.heap h'):St D Y ρ J Z {s with heap:=h'}:=by
 refine S.heap (fun a o h e=>?_) (fun a m zz e=>yc x e) rfl S.gen
 refine(x.2.1 a fun hm=>?_).trans e
 rcases h with h | h
 ·exact(hs a hm).1 h
 ·replace h:=(S.ap a (hs a hm).2).symm.trans h;contradiction
theorem St.note{Q:Unit->Shared->Prop}(B:aV D Y)(R:jY Y)(hA:A.frames=Y.A.frames)(S:St D Y ρ J Z s)(X:XR D Y ρ c a e s)(h:∀ s',St D Y ρ J Z s'->XT D Y ρ c a e s'->Q () s'):wpAny (model D.prog D.w) A (noteFrame e Y.env) Q E s:=by
 refine aF R.around fun outer hfr hout=>?_
 replace hfr:=(hA).trans hfr
 obtain⟨x,T,rfl,o,vs,x1,x2,x3,x4,x5,x6,x7,x8,x9⟩:=X
 have entry:∀ (s₁:Shared) (head:Value) (hadNext:Bool),St D Y ρ J Z s₁->s₁.heap.get? x=some o->
   wpAny (model D.prog D.w) A (do let a <-frameOf Y.env;let pl <-entryPlaceOf Y.env.locals hadNext;let b <-EntryCells.newEntry head a .none (rawInt Y.env.locals) .none pl;setField (.ref x) 1 b) Q E s₁:=by
  intro s₁ head hadNext S₁ hx₁
  refine bU (S₁.vk B R hout) fun f1 f2=>?_
  refine Z8 (wpAny_frameOf_fun hfr f1 R.own fun h₁ hs₁=>?_)
  haveI S₂:=S₁.slots f2 hs₁
  have hx₂:=(hs₁.2.1 x fun hm=>x5 (f2 x hm).2).trans hx₁
  refine Z8 (wpAny_entryPlaceOf fun pl hpl=>?_)
  skip
  refine Z8 (YI ?_ (hpl.sizeOk5 _ _ _ _ _))
  haveI hx₃:=Zq {cls:=.type "traceback",dict:=none,data:=.fields ([head,.ref Y.env.locals,.none,rawInt Y.env.locals,.none]++(if pl.isEmpty then List.replicate 6 Value.none else pl)).toArray} hx₂
  refine Xp hx₃ x3 (by omega) ?_
  haveI hT:=Yw (YG hx₂)
  haveI hd:=W9 x3 (·.setIfInBounds 1 (Value.ref h₁.objs.size))
  haveI S₃:=S₂.tH {cls:=.type "traceback",dict:=none,data:=.fields ([head,.ref Y.env.locals,.none,rawInt Y.env.locals,.none]++(if pl.isEmpty then List.replicate 6 Value.none else pl)).toArray}
  refine h _ (S₃.other (YB ..) x5 x6) ?_
  refine⟨x,h₁.objs.size,rfl,_,_,Yh _ hx₃ (Xu hd),(Obj.cls_mapFields _ _).trans x2,hd,by simpa using x4,x5,x6,?_,fun hc=>?_,?_,hT,S₂.fresh,S₂.dM,_,([head,.ref Y.env.locals,.none,rawInt Y.env.locals,.none]++(if pl.isEmpty then List.replicate 6 Value.none else pl)).toArray,(WU _ _ (Ne.symm hT)).trans (Zu h₁ rfl),rfl,?_⟩
  ·clear x9;rcases x7 with q | ⟨y,q1,q2⟩
   ·exact .inl q
   ·exact .inr (aY y (by refine(Zv (by decide)).trans ?_;exact q1) q2)
  ·refine(Zv (by decide)).trans ?_;exact x8 hc
  ·exact YZ (by omega)
  ·rw[List.size_toArray,ZI]
   exact ZD (by decide) (Zp 5 _)
 dsimp only[noteFrame]
 rw[R.own]
 cases T with
 |none=>
  refine Z8 (X9 x1 x3 x9 ?_)
  exact entry s .none _ S x1
 |some T=>
  obtain⟨y1,y2,y3,y4,oT,ts,y5,y6,y7⟩:=x9
  refine Z8 (X9 x1 x3 y1 ?_)
  obtain⟨z,hz⟩:∃ z,ts[3]? = some z:=⟨ts[3]'(by omega),Yi (by omega)⟩
  refine Z8 (X9 y5 y6 hz ?_)
  by_cases q:(z==rawInt Y.env.locals)=true
  ·rw[if_pos q]
   exact ZW (h s S ⟨x,T,rfl,o,vs,x1,x2,x3,x4,x5,x6,x7,x8,y1,y2,y3,y4,oT,ts,y5,y6,y7⟩)
  ·rw[if_neg q]
   refine Z8 (Xp y5 y6 (by assumption) ?_)
   exact entry _ _ _ (S.other (YB ..) y3 y4) ((WU _ _ y2).trans x1)
theorem St.fA{f:Option Addr}{Q:Unit->Shared->Prop}(S:St D Y ρ J Z s)(X:XT D Y ρ c a e s)(h:∀ s',St D Y ρ J Z s'->XT D Y ρ c a e s'->Q () s'):wpAny (model D.prog D.w) A (setFlight e f) Q E s:=by
 obtain⟨x,T,rfl,o,vs,x1,x2,x3,x4,x5,x6,x7,x8,y1,y2,y3,y4,oT,ts,y5,y6,y7⟩:=X
 skip
 refine Z8 (X9 x1 x3 y1 ?_)
 refine Xp y5 y6 (by assumption) (h _ (S.other (YB ..) y3 y4) ?_)
 haveI hd:=W9 y6 (·.setIfInBounds 3 (f.elim Value.none fun f=>rawInt f))
 exact⟨x,T,rfl,o,vs,(WU _ _ y2).trans x1,x2,x3,x4,x5,x6,x7,x8,y1,y2,y3,y4,_,_,Yh _ y5 (Xu hd),hd,by simpa using y7⟩
theorem St.back(S:St D Y ρ J Z s)(X:XT D Y ρ c a e s)(h:∀ s',St D Y ρ J Z s'->XT D Y ρ c a e s'->E e s'):cameBackBy (model D.prog D.w) A Y.env E e s:=by
 obtain⟨x,T,rfl,o,vs,x1,x2,x3,x4,x5,x6,x7,x8,y1,y'⟩:=id X
 dsimp only[cameBackBy]
 refine Z8 (X9 x1 x3 y1 ?_)
 exact S.fA X fun s' S' X'=>h s' S' X'
theorem St.passOn{α:Type}{what:String}{Q:α->Shared->Prop}(S:St D Y ρ J Z s)(X:XT D Y ρ c a e s)(h:∀ s',St D Y ρ J Z s'->XT D Y ρ c a e s'->E e s'):wpAny (model D.prog D.w) A (passOn what e Y.env:Sem α) Q E s:=by
 obtain⟨x,T,rfl,o,vs,x1,x2,x3,x4,x5,x6,x7,x8,y1,y'⟩:=id X
 unfold PySem.passOn
 refine Z8 (X9 x1 x3 y1 ?_)
 rw[if_neg (by simp)]
 exact Z8 (S.fA X fun s' S' X'=>W4 (h s' S' X'))
end
end
section
variable {α β:Type}{y:M Fl}{p:Pos}{E:Value->Shared->Prop}
section
variable {D:Wd}{Y:Gm}{ρ:List Addr}{J:aq}{Z:List V}{s:Shared}
noncomputable def bX(D:Wd)(ρ:List Addr):Fl->Flow->Prop
 |.next,f=>f = .next
 |.brk,f=>f = .brk
 |.cont,f=>f = .cont
 |.ret v,f=>∃ y,f = .ret y/\VR D ρ v y
noncomputable def Un(_:List Addr)(_:Unit)(_:Unit):Prop:=True
section
variable {α β:Type}{P:List Addr->β->α->Prop}{t:Sem α}{r:Rs β}
noncomputable def QR(D:Wd)(Y:Gm)(ρ:List Addr)(P:List Addr->β->α->Prop)(r:Rs β)(a:α)(s:Shared):Prop:=match r with
 |.ok b J Z=>Out D Y ρ P b J Z a s
 |_=>False
noncomputable def ER(D:Wd)(Y:Gm)(ρ:List Addr)(r:Rs β)(e:Value)(s:Shared):Prop:=match r with
 |.exc c a J Z=>Exc D Y ρ c a J Z e s
 |_=>False
theorem W.to(h:W D Y ρ J Z t P r)(S:St D Y ρ J Z s)(hb:r≠.bad):wpAny (model D.prog D.w) Y.A t (QR D Y ρ P r) (ER D Y ρ r) s:=by
 haveI:=h s S
 clear h;cases r with
 |bad=>exact absurd rfl hb
 |ok b J' Z'=>exact ZO this (fun zz zz q=>q) fun zz zz q=>q.elim
 |exc c a J' Z'=>exact ZO this (fun zz zz q=>q.elim) fun zz zz q=>q
theorem W.of(h:∀ s,St D Y ρ J Z s->r≠.bad->wpAny (model D.prog D.w) Y.A t (QR D Y ρ P r) (ER D Y ρ r) s):W D Y ρ J Z t P r:=by
 intro s S
 cases r with
 |bad=>trivial
 |ok b J' Z'=>exact ZO (h s S (by intro q;contradiction)) (fun zz zz q=>q) fun zz zz q=>q.elim
 |exc c a J' Z'=>exact ZO (h s S (by intro q;contradiction)) (fun zz zz q=>q.elim) fun zz zz q=>q
theorem QR.wide{ρ':List Addr}{a:α}(h:QR D Y (ρ++ρ') P r a s):QR D Y ρ P r a s:=by
 cases r with
 |ok b J' Z'=>obtain⟨ρ2,h1,h2⟩:=h;exact⟨ρ'++ρ2,by rw[<-ZZ];exact h1,by rw[<-ZZ];exact h2⟩
 |exc c a J' Z'=>exact h.elim
 |bad=>exact h.elim
theorem ER.wide{ρ':List Addr}{e:Value}(h:ER D Y (ρ++ρ') r e s):ER D Y ρ r e s:=by
 cases r with
 |ok b J' Z'=>exact h.elim
 |exc c a J' Z'=>obtain⟨ρ2,h1,h2⟩:=h;exact⟨ρ'++ρ2,by rw[<-ZZ];exact h1,by rw[<-ZZ];exact h2⟩
 |bad=>exact h.elim
theorem ER.through{A A':Around}{e:Value}(B:aV D Y)(R:jY Y)(hA:A.frames=Y.A.frames)(h:ER D Y ρ r e s)(hE:∀ s',ER D Y ρ r e s'->E e s'):notedBy (model D.prog D.w) A Y.env (cameBackBy (model D.prog D.w) A' Y.env E) e s:=by
 cases r with
 |ok b J' Z'=>exact h.elim
 |bad=>exact h.elim
 |exc c a J' Z'=>
  obtain⟨ρ',X,S⟩:=h
  exact S.note B R hA X fun s1 S1 X1=>S1.back X1 fun s2 S2 X2=>hE s2 ⟨ρ',X2.xr,S2⟩
end
theorem W.step{γ:Type}{P:List Addr->β->α->Prop}{t:Sem α}{x:M β}{k:β->M γ}{r:Rs γ}{Q:α->Shared->Prop}(h:W D Y ρ J Z t P (x J Z))(S:St D Y ρ J Z s)(e:M.bind x k J Z=r)(hb:r≠.bad)(ok:∀ ρ' b J' Z' a s',P (ρ++ρ') b a->St D Y (ρ++ρ') J' Z' s'->k b J' Z'=r->Q a s')(ex:∀ v s',ER D Y ρ r v s'->E v s'):wpAny (model D.prog D.w) Y.A t Q E s:=by
 haveI h1:=h s S
 unfold M.bind at e
 refine pf (x J Z) (fun b J' Z' q=>?_) (fun c a J' Z' q=>?_) fun q=>?_
 ·rw[q] at e h1
  exact ZO h1 (fun a s' z=>let ⟨ρ',h2,h3⟩:=z;ok ρ' b J' Z' a s' h2 h3 e) fun zz zz z=>z.elim
 ·rw[q] at e h1
  exact ZO h1 (fun zz zz z=>z.elim) fun v s' z=>ex v s' (e▸z)
 ·rw[q] at e;exact absurd e.symm hb
theorem W.last{P:List Addr->β->α->Prop}{t:Sem α}{r r':Rs β}{Q:α->Shared->Prop}(h:W D Y ρ J Z t P r')(S:St D Y ρ J Z s)(e:r'=r)(hb:r≠.bad)(ok:∀ a s',QR D Y ρ P r a s'->Q a s')(ex:∀ v s',ER D Y ρ r v s'->E v s') :
  wpAny (model D.prog D.w) Y.A t Q E s:=ZO (h.to S (e▸hb)) (fun a s' z=>ok a s' (e▸z)) fun v s' z=>ex v s' (e▸z)
theorem aw.done:aw D Y (execs [] Y.env) (bX D) (.ret .next):=fun zz zz zz=>W.pure rfl
theorem aw.seq{st:Stmt}{r:List Stmt}{x:M Fl}(h:aw D Y (exec st Y.env) (bX D) x)(hr:aw D Y (execs r Y.env) (bX D) y) :
  aw D Y (execs (st::r) Y.env) (bX D) (.bind x fun f=>match f with | .next=>y | f=>.ret f):=fun ρ J Z=>by
 refine(h ρ J Z).bind fun ρ1 f J1 Z1 g zz hf=>?_
 cases f with
 |next=>obtain rfl:=(hf);exact hr _ _ _
 |brk=>obtain rfl:=hf;exact W.pure rfl
 |cont=>obtain rfl:=hf;exact W.pure rfl
 |ret v=>refine aF hf fun y qz1 hy=>?_;clear hf;subst qz1;exact W.pure (aY y rfl hy)
theorem aw.Ge:aw D Y (exec (.Pass p) Y.env) (bX D) (.ret .next):=fun zz zz zz zz S=>wpAny_Pass (a7 S rfl)
theorem aw.DD:aw D Y (exec (.Break p) Y.env) (bX D) (.ret .brk):=fun ρ J Z=>by
 exact(show exec (.Break p) Y.env=(do standAt p;pure .brk) from rfl)▸(W.bj (W.pure rfl))
theorem aw.uV:aw D Y (exec (.Continue p) Y.env) (bX D) (.ret .cont):=fun ρ J Z=>by
 exact(show exec (.Continue p) Y.env=(do standAt p;pure .cont) from rfl)▸(W.bj (W.pure rfl))
theorem aw.z5{e:Expr}{x:M V}(h:aw D Y (eval e Y.env) (VR D) x):aw D Y (exec (.Return (some e) p) Y.env) (bX D) (.bind x fun a=>.ret (.ret a)):=fun ρ J Z=>by
 exact W.bj ((h ρ J Z).bind fun ρ1 v J1 Z1 y zz hv=>W.pure (aY y rfl hv))
theorem aw.wM:aw D Y (exec (.Return none p) Y.env) (bX D) (.ret (.ret .none)):=fun zz zz zz zz S=>wpAny_Return_none (a7 S (aY _ rfl rfl))
theorem aw.Jj{t:Expr}{b o:List Stmt}{x:M Bool}{z:M Fl}(ht:aw D Y (isTrue t Y.env (eval t Y.env)) jX x)(hb:aw D Y (execs b Y.env) (bX D) y)(ho:aw D Y (execs o Y.env) (bX D) z) :
  aw D Y (exec (.If t b o p) Y.env) (bX D) (.bind x fun c=>match c with | true=>y | false=>z):=fun ρ J Z=>by
 refine W.bj ((ht ρ J Z).bind fun ρ1 c J1 Z1 d zz hc=>?_)
 cases(hc)
 cases c
 ·exact ho _ _ _
 ·exact hb _ _ _
theorem aw.aZ{e:Expr}{x:M V}(h:aw D Y (eval e Y.env) (VR D) x)(hi:interactive Y.env=false)(hs:swapsWith e none p.line Y.env=pure false) :
  aw D Y (exec (.Expr e p) Y.env) (bX D) (.bind x fun zz=>.ret .next):=fun ρ J Z=>by
 rw[exec_Expr Y.env e p hi hs]
 refine W.bj ((h ρ J Z).bind fun ρ1 c J1 Z1 d zz hc=>?_)
 exact fun s S=>wpAny_dropValue (a7 S rfl)
theorem aw.Df(B:aV D Y)(R:jY Y){t:Expr}{b o:List Stmt}{x:M Bool}{z:M Fl}{N:Nat}(ht:aw D Y (isTrue t Y.env (eval t Y.env)) jX x)(hb:aw D Y (execs b Y.env) (bX D) y)(ho:aw D Y (execs o Y.env) (bX D) z):aw D Y (exec (.While t b o p) Y.env) (bX D) (bM x y z N):=fun ρ J Z=>W.of fun s S hbad=>by
 generalize hr:bM x y z N J Z=r at hbad ⊢
 refine wpAny_While ?_
 refine codeAny_whileLoop (fun k s=>∃ ρ' J' Z',St D Y (ρ++ρ') J' Z' s/\bM x y z k J' Z'=r) (fun k s hI=>?_) N (sx [] J Z (by rw[ZT];exact S) hr)
 refine g9 hI fun ρ' J' Z' S' e=>?_;clear hI
 have err:∀ {ρ1:List Addr} v s',ER D Y (ρ++ρ1) r v s'->notedBy (model D.prog D.w) Y.A Y.env (cameBackBy (model D.prog D.w) Y.A Y.env (ER D Y ρ r)) v s':=fun v s' h=>h.through B R rfl fun s2 h2=>h2.wide
 cases k with
 |zero=>exact absurd e.symm hbad
 |succ k=>
  refine(ht _ J' Z').step S' e hbad (fun ρ2 c J2 Z2 d s2 hd S2 e2=>?_) err
  cases(hd)
  rw[ZZ] at S2
  cases c with
  |false=>
   exact(ho _ J2 Z2).last S2 e2 hbad (fun f s3 h=>QR.wide h) err
  |true=>
   dsimp only[if_pos rfl]
   refine(hb _ J2 Z2).step S2 e2 hbad (fun ρ3 f J3 Z3 g s3 hg S3 e3=>?_) err
   rw[ZZ] at S3
   cases f with
   |next=>cases(show g = .next from hg);exact⟨k,Yv _,_,J3,Z3,S3,e3⟩
   |cont=>cases(show g = .cont from hg);exact⟨k,Yv _,_,J3,Z3,S3,e3⟩
   |brk=>cases(show g = .brk from hg);rw[<-e3];exact⟨_,rfl,S3⟩
   |ret v=>refine aF hg fun w qz3 hw=>?_;clear hg;subst qz3;rw[<-e3];exact⟨_,(aY w rfl (by rw[<-ZZ];exact hw)),S3⟩
end
end
section
variable {a:Addr}{f fz:Addr->Option Obj}{A:Around}{Y Y':Gm}{it:It}{es:List (Int×V)}{k i:Nat}{o:Obj}{E:Value->Shared->Prop}
@[reducible] noncomputable def Gm.cT(Y:Gm)(kp fz:Addr->Option Obj):Gm:={Y with kp:=kp,fz:=fz}
@[reducible] noncomputable def Gm.rT(Y:Gm)(kp fz:Addr->Option Obj)(kg:Nat->Option GenState):Gm:={Y with kp:=kp,fz:=fz,kg:=kg}
noncomputable def cZ(f:Addr->Option Obj)(a:Addr)(o:Obj):Addr->Option Obj:=fun b=>if b=a then some o else f b
theorem aP:cZ f a o a=some o:=by simp[cZ]
theorem cG{b:Addr}(h:b≠a):cZ f a o b=f b:=by simp[cZ,h]
theorem a8(h:f a=none):∀ b x,f b=some x->cZ f a o b=some x:=fun b x e=>by
 by_cases q:b=a
 ·subst q;rw[h] at e;contradiction
 ·refine(cG q).trans ?_;exact e
noncomputable def Gm.Le(Y Y':Gm):Prop:=∃ kp fz kg,Y'=Y.rT kp fz kg/\∀ a o,Y.kp a=some o->kp a=some o
theorem Gm.Le.refl(Y:Gm):Y.Le Y:=(sx Y.kp Y.fz Y.kg rfl (fun zz zz h=>h))
theorem Gm.Le.trans{Y'':Gm}(h:Y.Le Y')(h':Y'.Le Y''):Y.Le Y'':=by
 refine g9 h fun kp fz kg qz1 h1=>?_;clear h;subst qz1
 refine g9 h' fun kp' fz' kg' qz3 h2=>?_;clear h';subst qz3
 exact sx kp' fz' kg' rfl (fun a o e=>h2 a o (h1 a o e))
theorem Gm.Le.of{kp:Addr->Option Obj}(h:∀ a o,Y.kp a=some o->kp a=some o):Y.Le (Y.cT kp fz):=(sx kp fz Y.kg rfl h)
theorem aV.le{D:Wd}(B:aV D Y)(h:Y.Le Y'):aV D Y':=by
 refine g9 h fun kp fz kg qz5 h1=>?_;clear h;subst qz5
 exact {glob:=fun hp hk=>B.glob hp fun a o e=>hk a o (h1 a o e),eQ:=fun hp hk=>B.eQ hp fun a o e=>hk a o (h1 a o e),scr:=fun hp hk=>B.scr hp fun a o e=>hk a o (h1 a o e),d5:=B.d5,units:=B.units,depth:=B.depth,qA:=YV.mpr ((YV.mp B.qA).elim fun o ho=>⟨o,h1 _ _ ho⟩),lim:=fun hp hk=>B.lim hp fun a o e=>hk a o (h1 a o e),ge:=B.ge,kind:=B.kind,names:=B.names,plain:=B.plain}
theorem jY.le(R:jY Y)(h:Y.Le Y'):jY Y':=by
 refine g9 h fun kp fz kg qz0 h1=>?_;clear h;subst qz0
 exact⟨R.around,R.own⟩
theorem Md.le{hd:Nat}(R:Md Y hd)(h:Y.Le Y'):Md Y' hd:=by
 refine g9 h fun kp fz kg qz2 h1=>?_;clear h;subst qz2
 match hd,R with
 |0,R=>exact R
 |1,⟨x,o,vs,g1,g2,g3⟩=>exact zd x o vs g1 (h1 _ _ g2) g3
 |n+2,_=>trivial
section
variable {D:Wd}{Y:Gm}{ρ:List Addr}{J:aq}{Z:List V}{s:Shared}
theorem St.gu(S:St D Y ρ J Z s)(ha:a∉Y.own ρ)(ho:s.heap.get? a=some o):St D (Y.cT (cZ Y.kp a o) Y.fz) ρ J Z s where
 keep:=fun b x e=>by
  by_cases q:b=a
  ·clear ha;subst q
   rw[show(Y.cT _ Y.fz).kp b=some o from aP] at e;obtain rfl:=Z9 e;exact ho
  ·replace e:=(cG q).symm.trans e;exact S.keep b x e
 dU:=S.dU
 loc:=S.loc
 obj:=S.obj
 num:=S.num
 full:=S.full
 nd:=S.nd
 ap:=fun b hb=>(cG (by rintro rfl;exact ha hb)).trans (S.ap b hb)
 os:=S.os
 gen:=S.gen
 d4:=S.d4
theorem St.drop{kp kp' fz':Addr->Option Obj}(S:St D (Y.cT kp' fz') ρ J Z s)(h1:∀ b o,kp b=some o->kp' b=some o)(h2:∀ b o,fz b=some o->fz' b=some o):St D (Y.cT kp fz) ρ J Z s where
 keep:=fun b x e=>S.keep b x (h1 b x e)
 dU:=S.dU
 loc:=S.loc
 obj:=S.obj
 num:=S.num
 full:=S.full
 nd:=S.nd
 ap:=fun b hb=>by
  haveI:=S.ap b hb
  refine bI (kp b) (fun q=>?_) fun o q=>?_
  ·exact q
  ·replace this:=(h1 b o q).symm.trans this;exact absurd this (Zx _)
 os:=S.os
 gen:=S.gen
 d4:=fun a o e=>S.d4 a o (h2 a o e)
theorem St.freeze{b:Addr}{od:Obj}(S:St D Y ρ J Z s)(hk:ρ[k]? = some b)(hd:J.t.get k=some (.dict es))(ho:s.heap.get? b=some od) :
  St D (Y.cT Y.kp (cZ Y.fz b od)) ρ ⟨J.n,J.t,k::J.fz⟩ Z s where
 keep:=S.keep
 dU:=S.dU
 loc:=S.loc
 obj:=S.obj
 num:=S.num
 full:=S.full
 nd:=S.nd
 ap:=S.ap
 os:=S.os
 gen:=S.gen
 d4:=fun a o e=>by
  by_cases q:a=b
  ·subst q
   replace e:=(aP).symm.trans e;cases e
   exact⟨ho,k,es,hk,hd,by simp[hG]⟩
  ·rw[show(Y.cT Y.kp _).fz a=Y.fz a from cG q] at e
   refine bU (S.d4 a o e) fun h1 qz4=>?_;obtain⟨j,es',h2,h3,h4⟩:=qz4
   refine⟨h1,j,es',h2,h3,?_⟩
   simp only[hG]
   cases Nat.beq j k
   ·exact h4
   ·rfl
theorem St.Fz{F:List Nat}(S:St D Y ρ J Z s)(h:∀ b o,Y.fz b=some o->∃ k,ρ[k]? = some b/\hG k F=false):St D Y ρ ⟨J.n,J.t,F⟩ Z s where
 keep:=S.keep
 dU:=S.dU
 loc:=S.loc
 obj:=S.obj
 num:=S.num
 full:=S.full
 nd:=S.nd
 ap:=S.ap
 os:=S.os
 gen:=S.gen
 d4:=fun a o e=>by
  refine bU (S.d4 a o e) fun h1 qz6=>?_;obtain⟨j,es,h2,h3,_⟩:=qz6
  refine aF (h a o e) fun k g1 g2=>?_
  haveI:j=k:=S.inj h2 g1
  exact⟨h1,j,es,h2,h3,by exact this▸g2⟩
theorem St.re{o':Obj}{h':Heap}(S:St D (Y.cT (cZ Y.kp a o) Y.fz) ρ J Z s)(hk:Y.kp a=none)(hs:Heap.SameBut a s.heap h')(ho:h'.get? a=some o'):St D (Y.cT (cZ Y.kp a o') Y.fz) ρ J Z {s with heap:=h'}:=by
 haveI hn:a∉Y.own ρ:=fun hm=>by
  haveI:=S.ap a hm
  replace this:=(aP).symm.trans this;exact Zx _ this
 haveI S0:=S.drop (a8 hk) fun zz zz h=>h
 exact(St.other (Y:=Y) S0 hs hn hk).gu hn ho
inductive BY(D:Wd)(fz:Addr->Option Obj)(ρ:List Addr)(k:Nat)(es:List (Int×V))(P:Addr->Nat->Nat->Prop):Prop where
 |mk (a:Addr) (od:Obj) (kvs:List (Int×Value)) (ep:Nat) (h1:ρ[k]? = some a) (h2:fz a=some od) (h3:∀ h:Heap,h.get? a=some od->h.DictAt (intKind D.prog D.w) a kvs ep) (h4:fP D ρ es kvs) (h5:P a kvs.length ep)
theorem BY.mono{D:Wd}{ρ ρ':List Addr}{P:Addr->Nat->Nat->Prop}(h:BY D fz ρ k es P):BY D fz (ρ++ρ') k es P:=by
 obtain⟨a,od,kvs,ep,h1,h2,h3,h4,h5⟩:=h
 exact⟨a,od,kvs,ep,get_append h1,h2,h3,h4.mono,h5⟩
noncomputable def H7(D:Wd)(fz:Addr->Option Obj)(ρ:List Addr)(h:Heap)(it:Addr):It->Nat->Prop
 |.lst k,i=>∃ a,ρ[k]? = some a/\h.IsListIter it a i
 |.tup k,i=>∃ a,ρ[k]? = some a/\h.IsTupleIter it a i
 |.bD a b,i=>∃ left,IsRangeIter h it (a+i) left 1/\(a+i<b->left=b-(a+i))/\(b<=a+i->left<=0)
 |.pW k es,i=>BY D fz ρ k es fun a n ep=>h.IsKeyIter it a i n ep
 |.vw k es,i=>BY D fz ρ k es fun a n ep=>h.IsValIter it a i n ep
noncomputable def Eh(D:Wd)(fz:Addr->Option Obj)(ρ:List Addr)(it:Addr)(x:It)(i:Nat)(o:Obj):Prop:=∀ h:Heap,h.get? it=some o->H7 D fz ρ h it x i
theorem Eh.mono{ρ':List Addr}{it:Addr}{x:It}(h:Eh D fz ρ it x i o):Eh D fz (ρ++ρ') it x i o:=fun hp e=>by
 haveI:=h hp e
 clear h;cases x with
 |lst k=>obtain⟨a,h1,h2⟩:=this;exact aY a (get_append h1) h2
 |tup k=>obtain⟨a,h1,h2⟩:=this;exact aY a (get_append h1) h2
 |bD a b=>exact this
 |pW k es=>exact BY.mono this
 |vw k es=>exact BY.mono this
noncomputable def jH(it:It)(J:aq):aq:=match it with
 |.pW k _=>⟨J.n,J.t,k::J.fz⟩
 |.vw k _=>⟨J.n,J.t,k::J.fz⟩
 |_=>J
noncomputable def Gp(it:It)(J J':aq):aq:=match it with
 |.pW _ _=>⟨J'.n,J'.t,J.fz⟩
 |.vw _ _=>⟨J'.n,J'.t,J.fz⟩
 |_=>J'
noncomputable def vQ{α:Type}(it:It)(J:aq)(r:Rs α):Rs α:=match r with
 |.ok a s e=>.ok a (Gp it J s) e
 |.exc c a s e=>.exc c a (Gp it J s) e
 |.bad=>.bad
theorem tf{α:Type}(it:It)(m:M α)(J:aq)(Z:List V):d4 it m J Z=vQ it J (m (jH it J) Z):=by
 cases it with
 |pW k _=>show d4.hold k m J Z=_;delta d4.hold;show _=vQ _ J (m ⟨J.n,J.t,k::J.fz⟩ Z);cases m ⟨J.n,J.t,k::J.fz⟩ Z<;>rfl
 |vw k _=>show d4.hold k m J Z=_;delta d4.hold;show _=vQ _ J (m ⟨J.n,J.t,k::J.fz⟩ Z);cases m ⟨J.n,J.t,k::J.fz⟩ Z<;>rfl
 |_=>show m J Z=vQ _ J (m J Z);cases m J Z<;>rfl
inductive ny(D:Wd)(Y:Gm)(ρ:List Addr)(J:aq)(Z:List V)(s:Shared)(it:It)(i:Nat)(a:Addr)(fz:Addr->Option Obj):Prop where
 |mk (o:Obj) (hk:Y.kp a=none) (hf:∀ b x,Y.fz b=some x->fz b=some x) (S:St D (Y.cT (cZ Y.kp a o) fz) ρ J Z s) (hI:Eh D fz ρ a it i o)
theorem lY(S:St D Y ρ J Z s)(ho:J.t.get k=some (.dict es))(hk:ρ[k]? = some a):∃ od kvs ep,s.heap.DictAt (intKind D.prog D.w) a kvs ep/\∀ (oit:Obj) (it:It) (P:Heap->Addr->Nat->Nat->Prop),oit.isFreed=false->
  (∀ h:Heap,(BY D (cZ Y.fz a od) ρ k es (P h))->H7 D (cZ Y.fz a od) ρ h s.heap.objs.size it 0)->(∀ h:Heap,h.get? s.heap.objs.size=some oit->P h a kvs.length ep)->jH it J=⟨J.n,J.t,k::J.fz⟩->
  ny D Y ρ (jH it J) Z {s with heap:=s.heap.push oit} it 0 s.heap.objs.size (cZ Y.fz a od):=by
 obtain⟨kvs,d1,d2,_⟩:=S.dict ho hk
 obtain⟨ep,d3⟩:=d1.dictAt
 refine qf (id d3) fun od es' e1 e2=>?_
 refine sx od kvs ep d3 (fun oit it P hf hP hQ e=>?_)
 refine e▸?_
 refine⟨_,S.dM,fun b y e=>?_,(St.gu ((S.freeze hk ho e1).tH _) S.fresh (Zu _ hf)),fun hp e=>hP hp ⟨a,od,kvs,ep,hk,aP,fun hp e=>(nB od es' e e2),d2,hQ hp e⟩⟩
 by_cases q:b=a
 ·clear d1;clear d3;clear hP;clear hQ;clear hk;subst q
  haveI:=(S.d4 _ _ e).1
  rw[e1] at this;clear e;obtain rfl:=Z9 this;exact aP
 ·refine(cG q).trans ?_;exact e
theorem fQ(B:aV D Y){Q:Value->Shared->Prop}{x:V}{xv:Value}(S:St D Y ρ J Z s)(hv:VR D ρ x xv)(hi:nK J x=some it)(h:∀ s' a fz,ny D Y ρ (jH it J) Z s' it 0 a fz->Q (.ref a) s'):wpAny (model D.prog D.w) A (pyIter xv) Q E s:=by
 refine aF (bind_some hi) fun k hk hi=>?_
 refine aF (bind_some hi) fun o ho hi=>?_
 refine aF (hv.ref hk) fun a hk qz1=>?_;clear hv;refine qz1▸?_
 cases o with
 |list _=>
  obtain rfl:=Z9 hi
  obtain⟨items,n,l1,_⟩:=S.list ho hk
  exact wpAny_pyIter_list l1.isList (h _ _ Y.fz ⟨_,S.dM,fun zz zz e=>e,(S.tH _).gu S.fresh (Zu _ rfl),fun hp e=>(aY a hk ⟨_,e,rfl,rfl⟩)⟩)
 |tup _=>
  obtain rfl:=Z9 hi
  obtain⟨items,n,l1,_⟩:=S.tup ho hk
  exact wpAny_pyIter_tuple (eg l1) (h _ _ Y.fz ⟨_,S.dM,fun zz zz e=>e,(S.tH _).gu S.fresh (Zu _ rfl),fun hp e=>(aY a hk ⟨_,e,rfl,rfl⟩)⟩)
 |bD lo hi'=>
  obtain rfl:=Z9 hi
  refine iu (S.dN ho hk) fun y h2 qz3 qz4=>?_;obtain⟨g1,g2⟩:=qz3;obtain⟨t,u,v,rfl⟩:=qz4
  have w1:=dO g1
  haveI w2:=dO g2
  refine wpAny_pyIter_range h2 (small_one (by omega) (by omega) (by omega) (by omega)) (h _ _ Y.fz ⟨_,S.dM,fun zz zz e=>e,(S.tH _).gu S.fresh (Zu _ rfl),fun hp e=>?_⟩)
  refine iF _ (by simpa using e) (fun q=>?_) (fun q=>?_)
  ·rw[rangeSize_one];simp at q;refine(if_pos q).trans ?_;simp
  ·rw[rangeSize_one];simp at q;rw[if_neg (by omega)];exact W2 _
 |dict es=>
  obtain rfl:=Z9 hi
  refine g9 (lY S ho hk) fun od kvs ep d3 go=>?_
  exact wpAny_pyIter_dict (S.noSys B hk) d3 (h _ _ _ (go _ (.pW k es) (fun h a n ep=>h.IsKeyIter _ a 0 n ep) rfl (fun zz z=>z) (fun hp e=>(iF _ e rfl rfl)) rfl))
 |view d=>
  refine aF (ZU.mp hi) fun es hd qz0=>?_;clear hi;subst qz0
  refine aF (bind_some hd) fun p hd hp=>?_
  obtain rfl:=eT hp
  refine aF (S.dN ho hk) fun y h2 qz2=>?_;obtain⟨ad,had,rfl⟩:=qz2
  refine g9 (lY S hd had) fun od kvs ep d3 go=>?_
  exact wpAny_pyIter_values (iF _ h2 rfl rfl) d3 (h _ _ _ (go _ (.vw d es) (fun h a n ep=>h.IsValIter _ a 0 n ep) rfl (fun zz z=>z) (fun hp e=>(iF _ e rfl rfl)) rfl))
 |_=>exact a9 hi
theorem fP.get:∀ {es:List (Int×V)} {kvs:List (Int×Value)} {i:Nat} {k:Int} {v:V},fP D ρ es kvs->es[i]? = some (k,v)->∃ y,kvs[i]? = some (k,y)/\VR D ρ v y
 |(k',v')::es,(k'',y')::kvs,0,k,v,h,e=>by
  haveI h__:=Z9 e;obtain⟨rfl,rfl⟩:=Y7 h__;refine gm h fun h1 h2 zz=>?_;clear h;obtain rfl:=(h1);exact aY _ rfl h2
 |_::es,_::kvs,i+1,k,v,h,e=>by simpa using fP.get h.2.2 (by simpa using e)
 |[],_,_,_,_,_,e=>by contradiction
 |_::_,[],_,_,_,h,_=>h.elim
theorem kF{Q:Option Value->Shared->Prop}{v:V}(L:ny D Y ρ J Z s it i a fz)(hn:eH J it i=some (some v))(h:∀ s' y,VR D ρ v y->ny D Y ρ J Z s' it (i+1) a fz->Q (some y) s'):wpAny (model D.prog D.w) A (pyNext (.ref a)) Q E s:=by
 obtain⟨o,hk,hf,S,hI⟩:=L
 haveI ho:=S.keep a o aP
 haveI hi:=hI s.heap ho
 have go:∀ {h':Heap} {o':Obj} {tk:Nat} {y:Value},VR D ρ v y->Heap.SameBut a s.heap h'->h'.get? a=some o'->Eh D fz ρ a it (i+1) o'->Q (some y) {s with heap:=h',toks:=tk}:=fun hv hs ho' hI'=>
  h _ _ hv ⟨_,hk,hf,(St.re (Y:=Y.cT Y.kp fz) S hk hs ho').toks _,hI'⟩
 clear h;clear hI;cases it with
 |lst k=>
  obtain⟨l,h1,h2⟩:=hi
  obtain⟨xs,q,hn⟩:=ZU.mp hn
  obtain⟨p,q,hp⟩:=bind_some q
  cases bW hp
  obtain⟨items,n,l1,r1,_⟩:=S.list q h1
  obtain⟨y,hy,hv⟩:=r1.get (hn)
  refine wpAny_pyNext_list_item h2 l1.isList (by rw[<-YS];exact hy) fun h' h3 h4=>?_
  obtain⟨o',g1,g2,g3⟩:=h3
  exact go hv h4 g1 fun hp e=>(aY l h1 ⟨o',e,g2,g3⟩)
 |tup k=>
  obtain⟨l,h1,h2⟩:=hi
  obtain⟨xs,q,hn⟩:=ZU.mp hn
  obtain⟨p,q,hp⟩:=bind_some q
  cases fL hp
  obtain⟨items,n,l1,r1,_⟩:=S.tup q h1
  obtain⟨y,hy,hv⟩:=r1.get (hn)
  refine wpAny_pyNext_tuple_item h2 (eg l1) (by rw[<-YS];exact hy) fun h' h3 h4=>?_
  obtain⟨o',g1,g2,g3⟩:=h3
  exact go hv h4 g1 fun hp e=>(aY l h1 ⟨o',e,g2,g3⟩)
 |bD lo hi'=>
  refine iu hi fun left h1 h2 h3=>?_;clear hi
  simp only[eH,YN] at hn
  by_cases q:lo+i<hi'
  ·replace hn:=(if_pos q).symm.trans hn
   cases hn
   haveI:=h2 q
   refine wpAny_pyNext_range_item h1 (by omega) fun h' g1 g2=>go ⟨_,rfl⟩ g2 g1 fun hp e=>(iF (left-1) ?_ (fun zz=>?_) (fun zz=>?_))
   ·rw[show lo+_=lo+i+1 by omega];exact e
   ·omega
   ·omega
  ·replace hn:=(if_neg q).symm.trans hn;cases hn
 |pW k es=>
  obtain⟨d,od,kvs,ep,h1,h2,h3,h4,h5⟩:=hi
  simp only[eH,YN] at hn
  cases q:es[i]? with
  |none=>replace hn:=q▸hn;cases hn
  |some p=>
   obtain⟨key,w⟩:=p
   rw[q] at hn;cases hn
   obtain⟨y,g1,g2⟩:=h4.get q
   refine wpAny_pyNext_dict_item h5 (h3 _ (S.d4 _ _ h2).1) g1 fun key' h' g3 g4 g5=>?_
   refine df (Value.isInt_shape g3) fun t qz4=>?_;clear g3;refine qz4▸?_
   refine aF g4 fun o' w1 w2=>?_;clear g4
   exact go ⟨t,rfl⟩ g5 w1 fun hp e=>⟨d,od,kvs,ep,h1,h2,h3,h4,o',e,w2⟩
 |vw k es=>
  obtain⟨d,od,kvs,ep,h1,h2,h3,h4,h5⟩:=hi
  simp only[eH,YN] at hn
  cases q:es[i]? with
  |none=>replace hn:=q▸hn;cases hn
  |some p=>
   obtain⟨key,w⟩:=p
   rw[q] at hn;cases hn
   obtain⟨y,g1,g2⟩:=h4.get q
   refine wpAny_pyNext_values_item h5 (h3 _ (S.d4 _ _ h2).1) g1 fun h' g4 g5=>?_
   refine aF g4 fun o' w1 w2=>?_;clear g4
   exact go g2 g5 w1 fun hp e=>⟨d,od,kvs,ep,h1,h2,h3,h4,o',e,w2⟩
theorem nw(hh:A.handled=none){Q:Option Value->Shared->Prop}(L:ny D Y ρ J Z s it i a fz)(hn:eH J it i=some none)(h:∀ s',St D (Y.cT Y.kp fz) ρ J Z s'->Q none s'):wpAny (model D.prog D.w) A (pyNext (.ref a)) Q E s:=by
 obtain⟨o,hk,hf,S,hI⟩:=L
 have ho:=S.keep a o aP
 haveI hi:=hI s.heap ho
 haveI hna:a∉Y.own ρ:=fun hm=>by
  haveI:=S.ap a hm
  rw[show(Y.cT _ fz).kp a=some o from aP] at this;exact Zx _ this
 haveI S0:=S.drop (a8 hk) fun zz zz h=>h
 have go:∀ {h':Heap},Heap.ExtBut a s.heap h'->Q none {s with heap:=h'}:=fun hs=>h _ (by
  refine S0.heap (fun b x g e=>hs b x ?_ e) (fun b m g e=>?_) rfl S0.gen
  ·rintro rfl
   rcases g with g | g
   ·exact hna (ZY _ (ZM _ g))
   ·rw[show(Y.cT Y.kp fz).kp b=none from hk] at g;contradiction
  ·refine e.extBut hs ?_
   rintro rfl
   rcases g with rfl | g
   ·exact hna ZX
   ·exact hna (ZY _ (Zm _ g)))
 clear hI;cases it with
 |lst k=>
  obtain⟨l,h1,h2⟩:=hi
  obtain⟨xs,q,hn⟩:=ZU.mp hn
  obtain⟨p,q,hp⟩:=bind_some q
  cases bW hp
  obtain⟨items,n,l1,r1,_,z1⟩:=S.list q h1
  have hx:=hn
  exact wpAny_pyNext_list_end hh h2 l1.isList (YF (by rw[z1];simpa using hx)) fun h' h3=>go h3
 |tup k=>
  obtain⟨l,h1,h2⟩:=hi
  obtain⟨xs,q,hn⟩:=ZU.mp hn
  obtain⟨p,q,hp⟩:=bind_some q
  cases fL hp
  obtain⟨items,n,l1,r1,_,z1⟩:=S.tup q h1
  have hx:=hn
  exact wpAny_pyNext_tuple_end hh h2 (eg l1) (YF (by rw[z1];simpa using hx)) fun h' h3=>go h3
 |bD lo hi'=>
  refine iu hi fun left h1 h2 h3=>?_;clear hi
  simp only[eH,YN] at hn
  by_cases q:lo+i<hi'
  ·replace hn:=(if_pos q).symm.trans hn;cases hn
  ·exact wpAny_pyNext_range_end hh h1 (h3 (by omega)) fun h' h3=>go h3
 |pW k es=>
  obtain⟨d,od,kvs,ep,h1,h2,h3,h4,h5⟩:=hi
  simp only[eH,YN] at hn
  have hx:kvs[i]? = none:=by
   have:es[i]? = none:=by cases q:es[i]? with | none=>rfl | some p=>replace hn:=q▸hn;cases hn
   rw[Xj] at this ⊢
   rw[<-h4.length];exact this
  exact wpAny_pyNext_dict_end hh h5 (h3 _ (S.d4 _ _ h2).1) hx fun h' h3=>go h3
 |vw k es=>
  obtain⟨d,od,kvs,ep,h1,h2,h3,h4,h5⟩:=hi
  simp only[eH,YN] at hn
  have hx:kvs[i]? = none:=by
   have:es[i]? = none:=by cases q:es[i]? with | none=>rfl | some p=>replace hn:=q▸hn;cases hn
   rw[Xj] at this ⊢
   rw[<-h4.length];exact this
  exact wpAny_pyNext_values_end hh h5 (h3 _ (S.d4 _ _ h2).1) hx fun h' h3=>go h3
end
end
section
variable {β:Type}{kp fz:Addr->Option Obj}{it:It}{i:Nat}{v:V}{y:Value}
section
variable {D:Wd}{Y:Gm}{ρ:List Addr}{J:aq}{Z:List V}{s:Shared}
inductive eX(Y:Gm):List Nat->List Expr->Prop where
 |nil:eX Y [] []
 |cons {i:Nat} {x:Str} {p:Pos} {is:List Nat} {r:List Expr} (h:Y.nm[i]? = some x) (t:eX Y is r):eX Y (i::is) (.Name x p::r)
inductive uW(Y:Gm):Tg->Expr->Prop where
 |one {i:Nat} {x:Str} {p:Pos} (h:Y.nm[i]? = some x):uW Y (.one i) (.Name x p)
 |many {is:List Nat} {elts:List Expr} {c:Nat} {p:Pos} (h:eX Y is elts):uW Y (.many is) (.Tuple elts c p)
theorem W.lK(B:aV D Y){x:Str}{p:Pos}(hx:Y.nm[i]? = some x)(hv:VR D ρ v y):W D Y ρ J Z (assign (.Name x p) Y.env y) Un (bt i v J Z):=
 ((W.store B hx hv).mono fun zz zz zz zz=>trivial).by fun zz zz zz h=>wpAny_assign_Name h
theorem W.bindName(B:aV D Y){x:Str}(hx:Y.nm[i]? = some x)(hv:VR D ρ v y):W D Y ρ J Z (bindName Y.env x y) Un (bt i v J Z):=
 ((W.store B hx hv).mono fun zz zz zz zz=>trivial).by fun zz zz zz h=>fun Y p hY=>by rw[Sem.wp_bindName];exact h Y p hY
theorem rV{is:List Nat}{elts:List Expr}(h:eX Y is elts) :
  (assignEach elts Y.env).map (·.2)=elts.map (fun e=>assign e Y.env)/\(assignEach elts Y.env).length=is.length/\(assignEach elts Y.env).findIdx? (·.1)=none:=by
 induction h with
 |nil=>exact c9 rfl rfl rfl
 |cons h t ih=>
  refine gm ih fun h1 h2 h3=>?_;clear ih
  exact c9 (ZV (_::·) h1) (ZV (· + 1) h2) (by
   show((false,assign _ Y.env)::assignEach _ Y.env).findIdx? (·.1)=none
   rw[List.findIdx?_cons,h3];rfl)
theorem W.go(B:aV D Y){is:List Nat}{elts:List Expr}(h:eX Y is elts):∀ {vs:List V} {xs:List Value} {ρ:List Addr} {J:aq} {Z:List V},bB D ρ vs xs->is.length=vs.length->
  W D Y ρ J Z (assignInOrder (elts.map fun e=>assign e Y.env) xs) Un (aA.go is vs J Z):=by
 induction h with
 |nil=>
  intro vs xs ρ J Z hv hl
  cases vs with
  |cons _ _=>contradiction
  |nil=>cases xs with
   |nil=>exact W.pure trivial
   |cons _ _=>exact hv.elim
 | @cons i x p is r h t ih=>
  intro vs xs ρ J Z hv hl
  cases vs with
  |nil=>contradiction
  |cons v vs=>cases xs with
   |nil=>exact hv.elim
   |cons y ys=>
    exact(W.holding (W.lK B h hv.1)).bind fun ρ1 zz J1 Z1 zz zz zz=>ih hv.2.mono (Xy hl)
theorem W.asg(B:aV D Y){hd:Nat}(hh:Md Y hd){t:Tg}{e:Expr}(ht:uW Y t e)(hv:VR D ρ v y):W D Y ρ J Z (assign e Y.env y) Un (aA hd t v J Z):=by
 cases ht with
 |one h=>exact W.lK B h hv
 |many h=>
  cases hd with
  |succ n=>exact W.bad
  |zero=>
   refine W.az fun k hk=>?_
   refine aF (hv.ref hk) fun a hk qz1=>?_;clear hv;refine qz1▸?_
   refine W.obj fun o ho=>W.az fun vs hvs=>W.ite (fun hl=>W.of fun s S hb=>?_) fun zz=>W.bad
   obtain rfl:=fL hvs
   haveI hl:=Zr hl
   obtain⟨items,n,l1,r1,_,z1⟩:=S.tup ho hk
   refine gm (rV h) fun e1 e2 e3=>?_
   refine wpAny_assign_Tuple hh (eg l1) (by exact e2▸z1▸hl▸rfl) e3 fun h' hE=>?_
   exact e1▸((W.go B h r1 hl.symm).to (S.ext fun b o e=>hE b o (Zk (YG e)) e) hb)
theorem St.fin{J':aq}(S:St D (Y.cT kp fz) ρ J' Z s)(h1:∀ b o,Y.kp b=some o->kp b=some o)(h2:∀ b o,Y.fz b=some o->fz b=some o)(h3:∀ b o,Y.fz b=some o->∃ k,ρ[k]? = some b/\hG k J.fz=false):St D Y ρ (Gp it J J') Z s:=by
 have S1:St D Y ρ J' Z s:=St.drop (kp:=Y.kp) (fz:=Y.fz) S h1 h2
 cases it<;>first | exact S1 | exact S1.Fz h3
theorem m6.drop{c:Nat}{a:V}{x:Addr}{T:Option Addr}(X:m6 D (Y.cT kp fz) ρ c a x T s)(h1:∀ b o,Y.kp b=some o->kp b=some o):m6 D Y ρ c a x T s:=by
 have nn:∀ b,kp b=none->Y.kp b=none:=fun b h=>by
  refine bI (Y.kp b) (fun q=>?_) fun o q=>?_
  ·rfl
  ·replace h:=(h1 b o q).symm.trans h;exact absurd h (Zx _)
 obtain⟨o,vs,x1,x2,x3,x4,x5,x6,x7,x8,x9⟩:=X
 refine⟨o,vs,x1,x2,x3,x4,x5,nn x x6,x7,x8,?_⟩
 cases T with
 |none=>exact x9
 |some T=>obtain⟨y1,y2,y3,y4,oT,ts,y5,y6,y7⟩:=x9;exact⟨y1,y2,y3,nn T y4,oT,ts,y5,y6,y7⟩
theorem ER.fin{r:Rs β}{e:Value}(h:ER D (Y.cT kp fz) ρ r e s)(h1:∀ b o,Y.kp b=some o->kp b=some o)(h2:∀ b o,Y.fz b=some o->fz b=some o)(h3:∀ b o,Y.fz b=some o->∃ k,ρ[k]? = some b/\hG k J.fz=false):ER D Y ρ (vQ it J r) e s:=by
 cases r with
 |ok _ _ _=>exact h.elim
 |bad=>exact h.elim
 |exc c a J' Z'=>
  obtain⟨ρ',⟨x,T,rfl,X⟩,S⟩:=h
  exact⟨ρ',⟨x,T,rfl,X.drop h1⟩,S.fin h1 h2 fun b o e=>let ⟨k,g1,g2⟩:=h3 b o e;(aY k (get_append g1) g2)⟩
theorem ny.cls{a:Addr}(L:ny D Y ρ J Z s it i a fz):∃ o n vs,s.heap.get? a=some o/\o.cls = .type n/\o.data = .fields vs/\
  (["enumerate", "zip", "dict_itemiterator", "dict_reverseitemiterator", "odict_iterator", "itertools.zip_longest", "itertools.pairwise"].contains n)=false:=by
 obtain⟨o,hk,hf,S,hI⟩:=L
 have hi:=hI s.heap (S.keep a o aP)
 clear hI;cases it with
 |lst k=>obtain⟨_,_,o',g1,g2,g3⟩:=hi;exact⟨o',_,_,g1,g2,g3,by decide⟩
 |tup k=>obtain⟨_,_,o',g1,g2,g3⟩:=hi;exact⟨o',_,_,g1,g2,g3,by decide⟩
 |bD x y=>refine aF hi fun zz g1 zz=>?_;clear hi;exact vx _ _ _ g1 rfl rfl (by decide)
 |pW k es=>obtain⟨_,_,_,_,_,_,_,_,o',g1,g2,g3⟩:=hi;exact⟨o',_,_,g1,g2,g3,by decide⟩
 |vw k es=>obtain⟨_,_,_,_,_,_,_,_,o',g1,g2,g3⟩:=hi;exact⟨o',_,_,g1,g2,g3,by decide⟩
set_option backward.match.sparseCases true in
theorem ny.letGo{A:Around}{Q:Unit->Shared->Prop}{E:Value->Shared->Prop}{a:Addr}{target:Expr}{v:Value}(L:ny D Y ρ J Z s it i a fz)(h:Q () s) :
  wpAny (model D.prog D.w) A (letOwnedTupleGo target (.ref a) v) Q E s:=by
 refine u9 L.cls fun o n vs h1 h2 h3 h4=>?_
 have key:wpAny (model D.prog D.w) A (match (Value.ref a,v) with
   |(.ref r,.ref b)=>(do
    let o <-load r
    match o.cls,o.data with
    |.type n,.fields vs=>
     if["enumerate", "zip", "dict_itemiterator", "dict_reverseitemiterator", "odict_iterator", "itertools.zip_longest", "itertools.pairwise"].contains n&&vs[0]? == some (rawInt b) then do
      rule "for.unpacks-the-owned-tuple"
      updateField r 0 .none
     else pure ()
    |_,_=>pure ())
   |_=>pure ()) Q E s:=by
  cases v with
  |ref b=>
   refine Z8 (XE h1 ?_)
   refine h2▸h3▸?_
   dsimp only
   exact h4▸(ZW h)
  |_=>exact ZW h
 unfold letOwnedTupleGo
 cases target with
 |Tuple _ _ _=>exact key
 |List _ _=>exact key
 |_=>exact ZW h
theorem aw.dB(B:aV D Y)(R:jY Y)(hh:Y.A.handled=none){target iter:Expr}{body:List Stmt}{p:Pos}{x:M V}{asg:V->M Unit}{y:M Fl}{N:Nat}(hx:aw D Y (eval iter Y.env) (VR D) x)(hs:∀ v,foldedSetIterable iter Y.env v=pure v)(ha:∀ Y',Y.Le Y'->∀ ρ J Z v yv,VR D ρ v yv->W D Y' ρ J Z (assign target Y.env yv) Un (asg v J Z))(hb:∀ Y',Y.Le Y'->aw D Y' (execs body Y.env) (bX D) y):aw D Y (exec (.For target iter body [] p) Y.env) (bX D) (.bind x fun v=>dK v fun it=>pT it asg y N 0):=fun ρ₀ J₀ Z₀=>by
 refine W.bj ((hx ρ₀ J₀ Z₀).bind fun ρ₁ v J Z xv zz hv=>?_)
 generalize ρ₀++ρ₁=ρ at hv ⊢
 refine(hs xv)▸?_
 refine W.bj (W.of fun s S hbad=>?_)
 dsimp only[dK] at hbad ⊢
 refine bI (nK J v) (fun hi=>?_) fun it hi=>?_
 ·rw[hi] at hbad;exact absurd rfl hbad
 ·rw[hi] at hbad
  dsimp only at hbad ⊢
  rw[tf] at hbad ⊢
  generalize hr:pT it asg y N 0 (jH it J) Z=r at hbad ⊢
  have hbad0:r≠.bad:=fun q=>hbad (by rw[q];rfl)
  refine Z8 (Zw (fQ B S hv hi fun s' a fz L=>wpAny_runOwn ?_))
  obtain⟨o₀,hka,hfz,_,_⟩:=id L
  have h3':∀ ρ' b o,Y.fz b=some o->∃ k,(ρ++ρ')[k]? = some b/\hG k J.fz=false:=fun ρ' b o e=>let ⟨_,k,_,g1,_,g2⟩:=S.d4 b o e;(aY k (get_append g1) g2)
  refine codeAny_forLoop_any (fun k s=>∃ ρ' J' Z' i,ny D Y (ρ++ρ') J' Z' s it i a fz/\pT it asg y k i J' Z'=r) (fun k s hI=>?_) N (Gy [] (jH it J) Z 0 (by rw[ZT];exact L) hr)
  refine Fj hI fun ρ' J' Z' i L' e=>?_;clear hI
  have err:∀ {ρ1:List Addr} {o:Obj} v s',ER D (Y.cT (cZ Y.kp a o) fz) (ρ++ρ1) r v s'->notedBy (model D.prog D.w) Y.A Y.env (cameBackBy (model D.prog D.w) Y.A Y.env (ER D Y ρ (vQ it J r))) v s':=fun {ρ1 o} v s' h=>
   (h.fin (it:=it) (J:=J) (a8 hka) hfz (h3' ρ1)).through B R rfl fun s2 h2=>h2.wide
  cases k with
  |zero=>exact absurd e.symm hbad0
  |succ k=>
   haveI e':(match eH J' it i with
    |some (some v)=>M.bind (asg v) (fun zz=>M.bind y (nV (pT it asg y k (i+1)))) J' Z'
    |some none=>.ok .next J' Z'
    |none=>.bad)=r:=e
   refine bI (eH J' it i) (fun q=>?_) fun w q=>?_
   ·replace e':=q▸e';exact absurd e'.symm hbad0
   ·rw[q] at e'
    cases w with
    |none=>
     refine nw hh L' q fun s2 S2=>ZW ?_
     show QR D Y ρ (bX D) (vQ it J r) .next s2
     rw[<-e']
     exact⟨ρ',rfl,St.fin S2 (fun zz zz h=>h) hfz (h3' ρ')⟩
    |some v=>
     refine kF L' q fun s2 yv hyv L2=>?_
     refine L2.letGo ?_
     obtain⟨o,_,_,S2,hI2⟩:=L2
     haveI hle:Y.Le (Y.cT (cZ Y.kp a o) fz):=.of (a8 hka)
     refine(ha _ hle (ρ++ρ') J' Z' v yv hyv).step S2 e' hbad0 (fun ρ3 zz J3 Z3 zz s3 zz S3 e3=>?_) err
     rw[ZZ] at S3
     refine(hb _ hle (ρ++(ρ'++ρ3)) J3 Z3).step S3 e3 hbad0 (fun ρ4 f J4 Z4 g s4 hg S4 e4=>?_) err
     rw[ZZ] at S4 hg
     haveI lp:ny D Y (ρ++(ρ'++ρ3++ρ4)) J4 Z4 s4 it (i+1) a fz:=⟨o,hka,hfz,S4,by
      haveI:=hI2.mono (ρ':=ρ3++ρ4)
      rwa [ZZ,<-ZZ ρ'] at this⟩
     cases f with
     |next=>cases(show g = .next from hg);exact⟨k,Yv _,_,J4,Z4,i+1,lp,e4⟩
     |cont=>cases(show g = .cont from hg);exact⟨k,Yv _,_,J4,Z4,i+1,lp,e4⟩
     |brk=>
      cases(show g = .brk from hg)
      show QR D Y ρ (bX D) (vQ it J r) .next s4
      exact e4▸(⟨_,rfl,St.fin S4 (a8 hka) hfz (h3' _)⟩)
     |ret v'=>
      refine aF hg fun w qz0 hw=>?_;clear hg;subst qz0
      show QR D Y ρ (bX D) (vQ it J r) (.ret w) s4
      rw[<-e4]
      exact⟨_,(aY w rfl hw),St.fin S4 (a8 hka) hfz (h3' _)⟩
end
end
section
variable {L a:Addr}{e:DictEntry}{h:Heap}{hsh:Int}{r es:List DictEntry}{vs:List V}{d f:Nat}{o:O}{x name:Str}{tk:Tok}{k y v:Value}
section
variable {D:Wd}{Y:Gm}{ρ:List Addr}{J:aq}{Z:List V}{s:Shared}
noncomputable def lZ(h:Heap)(L x:Addr):List (Addr×Obj):=(List.range h.objs.size).filterMap fun a=>if a=L∨a=x then none else(h.get? a).map fun o=>(a,o)
theorem cK{x:Addr}{o:Obj}:(a,o)∈lZ h L x↔a≠L/\a≠x/\h.get? a=some o:=
 List.mem_filterMap.trans ⟨fun z=>aF z fun b zz e=>(WD _).elim (fun q=>a9 ((if_pos q).symm.trans e)) fun q=>aF (ZU.mp ((if_neg q).symm.trans e)) fun o' g e'=>
   (Y7 e').1▸(Y7 e').2▸c9 (fun h=>q (.inl h)) (fun h=>q (.inr h)) g,
  fun z=>aY a (Y6.mpr (YG z.2.2)) ((if_neg fun h=>h.elim z.1 z.2.1).trans (z.2.2▸rfl))⟩
theorem pb{m:Str->Option Value}(hn:h.Ns L m):Fr default L h m:=⟨hn,fun b o e=>(by rw[ft] at e;contradiction),XU _⟩
theorem qv{x:Addr}{ox:Obj}(hx:h.get? x=some ox)(hne:x≠L):News default L h (lZ h L x++[(x,ox)]):=fun p hp=>by
 rcases Zy.mp hp with hp | hp
 ·obtain⟨a,o⟩:=p
  refine gm (cK.mp hp) fun h1 zz h3=>?_
  exact c9 h3 h1 (ft _)
 ·rw[Zn] at hp;refine hp▸?_;exact c9 hx hne (ft _)
theorem St.EI{h':Heap}{k tk:Nat}{x:Obj}{m:Str->Option Value}(S:St D Y ρ J Z s)(hk:ρ[k]? = some a)(hm:s.heap.Ns Y.env.locals m)(hm':h'.Ns Y.env.locals m)(hs:∀ b o,b≠a->b≠Y.env.locals->s.heap.get? b=some o->h'.get? b=some o)(hx:h'.get? a=some x)(h:OR D ρ o x)(hz:(∀ es,J.t.get k≠some (.dict es))∨hG k J.fz=true) :
  St D Y ρ ⟨J.n,J.t.set k o,J.fz⟩ Z {s with heap:=h',toks:=tk}:=by
 have nl:=(ZN.mp S.nd).1
 haveI nf:=(Zl.mp (ZN.mp S.nd).2).2.2
 have nr:∀ {j b},ρ[j]? = some b->b≠Y.env.locals:=fun e q=>nl (q▸ZM _ (ZK e))
 exact {
  keep:=fun b o' e=>hs b o' (by rintro rfl;rw[S.ap b (jB hk)] at e;contradiction) (by rintro rfl;rw[S.ap _ ZX] at e;contradiction) (S.keep b o' e)
  dU:=fun p hp=>(S.dU p hp).at fun o e=>hs _ o (fun q=>nf p.1 (Y8 hp) a (ZK hk) q) (fun q=>nl (q▸Zm _ (Y8 hp))) e
  loc:=by
   refine aF S.loc fun m' h1 h2=>?_
   haveI:m'=m:=h1.eq_nsMap.trans hm.eq_nsMap.symm
   exact aY m hm' (this▸h2)
  obj:=fun j o' e=>by
   rw[Tr.get_set] at e
   by_cases hj:j=k
   ·clear hz;subst hj
    replace e:=(if_pos rfl).symm.trans e
    refine bI (J.t.get j) (fun q=>?_) fun o₀ q=>?_
    ·rw[q] at e;contradiction
    ·rw[q] at e;obtain rfl:=Z9 e;exact⟨a,x,hk,hx,h⟩
   ·replace e:=(if_neg hj).symm.trans e
    obtain⟨b,y,h1,h2,h3⟩:=S.obj j o' e
    exact⟨b,y,h1,hs b y (fun q=>hj (S.inj h1 (q▸hk))) (nr h1) h2,h3⟩
  num:=S.num
  full:=S.full.set k o
  nd:=S.nd
  ap:=S.ap
  os:=S.os
  gen:=S.gen
  d4:=fun b o' e=>by
   refine bU (S.d4 b o' e) fun h1 qz1=>?_;obtain⟨j,es,h2,h3,h4⟩:=qz1
   have hjk:j≠k:=by
    rintro rfl
    rcases hz with hz | hz
    ·exact hz es h3
    ·replace h4:=(hz).symm.trans h4;exact Bool.noConfusion h4
   refine⟨hs b o' (fun q=>hjk (S.inj h2 (q▸hk))) (nr h2) h1,j,es,h2,?_,h4⟩
   rw[Tr.get_set,if_neg hjk];exact h3}
theorem gO{γ:Type}{p:DictEntry->Bool}{g:DictEntry->γ}:((e::r).find? p).map g=if p e=true then some (g e) else(r.find? p).map g:=by
 rw[List.find?_cons];cases p e<;>rfl
theorem ig{y:Str}(g:k.isStr y=true):k.isStr x=true↔x=y:=by
 cases k with
 |str z t=>exact(Y9).mp g▸Y9.trans eq_comm
 |_=>exact Bool.noConfusion g
theorem mN(g:e.key.isStr name=true):putL name hsh k v (e::r)=⟨e.hash,e.key,v⟩::r:=if_pos g
theorem mD(g:¬e.key.isStr name=true):putL name hsh k v (e::r)=e::putL name hsh k v r:=if_neg g
theorem tB(es:List DictEntry) :
  ((putL name hsh (.str name tk) v es).find? (·.key.isStr x)).map (·.val)=if x=name then some v else(es.find? (·.key.isStr x)).map (·.val):=by
 induction es with
 |nil=>exact gO.trans (ite_congr (propext (ig (Y3 name))) (fun zz=>rfl) fun zz=>rfl)
 |cons e r ih=>
  by_cases g:e.key.isStr name=true
  ·rw[mN g,gO,gO]
   by_cases q:x=name
   ·rw[if_pos q,if_pos ((ig g).mpr q)]
   ·rw[if_neg q,if_neg fun z=>q ((ig g).mp z),if_neg fun z=>q ((ig g).mp z)]
  ·rw[mD g,gO,gO,ih]
   by_cases q:x=name
   ·rw[if_pos q,if_pos q,if_neg (q▸g)]
   ·rw[if_neg q,if_neg q]
theorem yf(es:List DictEntry):(putL name hsh (.str name tk) v es).any (·.refKey)=es.any (·.refKey):=by
 induction es with
 |nil=>rfl
 |cons e r ih=>
  by_cases g:e.key.isStr name=true
  ·rw[mN g];rfl
  ·rw[mD g];exact ZV _ ih
theorem yn{key:Value}(es:List DictEntry):(putL name hsh key v es).length=es.length+(if(es.find? (·.key.isStr name)).isSome then 0 else 1):=by
 induction es with
 |nil=>rfl
 |cons e r ih=>
  rw[List.find?_cons]
  by_cases g:e.key.isStr name=true
  ·rw[mN g,g];rfl
  ·rw[mD g,Bool.eq_false_iff.mpr g];exact(ZV (· + 1) ih).trans (Yg ..)
set_option tactic.hygienic true in
theorem nZ{r:Option Value}(h:getL name es=some r):(es.find? (·.key.isStr name)).map (·.val)=r/\(r=none->es.any (·.refKey)=false):=by
 unfold getL at h
 cases q:es.find? _ with
 |some e=>rw[q] at h;obtain rfl:=Z9 h;exact⟨rfl,fun h=>by contradiction⟩
 |none=>
  rw[q] at h
  dsimp only at h
  split at h
  ·contradiction
  ·rename_i z;obtain rfl:=Z9 h;exact⟨rfl,fun _=>by simpa using z⟩
theorem qF{r:Option Value}(h:getL x es=some r):getL x (putL name hsh (.str name tk) v es)=some (if x=name then some v else r):=by
 haveI hf:=tB (name:=name) (x:=x) (hsh:=hsh) (tk:=tk) (v:=v) es
 refine bU (nZ h) fun h1 h2=>?_
 rw[h1] at hf
 unfold getL
 cases q:(putL name hsh _ v es).find? _ with
 |some e=>rw[q] at hf;rw[<-hf];rfl
 |none=>
  rw[q] at hf
  have hr:_=none:=hf.symm
  rw[hr]
  dsimp only
  haveI:r=none:=by
   by_cases q:x=name
   ·rw[if_pos q] at hr;exact absurd hr (Zx _)
   ·rwa [if_neg q] at hr
  rw[yf,if_neg (by rw[h2 this];decide)]
theorem hV{w:V}{r:List V}:nH (w::r)=nH r+(if w = .ah then 1 else 0):=by
 cases w<;>rfl
theorem qo{v:V}(hv:v≠.ah):∀ (vs:List V) (i:Nat),i<vs.length->nH (V.put vs i v)+(if V.at vs i = .ah then 1 else 0)=nH vs
 |w::r,0,_=>by
  show nH (v::r)+_=_
  rw[hV,hV,if_neg hv];rfl
 |w::r,i+1,h=>by
  show nH (w::V.put r i v)+(if V.at r i = .ah then 1 else 0)=_
  rw[hV,hV,Yg,qo hv r i (YQ h)]
 |[],_,h=>absurd h (YX _)
inductive G5(D:Wd)(i:Nat)(x:Str):Prop where
 |mk (h1:findIn D.K (.ref D.node) x=some (some (.ref (D.D5 i)))) (h2:specialIn D.K (.ref (D.D5 i)) "__get__" = some (some (.builtin "member_descriptor.__get__")))
  (h3:takesIn D.K (.ref (D.D5 i))=some true) (h4:slotIn D.K (D.D5 i) D.node=some (D.pos i)) (h5:typeIn D.K (.ref (D.D5 i))=some (.type "member_descriptor")) (h6:D.pos i<1000)
structure jf(D:Wd):Prop where
 rB:∀ x,plainGet D.K D.jx x=true
 nY:hasDictIn D.K D.jx=true
 Az:findIn D.K (.ref D.jx) "__setattr__" = some (some (.builtin "object.__setattr__"))
 uO:plainOver D.K D.jx=true
 xi:∀ (i:Nat) (x:Str),dw[i]? = some x->findIn D.K (.ref D.jx) x=some none
 zJ:∀ x,plainGet D.K D.node x=true
 FG:(clsIn D.K D.node).isSome=true
 z9:findIn D.K (.ref D.node) "__setattr__" = some (some (.builtin "object.__setattr__"))
 uF:plainOver D.K D.node=true
 DJ:∀ (i:Nat) (x:Str),(["node", "npredecessors", "successors"]:List Str)[i]? = some x->G5 D i x
 pos:∀ i j,i<3->j<3->D.pos i=D.pos j->i=j
noncomputable def gM:Nat->Str
 |0=> "node"
 |1=> "npredecessors"
 |_=> "successors"
noncomputable def cD:Nat->Str
 |0=> "_node2info"
 |1=> "_ready_nodes"
 |2=> "_npassedout"
 |_=> "_nfinished"
noncomputable def attrName(f:Nat):Str:=if f<10 then cD f else gM (f-10)
theorem VR.handed{v:V}(h:VR D ρ v y):handedIn y=true:=by
 cases v with
 |none=>subst h;rfl
 |bool b=>subst h;rfl
 |int i=>refine df h fun zz qz3=>?_;clear h;subst qz3;rfl
 |str x=>refine df h fun zz qz5=>?_;clear h;subst qz5;rfl
 |ref k=>refine aF h fun zz zz qz0=>?_;clear h;subst qz0;rfl
 |scr=>subst h;rfl
 |ah=>exact h.elim
 |aI k=>exact h.elim
theorem ju:lz o=some d->o = .inst d:=by
 cases o with
 |inst=>intro h;exact(Z9 h)▸rfl
 |_=>exact aQ
theorem lL:vG o=some vs->o = .ns vs:=by
 cases o with
 |ns=>intro h;exact(Z9 h)▸rfl
 |_=>exact aQ
theorem rK{p:List V×Nat}:zt o=some p->o = .node p.1 p.2:=by
 cases o with
 |node=>intro h;exact(Z9 h)▸rfl
 |_=>exact aQ
theorem iQ(hf:f<4):dw[f]? = some (cD f):=by
 match f,hf with
 |0,_=>rfl
 |1,_=>rfl
 |2,_=>rfl
 |3,_=>rfl
 |n+4,h=>exact absurd h (XZ.mpr (ZQ 4 n))
theorem tL(hf:f<3):(["node", "npredecessors", "successors"]:List Str)[f]? = some (gM f):=by
 match f,hf with
 |0,_=>rfl
 |1,_=>rfl
 |2,_=>rfl
 |n+3,h=>exact absurd h (XZ.mpr (ZQ 3 n))
theorem qO:∀ i:Fin 4,∀ j:Fin 4,cD i=cD j->i=j:=by decide +kernel
inductive F8(D:Wd)(ρ:List Addr)(h:Heap)(a:Addr)(d:Nat)(vs:List V):Prop where
 |mk (dd:Addr) (es:List DictEntry) (n:Nat) (h3:ρ[d]? = some dd) (h2':h.get? dd=some (dictOf es n)) (fl:AG D ρ vs es) (I:InstAt h a (instObj D.jx dd) D.jx (some (dictOf es n)))
theorem St.uI{j:Nat}(S:St D Y ρ J Z s)(ho:J.t.get j=some (.inst d))(hp:J.t.get d=some (.ns vs))(hj:ρ[j]? = some a):F8 D ρ s.heap a d vs:=by
 refine aF (S.dN ho hj) fun x h2 qz2=>?_;obtain⟨dd,h3,rfl⟩:=qz2
 refine aF (S.dN hp h3) fun x' h2' qz4=>?_;obtain⟨es,n,rfl,fl⟩:=qz4
 exact⟨dd,es,n,h3,h2',fl,h2,rfl,rfl,h2'⟩
inductive Fe(D:Wd)(ρ:List Addr)(h:Heap)(a:Addr)(d:Nat)(vs:List V):Prop where
 |mk (dd:Addr) (od:Obj) (sl:Array (Option Value)) (h3:ρ[d]? = some dd) (h2:h.get? a=some {cls:=.ref D.node,dict:=some dd,data:=.plain,slots:=sl}) (g1:vs.length=3) (g2:∀ i,i<3->VO D ρ (V.at vs i) (sl[D.pos i]?).join)
  (I:InstAt h a {cls:=.ref D.node,dict:=some dd,data:=.plain,slots:=sl} D.node (some od))
theorem St.Cq{j:Nat}(S:St D Y ρ J Z s)(ho:J.t.get j=some (.node vs d))(hj:ρ[j]? = some a):Fe D ρ s.heap a d vs:=by
 refine aF (S.dN ho hj) fun x h2 qz6=>?_;obtain⟨dd,sl,h3,rfl,g1,g2⟩:=qz6
 obtain⟨od,hod⟩:=S.live (jB h3)
 exact⟨dd,od,sl,h3,h2,g1,g2,h2,rfl,rfl,hod⟩
theorem rL(hf:f<4):attrName f=cD f:=if_pos (Zj hf (ZQ 4 6))
theorem oQ(hf:(Nat.ble 10 f&&Nat.blt f 13)=true):attrName f=gM (f-10)/\f-10<3:=by
 replace hf:=ZR.mp hf
 haveI hf1:=ZC hf.1
 haveI hf2:=cU hf.2
 exact⟨if_neg (XZ.mpr ‹_›),Nat.sub_lt_left_of_lt_add hf1 hf2⟩
theorem W.get(B:aV D Y)(C:jf D){a:V}{expr:Bool}(ha:VR D ρ a y)(hx:x=attrName f):W D Y ρ J Z (getAttr y x expr) (VR D) (vg a f J Z):=by
 refine hx▸?_
 refine W.az fun k hk=>?_
 refine aF (ha.ref hk) fun ak hk qz1=>?_;clear ha;refine qz1▸?_
 refine W.obj fun o ho=>?_
 refine bI (lz o) (fun e=>?_) fun d e=>?_
 ·refine W.az fun p hp=>W.ite (fun hf=>W.live fun hu s S=>?_) fun zz=>W.bad
  obtain rfl:=rK hp
  obtain⟨hx,hf⟩:=oQ hf
  refine hx▸?_
  obtain⟨dd,od,sl,h3,h2,g1,g2,I⟩:=S.Cq ho hk
  refine aF ((g2 _ hf).there hu) fun w e3 hw=>?_
  obtain⟨c1,c2,c3,c4,c5,c6⟩:=C.DJ _ _ (tL hf)
  exact get_bind (B.eQ s.heap S.keep) I (W0 (C.zJ (gM (f-10)))).1 (findObj_data C.FG c1 c2 c3) (W0 (C.zJ (gM (f-10)))).2
   (W7 (slot_get (B.eQ s.heap S.keep) I c4 e3 (handed_on hw.handed (bp S _ hw))))
 ·obtain rfl:=ju e
  refine W.obj fun p hp=>W.az fun vs hvs=>W.ite (fun hf=>W.live fun hu s S=>?_) fun zz=>W.bad
  obtain rfl:=lL hvs
  haveI hf:=cU hf
  refine(rL hf)▸?_
  obtain⟨dd,es,n,h3,h2',⟨g1,g2,g3,g4⟩,I⟩:=S.uI ho hp hk
  refine aF (g3 f _ (iQ hf)) fun r e1 e2=>?_
  refine aF (e2.there hu) fun w qz3 hw=>?_;clear e2;subst qz3
  refine aF (any_some C.nY) fun cd hcd hd'=>?_
  refine get_value (B.eQ s.heap S.keep) I (W0 (C.rB (cD f))).1 ?_ hw.handed (bp S _ hw)
  unfold findObj
  rw[hcd,Xl,C.xi f _ (iQ hf),Xl,Xl,Xl]
  dsimp only
  unfold PySem.W.ownOf
  rw[hd',if_pos rfl]
  dsimp only
  rw[lookIn_dict,e1]
  rfl
set_option tactic.hygienic true in
theorem vu{sl:Array (Option Value)}{p q:Nat}:(((sl++Array.replicate (p+1-sl.size) none).setIfInBounds p (some y))[q]?).join=if q=p then some y else(sl[q]?).join:=by
 haveI hz:p<(sl++Array.replicate (p+1-sl.size) none).size:=by rw[Array.size_append,Array.size_replicate,Yd];exact DW
 by_cases h:q=p
 ·rw[h]
  rw[YZ hz,if_pos rfl];rfl
 ·rw[Zv (Ne.symm h),if_neg h,Array.getElem?_append]
  split
  ·rfl
  ·rename_i g
   rw[show sl[q]? = none from YF (XZ.mp ‹_›),Array.getElem?_replicate]
   split<;>rfl
theorem HR{α:Type}{o:Option α}{c:Prop}[Decidable c](h:o.isSome=true∨c):(if o.isSome=true then 0 else 1)<=(if c then 1 else 0):=
 h.elim (fun q=>ZD (Yo (if_pos q)) (XU _)) fun q=>by
  rw[if_pos q];split
  ·exact XU 1
  ·exact ZE 1
theorem xf(hf:f<4){v:V}{w:Value}(hv:VR D ρ v w)(F:AG D ρ vs es):AG D ρ (V.put vs f v) (putL (cD f) hsh (.str (cD f) tk) w es):=by
 refine D7 F fun g1 g2 g3 g4=>?_;clear F
 refine aF (g3 f _ (iQ hf)) fun r e1 e2=>?_
 haveI u:=qo (F4 hv) vs f (g1▸hf)
 haveI pq:=HR (o:=es.find? (·.key.isStr (cD f))) (e2.elim (fun z=>.inr z.1) fun z=>z.elim fun y' z=>.inl (aF (ZU.mp ((nZ e1).1.trans z.1)) fun e q zz=>q▸rfl))
 haveI hlen:(putL (cD f) hsh (.str (cD f) tk) w es).length+nH (V.put vs f v)<=4:=yn es▸om [_,_,_,_,_] [(.v 1,.v 3),(.a (.v 2) (.v 3),.v 4),(.a (.v 0) (.v 4),.n 4)] (.a (.a (.v 0) (.v 1)) (.v 2),.n 4) rfl pq (eE u) g2
 refine CB (by rw[fb];exact g1) hlen (fun i x' hi=>?_) (fun x' hx'=>?_)
 ·refine aF (g3 i x' hi) fun r' e1' e2'=>?_
  refine aY _ (qF e1') ?_
  rw[pg]
  have hi4:=(ZP.mp hi).1
  haveI hxi:x'=cD i:=by replace hi:=(iQ hi4).symm.trans hi;exact(Z9 hi).symm
  by_cases hif:i=f
  ·clear e1;clear e2;clear hf;clear hlen;refine hif▸?_
   rw[if_pos ⟨rfl,g1.symm▸hi4⟩,if_pos hxi]
   exact .inr (aY w rfl hv)
  ·haveI:x'≠cD f:=by
    refine hxi▸?_;intro q
    exact hif (ZV Fin.val (qO ⟨i,hi4⟩ ⟨f,hf⟩ q))
   rw[if_neg (fun q=>hif q.1),if_neg this]
   exact e2'
 ·haveI hxf:x'≠cD f:=fun q=>hx' (q▸ZK (iQ hf))
  rw[qF (g4 x' hx'),if_neg hxf]
theorem W.put(B:aV D Y)(C:jf D){a v:V}{w:Value}(ha:VR D ρ a y)(hw:VR D ρ v w)(hx:x=attrName f):W D Y ρ J Z (setAttr y x w) Un (yG a f v J Z):=by
 refine hx▸?_
 refine W.az fun k hk=>?_
 refine aF (ha.ref hk) fun ak hk qz5=>?_;clear ha;refine qz5▸?_
 refine W.obj fun o ho=>?_
 refine bI (lz o) (fun e=>?_) fun d e=>?_
 ·refine W.az fun p hp=>W.ite (fun hf s S=>?_) fun zz=>W.bad
  have h__:=rK hp;subst h__
  obtain⟨hx,hf⟩:=oQ hf
  refine hx▸?_
  obtain⟨dd,od,sl,h3,h2,g1,g2,I⟩:=S.Cq ho hk
  haveI X:=B.eQ s.heap S.keep
  obtain⟨c1,c2,c3,c4,c5,c6⟩:=C.DJ _ _ (tL hf)
  refine aF S.loc fun m hn hl=>?_
  haveI hne:ak≠Y.env.locals:=fun q=>(ZN.mp S.nd).1 (q▸ZM _ (ZK hk))
  haveI ht:takerIn D.K D.node _=some (some (.ref (D.D5 (f-10)))):=by unfold takerIn;rw[c1];simp[c3]
  refine set_plain X I C.z9 (osa_descr KF.slot_mset X I C.uF ht c5
   (slot_set (pre:=lZ s.heap Y.env.locals ak) (pb hn) (qv h2 hne) X I c4 c6 (fun p hp=>(cK.mp hp).2.1) (fun p hp=>nomatch hp) rfl rfl fun h' F' N'=>⟨[],trivial,?_⟩))
  rw[ZT]
  refine S.EI hk hn F'.ns (fun b o hb hbl e=>(N' (b,o) (Zm _ (cK.mpr (c9 hbl hb e)))).1) (N' (ak,_) (ZM _ ZX)).1 (vq dd _ h3 rfl (by rw[fb];exact g1) (fun i hi=>?_)) (.inl fun es e=>by replace e:=(ho).symm.trans e;cases e)
  rw[pg,vu]
  by_cases hif:i=f-10
  ·clear hi;subst hif
   rw[if_pos ⟨rfl,(om [_,_] [(.s (.v 0),.n 3),(.n 3,.v 1)] (.s (.v 0),.v 1) rfl hf (lC g1))⟩,if_pos rfl]
   exact .inr (aY w rfl hw)
  ·rw[if_neg (fun q=>hif q.1),if_neg (fun q=>hif (C.pos _ _ hi hf q))]
   exact g2 i hi
 ·obtain rfl:=ju e
  refine W.obj fun p hp=>W.az fun vs hvs=>W.ite (fun hf s S=>?_) fun zz=>W.bad
  obtain rfl:=lL hvs
  have hf:=cU hf
  rw[rL hf]
  obtain⟨dd,es,n,h3,h2',F,I⟩:=S.uI ho hp hk
  have X:=B.eQ s.heap S.keep
  refine aF S.loc fun m hn hl=>?_
  have hne:dd≠Y.env.locals:=fun q=>(ZN.mp S.nd).1 (q▸ZM _ (ZK h3))
  have ht:takerIn D.K D.jx (cD f)=some none:=by unfold takerIn;rw[C.xi f _ (iQ hf)];rfl
  have F2:=xf (hsh:=PyData.keyHash D.w.params (cD f)) (tk:=s.toks+1) hf hw F
  refine aF (F.2.2.1 f _ (iQ hf)) fun r e1 e2=>?_
  refine set_plain X I C.Az (osa_dict (pre:=lZ s.heap Y.env.locals dd) (pb hn) (qv h2' hne) X I rfl C.uO ht C.nY (by rw[lookIn_dict,e1];rfl)
   (fun p hp=>(cK.mp hp).2.1) (fun p hp=>nomatch hp) (putName_dict _ _ _ _ _ _) rfl (ZD (ZD (Zp _ _) F2.2.1) (by decide)) fun h' F' N'=>⟨[],trivial,?_⟩)
  rw[ZT]
  exact S.EI h3 hn F'.ns (fun b o hb hbl e=>(N' (b,o) (Zm _ (cK.mpr (c9 hbl hb e)))).1) (N' (dd,_) (ZM _ ZX)).1 (nB _ _ rfl F2) (.inl fun es e=>by replace e:=(hp).symm.trans e;cases e)
end
end
section
variable {x:Int}{p:Pos}{v:V}{y:Value}
section
variable {D:Wd}{Y:Gm}{ρ:List Addr}{J:aq}{Z:List V}{s:Shared}
theorem aw.Hi(B:aV D Y)(C:jf D){v:Expr}{x:Str}{f:Nat}{m:M V}(hb:attributeBase v x Y.env (eval v Y.env)=eval v Y.env)(hx:x=attrName f)(h:aw D Y (eval v Y.env) (VR D) m) :
  aw D Y (eval (.Attribute v x p) Y.env) (VR D) (.bind m fun a=>vg a f):=fun ρ J Z=>by
 rw[arm_eval_Attribute,hb]
 refine(h ρ J Z).bind fun ρ1 a J1 Z1 xa zz ha=>W.bj ?_
 haveI hg:W D Y (ρ++ρ1) J1 Z1 (holding [xa] (getAttr xa x true)) (VR D) (vg a f J1 Z1):=W.holding (W.get B C ha hx)
 exact hg.by fun Q E s h=>Z8 (ZO h (fun r s' q=>Z8 (wpAny_letTemporaryGo (ZW q))) fun zz zz q=>q)
theorem aw.I9(B:aV D Y){v:Expr}{x:Str}{q:Pos}{i:Nat}{m:M V}(hx:Y.nm[i]? = some x)(h:aw D Y (eval v Y.env) (VR D) m) :
  aw D Y (eval (.NamedExpr (.Name x q) v p) Y.env) (VR D) (.bind m fun a=>.bind (bt i a) fun zz=>.ret a):=fun ρ J Z=>by
 exact(h ρ J Z).bind fun ρ1 a J1 Z1 xa zz ha=>(W.holding (W.lK B hx ha)).bind fun ρ2 zz J2 Z2 zz zz zz=>W.pure ha.mono
theorem aw.FY:aw D Y (eval (.Dict [] [] p) Y.env) (VR D) (.kH (.dict [])):=fun ρ J Z s S=>
 wpAny_Dict_empty (dS S ⟨[],(CF (#[]) 0 ⟨rfl,rfl,rfl⟩ rfl (fun e h=>by simp at h) .nil (by decide)),trivial,by simp⟩ rfl)
theorem aw.glob(B:aV D Y){x:Str}{i:Int}{t:Tok}(hx:Y.env.kindOf x=some .globalImplicit)(hv:D.mg x=some (.int i t))(hd:(x==("__debug__" : Str))=false):aw D Y (eval (.Name x p) Y.env) (VR D) (.ret (.int i)):=fun ρ J Z=>by
 haveI:=W.global (ρ:=ρ) (p:=p) (P:=VR D) (r:=.ok (.int i) J Z) B hx hv (W.pure ⟨t,rfl⟩) hd
 rwa [bind_pure] at this
theorem nJ{A:Around}{E:Value->Shared->Prop}{l:Addr}{items:Array Value}{n j:Nat}{t:Tok}{v:Value}{k:Int}{Q:Unit->Shared->Prop}(hl:IsL s.heap l items n)(hk : -(2 ^ 63)<=k/\k<2 ^ 63)(hj:seqIndex? k items.size=some j)(hlt:j<items.size)(h:Q () {s with heap:=s.heap.update l (Obj.mapSeq fun xs=>xs.setIfInBounds j v)}):wpAny (model D.prog D.w) A (setItem (.ref l) (.int k t) v) Q E s:=by
 haveI hT:s.TypeIs (.ref l) "list":=(aY _ hl rfl)
 haveI hx':=Yi hlt
 unfold setItem
 try with_reducible refine Zw ?_
 first | refine Z8 (ZW ?_) | skip
 refine Z8 (wpAny_sequenceKey hT (by decide) ?_)
 refine Z8 (W3 hT slot_list_setitem
  (Xm slot_list_setitem hT entry_list_setitem ?_ (args_list_setitem _ _ _)))
 show wpAny _ _ (Builtin.List.listSubscript? (.int k t)>>=_) _ _ s
 refine Z8 (wpAny_listSubscript_int (fitsIndex_both hk.1 hk.2) ?_)
 clear hk
 cases k with
 |ofNat i=>
  haveI hij:i=j:=by
   unfold seqIndex? at hj
   simp at hj
   omega
  clear hj;refine hij▸?_
  refine Z8 (Z8 (wpAny_seqItemAt hl rfl (ZW ?_)))
  refine hx'▸?_
  exact Z8 (wpAny_setSeqItemAt hl rfl (ZW (aY .none rfl (ZW h))))
 |negSucc i=>
  refine Z8 (Z8 ?_)
  refine Z8 (WX hl rfl (ZW (ZW ?_)))
  rw[hj,Xl,hx']
  exact Z8 (wpAny_setSeqItemAt hl rfl (ZW (aY .none rfl (ZW h))))
theorem bB.put:∀ {vs:List V} {xs:List Value} {k:Nat} {v:V} {y:Value},bB D ρ vs xs->VR D ρ v y->bB D ρ (V.put vs k v) (xs.set k y)
 |[],[],_,_,_,_,_=>trivial
 |_::_,_::_,0,_,_,h,hv=>⟨hv,h.2⟩
 |_::_,_::_,k+1,_,_,h,hv=>⟨h.1,bB.put h.2 hv⟩
 |[],_::_,_,_,_,h,_=>h.elim
 |_::_,[],_,_,_,h,_=>h.elim
theorem fP.rep{x:Int}{v:V}{y:Value}(hv:VR D ρ v y):∀ {es:List (Int×V)} {kvs:List (Int×Value)},fP D ρ es kvs->fP D ρ (putD.repD x v es) (kvs.map fun kv=>if kv.1=x then(kv.1,y) else kv)
 |[],[],_=>trivial
 |(k,w)::es,(k',z)::kvs,h=>by
  refine gm h fun h1 h2 h3=>?_;clear h
  haveI ih:=fP.rep (x:=x) hv h3
  obtain rfl:=(h1)
  simp only[putD.repD,Zi]
  by_cases q:k=x
  ·rw[q]
   rw[if_pos (by simp),if_pos rfl]
   exact c9 rfl hv ih
  ·rw[if_neg (by simpa using Ne.symm q),if_neg q]
   exact c9 rfl h2 ih
 |[],_::_,h=>h.elim
 |_::_,[],h=>h.elim
theorem fP.app(hv:VR D ρ v y):∀ {es:List (Int×V)} {kvs:List (Int×Value)},fP D ρ es kvs->fP D ρ (es++[(x,v)]) (kvs++[(x,y)])
 |[],[],_=>(c9 rfl hv trivial)
 |_::_,_::_,h=>(c9 h.1 h.2.1 (fP.app hv h.2.2))
 |[],_::_,h=>h.elim
 |_::_,[],h=>h.elim
theorem fP.any{x:Int}:∀ {es:List (Int×V)} {kvs:List (Int×Value)},fP D ρ es kvs->(es.lookup x).isSome=kvs.any fun kv=>decide (kv.1=x)
 |[],[],_=>rfl
 |(k,w)::es,(k',z)::kvs,h=>by
  refine gm h fun h1 h2 h3=>?_;clear h
  haveI ih:=fP.any (x:=x) h3
  obtain rfl:=(h1)
  simp only[Y4,List.any_cons]
  by_cases q:k=x
  ·clear ih;refine q▸?_;simp
  ·haveI:(x==k)=false:=Ys.mpr (Ne.symm q)
   refine this▸ih▸?_
   simp[q]
 |[],_::_,h=>h.elim
 |_::_,[],h=>h.elim
theorem fP.put{es:List (Int×V)}{kvs:List (Int×Value)}(hv:VR D ρ v y)(h:fP D ρ es kvs):fP D ρ (putD x v es) (stored kvs x y):=by
 delta putD stored
 rw[h.any]
 by_cases q:(kvs.any fun kv=>decide (kv.1=x))=true
 ·rw[if_pos q,if_pos q];exact h.rep hv
 ·rw[if_neg q,if_neg q];exact h.app hv
theorem fP.del{x:Int}:∀ {es:List (Int×V)} {kvs:List (Int×Value)},fP D ρ es kvs->fP D ρ (delD x es) (without kvs x)
 |[],[],_=>trivial
 |(k,w)::es,(k',z)::kvs,h=>by
  refine gm h fun h1 h2 h3=>?_;clear h
  haveI ih:=fP.del (x:=x) h3
  obtain rfl:=(h1)
  simp only[delD,without,YU]
  by_cases q:k=x
  ·rw[q]
   rw[if_pos (by simp),if_neg (by simp)]
   exact ih
  ·rw[if_neg (by simpa using Ne.symm q),if_pos (by simpa using q)]
   exact c9 rfl h2 ih
 |[],_::_,h=>h.elim
 |_::_,[],h=>h.elim
theorem zD{es:List (Int×V)}:(putD x v es).length<=es.length+1:=by
 unfold putD
 split
 ·haveI:∀ es:List (Int×V),(putD.repD x v es).length=es.length:=fun es=>by
   induction es with
   |nil=>rfl
   |cons e r ih=>obtain⟨k,w⟩:=e;simp only[putD.repD];split<;>simp[ih]
  rw[this];exact XH _
 ·simp
theorem rO{x:Int}:∀ {es:List (Int×V)},(delD x es).length<=es.length
 |[]=>ZE _
 |(k,w)::es=>by
  haveI:=rO (x:=x) (es:=es)
  simp only[delD]
  split<;>simp<;>omega
theorem W.set(B:aV D Y){a i:V}{x w:Value}(ha:VR D ρ a x)(hi:VR D ρ i y)(hv:VR D ρ v w):W D Y ρ J Z (setItem x y w) Un (Du a i v J Z):=by
 refine W.az fun j hj=>W.az fun n hn=>?_
 refine aF (ha.ref hj) fun aj hj qz1=>?_;clear ha;subst qz1
 obtain⟨t,rfl⟩:=hi.int hn
 refine W.obj fun o ho=>?_
 refine bI (dp o) (fun e=>?_) fun xs e=>?_
 ·refine W.az fun es hes=>W.ite (fun hl s S=>?_) fun zz=>W.bad
  obtain rfl:=eT hes
  have hl:=cU hl
  unfold M.zE
  refine lQ (hG j J.fz) (fun hz=>?_) fun hz=>?_
  ·trivial
  ·obtain⟨kvs,d1,d2,_⟩:=S.dict ho hj
   haveI hlen:=d2.length
   refine wpAny_setItem_pairs (XD D.prog D.w n t) d1 (fun h' hd hs=>⟨[],trivial,?_⟩) (hlen▸(dg (by omega)))
   rw[ZT]
   refine aF (Heap.dictOf_iff.mp hd) fun x' hx1 hx2=>?_
   haveI hp:(putD n v es).length<=es.length+1:=zD
   exact(S.upd (o:=.dict (putD n v es)) hj hs hx1 (iF _ hx2 (d2.put hv) (om [_,_] [(.s (.v 0),.n 1000),(.v 1,.s (.v 0))] (.v 1,.n 10000) rfl (ZC (by assumption)) hp)) (.inr hz)).toks _
 ·obtain rfl:=bW e
  refine W.ite (fun hs=>W.az fun k e s S=>?_) fun zz=>W.bad
  haveI hb1:=dO hs
  obtain⟨items,c,l1,r1,hle,z1⟩:=S.list ho hj
  haveI hlt:=(rD e).1
  refine nJ l1 ⟨by omega,by omega⟩ (z1▸(mj e)) (by rw[z1];exact hlt) ⟨[],trivial,?_⟩
  rw[ZT]
  exact S.upd hj (YB ..) (l1.update _) ⟨_,_,rfl,by rw[Array.toList_setIfInBounds];exact r1.put hv,by rw[fb];exact hle⟩ (.inl fun es e=>by replace e:=(ho).symm.trans e;cases e)
theorem W.del(B:aV D Y){a i:V}{x:Value}(ha:VR D ρ a x)(hi:VR D ρ i y):W D Y ρ J Z (delItem x y) Un (DR a i J Z):=by
 refine W.az fun j hj=>W.az fun n hn=>?_
 refine aF (ha.ref hj) fun aj hj qz5=>?_;clear ha;subst qz5
 obtain⟨t,rfl⟩:=hi.int hn
 refine W.obj fun o ho=>W.az fun es hes=>W.ite (fun hl s S=>?_) fun zz=>W.bad
 obtain rfl:=eT hes
 unfold M.zE
 refine lQ (hG j J.fz) (fun hz=>?_) fun hz=>?_
 ·trivial
 ·obtain⟨kvs,d1,d2,hle⟩:=S.dict ho hj
  haveI hlen:=d2.length
  haveI hlk:=d2.look n
  obtain⟨v,q⟩:=YV.mp hl
  rw[q] at hlk
  refine aF hlk fun y hy zz=>?_;clear hlk
  refine wpAny_delItem_slot d1.typeIs (by decide) F.slot_dict_delitem (call_meetsIn F.slot_dict_delitem d1.typeIs F.entry_dict_delitem (F.args_dict_delitem_2 _ _) (meets_dict_delitem_pairs (intKind D.prog D.w) aj (XD D.prog D.w n t))
   (EB kvs d1 (hlen▸(dg hle)) (by refine hy▸?_;rfl) (fun h' hd hs=>⟨[],trivial,?_⟩)))
  rw[ZT]
  refine aF (Heap.dictOf_iff.mp hd) fun x' hx1 hx2=>?_
  haveI hp:(delD n es).length<=es.length:=rO
  exact(S.upd (o:=.dict (delD n es)) hj hs hx1 (iF _ hx2 d2.del (ZD hp hle)) (.inr hz)).toks _
end
end
section
variable {o value:Expr}{x:M V}{op:Operator}{p q:Pos}
section
variable {D:Wd}{Y:Gm}{ρ:List Addr}{J:aq}{Z:List V}{s:Shared}
noncomputable def bS(D:Wd)(Y:Gm)(t:Value->Sem Unit)(m:V->M Unit):Prop:=∀ ρ J Z v y,VR D ρ v y->W D Y ρ J Z (t y) Un (m v J Z)
theorem W.kI{t:Sem Unit}{vs ks:List Value}{r:Rs Unit}(h:W D Y ρ J Z t Un r):W D Y ρ J Z (t>>=fun zz=>PySem.release vs ks) Un r:=
 h.by fun zz zz zz h=>Z8 (ZO h (fun zz zz q=>wpAny_release q) fun zz zz q=>q)
theorem bS.tg(B:aV D Y){hd:Nat}(hh:Md Y hd){t:Tg}{e:Expr}(ht:uW Y t e):bS D Y (assign e Y.env) (aA hd t):=fun zz zz zz zz zz hv=>W.asg B hh ht hv
theorem bS.idx(B:aV D Y){i:Expr}{y:M V}(ho:aw D Y (eval o Y.env) (VR D) x)(hi:aw D Y (eval i Y.env) (VR D) y) :
  bS D Y (assign (.Subscript o i p) Y.env) (fun v=>.bind x fun a=>.bind y fun j=>Du a j v):=fun ρ J Z v w hv=>by
 exact(W.holding (ho ρ J Z)).bind fun ρ1 a J1 Z1 xa zz ha=>(W.holding (hi _ _ _)).bind fun ρ2 j J2 Z2 xj zz hj=>W.bj (W.kI (W.holding (W.set B ha.mono hj hv.mono.mono)))
theorem bS.Hi(B:aV D Y)(C:jf D){n:Str}{f:Nat}(hn:n=attrName f)(ho:aw D Y (eval o Y.env) (VR D) x) :
  bS D Y (assign (.Attribute o n p) Y.env) (fun v=>.bind x fun a=>yG a f v):=fun ρ J Z v w hv=>by
 exact(W.holding (ho ρ J Z)).bind fun ρ1 a J1 Z1 xa zz ha=>W.bj (W.kI (W.holding (W.put B C ha hv.mono hn)))
theorem bS.nil:bS D Y (fun y=>assignAll y []) (fun zz=>.ret ()):=fun zz zz zz zz zz zz=>W.pure trivial
theorem bS.cons{t:Value->Sem Unit}{ts:List (Value->Sem Unit)}{m m':V->M Unit}(h:bS D Y t m)(hr:bS D Y (fun y=>assignAll y ts) m') :
  bS D Y (fun y=>assignAll y (t::ts)) (fun v=>.bind (m v) fun zz=>m' v):=fun ρ J Z v y hv=>by
 cases ts with
 |nil=>
  haveI h1:=(h ρ J Z v y hv).bind (k:=fun zz=>assignAll y []) fun ρ1 zz J1 Z1 zz zz zz=>hr (ρ++ρ1) J1 Z1 v y hv.mono
  haveI e:(t y>>=fun zz=>assignAll y [])=t y:=by
   exact bind_pure (t y)
  rwa [e] at h1
 |cons t' ts=>
  exact(W.holding (h ρ J Z v y hv)).bind fun ρ1 zz J1 Z1 zz zz zz=>hr _ _ _ v y hv.mono
theorem aw.lV{targets:List Expr}{m:V->M Unit}(hx:aw D Y (eval value Y.env) (VR D) x)(ha:bS D Y (fun y=>assignAll y ((assignEach targets Y.env).map (·.2))) m)(hs:swapsWithSole targets value p.line Y.env=pure false)(hw:swappedStores targets value Y.env=pure none):aw D Y (exec (.Assign targets value p) Y.env) (bX D) (.bind x fun a=>.bind (m a) fun zz=>.ret .next):=fun ρ J Z=>by
 refine W.nest (hx ρ J Z) (fun ρ1 a J1 Z1 xa zz hv=>(ha _ _ _ a xa hv).bind fun ρ2 zz J2 Z2 zz zz zz=>W.pure rfl) fun s Q E S hq=>?_
 refine Z8 (YR ?_)
 refine hs▸?_
 refine Z8 (ZW ?_)
 refine Z8 (ZO hq (fun v s₁ h₁=>?_) fun zz zz x=>x)
 exact hw▸(Z8 (ZW h₁))
noncomputable def iD(Y:Gm)(is:List Nat)(ns:List Str):Prop:=is.map (fun i=>Y.nm[i]?)=ns.map some
theorem W.aug{a b:V}{x y:Value}(ha:VR D ρ a x)(hb:VR D ρ b y):W D Y ρ J Z (inplaceOp op x y) (VR D) (xI op a b J Z):=by
 refine W.az fun i hi=>W.az fun j hj=>?_
 obtain⟨t,rfl⟩:=ha.int hi
 obtain⟨u,rfl⟩:=hb.int hj
 cases op with
 |Add=>exact fun s S=>AutoIntOps.iadd_0 (bp S _ ⟨_,rfl⟩)
 |Sub=>exact fun s S=>AutoIntOps.isub_0 (bp S _ ⟨_,rfl⟩)
 |_=>exact W.bad
theorem aw.dZ(B:aV D Y){x:Str}{i:Nat}{m:M V}(hx:Y.nm[i]? = some x)(h:aw D Y (eval value Y.env) (VR D) m) :
  aw D Y (exec (.AugAssign (.Name x q) op value p) Y.env) (bX D) (.bind (af i) fun a=>.bind m fun b=>.bind (xI op a b) fun c=>.bind (bt i c) fun zz=>.ret .next):=fun ρ J Z=>by
 exact W.bj ((W.load B hx).bind fun ρ1 a J1 Z1 xa zz ha=>(W.holding (h _ _ _)).bind fun ρ2 b J2 Z2 xb zz hb=>W.bj ((W.operate (W.aug ha.mono hb)).bind fun ρ3 c J3 Z3 xc zz hc=>W.bj ((W.bindName B hx hc).bind fun ρ4 zz J4 Z4 zz zz zz=>W.pure rfl)))
theorem aw.AO(B:aV D Y)(C:jf D){n:Str}{f:Nat}{m m':M V}(hn:n=attrName f)(ho:aw D Y (eval o Y.env) (VR D) m')(h:aw D Y (eval value Y.env) (VR D) m) :
  aw D Y (exec (.AugAssign (.Attribute o n q) op value p) Y.env) (bX D) (.bind m' fun x=>.bind (vg x f) fun a=>.bind m fun b=>.bind (xI op a b) fun c=>.bind (yG x f c) fun zz=>.ret .next):=fun ρ J Z=>by
 haveI e:exec (.AugAssign (.Attribute o n q) op value p) Y.env=(do
   standAt p
   let ov <-eval o Y.env
   let new <-holding [ov] do
    standAt q.atName
    let old <-getAttr ov n true
    let v <-holding [old] (eval value Y.env)
    standAt p
    operate [old,v] (inplaceOp op old v)
   standAt q.atName
   holding [new,ov] (setAttr ov n new)
   release [new,ov] []
   pure .next):=rfl
 refine W.bj ((ho ρ J Z).bind fun ρ1 a J1 Z1 xa zz ha=>W.hold ?_)
 rw[bind_assoc]
 refine W.bj ?_
 rw[bind_assoc]
 refine(W.get B C ha hn).bind fun ρ2 b J2 Z2 xb zz hb=>?_
 rw[bind_assoc]
 refine(W.holding (h _ _ _)).bind fun ρ3 c J3 Z3 xc zz hc=>?_
 refine W.bj ((W.operate (W.aug hb.mono hc)).bind fun ρ4 d J4 Z4 xd zz hd=>W.bj ((W.holding (W.put B C ha.mono.mono.mono hd hn)).bind fun ρ5 zz J5 Z5 zz zz zz=>W.release (W.pure rfl)))
theorem aw.Al(B:aV D Y){i:Expr}{y:M V}(ho:aw D Y (eval o Y.env) (VR D) x)(hi:aw D Y (eval i Y.env) (VR D) y) :
  aw D Y (exec (.Delete [.Subscript o i q] p) Y.env) (bX D) (.bind x fun a=>.bind y fun b=>.bind (DR a b) fun zz=>.ret .next):=fun ρ J Z=>by
 dsimp only[arm_exec_Delete,arm_deleteEach_cons,arm_deleteEach_nil,arm_delete_Subscript]
 refine W.bj ?_
 rw[bind_assoc,bind_assoc]
 refine(ho ρ J Z).bind fun ρ1 a J1 Z1 xa zz ha=>?_
 rw[bind_assoc]
 refine(W.holding (hi _ _ _)).bind fun ρ2 b J2 Z2 xb zz hb=>?_
 rw[bind_assoc]
 refine W.bj ?_
 rw[bind_assoc]
 refine(W.holding (W.del B ha.mono hb)).bind fun ρ3 zz J3 Z3 zz zz zz=>?_
 exact W.release (W.pure rfl)
end
end
section
variable {A:Around}{x y:M Fl}{n:Nat}
section
variable {D:Wd}{Y:Gm}{ρ:List Addr}{J:aq}{Z:List V}{s:Shared}
@[reducible] noncomputable def Gm.at(Y:Gm)(A:Around):Gm:={Y with A:=A}
theorem St.at(S:St D Y ρ J Z s):St D (Y.at A) ρ J Z s:=⟨S.keep,S.dU,S.loc,S.obj,S.num,S.full,S.nd,S.ap,S.os,S.gen,S.d4⟩
theorem m6.un{c:Nat}{a:V}{x:Addr}{T:Option Addr}(X:m6 D (Y.at A) ρ c a x T s):m6 D Y ρ c a x T s:=by
 obtain⟨o,vs,x1,x2,x3,x4,x5,x6,x7,x8,x9⟩:=X
 refine⟨o,vs,x1,x2,x3,x4,x5,x6,x7,x8,?_⟩
 cases T with
 |none=>exact x9
 |some T=>obtain⟨y1,y2,y3,y4,oT,ts,y5,y6,y7⟩:=x9;exact⟨y1,y2,y3,y4,oT,ts,y5,y6,y7⟩
theorem St.un(S:St D (Y.at A) ρ J Z s):St D Y ρ J Z s:=⟨S.keep,S.dU,S.loc,S.obj,S.num,S.full,S.nd,S.ap,S.os,S.gen,S.d4⟩
theorem rb(c:Nat):isSubtype (.type (aT c)) (.type "BaseException")=pure true/\isSubtype (.type ((Manifest.find? (aT c)).elim "type" fun x=>x.metatype)) (.type "tuple")=pure false/\
  isSubtype (.type (aT c)) (.type (aT c))=pure true:=by
 unfold aT
 split
 ·exact c9 (by kernel_rfl) (by kernel_rfl) (by kernel_rfl)
 ·exact c9 (by kernel_rfl) (by kernel_rfl) (by kernel_rfl)
 ·exact c9 (by kernel_rfl) (by kernel_rfl) (by kernel_rfl)
theorem kX(c:Nat):aT (c % 100)=aT c:=by unfold aT;rw[Nat.mod_mod]
theorem XT.kind{c:Nat}{a:V}{e:Value}(hcn:c % 100=n)(X:XT D Y ρ c a e s):∃ xa,e = .ref xa/\s.TypeIs (.ref xa) (aT n):=by
 obtain⟨xa,T,rfl,o,vs,x1,x2,_⟩:=X
 exact aY xa rfl (aY o x1 (x2.trans (by rw[<-hcn,kX])))
theorem W.xB{t:Sem Flow}{h:Nat->V->M Fl}{r:Rs Fl}(hx:W D Y ρ J Z t (bX D) (x J Z))(S:St D Y ρ J Z s)(hr:iY x (fun c a=>nW c n (h c a)) J Z=r)(hbad:r≠.bad){Q:Flow->Shared->Prop}{E:Value->Shared->Prop}(ok:∀ g s1,QR D Y ρ (bX D) r g s1->Q g s1)(ex:∀ c a J1 Z1 ρ1 e s1,c % 100=n->h c a J1 Z1=r->St D Y (ρ++ρ1) J1 Z1 s1->XR D Y (ρ++ρ1) c a e s1->E e s1):wpAny (model D.prog D.w) Y.A t Q E s:=by
 haveI h1:=hx s S
 dsimp only[iY] at hr
 refine pf (x J Z) (fun f J1 Z1 q=>?_) (fun c a J1 Z1 q=>?_) fun q=>?_
 ·rw[q] at hr h1
  exact ZO h1 (fun g s1 h=>ok g s1 (hr▸h)) fun zz zz h=>h.elim
 ·rw[q] at hr h1
  dsimp only at hr
  unfold nW at hr
  refine lQ (Nat.beq (c % 100) n) (fun hc=>?_) fun hc=>?_
  ·rw[hc] at hr;exact absurd hr.symm hbad
  ·replace hr:=hc▸hr
   exact ZO h1 (fun zz zz h=>h.elim) fun e s1 h=>let ⟨ρ1,X,S1⟩:=h;ex c a J1 Z1 ρ1 e s1 (Zr hc) hr S1 X
 ·rw[q] at hr;exact absurd hr.symm hbad
theorem Bd{r:Rs Fl}(h:calm y J Z=r)(hb:r≠.bad):∃ f J2 Z2,y J Z = .ok f J2 Z2/\r = .ok f J2 Z2:=by
 unfold calm at h
 refine pf (y J Z) (fun f J2 Z2 q=>?_) (fun zz zz zz zz q=>?_) fun q=>?_
 ·rw[q] at h;exact sx f J2 Z2 rfl h.symm
 ·rw[q] at h;exact absurd h.symm hb
 ·rw[q] at h;exact absurd h.symm hb
theorem bX.mono{ρ':List Addr}{f:Fl}{g:Flow}(h:bX D ρ f g):bX D (ρ++ρ') f g:=by
 cases f with
 |ret v=>refine aF h fun y e1 e2=>?_;clear h;exact aY y e1 e2.mono
 |_=>exact h
theorem aw.iV(B:aV D Y)(R:jY Y){body suite:List Stmt}{b₀:Stmt}{t:Str}{tp hp p:Pos}(ht:t=Str.ofString (aT n))(hk:Y.env.kindOf t=some .globalImplicit)(hm:D.mg t=none)(hb:D.mb t=some (.type (aT n)))(hx:aw D Y (execs body Y.env) (bX D) x)(hy:∀ e,aw D (Y.at (Y.A.mark (some (.ref e)))) (execs (b₀::suite) Y.env) (bX D) y) :
  aw D Y (exec (.Try body [.ExceptHandler (some (.Name t tp)) none (b₀::suite) hp] [] [] p) Y.env) (bX D) (Mine.iV n x y):=fun ρ J Z=>W.of fun s S hbad=>by
 refine wpAny_Try_except ?_
 generalize hr:Mine.iV n x y J Z=r at hbad ⊢
 refine(hx ρ J Z).xB S hr hbad (fun g s1 h=>?_) fun c a J1 Z1 ρ1 e s1 hcn hr2 S1 X=>?_
 ·cases g with
  |next=>exact ZW h
  |_=>exact h
 ·refine S1.note B R rfl X fun s2 S2 X2=>S2.fA X2 fun s3 S3 X3=>?_
  refine aF (X3.kind hcn) fun xa qz1 hX=>?_;clear X2;clear X;subst qz1
  refine gm (rb n) fun f1 f2 f3=>?_
  refine wpAny_handleBy_builtin f1 f2 f3 ?_
  haveI g:=B.glob s3.heap S3.keep
  refine YT B.kind hk (Yp g.1 hm g.2 hb (c9 rfl hX ?_)) (by refine ht▸?_;unfold aT;split<;>decide +kernel)
  refine S3.fA X3 fun s4 S4 X5=>?_
  refine g9 (Bd hr2 hbad) fun f J2 Z2 q qz3=>?_;clear hbad;clear hr2;clear hr;refine qz3▸?_
  haveI hz:=hy xa (ρ++ρ1) J1 Z1
  rw[q] at hz
  refine ZO (hz s4 S4.at) (fun g s5 h=>?_) fun zz zz h=>h.elim
  obtain⟨ρ5,h1,h2⟩:=h
  exact⟨ρ1++ρ5,by rw[<-ZZ];exact h1,by rw[<-ZZ];exact h2.un⟩
set_option backward.match.sparseCases true in
theorem aw.ya(B:aV D Y)(R:jY Y){body final:List Stmt}{f₀:Stmt}{p:Pos}{z:M Fl}(hx:aw D Y (execs body Y.env) (bX D) x)(hy:aw D Y (execs (f₀::final) Y.env) (bX D) y)(hz:∀ e Y',Y.Le Y'->Md (Y'.at (Y.A.mark (some (.ref e)))) 1->aw D (Y'.at (Y.A.mark (some (.ref e)))) (execs (f₀::final) Y.env) (bX D) z) :
  aw D Y (exec (.Try body [] [] (f₀::final) p) Y.env) (bX D) (cH x y z):=fun ρ J Z=>W.of fun s S hbad=>by
 refine wpAny_Try_finally ?_
 generalize hr:cH x y z J Z=r at hbad ⊢
 unfold cH at hr
 have h1:=hx ρ J Z s S
 cases q:x J Z with
 |bad=>rw[q] at hr;exact absurd hr.symm hbad
 |ok f J1 Z1=>
  rw[q] at hr h1
  refine ZO h1 (fun g s1 h=>?_) fun zz zz h=>h.elim
  obtain⟨ρ1,hg,S1⟩:=h
  have go:wpAny (model D.prog D.w) Y.A (execs (f₀::final) Y.env) (fun g' s'=>match g' with
     |.next=>QR D Y ρ (bX D) r g s'
     |g'=>QR D Y ρ (bX D) r g' s') (notedBy (model D.prog D.w) Y.A Y.env (cameBackBy (model D.prog D.w) Y.A Y.env (ER D Y ρ r))) s1:=by
   refine(hy (ρ++ρ1) J1 Z1).step S1 hr hbad (fun ρ2 k J2 Z2 g' s2 hk S2 e2=>?_) fun v s' h=>h.through B R rfl fun s3 h3=>h3.wide
   refine e2▸?_
   rw[ZZ] at S2 hk
   clear e2;cases k with
   |next=>
    cases(show g' = .next from hk)
    exact⟨ρ1++ρ2,by rw[<-ZZ];exact bX.mono hg,S2⟩
   |brk=>obtain rfl:=(show g' = .brk from hk);exact⟨_,rfl,S2⟩
   |cont=>obtain rfl:=(show g' = .cont from hk);exact⟨_,rfl,S2⟩
   |ret v=>refine aF hk fun w qz5 hw=>?_;clear hk;subst qz5;exact⟨_,(aY w rfl hw),S2⟩
  clear hg;cases g with
  |next=>exact ZW go
  |_=>exact go
 |exc c a J1 Z1=>
  rw[q] at hr h1
  dsimp only at hr
  cases hc:Nat.blt c 100 with
  |false=>rw[hc] at hr;exact absurd hr.symm hbad
  |true=>
   replace hr:=hc▸hr
   have hc:=cU hc
   refine ZO h1 (fun zz zz h=>h.elim) fun e s1 h=>?_
   obtain⟨ρ1,X,S1⟩:=h
   refine S1.note B R rfl X fun s2 S2 X2=>?_
   obtain⟨xa,T,rfl,_⟩:=id X2
   refine⟨ref_ne_byPass _,S2.note B R rfl X2.xr fun s3 S3 X3=>S3.fA X3 fun s4 S4 X4=>?_⟩
   obtain⟨xb,T,e,o,vs,x1,x2,x3,x4,x5,x6,x7,x8,y1,y2,y3,y4,oT,ts,y5,y6,y7⟩:=X4
   clear X2;clear X3;clear X;obtain rfl:=XC e
   have S6:=(S4.gu x5 x1).gu y3 y5
   generalize hkp:cZ (cZ Y.kp xa o) T oT=kp' at S6
   have low:∀ b w,Y.kp b=some w->kp' b=some w:=fun b w h=>by
    rw[<-hkp,cG (by rintro rfl;rw[y4] at h;contradiction),cG (by rintro rfl;rw[x6] at h;contradiction)];exact h
   have kx:kp' xa=some o:=by exact hkp▸(cG (Ne.symm y2))▸aP
   have kT:kp' T=some oT:=by exact hkp▸aP
   clear hkp
   refine((hz xa (Y.cT kp' Y.fz) (.of low) (vx xa o vs rfl kx x3 (x8 hc))) (ρ++ρ1) J1 Z1).step (St.at (Y:=Y.cT kp' Y.fz) S6) hr hbad (fun ρ2 k J2 Z2 g' s5 hk Sc e2=>?_) fun v s5 h=>?_
   ·cases k with
    |next=>
     obtain rfl:=(hk)
     refine e2▸?_
     have Sc':St D Y (ρ++ρ1++ρ2) J2 Z2 s5:=St.drop (Y:=Y) (kp:=Y.kp) (fz:=Y.fz) (St.un (Y:=Y.cT kp' Y.fz) Sc) low fun zz zz h=>h
     have no:∀ b w,kp' b=some w->b∉Y.own (ρ++ρ1++ρ2):=fun b w h hm=>by
      have:=Sc.ap b hm
      rw[show((Y.cT kp' Y.fz).at (Y.A.mark (some (.ref xa)))).kp b=some w from h] at this;exact Zx _ this
     refine Sc'.passOn (c:=c) (a:=a) ⟨xa,T,rfl,o,vs,Sc.keep _ _ kx,x2,x3,x4,no _ _ kx,x6,x7.imp id fun⟨w,h1,h2⟩=>(aY w h1 h2.mono),x8,y1,y2,no _ _ kT,y4,oT,ts,Sc.keep _ _ kT,y6,y7⟩ fun s6 S7 X7=>?_
     exact⟨ρ1++ρ2,by rw[<-ZZ];exact X7.xr,by rw[<-ZZ];exact S7⟩
    |brk=>exact absurd e2.symm hbad
    |cont=>exact absurd e2.symm hbad
    |ret v=>exact absurd e2.symm hbad
   ·clear hr;cases r with
    |ok _ _ _=>exact h.elim
    |bad=>exact h.elim
    |exc c' a' J2 Z2=>
     obtain⟨ρ2,⟨xc,Tc,rfl,Xc⟩,Sc⟩:=h
     have Sc':St D Y (ρ++ρ1++ρ2) J2 Z2 s5:=St.drop (Y:=Y) (kp:=Y.kp) (fz:=Y.fz) (St.un (Y:=Y.cT kp' Y.fz) Sc) low fun zz zz h=>h
     have Xc':m6 D Y (ρ++ρ1++ρ2) c' a' xc Tc s5:=m6.drop (Y:=Y) (kp:=kp') (fz:=Y.fz) (m6.un (Y:=Y.cT kp' Y.fz) Xc) low
     refine Sc'.note B R rfl ⟨xc,Tc,rfl,Xc'⟩ fun s6 S7 X7=>S7.back X7 fun s7 S8 X8=>?_
     exact⟨ρ1++ρ2,by rw[<-ZZ];exact X8.xr,by rw[<-ZZ];exact S8⟩
end
end
section
variable {A:Around}{b:dG}{ns:List (Str×NameKind)}{k:NameKind}{x:Str}{m:Str->Option Value}
noncomputable def B7(out:List Str)(x:Str)(k:NameKind)(q:Sk):Bool:=match q with
 |.loc=>k==.local
 |.own=>k==.cell
 |.cM p=>k==.free&&out[p]? == some x
noncomputable def yF(out:List Str):dG->List (Str×NameKind)->Bool
 |b,[]=>b.isEmpty
 |b,p::r=>if(p.2==.globalImplicit)=true then yF out b r else match b with
  |[]=>false
  |q::b'=>(q.1==p.1&&B7 out p.1 p.2 q.2)&&yF out b' r
noncomputable def bA(b:dG):List Str:=b.map (·.1)
inductive fe(out:List Str):dG->List (Str×NameKind)->Prop where
 |nil:fe out [] []
 |loc {x:Str} {b:dG} {r:List (Str×NameKind)} (t:fe out b r):fe out ((x,.loc)::b) ((x,.local)::r)
 |own {x:Str} {b:dG} {r:List (Str×NameKind)} (t:fe out b r):fe out ((x,.own)::b) ((x,.cell)::r)
 |cM {x:Str} {p:Nat} {b:dG} {r:List (Str×NameKind)} (h:out[p]? = some x) (t:fe out b r):fe out ((x,.cM p)::b) ((x,.free)::r)
 |glob {x:Str} {b:dG} {r:List (Str×NameKind)} (t:fe out b r):fe out b ((x,.globalImplicit)::r)
theorem fe.one{out:List Str}{r:List (Str×NameKind)}(t:fe out b r):∀ {q:Sk},B7 out x k q=true->fe out ((x,q)::b) ((x,k)::r)
 |.loc,h=>Y9.mp h▸.loc t
 |.own,h=>Y9.mp h▸.own t
 |.cM _,h=>Y9.mp (ZR.mp h).1▸.cM (Y9.mp (ZR.mp h).2) t
theorem qc{out:List Str}:∀ {b:dG},yF out b ns=true->fe out b ns:=by
 induction ns with
 |nil=>
  intro b h
  cases b with
  |nil=>exact .nil
  |cons _ _=>contradiction
 |cons p r ih=>
  intro b h
  by_cases g:(p.2==.globalImplicit)=true
  ·exact(show p=(p.1,.globalImplicit) from Y9.mp g▸rfl)▸.glob (ih ((if_pos g).symm.trans h))
  ·replace h:=(if_neg g).symm.trans h
   cases b with
   |nil=>contradiction
   |cons q b'=>
    replace h:=ZR.mp h
    haveI g:=ZR.mp h.1
    exact(show(p.1,q.2)=q from Y9.mp g.1▸rfl)▸(ih h.2).one g.2
theorem lookup_mem{α:Type}{k:α}:∀ {ns:List (Str×α)},(ns.map (·.1)).Nodup->(x,k)∈ns->ns.lookup x=some k
 |(y,k')::r,hn,h=>by
  rw[Zi,ZN] at hn
  rcases ZS.mp h with e | h
  ·refine bU (Y7 e) fun qz1 qz2=>?_;clear h;clear hn;refine qz1▸?_;refine qz2▸?_;refine(Y4).trans ?_;rw[Y3]
  ·have:(x==y)=false:=Ys.mpr fun e=>hn.1 (e▸Y8 (f:=(·.1)) h)
   refine(Y4).trans ?_;exact this▸(lookup_mem hn.2 h)
 |[],_,h=>by cases h
set_option tactic.hygienic true in
theorem fg:∀ {ns:List (Str×NameKind)} {n:Nat} {acc:List (Str×Addr)},(x,NameKind.cell)∉ns->(cellsFrom n ns acc).lookup x=acc.lookup x
 |[],_,_,_=>rfl
 |(y,k)::r,n,acc,h=>by
  dsimp only[cellsFrom]
  haveI hr:=fun q=>h (ZY _ q)
  split
  ·rename_i hk
   refine(fg hr).trans ?_
   haveI:(x==y)=false:=Ys.mpr fun e=>h (e▸(Y9.mp hk)▸ZX)
   refine(Y4).trans ?_;exact this▸rfl
  ·exact fg hr
section
variable {D:Wd}{Y:Gm}{ρ:List Addr}{J:aq}{Z:List V}{s:Shared}
inductive EX(ρ:List Addr)(ns:List (Str×NameKind))(cells:List (Str×Addr))(x:Str)(v:V):Prop where
 |ah (h1:v = .ah) (h2:(x,NameKind.local)∈ns)
 |aI (k:Nat) (a:Addr) (h1:aE v=some k) (h2:(x,NameKind.cell)∈ns∨(x,NameKind.free)∈ns) (h3:cells.lookup x=some a) (h4:ρ[k]? = some a)
theorem EX.Ip{ρ:List Addr}{cells:List (Str×Addr)}{y:Str}{v:V}(h:EX ρ ns cells x v):EX ρ ((y,k)::ns) cells x v:=by
 cases h with
 |ah h1 h2=>exact .ah h1 (ZY _ h2)
 |aI j a h1 h2 h3 h4=>exact .aI j a h1 (h2.imp (ZY _) (ZY _)) h3 h4
noncomputable def A7(ρ:List Addr)(ns:List (Str×NameKind))(cells:List (Str×Addr))(b:dG)(e:List V):Prop:=e.length=b.length/\∀ i x,(bA b)[i]? = some x->EX ρ ns cells x (V.at e i)
theorem A7.cons{ρ:List Addr}{cells:List (Str×Addr)}{e:List V}{sk:Sk}{v:V}(h:A7 ρ ns cells b e)(h0:EX ρ ((x,k)::ns) cells x v):A7 ρ ((x,k)::ns) cells ((x,sk)::b) (v::e):=by
 refine⟨ZV (· + 1) h.1,fun i y hy=>?_⟩
 cases i with
 |zero=>obtain rfl:=Z9 hy;exact h0
 |succ i=>exact(h.2 i y hy).Ip
theorem xk(hb:fe Y.nm b ns):∀ {ρ:List Addr} {J:aq} {s:Shared} {acc:List (Str×Addr)},(ns.map (·.1)).Nodup->St D Y ρ J Z s->
  (∀ x,(x,NameKind.free)∈ns->(Y.env.kindOf x=some .cell∨Y.env.kindOf x=some .free)/\acc.lookup x=Y.env.cells.lookup x)->
  ∃ ρ',St D Y (ρ++ρ') (bq Z b J).1 Z {s with heap:=pushCells s.heap ns}/\A7 (ρ++ρ') ns (cellsFrom s.heap.objs.size ns acc) b (bq Z b J).2:=by
 induction hb with
 |nil=>
  intro ρ J s acc _ S _
  exact iF [] (by rw[ZT];exact S) rfl (fun i x h=>by contradiction)
 | @loc y b r t ih=>
  intro ρ J s acc hn S hf
  rw[Zi,ZN] at hn
  obtain⟨ρ',h1,h2⟩:=ih hn.2 S fun x h=>hf x (ZY _ h)
  refine aY ρ' (by dsimp only[pushCells];exact h1) ?_
  exact h2.cons (.ah rfl ZX)
 | @own y b r t ih=>
  intro ρ J s acc hn S hf
  rw[Zi,ZN] at hn
  haveI nocell:(y,NameKind.cell)∉r:=fun q=>hn.1 (Y8 q)
  haveI S1:St D Y (ρ++[s.heap.objs.size]) ⟨J.n+1,J.t.ins J.n (.cell .ah),J.fz⟩ Z {s with heap:=s.heap.push {cls:=.type "cell",data:=.cell none}}:=S.new (aY none rfl (.inl ⟨rfl,rfl⟩)) rfl
  obtain⟨ρ',h1,h2⟩:=ih (acc:=(y,s.heap.objs.size)::acc) hn.2 S1 fun x h=>by
   refine bU (hf x (ZY _ h)) fun g1 g2=>?_
   have:(x==y)=false:=Ys.mpr fun e=>hn.1 (e▸Y8 (f:=(·.1)) h)
   exact⟨g1,by rw[Y4,this];exact g2⟩
  haveI hz:(s.heap.push {cls:=.type "cell",data:=.cell none}).objs.size=s.heap.objs.size+1:=Heap.size_push ..
  rw[ZZ] at h1 h2
  dsimp only at h2
  rw[hz] at h2
  refine aY (s.heap.objs.size::ρ') (by dsimp only[pushCells];exact h1) ?_
  refine h2.cons (.aI J.n s.heap.objs.size rfl (.inl ZX) ?_ ?_)
  ·rw[fg nocell,Y4,Y3]
  ·rw[S.num,ZF (ZE _),XW];rfl
 | @cM y p b r h t ih=>
  intro ρ J s acc hn S hf
  rw[Zi,ZN] at hn
  have nocell:(y,NameKind.cell)∉r:=fun q=>hn.1 (Y8 (f:=(·.1)) q)
  refine aF (ih hn.2 S fun x h=>hf x (ZY _ h)) fun ρ' h1 h2=>?_
  refine aY ρ' (by dsimp only[pushCells];exact h1) ?_
  refine bU (hf y ZX) fun g1 g2=>?_
  refine aF S.loc fun m zz hl=>?_
  have hs:=hl.2 p y h
  refine h2.cons ?_
  refine bI (aE (V.at Z p)) (fun hv=>?_) fun j hv=>?_
  ·have:=(hs.loc hv).1
   rcases g1 with g1 | g1<;>(replace this:=g1▸this;have h__:=Z9 this;cases h__)
  ·refine bU (hs.aI hv) fun zz qz1=>?_;obtain⟨a,e1,e2⟩:=qz1
   exact .aI j a hv (.inr ZX) (by rw[fg nocell,g2];exact e1) (get_append e2)
 | @glob y b r t ih=>
  intro ρ J s acc hn S hf
  rw[Zi,ZN] at hn
  obtain⟨ρ',h1,h2⟩:=ih hn.2 S fun x h=>hf x (ZY _ h)
  refine aY ρ' (by dsimp only[pushCells];exact h1) ?_
  exact⟨h2.1,fun i x hx=>(h2.2 i x hx).Ip⟩
@[reducible] noncomputable def Gm.inner(Y:Gm)(A:Around)(env:Env)(m:Str->Option Value)(nm:List Str):Gm:={A:=A,env:=env,kp:=Y.kp,fr:=(Y.env.locals,m)::Y.fr,nm:=nm,fz:=Y.fz,kg:=Y.kg}
theorem St.enter{L:Addr}{oL:Obj}{ep:Nat}{env:Env}{nm:List Str}{Z':List V}(S:St D (Y.cT (cZ Y.kp L oL) Y.fz) ρ J Z s)(hk:Y.kp L=none)(hd:oL.data = .dict #[] ep)(he:env.locals=L)(hm:s.heap.Ns Y.env.locals m)(hs:Sl D (Y.inner A env m nm) ρ (fun zz=>none) Z'):St D (Y.inner A env m nm) ρ J Z' s where
 keep:=fun b o e=>S.keep b o (a8 hk b o e)
 dU:=fun p hp=>by
  rcases ZS.mp hp with rfl | hp
  ·exact hm
  ·exact S.dU p hp
 loc:=(aY (fun zz=>none) (by
  rw[he]
  exact⟨oL,_,_,S.keep L oL aP,hd,fun e h=>by simp at h,fun n=>rfl⟩) hs)
 obj:=S.obj
 num:=S.num
 full:=S.full
 nd:=by
  haveI hL:=fun hm=>by
   haveI:=S.ap L hm
   rw[show(Y.cT (cZ Y.kp L oL) Y.fz).kp L=some oL from aP] at this;exact Zx _ this
  show(env.locals::((Y.env.locals::Y.fr.map (·.1))++ρ)).Nodup
  exact he▸(ZN.mpr ⟨hL,S.nd⟩)
 ap:=fun b hb=>by
  rcases ZS.mp hb with rfl | hb
  ·show Y.kp env.locals=none
   exact he▸hk
  ·haveI:=S.ap b hb
   refine bI (Y.kp b) (fun q=>?_) fun o q=>?_
   ·rfl
   ·rw[show(Y.cT (cZ Y.kp L oL) Y.fz).kp b=some o from a8 hk b o q] at this;contradiction
 os:=S.os
 gen:=S.gen
 d4:=S.d4
theorem St.leave{env:Env}{nm:List Str}{Z':List V}(S:St D (Y.inner A env m nm) ρ J Z' s)(hs:Sl D Y ρ m Z):St D Y ρ J Z s where
 keep:=S.keep
 dU:=fun p hp=>S.dU p (ZY _ hp)
 loc:=(aY m (S.dU _ ZX) hs)
 obj:=S.obj
 num:=S.num
 full:=S.full
 nd:=(ZN.mp S.nd).2
 ap:=fun b hb=>S.ap b (ZY _ hb)
 os:=S.os
 gen:=S.gen
 d4:=S.d4
theorem fZ{E:Value->Shared->Prop}{scope:Scope}{globals:Addr}{cl:List (Str×Addr)}{binds:List (Str×Value)}{qual:Str}{func:Option Addr}{code:Value}{around:Option Env}{builtins:Addr}{Q:Env->Shared->Prop}(hn:(scope.names.map (·.1)).Nodup)(hb:fe Y.nm b scope.names)(S:St D Y ρ J Z s)(hm:s.heap.Ns Y.env.locals m)(hcl:∀ x,(x,NameKind.free)∈scope.names->(Y.env.kindOf x=some .cell∨Y.env.kindOf x=some .free)/\cl.lookup x=Y.env.cells.lookup x)(h:∀ L s' ρ',(∀ A' env',env'.locals=L->env'.cells=cellsFrom (L+1) scope.names cl->(∀ x k,(x,k)∈scope.names->env'.kindOf x=some k∨(k = .free/\env'.kindOf x=some .cell))->
    St D (Y.inner A' env' m (bA b)) (ρ++ρ') (bq Z b J).1 (bq Z b J).2 s')->
   wpAny (model D.prog D.w) A (forIn binds PUnit.unit fun x zz=>do storeName (newEnv scope L globals (cellsFrom (L+1) scope.names cl) qual func code around builtins) x.1 x.2;pure (ForInStep.yield PUnit.unit))
    (fun zz s''=>Q (newEnv scope L globals (cellsFrom (L+1) scope.names cl) qual func code around builtins) s'') E s') :
  wpAny (model D.prog D.w) A (newFunctionEnv scope globals cl binds qual func code around builtins) Q E s:=by
 haveI hfresh:=S.fresh
 haveI hfk:=S.dM
 haveI key:∀ (oL:Obj),oL.data = .dict #[]->oL.isFreed=false->∃ ρ',∀ A' env',env'.locals=s.heap.objs.size->env'.cells=cellsFrom (s.heap.objs.size+1) scope.names cl->
   (∀ x k,(x,k)∈scope.names->env'.kindOf x=some k∨(k = .free/\env'.kindOf x=some .cell))->
   St D (Y.inner A' env' m (bA b)) (ρ++ρ') (bq Z b J).1 (bq Z b J).2 {s with heap:=pushCells (s.heap.push oL) scope.names}:=by
  intro oL hd hf
  haveI S1:=(S.tH oL).gu hfresh (Zu _ hf)
  refine iu (xk (Y:=Y.cT (cZ Y.kp s.heap.objs.size oL) Y.fz) hb hn S1 hcl) fun ρ' S2 hl hsl=>?_
  haveI hz:(s.heap.push oL).objs.size=s.heap.objs.size+1:=Heap.size_push ..
  refine⟨ρ',fun A' env' e1 e2 e3=>St.enter S2 hfk hd e1 ?_ ⟨by refine(hl).trans ?_;simp[bA],fun i x hx=>?_⟩⟩
  ·exact(hm.push oL).keeps (pushCells_keeps _ _)
  ·haveI:=hsl i x hx
   dsimp only at this
   rw[hz,<-e2] at this
   cases this with
   |ah g1 g2=>
    refine g1▸?_
    rcases e3 x _ g2 with e | ⟨e,_⟩
    ·exact iI.jQ rfl ⟨e,.inl rfl⟩
    ·exact PySem.NameKind.noConfusion e
   |aI k a g1 g2 g3 g4=>
    refine iI.oy g1 ⟨?_,a,g3,g4⟩
    rcases g2 with g2 | g2
    ·rcases e3 x _ g2 with e | ⟨e,_⟩
     ·exact .inl e
     ·contradiction
    ·rcases e3 x _ g2 with e | ⟨_,e⟩
     ·exact .inr e
     ·exact .inl e
 skip
 refine Z8 (wpAny_alloc ?_)
 refine Z8 (wpAny_layCells _ (fun name kind cells=>by cases hkc:kind==NameKind.cell<;>simp[hkc]) _ _ _ _ ?_)
 dsimp only
 refine df (key {cls:=.type (if around.isSome then "dict" else "frame"),data:=.dict #[]} rfl rfl) fun ρ' hS=>?_
 have hz:(s.heap.push {cls:=.type (if around.isSome then "dict" else "frame"),data:=.dict #[]}).objs.size=s.heap.objs.size+1:=Heap.size_push ..
 refine hz▸?_
 haveI:=h s.heap.objs.size _ ρ' hS
 clear h;clear hS;clear hz;cases around with
 |none=>exact Z8 (ZO this (fun zz zz q=>ZW q) fun zz zz q=>q)
 |some o=>exact Z8 (ZO this (fun zz zz q=>ZW q) fun zz zz q=>q)
end
end
section
variable {a:Addr}{fz:Addr->Option Obj}{elt target iter:Expr}{it:It}{gens:List Comprehension}{ifs:List Expr}{d i:Nat}{pos:Pos}{scope:Scope}{acc:Value}
section
variable {D:Wd}{Y:Gm}{ρ:List Addr}{J:aq}{Z:List V}{s:Shared}
@[reducible] noncomputable def ew(ifs:List Expr)(b:Bool)(env:Env):Sem Bool:=forIn ifs b fun c r=>if r=true then do let ok <-isTrue c env (eval c env);pure (ForInStep.yield ok) else pure (ForInStep.yield r)
theorem rJ(env:Env):∀ ifs:List Expr,ew ifs false env=pure false
 |[]=>rfl
 |c::r=>by
  haveI:=rJ env r
  unfold ew at this ⊢
  rw[Xw]
  exact this
theorem aw.zZ:aw D Y (ew [] true Y.env) jX (.ret true):=fun zz zz zz=>W.pure rfl
theorem aw.yP{c:Expr}{r:List Expr}{x y:M Bool}(h:aw D Y (isTrue c Y.env (eval c Y.env)) jX x)(hr:aw D Y (ew r true Y.env) jX y) :
  aw D Y (ew (c::r) true Y.env) jX (.bind x fun c=>match c with | true=>y | false=>.ret false):=fun ρ J Z=>by
 haveI e:ew (c::r) true Y.env=(isTrue c Y.env (eval c Y.env)>>=fun ok=>ew r ok Y.env):=by
  unfold ew
  rw[Xw]
  simp only[if_true,bind_assoc,pure_bind]
 refine e▸?_
 refine(h ρ J Z).bind fun ρ1 b J1 Z1 d zz hb=>?_
 cases(hb)
 cases b with
 |true=>exact hr _ _ _
 |false=>rw[rJ];exact W.pure rfl
noncomputable def dP(elt:Expr)(gens:List Comprehension)(scope:Scope)(pos:Pos)(d:Nat)(acc:Value)(env:Env):Sem Unit:=match gens[d+1]? with
 |some g'=>do
  let x <-eval g'.iter env
  standAt g'.iter.pos
  let x <-if g'.is_async !=0 then foldedIterable g'.iter x else foldedSetIterable g'.iter env x
  let _ <-runOwn (.compStart (.ListComp elt gens scope pos) (d+1) (<-holding [x] (if g'.is_async !=0 then asyncIter x else pyIter x)) acc env) env
 |none=>do let _ <-call (.builtin "list.append") [acc,<-eval elt env]
noncomputable def stepT(target:Expr)(ifs:List Expr)(inner:Sem Unit)(env:Env)(y:Value):Sem Unit:=do
 assign target env y
 let ok <-ew ifs true env
 if ok=true then inner else pure ()
theorem pU(hg:gens[d]? = some ⟨target,iter,ifs,0⟩)(scope:Scope)(pos:Pos)(it acc:Value)(env:Env) :
  compTurn (.ListComp elt gens scope pos) d it acc env=(do
   standAt iter.pos
   match <-pyNext it with
   |none=>pure (.done .next)
   |some v=>do
    letOwnedTupleGo target it v
    assign target env v
    let ok <-forIn ifs true fun c r=>if r=true then do let ok <-isTrue c env (eval c env);pure (ForInStep.yield ok) else pure (ForInStep.yield r)
    if ok=true then
     match gens[d+1]? with
     |some g'=>do
      let x <-eval g'.iter env
      standAt g'.iter.pos
      let x <-if g'.is_async !=0 then foldedIterable g'.iter x else foldedSetIterable g'.iter env x
      let _ <-runOwn (.compStart (.ListComp elt gens scope pos) (d+1) (<-holding [x] (if g'.is_async !=0 then asyncIter x else pyIter x)) acc env) env
      again (.compLoop (.ListComp elt gens scope pos) d it acc env)
     |none=>do
      (do let _ <-call (.builtin "list.append") [acc,<-eval elt env]:Sem Unit)
      again (.compLoop (.ListComp elt gens scope pos) d it acc env)
    else again (.compLoop (.ListComp elt gens scope pos) d it acc env)):=by
 unfold compTurn
 dsimp only
 rw[hg]
 rfl
theorem rG(hg:gens[d]? = some ⟨target,iter,ifs,0⟩)(scope:Scope)(pos:Pos)(it acc:Value)(env:Env) :
  compTurn (.ListComp elt gens scope pos) d it acc env=(do
   standAt iter.pos
   match <-pyNext it with
   |none=>pure (.done .next)
   |some v=>do
    letOwnedTupleGo target it v
    stepT target ifs (dP elt gens scope pos d acc env) env v
    again (.compLoop (.ListComp elt gens scope pos) d it acc env)):=by
 rw[pU hg]
 dsimp only[stepT,dP,ew]
 congr 1;funext _;congr 1;funext r
 cases r with
 |none=>rfl
 |some v=>
  simp only[bind_assoc]
  congr 1;funext _;congr 1;funext _;congr 1;funext ok
  cases ok with
  |false=>rfl
  |true=>
   simp only[if_true]
   cases gens[d+1]? with
   |none=>simp only[bind_assoc,pure_bind]
   |some g'=>cases h:(g'.is_async !=0)<;>simp only[h,Bool.false_eq_true,if_false,if_true,bind_assoc,pure_bind]
theorem ny.self{A:Around}{Q:Value->Shared->Prop}{E:Value->Shared->Prop}(L:ny D Y ρ J Z s it i a fz)(h:Q (.ref a) s):wpAny (model D.prog D.w) A (pyIter (.ref a)) Q E s:=by
 obtain⟨o,hk,hf,S,hI⟩:=L
 haveI ho:=S.keep a o aP
 have hi:=hI s.heap ho
 clear hI;cases it with
 |lst k=>obtain⟨_,_,g⟩:=hi;exact wpAny_pyIter_listiter g h
 |tup k=>obtain⟨_,_,g⟩:=hi;exact wpAny_pyIter_tupleiter g h
 |bD x y=>refine aF hi fun zz g zz=>?_;clear hi;exact wpAny_pyIter_rangeiter g h
 |pW k es=>obtain⟨_,_,_,_,_,_,_,_,g⟩:=hi;exact wpAny_pyIter_keyiter g h
 |vw k es=>obtain⟨_,_,_,_,_,_,_,_,g⟩:=hi;exact wpAny_pyIter_valiter g h
theorem lr(hh:Y.A.handled=none){f:V->M Unit}{N:Nat}{Jf:aq}{Zf:List V}{R:Result->Shared->Prop}(hg:gens[d]? = some ⟨target,iter,ifs,0⟩)(hstep:∀ Y',Y.Le Y'->∀ ρ' J Z v y,VR D (ρ++ρ') v y->W D Y' (ρ++ρ') J Z (stepT target ifs (dP elt gens scope pos d acc Y.env) Y.env y) Un (f v J Z))(L:ny D Y ρ J Z s it i a fz)(hr:dQ f it N i J Z = .ok () Jf Zf)(hR:∀ s' ρ',St D (Y.cT Y.kp fz) (ρ++ρ') Jf Zf s'->R (.ok .next) s') :
  codeAny (model D.prog D.w) Y.A (.compLoop (.ListComp elt gens scope pos) d (.ref a) acc Y.env) R s:=by
 refine codeAny_loop' rfl (fun k s=>∃ ρ' J' Z' i,ny D Y (ρ++ρ') J' Z' s it i a fz/\dQ f it k i J' Z' = .ok () Jf Zf) (fun k s hI=>?_) N (Gy [] J Z i (by rw[ZT];exact L) hr)
 refine Fj hI fun ρ' J' Z' i L' e=>?_;clear hI
 show wpAny _ Y.A ((compTurn (.ListComp elt gens scope pos) d (.ref a) acc Y.env).onRaise (fun x=>do noteFrame x Y.env;theTreesLotGoes x)) _ _ s
 refine wpAny_noted ?_
 rw[rG hg]
 refine Z8 (YR (Z8 ?_))
 cases k with
 |zero=>contradiction
 |succ k=>
  haveI e':(match eH J' it i with
   |some (some v)=>M.bind (f v) (fun zz=>dQ f it k (i+1)) J' Z'
   |some none=>.ok () J' Z'
   |none=>.bad) = .ok () Jf Zf:=e
  refine bI (eH J' it i) (fun q=>?_) fun w q=>?_
  ·replace e':=q▸e';contradiction
  ·replace e':=q▸e'
   cases w with
   |none=>
    cases e'
    exact nw hh L' q fun s2 S2=>ZW (hR s2 ρ' S2)
   |some v=>
    dsimp only at e'
    refine kF L' q fun s2 yv hyv L2=>?_
    refine Z8 (L2.letGo (Z8 ?_))
    obtain⟨o,hka,hfz,S2,hI2⟩:=L2
    haveI hle:Y.Le (Y.cT (cZ Y.kp a o) fz):=.of (a8 hka)
    refine(hstep _ hle ρ' J' Z' v yv hyv).step S2 e' nofun (fun ρ3 zz J3 Z3 zz s3 zz S3 e'=>?_) fun zz zz h=>h.elim
    rw[ZZ] at S3
    refine ZW (.inl ⟨rfl,k,Yv _,ρ'++ρ3,J3,Z3,i+1,⟨o,hka,hfz,S3,?_⟩,e'⟩)
    haveI:=hI2.mono (ρ':=ρ3)
    rwa [ZZ] at this
set_option tactic.hygienic true in
theorem jT{R:Result->Shared->Prop}(hg:gens[d]? = some ⟨target,iter,ifs,0⟩)(L:ny D Y ρ J Z s it i a fz)(h:codeAny (model D.prog D.w) Y.A (.compLoop (.ListComp elt gens scope pos) d (.ref a) acc Y.env) R s) :
  codeAny (model D.prog D.w) Y.A (.compStart (.ListComp elt gens scope pos) d (.ref a) acc Y.env) R s:=by
 refine codeAny_of_tree ?_
 show wpAny _ Y.A ((compStart (.ListComp elt gens scope pos) d (.ref a) acc Y.env).onRaise (fun x=>do noteFrame x Y.env;standAt theWindowsPlace)) _ _ s
 refine wpAny_notedAt ?_
 unfold compStart
 haveI e1:clausesOf (.ListComp elt gens scope pos)=gens:=rfl
 refine e1▸hg▸?_
 split
 ·rename_i q;exact Bool.noConfusion q
 ·refine Z8 (wpAny_askSetting ?_)
  refine wpAny_ite ?_
  split
  ·exact ZW ⟨rfl,h⟩
  ·refine Z8 (wpAny_rule (Z8 (YR (Z8 (L.self (ZW ⟨rfl,h⟩))))))
theorem vj(B:aV D Y){k:Nat}{x:M V}(hg:gens[d+1]? = none)(hk:ρ[k]? = some a)(hx:aw D Y (eval elt Y.env) (VR D) x) :
  W D Y ρ J Z (dP elt gens scope pos d (.ref a) Y.env) Un ((M.bind x fun v=>M.bind (Cm .append k [v]) fun zz=>M.ret ()) J Z):=by
 unfold dP
 refine hg▸?_
 exact(hx ρ J Z).bind fun ρ1 v J1 Z1 y zz hv=>(W.me (vs:=[v]) (xs:=[y]) B (get_append hk) ⟨hv,trivial⟩ (fun q=>Mine.Me.noConfusion q)).bind fun ρ2 zz J2 Z2 zz zz zz=>W.pure trivial
theorem sb(B:aV D Y)(hh:Y.A.handled=none){x:M V}{f:V->M Unit}{N:Nat}(hg:gens[d+1]? = some ⟨target,iter,ifs,0⟩)(hx:aw D Y (eval iter Y.env) (VR D) x)(hs:∀ v,foldedSetIterable iter Y.env v=pure v)(hstep:∀ Y',Y.Le Y'->∀ ρ' J Z v y,VR D (ρ++ρ') v y->W D Y' (ρ++ρ') J Z (stepT target ifs (dP elt gens scope pos (d+1) acc Y.env) Y.env y) Un (f v J Z)) :
  W D Y ρ J Z (dP elt gens scope pos d acc Y.env) Un ((M.bind x fun v=>wK (dK v fun it=>dQ f it N 0)) J Z):=by
 unfold dP
 refine hg▸?_
 refine(hx ρ J Z).bind fun ρ₁ v J Z xv zz hv=>?_
 refine(show((0:Int) !=0)=false from rfl)▸?_
 simp only[Bool.false_eq_true,if_false]
 rw[hs xv]
 refine W.bj ?_
 rw[pure_bind]
 refine W.of fun s S hbad=>?_
 haveI hstep':∀ Y',Y.Le Y'->∀ ρ' J Z v y,VR D ((ρ++ρ₁)++ρ') v y->W D Y' ((ρ++ρ₁)++ρ') J Z (stepT target ifs (dP elt gens scope pos (d+1) acc Y.env) Y.env y) Un (f v J Z):=fun Y' hle ρ' J Z v y hy=>by
  rw[ZZ] at hy ⊢
  exact hstep Y' hle _ J Z v y hy
 generalize ρ++ρ₁=ρ at hv S hstep' ⊢
 dsimp only[wK,dK] at hbad ⊢
 refine bI (nK J v) (fun hi=>?_) fun it hi=>?_
 ·replace hbad:=hi▸hbad;exact absurd rfl hbad
 ·replace hbad:=hi▸hbad
  dsimp only at hbad ⊢
  rw[tf] at hbad ⊢
  refine pf (dQ f it N 0 (jH it J) Z) (fun u J2 Z2 hr=>?_) (fun c x J2 Z2 hr=>?_) fun hr=>?_
  ·refine Z8 (Zw (fQ B S hv hi fun s' a fz L=>Z8 (wpAny_runOwn ?_)))
   obtain⟨o₀,hka,hfz,_,_⟩:=id L
   haveI h3:∀ b o,Y.fz b=some o->∃ k,ρ[k]? = some b/\hG k J.fz=false:=fun b o e=>let ⟨_,k,_,g1,_,g2⟩:=S.d4 b o e;(aY k g1 g2)
   refine jT hg L (lr hh hg hstep' L hr fun s2 ρ2 S2=>ZW ?_)
   exact⟨ρ2,trivial,St.fin S2 (fun zz zz h=>h) hfz fun b o e=>let ⟨k,g1,g2⟩:=h3 b o e;(aY k (get_append g1) g2)⟩
  ·rw[hr] at hbad;exact absurd rfl hbad
  ·rw[hr] at hbad;exact absurd rfl hbad
end
end
section
variable {α β:Type}{env:Env}{Z:List V}{x:M α}{scope:Scope}{J:aq}{g:α->M β}
section
variable {D:Wd}{Y:Gm}{ρ:List Addr}{J:aq}{Z:List V}{s:Shared}
theorem iR(f:Str×NameKind->List (Str×Addr)->Sem (ForInStep (List (Str×Addr))))(hf:∀ n k cs,f (n,k) cs=if k==.free then(do let a <-cellOf env n;pure (.yield ((n,a)::cs))) else pure (.yield cs)) :
  ∀ {ns:List (Str×NameKind)} {acc:List (Str×Addr)},(ns.map (·.1)).Nodup->(∀ x,(x,NameKind.free)∈ns->∃ a,env.cells.lookup x=some a)->
   ∃ cl,forIn ns acc f=pure cl/\(∀ x,(x,NameKind.free)∈ns->cl.lookup x=env.cells.lookup x)/\∀ x,x∉ns.map (·.1)->cl.lookup x=acc.lookup x
 |[],acc,_,_=>(iF acc rfl (fun x h=>by contradiction) (fun x zz=>rfl))
 |(y,k)::r,acc,hn,h=>by
  rw[Zi,ZN] at hn
  simp only[Xw,hf]
  haveI hr:=fun x hx=>h x (ZY _ hx)
  by_cases q:(k==NameKind.free)=true
  ·haveI hk:=Y9.mp q
   subst hk
   obtain⟨a,ha⟩:=h y ZX
   refine iu (iR f hf (acc:=(y,a)::acc) hn.2 hr) fun cl h1 h2 h3=>?_
   refine iF cl ?_ (fun x hx=>?_) (fun x hx=>?_)
   ·refine(if_pos q)▸?_
    have:cellOf env y=pure a:=by unfold cellOf;exact ha▸rfl
    simp only[this,pure_bind,pure_bind]
    exact h1
   ·rcases ZS.mp hx with e | hx
    ·cases e
     refine(h3 _ hn.1).trans ?_;refine ha▸?_;simp
    ·exact h2 x hx
   ·rw[Zi,ZS,not_or] at hx
    refine(h3 x hx.2).trans ?_;simp only[Y4,Ys.mpr hx.1]
  ·refine iu (iR f hf (acc:=acc) hn.2 hr) fun cl h1 h2 h3=>?_
   refine iF cl ?_ (fun x hx=>?_) (fun x hx=>?_)
   ·rw[if_neg q,pure_bind]
    exact h1
   ·rcases ZS.mp hx with e | hx
    ·refine bU (Y7 e) fun qz1 qz2=>?_;clear e;clear h;clear hn;clear hx;refine qz1▸?_;subst qz2;exact absurd rfl q
    ·exact h2 x hx
   ·rw[Zi,ZS,not_or] at hx
    exact h3 x hx.2
theorem iT(hn:(scope.names.map (·.1)).Nodup)(h:∀ x,(x,NameKind.free)∈scope.names->∃ a,env.cells.lookup x=some a) :
  ∃ cl,closureFor scope env=pure cl/\∀ x,(x,NameKind.free)∈scope.names->cl.lookup x=env.cells.lookup x:=by
 refine iu (iR (fun(p:Str×NameKind) cs=>match p with | (n,k)=>if k==.free then(do let a <-cellOf env n;pure (ForInStep.yield ((n,a)::cs))) else pure (ForInStep.yield cs)) (fun zz zz zz=>rfl) (acc:=[]) hn h) fun cl h1 h2 zz=>?_
 refine aY cl ?_ h2
 dsimp only[closureFor]
 refine h1▸?_
 rw[bind_pure]
theorem jm{env':Env}(he:env'.scope=relabel scope env)(hn:(scope.names.map (·.1)).Nodup){x:Str}{k:NameKind}(h:(x,k)∈scope.names):env'.kindOf x=some k∨(k = .free/\env'.kindOf x=some .cell):=by
 unfold Env.kindOf
 refine he▸?_
 unfold relabel
 dsimp only
 haveI hn':((scope.names.map fun p=>if(p.2==.free&&env.scope.kind==.function&&env.kindOf p.1==some .cell) then(p.1,NameKind.cell) else(p.1,p.2)).map (·.1)).Nodup:=by
  rw[YD]
  haveI:((fun x:Str×NameKind=>x.1)∘fun p:Str×NameKind=>if(p.2==.free&&env.scope.kind==.function&&env.kindOf p.1==some .cell) then(p.1,NameKind.cell) else(p.1,p.2))=fun p=>p.1:=by
   funext p;simp only[Function.comp];split<;>rfl
  rw[this];exact hn
 haveI hm:=Y8 (f:=fun p:Str×NameKind=>if(p.2==.free&&env.scope.kind==.function&&env.kindOf p.1==some .cell) then(p.1,NameKind.cell) else(p.1,p.2)) h
 dsimp only at hm
 by_cases q:(k==.free&&env.scope.kind==.function&&env.kindOf x==some .cell)=true
 ·rw[if_pos q] at hm
  have hk:k = .free:=by simp only[ZJ,Y9] at q;exact q.1.1
  exact .inr ⟨hk,lookup_mem hn' hm⟩
 ·replace hm:=(if_neg q)▸hm
  exact .inl (lookup_mem hn' hm)
@[reducible] noncomputable def compEnv(scope:Scope)(L:Addr)(cl:List (Str×Addr))(env:Env):Env:={newEnv scope L env.globals (cellsFrom (L+1) scope.names cl) env.qual none .none (some env) builtinsNs with scope:=relabel scope env}
theorem ag{J':aq}{Z':List V}{a:α}(h:x J Z = .ok a J' Z'):M.bind x g J Z=g a J' Z':=by unfold M.bind;exact h▸rfl
theorem cj{J':aq}{Z':List V}{c:Nat}{a:V}(h:x J Z = .exc c a J' Z'):M.bind x g J Z = .exc c a J' Z':=by unfold M.bind;exact h▸rfl
theorem ed(h:x J Z = .bad):M.bind x g J Z = .bad:=by unfold M.bind;exact h▸rfl
structure iw(D:Wd)(Y:Gm)(scope:Scope)(b:dG)(Yc:Gm):Prop where
 blok:aV D Yc
 A:Yc.A=Y.A
 scope:Yc.env.scope=relabel scope Y.env
 nm:Yc.nm=bA b
 dU:∀ p,(p=Y.env.locals∨p∈Y.fr.map (·.1))->p∈Yc.fr.map (·.1)
structure mB(Y:Gm)(scope:Scope)(b:dG):Prop where
 kind:scope.kind = .function
 nodup:(scope.names.map (·.1)).Nodup
 sk:fe Y.nm b scope.names
 free:∀ x,(x,NameKind.free)∈scope.names->(Y.env.kindOf x=some .cell∨Y.env.kindOf x=some .free)/\x∈Y.nm
 names:(bA b).Nodup
 plain:∀ x∈bA b,(x==("__classdict__" : Str))=false/\(x==("__debug__" : Str))=false
theorem Sl.cells{m:Str->Option Value}(h:Sl D Y ρ m Z){x:Str}(hx:x∈Y.nm)(hk:Y.env.kindOf x=some .cell∨Y.env.kindOf x=some .free):∃ a,Y.env.cells.lookup x=some a:=by
 obtain⟨i,hi,e⟩:=Zt.mp hx
 have:=h.2 i x ((Z7 hi)▸e▸rfl)
 refine bI (aE (V.at Z i)) (fun q=>?_) fun k q=>?_
 ·have:=(this.loc q).1
  rcases hk with g | g<;>(replace this:=g▸this;have h__:=Z9 this;cases h__)
 ·refine bU (this.aI q) fun zz qz1=>?_;obtain⟨a,h,_⟩:=qz1;exact⟨a,h⟩
theorem wY{m:M α}{r:Rs β}(h:M.bind (wK m) g J Z=r)(hb:r≠.bad):∃ w J' Z',m J Z = .ok w J' Z'/\g w J' Z'=r:=by
 unfold M.bind wK at h
 refine pf (m J Z) (fun w J' Z' q=>?_) (fun zz zz zz zz q=>?_) fun q=>?_
 ·replace h:=q▸h;exact sx w J' Z' rfl h
 ·rw[q] at h;exact absurd h.symm hb
 ·rw[q] at h;exact absurd h.symm hb
theorem qZ(m:M α):M.bind m (fun a=>.ret a)=m:=by
 funext s e
 dsimp only[M.bind]
 cases m s e<;>rfl
theorem qJ(B:aV D Y)(hh:Y.A.handled=none){elt target iter:Expr}{gs:List Comprehension}{ifs:List Expr}{pos:Pos}{b:dG}{cl:List (Str×Addr)}{f:Nat->V->M Unit}{N:Nat}{v w:V}{xv:Value}{Jf:aq}{Zf:List V}{E:Value->Shared->Prop}{R:Value->Addr->Result->Shared->Prop}(K:mB Y scope b)(hcl:∀ x,(x,NameKind.free)∈scope.names->cl.lookup x=Y.env.cells.lookup x)(hbody:∀ Yc,iw D Y scope b Yc->∀ ρ k a,ρ[k]? = some a->∀ ρ' J Z v y,VR D (ρ++ρ') v y->W D Yc (ρ++ρ') J Z (stepT target ifs (dP elt (⟨target,iter,ifs,0⟩::gs) scope pos 0 (.ref a) Yc.env) Yc.env y) Un (f k v J Z))(S:St D Y ρ J Z s)(hv:VR D ρ v xv)(hr:(dK v fun it=>M.bind (.new (.list [])) fun acc=>M.bind (fm b (dQ (f acc) it N 0)) fun zz=>M.ret (.ref acc)) J Z = .ok w Jf Zf)(hR:∀ s' ρ' C acc,VR D (ρ++ρ') w acc->St D Y (ρ++ρ') Jf Zf s'->C∉Y.own (ρ++ρ')->Y.kp C=none->(∃ m,s'.heap.Ns C m)->R acc C (.ok .next) s') :
  wpAny (model D.prog D.w) Y.A (pyIter xv) (fun it s₂=>wpAny (model D.prog D.w) Y.A (newList []) (fun acc s₃=>wpAny (model D.prog D.w) Y.A (newFunctionEnv scope Y.env.globals cl [] Y.env.qual none .none (some Y.env)) (fun cenv s₄=>
   codeAny (model D.prog D.w) Y.A (.compStart (.ListComp elt (⟨target,iter,ifs,0⟩::gs) scope pos) 0 it acc {cenv with scope:=relabel scope Y.env}) (R acc cenv.locals) s₄) E s₃) E s₂) E s:=by
 dsimp only[dK] at hr
 refine bI (nK J v) (fun hi=>?_) fun it hi=>?_
 ·rw[hi] at hr;contradiction
 ·replace hr:=hi▸hr
  dsimp only at hr
  rw[tf] at hr
  haveI h3:∀ b o,Y.fz b=some o->∃ k,ρ[k]? = some b/\hG k J.fz=false:=fun b o e=>let ⟨_,k,_,g1,_,g2⟩:=S.d4 b o e;(aY k g1 g2)
  refine fQ B S hv hi fun s' a fz L=>?_
  obtain⟨o,hka,hfz,S1,hI⟩:=L
  refine YI ?_
  haveI S2:St D (Y.cT (cZ Y.kp a o) fz) (ρ++[s'.heap.objs.size]) ⟨(jH it J).n+1,(jH it J).t.ins (jH it J).n (.list []),(jH it J).fz⟩ Z {s' with heap:=s'.heap.push {cls:=.type "list",dict:=none,data:=.seq ([]:List Value).toArray}}:=
   S1.new ⟨#[],0,rfl,trivial,by simp⟩ rfl
  refine aF S2.loc fun m hm hl=>?_
  have cW:(ρ++[s'.heap.objs.size])[(jH it J).n]? = some s'.heap.objs.size:=by rw[S1.num];simp
  refine fZ (Y:=Y.cT (cZ Y.kp a o) fz) K.nodup K.sk S2 hm (fun x hx=>⟨(K.free x hx).1,hcl x hx⟩) fun L s2 ρ2 hSt=>ZW ?_
  haveI hkk:=K.kind
  haveI hSc:=hSt Y.A (compEnv scope L cl Y.env) rfl rfl (fun x k h=>jm rfl K.nodup h)
  haveI hblk:∀ Y',Gm.Le (Y.inner Y.A (compEnv scope L cl Y.env) m (bA b)) Y'->iw D Y scope b Y':=by
   rintro Y' ⟨kp,fz',kg',rfl,hk⟩
   haveI hle':Y.Le (Y.cT kp fz'):=.of hk
   exact⟨{glob:=(B.le hle').glob,eQ:=(B.le hle').eQ,scr:=(B.le hle').scr,d5:=B.d5,units:=B.units,depth:=B.depth,qA:=(B.le hle').qA,lim:=(B.le hle').lim,ge:=⟨B.ge.1,B.ge.2⟩,kind:=hkk,names:=K.names,plain:=K.plain},rfl,rfl,rfl,fun p h=>by
    rcases h with rfl | h
    ·exact ZX
    ·exact ZY _ h⟩
  refine pf (dQ (f (jH it J).n) it N 0 (bq Z b ⟨(jH it J).n+1,(jH it J).t.ins (jH it J).n (.list []),(jH it J).fz⟩).1 (bq Z b ⟨(jH it J).n+1,(jH it J).t.ins (jH it J).n (.list []),(jH it J).fz⟩).2) (fun u J2 Z2 hrun=>?_) (fun c x J2 Z2 hrun=>?_) fun hrun=>?_
  ·simp only[M.bind,fm,hrun,vQ] at hr
   injection hr with e1 e2 e3
   subst e1 e2 e3
   haveI hL:ny D (Y.inner Y.A (compEnv scope L cl Y.env) m (bA b)) ((ρ++[s'.heap.objs.size])++ρ2)
     (bq Z b ⟨(jH it J).n+1,(jH it J).t.ins (jH it J).n (.list []),(jH it J).fz⟩).1 (bq Z b ⟨(jH it J).n+1,(jH it J).t.ins (jH it J).n (.list []),(jH it J).fz⟩).2 s2 it 0 a fz:=
    ⟨o,hka,hfz,hSc,hI.mono.mono⟩
   refine jT rfl hL
    (lr (Y:=Y.inner Y.A (compEnv scope L cl Y.env) m (bA b)) hh rfl (fun Y' hle' ρ' J' Z' v' y' hy=>?_) hL hrun fun s3 ρ3 S3=>?_)
   ·haveI hcb:=hblk Y' hle'
    haveI:=hbody Y' hcb ((ρ++[s'.heap.objs.size])++ρ2) _ _ (get_append cW) ρ' J' Z' v' y' hy
    refine g9 hle' fun kp fz' kg' qz3 zz=>?_;clear hle';clear hcb;subst qz3
    exact this
   ·haveI hown:=(ZN.mp S3.nd).1
    haveI hkL:=S3.ap _ ZX
    refine aF S3.loc fun m3 hn3 zz=>?_
    haveI S4:=St.leave (Y:=Y.cT Y.kp fz) S3 hl.mono.mono
    haveI S5:St D Y ((ρ++[s'.heap.objs.size])++ρ2++ρ3) (Gp it J J2) Z s3:=St.fin S4 (fun zz zz h=>h) hfz fun b o e=>let ⟨k,g1,g2⟩:=h3 b o e;(aY k (get_append (get_append (get_append g1))) g2)
    haveI key:=hR s3 ([s'.heap.objs.size]++ρ2++ρ3) L (.ref s'.heap.objs.size)
    simp only[<-ZZ] at key
    exact key (aY _ (get_append (get_append cW)) rfl) S5 hown hkL ⟨m3,hn3⟩
  ·simp only[M.bind,fm,hrun,vQ] at hr;contradiction
  ·simp only[M.bind,fm,hrun,vQ] at hr;contradiction
theorem aw.comp(B:aV D Y)(hh:Y.A.handled=none){elt target iter:Expr}{gs:List Comprehension}{ifs:List Expr}{pos:Pos}{b:dG}{f:Nat->V->M Unit}{N:Nat}{x:M V}(K:mB Y scope b)(hs:∀ v,foldedSetIterable iter Y.env v=pure v)(hx:aw D Y (eval iter Y.env) (VR D) x)(hbody:∀ Yc,iw D Y scope b Yc->∀ ρ k a,ρ[k]? = some a->∀ ρ' J Z v y,VR D (ρ++ρ') v y->W D Yc (ρ++ρ') J Z (stepT target ifs (dP elt (⟨target,iter,ifs,0⟩::gs) scope pos 0 (.ref a) Yc.env) Yc.env y) Un (f k v J Z)) :
  aw D Y (eval (.ListComp elt (⟨target,iter,ifs,0⟩::gs) scope pos) Y.env) (VR D) (.bind x fun v=>wK (dK v fun it=>.bind (.new (.list [])) fun acc=>.bind (fm b (dQ (f acc) it N 0)) fun zz=>.ret (.ref acc))):=fun ρ J Z=>W.of fun s S hbad=>by
 refine aF S.loc fun m zz hl=>?_
 refine aF (iT K.nodup fun y hy=>hl.cells (K.free y hy).2 (K.free y hy).1) fun cl hc1 hc2=>?_
 refine wpAny_comprehension_free rfl hs hc1 K.kind (fun y hy h=>h▸(lookup_mem K.nodup hy)) ?_
 generalize hr:M.bind x _ J Z=r at hbad ⊢
 refine(hx ρ J Z).step S hr hbad (fun ρ1 v J1 Z1 xv s1 hv S1 hr=>?_) fun zz zz h=>h
 rw[<-qZ (wK _)] at hr
 refine g9 (wY hr hbad) fun w J2 Z2 hg hr=>?_
 refine hr▸?_
 refine qJ B hh K hc2 hbody S1 hv hg fun s2 ρ2 C acc hw S2 hC hkC hm=>?_
 obtain⟨m2,hm2⟩:=hm
 exact aY m2 hm2 (fun h' hsb=>⟨ρ1++ρ2,by rw[<-ZZ];exact hw,by rw[<-ZZ];exact S2.other hsb hC hkC⟩)
end
end
section
variable {D:Wd}{Y:Gm}{ρ:List Addr}{J:aq}{Z:List V}{s:Shared}
theorem aw.qW(B:aV D Y)(hh:Y.A.handled=none){elt target iter:Expr}{targets:List Expr}{gs:List Comprehension}{ifs:List Expr}{scope:Scope}{pos p:Pos}{b:dG}{f:Nat->V->M Unit}{N:Nat}{x:M V}{mm:V->M Unit}(K:mB Y scope b)(hs:∀ v,foldedSetIterable iter Y.env v=pure v)(hx:aw D Y (eval iter Y.env) (VR D) x)(hbody:∀ Yc,iw D Y scope b Yc->∀ ρ k a,ρ[k]? = some a->∀ ρ' J Z v y,VR D (ρ++ρ') v y->W D Yc (ρ++ρ') J Z (stepT target ifs (dP elt (⟨target,iter,ifs,0⟩::gs) scope pos 0 (.ref a) Yc.env) Yc.env y) Un (f k v J Z))(ha:∀ Y',Y.Le Y'->bS D Y' (fun y=>assignAll y ((assignEach targets Y.env).map (·.2))) mm)(hsw:swapsWithSole targets (.ListComp elt (⟨target,iter,ifs,0⟩::gs) scope pos) p.line Y.env=pure true) :
  aw D Y (exec (.Assign targets (.ListComp elt (⟨target,iter,ifs,0⟩::gs) scope pos) p) Y.env) (bX D)
   (.bind (.bind x fun v=>wK (dK v fun it=>.bind (.new (.list [])) fun acc=>.bind (fm b (dQ (f acc) it N 0)) fun zz=>.ret (.ref acc))) fun a=>.bind (mm a) fun zz=>.ret .next):=fun ρ J Z=>W.of fun s S hbad=>by
 refine Z8 (YR ?_)
 refine hsw▸?_
 refine Z8 (ZW ?_)
 refine aF S.loc fun m zz hl=>?_
 refine aF (iT K.nodup fun y hy=>hl.cells (K.free y hy).2 (K.free y hy).1) fun cl hc1 hc2=>?_
 refine Z8 (Z8 (wpAny_comprehension_free rfl hs hc1 K.kind (fun y hy h=>h▸(lookup_mem K.nodup hy)) ?_))
 generalize hr:M.bind (M.bind x _) _ J Z=r at hbad ⊢
 rw[M.bind_assoc] at hr
 refine(hx ρ J Z).step S hr hbad (fun ρ1 v J1 Z1 xv s1 hv S1 hr=>?_) fun zz zz h=>h
 refine g9 (wY hr hbad) fun w J2 Z2 hg hr=>?_
 refine qJ B hh K hc2 hbody S1 hv hg fun s2 ρ2 C acc hw S2 hC hkC hm=>?_
 refine zY hm fun m2 oC es ep hoC hdC hr2=>?_;clear hm
 haveI S3:=S2.gu hC hoC
 haveI hle:Y.Le (Y.cT (cZ Y.kp C oC) Y.fz):=.of (a8 hkC)
 refine(ha _ hle (ρ++ρ1++ρ2) J2 Z2 w acc hw).step S3 hr hbad (fun ρ4 zz J3 Z3 zz s4 zz S4 hr=>?_) fun e s4 h=>?_
 ·refine aY m2 (zd oC es ep (S4.keep C oC aP) hdC hr2) (fun h' hsb=>ZW (ZW ?_))
  have hC':C∉Y.own (ρ++ρ1++ρ2++ρ4):=fun hm=>by
   haveI:=S4.ap C hm
   replace this:=(aP).symm.trans this;exact Zx _ this
  have S5:St D Y (ρ++ρ1++ρ2++ρ4) J3 Z3 s4:=St.drop S4 (a8 hkC) fun zz zz h=>h
  exact hr▸(⟨ρ1++ρ2++ρ4,rfl,by simp only[<-ZZ];exact S5.other hsb hC' hkC⟩)
 ·clear hbad;clear hr;cases r with
  |ok _ _ _=>exact h.elim
  |bad=>exact h.elim
  |exc c a J3 Z3=>
   obtain⟨ρ4,⟨y,T,rfl,X⟩,S4⟩:=h
   haveI S5:=St.drop S4 (a8 hkC) fun zz zz h=>h
   exact⟨ρ1++ρ2++ρ4,by simp only[<-ZZ];exact⟨y,T,rfl,X.drop (a8 hkC)⟩,by simp only[<-ZZ];exact S5⟩
end
section
variable {vs:List V}{xs:List Value}{n:Nat}
section
variable {D:Wd}{Y:Gm}{ρ:List Addr}{J:aq}{Z:List V}{s:Shared}
theorem yz(a b:Int):(xG a b).length=(b-a).toNat:=by
 unfold xG
 generalize (b-a).toNat=n
 induction n generalizing a with
 |zero=>rfl
 |succ n ih=>simp[rZ,ih]
theorem qD:∀ {n i:Nat} {a:Int},i<n->(rZ a n)[i]? = some (a+i)
 |n+1,0,a,_=>by simp[rZ]
 |n+1,i+1,a,h=>by
  simp only[rZ,WZ]
  refine(qD (Nat.le_of_lt_succ ‹_›)).trans ?_
  congr 1
  omega
theorem DU(hl:vs.length=xs.length)(h:∀ (i:Nat) (v:V),vs[i]? = some v->∃ y,xs[i]? = some y/\VR D ρ v y):bB D ρ vs xs:=by
 induction vs generalizing xs with
 |nil=>clear h;cases xs with
  |nil=>trivial
  |cons _ _=>simp at hl
 |cons v r ih=>cases xs with
  |nil=>simp at hl
  |cons x xs=>
   refine aF (h 0 v rfl) fun y h1 h2=>?_
   obtain rfl:=Z9 h1
   exact⟨h2,ih (by simpa using hl) fun i w hw=>by simpa using h (i+1) w (hw)⟩
noncomputable def uk:Bi->Value
 |.len=>.builtin "len"
 |.aW=>.type "range"
 |.cX=>.type "range"
 |.list=>.type "list"
 |.tuple=>.type "tuple"
 |.sum=>.builtin "sum"
 |.max=>.builtin "max"
 |.sorted=>.builtin "sorted"
 |.bool=>.type "bool"
 |.set=>.type "set"
theorem W.len(B:aV D Y)(hv:bB D ρ vs xs):W D Y ρ J Z (call (.builtin "len") xs) (VR D) (uz D.scr.length .len vs J Z):=
 W.one (t:=fun xs=>call (.builtin "len") xs) hv fun v x hx=>by
  refine bI (lenOf D.scr.length J v) (fun e=>?_) fun n e=>?_
  ·exact W.bad
  ·intro s S
   unfold lenOf at e
   split at e
   ·obtain rfl:=Z9 e
    subst hx
    refine aF (B.scr s.heap S.keep) fun vs h1 h2=>?_
    haveI:=B.d5
    haveI hl:=h2.length
    refine PyProof.Rows.len_list h1 (by simp;omega) (bp S _ ⟨s.toks+1,?_⟩)
    simp[hl]
   ·refine aF (bind_some e) fun k hk e=>?_
    refine aF (ZU.mp e) fun p hp qz1=>?_;clear e;refine qz1▸?_
    refine aF (bind_some hp) fun o ho hp=>?_
    refine aF (hx.ref hk) fun a hk qz3=>?_;clear hx;refine qz3▸?_
    obtain⟨l,ys⟩:=p
    clear e;cases l with
    |true=>
     cases eJ hp
     obtain⟨items,n,l1,r1,hle,z1⟩:=S.list ho hk
     exact PyProof.Rows.len_list l1.isList (by rw[z1];omega) (bp S _ ⟨s.toks+1,by rw[z1]⟩)
    |false=>
     cases fR hp
     obtain⟨items,n,l1,r1,hle,z1⟩:=S.tup ho hk
     exact PyProof.Rows.len_tuple (eg l1) (by rw[z1];omega) (bp S _ ⟨s.toks+1,by rw[z1]⟩)
theorem W.aW(hv:bB D ρ vs xs):W D Y ρ J Z (call (.type "range") xs) (VR D) (uz n .aW vs J Z):=
 W.one (t:=fun xs=>call (.type "range") xs) hv fun v x hx=>W.az fun i hi=>by
  refine df (hx.int hi) fun t qz5=>?_;clear hx;refine qz5▸?_
  exact W.ite (fun h s S=>call_range_1 (pA (o:=.bD 0 i) S ⟨⟨by decide,h⟩,_,_,_,rfl⟩ rfl _)) fun zz=>W.bad
theorem W.cX(hv:bB D ρ vs xs):W D Y ρ J Z (call (.type "range") xs) (VR D) (uz n .cX vs J Z):=by
 cases vs with
 |nil=>exact W.bad
 |cons v vs=>
  cases vs with
  |nil=>exact W.bad
  |cons w vs=>
   cases vs with
   |cons _ _=>exact W.bad
   |nil=>
    match xs,hv with
    |[x,y],hv=>
     refine W.az fun i hi=>W.az fun j hj=>W.ite (fun h s S=>?_) fun zz=>W.bad
     refine df (hv.1.int hi) fun t qz0=>?_;subst qz0
     obtain⟨u,rfl⟩:=hv.2.1.int hj
     replace h:=ZR.mp h
     exact call_range_2 (pA (o:=.bD i j) S ⟨h,_,_,_,rfl⟩ rfl _)
theorem mR{h':Heap}{c' tk:Nat}{items:Array Value}{ys:List V}(S:St D Y ρ J Z s)(hk:∀ a o,s.heap.get? a=some o->h'.get? a=some o)(hn:IsL h' s.heap.objs.size items c')(r:bB D (ρ++[s.heap.objs.size]) ys items.toList)(hle:ys.length<=10000) :
  Out D Y ρ (VR D) (.ref J.n) ⟨J.n+1,J.t.ins J.n (.list ys),J.fz⟩ Z (.ref s.heap.objs.size) {s with heap:=h',toks:=tk}:=
 ⟨[s.heap.objs.size],jZ S,(S.ext hk).take hn S.fresh S.dM ⟨items,c',rfl,r,hle⟩⟩
theorem W.listOf(hh:Y.A.handled=none)(hv:bB D ρ vs xs):W D Y ρ J Z (call (.type "list") xs) (VR D) (uz n .list vs J Z):=
 W.one (t:=fun xs=>call (.type "list") xs) hv fun v x hx=>W.az fun k hk=>by
  refine aF (hx.ref hk) fun a hk qz4=>?_;clear hx;refine qz4▸?_
  refine W.obj fun o ho=>?_
  refine bI (dy o) (fun e=>?_) fun p e=>?_
  ·clear e;cases o with
   |bD lo hi=>
    refine W.ite (fun hb s S=>?_) fun zz=>W.bad
    haveI hb:=ZC hb
    refine iu (S.dN ho hk) fun y h2 qz6 qz0=>?_;obtain⟨g1,g2⟩:=qz6;obtain⟨t,u,v,rfl⟩:=qz0
    haveI w1:=dO g1
    haveI w2:=dO g2
    haveI hlen:=yz lo hi
    rw[Z0,hlen] at hb
    refine call_list_range hh h2 (small_one (by omega) (by omega) (by omega) (by omega)) (rangeSize_nat lo hi) (ZD hb (ZQ 10000 16767216)) fun h' tk acc' c' hk' hn hi'=>?_
    refine mR S hk' hn (DU (by rw[Z0,hlen];exact hi'.1.symm) fun i w hw=>?_) (by rw[Z0,hlen];exact hb)
    have hlt:i<(hi-lo).toNat:=by
     haveI:=(ZP.mp hw).1
     rwa [Z0,hlen] at this
    haveI e:w = .int (lo+i):=by
     rw[ZH,show xG lo hi=rZ lo (hi-lo).toNat from rfl,qD hlt] at hw
     exact(Z9 hw).symm
    clear hw;refine e▸?_
    have hz:=hi'.1
    obtain⟨t',ht'⟩:=hi'.2 i acc'[i] (Yi (by omega))
    refine aY (acc'[i]) (by rw[YS,Yi (by omega)]) ⟨t',?_⟩
    refine(ht').trans ?_;congr 1;simp
   |_=>exact W.bad
  ·obtain⟨l,ys⟩:=p
   refine W.ite (fun hb s S=>?_) fun zz=>W.bad
   cases l with
   |true=>
    cases eJ e
    obtain⟨items,c,l1,r1,hle,z1⟩:=S.list ho hk
    exact call_list_seq a (.inl rfl) l1 rfl rfl (fun h' c' hk' hn=>mR S hk' hn r1.mono hle) (by rw[z1];exact dg hle)
   |false=>
    cases fR e
    obtain⟨items,c,l1,r1,hle,z1⟩:=S.tup ho hk
    exact call_list_seq a (.inr rfl) l1 rfl rfl (fun h' c' hk' hn=>mR S hk' hn r1.mono hle) (by rw[z1];exact dg hle)
theorem W.w6{t:List Value->Sem Value}{f:O->M V}(hv:bB D ρ vs xs)(h:∀ k a o,ρ[k]? = some a->J.t.get k=some o->W D Y ρ J Z (t [.ref a]) (VR D) (f o J Z)) :
  W D Y ρ J Z (t xs) (VR D) (Mine.one vs (fun v=>Mine.az (refOf v) fun k=>.bind (.obj k) f) J Z):=
 W.one hv fun v x hx=>W.az fun k hk=>by
  refine aF (hx.ref hk) fun a hk qz3=>?_;clear hx;refine qz3▸?_
  exact W.obj fun o ho=>h k a o hk ho
theorem W.tupleOf(hv:bB D ρ vs xs):W D Y ρ J Z (call (.type "tuple") xs) (VR D) (uz n .tuple vs J Z):=
 W.w6 (t:=fun xs=>call (.type "tuple") xs) hv fun k a o hk ho=>W.az fun ys hy=>W.ite (fun hb s S=>by
  obtain rfl:=bW hy
  obtain⟨items,c,l1,r1,hle,z1⟩:=S.list ho hk
  refine call_tuple_list l1.isList (fun h' hk'=>?_) (z1▸(dg hle))
  exact dS (S.ext (s':={s with heap:=h'}) hk') ⟨items,0,rfl,r1.mono,hle⟩ rfl) fun zz=>W.bad
end
end
section
variable {D:Wd}{Y:Gm}{ρ:List Addr}{J:aq}{Z:List V}{s:Shared}
theorem W.GN{vs:List V}{xs:List Value}{n:Nat}(hv:bB D ρ vs xs):W D Y ρ J Z (call (.type "set") xs) (VR D) (uz n .set vs J Z):=
 W.zero (t:=fun xs=>call (.type "set") xs) hv fun s S=>by
  refine call_set_0 fun led=>dS S (GA (#[]) 0 _ ⟨rfl,rfl,rfl⟩ rfl (fun e h=>by simp at h) (fun k=>by simp) (by decide) ?_ rfl (by decide)) rfl
  cases led<;>rfl
theorem lG(a:Addr):Meets (Builtin.«bool.__new__» ⟨[.type "bool",.ref a],[]⟩) (fun zz R s=>∃ items:Array Value,s.heap.IsList a items/\(items.size:Int)<2 ^ 63/\R (.ok (.ret (.bool (!items.isEmpty)))) {s with toks:=s.toks+1+1}):=by
 intro prog w A R s ⟨items,h1,h2,h3⟩
 haveI f1:=F.conv_sub_bool
 unfold Builtin.«bool.__new__»
 refine Z8 ?_
 repeat (any_goals (first | assumption | (with_reducible refine wpAny_truthy_list h1 h2 ?_) | wp_step))
 all_goals first | exact h3 | skip
theorem W.boolOf{vs:List V}{xs:List Value}{n:Nat}(hv:bB D ρ vs xs):W D Y ρ J Z (call (.type "bool") xs) (VR D) (uz n .bool vs J Z):=
 W.w6 (t:=fun xs=>call (.type "bool") xs) hv fun k a o hk ho=>W.az fun ys hy s S=>by
  obtain rfl:=bW hy
  obtain⟨items,c,l1,r1,hle,z1⟩:=S.list ho hk
  exact call_bool_1 (lG a) (EB items l1.isList (by refine z1▸?_;omega) rfl (bp S _ (ZV (fun b=>Value.bool (!b)) (empty_eq z1))))
end
theorem qP(x y:Int):∀ l:List Int,insI x (insI y l)=insI y (insI x l)
 |[]=>by
  dsimp only[insI]
  by_cases h1:x<=y<;>by_cases h2:y<=x<;>simp[h1,h2]<;>omega
 |z::r=>by
  haveI ih:=qP x y r
  by_cases hy:y<=z<;>by_cases hx:x<=z<;>simp only[hy,hx,if_true,if_false,insI]
  ·by_cases h1:x<=y<;>by_cases h2:y<=x<;>simp[h1,h2,hx,hy]<;>omega
  ·haveI h1:¬x<=y:=by omega
   simp[h1]
  ·haveI h1:¬y<=x:=by omega
   simp[h1]
  ·exact ih▸rfl
theorem oK{a b:List Int}(h:a.Perm b):sortI a=sortI b:=by
 induction h with
 |nil=>rfl
 |cons x _ ih=>simp only[sortI,ih]
 |swap x y l=>simp only[sortI];exact qP _ _ _
 |trans _ _ h1 h2=>exact h1.trans h2
theorem gC:∀ {a:List Int},a.Pairwise (·<=·)->sortI a=a
 |[],_=>rfl
 |x::r,h=>by
  rw[Y1] at h
  simp only[sortI,gC h.2]
  cases r with
  |nil=>rfl
  |cons y r=>simp only[insI];exact if_pos (h.1 y ZX)
section
variable {D:Wd}{Y:Gm}{ρ:List Addr}{J:aq}{Z:List V}{s:Shared}
theorem bB.pY:∀ {ns:List Int} {xs:List Value},bB D ρ (ns.map .int) xs->IntsAre xs ns
 |[],[],_=>.nil
 |n::ns,x::xs,h=>by refine df h.1 fun t qz1=>?_;refine qz1▸?_;exact .cons _ _ (bB.pY h.2)
 |[],_::_,h=>h.elim
 |_::_,[],h=>h.elim
theorem fi:∀ {ns:List Int} {xs:List Value},IntsAre xs ns->bB D ρ (ns.map .int) xs
 |_,_,.nil=>trivial
 |_,_,.cons _ _ h=>⟨⟨_,rfl⟩,fi h⟩
theorem nX{o:O}{l:List Int}(h:sO o=some l):o = .list (l.map .int):=by
 refine aF (bind_some h) fun ys h1 h2=>?_
 exact(bW h1)▸(ints_get h2)▸rfl
theorem rX{prog:Program}{w:World}{A:Around}{E:Value->Shared->Prop}{s:Shared}{a:Addr}{T:String}{items:Array Value}{n:Nat}{ns:List Int}{Q:Value->Shared->Prop}(hT:T = "list"∨T = "tuple")(ho:s.heap.get? a=some (seqObj T items n))(hI:IntsAre items.toList ns)(h64:items.toList.length<64)(h:∀ (out:Array Value) (ns':List Int) (l:Addr) (e:Nat) (h':Heap),IntsAre out.toList ns'->ns'.Perm ns->ns'.Pairwise (·<=·)->s.heap.get? l=none->(∀ b o,s.heap.get? b=some o->h'.get? b=some o)->h'.get? l=some (seqObj "list" out e)->Q (.ref l) {s with heap:=h'}) :
  wpAny (model prog w) A (call (.builtin "sorted") [.ref a]) Q E s:=by
 have hz:items.size<=sizeLine:=by refine XS▸Yk▸?_;exact om [_] [(.s (.v 0),.n 64)] (.v 0,.n 16777216) rfl h64
 refine Calls.call_function_entry kind_sorted plain_sorted entry_sorted (args_sorted1 _) ?_
 refine Z8 (ZW ?_)
 refine Z8 (wpAny_collect_seq a hT ho rfl rfl (fun h₁ hk=>?_) hz)
 refine Z8 (wpAny_newList ?_ (by dsimp only[Array.length_toList];exact hz))
 have hge:s.heap.get? h₁.objs.size=none:=by
  refine bI (s.heap.get? h₁.objs.size) (fun q=>?_) fun o q=>?_
  ·rfl
  ·exact absurd (YG (hk _ _ q)) (XF _)
 have hoL:(h₁.push (seqObj "list" items.toList.toArray 0)).get? h₁.objs.size=some (seqObj "list" items.toList.toArray 0):=Zu _ rfl
 show wpAny _ _ _ _ _ {s with heap:=h₁.push (seqObj "list" items.toList.toArray 0)}
 refine Z8 (Zw (Xm slot_list_sort (aY _ hoL rfl) entry_list_sort (list_sort_tree hoL hI h64 fun out ns' a1 a2 a3=>(aY _ rfl ?_)) (args_list_sort _)))
 refine df (sortedHeap_at (out:=out) hoL) fun e' he'=>?_
 refine ZW (aY _ rfl (h out ns' _ e' _ a1 a2 a3 hge (fun b o hb=>?_) he'))
 haveI hb1:=hk b o hb
 haveI hlt:=YG hb1
 rw[sortedHeap_old (Zk hlt) (by rw[size_push'];exact Nat.lt_succ_of_lt hlt),Heap.get?_push_ne _ _ _ (Zk hlt)]
 exact hb1
theorem W.sortedOf{vs:List V}{xs:List Value}{n:Nat}(hv:bB D ρ vs xs):W D Y ρ J Z (call (.builtin "sorted") xs) (VR D) (uz n .sorted vs J Z):=
 W.w6 (t:=fun xs=>call (.builtin "sorted") xs) hv fun k a o hk ho=>W.az fun l hl=>W.ite (fun h64=>W.ite (fun hb s S=>by
  haveI h64:=cU h64
  refine aF (bind_some hl) fun qz3 h1 h2=>?_;obtain⟨b,vs⟩:=qz3
  obtain rfl:=ints_get h2
  have at_:∃ T items c,(T = "list"∨T = "tuple")/\s.heap.get? a=some (seqObj T items c)/\bB D ρ (l.map .int) items.toList/\items.size=(l.map V.int).length:=by
   clear h2;cases b with
   |true=>obtain rfl:=eJ h1;obtain⟨items,c,l1,r1,_,z1⟩:=S.list ho hk;exact vx _ items c (.inl rfl) l1 r1 z1
   |false=>obtain rfl:=fR h1;obtain⟨items,c,l1,r1,_,z1⟩:=S.tup ho hk;exact vx _ items c (.inr rfl) l1 r1 z1
  refine u9 at_ fun T items c hT l1 r1 z1=>?_;clear at_
  rw[Z0] at z1
  refine rX hT l1 r1.pY (Yk▸z1▸h64) fun out ns' a' e' h' a1 a2 a3 hge hk' he'=>?_
  haveI e:ns'=sortI l:=by rw[<-oK a2,gC a3]
  clear a2;clear a3;subst e
  haveI S1:St D Y ρ J Z {s with heap:=h'}:=S.ext hk'
  haveI fr:a'∉Y.own ρ:=fun hm=>by
   refine df (S.live hm) fun x hx=>?_
   replace hx:=(hge).symm.trans hx;cases hx
  have fk:Y.kp a'=none:=by
   refine bI (Y.kp a') (fun h=>?_) fun o h=>?_
   ·rfl
   ·haveI:=S.keep _ _ h;replace this:=(hge).symm.trans this;cases this
  exact⟨[a'],jZ S,S1.take he' fr fk ⟨out,e',rfl,fi a1,ZC hb⟩⟩) fun zz=>W.bad) fun zz=>W.bad
end
section
variable {vs:List V}{xs:List Value}
theorem uN:∀ l:List Int,Ac l=l.sum
 |[]=>rfl
 |x::r=>by simp only[Ac,uN r];exact(List.sum_cons)
theorem tM:∀ (l:List Int) (m:Int),m<=gv m l/\(∀ a∈l,a<=gv m l)/\(gv m l=m∨gv m l∈l)
 |[],m=>(c9 (W2 _) (fun zz h=>by contradiction) (.inl rfl))
 |x::r,m=>by
  refine gm (tM r (if m<x then x else m)) fun h1 h2 h3=>?_
  simp only[gv]
  by_cases q:m<x
  ·rw[if_pos q] at h1 h2 h3 ⊢
   refine c9 (by omega) (fun a ha=>?_) ?_
   ·rcases ZS.mp ha with rfl | ha
    ·exact h1
    ·exact h2 a ha
   ·rcases h3 with h3 | h3
    ·right;simp only[h3];exact ZX
    ·right;exact ZY _ h3
  ·rw[if_neg q] at h1 h2 h3 ⊢
   refine c9 h1 (fun a ha=>?_) ?_
   ·rcases ZS.mp ha with rfl | ha
    ·omega
    ·exact h2 a ha
   ·rcases h3 with h3 | h3
    ·left;exact h3
    ·right;exact ZY _ h3
section
variable {D:Wd}{Y:Gm}{ρ:List Addr}{J:aq}{Z:List V}{s:Shared}
theorem bB.items{ns:List Int}{items:Array Value}(h:bB D ρ (ns.map .int) items.toList):∃ xs:Array (Int×Tok),items=intItems xs/\xs.toList.map (·.1)=ns:=by
 haveI hi:=h.pY
 refine df ((show AllInts items from by simpa using hi.allInts).items) fun xs e=>?_
 refine aY xs e ?_
 rw[<-nums_intItems,<-e]
 exact hi.numsOf
theorem W.sumOf(hh:Y.A.handled=none){n:Nat}(hv:bB D ρ vs xs):W D Y ρ J Z (call (.builtin "sum") xs) (VR D) (uz n .sum vs J Z):=
 W.w6 (t:=fun xs=>call (.builtin "sum") xs) hv fun k a o hk ho=>W.az fun l hl s S=>by
  obtain rfl:=nX hl
  obtain⟨items,c,l1,r1,hle,z1⟩:=S.list ho hk
  refine aF r1.items fun xs qz1 e=>?_;clear r1;clear z1;subst qz1
  refine sum_intListG hh l1.isList fun h' tk t' hk'=>?_
  rw[preSum_eq,Xx (by simp),e,<-uN]
  exact a7 (S.ext hk') ⟨t',rfl⟩
theorem zb{xs:Array (Int×Tok)}{m:Int}{l:List Int}(e:xs.toList.map (·.1)=m::l):numAt xs (argBest (fun i j=>decide (numAt xs i>numAt xs j)) (xs.size-1))=gv m l:=by
 haveI hz:xs.size=l.length+1:=by
  haveI:=ZV List.length e
  simpa using this
 refine bU (argBest_gt (numAt xs) (xs.size-1)) fun h1 h2=>?_
 refine gm (tM l m) fun g1 g2 g3=>?_
 haveI hall:∀ a∈m::l,a<=gv m l:=fun a ha=>by
  rcases ZS.mp ha with rfl | ha
  ·exact g1
  ·exact g2 a ha
 haveI hmem:gv m l∈m::l:=by
  rcases g3 with g3 | g3
  ·rw[g3];exact ZX
  ·exact ZY _ g3
 refine Int.le_antisymm (hall _ ?_) ?_
 ·rw[numAt_eq,e]
  exact getD_mem (by dsimp only[List.length_cons];exact om [_,_,_,_] [(.v 0,.s (.v 1)),(.v 2,.v 3),(.a (.v 3) (.n 1),.v 0)] (.s (.v 2),.s (.v 1)) rfl (eE hz) h1 (Gz (om [_,_] [(.s (.v 0),.v 1)] (.n 1,.v 1) rfl (lC hz))))
 ·rw[<-e] at hmem
  refine aF (mem_getD hmem) fun j hj ej=>?_
  rw[Z0,Yk] at hj
  rw[<-ej,<-numAt_eq]
  exact h2 j (om [_,_,_] [(.s (.v 0),.v 1),(.v 1,.a (.v 2) (.n 1))] (.v 0,.v 2) rfl hj DW)
theorem W.maxOf(hh:Y.A.handled=none){n:Nat}(hv:bB D ρ vs xs):W D Y ρ J Z (call (.builtin "max") xs) (VR D) (uz n .max vs J Z):=
 W.w6 (t:=fun xs=>call (.builtin "max") xs) hv fun k a o hk ho=>W.az fun l hl=>by
  cases l with
  |nil=>exact W.bad
  |cons m l=>
   intro s S
   obtain rfl:=nX hl
   obtain⟨items,c,l1,r1,hle,z1⟩:=S.list ho hk
   refine aF r1.items fun xs qz3 e=>?_;clear r1;clear z1;subst qz3
   haveI hz:xs.size=l.length+1:=by
    haveI:=ZV List.length e
    simpa using this
   refine max_intList hh l1.isList (om [_,_] [(.s (.v 0),.v 1)] (.s (.n 0),.v 1) rfl (lC hz)) fun v h' tk hv hk'=>?_
   refine df (intItems_at hv) fun t qz5=>?_;clear hv;rw[qz5]
   rw[zb e]
   exact a7 (S.ext hk') ⟨t,rfl⟩
noncomputable def jc:Bi->Str
 |.len=> "len"
 |.aW=> "range"
 |.cX=> "range"
 |.list=> "list"
 |.tuple=> "tuple"
 |.sum=> "sum"
 |.max=> "max"
 |.sorted=> "sorted"
 |.bool=> "bool"
 |.set=> "set"
theorem W.bi(B:aV D Y)(hh:Y.A.handled=none){b:Bi}(hv:bB D ρ vs xs):W D Y ρ J Z (call (uk b) xs) (VR D) (uz D.scr.length b vs J Z):=by
 cases b with
 |len=>exact W.len B hv
 |aW=>exact W.aW hv
 |cX=>exact W.cX hv
 |list=>exact W.listOf hh hv
 |tuple=>exact W.tupleOf hv
 |sum=>exact W.sumOf hh hv
 |max=>exact W.maxOf hh hv
 |sorted=>exact W.sortedOf hv
 |bool=>exact W.boolOf hv
 |set=>exact W.GN hv
theorem aw.blt(B:aV D Y)(hh:Y.A.handled=none){b:Bi}{x:Str}{p pos:Pos}{args:List Expr}{y:M (List V)}(hx:x=jc b)(hk:Y.env.kindOf x=some .globalImplicit)(hm:D.mg x=none)(hb:D.mb x=some (uk b))(hs:(backTo pos (starEach args Y.env)).any (·.1)=false)(ha:aw D Y (spliced (backTo pos (starEach args Y.env))) (bB D) y) :
  aw D Y (eval (.Call (.Name x p) args [] pos) Y.env) (VR D) (.bind y fun vs=>uz D.scr.length b vs):=fun ρ J Z=>by
 refine W.builtin B hk hm hb ?_ (by clear hb;clear hk;clear hm;refine hx▸?_;cases b<;>decide)
 refine W.nest (ha _ _ _) (fun ρ2 vs J2 Z2 xs zz hv=>W.bi B hh hv) fun s Q E S hq=>?_
 clear hb;clear hx;cases b<;>first
  |exact XX hs (fS hs hq)
  |exact PySem.callWith_type hs (fS hs hq)
theorem aw.Hj(B:aV D Y){hd:Nat}(hh:Md Y hd){v i:Expr}{p:Pos}{x y:M V}(h:aw D Y (eval v Y.env) (VR D) x)(hi:aw D Y (eval i Y.env) (VR D) y)(hs:∀ l u q,i≠.Slice l u none q) :
  aw D Y (eval (.Subscript v i p) Y.env) (VR D) (aD hd D.scr x y):=fun ρ J Z=>by
 refine(h ρ J Z).bind fun ρ1 a J1 Z1 xa zz ha=>(W.holding (hi _ _ _)).bind fun ρ2 b J2 Z2 xb zz hb=>W.bj ?_
 show W D Y _ _ _ (subscriptTail v i xa xb) _ _
 refine lQ (Co a) (fun e=>?_) fun e=>?_
 ·exact W.idx hh ha.mono hb fun hT hl hg=>tail_any hT hl hg (ml hs)
 ·cases a<;>first | (cases e;done) | skip
  subst ha
  refine W.az fun k hk=>W.az fun z q=>W.ite (fun h0 s S=>?_) fun zz=>W.bad
  refine df (hb.int hk) fun t qz0=>?_;clear hb;subst qz0
  have h0:=ZL h0
  refine aF (B.scr s.heap S.keep) fun vs h1 h2=>?_
  haveI hlt:=(ZP.mp q).1
  haveI hl:=B.d5
  refine aF ((fi (D:=D) (ρ:=ρ++ρ1++ρ2) h2).get (i:=k.toNat) (v:=.int z) (by refine(ZH)▸q▸?_;rfl)) fun y hy hv=>?_
  refine tail_any h1.typeIs slot_list_getitem.lookup ?_ (ml hs)
  exact wpAny_getItem_list h1 h0 (by omega) (by simpa using hy) (a7 S hv)
theorem uY(a:Addr):Meets (Builtin.«isinstance» ⟨[.ref a,.type "tuple"],[]⟩) (fun zz R s=>s.TypeIs (.ref a) "tuple"/\R (.ok (.ret (.bool true))) s):=
 isinstance_true (by kernel_rfl) (by rw[Xo];kernel_rfl)
end
end
section
variable {α β:Type}{A:Around}{f:Fn}{fd:FuncData}{Z' all vs over:List V}{xs:List Value}{c:Nat}{F:eP}{J':aq}{a:V}{x:Value}
theorem nQ{p:Str}{l:List (Str×Value)}:((p,x)::l).lookup p=some x:=by rw[Y4,Y3]
theorem uE{n p:Str}{l:List (Str×Value)}(h:n≠p):((p,x)::l).lookup n=l.lookup n:=by rw[Y4,Ys.mpr h]
theorem zw{f g:α->Option β}{l:List α}(h:∀ x∈l,f x=g x):l.filterMap f=l.filterMap g:=by
 induction l with
 |nil=>rfl
 |cons a r ih=>rw[Xh,Xh,h a ZX,ih fun x hx=>h x (ZY _ hx)]
theorem Ha{l:List α}(h:l.length=2):∃ a b,l=[a,b]:=
 match l,h with
 |[a,b],_=>uS a b rfl
theorem uG{b:Bool}{x k:α}(h:(match b with | true=>some x | false=>none)=some k):b=true/\x=k:=by
 cases b with
 |true=>exact⟨rfl,Z9 h⟩
 |false=>exact a9 h
theorem ri:∀ {ps:List Str} {xs:List Value},ps.Nodup->ps.length<=xs.length->ps.filterMap (fun n=>((ps.zip xs).lookup n).map (n,·))=ps.zip xs
 |[],_,_,_=>rfl
 |_::_,[],_,h=>absurd h (Yn _)
 |p::ps,x::xs,hn,hl=>
  (Xf (f:=fun n=>(((p,x)::ps.zip xs).lookup n).map (n,·)) (ZV _ nQ)).trans (ZV _
   ((zw fun n h=>ZV _ (uE fun e:n=p=>(ZN.mp hn).1 (e▸h))).trans (ri (ZN.mp hn).2 (WT hl))))
theorem iH:∀ {ps:List Str} {xs:List Value} {n:Str},ps.length<=xs.length->n∈ps->((ps.zip xs).lookup n).isNone=false
 |[],_,_,_,h=>absurd h YJ
 |_::_,[],_,h,_=>absurd h (Yn _)
 |p::ps,x::xs,n,hl,h=>(WD (n=p)).elim (fun e=>e▸ZV Option.isNone nQ) fun e=>(ZV Option.isNone (uE e)).trans (iH (WT hl) ((ZS.mp h).resolve_left e))
theorem bind_none{ps:List Str}(h1:fd.params.posonlyargs=[])(h2:fd.params.kwonlyargs=[])(h3:fd.params.kwarg=none)(hd:fd.defaults = .none)(h5:fd.params.args.map (·.arg)=ps)(hv:(decide (xs.length>ps.length)&&fd.params.vararg.isNone)=false)(hl:ps.length<=xs.length)(hn:ps.Nodup):bindArgs fd ⟨xs,[]⟩=match fd.params.vararg with
   |none=>pure (ps.zip xs)
   |some a=>newTuple (xs.drop ps.length)>>=fun t=>pure (ps.zip xs++[(a.arg,t)]):=by
 haveI hm:List.filter (fun n=>(List.lookup n (ps.zip xs)).isNone) (List.take ps.length ps)=[]:=by
  rw[List.filter_eq_nil_iff,Yu]
  intro n hn'
  rw[iH hl hn']
  exact nofun
 haveI hf:=ri hn hl
 obtain⟨_,_,⟨_,_,va,_,_,_,_⟩,_⟩:=fd
 dsimp only at h1 h2 h3 hd h5 hv
 subst h1 h2 h3 hd
 dsimp only[bindArgs]
 rw[h5]
 refine(if_neg fun e=>jC (hv.symm.trans e)).trans ?_
 rw[show List.drop ((none.getD (#[]:Array Value)).toList.length-(List.map (fun x:Arg=>x.arg) []++ps).length) (none.getD (#[]:Array Value)).toList=[] from List.drop_nil]
 refine(if_neg fun e=>jC ((ZV (fun l:List Str=>!l.isEmpty) hm).symm.trans e)).trans ?_
 have hf':List.filterMap (fun n=>Option.map (fun x=>(n,x)) (List.lookup n (ps.zip xs))) (ps++[])=ps.zip xs:=by rw[ZT];exact hf
 rw[List.zip_nil_right]
 clear hv;cases va with
 |none=>exact ZV (pure:_->Sem _) hf'
 |some a=>exact ZV (fun l=>(newTuple _>>=fun t=>pure (l++[(a.arg,t)]):Sem _)) hf'
theorem gf(h1:fd.params.posonlyargs=[])(h2:fd.params.kwonlyargs=[])(h3:fd.params.kwarg=none)(h4:fd.params.vararg=none)(hd:fd.defaults = .none)(hl:xs.length=fd.params.args.length)(hn:(fd.params.args.map (·.arg)).Nodup):bindArgs fd ⟨xs,[]⟩=pure ((fd.params.args.map (·.arg)).zip xs):=by
 haveI:=bind_none h1 h2 h3 hd rfl ((ZV (· && fd.params.vararg.isNone) (Zo (by rw[hl,Z0];exact XF _))).trans rfl) (by rw[Z0];exact Yo hl.symm) hn
 rwa [h4] at this
theorem vD{a:Arg}(h1:fd.params.posonlyargs=[])(h2:fd.params.kwonlyargs=[])(h3:fd.params.kwarg=none)(h4:fd.params.vararg=some a)(hd:fd.defaults = .none)(hl:fd.params.args.length<=xs.length)(hn:(fd.params.args.map (·.arg)).Nodup):bindArgs fd ⟨xs,[]⟩=(do
   let t <-newTuple (xs.drop fd.params.args.length)
   pure ((fd.params.args.map (·.arg)).zip xs++[(a.arg,t)])):=by
 haveI:=bind_none h1 h2 h3 hd rfl (by rw[h4];exact Bool.and_false _) (by rw[Z0];exact hl) hn
 rwa [h4,Z0] at this
theorem vA{p q:Arg}(h1:fd.params.posonlyargs=[])(h2:fd.params.kwonlyargs=[])(h3:fd.params.kwarg=none)(h4:fd.params.vararg=none)(h5:fd.params.args=[p,q])(hp:p.arg = "self")(hq:q.arg = "graph"):∃ k,bindArgs fd ⟨[x],[]⟩=seqItems? fd.defaults>>=k/\∀ d,k (some #[d])=pure [(p.arg,x),(q.arg,d)]:=by
 obtain⟨_,_,⟨_,_,_,_,_,_,_⟩,_⟩:=fd
 obtain⟨_,_,_⟩:=p
 obtain⟨_,_,_⟩:=q
 subst h1 h2 h3 h4 h5 hp hq
 exact aY _ rfl fun d=>by kernel_rfl
section
variable {D:Wd}{Y:Gm}{ρ:List Addr}{J:aq}{Z:List V}{s:Shared}
structure tn(Y:Gm):Prop where
 fs:∃ fs,Y.A.frames=some fs/\∀ e∈fs,e.scope.kind≠.module/\∃ p,e.frame=some p/\(p=Y.env.locals∨p∈Y.fr.map (·.1))
theorem jY.dU(B:aV D Y)(R:jY Y):tn Y:=by
 refine aF R.around fun outer h1 h2=>?_
 refine⟨(aY _ h1 (fun e he=>?_))⟩
 rcases ZS.mp he with rfl | he
 ·exact⟨by refine B.kind▸?_;decide,_,R.own,.inl rfl⟩
 ·refine bU (h2 e he) fun g1 qz1=>?_;obtain⟨p,hp,g2⟩:=qz1
  exact⟨g1,_,g2,.inr (Y8 hp)⟩
theorem tn.le{Y':Gm}(R:tn Y)(h:Y.Le Y'):tn Y':=by
 refine g9 h fun kp fz kg qz3 h1=>?_;clear h;subst qz3
 exact⟨R.fs⟩
structure sY(Y:Gm)(n:Nat)(A:Around):Prop where
 frames:A.frames=Y.A.frames
 handled:A.handled=none
 units:A.units+20*n<=8000
 depth:A.depth+20*n<=800
noncomputable def zT(D:Wd)(Y:Gm)(ρ:List Addr)(A:Around)(f:Value)(xs:List Value)(r:Rs V)(s:Shared):Prop:=
 codeAny (model D.prog D.w) A (.call f ⟨xs,[]⟩) (fun q s'=>match q with
  |.ok (.ret v)=>QR D Y ρ (VR D) r v s'
  |.ok _=>False
  |.error e=>ER D Y ρ r e s') s
noncomputable def gz(D:Wd)(n:Nat)(f:Value)(m:List V->M V):Prop:=∀ Y A,aV D Y->tn Y->sY Y n A->∀ ρ J Z vs xs s,St D Y ρ J Z s->bB D ρ vs xs->m vs J Z≠.bad->zT D Y ρ A f xs (m vs J Z) s
structure iJ(D:Wd)(a:Addr)(scope:Scope)(b:dG)(n:Nat)(Y:Gm):Prop where
 blok:aV D Y
 EO:jY Y
 handled:Y.A.handled=none
 units:Y.A.units+20*n+10<=8000
 depth:Y.A.depth+20*n+10<=800
 scope:Y.env.scope=scope
 nm:Y.nm=bA b
 code:∀ o fd,D.K.lookup a=some o->o.data = .func fd->Y.env.code=fd.code
theorem fe.wide{ns:List (Str×NameKind)}{b:dG}(h:fe [] b ns)(out:List Str):fe out b ns/\(∀ x,(x,NameKind.free)∉ns)/\∀ e J,bq e b J=bq [] b J:=by
 haveI mem:∀ {x y:Str} {k:NameKind} {r:List _},k≠.free->(x,NameKind.free)∉r->(x,NameKind.free)∉(y,k)::r:=fun hk h hx=>by
  rcases ZS.mp hx with q | q
  ·refine bU (Y7 q) fun qz5 qz6=>?_;clear hx;clear q;subst qz5;subst qz6;exact hk rfl
  ·exact h q
 induction h with
 |nil=>exact c9 .nil nofun (fun zz zz=>rfl)
 |loc t ih=>exact c9 (.loc ih.1) (fun x=>mem nofun (ih.2.1 x)) fun e J=>ZV (fun p:aq×List V=>(p.1,V.ah::p.2)) (ih.2.2 e J)
 |own t ih=>exact c9 (.own ih.1) (fun x=>mem nofun (ih.2.1 x)) fun e J=>ZV (fun p:aq×List V=>(p.1,V.aI J.n::p.2)) (ih.2.2 e _)
 |cM h t ih=>contradiction
 |glob t ih=>exact c9 (.glob ih.1) (fun x=>mem nofun (ih.2.1 x)) ih.2.2
theorem W.binds(B:aV D Y):∀ {is:List Nat} {binds:List (Str×Value)} {vs:List V} {ρ:List Addr} {J:aq} {Z:List V},iD Y is (binds.map (·.1))->bB D ρ vs (binds.map (·.2))->
  W D Y ρ J Z (forIn binds PUnit.unit fun x zz=>(do storeName Y.env x.1 x.2;Pure.pure (ForInStep.yield PUnit.unit))) (fun _ (_:Unit) (_:PUnit)=>True) (eB is vs J Z)
 |[],[],[],ρ,J,Z,_,_=>W.pure trivial
 |i::is,(n,y)::r,v::vs,ρ,J,Z,h,hv=>by
  replace h:=XO h
  simp only[Xw,bind_assoc]
  refine(W.store B h.1 hv.1).bind fun ρ1 zz J1 Z1 zz zz zz=>?_
  exact W.binds B h.2 hv.2.mono
 |[],_::_,_,_,_,_,h,_=>nomatch (h)
 |_::_,[],_,_,_,_,h,_=>nomatch (h)
 |[],[],_::_,_,_,_,_,h=>h.elim
 |_::_,_::_,[],_,_,_,_,h=>h.elim
inductive Hm(D:Wd)(a:Addr)(f:Fn)(scope:Scope)(body:List Stmt):Prop where
 |mk (o:Obj) (fd:FuncData) (h1:D.K.lookup a=some o) (h2:o.data = .func fd) (h3:codeIn D.K fd.code fd.qualname=true) (h4:fd.scope=scope) (h5:fd.body = .stmts body) (h6:fd.globals=mainGlobals) (h7:fd.builtins=builtinsNs) (h8:fd.closure=[])
  (h9:fd.params.posonlyargs=[]) (h10:fd.params.kwonlyargs=[]) (h11:fd.params.kwarg=none) (h12:(fd.params.args.map (·.arg)).Nodup) (h13:f.bR.map (fun i=>(bA f.names)[i]?)=(fd.params.args.map (·.arg)).map some)
  (h14:match f.star with
   |none=>fd.params.vararg=none/\(f.dflt=[]/\fd.defaults = .none∨f.dflt=[.none]/\(f.bR.length=2/\fd.params.args.map (·.arg)=[("self" : Str), "graph"])/\∃ T oT,fd.defaults = .ref T/\D.K.lookup T=some oT/\∃ n,oT.data = .seq #[.none] n)
   |some i=>f.dflt=[]/\fd.defaults = .none/\∃ q:Arg,fd.params.vararg=some q/\(bA f.names)[i]? = some q.arg)
structure AQ(D:Wd)(a:Addr)(f:Fn)(scope:Scope)(body:List Stmt):Prop where
 obj:Hm D a f scope body
 kind:scope.kind = .function
 co:scope.isCoroutine=false
 gen:scope.isGenerator=false
 nodup:(scope.names.map (·.1)).Nodup
 sk:fe [] f.names scope.names
 names:(bA f.names).Nodup
 plain:∀ x∈bA f.names,(x==("__classdict__" : Str))=false/\(x==("__debug__" : Str))=false
theorem m6.leave{env:Env}{m:Str->Option Value}{nm:List Str}{x:Addr}{T:Option Addr}(X:m6 D (Y.inner A env m nm) ρ c a x T s):m6 D Y ρ c a x T s:=by
 have nn:∀ b,b∉(Y.inner A env m nm).own ρ->b∉Y.own ρ:=fun b h q=>h (ZY _ q)
 obtain⟨o,vs,x1,x2,x3,x4,x5,x6,x7,x8,x9⟩:=X
 refine⟨o,vs,x1,x2,x3,x4,nn x x5,x6,x7,x8,?_⟩
 cases T with
 |none=>exact x9
 |some T=>obtain⟨y1,y2,y3,y4,oT,ts,y5,y6,y7⟩:=x9;exact⟨y1,y2,nn T y3,y4,oT,ts,y5,y6,y7⟩
noncomputable def C6(Z:List V)(r:Rs V):Rs V:=match r with
 |.ok v s _=>.ok v s Z
 |.exc c a s _=>.exc c a s Z
 |.bad=>.bad
theorem yI{x:α}{s:aq}{e:List V}:(Rs.ok x s e)≠.exc c a J' Z':=nofun
theorem mh:(Rs.bad:Rs α)≠.exc c a J' Z':=nofun
theorem kK{i:Nat}{x:V}{J:aq}{Z:List V}:bt i x J Z≠.exc c a J' Z':=by
 unfold bt
 cases aE (V.at Z i) with
 |none=>exact yI
 |some k=>
  dsimp only
  cases J.t.get k with
  |none=>exact mh
  |some o=>cases o<;>first | exact mh | exact yI
theorem lu:∀ {is:List Nat} {vs:List V} {c:Nat} {a:V} {J J':aq} {Z Z':List V},eB is vs J Z≠.exc c a J' Z'
 |[],[],_,_,_,_,_,_=>yI
 |[],_::_,_,_,_,_,_,_=>mh
 |_::_,[],_,_,_,_,_,_=>mh
 |i::is,v::vs,c,a,J,J',Z,Z'=>fun h=>by
  replace h:M.bind (bt i v) (fun zz=>eB is vs) J Z = .exc c a J' Z':=h
  unfold M.bind at h
  refine pf (bt i v J Z) (fun zz J2 Z2 q=>?_) (fun zz zz zz zz q=>?_) fun q=>?_
  ·rw[q] at h;exact lu h
  ·exact kK q
  ·rw[q] at h;exact mh h
theorem aV.inner(B:aV D Y){env:Env}{m:Str->Option Value}{nm:List Str}(hu:A.units<=8000)(hdp:A.depth<=800)(hg:env.globals=mainGlobals)(hb:env.builtins=builtinsNs)(hk:env.scope.kind = .function)(hn:nm.Nodup)(hp:∀ x∈nm,(x==("__classdict__" : Str))=false/\(x==("__debug__" : Str))=false):aV D (Y.inner A env m nm) where
 glob:=fun h hk=>by
  haveI:=B.glob h hk
  rw[B.ge.1,B.ge.2] at this
  rw[hg,hb];exact this
 eQ:=B.eQ
 scr:=B.scr
 d5:=B.d5
 units:=hu
 depth:=hdp
 qA:=B.qA
 lim:=B.lim
 ge:=⟨hg,hb⟩
 kind:=hk
 names:=hn
 plain:=hp
theorem DE{n:Nat}{a:Addr}{scope:Scope}{body:List Stmt}{is:List Nat}{binds:List (Str×Value)}{qual:Str}{code:Value}{E:Value->Shared->Prop}(H:AQ D a f scope body)(hbody:∀ Y,iJ D a scope f.names n Y->aw D Y (execs body Y.env) (bX D) (au (f.body F D.scr)))(hcode:∀ o fd,D.K.lookup a=some o->o.data = .func fd->code=fd.code)(B:aV D Y)(R:tn Y)(C:sY Y (n+1) A)(S:St D Y ρ J Z s)(hn:is.map (fun i=>(bA f.names)[i]?)=(binds.map (·.1)).map some)(hv:bB D ρ all (binds.map (·.2))){r:Rs V}(hr:M.bind (eB is all) (fun zz=>aU.fin F D.scr f) (bq [] f.names J).1 (bq [] f.names J).2=r)(hbad:r≠.bad) :
  wpAny (model D.prog D.w) A.in1 (newFunctionEnv scope mainGlobals [] binds qual (some a) code none builtinsNs) (fun env s₂=>s₂.heap.NoLimit/\codeAny (model D.prog D.w) A (.func body env) (fun q s'=>match q with
   |.ok (.ret v)=>QR D Y ρ (VR D) (C6 Z r) v s'
   |.ok _=>False
   |.error e=>ER D Y ρ (C6 Z r) e s') s₂) E s:=by
 refine aF S.loc fun m hm hl=>?_
 refine gm (H.sk.wide Y.nm) fun w1 w2 w3=>?_
 have cu:=C.units
 have cd:=C.depth
 refine fZ H.nodup w1 S hm (fun x hx=>absurd hx (w2 x)) fun L s' ρ' hSt=>?_
 generalize henv:newEnv scope L mainGlobals _ qual (some a) code none builtinsNs=env
 haveI e1:env.locals=L:=by refine henv▸?_;rfl
 haveI e2:env.cells=cellsFrom (L+1) scope.names []:=henv▸rfl
 have e3:env.scope=scope:=henv▸rfl
 haveI e4:env.globals=mainGlobals:=by refine henv▸?_;rfl
 haveI e5:env.builtins=builtinsNs:=by refine henv▸?_;rfl
 haveI e6:env.frame=some env.locals:=henv▸rfl
 haveI e7:env.code=code:=by rw[<-henv];rfl
 have hk:∀ x k,(x,k)∈scope.names->env.kindOf x=some k∨(k = .free/\env.kindOf x=some .cell):=fun x k h=>.inl (by unfold Env.kindOf;exact e3▸(lookup_mem H.nodup h))
 haveI S1:=hSt A.in1 env e1 e2 hk
 rw[w3 Z] at S1
 haveI B1:aV D (Y.inner A.in1 env m _):=B.inner (by show A.units+1<=8000;omega) (by show A.depth<=800;exact om [_,_] [(.a (.v 0) (.v 1),.n 800)] (.v 0,.n 800) rfl cd) e4 e5 (by rw[e3];exact H.kind) H.names H.plain
 haveI W1:=W.binds B1 (ρ:=ρ++ρ') (J:=(bq [] f.names J).1) (Z:=(bq [] f.names J).2) hn hv.mono
 dsimp only[M.bind] at hr
 refine pf (eB is all (bq [] f.names J).1 (bq [] f.names J).2) (fun u J2 Z2 q=>?_) (fun zz zz zz zz q=>?_) fun q=>?_
 ·rw[q] at hr W1
  dsimp only at hr
  refine ZO (W1.to S1 (by intro h;contradiction)) (fun zz s2 h=>?_) fun zz zz h=>h.elim
  obtain⟨ρ2,_,S2⟩:=h
  haveI S3:St D (Y.inner (A.deeper env) env m _) _ J2 Z2 s2:=St.at S2
  have B2:aV D (Y.inner (A.deeper env) env m _):=B.inner (by show A.units+3<=8000;omega) (by show A.depth+1<=800;omega) e4 e5 (by rw[e3];exact H.kind) H.names H.plain
  have R2:jY (Y.inner (A.deeper env) env m (bA f.names)):=by
   refine aF R.fs fun fs h1 h2=>?_
   refine⟨(aY fs ?_ (fun e he=>?_)),e6⟩
   ·show A.frames.map (env::·)=_
    rw[C.frames,h1];rfl
   ·refine bU (h2 e he) fun g1 qz2=>?_;obtain⟨p,g2,g3⟩:=qz2
    refine⟨g1,?_⟩
    rcases g3 with rfl | g3
    ·exact aY _ ZX g2
    ·refine aF (Za.mp g3) fun pp hp qz4=>?_;clear g3;subst qz4
     exact aY pp (ZY _ hp) g2
  have hW:=hbody _ ⟨B2,R2,C.handled,(by show A.units+3+20*n+10<=8000;omega),(by show A.depth+1+20*n+10<=800;omega),e3,rfl,fun o fd h1 h2=>e7.trans (hcode o fd h1 h2)⟩ (ρ++ρ'++ρ2) J2 Z2
  refine⟨B.lim _ S2.keep,codeAny_func ?_⟩
  dsimp only[aU.fin,M.bind] at hr
  have fin:∀ {J3:aq} {Z3:List V} {ρ3:List Addr} {v:V} {y:Value} {s3:Shared},r = .ok v J3 Z3->VR D (ρ++ρ'++ρ2++ρ3) v y->St D (Y.inner (A.deeper env) env m (bA f.names)) (ρ++ρ'++ρ2++ρ3) J3 Z3 s3->QR D Y ρ (VR D) (C6 Z r) y s3:=by
   intro J3 Z3 ρ3 v y s3 e hv S4
   rw[e]
   refine⟨ρ'++ρ2++ρ3,by simp only[<-ZZ];exact hv,?_⟩
   simp only[<-ZZ]
   exact St.leave S4 hl.mono.mono.mono
  refine pf (au (f.body F D.scr) J2 Z2) (fun fl J3 Z3 q2=>?_) (fun c x J3 Z3 q2=>?_) fun q2=>?_
  ·rw[q2] at hr hW
   refine ZO (hW.to S3 (by intro h;contradiction)) (fun g s3 h=>?_) fun zz zz h=>h.elim
   obtain⟨ρ3,hg,S4⟩:=h
   clear hW;clear q2;cases fl with
   |next=>obtain rfl:=(hg);exact fin hr.symm rfl S4
   |brk=>exact absurd hr.symm hbad
   |cont=>exact absurd hr.symm hbad
   |ret v=>
    refine aF hg fun y qz6 hy=>?_;clear hg;subst qz6
    exact fin hr.symm hy S4
  ·rw[q2] at hr hW
   refine ZO (hW.to S3 (by intro h;contradiction)) (fun zz zz h=>h.elim) fun e s3 h=>?_
   obtain⟨ρ3,hX,S4⟩:=h
   refine Z8 (S4.note B2 R2 rfl hX fun s4 S5 X5=>S5.fA X5 fun s5 S6 X6=>?_)
   obtain⟨xa,T,rfl,X7⟩:=X6
   refine hr▸?_
   refine⟨ρ'++ρ2++ρ3,⟨xa,some T,rfl,?_⟩,?_⟩
   ·simp only[<-ZZ];exact X7.leave
   ·simp only[<-ZZ];exact St.leave S6 hl.mono.mono.mono
  ·rw[q2] at hr;exact absurd hr.symm hbad
 ·exact absurd q lu
 ·rw[q] at hr;exact absurd hr.symm hbad
theorem kO(h:gn f vs=some (all,over))(hd:f.dflt=[]):all=vs.take f.bR.length/\f.bR.length<=vs.length/\over=vs.drop f.bR.length/\(f.star=none->vs.length=f.bR.length):=by
 unfold gn at h
 rw[hd] at h
 refine bU (uG h) fun q e=>?_
 replace q:=ZR.mp q
 exact CB (Y7 e).1.symm (ZC q.1) (Y7 e).2.symm fun e=>Zr (by have:=q.2;rw[e] at this;exact this)
theorem sD{d:V}(h:gn f vs=some (all,over))(hd:f.dflt=[d]):all=vs++[d]/\vs.length+1=f.bR.length:=by
 unfold gn at h
 rw[hd] at h
 exact bU (uG h) fun q e=>⟨(Y7 e).1.symm,Zr q⟩
theorem kY{ps:List Str}(h:ps.length<=xs.length):(ps.zip xs).map (·.1)=ps:=by
 exact List.map_fst_zip h
theorem gZ:∀ {ps:List Str} {xs:List Value},ps.length<=xs.length->(ps.zip xs).map (·.2)=xs.take ps.length
 |[],_,_=>rfl
 |_::_,[],h=>absurd h (Yn _)
 |_::_,x::_,h=>ZV (x::·) (gZ (WT h))
inductive Ah(D:Wd)(Y:Gm)(ρ:List Addr)(Z:List V)(f:Fn)(F:eP)(r:Rs V)(b:List (Str×Value))(s:Shared):Prop where
 |mk (ρ1:List Addr) (J1:aq) (is:List Nat) (all:List V) (S:St D Y (ρ++ρ1) J1 Z s) (hn:is.map (fun i=>(bA f.names)[i]?)=(b.map (·.1)).map some) (hv:bB D (ρ++ρ1) all (b.map (·.2)))
  (hr:M.bind (eB is all) (fun zz=>aU.fin F D.scr f) (bq [] f.names J1).1 (bq [] f.names J1).2=r)
section
variable {f:Fn}{fd:FuncData}{F:eP}{vs all over:List V}{xs:List Value}{r:Rs V}{A:Around}{E:Value->Shared->Prop}(hp1:fd.params.posonlyargs=[])(hp2:fd.params.kwonlyargs=[])(hp3:fd.params.kwarg=none)(hpars:f.bR.map (fun i=>(bA f.names)[i]?)=(fd.params.args.map (·.arg)).map some)(hf:gn f vs=some (all,over))(hv:bB D ρ vs xs)(S:St D Y ρ J Z s)(hr:aU.callIn F D.scr f J all over=r)
include hp1 hp2 hp3 hpars hf hv S hr
theorem rg(hs:f.star=none)(hva:fd.params.vararg=none)(hdf:f.dflt=[])(hdv:fd.defaults = .none)(hnd:(fd.params.args.map (·.arg)).Nodup):wpAny (model D.prog D.w) A (bindArgs fd ⟨xs,[]⟩) (Ah D Y ρ Z f F r) E s:=
 D7 (kO hf hdf) fun g1 zz zz g4=>by
  have hpl:=(Z0 _).symm.trans ((ZV List.length hpars).trans (Z0 _))
  have hx:=hv.length.symm.trans ((g4 hs).trans hpl)
  rw[gf hp1 hp2 hp3 hva hdv (hx.trans (Z0 _)) hnd]
  refine ZW ⟨[],J,f.bR,all,(ZT ρ).symm▸S,(kY (Yo hx.symm)).symm▸hpars,?_,?_⟩
  ·rw[gZ (Yo hx.symm),ZT,g1,hpl];exact hv.take _
  ·unfold aU.callIn at hr;rw[hs] at hr;exact hr
theorem sS(hs:f.star=none)(hva:fd.params.vararg=none)(hdf:f.dflt=[.none])(h2:f.bR.length=2)(hpn:fd.params.args.map (·.arg)=[("self" : Str), "graph"]){T:Addr}{oT:Obj}(hdv:fd.defaults = .ref T)(hoT:s.heap.get? T=some oT){nT:Nat}(hT:oT.data = .seq #[.none] nT) :
  wpAny (model D.prog D.w) A (bindArgs fd ⟨xs,[]⟩) (Ah D Y ρ Z f F r) E s:=
 bU (sD hf hdf) fun g1 g2=>by
  have hv1:=Xy (g2.trans h2)
  obtain⟨x,rfl⟩:=WS.mp (hv.length.symm.trans hv1)
  obtain⟨v,rfl⟩:=WS.mp hv1
  obtain⟨p,q,hpq⟩:=Ha ((Z0 _).symm.trans (ZV List.length hpn))
  rw[hpq] at hpn
  have hpn:=XO hpn
  refine aF (vA (x:=x) hp1 hp2 hp3 hva hpq hpn.1 (XO hpn.2).1) fun k k1 k2=>?_
  refine k1▸hdv▸Z8 (WX hoT hT ?_)
  rw[k2]
  refine ZW ⟨[],J,f.bR,all,(ZT ρ).symm▸S,?_,?_,?_⟩
  ·rw[hpars,hpq];rfl
  ·rw[g1,ZT];exact c9 hv.1 rfl trivial
  ·unfold aU.callIn at hr;rw[hs] at hr;exact hr
theorem sd(hbad:r≠.bad){i:Nat}{q:Arg}(hs:f.star=some i)(hva:fd.params.vararg=some q)(hq:(bA f.names)[i]? = some q.arg)(hdf:f.dflt=[])(hdv:fd.defaults = .none)(hnd:(fd.params.args.map (·.arg)).Nodup):wpAny (model D.prog D.w) Y.A.in1 (bindArgs fd ⟨xs,[]⟩) (Ah D Y ρ Z f F r) E s:=
 D7 (kO hf hdf) fun g1 g2 g3 zz=>by
  have hpl:=(Z0 _).symm.trans ((ZV List.length hpars).trans (Z0 _))
  have hx:=hpl▸hv.length▸g2
  unfold aU.callIn at hr
  rw[hs] at hr
  rw[vD hp1 hp2 hp3 hva hdv (Z0 (as:=fd.params.args) (·.arg)▸hx) hnd]
  by_cases hb:Nat.ble over.length 10000=true
  ·have en:∀ e,M.gQ over J e = .ok (.ref J.n) ⟨J.n+1,J.t.ins J.n (.tup over),J.fz⟩ e:=fun e=>congrFun (congrFun (if_pos hb) J) e
   have hW:=W.gQ (Y:=Y.at Y.A.in1) (J:=J) (Z:=Z) (hv.drop f.bR.length)
   rw[<-g3,en Z,hpl,Z0] at hW
   rw[en []] at hr
   refine Z8 (ZO (hW.to S.at nofun) (fun t s1 h=>ZW ?_) fun zz zz h=>h.elim)
   obtain⟨ρ1,ht,S1⟩:=h
   refine⟨ρ1,_,f.bR++[i],all++[.ref J.n],S1.un,?_,?_,hr⟩
   ·rw[Zc,Zc,Zc,kY hx,hpars]
    exact ZV (_++[·]) hq
   ·rw[Zc,gZ hx,g1,hpl]
    exact((hv.take _).mono).append ⟨ht,trivial⟩
  ·rw[show M.gQ over J []=(M.bad:M V) J [] from congrFun (congrFun (if_neg hb) J) []] at hr
   exact absurd hr.symm hbad
end
theorem CL{scr:List Int}(hf:gn f vs=some (all,over)):aU F scr f vs J Z=C6 Z (aU.callIn F scr f J all over):=by
 unfold aU C6;rw[hf]<;>rfl
theorem FK{n:Nat}{a:Addr}{scope:Scope}{body:List Stmt}(H:AQ D a f scope body)(hbody:∀ Y,iJ D a scope f.names n Y->aw D Y (execs body Y.env) (bX D) (au (f.body F D.scr))):gz D (n+1) (.ref a) (aU F D.scr f):=by
 intro Y A B R C ρ J Z vs xs s S hv hbad
 obtain⟨o,fd,ho,hd,hcd,hsc,hbd,hgl,hbi,hclo,hp1,hp2,hp3,hnd,hpars,hst⟩:=H.obj
 have X:=B.eQ s.heap S.keep
 refine bI (gn f vs) (fun hf=>?_) fun p hf=>?_
 ·exact absurd (by unfold aU;rw[hf]) hbad
 ·rw[CL hf] at hbad ⊢
  generalize hr:aU.callIn F D.scr f J p.1 p.2=r at hbad ⊢
  have hbad':r≠.bad:=fun q=>hbad (by rw[q];rfl)
  refine codeAny_call_function (ZG (ZD (Zp _ _) C.depth) (by decide)) (X _ _ ho) hd (hsc▸H.co) (hsc▸H.gen) hbd (codeRec_of X hcd) ?_
  rw[hgl,hbi,hclo,hsc]
  have key:∀ {E},wpAny (model D.prog D.w) A.in1 (bindArgs fd ⟨xs,[]⟩) (Ah D (Y.at A) ρ Z f F r) E s:=by
   refine bI f.star (fun hs=>?_) fun i hs=>?_
   ·rw[hs] at hst
    exact hst.2.elim (fun q=>rg hp1 hp2 hp3 hpars hf hv S.at hr hs hst.1 q.1 q.2 hnd) fun q=>bU q.2.2.choose_spec.choose_spec.2 fun g z=>df z fun nT hT=>sS hp1 hp2 hp3 hpars hf hv S.at hr hs hst.1 q.1 q.2.1.1 q.2.1.2 q.2.2.choose_spec.choose_spec.1 (X _ _ g) hT
   ·rw[hs] at hst
    exact aF hst.2.2 fun q hva hq=>sd hp1 hp2 hp3 hpars hf hv S.at hr hbad' hs hva hq hst.1 hst.2.1 hnd
  refine ZO key (fun b s1 h=>?_) fun zz zz h=>h
  obtain⟨ρ1,J1,is,al,S1,hn,hv1,hr1⟩:=h
  exact ZO (DE H hbody (fun o2 fd2 q1 q2=>by rw[ho] at q1;obtain rfl:=Z9 q1;rw[hd] at q2;injection q2 with h__;subst h__;rfl) B R C S1.un hn hv1 hr1 hbad')
   (fun env s2 h=>⟨h.1,WC h.2 fun q s3 z=>by rcases q with e | (_ | _ | _ | v)<;>first | exact z.elim | exact z.wide⟩) fun zz zz h=>h
end
end
section
variable {D:Wd}{Y:Gm}{ρ:List Addr}{J:aq}{Z:List V}{s:Shared}
noncomputable def mL(D:Wd)(ρ:List Addr)(vs:List V)(a:Args):Prop:=∃ xs,a=⟨xs,[]⟩/\bB D ρ vs xs
theorem W.args{f:Value}{ts:List (Bool×Sem Value)}{r:Rs (List V)}(hs:ts.any (·.1)=false)(h:W D Y ρ J Z (spliced ts) (bB D) r):W D Y ρ J Z (evalArgs f true ts []) (mL D) r:=by
 refine W.of fun s S hb=>fS hs (ZO (h.to S hb) (fun vs s' q=>?_) fun zz zz q=>?_)
 ·clear h;clear hb;cases r with
  |ok b J' Z'=>obtain⟨ρ',h1,h2⟩:=q;exact⟨ρ',(aY vs rfl h1),h2⟩
  |exc _ _ _ _=>exact q.elim
  |bad=>exact q.elim
 ·clear h;clear hb;cases r with
  |ok b J' Z'=>exact q.elim
  |exc _ _ _ _=>exact q
  |bad=>exact q.elim
structure Lv(Y:Gm)(n:Nat):Prop where
 handled:Y.A.handled=none
 units:Y.A.units+20*n+10<=8000
 depth:Y.A.depth+20*n+10<=800
theorem Lv.at'{n:Nat}(L:Lv Y n):sY Y n Y.A:=⟨rfl,L.handled,by haveI:=L.units;exact om [_,_] [(.a (.a (.v 0) (.v 1)) (.n 10),.n 8000)] (.a (.v 0) (.v 1),.n 8000) rfl this,by haveI:=L.depth;exact om [_,_] [(.a (.a (.v 0) (.v 1)) (.n 10),.n 800)] (.a (.v 0) (.v 1),.n 800) rfl this⟩
theorem gz.w{n:Nat}{f:Value}{m:List V->M V}(h:gz D n f m)(B:aV D Y)(R:tn Y)(L:Lv Y n){vs:List V}{xs:List Value}(hv:bB D ρ vs xs):W D Y ρ J Z (call f xs) (VR D) (m vs J Z):=
 W.of fun s S hb=>W7 (WC (h Y Y.A B R L.at' ρ J Z vs xs s S hv hb) fun q s' z=>by
  rcases q with e | (_ | _ | _ | v)<;>exact z)
theorem W.uM{n:Nat}{a:Addr}{o:Obj}{fd:FuncData}{m:List V->M V}{pos:Pos}{ts:List (Bool×Sem Value)}{first:List Value}{vs0:List V}{y:M (List V)}(ho:D.K.lookup a=some o)(hd:o.data = .func fd)(hF:gz D n (.ref a) m)(B:aV D Y)(R:tn Y)(L:Lv Y n)(h0:bB D ρ vs0 first)(ha:W D Y ρ J Z (evalArgs (.ref a) true ts []) (mL D) (y J Z)) :
  W D Y ρ J Z (callWith pos (.ref a) first ts []) (VR D) (M.bind y (fun vs=>m (vs0++vs)) J Z):=by
 skip
 refine(W.holding ha).bind fun ρ1 vs J1 Z1 x zz hx=>W.bj ?_
 refine aF hx fun xs qz1 hv=>?_;clear hx;subst qz1
 have hc:W D Y (ρ++ρ1) J1 Z1 (call (.ref a) (first++xs) []) (VR D) (m (vs0++vs) J1 Z1):=hF.w B R L (h0.mono.append hv)
 refine hc.HG fun s Q E S hq=>?_
 haveI X:=B.eQ s.heap S.keep
 have tail:∀ {t:Sem Value},wpAny (model D.prog D.w) Y.A t Q E s->wpAny (model D.prog D.w) Y.A (t>>=fun r=>PySem.holding [r] PySem.point>>=fun zz=>Pure.pure r) Q E s:=
  fun ht=>Z8 (ZO ht (fun r s₂ hr=>Z8 (Zw (WI (ZW hr)))) fun zz zz x=>x)
 refine Z8 ?_
 skip
 refine Z8 (XE (X _ _ ho) ?_)
 refine hd▸?_
 refine ZW ?_
 refine lQ ((ts.any (·.1)||([]:List (Option Str×Sem Value)).any (·.1.isNone))) (fun hs=>?_) fun hs=>?_
 ·by_cases hc:ts.length+2*([]:List (Option Str×Sem Value)).length>30
  ·exact Im (if_pos hc) (tail hq)
  ·exact Im (if_neg hc) (tail (Calls.wpAny_keep hq))
 ·exact tail (by skip;exact Calls.wpAny_keep hq)
theorem aw.fn{n:Nat}{a:Addr}{o:Obj}{fd:FuncData}{m:List V->M V}{x:Str}{p pos:Pos}{args:List Expr}{y:M (List V)}(B:aV D Y)(R:tn Y)(L:Lv Y n)(hx:Y.env.kindOf x=some .globalImplicit)(hv:D.mg x=some (.ref a))(hdb:(x==("__debug__" : Str))=false)(ho:D.K.lookup a=some o)(hd:o.data = .func fd)(hF:gz D n (.ref a) m)(ha:aw D Y (evalArgs (.ref a) true (backTo pos (starEach args Y.env)) []) (mL D) y) :
  aw D Y (eval (.Call (.Name x p) args [] pos) Y.env) (VR D) (.bind y fun vs=>m vs):=fun ρ J Z=>by
 exact W.global B hx hv (W.uM (vs0:=[]) ho hd hF B R L trivial (ha ρ J Z)) hdb
theorem aw.cls{n:Nat}{a:Addr}{o:Obj}{cdata:ClassData}{m:List V->M V}{x:Str}{p pos:Pos}{args:List Expr}{y:M (List V)}(B:aV D Y)(R:tn Y)(L:Lv Y n)(hx:Y.env.kindOf x=some .globalImplicit)(hv:D.mg x=some (.ref a))(hdb:(x==("__debug__" : Str))=false)(ho:D.K.lookup a=some o)(hd:o.data = .cls cdata)(hc:specialIn D.K (.ref a) "__call__" = some (some (.builtin "type.__call__")))(hF:gz D n (.ref a) m)(hs:(backTo pos (starEach args Y.env)).any (·.1)=false)(ha:aw D Y (spliced (backTo pos (starEach args Y.env))) (bB D) y) :
  aw D Y (eval (.Call (.Name x p) args [] pos) Y.env) (VR D) (.bind y fun vs=>m vs):=fun ρ J Z=>by
 refine W.global B hx hv ?_ hdb
 refine(W.holding (W.args hs (ha ρ J Z))).bind fun ρ1 vs J1 Z1 z zz hz=>W.bj ?_
 refine aF hz fun xs qz3 hv=>?_;clear hz;subst qz3
 have hcl:W D Y (ρ++ρ1) J1 Z1 (call (.ref a) ([]++xs) []) (VR D) (m vs J1 Z1):=hF.w B R L hv
 refine hcl.HG fun s Q E S hq=>?_
 haveI X:=B.eQ s.heap S.keep
 refine Z8 ?_
 dsimp only[keeperOf]
 refine Z8 (XE (X _ _ ho) ?_)
 refine hd▸?_
 refine Z8 ((looks_specialIn X hc).here ?_)
 refine ZW ?_
 simp only[hs,List.any_nil,Bool.or_false,Y3,if_true]
 exact Z8 (ZO hq (fun r s₂ hr=>Z8 (Zw (WI (ZW hr)))) fun zz zz x=>x)
theorem D0{n:Nat}{C fI:Addr}{m:List V->M V}{o:Nat->O}(hm:makesIn D.K C=true)(hi:findIn D.K (.ref C) "__init__" = some (some (.ref fI)))(hf:typeIn D.K (.ref fI)=some (.type "function"))(hO:∀ ρ d a,ρ[d]? = some a->OR D ρ (o d) (instObj C a))(hF:gz D n (.ref fI) m):gz D (n+1) (.ref C) (mkObj o m):=by
 intro Y A B R Ca ρ J Z vs xs s S hv hbad
 haveI X:=B.eQ s.heap S.keep
 haveI cu:=Ca.units
 haveI cd:=Ca.depth
 have S1:=S.new (x:=emptyDict) (o:=.ns [.ah,.ah,.ah,.ah]) (CF [] 0 rfl rfl (by decide) (fun i x hx=>⟨none,rfl,by
  haveI:i<4:=(ZP.mp hx).1
  refine .inl ⟨?_,rfl⟩
  match i,this with
  |0,_=>rfl
  |1,_=>rfl
  |2,_=>rfl
  |3,_=>rfl⟩) (fun x hx=>rfl)) rfl
 haveI hz:(s.heap.push emptyDict).objs.size=s.heap.objs.size+1:=Heap.size_push ..
 have hd:(ρ++[s.heap.objs.size])[J.n]? = some s.heap.objs.size:=by rw[S.num];simp
 haveI S2:=S1.new ((hO _ _ _ hd).mono) rfl
 haveI hk:((ρ++[s.heap.objs.size])++[(s.heap.push emptyDict).objs.size])[J.n+1]? = some (s.heap.objs.size+1):=by
  rw[hz,ZF (by simp[S.num])];simp[S.num]
 skip
 obtain⟨hh,g,d,t,os⟩:=s
 refine make_core (makes_of X hm) (looks_findIn X hi) (fun self=>bind_fn X self hf) (.inl rfl) ?_
 haveI hres:mkObj o m vs J Z=M.bind (m (.ref (J.n+1)::vs)) (fun r=>if oR r=true then M.ret (.ref (J.n+1)) else M.bad) ⟨J.n+1+1,(J.t.ins J.n (.ns [.ah,.ah,.ah,.ah])).ins (J.n+1) (o J.n),J.fz⟩ Z:=rfl
 rw[hres] at hbad ⊢
 have hbad':=fun q=>hbad (ed q)
 haveI hw:(Code.builtin "type.__call__" ⟨.ref C::xs,[]⟩).weight=1:=rfl
 haveI hcu:(Code.builtin "type.__call__" ⟨.ref C::xs,[]⟩).cUnits=1:=rfl
 haveI hfr:(Code.builtin "type.__call__" ⟨.ref C::xs,[]⟩).envs=[]:=rfl
 haveI hcall:=hF Y (A.under (.builtin "type.__call__" ⟨.ref C::xs,[]⟩)) B R ⟨(show pushEnvs (Code.builtin "type.__call__" ⟨.ref C::xs,[]⟩).envs A.frames=Y.A.frames by exact hfr▸Ca.frames),Ca.handled,by show A.units+_+20*n<=8000;omega,by show A.depth+_+20*n<=800;omega⟩ _ _ Z (.ref (J.n+1)::vs) (.ref (hh.objs.size+1)::xs) _ S2 ⟨(aY _ hk rfl),hv.mono.mono⟩ hbad'
 refine WC hcall fun q s' z=>?_
 rcases q with e | (_ | _ | _ | w)<;>first | (exact z.elim) | skip
 ·refine pf (m (.ref (J.n+1)::vs) ⟨J.n+1+1,(J.t.ins J.n (.ns [.ah,.ah,.ah,.ah])).ins (J.n+1) (o J.n),J.fz⟩ Z) (fun v J3 Z3 hr=>?_) (fun c x J3 Z3 hr=>?_) fun hr=>?_
  ·replace z:=hr▸z;exact z.elim
  ·replace z:=hr▸z
   refine(cj hr)▸?_
   simp only[ZZ] at z
   exact z.wide
  ·exact absurd hr hbad'
 ·refine pf (m (.ref (J.n+1)::vs) ⟨J.n+1+1,(J.t.ins J.n (.ns [.ah,.ah,.ah,.ah])).ins (J.n+1) (o J.n),J.fz⟩ Z) (fun v J3 Z3 hr=>?_) (fun c x J3 Z3 hr=>?_) fun hr=>?_
  ·rw[hr] at z
   rw[ag hr] at hbad ⊢
   obtain⟨ρ3,hw,S3⟩:=z
   refine lQ (oR v) (fun hn=>?_) fun hn=>?_
   ·rw[hn] at hbad;exact absurd rfl hbad
   ·clear hbad;clear hr;cases v<;>first | (cases hn;done) | skip
    subst hw
    refine⟨rfl,?_⟩
    simp only[ZZ] at S3
    refine⟨_,(aY _ ?_ rfl),S3⟩
    simp only[<-ZZ]
    exact get_append hk
  ·replace z:=hr▸z;exact z.elim
  ·exact absurd hr hbad'
theorem aw.own{n:Nat}{a:Addr}{oa:Obj}{fd:FuncData}{m:List V->M V}{o:Expr}{name:Str}{apos pos:Pos}{args:List Expr}{x:M V}{y:M (List V)}(B:aV D Y)(C:jf D)(R:tn Y)(L:Lv Y n)(K:yw Y o name apos pos args)(hf:findIn D.K (.ref D.jx) name=some (some (.ref a)))(ht:typeIn D.K (.ref a)=some (.type "function"))(hnf:name∉dw)(hoa:D.K.lookup a=some oa)(hda:oa.data = .func fd)(hF:gz D n (.ref a) m)(ho:aw D Y (eval o Y.env) (VR D) x)(ha:aw D Y (spliced (backTo pos (starEach args Y.env))) (bB D) y) :
  aw D Y (eval (.Call (.Attribute o name apos) args [] pos) Y.env) (VR D) (.bind x fun a=>az (refOf a) fun k=>.bind (.obj k) fun q=>az (lz q) fun d=>.bind (.obj d) fun w=>az (vG w) fun zz=>.bind y fun vs=>m (.ref k::vs)):=fun ρ J Z=>by
 rw[arm_eval_Call,K.base]
 refine(ho ρ J Z).bind fun ρ1 v J1 Z1 xa zz hv=>W.bj (W.az fun k hk=>?_)
 refine aF (hv.ref hk) fun ak hk qz5=>?_;clear hv;refine qz5▸?_
 refine W.obj fun q hq=>W.az fun d hd=>W.obj fun w hw=>W.az fun vs0 hvs=>?_
 obtain rfl:=ju hd
 obtain rfl:=lL hvs
 haveI hc:=W.uM (pos:=pos) (vs0:=[.ref k]) (first:=[.ref ak]) hoa hda hF B R L ⟨(aY ak hk rfl),trivial⟩ (W.args K.star (ha (ρ++ρ1) J1 Z1))
 refine hc.HG fun s Q E S hq'=>?_
 obtain⟨dd,es,n',h3,h2',⟨g1,g2,g3,g4⟩,I⟩:=S.uI hq hw hk
 dsimp only[methodCall]
 refine K.EK▸?_
 refine Z8 (Zw (method_fn (B.eQ s.heap S.keep) I (W0 (C.rB name)).1 (W0 (C.rB name)).2 hf ht (by show(lookIn name (dictOf es n')).map _=_;rw[lookIn_dict,g4 name hnf];rfl) ?_))
 haveI hpos:methodCallPos true o Y.env apos pos=Pure.pure pos:=by unfold methodCallPos;rw[K.line];rfl
 exact Z8 (XQ hpos hq')
end
section
variable {l a m:Addr}{items:Array Value}{x:M V}{i j:Nat}{o:O}{pos:Pos}{Q:Value->Shared->Prop}
namespace Nx
theorem tC:entryFor table "iter" = some Builtin.«iter»:=WO (by kernel_rfl)
theorem uQ(v:Value):argsOk "iter" ⟨[v],[]⟩:=by skip;kernel_rfl
theorem qe:Slot "list_iterator" "__getattribute__" "object.__getattribute__" :=
 .of (owner:= "object") (n:= "__getattribute__") (by rw[WG,Xs];kernel_rfl) (by decide +kernel) (by decide +kernel) (by decide +kernel)
  (by first | exact .inl (by decide +kernel) | exact .inr (by decide +kernel)) (by rw[Xo];kernel_rfl)
theorem w4:entryFor table "object.__getattribute__" = some Builtin.«object.__getattribute__»:=WO (by kernel_rfl)
theorem AB(a b:Value):argsOk "object.__getattribute__" ⟨[a,b],[]⟩:=by skip;kernel_rfl
theorem slot_get:Slot "wrapper_descriptor" "__get__" "wrapper_descriptor.__get__" :=
 .of (owner:= "wrapper_descriptor") (n:= "__get__") (by rw[WG,Xs];kernel_rfl) (by decide +kernel) (by decide +kernel) (by decide +kernel)
  (by first | exact .inl (by decide +kernel) | exact .inr (by decide +kernel)) (by rw[Xo];kernel_rfl)
theorem vE:entryFor table "wrapper_descriptor.__get__" = some Builtin.«wrapper_descriptor.__get__»:=WO (by kernel_rfl)
theorem args_get(a b c:Value):argsOk "wrapper_descriptor.__get__" ⟨[a,b,c],[]⟩:=by skip;kernel_rfl
theorem vP:typeOf (.builtin "list_iterator.__next__")=pure (.type "wrapper_descriptor"):=by show builtinType _=_;refine builtinType_eq_fast▸?_;kernel_rfl
theorem DF:typeLookup (.type "wrapper_descriptor") "__set__" = pure none:=by rw[WG,Xs];kernel_rfl
theorem Dg:typeLookup (.type "wrapper_descriptor") "__delete__" = pure none:=by rw[WG,Xs];kernel_rfl
theorem sub_self:isSubtype (.type "list_iterator") (.type "list_iterator")=pure true:=by rw[Xo];kernel_rfl
theorem si{as:Args}:(Code.builtin "list_iterator.__next__" as).quiet=true:=Code.quiet_builtin _ (by decide +kernel)
end Nx
noncomputable def f9(a:Addr):Obj:={cls:=.type "method-wrapper",data:=.fields #[.builtin "list_iterator.__next__",.ref a]}
section
variable {prog:Program}{w:World}{A:Around}{E:Value->Shared->Prop}{s:Shared}
theorem vr(hl:s.heap.IsList l items)(h:Q (.ref s.heap.objs.size) {s with heap:=s.heap.push {cls:=.type "list_iterator",data:=.fields #[.ref l,.int 0 0]}}):wpAny (model prog w) A (call (.builtin "iter") [.ref l]) Q E s:=by
 refine Calls.call_function_entry (by decide +kernel) (by decide +kernel) Nx.tC (Nx.uQ _) ?_
 show wpAny _ _ (pyIter (.ref l)>>=_) _ _ _
 refine Z8 (wpAny_pyIter_list hl ?_)
 exact ZW ⟨_,rfl,h⟩
theorem Aq{P:Fin->Shared->Prop}(hT:s.TypeIs (.ref a) "list_iterator")(h:P (.done (.ret (.ref s.heap.objs.size))) {s with heap:=s.heap.push (f9 a)}) :
  wpAny (model prog w) A (Builtin.«wrapper_descriptor.__get__» ⟨[.builtin "list_iterator.__next__",.ref a,.type "list_iterator"],[]⟩) P E s:=by
 haveI f1:=Nx.sub_self
 refine Z8 (XQ (a:=(.builtin "list_iterator.__next__",some (.ref a),some _)) (by first | rfl | kernel_rfl) ?_)
 repeat (any_goals (first | assumption | wp_step))
 refine XQ f1 ?_
 refine ZW ?_
 exact Z8 (YI (ZW h))
theorem CT{tk:Tok}{P:Fin->Shared->Prop}{vs:Array Value}(hx:s.heap.get? a=some {cls:=.type "list_iterator",data:=.fields vs})(h:P (.done (.ret (.ref s.heap.objs.size))) {s with heap:=s.heap.push (f9 a)}) :
  wpAny (model prog w) A (Builtin.«object.__getattribute__» ⟨[.ref a,.str "__next__" tk],[]⟩) P E s:=by
 haveI hT:s.TypeIs (.ref a) "list_iterator":=⟨_,hx,rfl⟩
 haveI hT5:=Nx.vP
 haveI f4:=slot_listiter_next.lookup
 haveI f6:=Nx.slot_get.lookup
 haveI f7:=Nx.DF
 haveI f8:=Nx.Dg
 repeat (any_goals (first | assumption | wp_step))
 refine codeAny_call_builtin Nx.slot_get.plain Nx.vE (Nx.slot_get.check _ _ _ _ _ _ _ _ hT5 (Nx.args_get _ _ _) (Aq hT ?_))
 exact ZW h
theorem vz{expr:Bool}{vs:Array Value}(hx:s.heap.get? a=some {cls:=.type "list_iterator",data:=.fields vs})(h:Q (.ref s.heap.objs.size) {s with heap:=s.heap.push (f9 a),toks:=s.toks+1}):wpAny (model prog w) A (getAttr (.ref a) "__next__" expr) Q E s:=by
 haveI hT:({s with toks:=s.toks+1}:Shared).TypeIs (.ref a) "list_iterator":=⟨_,hx,rfl⟩
 haveI f2:=Nx.qe.lookup
 haveI f3:=Nx.qe.bind (.ref a)
 haveI hx0:(expr&&onTheHeap (Value.builtin "object.__getattribute__"))=false:=by cases expr<;>rfl
 skip
 refine Z8 (wpAny_mkText ?_)
 skip
 refine Zw ?_
 refine Z8 (wpAny_typeOf hT (Z8 (XQ f2 ?_)))
 skip
 refine Z8 (XQ rfl (Z8 (wpAny_attempt (Zw ?_))))
 unfold callGetattribute
 rw[hx0,if_neg (by decide)]
 skip
 dsimp only[f3]
 refine Xm Nx.qe hT Nx.w4 (CT hx ⟨_,rfl,?_⟩) (Nx.AB _ _)
 exact ZW h
theorem qr(hm:s.heap.get? m=some (f9 a))(h:wpAny (model prog w) A.in1 (Builtin.«list_iterator.__next__» ⟨[.ref a],[]⟩) (fun fin s'=>match fin with | .done (.ret v)=>Q v s' | _=>False) E s) :
  wpAny (model prog w) A (call (.ref m) []) Q E s:=by
 refine W7 (codeAny_of_tree ?_)
 show wpAny _ A.in1 (callAny (.ref m) ⟨[],[]⟩) _ _ s
 dsimp only[callAny]
 refine Z8 (XE hm ?_)
 dsimp only[f9,show(Value.type "method-wrapper" == Value.type "method" || Value.type "method-wrapper" == Value.type "builtin_function_or_method" || Value.type "method-wrapper" == Value.type "method-wrapper")=true by decide,if_true]
 refine Z8 (ZW (ZW ?_))
 refine⟨Nx.si,WH entry_listiter_next ?_⟩
 refine ZO h (fun fin s' z=>?_) fun zz zz z=>z
 rcases fin with(_ | _ | _ | _) | _<;>first | exact z | exact z.elim
theorem vB{it:Addr}{x:Value}(hm:s.heap.get? m=some (f9 it))(ho:s.heap.get? it=some {cls:=.type "list_iterator",data:=.fields #[.ref l,.int i 0]})(hl:s.heap.IsList l items)(hx:items[i]? = some x)(hQ:∀ h',h'.get? it=some {cls:=.type "list_iterator",data:=.fields #[.ref l,.int ((i+1:Nat):Int) 0]}->Heap.SameBut it s.heap h'->Q x {s with heap:=h'}):wpAny (model prog w) A (call (.ref m) []) Q E s:=by
 refine iu hl fun ol hol zz qz1=>?_;clear hl;obtain⟨nl,hdl⟩:=qz1
 refine qr hm ?_
 show wpAny _ _ (field (.ref it) 0>>=_) _ _ s
 refine Z8 (X9 ho rfl (x:=.ref l) rfl ?_)
 refine Z8 (X9 ho rfl (x:=.int i 0) rfl ?_)
 refine Z8 (WX hol hdl ?_)
 simp only[Int.toNat_natCast,hx]
 refine Z8 (Xp ho rfl (by simp) (ZW (hQ _ ?_ (YB ..))))
 exact(Yh _ ho rfl).trans rfl
theorem wH{it:Addr}(hh:A.handled=none)(hm:s.heap.get? m=some (f9 it))(hit:s.heap.IsListIter it l i)(hl:s.heap.IsList l items)(hx:items[i]? = none)(hE:∀ h₁ o' t ms,Heap.SameBut it s.heap h₁->h₁.get? it=some o'->E (.ref (h₁.push t).objs.size) {s with heap:=(h₁.push t).push {cls:=.type "StopIteration",data:=.fields (#[.ref h₁.objs.size,.none,.none,.none,.bool false,.none]++ms)}}):wpAny (model prog w) A (call (.ref m) []) Q E s:=by
 refine iu (id hit) fun o ho hc hd=>?_
 refine iu hl fun ol hol zz qz3=>?_;clear hl;obtain⟨nl,hdl⟩:=qz3
 refine qr hm ?_
 show wpAny _ _ (field (.ref it) 0>>=_) _ _ s
 refine Z8 (X9 ho hd (x:=.ref l) rfl ?_)
 refine Z8 (X9 ho hd (x:=.int i 0) rfl ?_)
 refine Z8 (WX hol hdl ?_)
 simp only[Int.toNat_natCast,hx]
 refine Z8 (wpAny_rule (Z8 (Xp ho hd (by simp) ?_)))
 refine Z8 ?_
 refine Z8 (m:=firstArgMember _ _) (XQ (a:=Value.none) (by first | rfl | (simp only[firstArgMember];rfl)) ?_)
 refine YI ?_ (by size_fits)
 dsimp only
 refine Z8 (wpAny_handled ?_)
 refine(hh)▸?_
 refine Z8 (ZW (W4 ?_))
 exact hE _ _ _ _ (YB ..) (Yh _ ho (Xu (W9 hd _)))
end
section
variable {D:Wd}{Y:Gm}{ρ:List Addr}{J:aq}{Z:List V}{s:Shared}
theorem W.yN{l:Nat}(hj:ρ[j]? = some a)(ho:J.t.get j=some (.iter l i)):W D Y ρ J Z (getAttr (.ref a) "__next__" true) (VR D) (M.kH (.p6 j) J Z):=by
 intro s S
 obtain⟨b,z,h1,h2,al,h3,rfl⟩:=S.obj j _ ho
 rw[hj] at h1;obtain rfl:=Z9 h1
 exact vz h2 (pA (o:=.p6 j) S ⟨a,get_append hj,rfl⟩ rfl _)
theorem qN:wI o=some j->o = .p6 j:=by
 cases o with
 |p6=>intro h;exact(Z9 h)▸rfl
 |_=>exact aQ
theorem rF{p:Nat×Nat}:we o=some p->o = .iter p.1 p.2:=by
 cases o with
 |iter=>intro h;exact(Z9 h)▸rfl
 |_=>exact aQ
theorem aw.Jn(B:aV D Y){xe:Expr}{p q:Pos}(hk:Y.env.kindOf ("iter" : Str)=some .globalImplicit)(hm:D.mg ("iter" : Str)=none)(hb:D.mb ("iter" : Str)=some (.builtin "iter"))(hat:attributeBase (.Call (.Name "iter" p) [xe] [] pos) "__next__" Y.env (eval (.Call (.Name "iter" p) [xe] [] pos) Y.env)=eval (.Call (.Name "iter" p) [xe] [] pos) Y.env)(hs:(backTo pos (starEach [xe] Y.env)).any (·.1)=false)(ha:aw D Y (spliced (backTo pos (starEach [xe] Y.env))) (bB D) (.bind x fun v=>.bind (.ret []) fun vs=>.ret (v::vs))) :
  aw D Y (eval (.Attribute (.Call (.Name "iter" p) [xe] [] pos) "__next__" q) Y.env) (VR D) (Bq x):=fun ρ J Z=>by
 haveI hcall:aw D Y (eval (.Call (.Name "iter" p) [xe] [] pos) Y.env) (fun ρ j y=>VR D ρ (.ref j) y) (.bind x iterM):=fun ρ J Z=>by
  refine W.builtin B hk hm hb ?_
  haveI e:M.bind x iterM=M.bind (M.bind x fun v=>M.bind (M.ret []) fun vs=>M.ret (v::vs)) fun vs=>one vs iterM:=by
   rw[M.bind_assoc]
  refine e▸?_
  refine W.nest (k:=fun vs=>call _ vs) (ha ρ J Z) (fun ρ2 vs J2 Z2 xs zz hv=>?_) fun s Q E S hq=>XX hs (fS hs hq)
  refine W.FC (t:=fun vs=>call _ vs) hv fun v y hv=>W.az fun k hk=>?_
  refine aF (hv.ref hk) fun a hka qz5=>?_;subst qz5
  refine W.obj fun o ho=>W.az fun ys hy s S=>?_
  obtain rfl:=bW hy
  obtain⟨items,n,l1,_⟩:=S.list ho hka
  exact vr l1.isList ⟨_,jZ S,S.new ⟨a,get_append hka,rfl⟩ rfl⟩
 haveI e:Bq x=M.bind _ nextM:=by rw[M.bind_assoc];rfl
 rw[e,arm_eval_Attribute,hat]
 refine(hcall ρ J Z).bind fun ρ1 j J1 Z1 xa hq ha=>W.bj ?_
 refine aF ha fun aj hj qz0=>?_;clear ha;subst qz0
 refine W.obj fun o ho=>W.az fun p hp=>?_
 obtain rfl:=rF hp
 have hg:W D Y (ρ++ρ1) J1 Z1 (PySem.holding [.ref aj] _) (VR D) _:=W.holding (W.yN hj ho)
 exact hg.by fun Q E s h=>Z8 (ZO h (fun r s' q=>Z8 (wpAny_letTemporaryGo (ZW q))) fun zz zz q=>q)
theorem St.iter{l:Nat}(S:St D Y ρ J Z s)(h:J.t.get j=some (.iter l i))(ha:ρ[j]? = some a):∃ al,ρ[l]? = some al/\s.heap.get? a=some {cls:=.type "list_iterator",data:=.fields #[.ref al,.int i 0]}:=by
 refine aF (S.dN h ha) fun z h2 qz2=>?_;obtain⟨al,h3,rfl⟩:=qz2
 exact aY al h3 h2
theorem W.F3(hh:Y.A.handled=none){k:Nat}(hk:ρ[k]? = some a)(ho:J.t.get k=some o):W D Y ρ J Z (call (.ref a) []) (VR D) (Av o J Z):=by
 refine W.az fun j hj=>W.obj fun q hq=>W.az fun p hp=>W.obj fun r hr=>W.az fun xs hx=>?_
 obtain rfl:=qN hj
 obtain rfl:=rF hp
 obtain rfl:=bW hx
 have nd:∀ es,J.t.get j≠some (.dict es):=fun es e=>by replace e:=(hq).symm.trans e;cases e
 refine bI (xs[p.2]?) (fun hx=>?_) fun v hx=>?_
 ·intro s S
  refine aF (S.dN ho hk) fun z h2 qz6=>?_;obtain⟨aj,h3,rfl⟩:=qz6
  refine aF (S.iter hq h3) fun al h4 k2=>?_
  obtain⟨items,n,l1,r1,_,z1⟩:=S.list hr h4
  refine wH hh h2 ⟨_,k2,rfl,rfl⟩ l1.isList (YF (by rw[z1];simpa using hx)) fun h₁ o' t ms g1 g2=>?_
  haveI S1:=S.upd h3 g1 g2 (o:=.dead) trivial (.inl nd)
  haveI S2:=(S1.tH t).tH {cls:=.type "StopIteration",data:=.fields (#[.ref h₁.objs.size,.none,.none,.none,.bool false,.none]++ms)}
  refine⟨[],?_,by rw[ZT];exact S2⟩
  rw[ZT]
  refine⟨_,none,rfl,_,_,Zu _ rfl,rfl,rfl,by simp,(S1.tH t).fresh,(S1.tH t).dM,.inl rfl,fun zz=>?_,?_⟩
  ·refine(Array.getElem?_append_left (by simp)).trans ?_;rfl
  ·show _=_
   refine(Array.getElem?_append_left (by simp)).trans ?_;rfl
 ·intro s S
  refine aF (S.dN ho hk) fun z h2 qz4=>?_;obtain⟨aj,h3,rfl⟩:=qz4
  refine aF (S.iter hq h3) fun al h4 k2=>?_
  obtain⟨items,n,l1,r1,_,z1⟩:=S.list hr h4
  refine aF (r1.get hx) fun y hy hv=>?_
  refine vB h2 k2 l1.isList ((YS)▸hy) fun h' h6 h7=>⟨[],by rw[ZT];exact hv,?_⟩
  rw[ZT]
  exact S.upd h3 h7 h6 ⟨al,h4,rfl⟩ (.inl nd)
theorem aw.app(hh:Y.A.handled=none){f:Expr}(hf:eval (.Call f [] [] pos) Y.env=(do callWith pos (<-eval f Y.env) [] [] []))(h:aw D Y (eval f Y.env) (VR D) x) :
  aw D Y (eval (.Call f [] [] pos) Y.env) (VR D) (C9 x):=fun ρ J Z=>by
 refine hf▸?_
 refine(h ρ J Z).bind fun ρ1 a J1 Z1 xa zz ha=>W.az fun k hk=>?_
 refine aF (ha.ref hk) fun ak hk qz1=>?_;subst qz1
 refine W.obj fun o ho=>?_
 haveI hc:=W.F3 (D:=D) (Z:=Z1) hh hk ho
 have hm:∀ {r},Av o J1 Z1=r->r≠.bad->∃ j,o = .p6 j:=fun {r} e hb=>by
  unfold Av at e
  refine bI (wI o) (fun q=>?_) fun j q=>?_
  ·replace e:=q▸e;exact absurd e.symm hb
  ·exact⟨j,qN q⟩
 refine W.of fun s S hb=>?_
 refine df (hm rfl hb) fun j qz3=>?_;subst qz3
 haveI hq:=hc.to S hb
 refine aF (S.dN ho hk) fun z h2 qz5=>?_;obtain⟨aj,h3,rfl⟩:=qz5
 dsimp only[callWith]
 refine Z8 (Zw ?_)
 haveI ea:wpAny (model D.prog D.w) Y.A (evalArgs (.ref ak) true [] []) (fun a s1=>a=⟨[],[]⟩/\s1=s) (fun zz zz=>False) s:=fS rfl (ZW ⟨rfl,rfl⟩)
 refine ZO ea (fun a s1 q=>?_) fun zz zz q=>q.elim
 refine bU q fun qz0 qz1=>?_;clear q;subst qz0;subst qz1
 refine Z8 (YR ?_)
 refine Z8 ?_
 skip
 refine Z8 (XE h2 ?_)
 dsimp only
 refine ZW ?_
 exact Z8 (ZO hq (fun r s₂ hr=>Z8 (Zw (WI (ZW hr)))) fun zz zz x=>x)
theorem aw.Ep(B:aV D Y){xe:Expr}{p q:Pos}(hk:Y.env.kindOf ("isinstance" : Str)=some .globalImplicit)(hm:D.mg ("isinstance" : Str)=none)(hb:D.mb ("isinstance" : Str)=some (.builtin "isinstance"))(hk2:Y.env.kindOf ("tuple" : Str)=some .globalImplicit)(hm2:D.mg ("tuple" : Str)=none)(hb2:D.mb ("tuple" : Str)=some (.type "tuple"))(hs:starEach [xe,.Name "tuple" q] Y.env=[(false,eval xe Y.env),(false,eval (.Name "tuple" q) Y.env)])(hx:aw D Y (eval xe Y.env) (VR D) x) :
  aw D Y (eval (.Call (.Name "isinstance" p) [xe,.Name "tuple" q] [] pos) Y.env) (VR D) (DC x):=fun ρ J Z=>by
 refine W.builtin B hk hm hb ?_
 haveI hst:(backTo pos (starEach _ Y.env)).any (·.1)=false:=by rw[hs];rfl
 haveI hsp:W D Y ρ J Z (spliced (backTo pos (starEach _ Y.env))) (fun ρ a xs=>∃ y,xs=[y,.type "tuple"]/\VR D ρ a y) (x J Z):=by
  rw[<-qZ x,hs]
  show W D Y ρ J Z (do
   let v <-eval xe Y.env
   let here <-_
   return here++(<-holding here (do
    let v <-eval _ Y.env
    let here <-(pure [v]:Sem (List Value))
    return here++(<-holding here (pure []:Sem (List Value)))))) _ _
  refine(hx ρ J Z).bind fun ρ1 v J1 Z1 a zz hv=>?_
  refine W.hold ?_
  rw[bind_assoc]
  refine W.builtin B hk2 hm2 hb2 ?_
  exact W.of fun s S hb=>Z8 (Z8 (ZW (Z8 (Zw (ZW (ZW (ZW (a7 S ⟨a,rfl,hv⟩))))))))
 refine W.nest (k:=fun xs=>call _ xs) hsp (fun ρ1 a J1 Z1 xs zz ha=>?_) fun s Q E S hq=>XX hst (fS hst hq)
 obtain⟨y,rfl,ha⟩:=ha
 refine W.az fun k hk=>?_
 refine aF (ha.ref hk) fun ak hk qz6=>?_;subst qz6
 refine W.obj fun o ho=>W.az fun ys hy s S=>?_
 obtain rfl:=fL hy
 obtain⟨items,c,l1,_⟩:=S.tup ho hk
 exact call_isinstance (uY ak) ⟨⟨_,l1,rfl⟩,a7 S rfl⟩
end
end
section
variable {y:M Fl}{i:Nat}
section
variable {D:Wd}{Y:Gm}{ρ:List Addr}{J:aq}{Z:List V}{s:Shared}
theorem yQ{o:O}{p:Nat×V}:excOf o=some p->o = .exc p.1 p.2:=by
 cases o with
 |exc=>intro h;exact(Z9 h)▸rfl
 |_=>exact aQ
theorem aw.args{v:Expr}{p:Pos}{m:M V}(hb:attributeBase v "args" Y.env (eval v Y.env)=eval v Y.env)(h:aw D Y (eval v Y.env) (VR D) m) :
  aw D Y (eval (.Attribute v "args" p) Y.env) (VR D) (vV m):=fun ρ J Z=>by
 rw[arm_eval_Attribute,hb]
 refine(h ρ J Z).bind fun ρ1 a J1 Z1 xa zz ha=>W.bj (W.az fun k hk=>?_)
 refine aF (ha.ref hk) fun ak hk qz1=>?_;clear ha;refine qz1▸?_
 refine W.obj fun o ho=>W.az fun q hq=>W.ite (fun hc=>W.az fun j hj=>?_) fun zz=>W.bad
 obtain rfl:=yQ hq
 haveI hc:=Zr hc
 haveI hn:aT q.1 = "ValueError":=by unfold aT;exact hc▸rfl
 haveI hg:W D Y (ρ++ρ1) J1 Z1 (holding [.ref ak] (getAttr (.ref ak) "args" true)) (VR D) (.ok (.ref j) J1 Z1):=W.holding fun s S=>by
  refine aF (S.dN ho hk) fun z h2 qz3=>?_;obtain⟨vs,h3,h4,h5⟩:=qz3
  rw[fO hj] at h5
  rcases h5 with h5 | ⟨y,h5,aj,hj,rfl⟩
  ·cases h5
  ·replace h3:=hn▸h3
   exact args_attr F.excAttr_ValueError h2 h3 h4 h5 (bp S _ (aY aj hj rfl))
 exact hg.by fun Q E s h=>Z8 (ZO h (fun r s' q=>Z8 (wpAny_letTemporaryGo (ZW q))) fun zz zz q=>q)
theorem W.H2(B:aV D Y){x:Str}{pos:Pos}(hx:Y.nm[i]? = some x):W D Y ρ J Z (do PySem.bindName Y.env x .none;unbindBehindTheSuite Y.env x pos) Un (uc i J Z):=by
 unfold uc
 refine bI (aE (V.at Z i)) (fun e=>?_) fun k e=>?_
 ·intro s S
  refine aF S.loc fun m hn hl=>?_
  have hs:=(hl.2 i x hx).loc e
  refine wpAny_nameGoes_keeps hs.1 hn (B.kind▸rfl) fun h' v hn' hsb=>⟨[],trivial,?_⟩
  rw[ZT]
  haveI hi:i<Z.length:=by rw[hl.1];exact(ZP.mp hx).1
  haveI hl':Sl D Y ρ (fun z=>if z=x then v else m z) (V.put Z i .ah):=by
   refine⟨by rw[fb];exact hl.1,fun j z hz=>?_⟩
   rw[pg]
   by_cases q:j=i
   ·clear e;subst q
    rw[hx] at hz;obtain rfl:=Z9 hz
    rw[if_pos ⟨rfl,hi⟩]
    exact iI.jQ rfl ⟨hs.1,.inl rfl⟩
   ·rw[if_neg (fun w=>q w.1)]
    haveI hne:z≠x:=fun w=>q (dF B.names hz (w▸hx))
    have:=hl.2 j z hz
    refine bI (aE (V.at Z j)) (fun q'=>?_) fun k q'=>?_
    ·exact iI.jQ q' ((if_neg hne)▸(this.loc q'))
    ·exact iI.oy q' (this.aI q')
  exact(S.locals hn' hsb hl').toks _
 ·exact W.bad
theorem n8{β:Type}{g:Fl->M β}{r:Rs β}(h:M.bind (calm y) g J Z=r)(hb:r≠.bad):∃ f J2 Z2,y J Z = .ok f J2 Z2/\g f J2 Z2=r:=by
 unfold M.bind calm at h
 refine pf (y J Z) (fun f J2 Z2 q=>?_) (fun zz zz zz zz q=>?_) fun q=>?_
 ·replace h:=q▸h;exact sx f J2 Z2 rfl h
 ·rw[q] at h;exact absurd h.symm hb
 ·rw[q] at h;exact absurd h.symm hb
theorem te{v:V}{c:Nat}{a:V}{J':aq}{Z':List V}(h:xV i y v J Z = .exc c a J' Z'):False:=by
 haveI h:M.bind (bt i v) _ J Z = .exc c a J' Z':=h
 dsimp only[M.bind] at h
 refine pf (bt i v J Z) (fun u J2 Z2 q=>?_) (fun zz zz zz zz q=>?_) fun q=>?_
 ·rw[q] at h
  refine g9 (n8 h nofun) fun f J3 Z3 zz h=>?_
  dsimp only[uc] at h
  refine bI (aE (V.at Z3 i)) (fun q2=>?_) fun k q2=>?_
  ·replace h:=q2▸h;contradiction
  ·rw[q2] at h;contradiction
 ·exact kK q
 ·rw[q] at h;contradiction
theorem Cu(B:aV D Y){suite:List Stmt}{b₀:Stmt}{t nme:Str}{tp hp:Pos}{n:Nat}(ht:t=Str.ofString (aT n))(hk:Y.env.kindOf t=some .globalImplicit)(hm:D.mg t=none)(hb:D.mb t=some (.type (aT n)))(hi:Y.nm[i]? = some nme)(hy:∀ e,aw D (Y.at (Y.A.mark (some (.ref e)))) (execs (b₀::suite) Y.env) (bX D) y){ρ1:List Addr}{J1:aq}{Z1:List V}{c:Nat}{a:V}{e:Value}{s3:Shared}{r:Rs Fl}(S3:St D Y (ρ++ρ1) J1 Z1 s3)(X3:XT D Y (ρ++ρ1) c a e s3)(hcn:c % 100=n)(hr2:M.bind (M.kH (.exc (c % 100) a)) (xV i y) J1 Z1=r)(hbad:r≠.bad) :
  wpAny (model D.prog D.w) Y.A (handleBy e Y.env [.ExceptHandler (some (.Name t tp)) (some nme) (b₀::suite) hp]) (QR D Y ρ (bX D) r) (ER D Y ρ r) s3:=by
 refine aF (X3.kind hcn) fun xa qz5 hX=>?_;subst qz5
 refine gm (rb n) fun f1 f2 f3=>?_
 refine wpAny_handleBy_builtin_as f1 f2 f3 ?_
 haveI g:=B.glob s3.heap S3.keep
 refine YT B.kind hk (Yp g.1 hm g.2 hb (c9 rfl hX ?_)) (by refine ht▸?_;unfold aT;split<;>decide +kernel)
 refine S3.fA X3 fun s4 S4 X5=>?_
 obtain⟨xb,T',e5,o5,vs5,x1,x2,x3,x4,x5,x6,x7,x8,x9⟩:=X5
 clear x9;obtain rfl:=XC e5
 haveI S5:=S4.take (o:=.exc (c % 100) a) x1 x5 x6 ⟨vs5,by rw[x2,kX],x3,x7.imp id fun⟨y,g1,g2⟩=>(aY y g1 g2.mono)⟩
 haveI hv:VR D (ρ++ρ1++[xa]) (.ref J1.n) (.ref xa):=jZ S4
 haveI hr3:=hr2
 have no:∀ {A:Around} {ρ':List Addr} (v:Value) (s':Shared),ER D (Y.at A) ρ' r v s'->False:=fun {A ρ'} v s' h=>by
  clear hbad;clear hr2;cases r with
  |ok _ _ _=>exact h
  |bad=>exact h
  |exc c' a' J' Z'=>exact te hr3
 refine(W.store (Y:=Y.at (Y.A.mark (some (.ref xa)))) {B with} hi hv).step S5.at hr3 hbad (fun ρ2 zz J2 Z2 zz s6 zz S6 hr4=>?_) fun v s' h=>(no v s' h).elim
 refine g9 (n8 hr4 hbad) fun f J3 Z3 q3 hr5=>?_
 haveI hz:=hy xa (ρ++ρ1++[xa]++ρ2) J2 Z2
 rw[q3] at hz
 refine ZO (hz s6 S6) (fun g s7 h=>?_) fun zz zz h=>h.elim
 obtain⟨ρ3,hg,S7⟩:=h
 refine(W.H2 B hi).step S7.un hr5 hbad (fun ρ4 zz J4 Z4 zz s9 zz S9 hr6=>?_) fun v s' h=>(no v s' h).elim
 refine hr6▸?_
 refine⟨ρ1++[xa]++ρ2++ρ3++ρ4,?_,by simp only[<-ZZ];exact S9⟩
 simp only[<-ZZ]
 exact bX.mono hg
end
end
end Mine
end
noncomputable section
set_option backward.match.sparseCases true
open PySem PySem.W PyProof.Rows
namespace Mine
section
variable {α:Type}{g:Bool}{body:List Stmt}{l:List Value}{pos:Pos}{prog:Program}{w:World}
noncomputable def av(M:Model)(A:Around)(Φ:End->Shared->Prop)(c:Code)(t:Sem Fin)(fs:List Frame)(s:Shared):Prop:=∀ Y p,Y.code=c->Y.Woken A->∃ e s',Runs M Y p t fs s e s'/\Φ e s'
section
variable {M:Model}{A:Around}{Φ:End->Shared->Prop}{c:Code}{fs:List Frame}{s:Shared}{env:Env}{K:Flow->Sem Fin}{H:Value->Sem Fin}{gd:Bool->Bool}{lv:List Value->List Value}
theorem av.wrap{m:Sem α}{K:α->Sem Fin}{H:Value->Sem Fin}{gd:Bool->Bool}{lv:List Value->List Value}(h:wpAny M (A.over c fs) m (fun a s'=>av M A Φ c (K a) fs s') (fun x s'=>av M A Φ c (H x) fs s') s):av M A Φ c (m.wrap K H gd lv) fs s:=by
 rintro Y p rfl hY
 exact runs_wrap_of_wp K H gd lv m (h (Y.over fs) p (hY.over fs)) (fun a p' s' h'=>h' Y p' rfl hY) fun x p' s' h'=>h' Y p' rfl hY
theorem av.bj{p':Pos}{k:Unit->Sem Fin}(h:av M A Φ c (k ()) fs s):av M A Φ c (.at p' k) fs s:=
 av.wrap (H:=.raise) (gd:=id) (lv:=id) (YR h)
theorem av.point{k:Unit->Sem Fin}(h:av M A Φ c (k ()) fs s):av M A Φ c (.point l k) fs s:=
 av.wrap (H:=.raise) (gd:=id) (lv:=fun zz=>l) (WI h)
theorem av.call{c':Code}{h:Option Value}{k:Result->Sem Fin}(hc:∀ p,av M A Φ c' (M.den c') (.ret k h g l c p []::fs) s):av M A Φ c (.call c' h g l k) fs s:=by
 rintro Y p rfl hY
 refine qf (hc p (Y.goto c') p rfl (hY.goto c')) fun e s' hr he=>?_
 exact nB e s' (runs_call_seg hr) he
theorem av.leaf{k:Result->Sem Fin}{h:Option Value}{c₁:Code}{p₁:Pos}{kp:List Value}(r:Result)(hk:av M A Φ c₁ (k r) fs s):av M A Φ c (leafOf r) (.ret k h g l c₁ p₁ kp::fs) s:=by
 rintro Y p rfl hY
 refine qf (hk (Y.goto c₁) p₁ rfl (hY.goto c₁)) fun e s' hr he=>?_
 exact nB e s' (Runs.pop r hr) he
theorem av.again{c':Code}(hq:c'.quiet=true)(hc:av M A Φ c' (M.den c') fs s):av M A Φ c (.pure (.again c')) fs s:=by
 rintro Y p rfl hY
 refine qf (hc (Y.goto c') p rfl (hY.goto c')) fun e s' hr he=>?_
 exact nB e s' (Runs.head (fun zz zz x=>.again hq x) hr) he
theorem av.fin(r:Result)(h:Φ (.ret r) s):av M A Φ c (leafOf r) [] s:=by
 rintro Y p rfl _
 exact nB (.ret r) s (Runs.leaf r) h
theorem av.yield{v:Value}{k:Resume->Sem Fin}(hfs:splitAtGen fs=none)(h:∀ p,Φ (.susp v g l k c p fs) s):av M A Φ c (.yield v g l k) fs s:=by
 rintro Y p rfl _
 exact nB _ s (Runs.yield' fs hfs) (h p)
theorem av.cons{st:Stmt}{rest:List Stmt}(h:av M A Φ c ((exec st env).wrap (fun f=>match f with | .next=>(execs rest env).wrap K H gd lv | f=>K f) H gd lv) fs s) :
  av M A Φ c ((execs (st::rest) env).wrap K H gd lv) fs s:=by rw[execs_cons_wrap];exact h
theorem av.ite{t:Expr}{b o:List Stmt}{p:Pos}(h:wpAny M (A.over c fs) (isTrue t env (eval t env)) (fun d s'=>if d=true then av M A Φ c ((execs b env).wrap K H gd lv) fs s' else av M A Φ c ((execs o env).wrap K H gd lv) fs s')
   (fun x s'=>av M A Φ c (H x) fs s') s):av M A Φ c ((exec (.If t b o p) env).wrap K H gd lv) fs s:=by
 show av M A Φ c (.at p fun zz=>(isTrue t env (eval t env)>>=fun d=>if d=true then execs b env else execs o env).wrap K H gd lv) fs s
 refine av.bj ?_
 rw[YY,YL]
 refine av.wrap (ZO h (fun d s' hd=>?_) fun zz zz x=>x)
 cases d with
 |true=>exact hd
 |false=>exact hd
theorem av.kE{e:Expr}{ypos:Pos}(hfs:splitAtGen fs=none)(h:wpAny M (A.over c fs) (eval e env) (fun v s'=>∀ (k:Resume->Sem Fin) l p,(∀ (Φ':End->Shared->Prop) s'',av M A Φ' c (K .next) fs s''->av M A Φ' c (k (.send .none)) fs s'')->Φ (.susp v (gd false) l k c p fs) s')
   (fun x s'=>av M A Φ c (H x) fs s') s)(hco:env.scope.isCoroutine=false)(hi:interactive env=false) :
  av M A Φ c ((exec (.Expr (.Yield (some e) ypos) pos) env).wrap K H gd lv) fs s:=by
 rw[exec_Expr env _ pos hi rfl]
 show av M A Φ c (.at pos fun zz=>((eval e env>>=fun v=>(standAt ypos>>=fun zz=>yieldOut env v))>>=fun x=>
  dropValue (.Yield (some e) ypos) pos x).wrap K H gd lv) fs s
 haveI hy:∀ v,yieldOut env v=yieldValue v:=fun v=>by simp only[yieldOut,hco,Bool.false_eq_true,if_false]
 simp only[hy]
 refine av.bj ?_
 rw[YY,YY,YL,YL]
 refine av.wrap (ZO h (fun v s' h'=>?_) fun zz zz x=>x)
 refine av.bj (av.yield hfs fun p=>?_)
 refine h' _ _ p fun Φ' s'' hx=>?_
 exact hx
@[reducible] noncomputable def nS(env:Env)(e:Value):Sem Fin:=(do noteFrame e env;theTreesLotGoes e:Sem Unit).wrap (fun zz=>.raise e) .raise id id
@[reducible] noncomputable def pF(env:Env)(K:Flow->Sem Fin)(H:Value->Sem Fin)(gd:Bool->Bool)(lv:List Value->List Value)(c:Code)(p:Pos):Frame:=.ret (fun r=>((match r with | .ok f=>(.pure f:Sem Flow) | .error e=>.raise e).onRaise fun(x:Value)=>do
    if(<-field x 1)==Value.none then unsupported "frame.own-activation:exception-without-traceback"
    setFlight x env.frame).wrap K H gd lv) none (gd false) (lv []) c p []
theorem av.DQ{test:Expr}{orelse:List Stmt}(h:∀ p,av M A Φ (.whileLoop test body orelse env) (M.den (.whileLoop test body orelse env)) (pF env K H gd lv c p::fs) s) :
  av M A Φ c ((exec (.While test body orelse pos) env).wrap K H gd lv) fs s:=
 av.bj (av.call h)
@[reducible] noncomputable def qM(c:Code):Flow->Sem Fin:=fun f=>match f with
 |.next | .cont=>.pure (.again c)
 |.brk=>.pure (.done .next)
 |.ret v=>.pure (.done (.ret v))
theorem av.HN{target iter:Expr}(hs:∀ v,foldedSetIterable iter env v=pure v)(h:wpAny M (A.over c fs) (eval iter env) (fun v s₁=>wpAny M (A.over c fs) (pyIter v) (fun it s₂=>∀ p,av M A Φ (.forLoop target it body [] env) (M.den (.forLoop target it body [] env)) (pF env K H gd lv c p::fs) s₂)
   (fun x s'=>av M A Φ c (H x) fs s') s₁) (fun x s'=>av M A Φ c (H x) fs s') s) :
  av M A Φ c ((exec (.For target iter body [] pos) env).wrap K H gd lv) fs s:=by
 show av M A Φ c (.at pos fun zz=>(eval iter env>>=fun v=>foldedSetIterable iter env v>>=fun v=>standAt iter.pos>>=fun zz=>holding [v] (pyIter v)>>=fun it=>runOwn (.forLoop target it body [] env) env).wrap K H gd lv) fs s
 refine av.bj ?_
 rw[YY,YL]
 refine av.wrap (ZO h (fun v s₁ h₁=>?_) fun zz zz x=>x)
 refine(hs v)▸?_
 show av M A Φ c ((standAt iter.pos>>=fun zz=>holding [v] (pyIter v)>>=fun it=>runOwn (.forLoop target it body [] env) env).wrap K H gd lv) fs s₁
 rw[YY,YL]
 refine av.wrap (YR ?_)
 rw[YY,YL]
 refine av.wrap (Zw (ZO h₁ (fun it s₂ h₂=>?_) fun zz zz x=>x))
 exact av.call h₂
theorem av.func(h:av (model prog w) A Φ (.func body env) ((execs body env).wrap (fun f=>.pure (.done (.ret (match f with | .ret v=>v | _=>.none)))) (fun e=>(leaving env e).wrap (fun zz=>.raise e) .raise id id) id id) fs s) :
  av (model prog w) A Φ (.func body env) ((model prog w).den (.func body env)) fs s:=by
 show av _ A Φ _ (.point [] fun zz=>((execs body env).onRaise (leaving env))>>=_) fs s
 refine av.point ?_
 rw[Sem.onRaise_eq_wrap,YY,YL]
 rw[Sem.wrap_congr (execs body env) _ _ (K':=fun f=>.pure (.done (.ret (match f with | .ret v=>v | _=>.none))))
  (H':=fun e=>(leaving env e).wrap (fun zz=>.raise e) .raise id id) (fun f=>by cases f<;>rfl)
  (fun e=>by rw[Xz,YL];rfl)]
 exact h
theorem av.whileLoop{test:Expr}(h:wpAny (model prog w) (A.over (.whileLoop test body [] env) fs) (isTrue test env (eval test env)) (fun b s'=>b=true/\
    av (model prog w) A Φ (.whileLoop test body [] env) ((execs body env).wrap (qM (.whileLoop test body [] env)) (nS env) id id) fs s')
   (fun zz zz=>False) s) :
  av (model prog w) A Φ (.whileLoop test body [] env) ((model prog w).den (.whileLoop test body [] env)) fs s:=by
 show av _ A Φ _ ((whileTurn test body [] env).onRaise (fun x=>do noteFrame x env;theTreesLotGoes x)) fs s
 unfold whileTurn
 rw[Sem.onRaise_eq_wrap,YY,YL]
 refine av.wrap (ZO h (fun b s' hb=>?_) fun x s' hx=>hx.elim)
 obtain⟨rfl,hb⟩:=hb
 rw[if_pos rfl,YY,YL]
 rw[Sem.wrap_congr (execs body env) _ _ (K':=qM (.whileLoop test body [] env)) (H':=nS env) (fun f=>by cases f<;>rfl)
  (fun e=>by first | exact Xz _ _ | (show(do noteFrame e env;theTreesLotGoes e:Sem Unit).bind (fun zz=>.raise e)=_;rw[Xz]))]
 exact hb
theorem av.forLoop{target:Expr}{it:Value}(h:wpAny (model prog w) (A.over (.forLoop target it body [] env) fs) (pyNext it) (fun r s₁=>match r with
    |none=>av (model prog w) A Φ (.block [] env) (.pure (.done .next)) fs s₁
    |some v=>wpAny (model prog w) (A.over (.forLoop target it body [] env) fs) (letOwnedTupleGo target it v) (fun zz s₁'=>wpAny (model prog w) (A.over (.forLoop target it body [] env) fs) (assign target env v) (fun zz s₂=>
      av (model prog w) A Φ (.forLoop target it body [] env) ((execs body env).wrap (qM (.forLoop target it body [] env)) (nS env) id id) fs s₂) (fun zz zz=>False) s₁') (fun zz zz=>False) s₁) (fun zz zz=>False) s) :
  av (model prog w) A Φ (.forLoop target it body [] env) ((model prog w).den (.forLoop target it body [] env)) fs s:=by
 show av _ A Φ _ ((forTurn target it body [] env).onRaise (fun x=>do noteFrame x env;theTreesLotGoes x)) fs s
 unfold forTurn
 rw[Sem.onRaise_eq_wrap]
 rw[YY,YL]
 refine av.wrap (YR ?_)
 rw[YY,YL]
 refine av.wrap (wpAny_onRaise (ZO h (fun r s₁ h₁=>?_) fun x s' hx=>hx.elim))
 cases r with
 |none=>
  refine av.again rfl ?_
  exact h₁
 |some v=>
  dsimp only at h₁ ⊢
  rw[YY,YL]
  refine av.wrap (ZO h₁ (fun zz s₁' h₁'=>?_) fun x s' hx=>hx.elim)
  rw[YY,YL]
  refine av.wrap (ZO h₁' (fun zz s₂ h₂=>?_) fun x s' hx=>hx.elim)
  rw[YY,YL]
  rw[Sem.wrap_congr (execs body env) _ _ (K':=qM (.forLoop target it body [] env)) (H':=nS env) (fun f=>by cases f<;>rfl)
   (fun e=>by first | exact Xz _ _ | (show(do noteFrame e env;theTreesLotGoes e:Sem Unit).bind (fun zz=>.raise e)=_;rw[Xz]))]
  exact h₂
end
end
section
variable {D:Wd}{Y:Gm}{ρ:List Addr}{J:aq}{Z:List V}{s:Shared}
theorem aw.eo(B:aV D Y)(hh:Y.A.handled=none){e₀:Expr}{np cpos pos:Pos}{x:M V}(hk:Y.env.kindOf ("ValueError" : Str)=some .globalImplicit)(hm:D.mg ("ValueError" : Str)=none)(hb:D.mb ("ValueError" : Str)=some (.type "ValueError"))(he:starEach [e₀] Y.env=[(false,eval e₀ Y.env)])(hx:aw D Y (eval e₀ Y.env) (VR D) x) :
  aw D Y (exec (.Raise (some (.Call (.Name "ValueError" np) [e₀] [] cpos)) none pos) Y.env) (bX D) (.bind x fun v=>.bind (.gQ [v]) fun t s e=>.exc 1 t s e):=fun ρ J Z=>W.of fun s S hbad=>by
 haveI g:=B.glob s.heap S.keep
 haveI hsp:W D Y ρ J Z (spliced (backTo cpos (starEach [e₀] Y.env))) (bB D) (M.bind x (fun v=>M.bind (M.ret []) fun vs=>M.ret (v::vs)) J Z):=aw.cons hx aw.nil he ρ J Z
 refine Raise_madeB F.excCall_ValueError F.excRaise_ValueError hh (YT B.kind hk (Yp g.1 hm g.2 hb ⟨rfl,?_⟩) (by decide)) he rfl
 refine pf (x J Z) (fun v J1 Z1 q=>?_) (fun c a J1 Z1 q=>?_) fun q=>?_
 ·rw[ag q] at hsp hbad ⊢
  haveI e1:M.gQ [v] J1 Z1 = .ok (.ref J1.n) ⟨J1.n+1,J1.t.ins J1.n (.tup [v]),J1.fz⟩ Z1:=rfl
  refine ZO (hsp.to S (by intro h;contradiction)) (fun xs s1 h=>?_) fun zz zz h=>h.elim
  obtain⟨ρ1,hv,S1⟩:=h
  match xs,hv with
  |[y],hv=>
   refine⟨by rw[XS];simp,fun h' e hx=>?_⟩
   refine iu hx.there fun t g1 g2 g3=>?_
   haveI S2:St D Y (ρ++ρ1) J1 Z1 {s1 with heap:=h'}:=S1.ext hx.keeps
   have fr:∀ b,s1.heap.get? b=none->b∉Y.own (ρ++ρ1)/\Y.kp b=none:=fun b hb=>by
    refine⟨fun hm=>?_,?_⟩
    ·refine df (S1.live hm) fun z hz=>?_
     rw[hb] at hz;contradiction
    ·refine bI (Y.kp b) (fun q=>?_) fun o q=>?_
     ·rfl
     ·haveI:=S1.keep b o q;replace this:=(hb).symm.trans this;contradiction
   haveI S3:=S2.take (o:=.tup [v]) g3 (fr t g2).1 (fr t g2).2 ⟨_,_,rfl,⟨hv.1.mono,trivial⟩,by simp⟩
   have het:e≠t:=by
    rintro rfl
    rw[g1] at g3
    injection g3 with g3
    injection g3 with g3
    revert g3;decide
   refine⟨ρ1++[t],⟨e,none,rfl,_,_,g1,rfl,rfl,by simp,?_,(fr e hx.new).2,.inr ⟨.ref t,rfl,t,?_,rfl⟩,fun zz=>rfl,rfl⟩,by rw[<-ZZ];exact S3⟩
   ·rw[<-ZZ]
    intro hm
    haveI e':Y.own (ρ++ρ1++[t])=Y.own (ρ++ρ1)++[t]:=by simp[Gm.own]
    rw[e'] at hm
    rcases Zy.mp hm with hm | hm
    ·exact(fr e hx.new).1 hm
    ·exact het (Zn.mp hm)
   ·rw[<-ZZ,S1.num];simp
 ·rw[cj q] at hsp ⊢
  exact ZO (hsp.to S (by intro h;contradiction)) (fun zz zz h=>h.elim) fun zz zz h=>h
 ·rw[ed q] at hbad;exact absurd rfl hbad
noncomputable def ui(M:Model)(A:Around)(Φ:End->Shared->Prop)(gs:GenState)(s:Shared):Prop:=match gs with
 |.fresh c=>av M A Φ c (M.den c) [] s
 |.suspended k₀ _ c₀ _ fs₀ _=>av M A Φ c₀ (k₀ (.send .none)) fs₀ s
 |_=>False
theorem tj{M:Model}{A:Around}{Φ:End->Shared->Prop}{gs:GenState}{g:Nat}{l:List Value}{α:Type}{k:GenResult->Sem α}{Q:α->Shared->Prop}{E:Value->Shared->Prop}(hg:s.gens[g]? = some gs)(hgo:ui M A Φ gs (s.setGen g .running))(h:∀ e s',Φ e s'->e.quiet=true/\wpAny M A (k e.result) Q E (s'.setGen g e.genState)):wpAny M A (.resume g (.send .none) l k) Q E s:=by
 intro Y p hY
 cases gs with
 |fresh c=>
  refine qf (hgo (Y.wake c p) p rfl (hY.wake c p)) fun e₁ s₁ hr he=>?_
  refine bU (h e₁ s₁ he) fun h1 h2=>?_
  exact nB _ _ (by dsimp only[Wakes];exact hg▸((vq e₁ s₁ hr h1 rfl rfl))) (h2 Y p hY)
 |suspended k₀ l₀ c₀ p₀ fs₀ cl=>
  refine qf (hgo (Y.wake c₀ p) p₀ rfl (hY.wake c₀ p)) fun e₁ s₁ hr he=>?_
  obtain⟨h1,h2⟩:=h e₁ s₁ he
  exact nB _ _ (by dsimp only[Wakes];exact hg▸((vq e₁ s₁ hr h1 rfl rfl))) (h2 Y p hY)
 |running=>exact hgo.elim
 |finished=>exact hgo.elim
noncomputable def ug(g:Nat)(Q:Option Value->Shared->Prop)(E:Value->Shared->Prop)(e:End)(s':Shared):Prop:=match e with
 |.ret (.ok (.ret .none))=>∀ h',(∀ b o,s'.heap.get? b=some o->h'.get? b=some o)->Q none {s'.setGen g .finished with heap:=h'}
 |.ret (.error x)=>∃ a,x = .ref a/\s'.TypeIs (.ref a) "ValueError"/\E x (s'.setGen g .finished)
 |.susp v _ _ _ _ _ _=>Q (some v) (s'.setGen g e.genState)
 |_=>False
theorem l9{prog:Program}{w:World}{A:Around}{a:Addr}{g:Nat}{gs:GenState}{Φ:End->Shared->Prop}{Q:Option Value->Shared->Prop}{E:Value->Shared->Prop}(hh:A.handled=none)(hl:s.heap.NoLimit)(hroom:A.depth<recursionLimit)(hg:s.heap.IsGen a g)(hgs:s.gens[g]? = some gs)(hgo:ui (model prog w) A.in1 Φ gs (s.setGen g .running))(h:∀ e s',Φ e s'->e.quiet=true/\s'.heap.IsGen a g/\ug g Q E e s'):wpAny (model prog w) A (pyNext (.ref a)) Q E s:=by
 haveI nss:isSubtype (.type "ValueError") (.type "StopIteration")=pure false:=by rw[Xo];kernel_rfl
 skip
 refine Z8 (wpAny_attempt (W3 hg.typeIs slot_gen_next
  (Xm slot_gen_next hg.typeIs entry_gen_next ?_ (args_gen_next _))))
 show wpAny _ _ (Builtin.Generator.genWake (.ref a) (.send .none)) _ _ s
 dsimp only[Builtin.Generator.genWake]
 refine Z8 (Zw (wpAny_genNumber hg (Z8 (wpAny_genState hgs ?_))))
 cases gs with
 |running=>exact hgo.elim
 |finished=>exact hgo.elim
 |_=>
  refine Z8 (wpAny_roomToWake hl hroom ?_)
  refine tj hgs hgo fun e s₁ he=>?_
  refine gm (h e s₁ he) fun h1 h2 h3=>?_
  refine⟨h1,?_⟩
  match e,h3 with
  |.ret (.ok (.ret .none)),h3=>
   show wpAny _ _ (newExc (.type "StopIteration") []>>=_) _ _ _
   refine Z8 ?_
   refine Z8 (m:=firstArgMember _ _) (XQ (a:=Value.none) (by first | rfl | (simp only[firstArgMember];rfl)) ?_)
   refine YI ?_ (by size_fits)
   dsimp only
   refine Z8 (Z8 (wpAny_handled ?_))
   rw[show A.in1.handled=none from hh]
   refine W4 ?_
   refine Z8 (WN (aY _ (Zu _ rfl) rfl) isSubtype_stop ?_)
   exact ZW (h3 _ fun b o hb=>Zq _ (Zq _ hb))
  |.ret (.error x),h3=>
   refine iu h3 fun xa qz1 hT hE=>?_;clear h3;clear h1;clear he;subst qz1
   show wpAny _ _ (Builtin.Generator.genLeft (.ref a) (.ref xa)) _ _ _
   skip
   refine u9 h2 fun o nm qn ho hc hd hsl=>?_;clear h2
   refine Z8 (Z8 (XE ho (ZW ?_)))
   haveI hT':=hT
   refine Z8 (WN hT' nss ?_)
   rw[Bool.and_false,if_neg (by decide)]
   skip
   refine Z8 (WN hT' nss ?_)
   refine Z8 (W4 ?_)
   refine Z8 (WN hT' nss ?_)
   exact W4 hE
  |.susp v g' l k c p fs,h3=>exact ZW (aY v rfl (ZW h3))
end
section
variable {α β:Type}{I:Addr}{Z':List V}{m:Str->Option Value}
noncomputable def xw(P:Nat->Pos):List Stmt:=[.Expr (.Yield (some (.Name "last_interval" (P 23))) (P 24)) (P 25)]
noncomputable def Fo(P:Nat->Pos):List Stmt:=[
 .If (.Compare (.Name "last_interval" (P 14)) [.Is] [.Constant .none 0 (P 15)] (P 16)) [.Raise (some (.Call (.Name "ValueError" (P 17)) [.Constant (.str "invalid grouping") 0 (P 18)] [] (P 19))) none (P 20)] [] (P 21),
 .While (.Constant (.bool true) 0 (P 22)) (xw P) [] (P 26)]
noncomputable def BQ(P:Nat->Pos):List Stmt:=[.Assign [.Name "last_interval" (P 31)] (.Name "interval" (P 32)) (P 33)]
noncomputable def Fp(P:Nat->Pos):List Stmt:=.If (.Compare (.Name "interval" (P 6)) [.Eq] [.Name "CHAR_MAX" (P 7)] (P 8)) [.Return none (P 9)] [] (P 10) ::
 .If (.Compare (.Name "interval" (P 11)) [.Eq] [.Constant (.int 0) 0 (P 12)] (P 13)) (Fo P) [] (P 27) ::
 .Expr (.Yield (some (.Name "interval" (P 28))) (P 29)) (P 30)::BQ P
noncomputable def iE(P:Nat->Pos):List Stmt:=[.Assign [.Name "last_interval" (P 0)] (.Constant .none 0 (P 1)) (P 2),.For (.Name "interval" (P 3)) (.Name "grouping" (P 4)) (Fp P) [] (P 5)]
noncomputable def fc:Scope:={kind:=.function,names:=[("grouping",.local),("last_interval",.local),("interval",.local),("CHAR_MAX",.globalImplicit),("ValueError",.globalImplicit)],isGenerator:=true,isCoroutine:=false}
noncomputable def De:List Str:=["grouping", "last_interval", "interval"]
section
variable {D:Wd}{Y:Gm}{ρ:List Addr}{J:aq}{Z:List V}{s:Shared}
theorem Out.same{P:List Addr->β->α->Prop}{b:β}{a:α}{s':Shared}(hn:J.n=ρ.length)(h:Out D Y ρ P b J Z' a s'):P ρ b a/\St D Y ρ J Z' s':=by
 obtain⟨ρ',h1,h2⟩:=h
 haveI:ρ'=[]:=by
  haveI:=h2.num
  rw[hn,ZI] at this
  exact List.eq_nil_of_length_eq_zero (YW (om [_,_] [(.a (.v 0) (.v 1),.v 0)] (.v 1,.n 0) rfl (lC this)) (om [_] [] (.n 0,.v 0) rfl))
 subst this
 rw[ZT] at h1 h2
 exact⟨h1,h2⟩
theorem W.run{P:List Addr->β->α->Prop}{t:Sem α}{b:β}{Q:α->Shared->Prop}{E:Value->Shared->Prop}(h:W D Y ρ J Z t P (.ok b J Z'))(S:St D Y ρ J Z s)(hQ:∀ a s',P ρ b a->St D Y ρ J Z' s'->Q a s') :
  wpAny (model D.prog D.w) Y.A t Q E s:=
 ZO (h.to S (by intro h;contradiction)) (fun a s' q=>let ⟨h1,h2⟩:=Out.same S.num q;hQ a s' h1 h2) fun zz zz q=>q.elim
theorem St.yp{L:Addr}{oL:Obj}{A:Around}{env:Env}{mg:Str->Option Value}{nm:List Str}(S:St D (Y.cT (cZ Y.kp L oL) Y.fz) ρ J Z s)(hk:Y.kp L=none)(hN:∀ h:Heap,h.get? L=some oL->h.Ns L mg)(he:env.locals=L)(hm:s.heap.Ns Y.env.locals m)(hs:Sl D (Y.inner A env m nm) ρ mg Z'):St D (Y.inner A env m nm) ρ J Z' s where
 keep:=fun b o e=>S.keep b o (a8 hk b o e)
 dU:=fun p hp=>by
  rcases ZS.mp hp with rfl | hp
  ·exact hm
  ·exact S.dU p hp
 loc:=(aY mg (by
  rw[he]
  exact hN _ (S.keep L oL aP)) hs)
 obj:=S.obj
 num:=S.num
 full:=S.full
 nd:=by
  haveI hL:=fun hm=>by
   haveI:=S.ap L hm
   rw[show(Y.cT (cZ Y.kp L oL) Y.fz).kp L=some oL from aP] at this;exact Zx _ this
  show(env.locals::((Y.env.locals::Y.fr.map (·.1))++ρ)).Nodup
  exact he▸(ZN.mpr ⟨hL,S.nd⟩)
 ap:=fun b hb=>by
  rcases ZS.mp hb with rfl | hb
  ·show Y.kp env.locals=none
   exact he▸hk
  ·haveI:=S.ap b hb
   refine bI (Y.kp b) (fun q=>?_) fun o q=>?_
   ·rfl
   ·rw[show(Y.cT (cZ Y.kp L oL) Y.fz).kp b=some o from a8 hk b o q] at this;contradiction
 os:=S.os
 gen:=S.gen
 d4:=S.d4
theorem St.ua{A:Around}{env:Env}{nm:List Str}(S:St D (Y.inner A env m nm) ρ J Z' s)(hs:Sl D Y ρ m Z) :
  ∃ oL mg,(∀ h:Heap,h.get? env.locals=some oL->h.Ns env.locals mg)/\Sl D (Y.inner A env m nm) ρ mg Z'/\Y.kp env.locals=none/\St D (Y.cT (cZ Y.kp env.locals oL) Y.fz) ρ J Z s:=by
 refine aF S.loc fun mg qz1 hl=>?_;obtain⟨o,es,ep,ho,hd,r⟩:=qz1
 haveI hk:=S.ap _ ZX
 haveI hL:=(ZN.mp S.nd).1
 exact vq o mg (fun h e=>(zd o es ep e hd r)) hl hk ((S.leave hs).gu hL ho)
structure GP where
 Y:Gm
 a:Addr
 oa:Obj
 env:Env
 k:Nat
 P:Nat->Pos
@[reducible] noncomputable def GP.base(X:GP):Gm:=X.Y.cT (cZ X.Y.kp X.a X.oa) X.Y.fz
@[reducible] noncomputable def GP.run(X:GP)(m:Str->Option Value):Gm:=X.base.inner (X.Y.A.in1.deeper X.env) X.env m De
structure GP.Ok(D:Wd)(X:GP):Prop where
 blok:aV D X.Y
 dU:tn X.Y
 handled:X.Y.A.handled=none
 units:X.Y.A.units+10<=8000
 depth:X.Y.A.depth+10<=800
 ka:X.Y.kp X.a=none
 scope:X.env.scope=fc
 glob:X.env.globals=mainGlobals
 bi:X.env.builtins=builtinsNs
 frame:X.env.frame=some X.env.locals
 xF:∃ t,D.mg ("CHAR_MAX" : Str)=some (.int 127 t)
 u7:D.mg ("ValueError" : Str)=none/\D.mb ("ValueError" : Str)=some (.type "ValueError")
noncomputable def gy(D:Wd)(X:GP)(I:Addr)(gs:GS)(ρ:List Addr)(J:aq)(Z:List V)(s:Shared):Prop:=
 ∃ oL oI mg fz lv iv,(∀ b x,X.Y.fz b=some x->fz b=some x)/\X.base.kp I=none/\cZ X.base.kp I oI X.env.locals=none/\Eh D fz ρ I (.lst X.k) gs.i oI/\(∀ h:Heap,h.get? X.env.locals=some oL->h.Ns X.env.locals mg)/\
  Sl D {X.Y with env:=X.env,nm:=De} ρ mg [.ref X.k,lv,iv]/\St D (X.base.cT (cZ (cZ X.base.kp I oI) X.env.locals oL) fz) ρ J Z s/\(match gs.inf with | true=>lv=gs.last | false=>iv=gs.last)
noncomputable def ze(J:aq)(Z:List V):Rs Fl:=M.bind (M.gQ [.str (Str.ofString "invalid grouping")]) (fun t s e=>.exc 1 t s e) J Z
noncomputable def sf(D:Wd)(X:GP)(T:GS->(Resume->Sem Fin)->Code->List Frame->Prop)(I:Addr)(gs:GS)(ρ:List Addr)(J:aq)(Z:List V)(e:End)(s':Shared):Prop:=match e with
 |.ret r=>(da J X.k gs = .done/\r = .ok (.ret .none)/\St D X.base ρ J Z s')∨(da J X.k gs = .err/\∃ x,r = .error x/\ER D X.base ρ (ze J Z) x s')
 |.susp v gd _ k' c' _ fs'=>gd=false/\fs'.any Frame.guarded=false/\∃ v' gs',da J X.k gs = .item v' gs'/\VR D ρ v' v/\gy D X I gs' ρ J Z s'/\T gs' k' c' fs'
noncomputable def jN(D:Wd)(X:GP)(I:Addr):Nat->GS->(Resume->Sem Fin)->Code->List Frame->Prop
 |0=>fun zz zz zz zz=>True
 |n+1=>fun gs kk c fs=>∀ ρ J Z s,gy D X I gs ρ J Z s->da J X.k gs≠.bad->av (model D.prog D.w) X.Y.A.in1 (sf D X (jN D X I n) I gs ρ J Z) c (kk (.send .none)) fs s
variable {X:GP}
theorem GP.Ok.oB(K:X.Ok D)(m:Str->Option Value):aV D (X.run m):=by
 haveI hu:=K.units
 haveI hd:=K.depth
 refine(K.blok.le (.of (a8 K.ka))).inner (by show X.Y.A.units+1+3<=8000;exact om [_] [(.a (.v 0) (.n 10),.n 8000)] (.a (.s (.v 0)) (.n 3),.n 8000) rfl hu) (by show X.Y.A.depth+1<=800;exact om [_] [(.a (.v 0) (.n 10),.n 800)] (.s (.v 0),.n 800) rfl hd) K.glob K.bi (by refine K.scope▸?_;rfl) (by decide) (by decide)
theorem GP.Ok.HU(K:X.Ok D)(m:Str->Option Value):jY (X.run m):=by
 refine aF K.dU.fs fun fs h1 h2=>?_
 refine⟨(aY fs ?_ (fun e he=>?_)),K.frame⟩
 ·show X.Y.A.frames.map (X.env::·)=_
  exact h1▸rfl
 ·refine bU (h2 e he) fun g1 qz3=>?_;obtain⟨p,g2,g3⟩:=qz3
  refine⟨g1,?_⟩
  rcases g3 with rfl | g3
  ·exact aY (X.Y.env.locals,m) ZX g2
  ·refine aF (Za.mp g3) fun pp hp qz5=>?_;clear g3;subst qz5
   exact aY pp (ZY _ hp) g2
theorem GP.Ok.kind(K:X.Ok D){x:Str}{k:NameKind}(h:fc.names.lookup x=some k):X.env.kindOf x=some k:=by unfold Env.kindOf;exact K.scope▸h
theorem gy.go{gs:GS}(h:gy D X I gs ρ J Z s):∃ m fz lv iv,Sl D X.Y ρ m Z/\ny D (X.run m) ρ J [.ref X.k,lv,iv] s (.lst X.k) gs.i I fz/\(match gs.inf with | true=>lv=gs.last | false=>iv=gs.last):=by
 refine GC h fun oL oI mg fz lv iv h1 h2 h3 h4 h5 h6 h7 h8=>?_;clear h
 refine aF h7.loc fun m hm hl=>?_
 refine HW m fz lv iv hl ⟨oI,h2,h1,?_,h4⟩ h8
 exact St.yp (Y:=X.base.cT (cZ X.base.kp I oI) fz) h7 h3 h5 rfl hm h6
theorem gy.of{gs:GS}{fz:Addr->Option Obj}{lv iv:V}(hl:Sl D X.Y ρ m Z)(h:ny D (X.run m) ρ J [.ref X.k,lv,iv] s (.lst X.k) gs.i I fz)(hv:match gs.inf with | true=>lv=gs.last | false=>iv=gs.last) :
  gy D X I gs ρ J Z s:=by
 obtain⟨oI,h1,h2,h3,h4⟩:=h
 refine xT (St.ua (Y:=X.base.cT (cZ X.base.kp I oI) fz) h3 hl) fun oL mg g1 g2 g3 g4=>?_
 exact Ik oL oI mg fz lv iv h2 h1 g3 h4 g1 g2 g4 hv
@[reducible] noncomputable def gW(X:GP):Code:=.whileLoop (.Constant (.bool true) 0 (X.P 22)) (xw X.P) [] X.env
theorem GP.Ok.inter(K:X.Ok D):interactive X.env=false:=by dsimp only[interactive];exact K.scope▸rfl
theorem GP.Ok.co(K:X.Ok D):X.env.scope.isCoroutine=false:=by exact K.scope▸rfl
theorem He(K:X.Ok D):∀ (n:Nat) {gs:GS} {ρ:List Addr} {J:aq} {Z:List V} {s:Shared} {m:Str->Option Value} {fz:Addr->Option Obj} {iv:V} {fs:List Frame},gs.inf=true->(∃ x,gs.last = .int x)->
  X.Y.A.in1.over (gW X) fs=X.Y.A.in1.deeper X.env->splitAtGen fs=none->fs.any Frame.guarded=false->Sl D X.Y ρ m Z->ny D (X.run m) ρ J [.ref X.k,gs.last,iv] s (.lst X.k) gs.i I fz->
  av (model D.prog D.w) X.Y.A.in1 (sf D X (jN D X I n) I gs ρ J Z) (gW X) ((model D.prog D.w).den (gW X)) fs s:=by
 intro n
 induction n with
 |zero=>
  intro gs ρ J Z s m fz iv fs hinf hx hov hsp hg hl L
  obtain⟨x,hx⟩:=hx
  obtain⟨oI,h1,h2,S,h4⟩:=L
  have hle:(X.run m).Le ((X.run m).cT (cZ (X.run m).kp I oI) fz):=.of (a8 h1)
  have B:=(K.oB m).le hle
  refine av.whileLoop ?_
  refine hov▸?_
  haveI hT:W D ((X.run m).cT (cZ (X.run m).kp I oI) fz) ρ J [.ref X.k,gs.last,iv] (isTrue (.Constant (.bool true) 0 (X.P 22)) X.env (eval (.Constant (.bool true) 0 (X.P 22)) X.env)) jX (.ok true J [.ref X.k,gs.last,iv]):=
   aw.HY B (x:=M.ret (.bool true)) (fun ρ J Z=>W.const) rfl ρ J _
  refine hT.run S fun b s' hb S'=>⟨hb,?_⟩
  refine av.cons (av.kE hsp ?_ K.co K.inter)
  refine hov▸?_
  haveI hN:W D ((X.run m).cT (cZ (X.run m).kp I oI) fz) ρ J [.ref X.k,gs.last,iv] (eval (.Name "last_interval" (X.P 23)) X.env) (VR D) (af 1 J [.ref X.k,gs.last,iv]):=W.name B rfl
  haveI e:af 1 J [.ref X.k,gs.last,iv] = .ok gs.last J [.ref X.k,gs.last,iv]:=by rw[hx];rfl
  replace hN:=e▸hN
  refine hN.run S' fun v s'' hv S'' kk l p hkk=>?_
  exact c9 rfl hg (vq gs.last gs (by unfold da;rw[hinf]) hv (gy.of hl ⟨oI,h1,h2,S'',h4⟩ (hinf▸rfl)) trivial)
 |succ n ih=>
  intro gs ρ J Z s m fz iv fs hinf hx hov hsp hg hl L
  haveI hx':=hx
  refine df hx fun x hx=>?_
  obtain⟨oI,h1,h2,S,h4⟩:=L
  haveI hle:(X.run m).Le ((X.run m).cT (cZ (X.run m).kp I oI) fz):=.of (a8 h1)
  haveI B:=(K.oB m).le hle
  refine av.whileLoop ?_
  refine hov▸?_
  haveI hT:W D ((X.run m).cT (cZ (X.run m).kp I oI) fz) ρ J [.ref X.k,gs.last,iv] (isTrue (.Constant (.bool true) 0 (X.P 22)) X.env (eval (.Constant (.bool true) 0 (X.P 22)) X.env)) jX (.ok true J [.ref X.k,gs.last,iv]):=
   aw.HY B (x:=M.ret (.bool true)) (fun ρ J Z=>W.const) rfl ρ J _
  refine hT.run S fun b s' hb S'=>⟨hb,?_⟩
  refine av.cons (av.kE hsp ?_ K.co K.inter)
  refine hov▸?_
  have hN:W D ((X.run m).cT (cZ (X.run m).kp I oI) fz) ρ J [.ref X.k,gs.last,iv] (eval (.Name "last_interval" (X.P 23)) X.env) (VR D) (af 1 J [.ref X.k,gs.last,iv]):=W.name B rfl
  have e:af 1 J [.ref X.k,gs.last,iv] = .ok gs.last J [.ref X.k,gs.last,iv]:=by rw[hx];rfl
  rw[e] at hN
  refine hN.run S' fun v s'' hv S'' kk l p hkk=>?_
  refine c9 rfl hg (vq gs.last gs (by unfold da;rw[hinf]) hv (gy.of hl ⟨oI,h1,h2,S'',h4⟩ (by rw[hinf])) ?_)
  intro ρ' J' Z' s3 hold hnb
  refine hkk _ _ (av.again rfl ?_)
  refine zY hold.go fun m' fz' lv' iv' hl' L' hv'=>?_
  rw[hinf] at hv'
  dsimp only at hv'
  replace L':=hv'▸L'
  exact ih hinf hx' hov hsp hg hl' L'
end
end
section
variable {I:Addr}{fz:Addr->Option Obj}{p:Pos}{m:Str->Option Value}
theorem av.mono{M:Model}{A:Around}{Φ Φ':End->Shared->Prop}{c:Code}{t:Sem Fin}{fs:List Frame}{s:Shared}(h:av M A Φ c t fs s)(hi:∀ e s',Φ e s'->Φ' e s'):av M A Φ' c t fs s:=fun Y p hc hY=>
 let ⟨e,s',h1,h2⟩:=h Y p hc hY
 (nB e s' h1 (hi e s' h2))
section
variable {D:Wd}{X:GP}{ρ:List Addr}{J:aq}{Z:List V}{s:Shared}
@[reducible] noncomputable def Ic:Flow->Sem Fin:=fun f=>.pure (.done (.ret (match f with | .ret v=>v | _=>.none)))
@[reducible] noncomputable def HV(X:GP):Value->Sem Fin:=fun e=>(leaving X.env e).wrap (fun zz=>.raise e) .raise id id
@[reducible] noncomputable def Ig(X:GP):Flow->Sem Fin:=fun f=>match f with | .next=>(execs [] X.env).wrap Ic (HV X) id id | f=>Ic f
@[reducible] noncomputable def Ao(X:GP)(p:Pos):List Frame:=[pF X.env (Ig X) (HV X) id id (.func (iE X.P) X.env) p]
@[reducible] noncomputable def gF(X:GP)(I:Addr):Code:=.forLoop (.Name "interval" (X.P 3)) (.ref I) (Fp X.P) [] X.env
theorem xE:X.Y.A.in1.over (gF X I) (Ao X p)=X.Y.A.in1.deeper X.env:=rfl
theorem rW{p':Pos}{K:Flow->Sem Fin}{H:Value->Sem Fin}:X.Y.A.in1.over (gW X) (pF X.env K H id id (gF X I) p'::Ao X p)=X.Y.A.in1.deeper X.env:=rfl
theorem yS{Φ:End->Shared->Prop}{c:Code}{f:Flow}(hf:f = .next∨f = .ret .none)(h:Φ (.ret (.ok (.ret .none))) s):av (model D.prog D.w) X.Y.A.in1 Φ c (.pure (.done f)) (Ao X p) s:=by
 refine av.leaf (.ok f) ?_
 rcases hf with rfl | rfl
 ·exact av.fin _ h
 ·exact av.fin _ h
theorem Dp(K:X.Ok D){oI:Obj}{T:GS->(Resume->Sem Fin)->Code->List Frame->Prop}{gs:GS}{Zg:List V}{x:Value}(h1:(X.run m).kp I=none)(h2:∀ b y,X.Y.fz b=some y->fz b=some y)(hl:Sl D X.Y ρ m Z)(hg:da J X.k gs = .err)(h:ER D ((X.run m).cT (cZ (X.run m).kp I oI) fz) ρ (ze J Zg) x s):av (model D.prog D.w) X.Y.A.in1 (sf D X T I gs ρ J Z) (gF X I) (nS X.env x) (Ao X p) s:=by
 haveI hle:(X.run m).Le ((X.run m).cT (cZ (X.run m).kp I oI) fz):=.of (a8 h1)
 haveI B:=(K.oB m).le hle
 haveI R:=(K.HU m).le hle
 haveI e:ze J Zg = .exc 1 (.ref J.n) ⟨J.n+1,J.t.ins J.n _,J.fz⟩ Zg:=rfl
 obtain⟨ρ1,X1,S1⟩:=h
 refine av.wrap ?_
 refine Z8 (S1.note B R rfl X1 fun s2 S2 X2=>wpAny_theTreesLotGoes ?_)
 refine av.leaf (.error x) ?_
 show av _ _ _ _ (Sem.wrap (Ig X) (HV X) id id (Sem.bind _ fun zz=>.raise x)) [] s2
 rw[Xz,YL]
 refine av.wrap ?_
 obtain⟨xa,T1,rfl,o,vs,x1,x2,x3,x4,x5,x6,x7,x8,y1,y'⟩:=id X2
 refine Z8 (X9 x1 x3 y1 ?_)
 refine S2.fA X2 fun s3 S3 X3=>?_
 refine av.wrap ?_
 refine W4 ?_
 refine av.wrap ?_
 refine Z8 (S3.note B R rfl X3.xr fun s4 S4 X4=>S4.fA X4 fun s5 S5 X5=>?_)
 refine av.fin (.error (.ref xa)) (.inr ⟨hg,_,rfl,?_⟩)
 obtain⟨xb,T2,e2,X6⟩:=X5
 obtain rfl:=XC e2
 haveI low:∀ b o,X.base.kp b=some o->cZ X.base.kp I oI b=some o:=a8 h1
 refine⟨ρ1,⟨xa,some T2,rfl,?_⟩,?_⟩
 ·exact m6.drop (m6.leave (Y:=X.base.cT (cZ X.base.kp I oI) fz) X6) low
 ·exact St.drop (kp:=X.base.kp) (St.leave (Y:=X.base.cT (cZ X.base.kp I oI) fz) S5 hl.mono) low h2
theorem Sl.ud(K:X.Ok D){mg:Str->Option Value}{kp:Addr->Option Obj}{a b c:V}(h:Sl D ((X.run m).cT kp fz) ρ mg [a,b,c]):aE b=none/\aE c=none:=by
 haveI key:∀ (i:Nat) (x:Str) (v:V),De[i]? = some x->X.env.kindOf x=some .local->V.at [a,b,c] i=v->aE v=none:=fun i x v hx hl hv=>by
  refine bI (aE v) (fun q=>?_) fun j q=>?_
  ·rfl
  ·haveI:=(h.2 i x hx).aI (hv▸q)
   rcases this.1 with g | g<;>(rw[show((X.run m).cT kp fz).env.kindOf x=X.env.kindOf x from rfl,hl] at g;have h__:=Z9 g;cases h__)
 exact⟨key 1 _ _ rfl (K.kind rfl) rfl,key 2 _ _ rfl (K.kind rfl) rfl⟩
theorem BP(K:X.Ok D){n:Nat}{gs:GS}{iv:V}(hinf:gs.inf=false)(hx:gs.last = .none∨∃ x,gs.last = .int x)(hl:Sl D X.Y ρ m Z)(hnb:da J X.k gs≠.bad)(L:ny D (X.run m) ρ J [.ref X.k,gs.last,iv] s (.lst X.k) gs.i I fz)(hnext:∀ gs' kk,gs'.inf=false->(∃ x,gs'.last = .int x)->(∀ (Φ':End->Shared->Prop) s'',av (model D.prog D.w) X.Y.A.in1 Φ' (gF X I) ((execs (BQ X.P) X.env).wrap (qM (gF X I)) (nS X.env) id id) (Ao X p) s''->
   av (model D.prog D.w) X.Y.A.in1 Φ' (gF X I) (kk (.send .none)) (Ao X p) s'')->jN D X I n gs' kk (gF X I) (Ao X p)) :
  av (model D.prog D.w) X.Y.A.in1 (sf D X (jN D X I n) I gs ρ J Z) (gF X I) ((model D.prog D.w).den (gF X I)) (Ao X p) s:=by
 haveI hA:=K.handled
 refine av.forLoop ?_
 refine xE▸?_
 obtain⟨xs,hxs⟩:∃ xs,(J.t.get X.k).bind dp=some xs:=by
  unfold da at hnb
  rw[hinf] at hnb
  refine bI ((J.t.get X.k).bind dp) (fun q=>?_) fun xs q=>?_
  ·rw[q] at hnb;exact absurd rfl hnb
  ·exact⟨xs,rfl⟩
 haveI hnt:eH J (.lst X.k) gs.i=some xs[gs.i]?:=ZV (Option.map _) hxs
 have hg:da J X.k gs=yr xs gs:=by
  unfold da
  exact hinf▸hxs▸rfl
 unfold yr at hg
 refine bI (xs[gs.i]?) (fun hv=>?_) fun v hv=>?_
 ·rw[hv] at hg
  refine nw (A:=(X.run m).A) hA L (hnt.trans (ZV some hv)) fun s1 S1=>?_
  refine yS (.inl rfl) (.inl (c9 hg rfl ?_))
  obtain⟨_,_,hfz,_⟩:=L
  exact St.drop (kp:=X.base.kp) (St.leave (Y:=X.base.cT X.base.kp fz) S1 hl) (fun zz zz h=>h) hfz
 ·replace hg:=hv▸hg
  dsimp only at hg
  refine bI (intOf v) (fun hi=>?_) fun x hi=>?_
  ·rw[hi] at hg;exact absurd hg hnb
  ·replace hg:=hi▸hg
   obtain rfl:=eR hi
   dsimp only at hg
   refine kF L (hnt.trans (ZV some hv)) fun s1 y hy L1=>?_
   refine L1.letGo ?_
   obtain⟨oI,h1,h2,S1,h4⟩:=L1
   haveI hle:(X.run m).Le ((X.run m).cT (cZ (X.run m).kp I oI) fz):=.of (a8 h1)
   have B:=(K.oB m).le hle
   haveI hst:bt 2 (.int x) J [.ref X.k,gs.last,iv] = .ok () J _:=by
    refine aF S1.loc fun mg zz hS=>?_
    exact j8 (Sl.ud K hS).2
   haveI hW:=W.lK (J:=J) (Z:=[.ref X.k,gs.last,iv]) (p:=X.P 3) B (i:=2) rfl hy
   rw[hst] at hW
   refine hW.run S1 fun zz s2 zz S2=>?_
   haveI k3:((X.run m).cT _ fz).env.kindOf "CHAR_MAX" = some .globalImplicit:=K.kind rfl
   haveI k4:((X.run m).cT (cZ (X.run m).kp I oI) fz).env.kindOf "ValueError" = some .globalImplicit:=K.kind rfl
   refine df K.xF fun ct hct=>?_
   have nm2:∀ pp,aw D _ (eval (.Name "interval" pp) X.env) (VR D) (af 2):=fun pp ρ J Z=>W.name B rfl
   haveI nm1:∀ pp,aw D _ (eval (.Name "last_interval" pp) X.env) (VR D) (af 1):=fun pp ρ J Z=>W.name B rfl
   haveI t1:W D _ ρ J [.ref X.k,gs.last,.int x] (isTrue (.Compare (.Name "interval" (X.P 6)) [.Eq] [.Name "CHAR_MAX" (X.P 7)] (X.P 8)) X.env (eval (.Compare (.Name "interval" (X.P 6)) [.Eq] [.Name "CHAR_MAX" (X.P 7)] (X.P 8)) X.env)) jX (.ok (x==127) J _):=
    aw.Bs B (nm2 _) (aw.glob B k3 hct (by decide)) rfl ρ J _
   refine av.cons (av.ite ?_)
   refine t1.run S2 fun b s3 hb S3=>?_
   obtain rfl:=hb
   by_cases q1:(x==127)=true
   ·rw[if_pos q1]
    rw[if_pos q1] at hg
    refine av.cons ?_
    dsimp only[exec_Return_none]
    refine av.bj ?_
    refine yS (.inr rfl) (.inl (c9 hg rfl ?_))
    exact St.drop (kp:=X.base.kp) (St.leave (Y:=X.base.cT (cZ X.base.kp I oI) fz) S3 hl) (a8 h1) h2
   ·rw[if_neg q1]
    replace hg:=(if_neg q1)▸hg
    haveI t2:W D _ ρ J [.ref X.k,gs.last,.int x] (isTrue (.Compare (.Name "interval" (X.P 11)) [.Eq] [.Constant (.int 0) 0 (X.P 12)] (X.P 13)) X.env (eval (.Compare (.Name "interval" (X.P 11)) [.Eq] [.Constant (.int 0) 0 (X.P 12)] (X.P 13)) X.env)) jX (.ok (x==0) J _):=
     aw.Bs B (nm2 _) (fun ρ J Z=>W.const) rfl ρ J _
    refine av.cons (av.ite ?_)
    refine t2.run S3 fun b s4 hb S4=>?_
    obtain rfl:=hb
    by_cases q2:(x==0)=true
    ·rw[if_pos q2]
     replace hg:=(if_pos q2)▸hg
     haveI t3:W D _ ρ J _ (isTrue (.Compare (.Name "last_interval" (X.P 14)) [.Is] [.Constant .none 0 (X.P 15)] (X.P 16)) X.env (eval (.Compare (.Name "last_interval" (X.P 14)) [.Is] [.Constant .none 0 (X.P 15)] (X.P 16)) X.env)) jX (aG (M.bind (af 1) fun a=>M.bind _ fun b=>mO .Is a b) J [.ref X.k,gs.last,.int x]):=
      aw.Bs B (nm1 _) (y:=M.ret .none) (fun ρ J Z=>W.const) rfl ρ J _
     refine av.cons (av.ite ?_)
     rcases hx with hx | ⟨lx,hx⟩
     ·
      have e3:aG (M.bind (af 1) fun a=>M.bind (M.ret .none) fun b=>mO .Is a b) J [.ref X.k,gs.last,.int x] = .ok true J [.ref X.k,gs.last,.int x]:=by rw[hx];rfl
      rw[e3] at t3
      rw[hx] at hg
      refine t3.run S4 fun b s5 hb S5=>?_
      cases(show b=true from hb)
      refine av.cons ?_
      haveI t4:=aw.eo (e₀:=.Constant (.str "invalid grouping") 0 (X.P 18)) (np:=X.P 17) (cpos:=X.P 19) (pos:=X.P 20) (x:=M.ret _) B K.handled k4 K.u7.1 K.u7.2 rfl
       (fun ρ J Z=>W.const) ρ J [.ref X.k,gs.last,.int x]
      refine av.wrap ?_
      refine ZO (t4.to S5 (by intro h;cases h)) (fun zz zz h=>h.elim) fun xx s6 h=>?_
      exact Dp K h1 h2 hl hg h
     ·have e3:aG (M.bind (af 1) fun a=>M.bind (M.ret .none) fun b=>mO .Is a b) J [.ref X.k,gs.last,.int x] = .ok false J [.ref X.k,gs.last,.int x]:=by refine hx▸?_;rfl
      rw[e3] at t3
      have hg2:da J X.k gs = .item gs.last ⟨gs.i+1,gs.last,true⟩:=hg▸hx▸rfl
      refine t3.run S4 fun b s5 hb S5=>?_
      cases hb
      refine av.cons (av.DQ fun p'=>?_)
      refine av.mono (He K n (gs:=⟨gs.i+1,gs.last,true⟩) rfl ⟨lx,hx⟩ rW rfl rfl hl ⟨oI,h1,h2,S5,h4⟩) fun e s' he=>?_
      haveI hgi:da J X.k ⟨gs.i+1,gs.last,true⟩ = .item gs.last ⟨gs.i+1,gs.last,true⟩:=rfl
      cases e with
      |ret r=>
       rcases he with⟨h,_⟩ | ⟨h,_⟩<;>(replace h:=(hgi).symm.trans h;cases h)
      |susp v gd l kk c pp fs=>
       refine gm he fun a1 a2 qz1=>?_;clear he;obtain⟨v',gs',a3,a4,a5,a6⟩:=qz1
       replace a3:=(hgi).symm.trans a3
       cases a3
       exact c9 a1 a2 (vq _ _ hg2 a4 a5 a6)
    ·rw[if_neg q2]
     replace hg:=(if_neg q2)▸hg
     refine av.cons (av.kE rfl ?_ K.co K.inter)
     have t5:W D _ ρ J [.ref X.k,gs.last,.int x] (eval (.Name "interval" (X.P 28)) X.env) (VR D) _:=nm2 _ ρ J _
     refine t5.run S4 fun v s5 hv5 S5 kk l pp hkk=>?_
     exact c9 rfl rfl (vq (.int x) ⟨gs.i+1,.int x,false⟩ hg hv5 (gy.of hl ⟨oI,h1,h2,S5,h4⟩ rfl) (hnext _ kk rfl ⟨x,rfl⟩ hkk))
theorem Gg(K:X.Ok D):∀ (n:Nat) {gs:GS} {ρ:List Addr} {J:aq} {Z:List V} {s:Shared} {m:Str->Option Value} {fz:Addr->Option Obj} {iv:V} {p:Pos},gs.inf=false->(gs.last = .none∨∃ x,gs.last = .int x)->Sl D X.Y ρ m Z->da J X.k gs≠.bad->
  ny D (X.run m) ρ J [.ref X.k,gs.last,iv] s (.lst X.k) gs.i I fz->av (model D.prog D.w) X.Y.A.in1 (sf D X (jN D X I n) I gs ρ J Z) (gF X I) ((model D.prog D.w).den (gF X I)) (Ao X p) s:=by
 intro n
 induction n with
 |zero=>exact fun hinf hx hl hnb L=>BP K hinf hx hl hnb L fun zz zz zz zz zz=>trivial
 |succ n ih=>
  intro gs ρ J Z s m fz iv p hinf hx hl hnb L
  refine BP K hinf hx hl hnb L fun gs' kk hi' hx' hkk=>?_
  intro ρ' J' Z' s3 hold hnb'
  refine hkk _ _ ?_
  refine zY hold.go fun m' fz' lv' iv' hl' L' hv'=>?_
  rw[hi'] at hv'
  dsimp only at hv'
  obtain⟨oI,h1,h2,S1,h4⟩:=L'
  haveI hle:(X.run m').Le ((X.run m').cT (cZ (X.run m').kp I oI) fz'):=.of (a8 h1)
  haveI B:=(K.oB m').le hle
  refine df hx' fun xx hxx=>?_;clear hx'
  refine av.cons (av.wrap ?_)
  haveI ha:=
   bS.cons (bS.tg B (hd:=0) K.handled (t:=.one 1) (e:=.Name "last_interval" (X.P 31)) (.one rfl)) bS.nil
  haveI hW:=aw.lV (targets:=[.Name "last_interval" (X.P 31)]) (value:=.Name "interval" (X.P 32)) (p:=X.P 33) (fun ρ J Z=>W.name B (i:=2) rfl) ha rfl rfl ρ' J' [.ref X.k,lv',iv']
  haveI e:(M.bind (af 2) (fun a=>M.bind (M.bind (aA 0 (.one 1) a) fun zz=>M.ret ()) fun zz=>M.ret Fl.next) J' [.ref X.k,lv',iv']) = .ok .next J' [.ref X.k,gs'.last,iv']:=by
   rw[hv',hxx]
   show M.bind (M.bind (bt 1 (.int xx)) fun zz=>M.ret ()) (fun zz=>M.ret Fl.next) J' _=_
   haveI:bt 1 (.int xx) J' [.ref X.k,lv',.int xx] = .ok () J' [.ref X.k,.int xx,.int xx]:=by
    refine aF S1.loc fun mg zz hS=>?_
    exact j8 (Sl.ud K hS).1
   rw[M.bind_assoc];exact(ag this)
  rw[e] at hW
  refine hW.run S1 fun f s4 hf S4=>?_
  obtain rfl:=(hf)
  refine av.again rfl ?_
  exact ih hi' (.inr ⟨xx,hxx⟩) hl' hnb' ⟨oI,h1,h2,S4,h4⟩
theorem Dd(K:X.Ok D){n:Nat}{lv iv:V}(hl:Sl D X.Y ρ m Z)(hnb:da J X.k ⟨0,.none,false⟩≠.bad)(S:St D (X.run m) ρ J [.ref X.k,lv,iv] s)(hlv:aE lv=none) :
  av (model D.prog D.w) X.Y.A.in1 (fun e s'=>∃ I,sf D X (jN D X I n) I ⟨0,.none,false⟩ ρ J Z e s') (.func (iE X.P) X.env) ((model D.prog D.w).den (.func (iE X.P) X.env)) [] s:=by
 haveI B:=K.oB m
 refine av.func (av.cons (av.wrap ?_))
 haveI ha:=
  bS.cons (bS.tg B (hd:=0) K.handled (t:=.one 1) (e:=.Name "last_interval" (X.P 0)) (.one rfl)) bS.nil
 haveI hW:=aw.lV (targets:=[.Name "last_interval" (X.P 0)]) (value:=.Constant .none 0 (X.P 1)) (p:=X.P 2) (x:=M.ret .none) (fun ρ J Z=>W.const) ha rfl rfl ρ J [.ref X.k,lv,iv]
 haveI e:(M.bind (M.ret V.none) (fun a=>M.bind (M.bind (aA 0 (.one 1) a) fun zz=>M.ret ()) fun zz=>M.ret Fl.next) J _) = .ok .next J _:=by
  haveI:bt 1 .none J [.ref X.k,lv,iv] = .ok () J [.ref X.k,.none,iv]:=j8 hlv
  rw[M.bind_assoc];exact(ag this)
 rw[e] at hW
 refine hW.run S fun f s1 hf S1=>?_
 obtain rfl:=(hf)
 refine av.cons (av.HN (fun zz=>rfl) ?_)
 haveI t1:W D (X.run m) ρ J [.ref X.k,.none,iv] (eval (.Name "grouping" (X.P 4)) X.env) (VR D) _:=W.name B (i:=0) rfl
 refine t1.run S1 fun v s2 hv S2=>?_
 haveI hit:nK J (.ref X.k)=some (.lst X.k):=by
  unfold da at hnb
  dsimp only at hnb
  refine bI ((J.t.get X.k).bind dp) (fun q=>?_) fun xs q=>?_
  ·replace hnb:=q▸hnb;exact absurd rfl hnb
  ·refine aF (bind_some q) fun o ho hx=>?_
   obtain rfl:=bW hx
   show(J.t.get X.k).bind (HM J X.k)=_
   rw[ho];rfl
 refine fQ B S2 hv hit fun s3 I fz L p=>?_
 refine(Gg K n rfl (.inl rfl) hl hnb L).mono fun e s' he=>⟨I,he⟩
end
end
section
variable {β:Type}{kp fz:Addr->Option Obj}{x:GenState}{g:Nat}{f kg:Nat->Option GenState}
noncomputable def qj(f:Nat->Option GenState)(g:Nat)(x:GenState):Nat->Option GenState:=fun b=>if b=g then some x else f b
theorem gK:qj f g x g=some x:=by simp[qj]
theorem pw{b:Nat}(h:b≠g):qj f g x b=f b:=by simp[qj,h]
theorem y9(h:f g=none):∀ b y,f b=some y->qj f g x b=some y:=fun b y e=>by
 by_cases q:b=g
 ·subst q;rw[h] at e;contradiction
 ·refine(pw q).trans ?_;exact e
section
variable {D:Wd}{Y:Gm}{ρ:List Addr}{J:aq}{Z:List V}{s:Shared}
theorem St.gens{gs:Array GenState}(S:St D Y ρ J Z s)(h:Hg Y.kg gs):St D Y ρ J Z {s with gens:=gs}:=S.heap (fun zz zz zz e=>e) (fun zz zz zz h=>h) rfl h
theorem St.setG(S:St D Y ρ J Z s)(hk:Y.kg g=none)(hb:x.bare=true):St D Y ρ J Z (s.setGen g x):=S.gens ⟨fun y hy=>by
  rcases Array.mem_or_eq_of_mem_setIfInBounds hy with h | h
  ·exact S.gen.bare y h
  ·rw[h];exact hb,fun g' y e=>by
  haveI hne:g'≠g:=by rintro rfl;rw[hk] at e;contradiction
  refine(Zv (Ne.symm hne)).trans ?_
  exact S.gen.kept g' y e⟩
theorem St.Ex(S:St D Y ρ J Z s)(hb:x.bare=true):St D Y ρ J Z {s with gens:=s.gens.push x}:=S.gens ⟨S.gen.bare.push hb,fun g' y e=>by
  have:=S.gen.kept g' y e
  haveI hlt:=(Xn.mp this).1
  refine(Array.getElem?_push_lt hlt).trans ?_
  exact(Yi hlt)▸this⟩
theorem St.Fu(S:St D Y ρ J Z s)(h:s.gens[g]? = some x):St D (Y.rT Y.kp Y.fz (qj Y.kg g x)) ρ J Z s:=
 ⟨S.keep,S.dU,S.loc,S.obj,S.num,S.full,S.nd,S.ap,S.os,⟨S.gen.bare,fun g' y e=>by
  by_cases q:g'=g
  ·subst q
   rw[show(Y.rT Y.kp Y.fz (qj Y.kg g' x)).kg g'=some x from gK] at e;obtain rfl:=Z9 e;exact h
  ·rw[show(Y.rT Y.kp Y.fz (qj Y.kg g x)).kg g'=Y.kg g' from pw q] at e;exact S.gen.kept g' y e⟩,S.d4⟩
theorem St.jW{kp' fz':Addr->Option Obj}{kg':Nat->Option GenState}(S:St D (Y.rT kp' fz' kg') ρ J Z s)(h1:∀ b o,kp b=some o->kp' b=some o)(h2:∀ b o,fz b=some o->fz' b=some o)(h3:∀ b o,kg b=some o->kg' b=some o):St D (Y.rT kp fz kg) ρ J Z s where
 keep:=fun b x e=>S.keep b x (h1 b x e)
 dU:=S.dU
 loc:=S.loc
 obj:=S.obj
 num:=S.num
 full:=S.full
 nd:=S.nd
 ap:=fun b hb=>by
  haveI:=S.ap b hb
  refine bI (kp b) (fun q=>?_) fun o q=>?_
  ·exact q
  ·replace this:=(h1 b o q).symm.trans this;exact absurd this (Zx _)
 os:=S.os
 gen:=⟨S.gen.bare,fun g x e=>S.gen.kept g x (h3 g x e)⟩
 d4:=fun a o e=>S.d4 a o (h2 a o e)
theorem m6.jW{c:Nat}{a:V}{x:Addr}{T:Option Addr}(X:m6 D (Y.rT kp fz kg) ρ c a x T s)(h1:∀ b o,Y.kp b=some o->kp b=some o):m6 D Y ρ c a x T s:=by
 have nn:∀ b,kp b=none->Y.kp b=none:=fun b h=>by
  refine bI (Y.kp b) (fun q=>?_) fun o q=>?_
  ·rfl
  ·replace h:=(h1 b o q).symm.trans h;exact absurd h (Zx _)
 obtain⟨o,vs,x1,x2,x3,x4,x5,x6,x7,x8,x9⟩:=X
 refine⟨o,vs,x1,x2,x3,x4,x5,nn x x6,x7,x8,?_⟩
 cases T with
 |none=>exact x9
 |some T=>obtain⟨y1,y2,y3,y4,oT,ts,y5,y6,y7⟩:=x9;exact⟨y1,y2,y3,nn T y4,oT,ts,y5,y6,y7⟩
theorem ER.jW{r:Rs β}{e:Value}(h:ER D (Y.rT kp fz kg) ρ r e s)(h1:∀ b o,Y.kp b=some o->kp b=some o)(h2:∀ b o,Y.fz b=some o->fz b=some o)(h3:∀ b o,Y.kg b=some o->kg b=some o):ER D Y ρ r e s:=by
 cases r with
 |ok _ _ _=>exact h.elim
 |bad=>exact h.elim
 |exc c a J' Z'=>
  obtain⟨ρ',⟨x,T,rfl,X⟩,S⟩:=h
  exact⟨ρ',⟨x,T,rfl,X.jW h1⟩,St.jW S h1 h2 h3⟩
structure ue(D:Wd)(ga:Addr)(P:Nat->Pos):Prop where
 obj:∃ o fd,D.K.lookup ga=some o/\o.data = .func fd/\codeIn D.K fd.code fd.qualname=true/\fd.scope=fc/\fd.body = .stmts (iE P)/\fd.globals=mainGlobals/\fd.builtins=builtinsNs/\fd.closure=[]/\
  fd.params.posonlyargs=[]/\fd.params.kwonlyargs=[]/\fd.params.kwarg=none/\fd.params.vararg=none/\fd.defaults = .none/\fd.params.args.map (·.arg)=[Str.ofString "grouping"]
 xF:∃ t,D.mg ("CHAR_MAX" : Str)=some (.int 127 t)
 u7:D.mg ("ValueError" : Str)=none/\D.mb ("ValueError" : Str)=some (.type "ValueError")
noncomputable def tr(D:Wd)(X:GP)(g:Nat)(ρ:List Addr)(J:aq)(Z:List V)(s:Shared):Prop:=
 ∃ oL mg,(∀ h:Heap,h.get? X.env.locals=some oL->h.Ns X.env.locals mg)/\Sl D {X.Y with env:=X.env,nm:=De} ρ mg [.ref X.k,.ah,.ah]/\X.base.kp X.env.locals=none/\St D (X.base.cT (cZ X.base.kp X.env.locals oL) X.Y.fz) ρ J Z s/\
  s.gens[g]? = some (.fresh (.func (iE X.P) X.env))
noncomputable def HD:dG:=[("grouping",.loc),("last_interval",.loc),("interval",.loc)]
theorem yy(B:aV D Y)(R:tn Y){n:Nat}(L:Lv Y n){ga:Addr}{P:Nat->Pos}(G:ue D ga P){k:Nat}{y:Value}{Q:Value->Shared->Prop}{E:Value->Shared->Prop}(S:St D Y ρ J Z s)(hy:VR D ρ (.ref k) y)(h:∀ a oa env g s',GP.Ok D ⟨Y,a,oa,env,k,P⟩->(∀ h:Heap,h.get? a=some oa->h.IsGen a g)->Y.kg g=none->tr D ⟨Y,a,oa,env,k,P⟩ g ρ J Z s'->Q (.ref a) s') :
  wpAny (model D.prog D.w) Y.A (call (.ref ga) [y]) Q E s:=by
 refine Gl G.obj fun o fd ho hd hcd hsc hbd hgl hbi hclo hp1 hp2 hp3 hp4 hp5 hpa=>?_
 haveI X:=B.eQ s.heap S.keep
 haveI hL:=L.depth
 haveI hU:=L.units
 haveI hlen:fd.params.args.length=1:=by simpa using ZV List.length hpa
 refine W7 (codeAny_call_generator (show Y.A.depth<1000 by omega) (X _ _ ho) hd (hsc▸rfl) (hsc▸rfl) hbd (codeRec_of X hcd) ?_)
 rw[gf hp1 hp2 hp3 hp4 hp5 (by rw[hlen];rfl) (by rw[hpa];decide),hpa,hgl,hbi,hclo,hsc]
 refine ZW ?_
 refine aF S.loc fun m hm hl=>?_
 refine gm ((qc (b:=HD) (ns:=fc.names) (by decide)).wide Y.nm) fun w1 w2 w3=>?_
 refine fZ (by decide) w1 S hm (fun x hx=>absurd hx (w2 x)) fun Lc s' ρ' hSt=>?_
 generalize henv:newEnv fc Lc mainGlobals (cellsFrom (Lc+1) fc.names []) (fd.qualname++Str.ofString ".<locals>.") (some ga) fd.code none builtinsNs=env
 haveI e1:env.locals=Lc:=by refine henv▸?_;rfl
 haveI e2:env.cells=cellsFrom (Lc+1) fc.names []:=henv▸rfl
 have e3:env.scope=fc:=henv▸rfl
 haveI e4:env.globals=mainGlobals:=by refine henv▸?_;rfl
 haveI e5:env.builtins=builtinsNs:=by refine henv▸?_;rfl
 haveI e6:env.frame=some env.locals:=by rw[<-henv];rfl
 haveI hk:∀ x kd,(x,kd)∈fc.names->env.kindOf x=some kd∨(kd = .free/\env.kindOf x=some .cell):=fun x kd h=>.inl (by unfold Env.kindOf;exact e3▸(lookup_mem (by decide) h))
 haveI S1:St D (Y.inner Y.A.in1 env m De) (ρ++ρ') J [.ah,.ah,.ah] s':=hSt Y.A.in1 env e1 e2 hk
 haveI hρ:ρ'=[]:=by
  haveI:=S1.num
  rw[S.num,ZI] at this
  exact List.eq_nil_of_length_eq_zero (YW (om [_,_] [(.a (.v 0) (.v 1),.v 0)] (.v 1,.n 0) rfl (lC this)) (om [_] [] (.n 0,.v 0) rfl))
 clear hSt;subst hρ
 rw[ZT] at S1
 haveI B1:aV D (Y.inner Y.A.in1 env m De):=B.inner (by show Y.A.units+1<=8000;exact om [_,_] [(.a (.a (.v 0) (.v 1)) (.n 10),.n 8000)] (.s (.v 0),.n 8000) rfl hU) (by show Y.A.depth<=800;exact om [_,_] [(.a (.a (.v 0) (.v 1)) (.n 10),.n 800)] (.v 0,.n 800) rfl hL) e4 e5 (e3▸rfl) (by decide) (by decide)
 haveI W1:=W.binds B1 (J:=J) (Z:=[.ah,.ah,.ah]) (is:=[0]) (binds:=[("grouping",y)]) (vs:=[.ref k]) rfl ⟨hy,trivial⟩
 haveI eb:eB [0] [.ref k] J [.ah,.ah,.ah] = .ok () J [.ref k,.ah,.ah]:=rfl
 dsimp only[eb] at W1
 refine W1.run S1 fun zz s2 zz S2=>?_
 refine⟨B.lim _ S2.keep,?_⟩
 refine xT (St.ua S2 hl) fun oL mg g1 g2 g3 g4=>?_
 have hLa:env.locals≠s2.heap.objs.size:=fun q=>by
  haveI:=YG (g4.keep env.locals oL aP)
  rw[q] at this
  exact XF _ this
 haveI hka:Y.kp s2.heap.objs.size=none:=by
  haveI:=g4.dM
  rwa [show(Y.cT (cZ Y.kp env.locals oL) Y.fz).kp s2.heap.objs.size=Y.kp s2.heap.objs.size from cG (Ne.symm hLa)] at this
 haveI hkg:Y.kg s2.gens.size=none:=by
  refine bI (Y.kg s2.gens.size) (fun q=>?_) fun x q=>?_
  ·rfl
  ·haveI:=g4.gen.kept _ _ q
   replace this:=(YF (ZE _)).symm.trans this;exact absurd this.symm (Zx _)
 refine h s2.heap.objs.size {cls:=.type "generator",data:=.fields #[.int s2.gens.size 0,.str fd.name s2.toks,.str fd.qualname (s2.toks+1)]} env s2.gens.size _ ?_ ?_ hkg (CF oL mg g1 g2 ?_ ?_ ?_)
 ·exact⟨B,R,L.handled,by show Y.A.units+10<=8000;exact om [_,_] [(.a (.a (.v 0) (.v 1)) (.n 10),.n 8000)] (.a (.v 0) (.n 10),.n 8000) rfl hU,by show Y.A.depth+10<=800;exact om [_,_] [(.a (.a (.v 0) (.v 1)) (.n 10),.n 800)] (.a (.v 0) (.n 10),.n 800) rfl hL,hka,e3,e4,e5,e6,G.xF,G.u7⟩
 ·exact fun hp e=>(vx _ _ _ e rfl rfl rfl)
 ·show cZ Y.kp s2.heap.objs.size _ env.locals=none
  refine(cG hLa).trans ?_;exact g3
 ·haveI S5:=(((g4.Ex (x:=.fresh (.func (iE P) env)) rfl).toks (s2.toks+1+1)).tH {cls:=.type "generator",data:=.fields #[.int s2.gens.size 0,.str fd.name s2.toks,.str fd.qualname (s2.toks+1)]}).gu g4.fresh (Zu _ rfl)
  refine St.drop (kp':=cZ (cZ Y.kp env.locals oL) s2.heap.objs.size _) (fz':=Y.fz) S5 (fun b x e=>?_) fun zz zz h=>h
  by_cases q:b=env.locals
  ·subst q
   rw[aP] at e
   rw[cG hLa,aP];exact e
  ·rw[cG q] at e
   by_cases q2:b=s2.heap.objs.size
   ·clear q;subst q2
    haveI e':cZ Y.kp s2.heap.objs.size _ s2.heap.objs.size=some x:=e
    rw[aP] at e' ⊢;exact e'
   ·haveI e:cZ Y.kp s2.heap.objs.size _ b=some x:=e
    rw[cG q2] at e
    rw[cG q2,cG q];exact e
 ·show(s2.gens.push _)[s2.gens.size]? = _
  exact Array.getElem?_push_size
end
end
theorem kL{s:Shared}{g:Nat}{st x:GenState}(h:s.gens[g]? = some st):(s.setGen g x).setGen g st=s:=by
 unfold Shared.setGen
 haveI:(s.gens.setIfInBounds g x).setIfInBounds g st=s.gens:=by
  apply Array.ext_getElem?
  intro i
  by_cases q:i=g
  ·rw[q]
   haveI hlt:=(Xn.mp h).1
   rw[YZ (by simpa using hlt),h]
  ·rw[Zv (Ne.symm q),Zv (Ne.symm q)]
 dsimp only
 rw[this]
theorem jR{s:Shared}{g:Nat}{x y:GenState}:(s.setGen g x).setGen g y=s.setGen g y:=by
 unfold Shared.setGen
 haveI:(s.gens.setIfInBounds g x).setIfInBounds g y=s.gens.setIfInBounds g y:=by
  apply Array.ext_getElem?
  intro i
  by_cases q:i=g
  ·subst q
   by_cases hlt:i<s.gens.size
   ·rw[YZ (by simpa using hlt),YZ hlt]
   ·rw[YF (by simpa using hlt),YF (by simpa using hlt)]
  ·rw[Zv (Ne.symm q),Zv (Ne.symm q),Zv (Ne.symm q)]
 exact this▸rfl
section
variable {D:Wd}{Y:Gm}{ρ:List Addr}{J:aq}{Z:List V}{s:Shared}
theorem St.Gx{kp fz:Addr->Option Obj}{kg:Nat->Option GenState}{g:Nat}{st x:GenState}(S:St D (Y.rT kp fz (qj kg g st)) ρ J Z s)(hb:x.bare=true):St D (Y.rT kp fz (qj kg g x)) ρ J Z (s.setGen g x):=by
 haveI hg:=S.gen.kept g st gK
 haveI hlt:=(Xn.mp hg).1
 exact⟨S.keep,S.dU,S.loc,S.obj,S.num,S.full,S.nd,S.ap,S.os,⟨fun y hy=>by
   rcases Array.mem_or_eq_of_mem_setIfInBounds hy with h | h
   ·exact S.gen.bare y h
   ·rw[h];exact hb,fun g' y e=>by
   by_cases q:g'=g
   ·clear S;clear hg;subst q
    rw[show(Y.rT kp fz (qj kg g' x)).kg g'=some x from gK] at e;obtain rfl:=Z9 e
    exact YZ hlt
   ·rw[show(Y.rT kp fz (qj kg g x)).kg g'=kg g' from pw q] at e
    refine(Zv (Ne.symm q)).trans ?_
    exact S.gen.kept g' y ((pw q).trans e)⟩,S.d4⟩
@[reducible] noncomputable def Gm.on(Y:Gm)(g:Nat):Gm:=Y.rT Y.kp Y.fz (qj Y.kg g .running)
@[reducible] noncomputable def GP.on(X:GP)(g:Nat):GP:={X with Y:=X.Y.on g}
theorem GP.Ok.on{X:GP}(K:X.Ok D)(g:Nat):(X.on g).Ok D:=
 ⟨K.blok.le ⟨_,_,_,rfl,fun zz zz h=>h⟩,K.dU.le ⟨_,_,_,rfl,fun zz zz h=>h⟩,K.handled,K.units,K.depth,K.ka,K.scope,K.glob,K.bi,K.frame,K.xF,K.u7⟩
noncomputable def kP(D:Wd)(X:GP)(g n:Nat)(gs:GS)(ρ:List Addr)(J:aq)(Z:List V)(s:Shared):Prop:=∃ st,s.gens[g]? = some st/\
 ((st = .fresh (.func (iE X.P) X.env)/\gs=⟨0,.none,false⟩/\∃ oL mg,(∀ h:Heap,h.get? X.env.locals=some oL->h.Ns X.env.locals mg)/\Sl D {X.Y with env:=X.env,nm:=De} ρ mg [.ref X.k,.ah,.ah]/\X.base.kp X.env.locals=none/\
   St D ((X.on g).base.cT (cZ X.base.kp X.env.locals oL) X.Y.fz) ρ J Z (s.setGen g .running))∨
  ∃ I kk l c p fs,st = .suspended kk l c p fs false/\gy D (X.on g) I gs ρ J Z (s.setGen g .running)/\jN D (X.on g) I n gs kk c fs)
variable {X:GP}
theorem kP.made{g n:Nat}(hkg:X.Y.kg g=none)(h:tr D X g ρ J Z s):kP D X g n ⟨0,.none,false⟩ ρ J Z s:=by
 refine D3 h fun oL mg g1 g2 g3 g4 g5=>?_;clear h
 refine aY _ g5 (.inl (c9 rfl rfl ⟨oL,mg,g1,g2,g3,?_⟩))
 exact(St.setG g4 hkg rfl).Fu (setGen_self g5)
theorem kP.next(K:X.Ok D){g n:Nat}{gs:GS}{Q:Option Value->Shared->Prop}{E:Value->Shared->Prop}(hoa:∀ h:Heap,h.get? X.a=some X.oa->h.IsGen X.a g)(hkg:X.Y.kg g=none)(H:kP D X g (n+1) gs ρ J Z s)(hnb:da J X.k gs≠.bad)(hitem:∀ v' gs' v s',da J X.k gs = .item v' gs'->VR D ρ v' v->(∃ I kk l c p fs,s'.gens[g]? = some (.suspended kk l c p fs false)/\gy D (X.on g) I gs' ρ J Z (s'.setGen g .running)/\jN D (X.on g) I n gs' kk c fs)->Q (some v) s')(hdone:da J X.k gs = .done->∀ s',St D X.Y ρ J Z s'->Q none s')(herr:da J X.k gs = .err->∀ x s',ER D X.Y ρ (ze J Z) x s'->E x s'):wpAny (model D.prog D.w) X.Y.A (pyNext (.ref X.a)) Q E s:=by
 haveI hd:=K.depth
 haveI K':=K.on g
 haveI hbase:∀ b o,X.Y.kp b=some o->cZ X.Y.kp X.a X.oa b=some o:=a8 K.ka
 have hup:∀ b y,X.Y.kg b=some y->∀ x,qj X.Y.kg g x b=some y:=fun b y e x=>y9 hkg b y e
 have fin:∀ {e:End} {s':Shared} {I:Addr},sf D (X.on g) (jN D (X.on g) I n) I gs ρ J Z e s'->e.quiet=true/\s'.heap.IsGen X.a g/\ug g Q E e s':=by
  intro e s' I he
  cases e with
  |ret r=>
   rcases he with⟨h1,rfl,h2⟩ | ⟨h1,x,rfl,h2⟩
   ·refine c9 rfl (hoa _ (h2.keep X.a X.oa aP)) (fun h' hk=>hdone h1 _ ?_)
    haveI h3:St D X.Y ρ J Z (s'.setGen g .finished):=St.jW (Y:=X.Y) (kp:=X.Y.kp) (fz:=X.Y.fz) (kg:=X.Y.kg) (St.Gx h2 rfl) hbase (fun zz zz h=>h) fun b y e=>hup b y e _
    exact h3.ext hk
   ·haveI e:ze J Z = .exc 1 (.ref J.n) ⟨J.n+1,J.t.ins J.n (.tup [.str (Str.ofString "invalid grouping")]),J.fz⟩ Z:=rfl
    obtain⟨ρ',⟨xa,T,rfl,hX⟩,S'⟩:=h2
    obtain⟨o,vs,x1,x2,_⟩:=id hX
    refine c9 rfl (hoa _ (S'.keep X.a X.oa aP)) (iF xa rfl ⟨o,x1,x2⟩ (herr h1 _ _ ?_))
    refine⟨ρ',⟨xa,T,rfl,?_⟩,?_⟩
    ·exact m6.jW (hX.heap rfl) hbase
    ·exact St.jW (Y:=X.Y) (kp:=X.Y.kp) (fz:=X.Y.fz) (kg:=X.Y.kg) (St.Gx S' rfl) hbase (fun zz zz h=>h) fun b y e=>hup b y e _
  |susp v gd l k' c p fs=>
   refine gm he fun qz1 a2 qz2=>?_;clear he;subst qz1;obtain⟨v',gs',a3,a4,a5,a6⟩:=qz2
   haveI hS:=a5
   refine GC hS fun oL oI mg fz lv iv b1 b2 b3 b4 b5 b6 b7 b8=>?_;clear hS
   haveI hq:=b7.gen.kept g .running gK
   haveI ha:=b7.keep X.a X.oa (by
    have n1:X.a≠I:=by
     rintro rfl
     rw[show(X.on g).base.kp X.a=some X.oa from aP] at b2;exact Zx _ b2
    have n2:X.a≠X.env.locals:=by
     intro q
     haveI b3':=b3
     rw[<-q,cG n1,show(X.on g).base.kp X.a=some X.oa from aP] at b3';exact Zx _ b3'
    show cZ (cZ (X.on g).base.kp I oI) X.env.locals oL X.a=some X.oa
    exact(cG n2)▸(cG n1)▸aP)
   refine c9 (by simp[End.quiet,a2]) (hoa _ ha) ?_
   refine hitem v' gs' v _ a3 a4 (Jr I k' l c p fs ?_ ?_ a6)
   ·haveI:=setGen_self (x:=.suspended k' l c p fs (false||fs.any Frame.guarded)) hq
    rw[a2] at this
    show(s'.setGen g (.suspended k' l c p fs (false||fs.any Frame.guarded))).gens[g]? = _
    rw[a2];exact this
   ·haveI:((s'.setGen g (End.susp v false l k' c p fs).genState).setGen g .running)=s':=by
     refine(jR).trans ?_
     haveI:=kL (x:=.running) hq
     rwa [jR] at this
    rw[this];exact a5
 refine aF H fun st hst h=>?_;clear H
 rcases h with⟨rfl,rfl,oL,mg,g1,g2,g3,g4⟩ | ⟨I,kk,l,c,p,fs,rfl,h1,h2⟩
 ·refine aF g4.loc fun m hm hl=>?_
  haveI S':St D ((X.on g).run m) ρ J [.ref X.k,.ah,.ah] (s.setGen g .running):=St.yp g4 g3 g1 rfl hm g2
  haveI hgo:=Dd (n:=n) K' hl hnb S' rfl
  have hl':=K.blok.lim s.heap fun a o e=>g4.keep a o (by
   exact a8 g3 a o (a8 K.ka a o e))
  haveI hga:=hoa _ (g4.keep X.a X.oa (by
   have n2:X.a≠X.env.locals:=by
    intro q
    rw[<-q,show X.base.kp X.a=some X.oa from aP] at g3;exact Zx _ g3
   refine(cG n2).trans ?_;exact aP))
  exact l9 K.handled hl' (show X.Y.A.depth<1000 by omega) hga hst hgo fun e s' he=>let ⟨I,he⟩:=he;fin he
 ·haveI hgo:=h2 ρ J Z _ h1 hnb
  refine GC h1 fun oL oI mg fz lv iv b1 b2 b3 b4 b5 b6 b7 b8=>?_;clear h1
  have kpa:∀ a o,X.base.kp a=some o->cZ (cZ (X.on g).base.kp I oI) X.env.locals oL a=some o:=fun a o e=>a8 b3 a o (a8 b2 a o e)
  haveI hl':=K.blok.lim s.heap fun a o e=>b7.keep a o (kpa a o (a8 K.ka a o e))
  haveI hga:s.heap.IsGen X.a g:=hoa _ (b7.keep X.a X.oa (kpa X.a X.oa aP))
  exact l9 K.handled hl' (show X.Y.A.depth<1000 by omega) hga hst hgo fun e s' he=>fin he
end
section
variable {D:Wd}{Y:Gm}{ρ:List Addr}{J:aq}{Z:List V}{s:Shared}
noncomputable def eA:Str:= "_grouping_intervals"
theorem W.Hf{α β:Type}{P:List Addr->β->α->Prop}{vs:List V}{xs:List Value}{t:Sem α}{f:V->M β}(hv:bB D ρ vs xs)(h:∀ v x,vs=[v]->xs=[x]->VR D ρ v x->W D Y ρ J Z t P (f v J Z)):W D Y ρ J Z t P (Mine.one vs f J Z):=by
 cases vs with
 |nil=>exact W.bad
 |cons v r=>
  cases r with
  |cons _ _=>exact W.bad
  |nil=>
   cases xs with
   |nil=>exact hv.elim
   |cons x xs=>cases xs with
    |cons _ _=>exact hv.2.elim
    |nil=>exact h v x rfl rfl hv.1
theorem aw.rv(B:aV D Y)(R:jY Y){lvn:Nat}(L:Lv Y lvn){ga:Addr}{P:Nat->Pos}(G:ue D ga P){ae target:Expr}{body:List Stmt}{np pos fp:Pos}{x:M V}{asg:V->M Unit}{y:M Fl}{N:Nat}(hk:Y.env.kindOf eA=some .globalImplicit)(hv:D.mg eA=some (.ref ga))(hx:aw D Y (eval ae Y.env) (VR D) x)(he:starEach [ae] Y.env=[(false,eval ae Y.env)])(hs:∀ v,foldedSetIterable (.Call (.Name eA np) [ae] [] pos) Y.env v=pure v)(hlet:∀ it v,letOwnedTupleGo target it v=pure ())(ha:∀ Y',Y.Le Y'->∀ ρ J Z v yv,VR D ρ v yv->W D Y' ρ J Z (assign target Y.env yv) Un (asg v J Z))(hb:∀ Y',Y.Le Y'->aw D Y' (execs body Y.env) (bX D) y) :
  aw D Y (exec (.For target (.Call (.Name eA np) [ae] [] pos) body [] fp) Y.env) (bX D) (.bind x fun v=>az (refOf v) fun k=>rf k asg y N ⟨0,.none,false⟩):=fun ρ₀ J₀ Z₀=>by
 refine vR G.obj fun og fd ho hd zz=>?_
 have hst:(backTo pos (starEach [ae] Y.env)).any (·.1)=false:=by rw[he];rfl
 haveI hargs:W D Y ρ₀ J₀ Z₀ (evalArgs (.ref ga) true (backTo pos (starEach [ae] Y.env)) []) (mL D) (M.bind x (fun v=>M.bind (M.ret []) fun vs=>M.ret (v::vs)) J₀ Z₀):=W.args hst (aw.cons hx aw.nil he ρ₀ J₀ Z₀)
 haveI e:(M.bind x fun v=>az (refOf v) fun k=>rf k asg y N ⟨0,.none,false⟩)=M.bind (M.bind x fun v=>M.bind (M.ret []) fun vs=>M.ret (v::vs)) fun vs=>one vs fun v=>az (refOf v) fun k=>rf k asg y N ⟨0,.none,false⟩:=by
  rw[M.bind_assoc]
 rw[e,exec_For,arm_eval_Call_Name']
 refine W.bj ?_
 rw[bind_assoc]
 refine W.global B hk hv ?_ (by decide)
 unfold callWith
 rw[bind_assoc]
 refine(W.holding hargs).bind fun ρ₁ vs J Z aa zz haa=>?_
 generalize ρ₀++ρ₁=ρ at haa ⊢
 refine aF haa fun xs qz1 hvs=>?_;clear haa;subst qz1
 refine W.Hf hvs fun v xv e1 e2 hvk=>?_
 clear hvs;subst e1 e2
 refine W.az fun k hk'=>W.of fun s S hbad=>?_
 rw[fO hk'] at hvk
 generalize hr:rf k asg y N ⟨0,.none,false⟩ J Z=r at hbad ⊢
 refine Z8 (Z8 (YR (Z8 ?_)))
 skip
 refine Z8 (XE (B.eQ s.heap S.keep _ _ ho) ?_)
 refine hd▸?_
 refine ZW ?_
 refine(show((backTo pos (starEach [ae] Y.env)).any (·.1)||(backToKw pos (keywordEach [] Y.env)).any (·.1.isNone))=false by rw[hst];rfl)▸?_
 have main:∀ a oa env g s',GP.Ok D ⟨Y,a,oa,env,k,P⟩->(∀ h:Heap,h.get? a=some oa->h.IsGen a g)->Y.kg g=none->tr D ⟨Y,a,oa,env,k,P⟩ g ρ J Z s'->
   wpAny (model D.prog D.w) Y.A (foldedSetIterable (.Call (.Name eA np) [ae] [] pos) Y.env (.ref a)>>=fun v=>standAt (Expr.pos (.Call (.Name eA np) [ae] [] pos))>>=fun zz=>holding [v] (pyIter v)>>=fun it=>runOwn (.forLoop target it body [] Y.env) Y.env) (QR D Y ρ (bX D) r) (ER D Y ρ r) s':=by
  intro a oa env g s' K hoa hkg hF
  rw[hs]
  refine Z8 (ZW (Z8 (YR (Z8 (Zw ?_)))))
  haveI hgen:s'.heap.IsGen a g:=by
   refine D3 hF fun oL mg g1 g2 g3 g4 g5=>?_;clear hF
   refine hoa _ (g4.keep a oa ?_)
   haveI n2:a≠env.locals:=by
    intro q
    rw[show(GP.mk Y a oa env k P).base.kp env.locals=some oa from q▸aP] at g3;exact Zx _ g3
   refine(cG n2).trans ?_;exact aP
  refine wpAny_pyIter_gen hgen ?_
  refine wpAny_runOwn ?_
  rw[Around.mark_none]
  refine codeAny_forLoop_any (fun n s=>∃ ρ' J' Z' gs,kP D ⟨Y,a,oa,env,k,P⟩ g n gs (ρ++ρ') J' Z' s/\rf k asg y n gs J' Z'=r) (fun n s hI=>?_) N (Gy [] J Z _ (by rw[ZT];exact kP.made hkg hF) hr)
  refine Fj hI fun ρ' J' Z' gs H e'=>?_;clear hI
  have err:∀ {ρ1:List Addr} {kp fz:Addr->Option Obj} {kg:Nat->Option GenState},_->_->_->∀ v s',ER D (Y.rT kp fz kg) (ρ++ρ1) r v s'->
    notedBy (model D.prog D.w) Y.A Y.env (cameBackBy (model D.prog D.w) Y.A Y.env (ER D Y ρ r)) v s':=fun z1 z2 z3 v s' h=>(h.jW z1 z2 z3).through B R rfl fun s2 h2=>h2.wide
  cases n with
  |zero=>exact absurd e'.symm hbad
  |succ n=>
   haveI e1:(match da J' k gs with
    |.item v g'=>M.bind (asg v) (fun zz=>M.bind y (nV (rf k asg y n g'))) J' Z'
    |.done=>.ok .next J' Z'
    |.err=>M.bind _ (fun t s e=>.exc 1 t s e) J' Z'
    |.bad=>.bad)=r:=e'
   haveI hnb:da J' k gs≠.bad:=fun q=>by rw[q] at e1;exact hbad e1.symm
   refine kP.next K hoa hkg H hnb (fun v' gs' vv s2 hit hvv hlive=>?_) (fun hdn s2 S2=>?_) fun her xx s2 hE=>?_
   ·dsimp only at hit
    rw[hit] at e1
    dsimp only at e1
    refine XQ (hlet _ _) ?_
    refine Jp hlive fun I kk l c p fs hst2 hh hsu=>?_;clear hlive
    refine GC hh fun oL oI mg fz lv iv b1 b2 b3 b4 b5 b6 b7 b8=>?_;clear hh
    have kpa:∀ b o,Y.kp b=some o->cZ (cZ (cZ Y.kp a oa) I oI) env.locals oL b=some o:=fun b o e=>a8 b3 b o (a8 b2 b o (a8 K.ka b o e))
    generalize hkp:cZ (cZ (cZ Y.kp a oa) I oI) env.locals oL=kp' at kpa
    haveI kga:∀ b o,Y.kg b=some o->qj Y.kg g (.suspended kk l c p fs false) b=some o:=y9 hkg
    haveI S2:St D (Y.rT kp' fz (qj Y.kg g (.suspended kk l c p fs false))) (ρ++ρ') J' Z' s2:=by
     haveI:=St.Gx (Y:=Y) (x:=.suspended kk l c p fs false) b7 rfl
     refine hkp▸?_
     rwa [kL hst2] at this
    have hle:Y.Le (Y.rT kp' fz (qj Y.kg g (.suspended kk l c p fs false))):=(sx _ _ _ rfl kpa)
    refine(ha _ hle (ρ++ρ') J' Z' v' vv hvv).step S2 e1 hbad (fun ρ3 zz J3 Z3 zz s3 zz S3 e2=>?_) (err kpa b1 kga)
    rw[ZZ] at S3
    refine(hb _ hle (ρ++(ρ'++ρ3)) J3 Z3).step S3 e2 hbad (fun ρ4 f J4 Z4 gg s4 hg S4 e3=>?_) (err kpa b1 kga)
    rw[ZZ] at S4 hg
    haveI live:kP D ⟨Y,a,oa,env,k,P⟩ g n gs' (ρ++(ρ'++ρ3++ρ4)) J4 Z4 s4:=by
     clear S2;clear S3;clear hle;clear kpa;subst hkp
     refine aY _ (S4.gen.kept g _ gK) (.inr ⟨I,kk,l,c,p,fs,rfl,(Ik oL oI mg fz lv iv b1 b2 b3 ?_ b5 ?_ ?_ b8),hsu⟩)
     ·have:=b4.mono (ρ':=ρ3++ρ4)
      rwa [ZZ,<-ZZ ρ'] at this
     ·haveI:=b6.mono (ρ':=ρ3++ρ4)
      rwa [ZZ,<-ZZ ρ'] at this
     ·exact St.Gx S4 rfl
    have S5:St D Y (ρ++(ρ'++ρ3++ρ4)) J4 Z4 s4:=St.jW S4 kpa b1 kga
    cases f with
    |next=>cases(show gg = .next from hg);exact⟨n,Yv _,_,J4,Z4,gs',live,e3⟩
    |cont=>cases(show gg = .cont from hg);exact⟨n,Yv _,_,J4,Z4,gs',live,e3⟩
    |brk=>
     obtain rfl:=(show gg = .brk from hg)
     show QR D Y ρ (bX D) r .next s4
     exact e3▸(⟨_,rfl,S5⟩)
    |ret v'=>
     refine aF hg fun w qz3 hw=>?_;clear hg;subst qz3
     show QR D Y ρ (bX D) r (.ret w) s4
     exact e3▸(⟨_,(aY w rfl hw),S5⟩)
   ·dsimp only at hdn
    rw[hdn] at e1
    refine ZW ?_
    exact e1▸(⟨ρ',rfl,S2⟩)
   ·dsimp only at her
    rw[her] at e1
    haveI hE':ER D Y ρ r xx s2:=e1▸(ER.wide hE)
    exact hE'.through B R rfl fun s3 h3=>h3
 have tail:∀ {t:Sem Value},wpAny (model D.prog D.w) Y.A t (fun v s'=>wpAny (model D.prog D.w) Y.A (foldedSetIterable _ Y.env v>>=fun v=>standAt _>>=fun zz=>holding [v] (pyIter v)>>=fun it=>runOwn (.forLoop target it body [] Y.env) Y.env) (QR D Y ρ (bX D) r) (ER D Y ρ r) s') (ER D Y ρ r) s->
   wpAny (model D.prog D.w) Y.A (t>>=fun r=>PySem.holding [r] PySem.point>>=fun zz=>Pure.pure r) (fun v s'=>wpAny (model D.prog D.w) Y.A (foldedSetIterable (.Call (.Name eA np) [ae] [] pos) Y.env v>>=fun v=>standAt (Expr.pos (.Call (.Name eA np) [ae] [] pos))>>=fun zz=>holding [v] (pyIter v)>>=fun it=>runOwn (.forLoop target it body [] Y.env) Y.env) (QR D Y ρ (bX D) r) (ER D Y ρ r) s') (ER D Y ρ r) s:=
  fun ht=>Z8 (ZO ht (fun r s₂ hr=>Z8 (Zw (WI (ZW hr)))) fun zz zz x=>x)
 haveI hcall:=yy (Q:=fun v s'=>wpAny (model D.prog D.w) Y.A (foldedSetIterable _ Y.env v>>=fun v=>standAt _>>=fun zz=>holding [v] (pyIter v)>>=fun it=>runOwn (.forLoop target it body [] Y.env) Y.env) (QR D Y ρ (bX D) r) (ER D Y ρ r) s') (E:=ER D Y ρ r) B (R.dU B) L G S hvk main
 dsimp only
 split
 ·exact tail hcall
 ·exact tail (by skip;exact Calls.wpAny_keep hcall)
end
end Mine
end
noncomputable section
open PySem PySem.W PyProof.Rows
namespace Mine
structure pj(D:Wd)(C:Addr):Prop where
 obj:∃ o cd,D.K.lookup C=some o/\o.data = .cls cd
 tup:instIn D.K (.ref C) (.type "tuple")=some false
 base:subIn D.K (.ref C) (.type "BaseException")=some true
structure Tab where
 fn:List (Str×Nat)
 cls:List (Str×Nat)
 own:List (Str×Nat)
 nums:List (Str×Int)
 Dz:List Str
structure Cx where
 ns:List (Str×NameKind)
 nm:List Str
noncomputable def Cx.glob(cx:Cx)(x:Str):Bool:=cx.ns.lookup x==some .globalImplicit
noncomputable def eh(y:Str):List Str->Option Nat
 |[]=>none
 |x::r=>if x==y then some 0 else(eh y r).map (· + 1)
theorem dR{y:Str}:∀ {l:List Str} {i:Nat},eh y l=some i->l[i]? = some y
 |x::r,i,h=>by
  dsimp only[eh] at h
  by_cases q:(x==y)=true
  ·replace h:=(if_pos q).symm.trans h;obtain rfl:=Z9 h;refine(Y9.mp q)▸?_;rfl
  ·replace h:=(if_neg q).symm.trans h
   refine aF (ZU.mp h) fun j hj qz1=>?_;clear h;refine qz1▸?_
   dsimp only[List.getElem?_cons_succ];exact dR hj
noncomputable def sN(o:Expr):Bool:=match o with
 |.Call g as kw _=>match g with
  |.Name _ _=>!(as.isEmpty&&kw.isEmpty)
  |_=>true
 |_=>true
theorem jV{o:Expr}{a:Str}{env:Env}{w:Sem Value}:sN o=true->attributeBase o a env w=w:=by
 cases o with
 |Call g as kw p=>
  cases g with
  |Name _ _=>cases as with
   |nil=>cases kw with
    |nil=>exact fun h=>jC h
    |cons _ _=>exact fun zz=>rfl
   |cons _ _=>exact fun zz=>rfl
  |_=>exact fun zz=>rfl
 |_=>exact fun zz=>rfl
noncomputable def BH(e:Expr):Option Str:=match e with
 |.Name y _=>some y
 |_=>none
theorem oW{e:Expr}{y:Str}:BH e=some y->∃ p,e = .Name y p:=by
 cases e with
 |Name _ p=>intro h;exact(Z9 h)▸⟨p,rfl⟩
 |_=>exact aQ
noncomputable def Gi(as:List Expr)(kw:List Keyword):Option Expr:=match as with
 |[]=>none
 |a::r=>match r,kw with
  |[],[]=>some a
  |_,_=>none
theorem uu{as:List Expr}{kw:List Keyword}{a:Expr}(h:Gi as kw=some a):as=[a]/\kw=[]:=
 match as,kw,h with
 |[_],[],h=>⟨ZV (fun x=>[x]) (Z9 h),rfl⟩
 |_::_::_,_,h=>a9 h
noncomputable def qm(e:Expr):Option (Str×Expr):=match e with
 |.Call g as kw _=>(BH g).bind fun y=>(Gi as kw).map fun a=>(y,a)
 |_=>none
theorem mC{e a:Expr}{y:Str}:qm e=some (y,a)->∃ p q,e = .Call (.Name y p) [a] [] q:=by
 cases e with
 |Call g as kw q=>
  intro h
  refine aF (Zd.mp h) fun z h1 h2=>?_
  refine aF (ZU.mp h2) fun b h3 h4=>?_
  cases h4
  refine df (oW h1) fun p h5=>?_
  rw[h5,(uu h3).1,(uu h3).2]
  exact⟨p,q,rfl⟩
 |_=>exact aQ
noncomputable def notStar(e:Expr):Bool:=match e with
 |.Starred _ _=>false
 |_=>true
theorem bV{e:Expr}{rest:List Expr}{env:Env}:notStar e=true->starEach (e::rest) env=(false,eval e env)::starEach rest env:=by
 cases e<;>first | exact fun zz=>rfl | exact eY
noncomputable def cp:List Expr->Bool
 |[]=>true
 |e::r=>notStar e&&cp r
theorem ei{p:Pos}{env:Env}:∀ {es:List Expr},cp es=true->(backTo p (starEach es env)).any (·.1)=false
 |[],_=>rfl
 |e::r,h=>by
  simp only[cp,ZJ] at h
  rw[bV h.1]
  refine(ei h.2).trans ?_;rfl
theorem k9{p:Pos}{env:Env}:∀ {es:List Expr},cp es=true->(backTo p (starEach es env)).all (!·.1)=true
 |[],_=>rfl
 |e::r,h=>by
  simp only[cp,ZJ] at h
  rw[bV h.1]
  refine(k9 h.2).trans ?_;rfl
noncomputable def dh(c:Expr->M V)(e:Expr):Bool×M V:=match e with
 |.Starred v _=>(true,c v)
 |e=>(false,c e)
noncomputable def qR(es:List Expr):Bool:=match es with
 |[]=>false
 |[_]=>true
 |e::_=>notStar e
noncomputable def gG(e:Expr):Bool:=match e with
 |.Set _ _ _=>false
 |_=>true
theorem ix{e:Expr}{env:Env}:gG e=true->∀ v,foldedSetIterable e env v=pure v:=by
 cases e<;>first | exact fun zz zz=>rfl | exact eY
noncomputable def namesOf(nm:List Str):List Expr->Option (List Nat)
 |[]=>some []
 |e::r=>(BH e).bind fun x=>(eh x nm).bind fun i=>(namesOf nm r).map fun is=>i::is
noncomputable def lD(nm:List Str)(e:Expr):Option Tg:=match e with
 |.Name x _=>(eh x nm).map .one
 |.Tuple es _ _=>(namesOf nm es).map .many
 |_=>none
theorem mK{Y:Gm}:∀ {es:List Expr} {is:List Nat},namesOf Y.nm es=some is->eX Y is es
 |[],is,h=>Z9 h▸.nil
 |e::r,is,h=>aF (bind_some h) fun x h1 h=>aF (bind_some h) fun i h2 h=>aF (ZU.mp h) fun js h3 h4=>df (oW h1) fun p h5=>h4▸h5▸.cons (dR h2) (mK h3)
theorem lT{Y:Gm}{t:Tg}{e:Expr}(h:lD Y.nm e=some t):uW Y t e:=by
 cases e with
 |Name x p=>refine aF (ZU.mp h) fun i hi qz3=>?_;clear h;refine qz3▸?_;exact .one (dR hi)
 |Tuple es k p=>refine aF (ZU.mp h) fun i hi qz5=>?_;clear h;refine qz5▸?_;exact .many (mK hi)
 |_=>contradiction
noncomputable def Fd(cx:Cx)(scope:Scope)(b:dG):Bool:=scope.kind==.function&&decide ((scope.names.map (·.1)).Nodup)&&yF cx.nm b scope.names&&decide ((bA b).Nodup) &&
 scope.names.all (fun p=>p.2 !=.free||((cx.ns.lookup p.1==some .cell||cx.ns.lookup p.1==some .free)&&cx.nm.contains p.1))&&(bA b).all (fun x=>!(x==("__classdict__" : Str))&&!(x==("__debug__" : Str)))
noncomputable def fH(nm:List Str):List (Str×NameKind)->dG
 |[]=>[]
 |(x,k)::r=>match k with
  |.local=>(x,.loc)::fH nm r
  |.cell=>(x,.own)::fH nm r
  |.free=>(x,.cM ((eh x nm).getD 1000))::fH nm r
  |_=>fH nm r
noncomputable def Cg:List (Str×Bi):=[("len",.len),("list",.list),("tuple",.tuple),("sum",.sum),("max",.max),("sorted",.sorted),("bool",.bool),("set",.set)]
noncomputable def z7(y:Str)(n:Nat):Option Bi:=if y==("range" : Str) then(match n with | 1=>some .aW | 2=>some .cX | _=>none) else Cg.lookup y
set_option tactic.hygienic true in
theorem bC{α β:Type}[BEq α][LawfulBEq α]{k:α}{v:β}:∀ {l:List (α×β)},l.lookup k=some v->(k,v)∈l
 |(a,b)::r,h=>by
  dsimp only[List.lookup_cons] at h
  split at h
  ·rename_i q
   obtain rfl:=Z9 h
   rw[eq_of_beq q]
   exact ZX
  ·exact ZY _ (bC h)
 |[],h=>by contradiction
theorem xQ:∀ p∈Cg,p.1=jc p.2:=by decide +kernel
theorem tI{y:Str}{n:Nat}{b:Bi}(h:z7 y n=some b):y=jc b:=by
 unfold z7 at h
 by_cases q:(y==("range" : Str))=true
 ·rw[if_pos q] at h
  refine(Y9.mp q).trans ?_
  split at h<;>cases h<;>rfl
 ·rw[if_neg q] at h
  exact xQ _ (bC h)
noncomputable def y8:List (Str×Me):=[("append",.append),("extend",.extend),("pop",.pop),("clear",.clear),("remove",.remove),("get",.get),("values",.values),("add",.add)]
theorem zH:∀ p∈y8,p.1=sI p.2:=by decide +kernel
noncomputable def mE:List (Str×Nat):=[("_node2info",0),("_ready_nodes",1),("_npassedout",2),("_nfinished",3),("node",10),("npredecessors",11),("successors",12)]
theorem ku:∀ p∈mE,p.1=attrName p.2:=by decide +kernel
noncomputable def sj(o:Expr):Bool:=match o with
 |.Name x _=>x==("self" : Str)||x==("sorter" : Str)
 |_=>false
section
variable (T:Tab)(F:eP)(scr:List Int)
noncomputable def yY(cx:Cx)(y:Str):M V:=match eh y cx.nm with
 |some i=>af i
 |none=>match T.nums.lookup y with
  |some i=>if cx.glob y then .ret (.int i) else .bad
  |none=>.bad
noncomputable def BN(cx:Cx)(hd:Nat)(y:Str)(es:List (M V))(n:Nat):M V:=if cx.glob y then fE hd (match T.fn.lookup y with
  |some f=>el F f es
  |none=>match T.cls.lookup y with
   |some f=>el F f es
   |none=>match z7 y n with
    |some b=>aS scr.length b es
    |none=>.bad) else .bad
noncomputable def Fm(cx:Cx)(hd:Nat)(y:Str)(as:List Expr)(c:Expr->M V)(other:M V):M V:=match as with
 |[a,z]=>match BH z with
  |some z=>if y==("isinstance" : Str)&&z==("tuple" : Str)&&cx.glob y&&cx.glob z&&notStar a then fE hd (DC (c a)) else other
  |none=>other
 |_=>other
noncomputable def w7(hd:Nat)(o:Expr)(y:Str)(ap p:Pos)(as:List Expr)(c:Expr->M V):M V:=
 if sN o&&(ap.endLine==p.line)&&decide (as.length<30)&&cp as then(match sj o with
  |true=>match T.own.lookup y with
   |some f=>fE hd (jU F (c o) f (cR (as.map c)))
   |none=>.bad
  |false=>match y8.lookup y with
   |some m=>bE hd (c o) m (as.map c)
   |none=>.bad)
 else if sN o&&!cp as&&qR as&&sj o&&!copiedNames.contains y then(match T.own.lookup y with
  |some f=>fE hd (jU F (c o) f (fD (as.map (dh c))))
  |none=>.bad) else .bad
noncomputable def ye(cx:Cx)(hd:Nat)(v:Expr)(y:Str)(c:Expr->M V):M V:=
 if y==("args" : Str) then(if sN v then vV (c v) else .bad)
 else match mE.lookup y with
  |some f=>if sN v then ez (c v) f else .bad
  |none=>match qm v with
   |some (x,a)=>if x==("iter" : Str)&&y==("__next__" : Str)&&cx.glob x&&notStar a then fE hd (Bq (c a)) else .bad
   |none=>.bad
noncomputable def vt(c:Expr->M V×M Bool)(nm:List Str)(elt:Expr):List Comprehension->Nat->M Unit
 |[]=>cw (c elt).1
 |⟨t,it,ifs,as⟩::r=>match lD nm t with
  |some tg=>if as==0&&gG it then Ew tg (c it).1 (ifs.map fun x=>(c x).2) (vt c nm elt r) else fun zz=>.bad
  |none=>fun zz=>.bad
noncomputable def Cb(cx:Cx)(hd:Nat)(c:Expr->M V)(c':Cx->Expr->M V×M Bool)(elt:Expr)(gs:List Comprehension)(scope:Scope):M V:=match gs with
 |[]=>.bad
 |⟨t,it,ifs,as⟩::r=>if as==0&&gG it&&Fd cx scope (fH cx.nm scope.names) then(match lD (bA (fH cx.nm scope.names)) t with
  |some tg=>fE hd (bz (c it) tg (ifs.map fun x=>(c' ⟨scope.names,bA (fH cx.nm scope.names)⟩ x).2) (vt (c' ⟨scope.names,bA (fH cx.nm scope.names)⟩) (bA (fH cx.nm scope.names)) elt r) (fH cx.nm scope.names))
  |none=>.bad) else .bad
noncomputable def strOf(e:Expr):Option Str:=match e with
 |.Constant k _ _=>match k with
  |.str p=>some p
  |_=>none
 |_=>none
noncomputable def uJ(e:Expr):Option Expr:=match e with
 |.FormattedValue v cv sp _=>if cv==114&&sp.isNone then some v else none
 |_=>none
noncomputable def Dn(c:Expr->M V)(vs:List Expr):M V:=match vs with
 |[a,b,d]=>match strOf a,uJ b,strOf d with
  |some p,some v,some q=>xn p q (c v)
  |_,_,_=>.bad
 |_=>.bad
noncomputable def cP:Nat->Cx->Nat->Expr->M V×M Bool
 |0,_,_,_=>gD
 |n+1,cx,hd,x=>match x with
  |.Constant k _ _=>both (EA k)
  |.Name y _=>both (yY T cx y)
  |.BinOp l op r _=>both (aL op (cP n cx hd l).1 (cP n cx hd r).1)
  |.UnaryOp op a _=>match op with
   |.USub=>both (iM (cP n cx hd a).1)
   |.Not=>(.bad,pX (cP n cx hd a).2)
   |_=>gD
  |.Compare l ops rs _=>match ops,rs with
   |[op],[r]=>if behindInMarks op r then gD else both (aO op (cP n cx hd l).1 (cP n cx hd r).1)
   |_,_=>gD
  |.BoolOp op es _=>(Aa op (es.map fun e=>(cP n cx hd e).1),eI op (es.map fun e=>(cP n cx hd e).2))
  |.List es _=>if cp es then both (eList (es.map fun e=>(cP n cx hd e).1)) else gD
  |.Tuple es _ _=>if cp es then both (eu (es.map fun e=>(cP n cx hd e).1)) else gD
  |.Dict ks vs _=>match ks,vs with
   |[],[]=>both kJ
   |_,_=>gD
  |.Subscript v i _=>match i with
   |.Slice lo hi st _=>match st with
    |none=>both (gR (cP n cx hd v).1 (lo.map fun e=>(cP n cx hd e).1) (hi.map fun e=>(cP n cx hd e).1))
    |some _=>gD
   |i=>both (aD hd scr (cP n cx hd v).1 (cP n cx hd i).1)
  |.Attribute v y _=>both (ye cx hd v y fun e=>(cP n cx hd e).1)
  |.Call g as kw p=>match kw with
   |[]=>match g with
    |.Name y _=>both (Fm cx hd y as (fun e=>(cP n cx hd e).1) (if cp as then BN T F scr cx hd y (as.map fun e=>(cP n cx hd e).1) as.length else .bad))
    |.Attribute o y ap=>both (w7 T F hd o y ap p as fun e=>(cP n cx hd e).1)
    |.Subscript v i q=>match as with
     |[]=>both (fE hd (C9 (cP n cx hd (.Subscript v i q)).1))
     |_=>gD
    |_=>gD
   |_=>gD
  |.JoinedStr vs _=>both (Dn (fun e=>(cP n cx hd e).1) vs)
  |.ListComp elt gs scope _=>both (Cb cx hd (fun e=>(cP n cx hd e).1) (fun cx' e=>cP n cx' 0 e) elt gs scope)
  |.NamedExpr t v _=>match t with
   |.Name y _=>match eh y cx.nm with
    |some i=>both (CM i (cP n cx hd v).1)
    |none=>gD
   |_=>gD
  |_=>gD
end
structure Tp(D:Wd)(T:Tab):Prop where
 cls:jf D
 bi:∀ b:Bi,D.mg (jc b)=none/\D.mb (jc b)=some (uk b)
 nums:∀ x i,T.nums.lookup x=some i->(x==("__debug__" : Str))=false/\∃ t,D.mg x=some (.int i t)
 exc:∀ n,n<3->D.mg (Str.ofString (aT n))=none/\D.mb (Str.ofString (aT n))=some (.type (aT n))
 iter:D.mg ("iter" : Str)=none/\D.mb ("iter" : Str)=some (.builtin "iter")
 Ep:D.mg ("isinstance" : Str)=none/\D.mb ("isinstance" : Str)=some (.builtin "isinstance")
 tup:D.mg ("tuple" : Str)=none/\D.mb ("tuple" : Str)=some (.type "tuple")
 own:∀ x∈T.Dz,(x==("__debug__" : Str))=false/\∃ C,D.mg x=some (.ref C)/\pj D C
 gen:∃ ga P,ue D ga P/\D.mg eA=some (.ref ga)
inductive FnAt(D:Wd)(n:Nat)(m:List V->M V)(v:Option Value):Prop where
 |mk (a:Addr) (o:Obj) (fd:FuncData) (h1:v=some (.ref a)) (h2:D.K.lookup a=some o) (h3:o.data = .func fd) (h4:gz D n (.ref a) m)
inductive GQ(D:Wd)(n:Nat)(m:List V->M V)(v:Option Value):Prop where
 |mk (a:Addr) (o:Obj) (cd:ClassData) (h1:v=some (.ref a)) (h2:D.K.lookup a=some o) (h3:o.data = .cls cd) (h4:specialIn D.K (.ref a) "__call__" = some (some (.builtin "type.__call__"))) (h5:gz D n (.ref a) m)
inductive GO(D:Wd)(n:Nat)(m:List V->M V)(x:Str):Prop where
 |mk (a:Addr) (o:Obj) (fd:FuncData) (h1:findIn D.K (.ref D.jx) x=some (some (.ref a))) (h2:typeIn D.K (.ref a)=some (.type "function")) (h3:D.K.lookup a=some o) (h4:o.data = .func fd) (h5:gz D n (.ref a) m)
structure ru(D:Wd)(T:Tab)(F:eP)(n:Nat):Prop where
 fn:∀ f x,T.fn.lookup x=some f->(x==("__debug__" : Str))=false/\FnAt D n (F f) (D.mg x)
 cls:∀ f x,T.cls.lookup x=some f->(x==("__debug__" : Str))=false/\GQ D n (F f) (D.mg x)
 own:∀ f x,T.own.lookup x=some f->x∉dw/\GO D n (F f) x
structure Bk(D:Wd)(n:Nat)(Y:Gm)(hd:Nat)(cx:Cx):Prop where
 blok:aV D Y
 md:Md Y hd
 dU:tn Y
 lv:hd=0->Lv Y n
 kind:∀ x k,cx.ns.lookup x=some k->Y.env.kindOf x=some k∨(k = .free/\Y.env.kindOf x=some .cell)
 nm:Y.nm=cx.nm
theorem Lv.le{Y Y':Gm}{n:Nat}(L:Lv Y n)(h:Y.Le Y'):Lv Y' n:=by
 refine g9 h fun kp fz kg qz0 h1=>?_;clear h;subst qz0
 exact⟨L.handled,L.units,L.depth⟩
theorem Bk.le{D:Wd}{n hd:Nat}{Y Y':Gm}{cx:Cx}(K:Bk D n Y hd cx)(h:Y.Le Y'):Bk D n Y' hd cx:=by
 refine⟨K.blok.le h,K.md.le h,K.dU.le h,fun e=>(K.lv e).le h,?_,?_⟩
 ·refine g9 h fun kp fz kg qz2 h1=>?_;clear h;subst qz2;exact K.kind
 ·refine g9 h fun kp fz kg qz4 h1=>?_;clear h;subst qz4;exact K.nm
theorem Bk.glob{D:Wd}{n hd:Nat}{Y:Gm}{cx:Cx}(K:Bk D n Y hd cx){x:Str}(h:cx.glob x=true):Y.env.kindOf x=some .globalImplicit:=by
 rcases K.kind x _ (Y9.mp h) with e | ⟨e,_⟩
 ·exact e
 ·exact PySem.NameKind.noConfusion e
theorem mem_of_lookup{x:Str}{k:NameKind}{l:List (Str×NameKind)}(h:l.lookup x=some k):(x,k)∈l:=bC h
theorem Bk.comp{D:Wd}{n:Nat}{Y Yc:Gm}{cx:Cx}{scope:Scope}{b:dG}(K:Bk D n Y 0 cx)(C:iw D Y scope b Yc)(hn:(scope.names.map (·.1)).Nodup):Bk D n Yc 0 ⟨scope.names,bA b⟩ where
 blok:=C.blok
 md:=by show Yc.A.handled=none;rw[C.A];exact K.md
 dU:=by
  refine aF K.dU.fs fun fs h1 h2=>?_
  refine⟨(aY fs (by rw[C.A];exact h1) (fun e he=>?_))⟩
  refine bU (h2 e he) fun g1 qz6=>?_;obtain⟨p,g2,g3⟩:=qz6
  exact⟨g1,p,g2,.inr (C.dU p g3)⟩
 lv:=fun e=>by
  haveI:=K.lv e
  exact⟨by rw[C.A];exact this.handled,by rw[C.A];exact this.units,by exact C.A▸this.depth⟩
 kind:=fun x k h=>jm C.scope hn (mem_of_lookup h)
 nm:=C.nm
theorem qa{D:Wd}{n hd:Nat}{Y:Gm}{cx:Cx}{scope:Scope}{b:dG}(K:Bk D n Y hd cx)(h:Fd cx scope b=true):mB Y scope b:=by
 simp only[Fd,ZJ,Y9,YH,Zz,Bool.or_eq_true,bne_iff_ne,ne_eq,List.contains_iff_mem,YM] at h
 refine bU h fun qz1 h6=>?_;clear h;obtain⟨⟨⟨⟨h1,h2⟩,h3⟩,h4⟩,h5⟩:=qz1
 refine⟨h1,h2,by rw[K.nm];exact qc h3,fun x hx=>?_,h4,fun x hx=>h6 x hx⟩
 rcases h5 _ hx with e | ⟨e,e'⟩
 ·exact absurd rfl e
 ·refine⟨?_,by rw[K.nm];simpa using e'⟩
  rcases e with e | e
  ·rcases K.kind x _ e with q | ⟨q,_⟩
   ·exact .inl q
   ·exact PySem.NameKind.noConfusion q
  ·rcases K.kind x _ e with q | ⟨_,q⟩
   ·exact .inr q
   ·exact .inl q
section
variable {x y:Str}
section
variable {D:Wd}{Y:Gm}{ρ:List Addr}{J:aq}{Z:List V}
theorem bB.reverse:∀ {xs:List V} {us:List Value},bB D ρ xs us->bB D ρ xs.reverse us.reverse
 |[],[],_=>trivial
 |_::_,_::_,h=>by simp only[List.reverse_cons,List.reverse_cons];exact(bB.reverse h.2).append ⟨h.1,trivial⟩
 |[],_::_,h=>h.elim
 |_::_,[],h=>h.elim
theorem W.goN(B:aV D Y):∀ {is:List Nat} {ns:List Str} {vs:List V} {xs:List Value} {ρ:List Addr} {J:aq} {Z:List V},iD Y is ns->bB D ρ vs xs->is.length=vs.length->
  W D Y ρ J Z (assignInOrder (ns.map fun n=>PySem.bindName Y.env n) xs) Un (aA.go is vs J Z)
 |[],[],[],[],ρ,J,Z,_,_,_=>W.pure trivial
 |i::is,n::r,v::vs,y::ys,ρ,J,Z,h,hv,hl=>by
  simp only[iD,Zi,List.cons.injEq] at h
  exact(W.holding (W.bindName B h.1 hv.1)).bind fun ρ1 zz J1 Z1 zz zz zz=>W.goN B h.2 hv.2.mono (Xy hl)
 |[],_::_,_,_,_,_,_,h,_,_=>by simp[iD] at h
 |_::_,[],_,_,_,_,_,h,_,_=>by simp[iD] at h
 |[],[],_::_,_,_,_,_,_,_,h=>by contradiction
 |_::_,_::_,[],_,_,_,_,_,_,h=>by contradiction
 |[],[],[],_::_,_,_,_,_,h,_=>h.elim
 |_::_,_::_,_::_,[],_,_,_,_,h,_=>h.elim
theorem aw.jS(B:aV D Y)(hh:Y.A.handled=none){targets:List Expr}{value:Expr}{p:Pos}{x:M V}{is:List Nat}{ns:List Str}(hx:aw D Y (eval value Y.env) (VR D) x)(hn:iD Y is ns)(hs:swapsWithSole targets value p.line Y.env=pure false)(hw:swappedStores targets value Y.env=pure (some ns)):aw D Y (exec (.Assign targets value p) Y.env) (bX D) (Mine.jS is x):=fun ρ J Z=>by
 refine W.nest (k:=fun v=>(do PySem.rule "assign.swapped-stores";let items <-unpackItems v ns.length none;assignInOrder (ns.reverse.map fun n=>PySem.bindName Y.env n) items.reverse;pure Flow.next)) (hx ρ J Z) (fun ρ1 a J1 Z1 xa zz hv=>?_) fun s Q E S hq=>?_
 ·haveI hl:is.length=ns.length:=by simpa using ZV List.length hn
  haveI key:W D Y (ρ++ρ1) J1 Z1 (do let items <-unpackItems xa ns.length none;assignInOrder (ns.reverse.map fun n=>PySem.bindName Y.env n) items.reverse) Un (aA 0 (.rev is) a J1 Z1):=by
   refine W.az fun k hk=>?_
   refine aF (hv.ref hk) fun ak hk qz1=>?_;clear hv;refine qz1▸?_
   refine W.obj fun o ho=>W.az fun vs hvs=>W.ite (fun h=>W.of fun s S hb=>?_) fun zz=>W.bad
   obtain rfl:=fL hvs
   haveI h:=Zr h
   obtain⟨items,n,l1,r1,_,z1⟩:=S.tup ho hk
   refine(show ns.length=items.size by omega)▸?_
   refine Z8 (wpAny_unpackItems_tuple hh (eg l1) fun h' hE=>?_)
   haveI hr:iD Y is.reverse ns.reverse:=by unfold iD at hn ⊢;rw[List.map_reverse,List.map_reverse,hn]
   exact(W.goN B hr r1.reverse (by simp[h])).to (S.ext fun b o e=>hE b o (Zk (YG e)) e) hb
  refine W.rule ?_
  haveI:=key.bind (P':=bX D) (f:=fun zz=>M.ret .next) fun ρ2 zz J2 Z2 zz zz zz=>W.pure rfl
  rwa [bind_assoc] at this
 ·dsimp only[exec_Assign_arm]
  refine Z8 (YR ?_)
  refine hs▸?_
  refine Z8 (ZW ?_)
  rw[if_neg (by decide)]
  refine Z8 (ZO hq (fun v s₁ h₁=>?_) fun zz zz x=>x)
  exact hw▸(Z8 (ZW h₁))
end
noncomputable def nameOf(e:Expr):Option (Str×Pos):=match e with
 |.Name x p=>some (x,p)
 |_=>none
noncomputable def ti(e:Expr):Option (List Expr):=match e with
 |.Tuple es _ _=>some es
 |_=>none
noncomputable def pairOf(es:List Expr):Option (Expr×Expr):=match es with
 |[a,b]=>some (a,b)
 |_=>none
noncomputable def nP(cx:Cx)(x y:Str×Pos)(a b:Expr):Option (List Nat):=
 if !(x.1==y.1)&&x.2.line==y.2.line&&cx.ns.lookup x.1==some .local&&cx.ns.lookup y.1==some .local&&notStar a&&notStar b&&!([a,b].all (foldedForSure 8))&&!([a,b].all (constantsAlone 8)) then
  (eh x.1 cx.nm).bind fun i=>(eh y.1 cx.nm).map fun j=>[i,j] else none
noncomputable def pd(cx:Cx)(ts:List Expr)(v:Expr):Option (List Nat):=
 (n7 ts).bind fun t=>(ti t).bind fun es=>(pairOf es).bind fun e=>(nameOf e.1).bind fun x=>(nameOf e.2).bind fun y=>(ti v).bind fun vs=>(pairOf vs).bind fun w=>nP cx x y w.1 w.2
theorem oU{e:Expr}{x:Str×Pos}:nameOf e=some x->e = .Name x.1 x.2:=by
 cases e with
 |Name _ _=>intro h;exact(Z9 h)▸rfl
 |_=>exact aQ
theorem oV{e:Expr}{es:List Expr}:ti e=some es->∃ k p,e = .Tuple es k p:=by
 cases e with
 |Tuple _ _ _=>intro h;exact(Z9 h)▸(uS _ _ rfl)
 |_=>exact aQ
theorem n9{es:List Expr}{e:Expr×Expr}(h:pairOf es=some e):es=[e.1,e.2]:=
 match es,h with
 |[_,_],h=>(Z9 h)▸rfl
set_option backward.match.sparseCases true in
theorem Ib{z:Expr}(hz:notStar z=true):(match (generalizing:=false) z with | .Starred _ _=>true | _=>false)=false:=by cases z<;>first | rfl | exact Bool.noConfusion hz
theorem HZ{f:Expr->Bool}{a b:Expr}(h:f a=false)(k:f b=false):[a,b].any f=false:=by
 show(f a||(f b||false))=false;rw[h,k];rfl
theorem IU{f:Expr->Option Str}{a b:Expr}(h:f a=some x)(k:f b=some y):[a,b].filterMap f=[x,y]:=(Xf h).trans (ZV _ (Xf k))
theorem IF(q:(x==y)=false):([x,y]:List Str).eraseDups.length=2:=by
 haveI:(y==x)=false:=by
  refine lQ ((y==x)) (fun g=>?_) fun g=>?_
  ·rfl
  ·rw[Y9.mp g,Y3] at q;contradiction
 simp[List.eraseDups_cons,this]
theorem IM{env:Env}(h:env.scope.kind = .function):(env.blockKind !=.function)=false:=by unfold Env.blockKind;rw[h];rfl
theorem C3{l:List Str}{i j:Nat}(h:eh x l=some i)(k:eh y l=some j):[i,j].map (l[·]?)=[x,y].map some:=by
 show[l[i]?,l[j]?]=_;rw[dR h,dR k];rfl
theorem ED{A Uy:Sem (Option (List Str))}{c1 c2 c4 c5:Bool}{l:List Str}(h1:c1=false)(h2:c2=false)(hl:l=[x,y])(hd:([x,y]:List Str).eraseDups.length=2)(h4:c4=false)(h5:c5=false) :
  (if c1=true then A else if c2=true then A else if(l.length !=2||l.eraseDups.length !=l.length)=true then A else if c4=true then A else if c5=true then Uy else pure (some l))=pure (some [x,y]):=by
 subst h1 h2 hl h4 h5;rw[hd];rfl
set_option tactic.hygienic true in
theorem vO{D:Wd}{n:Nat}{Y:Gm}{cx:Cx}(K:Bk D n Y 0 cx){ts:List Expr}{v:Expr}{is:List Nat}{l:Nat}(h:pd cx ts v=some is) :
  ∃ ns,iD Y is ns/\swapsWithSole ts v l Y.env=pure false/\swappedStores ts v Y.env=pure (some ns):=by
 unfold pd at h
 refine aF (Zd.mp h) fun t h1 g1=>?_
 refine aF (Zd.mp g1) fun es h2 g2=>?_
 refine aF (Zd.mp g2) fun e h3 g3=>?_
 refine aF (Zd.mp g3) fun qz3 h4 g4=>?_;obtain⟨x,px⟩:=qz3
 refine aF (Zd.mp g4) fun qz5 h5 g5=>?_;obtain⟨y,py⟩:=qz5
 refine aF (Zd.mp g5) fun vs h6 g6=>?_
 refine aF (Zd.mp g6) fun qz0 h7 g7=>?_;obtain⟨a,b⟩:=qz0
 clear g1 g2 g3 g4 g5 g6 h
 refine nz (oV h2) fun k p qz2=>?_;clear h2;subst qz2
 refine nz (oV h6) fun k' p' qz4=>?_;clear h6;subst qz4
 haveI e1:=gV h1
 haveI e3:=n9 h3
 haveI e7:=n9 h7
 rw[oU h4,oU h5] at e3
 clear h1;subst e1 e3 e7
 unfold nP at g7
 dsimp only at g7
 split at g7
 ·rename_i q
  simp only[ZJ,YM,Y9] at q
  refine bU q fun qz6 q8=>?_;clear q;obtain⟨⟨⟨⟨⟨⟨q1,q2⟩,q3⟩,q4⟩,q5⟩,q6⟩,q7⟩:=qz6
  refine aF (Zd.mp g7) fun i hi g8=>?_
  refine aF (ZU.mp g8) fun j hj qz1=>?_;clear g7;clear g8;refine qz1▸?_
  have loc:∀ z,cx.ns.lookup z=some .local->Y.env.kindOf z=some .local:=fun z hz=>by
   rcases K.kind z _ hz with g | ⟨g,_⟩
   ·exact g
   ·exact PySem.NameKind.noConfusion g
  have hx:=loc x q3
  have hy:=loc y q4
  haveI k1:(Y.env.kindOf x==some .local&&px.line==px.line)=true:=by rw[hx,Y3,Y3];rfl
  haveI k2:(Y.env.kindOf y==some .local&&py.line==px.line)=true:=by rw[hy,q2,Y3,Y3];rfl
  refine iF [x,y] (by unfold iD;exact K.nm▸(C3 hi hj)) rfl (ED (IM K.blok.kind) (HZ (Ib q5) (Ib q6)) (IU (if_pos k1) (if_pos k2)) (IF q1) q7 q8)
 ·contradiction
end
section
variable {D:Wd}{Y:Gm}{ρ:List Addr}{J:aq}{Z:List V}
theorem iU:(toString (0:Int):String) = "0":=rfl
theorem aw.fst{value:Expr}{p q:Str}{a b:Nat}{pp pq pv pos:Pos}{x:M V}(h:aw D Y (eval value Y.env) (VR D) x) :
  aw D Y (eval (.JoinedStr [.Constant (.str p) a pp,.FormattedValue value 114 none pv,.Constant (.str q) b pq] pos) Y.env) (VR D) (xn p q x):=fun ρ J Z=>by
 skip
 refine W.ite (fun hc=>W.of fun s S hb=>?_) fun zz=>W.bad
 replace hc:=ZR.mp hc
 have hp:=cU hc.1
 haveI hq:=cU hc.2
 generalize hr:(M.bind x fun a=>az (intOf a) fun i=>if i==0 then M.ret (V.str (Str.empty++p++Str.ofString "0"++q)) else M.bad) J Z=r at hb ⊢
 haveI e0:Str.empty.length=0:=rfl
 haveI e1:(Str.ofString "0").length=1:=by decide +kernel
 refine wpAny_JoinedStr ?_
 skip
 refine wpAny_Constant_str (rm _ _ rfl (by rw[Xe,XS];exact om [_,_] [(.s (.v 0),.n 1000),(.v 1,.n 0)] (.a (.v 1) (.v 0),.n 16777216) rfl (ZC hc.1) (eE e0)) ?_)
 skip
 refine wpAny_FormattedValue_repr ((h ρ J Z).step (S.toks _) hr hb (fun ρ1 v J1 Z1 y s1 hv S1 h1=>?_) fun v s' z=>z)
 dsimp only[az] at h1
 refine bI (intOf v) (fun e=>?_) fun i e=>?_
 ·rw[e] at h1;exact absurd h1.symm hb
 ·replace h1:=e▸h1
  refine df (hv.int e) fun t qz1=>?_;clear hv;rw[qz1]
  dsimp only at h1
  by_cases c:(i==0)=true
  ·replace h1:=(if_pos c)▸h1
   haveI c:=Y9.mp c
   clear e;subst c h1
   have l3:(Str.empty++p++Str.ofString (toString (0:Int))).length<=sizeLine:=by
    rw[iU,Xe,Xe,e1,XS];exact om [_,_] [(.s (.v 0),.n 1000),(.v 1,.n 0)] (.s (.a (.v 1) (.v 0)),.n 16777216) rfl (ZC hc.1) (eE e0)
   have l4:(Str.empty++p++Str.ofString (toString (0:Int))++q).length<=sizeLine:=by
    rw[iU,Xe,Xe,Xe,e1,XS];exact om [_,_,_] [(.s (.v 0),.n 1000),(.s (.v 1),.n 1000),(.v 2,.n 0)] (.a (.s (.a (.v 2) (.v 0))) (.v 1),.n 16777216) rfl (ZC hc.1) (ZC hc.2) (eE e0)
   have tail:∀ tk,Joins (model D.prog D.w) Y.A (ER D Y ρ (M.ret (V.str (Str.empty++p++Str.ofString "0"++q)) J1 Z1)) [eval (.Constant (.str q) b pq) Y.env] (Str.empty++p++Str.ofString (toString (0:Int)))
     (fun out s₁=>out.length<=sizeLine/\QR D Y ρ (VR D) (M.ret (V.str (Str.empty++p++Str.ofString "0"++q)) J1 Z1) (.str out s₁.toks) {s₁ with toks:=s₁.toks+1}) {s1 with toks:=tk}:=fun tk=>by
    skip
    refine wpAny_Constant_str (rm _ _ rfl l4 ?_)
    dsimp only[Joins]
    exact⟨l4,ρ1,⟨_,rfl⟩,S1.toks _⟩
   refine pyReprObj_int (by decide) (wpAny_formatField_str (rm _ _ rfl ?_ ?_) (rm _ _ rfl ?_ ?_) ?_)
   ·exact l3
   ·exact tail _
   ·exact l3
   ·exact tail _
   ·dsimp only[iU,e1,sizeLine_eq];exact Nat.succ_pos _
  ·rw[if_neg c] at h1;exact absurd h1.symm hb
end
theorem uB{prog:Program}{w:World}{A:Around}{E:Value->Shared->Prop}{s:Shared}{a:Addr}{T:String}{items:Array Value}{n:Nat}{Q:List Value->Shared->Prop}(hT:T = "list"∨T = "tuple")(ho:s.heap.get? a=some (seqObj T items n))(hz:items.size<=sizeLine)(h:∀ h',(∀ b o,s.heap.get? b=some o->h'.get? b=some o)->Q items.toList {s with heap:=h'}):StarOf (model prog w) A E (.ref a) Q s:=by
 haveI hT':s.TypeIs (.ref a) T:=(aY _ ho rfl)
 haveI z:wpAny (model prog w) A (collect (.ref a)) Q E s:=wpAny_collect_seq a hT ho rfl rfl h hz
 skip
 rcases hT with rfl | rfl
 ·exact Z8 (wpAny_specialOf hT' PySem.F.slot_list_iter.lookup (ZW ⟨rfl,z⟩))
 ·exact Z8 (wpAny_specialOf hT' PySem.F.slot_tuple_iter.lookup (ZW ⟨rfl,z⟩))
section
variable {D:Wd}{Y:Gm}{ρ:List Addr}{J:aq}{Z:List V}{s:Shared}
theorem oi{v:V}{x:Value}{γ:Type}{k:List V->M γ}{r:Rs γ}{E:Value->Shared->Prop}{Q:List Value->Shared->Prop}(S:St D Y ρ J Z s)(hv:VR D ρ v x)(hr:M.bind (uT true v) k J Z=r)(hb:r≠.bad)(h:∀ us ys h',bB D ρ us ys->(∀ b o,s.heap.get? b=some o->h'.get? b=some o)->k us J Z=r->Q ys {s with heap:=h'}):StarOf (model D.prog D.w) Y.A E x Q s:=by
 dsimp only[M.bind,uT,az] at hr
 refine bI (refOf v) (fun e=>?_) fun j e=>?_
 ·rw[e] at hr;exact absurd hr.symm hb
 ·replace hr:=e▸hr
  refine aF (hv.ref e) fun a hj qz1=>?_;clear hv;refine qz1▸?_
  dsimp only[M.bind,M.obj] at hr
  refine bI (J.t.get j) (fun e1=>?_) fun o e1=>?_
  ·rw[e1] at hr;exact absurd hr.symm hb
  ·replace hr:=e1▸hr
   dsimp only at hr
   refine bI (dy o) (fun e2=>?_) fun p e2=>?_
   ·rw[e2] at hr;exact absurd hr.symm hb
   ·rw[e2] at hr
    obtain⟨b,us⟩:=p
    cases b with
    |true=>
     cases eJ e2
     obtain⟨items,c,l1,r1,hz,z1⟩:=S.list e1 hj
     exact uB (.inl rfl) l1 (by rw[z1];rw[XS];omega) fun h' hk=>h us _ h' r1 hk hr
    |false=>
     cases fR e2
     obtain⟨items,c,l1,r1,hz,z1⟩:=S.tup e1 hj
     exact uB (.inr rfl) l1 (by rw[z1];rw[XS];omega) fun h' hk=>h us _ h' r1 hk hr
end
theorem sg{c:Expr->M V}{e:Expr}:notStar e=true->dh c e=(false,c e):=by
 cases e<;>first | exact fun zz=>rfl | exact eY
section
variable {D:Wd}{Y:Gm}
theorem aw.fD{c:Expr->M V}(h:∀ e,aw D Y (eval e Y.env) (VR D) (c e)){p:Pos}:∀ {es:List Expr},aw D Y (spliced (backTo p (starEach es Y.env))) (bB D) (fD (es.map (dh c)))
 |[]=>aw.nil
 |e::r=>fun ρ J Z=>W.of fun s S hb=>by
  by_cases hs:notStar e=true
  ·have e1:Mine.fD ((e::r).map (dh c))=M.bind (c e) fun v=>M.bind (Mine.fD (r.map (dh c))) fun vs=>M.ret (v::vs):=by
    rw[Zi,sg hs]
    show M.bind (c e) (fun v=>M.bind (uT false v) fun us=>M.bind (Mine.fD (r.map (dh c))) fun vs=>M.ret (us++vs))=_
    rfl
   rw[e1] at hb ⊢
   exact(aw.cons (h e) (aw.fD h (es:=r)) (bV hs) ρ J Z).to S hb
  ·cases e with
   |Starred v q=>
    generalize hr:Mine.fD ((Expr.Starred v q::r).map (dh c)) J Z=z at hb ⊢
    have hr:M.bind (c v) (fun v=>M.bind (uT true v) fun us=>M.bind (Mine.fD (r.map (dh c))) fun vs=>M.ret (us++vs)) J Z=z:=hr
    refine items_star ((h v ρ J Z).step S hr hb (fun ρ1 a J1 Z1 y s1 hv S1 h1=>oi S1 hv h1 hb fun us ys h' hu hk h2=>?_) fun zz zz z=>z)
    refine(aw.fD h (es:=r) (ρ++ρ1) J1 Z1).step (S1.ext hk) h2 hb (fun ρ2 vs J2 Z2 ws s2 hw S2 h3=>?_) fun zz zz z=>?_
    ·rw[<-h3]
     exact⟨ρ1++ρ2,by rw[<-ZZ];exact hu.mono.append hw,by rw[<-ZZ];exact S2⟩
    ·exact z.wide
   |_=>exact absurd rfl hs
end
section
variable {D:Wd}{Y:Gm}{ρ:List Addr}{J:aq}{Z:List V}{s:Shared}
theorem QR.un{α β:Type}{P:List Addr->β->α->Prop}{r:Rs β}{a:α}{q:Addr}{mo:Obj}(hk:Y.kp q=none)(h:QR D (Y.cT (cZ Y.kp q mo) Y.fz) ρ P r a s):QR D Y ρ P r a s:=by
 cases r with
 |ok b J' Z'=>obtain⟨ρ',h1,S⟩:=h;exact⟨ρ',h1,S.drop (a8 hk) fun zz zz h=>h⟩
 |exc _ _ _ _=>exact h.elim
 |bad=>exact h.elim
theorem ER.un{β:Type}{r:Rs β}{e:Value}{q:Addr}{mo:Obj}(hk:Y.kp q=none)(h:ER D (Y.cT (cZ Y.kp q mo) Y.fz) ρ r e s):ER D Y ρ r e s:=by
 cases r with
 |ok _ _ _=>exact h.elim
 |bad=>exact h.elim
 |exc c a J' Z'=>obtain⟨ρ',⟨x,T,he,X⟩,S⟩:=h;exact⟨ρ',⟨x,T,he,X.drop (a8 hk)⟩,S.drop (a8 hk) fun zz zz h=>h⟩
theorem aw.EF{c:Expr->M V}(h:∀ e,aw D Y (eval e Y.env) (VR D) (c e)){f:Value}{pos:Pos}{es:List Expr}(hf:qR es=true) :
  aw D Y (evalArgs f true (backTo pos (starEach es Y.env)) []) (mL D) (Mine.fD (es.map (dh c))):=fun ρ J Z=>W.of fun s S hb=>by
 haveI plain:∀ e r,es=e::r->notStar e=true->wpAny (model D.prog D.w) Y.A (evalArgs f true (backTo pos (starEach es Y.env)) []) (QR D Y ρ (mL D) (Mine.fD (es.map (dh c)) J Z)) (ER D Y ρ (Mine.fD (es.map (dh c)) J Z)) s:=fun e r he hn=>by
  haveI hw:=(aw.fD h (p:=pos) ρ J Z).to S hb
  subst he
  rw[bV hn] at hw ⊢
  refine Calls.evalArgs_plain (ZO hw (fun vs s' q=>?_) fun zz zz q=>q)
  generalize Mine.fD ((e::r).map (dh c)) J Z=z at q ⊢
  cases z with
  |ok b J' Z'=>obtain⟨ρ',h1,h2⟩:=q;exact⟨ρ',(aY vs rfl h1),h2⟩
  |exc _ _ _ _=>exact q.elim
  |bad=>exact q.elim
 match es,hf,hb,plain with
 |[e],_,hb,plain=>
  by_cases hn:notStar e=true
  ·exact plain e [] rfl hn
  ·clear plain;cases e with
   |Starred v q=>
    generalize hr:Mine.fD ([Expr.Starred v q].map (dh c)) J Z=z at hb ⊢
    haveI hr:M.bind (c v) (fun v=>M.bind (uT true v) fun us=>M.bind (M.ret []) fun vs=>M.ret (us++vs)) J Z=z:=hr
    refine ks_lone ((h v ρ J Z).step S hr hb (fun ρ1 a J1 Z1 y s1 hv S1 h1=>oi S1 hv h1 hb fun us ys h' hu hk h2=>?_) fun zz zz z=>z)
    haveI h2:M.ret (us++[]) J1 Z1=z:=h2
    rw[<-h2,ZT]
    exact⟨ρ1,(aY ys rfl hu),S1.ext hk⟩
   |_=>exact absurd rfl hn
 |e::e2::r,hf,hb,plain=>exact plain e _ rfl hf
theorem aw.Hd{n:Nat}{a:Addr}{oa:Obj}{fd:FuncData}{m:List V->M V}{o:Expr}{name:Str}{apos pos:Pos}{args:List Expr}{x:M V}{y:M (List V)}(B:aV D Y)(C:jf D)(R:tn Y)(L:Lv Y n)(hbase:attributeBase o name Y.env (eval o Y.env)=eval o Y.env)(hst:(backTo pos (starEach args Y.env)).any (·.1)=true)(hcop:copiedNames.contains name=false)(hf:findIn D.K (.ref D.jx) name=some (some (.ref a)))(ht:typeIn D.K (.ref a)=some (.type "function"))(hnf:name∉dw)(hoa:D.K.lookup a=some oa)(hda:oa.data = .func fd)(hF:gz D n (.ref a) m)(ho:aw D Y (eval o Y.env) (VR D) x)(ha:∀ f Y',Y.Le Y'->aw D Y' (evalArgs f true (backTo pos (starEach args Y.env)) []) (mL D) y) :
  aw D Y (eval (.Call (.Attribute o name apos) args [] pos) Y.env) (VR D) (.bind x fun a=>az (refOf a) fun k=>.bind (.obj k) fun q=>az (lz q) fun d=>.bind (.obj d) fun w=>az (vG w) fun zz=>.bind y fun vs=>m (.ref k::vs)):=fun ρ J Z=>by
 rw[arm_eval_Call,hbase]
 refine(ho ρ J Z).bind fun ρ1 v J1 Z1 xa zz hv=>W.bj (W.az fun k hk=>?_)
 refine aF (hv.ref hk) fun ak hk qz1=>?_;clear hv;refine qz1▸?_
 refine W.obj fun q hq=>W.az fun d hd=>W.obj fun w hw=>W.az fun vs0 hvs=>W.of fun s S hb=>?_
 obtain rfl:=ju hd
 obtain rfl:=lL hvs
 generalize hr:M.bind y (fun vs=>m (.ref k::vs)) J1 Z1=r at hb ⊢
 obtain⟨dd,es,n',h3,h2',⟨g1,g2,g3,g4⟩,I⟩:=S.uI hq hw hk
 haveI EK:methodCallForm (args.length+([]:List Keyword).length) (backTo pos (starEach args Y.env)) (backToKw pos (keywordEach [] Y.env))=false:=by
  unfold methodCallForm
  haveI:(backTo pos (starEach args Y.env)).all (!·.1)=false:=by
   refine(List.all_eq_not_any_not).trans ?_
   simp only[Bool.not_not,hst];rfl
  rw[this];rfl
 haveI X:=B.eQ s.heap S.keep
 have sp:∀ nm,specialIn D.K (.ref a) nm=findIn D.K (.type "function") nm:=fun nm=>by unfold specialIn;refine ht▸?_;rfl
 haveI hget:specialIn D.K (.ref a) "__get__" = some (some (.builtin "function.__get__")):=by rw[sp];kernel_rfl
 haveI htk:takesIn D.K (.ref a)=some false:=by unfold takesIn;rw[sp,sp];kernel_rfl
 unfold methodCall
 refine EK▸?_
 refine Z8 (Zw ?_)
 unfold calleeOf
 rw[if_neg (by decide)]
 refine Z8 (get_bind X I (W0 (C.rB name)).1 (findObj_fn C.nY hf hget htk hcop (by show lookIn name (dictOf es n')=_;dsimp only[lookIn_dict];exact g4 name hnf)) (W0 (C.rB name)).2
  (W7 (fn_get X ht (handed_on rfl (ZW ?_)))))
 haveI hpos:methodCallPos false o Y.env apos pos=Pure.pure pos:=rfl
 refine Z8 (XQ hpos ?_)
 haveI S2:St D Y (ρ++ρ1) J1 Z1 {s with toks:=s.toks+1,heap:=s.heap.push (methodObj (.ref a) (.ref ak))}:=(S.tH _).toks _
 haveI fk:=S.dM
 haveI S3:=S2.gu S.fresh (Zu _ rfl)
 haveI le:Y.Le (Y.cT (cZ Y.kp s.heap.objs.size (methodObj (.ref a) (.ref ak))) Y.fz):=Gm.Le.of (a8 fk)
 dsimp only[callWith]
 refine Z8 (Zw ((ha _ _ le (ρ++ρ1) J1 Z1).step S3 hr hb (fun ρ2 vs J2 Z2 ax s3 hx S4 h2=>Z8 (YR ?_)) fun v s' z=>z.un fk))
 refine aF hx fun xs qz3 hxs=>?_;clear hx;refine qz3▸?_
 haveI hq4:=S4.keep s.heap.objs.size _ aP
 haveI X4:=(B.le le).eQ s3.heap S4.keep
 haveI tail:∀ {Q:Value->Shared->Prop} {E:Value->Shared->Prop} {t:Sem Value},wpAny (model D.prog D.w) Y.A t Q E s3->wpAny (model D.prog D.w) Y.A (t>>=fun r=>PySem.holding [r] PySem.point>>=fun zz=>Pure.pure r) Q E s3:=
  fun ht=>Z8 (ZO ht (fun r s₂ hr=>Z8 (Zw (WI (ZW hr)))) fun zz zz x=>x)
 refine Z8 ?_
 dsimp only[keeperOf]
 refine Z8 (XE hq4 ?_)
 dsimp only
 rw[if_neg (by decide +kernel)]
 refine Z8 (XE (X4 _ _ hoa) ?_)
 refine hda▸?_
 refine ZW ?_
 rw[hst]
 refine tail (wpAny_operating (W7 (method_call hq4 ?_)))
 haveI hb2:m (.ref k::vs) J2 Z2≠.bad:=by rw[h2];exact hb
 haveI hc:=hF _ _ (B.le le) (R.le le) (L.le le).at' (ρ++ρ1++ρ2) J2 Z2 (.ref k::vs) (.ref ak::xs) s3 S4 ⟨(aY ak (get_append hk) rfl),hxs⟩ hb2
 refine WC hc fun q s' z=>?_
 replace z:=h2▸z
 rcases q with e | (_ | _ | _ | v)<;>first | exact z.elim | exact z.wide.un fk
end
section
variable {C:Addr}{n:Nat}
theorem Dl:isSubtype (.type (aT n)) (.ref C)=pure false:=by
 unfold aT
 split<;>(rw[Xo];kernel_rfl)
section
variable {D:Wd}{A:Around}{E:Value->Shared->Prop}{s:Shared}
theorem jG{e:Addr}{Q:Bool->Shared->Prop}(X:D.K.In s.heap)(H:pj D C)(hX:s.TypeIs (.ref e) (aT n))(h:Q false s):wpAny (model D.prog D.w) A (excMatches (.ref e) (.ref C)) Q E s:=by
 refine qf H.obj fun o cd ho hd=>?_
 obtain⟨hh,g,d,t,os⟩:=s
 dsimp only[excMatches]
 refine Z8 ((looks_instIn X H.tup).at ?_)
 rw[if_neg (by decide)]
 refine Z8 (ZW ?_)
 haveI hty:wpAny (model D.prog D.w) A (isExcClass (.ref C)) (fun b s'=>b=true/\s'=⟨hh,g,d,t,os⟩) E ⟨hh,g,d,t,os⟩:=by
  skip
  refine Z8 (Z8 (wpAny_loadPart (X _ _ ho) ?_))
  refine hd▸?_
  refine ZW ?_
  dsimp only[if_pos rfl]
  exact(looks_subIn X H.base).at ⟨rfl,rfl⟩
 refine Z8 ?_
 rw[Xw]
 refine Z8 (Z8 (ZO hty (fun b s' hb=>?_) fun zz zz x=>x))
 refine bU hb fun qz1 qz2=>?_;clear hb;subst qz1;subst qz2
 rw[if_neg (by decide)]
 refine Z8 (ZW (ZW ?_))
 dsimp only
 dsimp only[List.forIn_nil]
 refine ZW ?_
 refine Z8 (wpAny_typeOf hX ?_)
 refine Z8 ?_
 rw[Xw,Dl]
 refine Z8 (Z8 (ZW ?_))
 rw[if_neg (by decide)]
 refine ZW ?_
 dsimp only
 dsimp only[List.forIn_nil]
 exact ZW (ZW h)
theorem lB{env:Env}{e:Addr}{t:Expr}{name:Option Str}{body:List Stmt}{pos:Pos}{rest:List ExceptHandler}{Q:Flow->Shared->Prop}(H:pj D C)(h:wpAny (model D.prog D.w) (A.mark (some (.ref e))) (eval t env) (fun c s₁=>c = .ref C/\D.K.In s₁.heap/\s₁.TypeIs (.ref e) (aT n)/\wpAny (model D.prog D.w) A (handleBy (.ref e) env rest) Q E s₁) (notedBy (model D.prog D.w) (A.mark (some (.ref e))) env (cameBackBy (model D.prog D.w) A env E)) s) :
  wpAny (model D.prog D.w) A (handleBy (.ref e) env (.ExceptHandler (some t) name body pos::rest)) Q E s:=by
 refine wpAny_handleBy_cons (codeAny_handlers_test (ZO h (fun c s₁ h₁=>?_) fun zz zz x=>x)) (by intro q;exact PySem.Value.noConfusion q)
 refine D7 h₁ fun qz5 X hX hk=>?_;clear h₁;subst qz5
 exact jG X H hX hk
end
section
variable {D:Wd}{Y:Gm}
theorem aw.n6(B:aV D Y)(R:jY Y){body suite b2:List Stmt}{b₀:Stmt}{t2 t nme:Str}{nm2:Option Str}{tp tp2 hp hp2 p:Pos}{i:Nat}{x y:M Fl}(hk2:Y.env.kindOf t2=some .globalImplicit)(hv2:D.mg t2=some (.ref C))(hdb:(t2==("__debug__" : Str))=false)(H:pj D C)(ht:t=Str.ofString (aT 1))(hk:Y.env.kindOf t=some .globalImplicit)(hm:D.mg t=none)(hb:D.mb t=some (.type (aT 1)))(hi:Y.nm[i]? = some nme)(hx:aw D Y (execs body Y.env) (bX D) x)(hy:∀ e,aw D (Y.at (Y.A.mark (some (.ref e)))) (execs (b₀::suite) Y.env) (bX D) y) :
  aw D Y (exec (.Try body [.ExceptHandler (some (.Name t2 tp2)) nm2 b2 hp2,.ExceptHandler (some (.Name t tp)) (some nme) (b₀::suite) hp] [] [] p) Y.env) (bX D) (Mine.n6 i x y):=fun ρ J Z=>W.of fun s S hbad=>by
 refine wpAny_Try_except ?_
 generalize hr:Mine.n6 i x y J Z=r at hbad ⊢
 refine(hx ρ J Z).xB S hr hbad (fun g s1 h=>?_) fun c a J1 Z1 ρ1 e s1 hcn hr2 S1 X=>?_
 ·cases g with
  |next=>exact ZW h
  |_=>exact h
 ·refine S1.note B R rfl X fun s2 S2 X2=>S2.fA X2 fun s3 S3 X3=>?_
  refine aF (X3.kind hcn) fun xa qz0 hX=>?_;clear X2;clear X;subst qz0
  exact lB H (YT B.kind hk2 (Calls.loadGlobal_global (B.glob s3.heap S3.keep).1 hv2 (CB rfl (B.eQ s3.heap S3.keep) hX (Cu B ht hk hm hb hi hy S3 X3 hcn hr2 hbad))) hdb)
end
end
section
variable {α β:Type}{cx:Cx}{x elt:Expr}{c:Expr->M V}{Y:Gm}{P:List Addr->β->α->Prop}{as:List Expr}{hd:Nat}{p pos:Pos}{t:Sem α}{y:Str}
section
variable {D:Wd}{T:Tab}{F:eP}{n:Nat}
noncomputable def et(D:Wd)(Y:Gm)(x:Expr)(p:M V×M Bool):Prop:=aw D Y (eval x Y.env) (VR D) p.1/\aw D Y (isTrue x Y.env (eval x Y.env)) jX p.2
theorem aw.eC:aw D Y t P (M.bad):=fun zz zz zz=>W.bad
theorem aw.az{γ:Type}{o:Option γ}{f:γ->M β}(h:∀ a,o=some a->aw D Y t P (f a)):aw D Y t P (az o f):=by
 cases o with
 |none=>exact aw.eC
 |some a=>exact h a rfl
theorem et.of{m:M V}(B:aV D Y)(h:aw D Y (eval x Y.env) (VR D) m)(ht:isTrue x Y.env (eval x Y.env)=(do let v <-eval x Y.env;standAt x.pos;holding [v] (truthy v))):et D Y x (both m):=
 ⟨h,aw.HY B h ht⟩
theorem et.bad:et D Y x gD:=⟨aw.eC,fun zz zz zz=>W.bad⟩
theorem aw.only{m:M β}(h:hd=0->aw D Y t P m):aw D Y t P (fE hd m):=by
 cases hd with
 |zero=>exact h rfl
 |succ hd=>exact aw.eC
theorem aw.if{c:Bool}{m:M β}(h:c=true->aw D Y t P m):aw D Y t P (if c=true then m else M.bad):=by
 cases c with
 |true=>exact h rfl
 |false=>exact aw.eC
theorem et.if{c:Bool}{p:M V×M Bool}(h:c=true->et D Y x p):et D Y x (if c=true then p else gD):=by
 cases c with
 |true=>exact h rfl
 |false=>exact et.bad
theorem et.IK{c:Bool}{p:M V×M Bool}(h:c=false->et D Y x p):et D Y x (if c=true then gD else p):=by
 cases c with
 |true=>exact et.bad
 |false=>exact h rfl
theorem aw.row(h:∀ e,aw D Y (eval e Y.env) (VR D) (c e)):∀ {es:List Expr},cp es=true->aw D Y (spliced (backTo p (starEach es Y.env))) (bB D) (cR (es.map c))
 |[],_=>aw.nil
 |e::r,q=>by
  simp only[cp,ZJ] at q
  exact aw.cons (h e) (aw.row h q.2) (bV q.1)
theorem aw.Dt{c:Expr->M Bool}(h:∀ e,aw D Y (isTrue e Y.env (eval e Y.env)) jX (c e)):∀ {es:List Expr},aw D Y (ew es true Y.env) jX (allM (es.map c))
 |[]=>aw.zZ
 |e::r=>aw.yP (h e) (aw.Dt h)
theorem aw.AA{c:Expr->M Bool}{op:BoolOp}(h:∀ e,aw D Y (isTrue e Y.env (eval e Y.env)) jX (c e)):∀ {es:List Expr},aw D Y (allTrue op es Y.env) jX (Mine.eI op (es.map c))
 |[]=>aw.Dx
 |e::r=>by
  haveI:=aw.AR (op:=op) (h e) (aw.AA h (es:=r))
  refine(ZV _ ?_).mp this
  congr 1
  funext c
  clear this;cases op<;>cases c<;>rfl
theorem aw.Gk(B:aV D Y){op:BoolOp}(h:∀ e,aw D Y (eval e Y.env) (VR D) (c e)):∀ {es:List Expr},aw D Y (boolOp p op (evalEach es Y.env)) (VR D) (Aa op (es.map c))
 |[]=>aw.eC
 |[e]=>aw.HO (h e)
 |e::e2::r=>aw.AJ B (h e) (aw.Gk B h)
theorem aw.opt(h:∀ e,aw D Y (eval e Y.env) (VR D) (c e)):∀ {o:Option Expr},aw D Y (valueOrNone (evalOpt o Y.env)) (DS D) (Ar (o.map c))
 |none=>aw.Fs
 |some e=>aw.FT (h e)
theorem lO{ρ:List Addr}{J:aq}{Z:List V}{t:Tg}{target:Expr}{ifs:List Expr}{inner:Sem Unit}{v:V}{y:Value}{tests:M Bool}{g:M Unit}(B:aV D Y)(hh:Md Y hd)(ht:uW Y t target)(hi:aw D Y (ew ifs true Y.env) jX tests)(hv:VR D ρ v y)(hg:∀ ρ' J Z,W D Y (ρ++ρ') J Z inner Un (g J Z)):W D Y ρ J Z (stepT target ifs inner Y.env y) Un (M.bind (aA hd t v) (fun zz=>M.bind tests fun c=>match c with
   |false=>.ret ()
   |true=>g) J Z):=by
 skip
 refine(W.asg B hh ht hv).bind fun ρ1 zz J1 Z1 zz zz zz=>(hi _ _ _).bind fun ρ2 b J2 Z2 d zz hb=>?_
 cases(hb)
 cases b with
 |false=>rw[if_neg (by decide)];exact W.pure trivial
 |true=>rw[if_pos rfl,ZZ];exact hg _ _ _
theorem Cc{o:Expr}{name:Str}{ap:Pos}(h1:sN o=true)(h2:(ap.endLine==p.line)=true)(h3:as.length<30)(h4:cp as=true):yw Y o name ap p as where
 base:=jV h1
 EK:=by
  unfold methodCallForm
  rw[k9 h4]
  haveI:(as.length+([]:List Keyword).length+(if(backToKw p (keywordEach [] Y.env)).isEmpty then 0 else 1)<30):=by
   show as.length+0+0<30
   omega
  refine(ZA this).trans ?_
  rfl
 line:=h2
 star:=ei h4
section
variable {Y:Gm}{hd:Nat}{cx:Cx}
theorem CA(hT:Tp D T)(K:Bk D n Y hd cx):aw D Y (eval (.Name y p) Y.env) (VR D) (yY T cx y):=by
 unfold yY
 refine bI (eh y cx.nm) (fun q=>?_) fun i q=>?_
 ·dsimp only
  refine bI (T.nums.lookup y) (fun q2=>?_) fun i q2=>?_
  ·exact aw.eC
  ·refine aw.if fun h=>?_
   refine bU (hT.nums y i q2) fun hdb qz1=>?_;obtain⟨t,ht⟩:=qz1
   exact aw.glob K.blok (K.glob h) ht hdb
 ·exact fun ρ J Z=>W.name K.blok (K.nm▸(dR q))
theorem CK(hT:Tp D T)(hO:ru D T F n)(K:Bk D n Y hd cx){py:Pos}(hs:cp as=true)(hc:∀ e,aw D Y (eval e Y.env) (VR D) (c e)) :
  aw D Y (eval (.Call (.Name y py) as [] p) Y.env) (VR D) (BN T F D.scr cx hd y (as.map c) as.length):=by
 refine aw.if fun hg=>aw.only fun e=>?_
 subst e
 haveI ha:=aw.row hc hs (p:=p)
 refine bI (T.fn.lookup y) (fun q1=>?_) fun f q1=>?_
 ·dsimp only
  refine bI (T.cls.lookup y) (fun q2=>?_) fun f q2=>?_
  ·dsimp only
   refine bI (z7 y as.length) (fun q3=>?_) fun b q3=>?_
   ·exact aw.eC
   ·haveI hb:=hT.bi b
    rw[<-tI q3] at hb
    exact aw.blt K.blok (K.lv rfl).handled (tI q3) (K.glob hg) hb.1 hb.2 (ei hs) ha
  ·obtain⟨hdb,a,o,fd,g1,g2,g3,g4,g5⟩:=hO.cls f y q2
   exact aw.cls K.blok K.dU (K.lv rfl) (K.glob hg) g1 hdb g2 g3 g4 g5 (ei hs) ha
 ·obtain⟨hdb,a,o,fd,g1,g2,g3,g4⟩:=hO.fn f y q1
  exact aw.fn K.blok K.dU (K.lv rfl) (K.glob hg) g1 hdb g2 g3 g4 fun ρ J Z=>W.args (ei hs) (ha ρ J Z)
theorem F9(hT:Tp D T)(K:Bk D n Y hd cx){py:Pos}{m:M V}(hc:∀ e,aw D Y (eval e Y.env) (VR D) (c e))(hm:aw D Y (eval (.Call (.Name y py) as [] p) Y.env) (VR D) m) :
  aw D Y (eval (.Call (.Name y py) as [] p) Y.env) (VR D) (Fm cx hd y as c m):=by
 match as with
 |[]=>exact hm
 |[_]=>exact hm
 |_::_::_::_=>exact hm
 |[a,z]=>
  show aw D Y _ (VR D) (match BH z with | some z=>_ | none=>_)
  refine bI (BH z) (fun q=>?_) fun z q=>?_
  ·exact hm
  ·dsimp only
   refine df (oW q) fun pz q=>?_
   subst q
   by_cases h:(y==("isinstance" : Str)&&z==("tuple" : Str)&&cx.glob y&&cx.glob z&&notStar a)=true
   ·rw[if_pos h]
    refine aw.only fun e=>?_
    subst e
    simp only[ZJ,Y9] at h
    obtain⟨⟨⟨⟨rfl,rfl⟩,h2⟩,h3⟩,h4⟩:=h
    exact aw.Ep K.blok (K.glob h2) hT.Ep.1 hT.Ep.2 (K.glob h3) hT.tup.1 hT.tup.2 (by refine(bV h4).trans ?_;rfl) (hc a)
   ·rw[if_neg h];exact hm
theorem oO{env:Env}:∀ {es:List Expr},cp es=false->(backTo p (starEach es env)).any (·.1)=true
 |[],h=>Bool.noConfusion h
 |e::r,h=>by
  by_cases hn:notStar e=true
  ·rw[bV hn]
   simp only[cp,hn,Bool.true_and] at h
   refine(oO h).trans ?_;rfl
  ·clear h;cases e with
   |Starred v q=>rfl
   |_=>exact absurd rfl hn
theorem C1(hT:Tp D T)(hO:ru D T F n)(K:Bk D n Y hd cx){o:Expr}{ap:Pos}(hc:∀ e,aw D Y (eval e Y.env) (VR D) (c e))(hc':∀ Y',Y.Le Y'->∀ e,aw D Y' (eval e Y'.env) (VR D) (c e)) :
  aw D Y (eval (.Call (.Attribute o y ap) as [] p) Y.env) (VR D) (w7 T F hd o y ap p as c):=by
 unfold w7
 by_cases h:(sN o&&(ap.endLine==p.line)&&decide (as.length<30)&&cp as)=true
 case neg=>
  rw[if_neg h]
  refine aw.if fun h=>?_
  simp only[ZJ,YM] at h
  refine bU h fun qz2 h5=>?_;clear h;obtain⟨⟨⟨h1,h2⟩,h3⟩,h4⟩:=qz2
  refine bI (T.own.lookup y) (fun q=>?_) fun f q=>?_
  ·exact aw.eC
  ·refine aw.only fun e=>?_
   subst e
   obtain⟨hnf,a,oo,fd,g1,g2,g3,g4,g5⟩:=hO.own f y q
   exact aw.Hd K.blok hT.cls K.dU (K.lv rfl) (jV h1) (oO h2) h5 g1 g2 hnf g3 g4 g5 (hc o) fun f' Y' hle=>by
    haveI:=aw.EF (hc' Y' hle) (f:=f') (pos:=p) h3
    refine g9 hle fun kp fz kg qz6 zz=>?_;clear hle;subst qz6
    exact this
 rw[if_pos h]
 simp only[ZJ,YH] at h
 refine bU h fun qz1 h4=>?_;clear h;obtain⟨⟨h1,h2⟩,h3⟩:=qz1
 haveI ha:=aw.row hc h4 (p:=p)
 cases sj o with
 |true=>
  dsimp only
  refine bI (T.own.lookup y) (fun q=>?_) fun f q=>?_
  ·exact aw.eC
  ·refine aw.only fun e=>?_
   subst e
   obtain⟨hnf,a,oo,fd,g1,g2,g3,g4,g5⟩:=hO.own f y q
   exact aw.own K.blok hT.cls K.dU (K.lv rfl) (Cc h1 h2 h3 h4) g1 g2 hnf g3 g4 g5 (hc o) ha
 |false=>
  dsimp only
  refine bI (y8.lookup y) (fun q=>?_) fun m q=>?_
  ·exact aw.eC
  ·exact aw.met K.blok (Cc h1 h2 h3 h4) (zH _ (bC q)) K.md (hc o) ha
theorem DN(hT:Tp D T)(K:Bk D n Y hd cx){v:Expr}(hc:∀ e,aw D Y (eval e Y.env) (VR D) (c e)):aw D Y (eval (.Attribute v y p) Y.env) (VR D) (ye cx hd v y c):=by
 unfold ye
 by_cases q:(y==("args" : Str))=true
 ·rw[if_pos q]
  refine aw.if fun h=>?_
  exact(Y9.mp q)▸(aw.args (jV h) (hc v))
 ·rw[if_neg q]
  refine bI (mE.lookup y) (fun q2=>?_) fun f q2=>?_
  ·dsimp only
   refine bI (qm v) (fun q3=>?_) fun w q3=>?_
   ·exact aw.eC
   ·obtain⟨x,a⟩:=w
    refine nz (mC q3) fun px pc q4=>?_
    clear q3;refine q4▸?_
    refine aw.if fun h=>aw.only fun e=>?_
    subst e
    simp only[ZJ,Y9] at h
    obtain⟨⟨⟨rfl,rfl⟩,h2⟩,h3⟩:=h
    exact aw.Jn K.blok (K.glob h2) hT.iter.1 hT.iter.2 (jV rfl) (by rw[bV h3];rfl) (aw.cons (hc a) aw.nil (bV h3))
  ·exact aw.if fun h=>aw.Hi K.blok hT.cls (jV h) (ku _ (bC q2)) (hc v)
end
theorem Ih{c:Expr->M V×M Bool}(K:Bk D n Y 0 cx)(hc:∀ Y',Y.Le Y'->∀ e,et D Y' e (c e))(gens:List Comprehension)(scope:Scope)(pos:Pos):∀ {gs:List Comprehension} {Y':Gm},Y.Le Y'->∀ (d k:Nat) (a:Addr) (ρ:List Addr) (J:aq) (Z:List V),
  gens.drop (d+1)=gs->ρ[k]? = some a->W D Y' ρ J Z (dP elt gens scope pos d (.ref a) Y'.env) Un (vt c cx.nm elt gs k J Z)
 |[],Y',hle,d,k,a,ρ,J,Z,hg,hk=>by
  haveI:gens[d+1]? = none:=by
   rw[Xj]
   simpa using hg
  exact vj (K.le hle).blok this hk (hc Y' hle elt).1
 |⟨t',it',ifs',as⟩::gs,Y',hle,d,k,a,ρ,J,Z,hg,hk=>by
  dsimp only[vt]
  refine bI (lD cx.nm t') (fun q=>?_) fun tg q=>?_
  ·exact W.bad
  ·dsimp only
   by_cases h:(as==0&&gG it')=true
   ·rw[if_pos h,ZJ,Y9] at *
    refine bU h fun qz0 h2=>?_;clear h;subst qz0
    haveI hg1:gens[d+1]? = some ⟨t',it',ifs',0⟩:=by
     haveI:=ZV List.head? hg
     rwa [List.head?_drop] at this
    haveI hg2:gens.drop (d+1+1)=gs:=by
     haveI:=ZV List.tail hg
     rwa [List.tail_drop] at this
    haveI K0:=K.le hle
    refine sb K0.blok (K0.lv rfl).handled hg1 (hc Y' hle it').1 (ix h2) fun Y2 hle2 ρ' J Z v y hv=>?_
    have hl2:=hle.trans hle2
    haveI K':=K.le hl2
    haveI hs:=lO (g:=vt c cx.nm elt gs k) (ifs:=ifs') K'.blok K'.md (lT (K'.nm▸q)) (aw.Dt fun e=>(hc Y2 hl2 e).2) hv (J:=J) (Z:=Z) fun ρ2 J2 Z2=>Ih K hc gens scope pos hl2 _ _ _ _ _ _ hg2 (get_append (get_append hk))
    refine g9 hle2 fun kp fz kg qz2 zz=>?_;clear hle2;clear K';clear hl2;subst qz2
    exact hs
   ·rw[if_neg h];exact W.bad
theorem yj{c':Cx->Expr->M V×M Bool}(K:Bk D n Y 0 cx)(hc':∀ {Y':Gm} {cx':Cx},Bk D n Y' 0 cx'->∀ e,et D Y' e (c' cx' e)){t' it':Expr}{ifs':List Expr}{gs:List Comprehension}{scope:Scope}{b:dG}{tg:Tg}(C:mB Y scope b)(ht:lD (bA b) t'=some tg):∀ Yc,iw D Y scope b Yc->∀ ρ k a,ρ[k]? = some a->∀ ρ' J Z v y,VR D (ρ++ρ') v y->
   W D Yc (ρ++ρ') J Z (stepT t' ifs' (dP elt (⟨t',it',ifs',0⟩::gs) scope pos 0 (.ref a) Yc.env) Yc.env y) Un (iB 0 tg (ifs'.map fun x=>(c' ⟨scope.names,bA b⟩ x).2) (vt (c' ⟨scope.names,bA b⟩) (bA b) elt gs k) v J Z):=fun Yc hc ρ k a hk ρ' J Z v y hv=>by
 have Kc:=K.comp hc C.nodup
 refine lO Kc.blok Kc.md (lT (Kc.nm▸ht)) (aw.Dt fun e=>(hc' Kc e).2) hv fun ρ2 J2 Z2=>?_
 rw[ZZ]
 exact Ih Kc (fun Y' hle e=>hc' (Kc.le hle) e) _ _ _ (Gm.Le.refl _) 0 _ _ _ _ _ rfl (get_append hk)
theorem DA{c':Cx->Expr->M V×M Bool}(K:Bk D n Y hd cx)(hc:∀ e,aw D Y (eval e Y.env) (VR D) (c e))(hc':∀ {Y':Gm} {cx':Cx},Bk D n Y' 0 cx'->∀ e,et D Y' e (c' cx' e)){gs:List Comprehension}{scope:Scope} :
  aw D Y (eval (.ListComp elt gs scope pos) Y.env) (VR D) (Cb cx hd c c' elt gs scope):=by
 cases gs with
 |nil=>exact aw.eC
 |cons g gs=>
  obtain⟨t',it',ifs',as⟩:=g
  refine aw.if fun h=>?_
  rw[ZJ,ZJ,Y9] at h
  refine bU h fun qz4 h1=>?_;clear h;obtain⟨rfl,h2⟩:=qz4
  refine bI (lD _ t') (fun q=>?_) fun tg q=>?_
  ·exact aw.eC
  ·refine aw.only fun e=>?_
   subst e
   exact aw.comp K.blok (K.lv rfl).handled (qa K h1) (ix h2) (hc it') (yj K hc' (qa K h1) q)
theorem rI{e:Expr}{p:Str}:strOf e=some p->∃ a pp,e = .Constant (.str p) a pp:=by
 cases e with
 |Constant k a pp=>cases k<;>first | exact aQ | intro h;exact(Z9 h)▸(uS _ _ rfl)
 |_=>exact aQ
theorem xp{e v:Expr}:uJ e=some v->∃ pv,e = .FormattedValue v 114 none pv:=by
 cases e with
 |FormattedValue v cv sp pv=>
  intro h
  dsimp only[uJ] at h
  by_cases q:(cv==114&&sp.isNone)=true
  ·rw[if_pos q] at h
   rw[ZJ,Y9,Ze] at q
   rw[Z9 h,q.1,q.2]
   exact⟨pv,rfl⟩
  ·rw[if_neg q] at h;exact a9 h
 |_=>exact aQ
theorem Fh{D:Wd}(h:∀ e,aw D Y (eval e Y.env) (VR D) (c e)){vs:List Expr}:aw D Y (eval (.JoinedStr vs pos) Y.env) (VR D) (Dn c vs):=by
 match vs with
 |[a,b,d]=>
  dsimp only[Dn]
  refine bI (strOf a) (fun h1=>?_) fun p h1=>?_
  ·exact aw.eC
  ·refine bI (uJ b) (fun h2=>?_) fun v h2=>?_
   ·exact aw.eC
   ·refine bI (strOf d) (fun h3=>?_) fun q h3=>?_
    ·exact aw.eC
    ·refine nz (rI h1) fun zz zz qz3=>?_;clear h1;refine qz3▸?_
     refine df (xp h2) fun zz qz3=>?_;clear h2;refine qz3▸?_
     refine nz (rI h3) fun zz zz qz0=>?_;clear h3;subst qz0
     exact aw.fst (h v)
 |[]=>exact aw.eC
 |[_]=>exact aw.eC
 |[_,_]=>exact aw.eC
 |_::_::_::_::_=>exact aw.eC
theorem qz{D:Wd}{T:Tab}{F:eP}{n:Nat}(hT:Tp D T)(hO:ru D T F n):∀ (m:Nat) {Y:Gm} {hd:Nat} {cx:Cx},Bk D n Y hd cx->∀ x:Expr,et D Y x (cP T F D.scr m cx hd x)
 |0,_,_,_,_,_=>et.bad
 |m+1,Y,hd,cx,K,x=>by
  have ih:=fun e=>qz hT hO m K e
  have ihv:=fun e=>(ih e).1
  cases x with
  |Constant k _ _=>exact et.of K.blok (fun ρ J Z=>W.const) rfl
  |Name y p=>exact et.of K.blok (CA hT K) rfl
  |BinOp l op r p=>exact et.of K.blok (aw.bin (ihv l) (ihv r)) rfl
  |UnaryOp op a p=>
   cases op with
   |USub=>exact et.of K.blok (aw.neg (ihv a)) rfl
   |Not=>exact⟨aw.eC,aw.HH (ih a).2⟩
   |_=>exact et.bad
  |Compare l ops rs p=>
   match ops,rs with
   |[op],[r]=>exact et.IK fun h=>⟨aw.cmp K.blok (ihv l) (ihv r) h,aw.Bs K.blok (ihv l) (ihv r) h⟩
   |[],_=>exact et.bad
   |_::_::_,_=>exact et.bad
   |[_],[]=>exact et.bad
   |[_],_::_::_=>exact et.bad
  |BoolOp op es p=>exact⟨aw.JA (aw.Gk K.blok ihv),aw.eI (aw.AA fun e=>(ih e).2)⟩
  |List es p=>exact et.if fun h=>et.of K.blok (aw.list (aw.row ihv h)) rfl
  |Tuple es k p=>exact et.if fun h=>et.of K.blok (aw.tup (aw.row ihv h)) rfl
  |Dict ks vs p=>
   match ks,vs with
   |[],[]=>exact et.of K.blok aw.FY rfl
   |_::_,_=>exact et.bad
   |[],_::_=>exact et.bad
  |Subscript v i p=>
   by_cases q:∃ lo hi st ps,i = .Slice lo hi st ps
   ·refine Hk q fun lo hi st ps qz2=>?_;clear q;subst qz2
    cases st with
    |some _=>exact et.bad
    |none=>exact et.of K.blok (aw.Je (ihv v) (aw.opt ihv) (aw.opt ihv)) rfl
   ·haveI h:cP T F D.scr (m+1) cx hd (.Subscript v i p)=both (aD hd D.scr (cP T F D.scr m cx hd v).1 (cP T F D.scr m cx hd i).1):=by
     cases i<;>first | rfl | exact absurd (Ij _ _ _ _ rfl) q
    exact h▸(et.of K.blok (aw.Hj K.blok K.md (ihv v) (ihv i) fun l u qq e=>q (Ij _ _ _ _ e)) rfl)
  |Attribute v y p=>exact et.of K.blok (DN hT K ihv) rfl
  |Call g as kw p=>
   cases kw with
   |cons _ _=>exact et.bad
   |nil=>
    cases g with
    |Name y py=>exact et.of K.blok (F9 hT K ihv (aw.if fun h=>CK hT hO K h ihv)) rfl
    |Attribute o y ap=>exact et.of K.blok (C1 hT hO K ihv fun Y' hle e=>(qz hT hO m (K.le hle) e).1) rfl
    |Subscript v i q=>
     cases as with
     |nil=>exact et.of K.blok (aw.only fun e=>aw.app (K.lv e).handled rfl (ihv _)) rfl
     |cons _ _=>exact et.bad
    |_=>exact et.bad
  |JoinedStr vs p=>exact et.of K.blok (Fh ihv) rfl
  |ListComp elt gs scope p=>exact et.of K.blok (DA K ihv fun K' e=>qz hT hO m K' e) rfl
  |NamedExpr t v p=>
   cases t with
   |Name y py=>
    show et D Y _ (match eh y cx.nm with | some i=>_ | none=>_)
    refine bI (eh y cx.nm) (fun q=>?_) fun i q=>?_
    ·exact et.bad
    ·exact et.of K.blok (aw.I9 K.blok (K.nm▸(dR q)) (ihv v)) rfl
   |_=>exact et.bad
  |_=>exact et.bad
end
end
section
variable {env:Env}{v:Expr}{ts:List Expr}
noncomputable def jE(v:Expr):Bool:=match v with
 |.ListComp _ _ _ _=>false
 |.SetComp _ _ _ _=>false
 |.DictComp _ _ _ _ _=>false
 |_=>true
theorem l7{t:Option Expr}{l:Nat}:jE v=true->swapsWith v t l env=pure false:=by
 cases v<;>first | exact fun zz=>rfl | exact eY
theorem jw{l:Nat}(h:jE v=true):swapsWithSole ts v l env=pure false:=by
 match ts with
 |[]=>rfl
 |[t]=>exact l7 h
 |_::_::_=>rfl
set_option backward.match.sparseCases true in
noncomputable def Gw(ts:List Expr)(v:Expr):Option (List Expr×List Expr):=match ts,v with
 |[.Tuple ts _ _],.Tuple vs _ _ | [.List ts _],.Tuple vs _ _=>some (ts,vs)
 |_,_=>none
set_option backward.match.sparseCases true in
theorem oZ(h:(Gw ts v).isNone=true):swappedStores ts v env=pure none:=by
 haveI h:=Ze.mp h
 unfold swappedStores
 change (match Gw ts v with | some (ts,vs)=>_ | _=>pure none)=_
 rw[h]
noncomputable def Bo(cx:Cx)(ts:List Expr):Bool:=match ts with
 |[t]=>match t with
  |.Name y _=>(cx.ns.lookup y).isSome
  |_=>true
 |_=>true
noncomputable def EJ(v:Expr):Bool:=match v with
 |.ListComp _ _ _ _=>true
 |_=>false
theorem Bg:EJ v=true->∃ a b c d,v = .ListComp a b c d:=by
 cases v with
 |ListComp a b c d=>intro h;exact⟨a,b,c,d,rfl⟩
 |_=>exact eY
noncomputable def xt:List (Str×Nat):=[("IndexError",0),("ValueError",1),("StopIteration",2)]
theorem vp:∀ p∈xt,p.1=Str.ofString (aT p.2)/\p.2<3:=by decide +kernel
noncomputable def qb(it:Expr):Option Expr:=(qm it).bind fun p=>if p.1==eA then some p.2 else none
noncomputable def isName(t:Expr):Bool:=match t with
 |.Name _ _=>true
 |_=>false
noncomputable def I4(h:ExceptHandler):Option Expr:=match h with
 |⟨ty,_,_,_⟩=>ty
noncomputable def handOf(hs:List ExceptHandler):Option (Option Str×Str×Stmt×List Stmt):=(n7 hs).bind fun h=>match h with
 |⟨ty,nme,b,_⟩=>(ty.bind BH).bind fun t=>b.head?.map fun b₀=>(nme,t,b₀,b.tail)
theorem yk{o:Option Expr}{y:Str}(h:o.bind BH=some y):∃ p,o=some (.Name y p):=
 aF (bind_some h) fun zz h1 h2=>df (oW h2) fun p q=>⟨p,h1.trans (ZV some q)⟩
theorem Bx{α:Type}{l:List α}{a:α}(h:l.head? = some a):l=a::l.tail:=by
 cases l with
 |nil=>exact a9 h
 |cons b r=>exact Z9 h▸rfl
theorem ou{hs:List ExceptHandler}{q:Option Str×Str×Stmt×List Stmt}(h:handOf hs=some q):∃ tp hp,hs=[.ExceptHandler (some (.Name q.2.1 tp)) q.1 (q.2.2.1::q.2.2.2) hp]:=by
 refine aF (bind_some h) fun x h1 h=>?_
 obtain⟨ty,nme,b,p⟩:=x
 exact aF (bind_some h) fun t h2 h=>aF (ZU.mp h) fun b₀ h3 h4=>df (yk h2) fun tp h5=>h4▸uS tp p ((gV h1).trans (h5▸ZV (fun b=>[ExceptHandler.ExceptHandler (some (.Name t tp)) nme b p]) (Bx h3)))
noncomputable def wg(e c:Option Expr):Option (Str×Expr):=match c with
 |some _=>none
 |none=>e.bind qm
theorem vn{e c:Option Expr}{w:Str×Expr}(h:wg e c=some w):∃ px pc,c=none/\e=some (.Call (.Name w.1 px) [w.2] [] pc):=by
 cases c with
 |some _=>exact a9 h
 |none=>exact aF (bind_some h) fun x h1 h2=>nz (mC h2) fun px pc h3=>nB px pc rfl (h1.trans (ZV some h3))
noncomputable def Fw(t:Expr):Option (Expr×Expr):=match t with
 |.Subscript v i _=>some (v,i)
 |_=>none
theorem BI{t:Expr}{w:Expr×Expr}:Fw t=some w->∃ p,t = .Subscript w.1 w.2 p:=by
 cases t with
 |Subscript v i p=>exact fun h=>Z9 h▸⟨p,rfl⟩
 |_=>exact aQ
noncomputable def Ck(ts:List Expr):Option (Expr×Expr):=(n7 ts).bind Fw
theorem xq{w:Expr×Expr}(h:Ck ts=some w):∃ p,ts=[.Subscript w.1 w.2 p]:=
 aF (bind_some h) fun zz h1 h2=>df (BI h2) fun p h3=>⟨p,(gV h1).trans (ZV (fun x=>[x]) h3)⟩
section
variable (T:Tab)(F:eP)(scr:List Int)
noncomputable def cV(cx:Cx)(hd:Nat)(x:Expr):M V:=(cP T F scr 40 cx hd x).1
noncomputable def cB(cx:Cx)(hd:Nat)(x:Expr):M Bool:=(cP T F scr 40 cx hd x).2
noncomputable def Iu(cx:Cx)(hd:Nat)(e:Expr):Option (V->M Unit):=match e with
 |.Subscript o i _=>some (j4 (cV T F scr cx hd o) (cV T F scr cx hd i))
 |.Attribute o y _=>(mE.lookup y).map fun f=>mU (cV T F scr cx hd o) f
 |e=>(lD cx.nm e).map fun t=>aA hd t
noncomputable def z6(cx:Cx)(hd:Nat):List Expr->Option (List (V->M Unit))
 |[]=>some []
 |e::r=>(Iu T F scr cx hd e).bind fun a=>(z6 cx hd r).map fun as=>a::as
noncomputable def Ci(cx:Cx)(hd:Nat)(ts:List Expr)(v:Expr):M Fl:=az (z6 T F scr cx hd ts) fun as=>if(Gw ts v).isNone then(if jE v then aJ (cV T F scr cx hd v) as else if EJ v&&Bo cx ts then fE hd (aJ (cV T F scr cx hd v) as) else .bad) else .bad
noncomputable def Cz(cx:Cx)(hd:Nat)(ts:List Expr)(v:Expr):M Fl:=match pd cx ts v with
 |some is=>fE hd (jS is (cV T F scr cx hd v))
 |none=>Ci T F scr cx hd ts v
noncomputable def zv(cx:Cx)(hs:List ExceptHandler)(x:M Fl)(c:Stmt->M Fl):M Fl:=
 az (handOf hs) fun q=>az (xt.lookup q.2.1) fun n=>if q.1.isNone&&cx.glob q.2.1 then iV n x (au ((q.2.2.1::q.2.2.2).map c)) else .bad
noncomputable def yZ(cx:Cx)(h:ExceptHandler)(hs:List ExceptHandler)(x:M Fl)(c:Stmt->M Fl):M Fl:=
 az ((I4 h).bind BH) fun t2=>az (handOf hs) fun q=>az q.1 fun y=>az (eh y cx.nm) fun i=>if T.Dz.contains t2&&cx.glob t2&&q.2.1==("ValueError" : Str)&&cx.glob q.2.1 then n6 i x (au ((q.2.2.1::q.2.2.2).map c)) else .bad
noncomputable def zF(cx:Cx)(hs:List ExceptHandler)(x:M Fl)(c:Stmt->M Fl):M Fl:=match hs with
 |h::h2::r=>yZ T cx h (h2::r) x c
 |hs=>zv cx hs x c
noncomputable def zg(cx:Cx)(hd:Nat)(e:Option Expr)(c:Option Expr):M Fl:=
 az (wg e c) fun w=>if w.1==("ValueError" : Str)&&cx.glob w.1&&notStar w.2 then fE hd (eo (cV T F scr cx hd w.2)) else .bad
noncomputable def cS:Nat->Cx->Nat->Stmt->M Fl
 |0,_,_,_=>.bad
 |n+1,cx,hd,x=>match x with
  |.Assign ts v _=>Cz T F scr cx hd ts v
  |.AugAssign t op v _=>match t with
   |.Name y _=>az (eh y cx.nm) fun i=>dZ i op (cV T F scr cx hd v)
   |.Attribute o y _=>az (mE.lookup y) fun f=>qB (cV T F scr cx hd o) f op (cV T F scr cx hd v)
   |_=>.bad
  |.Expr v _=>if jE v then aZ (cV T F scr cx hd v) else .bad
  |.Return o _=>match o with
   |none=>.ret (.ret .none)
   |some e=>b9 (cV T F scr cx hd e)
  |.If t b o _=>br (cB T F scr cx hd t) (au (b.map (cS n cx hd))) (au (o.map (cS n cx hd)))
  |.While t b o _=>bM (cB T F scr cx hd t) (au (b.map (cS n cx hd))) (au (o.map (cS n cx hd))) bc
  |.For t it b o _=>if o.isEmpty&&gG it then fE hd (az (lD cx.nm t) fun tg=>match qb it with
   |some a=>if isName t&&cx.glob eA&&notStar a then rv tg (cV T F scr cx 0 a) (au (b.map (cS n cx 0))) else .bad
   |none=>dB tg (cV T F scr cx 0 it) (au (b.map (cS n cx 0)))) else .bad
  |.Raise e c _=>zg T F scr cx hd e c
  |.Break _=>.ret .brk
  |.Continue _=>.ret .cont
  |.Pass _=>.ret .next
  |.Delete ts _=>az (Ck ts) fun w=>Al (cV T F scr cx hd w.1) (cV T F scr cx hd w.2)
  |.Try b hs o f _=>if o.isEmpty then fE hd (match f with
   |[]=>zF T cx hs (au (b.map (cS n cx 0))) (cS n cx 2)
   |f₀::f'=>if hs.isEmpty then cH (au (b.map (cS n cx 0))) (au ((f₀::f').map (cS n cx 0))) (au ((f₀::f').map (cS n cx 1))) else .bad) else .bad
  |_=>.bad
end
end
section
variable {cx:Cx}{x:Expr}{Y:Gm}{hs:List ExceptHandler}{ts:List Expr}{body:List Stmt}{hd:Nat}{p:Pos}{c:Stmt->M Fl}
section
variable {D:Wd}{T:Tab}{F:eP}{n:Nat}
theorem sL{Y':Gm}(h:Y.Le Y'):Y'.env=Y.env:=g9 h fun zz zz zz e zz=>e▸rfl
theorem ot{xs:List Expr}{env:Env}:notStar x=true->(assignEach (x::xs) env).map (·.2)=assign x env::(assignEach xs env).map (·.2):=by
 cases x<;>first | exact fun zz=>rfl | exact eY
theorem Jo{nm:List Str}{t:Tg}:lD nm x=some t->notStar x=true:=by
 cases x<;>first | exact fun zz=>rfl | exact aQ
theorem Er(hT:Tp D T)(hO:ru D T F n)(K:Bk D n Y hd cx){a:V->M Unit}(h:Iu T F D.scr cx hd x=some a):notStar x=true/\bS D Y (assign x Y.env) a:=by
 have tg:∀ {x},(lD cx.nm x).map (fun t=>aA hd t)=some a->notStar x=true/\bS D Y (assign x Y.env) a:=fun h=>by
  refine aF (ZU.mp h) fun t ht qz3=>?_;clear h;refine qz3▸?_
  refine⟨?_,bS.tg K.blok K.md (lT (K.nm▸ht))⟩
  exact Jo ht
 cases x with
 |Subscript o i p=>clear tg;obtain rfl:=Z9 h;exact⟨rfl,bS.idx K.blok (qz hT hO 40 K _).1 (qz hT hO 40 K _).1⟩
 |Attribute o y p=>
  refine aF (ZU.mp h) fun f hf qz5=>?_;clear h;clear tg;refine qz5▸?_
  exact⟨rfl,bS.Hi K.blok hT.cls (ku _ (bC hf)) (qz hT hO 40 K _).1⟩
 |_=>exact tg h
theorem uv(hT:Tp D T)(hO:ru D T F n)(K:Bk D n Y hd cx):∀ {xs:List Expr} {as:List (V->M Unit)},z6 T F D.scr cx hd xs=some as->bS D Y (fun y=>assignAll y ((assignEach xs Y.env).map (·.2))) (gU as)
 |[],as,h=>Z9 h▸bS.nil
 |x::xs,as,h=>aF (bind_some h) fun a h1 h=>aF (ZU.mp h) fun as' h2 h3=>h3▸ot (Er hT hO K h1).1▸bS.cons (Er hT hO K h1).2 (uv hT hO K h2)
theorem Bk.mark{e:Addr}(K:Bk D n Y hd cx):Bk D n (Y.at (Y.A.mark (some (.ref e)))) 2 cx:=
 ⟨{K.blok with},trivial,⟨K.dU.fs⟩,fun q=>(Nat.noConfusion q),K.kind,K.nm⟩
theorem Bk.Gj{e:Addr}(K:Bk D n Y hd cx)(h:Md (Y.at (Y.A.mark (some (.ref e)))) 1):Bk D n (Y.at (Y.A.mark (some (.ref e)))) 1 cx:=
 ⟨{K.blok with},h,⟨K.dU.fs⟩,fun q=>(Nat.noConfusion q),K.kind,K.nm⟩
theorem jY.mark{A:Around}(R:jY Y)(h:A.frames=Y.A.frames):jY (Y.at A):=⟨by
 refine aF R.around fun outer h1 h2=>?_
 exact⟨outer,by show A.frames=_;refine(h).trans ?_;exact h1,h2⟩,R.own⟩
noncomputable def ID(ts:List Expr)(v:Expr)(l:Nat)(env:Env):Prop:=∃ b,swapsWithSole ts v l env=pure b
theorem Et{elt:Expr}{gs:List Comprehension}{scope:Scope}{pos:Pos}{l:Nat}{env:Env}:ID ts (.ListComp elt gs scope pos) l env:=by
 cases ts with
 |nil=>exact⟨_,rfl⟩
 |cons x r=>cases r with
  |nil=>cases x<;>exact⟨_,rfl⟩
  |cons _ _=>exact⟨_,rfl⟩
theorem uR(hT:Tp D T)(hO:ru D T F n)(K:Bk D n Y 0 cx){as:List (V->M Unit)}{elt:Expr}{gs:List Comprehension}{scope:Scope}{pos:Pos}(h4:z6 T F D.scr cx 0 ts=some as)(hs:(Gw ts (.ListComp elt gs scope pos)).isNone=true):aw D Y (exec (.Assign ts (.ListComp elt gs scope pos) p) Y.env) (bX D) (aJ (cV T F D.scr cx 0 (.ListComp elt gs scope pos)) as):=by
 refine df (Et (ts:=ts) (elt:=elt) (gs:=gs) (scope:=scope) (pos:=pos) (l:=p.line) (env:=Y.env)) fun bb hsw=>?_
 cases bb with
 |false=>exact aw.lV (qz hT hO 40 K _).1 (uv hT hO K h4) hsw (oZ hs)
 |true=>
  clear hs;cases gs with
  |nil=>exact fun zz zz zz=>W.bad
  |cons g gs=>
   obtain⟨t',it',ifs',as'⟩:=g
   show aw D Y _ _ (M.bind (if(as'==0&&gG it'&&Fd cx scope (fH cx.nm scope.names))=true then _ else M.bad) _)
   by_cases h:(as'==0&&gG it'&&Fd cx scope (fH cx.nm scope.names))=true
   ·rw[if_pos h]
    replace h:=ZR.mp h
    have h2:=ZR.mp h.1
    haveI e0:=Y9.mp h2.1
    subst e0
    refine bI (lD (bA (fH cx.nm scope.names)) t') (fun q=>?_) fun tg q=>?_
    ·exact fun zz zz zz=>W.bad
    ·exact aw.qW K.blok (K.lv rfl).handled (qa K h.2) (ix h2.2) (qz hT hO 39 K it').1 (yj K (fun K' e=>qz hT hO 39 K' e) (qa K h.2) q) (fun Y' hle=>by
      haveI:=uv hT hO (K.le hle) h4
      exact sL hle▸this) hsw
   ·exact(if_neg h).symm▸fun zz zz zz=>W.bad
theorem CG(hT:Tp D T)(hO:ru D T F n)(K:Bk D n Y hd cx){v:Expr}:aw D Y (exec (.Assign ts v p) Y.env) (bX D) (Ci T F D.scr cx hd ts v):=
 aw.az fun as q=>aw.if fun hs=>by
  by_cases h:jE v=true
  ·exact(if_pos h).symm▸aw.lV (qz hT hO 40 K v).1 (uv hT hO K q) (jw h) (oZ hs)
  ·exact(if_neg h).symm▸aw.if fun hl=>aw.only fun e=>Hk (Bg (ZR.mp hl).1) fun zz zz zz zz ev=>by
    subst e ev;exact uR hT hO K q hs
theorem FP(hT:Tp D T)(hO:ru D T F n)(K:Bk D n Y hd cx){v:Expr}:aw D Y (exec (.Assign ts v p) Y.env) (bX D) (Cz T F D.scr cx hd ts v):=by
 unfold Cz
 refine bI (pd cx ts v) (fun q=>?_) fun is q=>?_
 ·exact CG hT hO K
 ·refine aw.only fun e=>?_
  subst e
  refine iu (vO (l:=p.line) K q) fun ns h1 h2 h3=>?_
  exact aw.jS K.blok (K.lv rfl).handled (qz hT hO 40 K v).1 h1 h2 h3
theorem BE(hT:Tp D T)(hO:ru D T F n)(K:Bk D n Y hd cx){e c:Option Expr}:aw D Y (exec (.Raise e c p) Y.env) (bX D) (zg T F D.scr cx hd e c):=
 aw.az fun w q=>aw.if fun h=>aw.only fun q0=>qf (vn q) fun px pc e1 e2=>by
  haveI h:=ZR.mp h
  have h2:=ZR.mp h.1
  have hy:=Y9.mp h2.1
  haveI hg:=h2.2
  rw[e1,e2,hy]
  rw[hy] at hg
  subst q0
  exact aw.eo K.blok (K.lv rfl).handled (K.glob hg) (hT.exc 1 (by decide)).1 (hT.exc 1 (by decide)).2 (bV h.2) (qz hT hO 40 K _).1
theorem tY(hT:Tp D T)(K:Bk D n Y 0 cx)(R:jY Y){x:M Fl}(hx:aw D Y (execs body Y.env) (bX D) x)(hy:∀ e (b:List Stmt),aw D (Y.at (Y.A.mark (some (.ref e)))) (execs b Y.env) (bX D) (au (b.map c))):aw D Y (exec (.Try body hs [] [] p) Y.env) (bX D) (zv cx hs x c):=
 aw.az fun q hq=>aw.az fun m hm=>aw.if fun hg=>nz (ou hq) fun tp hp e=>bU (vp _ (bC hm)) fun h2 h1=>by
  haveI hg:=ZR.mp hg
  haveI he:=hT.exc m h1
  rw[e,Ze.mp hg.1]
  exact aw.iV K.blok R h2 (K.glob hg.2) (h2▸he.1) (h2▸he.2) hx fun e=>hy e _
theorem zW(hT:Tp D T)(K:Bk D n Y 0 cx)(R:jY Y){h:ExceptHandler}{x:M Fl}(hx:aw D Y (execs body Y.env) (bX D) x)(hy:∀ e (b:List Stmt),aw D (Y.at (Y.A.mark (some (.ref e)))) (execs b Y.env) (bX D) (au (b.map c))):aw D Y (exec (.Try body (h::hs) [] [] p) Y.env) (bX D) (yZ T cx h hs x c):=
 aw.az fun t2 h2=>aw.az fun q hq=>aw.az fun y hy'=>aw.az fun i hi=>aw.if fun hg=>nz (ou hq) fun tp hp e=>df (yk h2) fun tp2 e2=>by
  obtain⟨ty2,n2,b2,p2⟩:=h
  haveI hg:=ZR.mp hg
  have g:=ZR.mp hg.1
  have g2:=ZR.mp g.1
  haveI q3:=Y9.mp g.2
  haveI he:=hT.exc 1 (by decide)
  rw[e,show ty2=_ from e2,hy']
  exact bU (hT.own _ (List.contains_iff_mem.mp g2.1)) fun hd z=>aF z fun C hC H=>aw.n6 K.blok R (K.glob g2.2) hC hd H q3 (K.glob hg.2) (q3▸he.1) (q3▸he.2) (K.nm▸dR hi) hx fun e=>hy e _
theorem Cy(hT:Tp D T)(K:Bk D n Y 0 cx)(R:jY Y){x:M Fl}(hx:aw D Y (execs body Y.env) (bX D) x)(hy:∀ e (b:List Stmt),aw D (Y.at (Y.A.mark (some (.ref e)))) (execs b Y.env) (bX D) (au (b.map c))):aw D Y (exec (.Try body hs [] [] p) Y.env) (bX D) (zF T cx hs x c):=by
 match hs with
 |h::h2::r=>exact zW hT K R hx hy
 |[]=>exact tY hT K R hx hy
 |[h]=>exact tY hT K R hx hy
theorem uP{it a:Expr}(h:qb it=some a):∃ p q,it = .Call (.Name eA p) [a] [] q:=by
 refine aF (Zd.mp h) fun w h1 h2=>?_
 obtain⟨y,b⟩:=w
 dsimp only at h2
 by_cases q:(y==eA)=true
 ·rw[if_pos q] at h2
  exact(Y9.mp q)▸(Z9 h2)▸mC h1
 ·rw[if_neg q] at h2;exact a9 h2
theorem aw.ma(h:∀ x,aw D Y (exec x Y.env) (bX D) (c x)):∀ {xs:List Stmt},aw D Y (execs xs Y.env) (bX D) (au (xs.map c))
 |[]=>aw.done
 |x::_=>aw.seq (h x) (aw.ma h)
theorem Ey(hT:Tp D T)(hO:ru D T F n)(K:Bk D n Y 0 cx)(R:jY Y){t it:Expr}{b o:List Stmt}{y:M Fl}(hb:∀ Y',Bk D n Y' 0 cx->jY Y'->aw D Y' (execs b Y'.env) (bX D) y)(h:(o.isEmpty&&gG it)=true) :
  aw D Y (exec (.For t it b o p) Y.env) (bX D) (az (lD cx.nm t) fun tg=>match qb it with
   |some a=>if isName t&&cx.glob eA&&notStar a then rv tg (cV T F D.scr cx 0 a) y else .bad
   |none=>dB tg (cV T F D.scr cx 0 it) y):=aw.az fun tg q=>by
 have h:=ZR.mp h
 rw[YC.mp h.1]
 have ha:∀ Y',Y.Le Y'->∀ ρ J Z v yv,VR D ρ v yv->W D Y' ρ J Z (assign t Y.env yv) Un (aA 0 tg v J Z):=fun Y' hle ρ J Z v yv hv=>by
  haveI:=W.asg (J:=J) (Z:=Z) (K.le hle).blok (K.le hle).md (lT ((K.le hle).nm▸q)) hv
  exact sL hle▸this
 have hbd:=fun Y' hle=>by
  haveI:=hb Y' (K.le hle) (R.le hle)
  exact sL hle▸this
 refine bI (qb it) (fun q2=>?_) fun a q2=>?_
 ·exact aw.dB K.blok R (K.lv rfl).handled (qz hT hO 40 K it).1 (ix h.2) ha hbd
 ·refine aw.if fun h=>?_
  have h:=ZR.mp h
  have h2:=ZR.mp h.1
  refine nz (uP q2) fun gp gq e=>e▸qf hT.gen fun ga P G hga=>?_
  clear q q2;cases t with
  |Name z zp=>exact aw.rv K.blok R (K.lv rfl) G (K.glob h2.2) hga (qz hT hO 40 K a).1 (bV h.2) (fun zz=>rfl) (fun zz zz=>rfl) ha hbd
  |_=>exact Bool.noConfusion h2.1
theorem Ez(hT:Tp D T)(K:Bk D n Y 0 cx)(R:jY Y){b o f:List Stmt}{c:Nat->Stmt->M Fl}(ih:∀ Y' hd',Bk D n Y' hd' cx->jY Y'->∀ x,aw D Y' (exec x Y'.env) (bX D) (c hd' x))(h:o.isEmpty=true) :
  aw D Y (exec (.Try b hs o f p) Y.env) (bX D) (match f with
   |[]=>zF T cx hs (au (b.map (c 0))) (c 2)
   |f₀::f'=>if hs.isEmpty then cH (au (b.map (c 0))) (au ((f₀::f').map (c 0))) (au ((f₀::f').map (c 1))) else .bad):=by
 rw[YC.mp h]
 cases f with
 |nil=>exact Cy hT K R (aw.ma (ih Y 0 K R)) fun e bb=>aw.ma (ih _ 2 (K.mark) (R.mark rfl))
 |cons f₀ f'=>
  refine aw.if fun h=>YC.mp h▸aw.ya K.blok R (aw.ma (ih Y 0 K R)) (aw.ma (ih Y 0 K R)) fun e Y' hle hmd=>?_
  haveI:=aw.ma (xs:=f₀::f') (ih _ 1 (Bk.Gj (K.le hle) hmd) ((R.le hle).mark rfl))
  refine g9 hle fun kp fz kg q zz=>?_
  clear hle hmd;subst q;exact this
theorem Eg{D:Wd}{T:Tab}{F:eP}{n:Nat}(hT:Tp D T)(hO:ru D T F n):∀ (m:Nat) {Y:Gm} {hd:Nat} {cx:Cx},Bk D n Y hd cx->jY Y->∀ x:Stmt,aw D Y (exec x Y.env) (bX D) (cS T F D.scr m cx hd x)
 |0,_,_,_,_,_,_=>aw.eC
 |m+1,Y,hd,cx,K,R,x=>by
  have hv:=fun e=>(qz hT hO 40 K e).1
  have hb:=fun e=>(qz hT hO 40 K e).2
  haveI ih:∀ xs:List Stmt,aw D Y (execs xs Y.env) (bX D) (au (xs.map (cS T F D.scr m cx hd))):=fun xs=>aw.ma fun x=>Eg hT hO m K R x
  cases x with
  |Assign ts v p=>exact FP hT hO K
  |AugAssign t op v p=>
   cases t with
   |Name y py=>
    exact aw.az fun i q=>aw.dZ K.blok (K.nm▸dR q) (hv v)
   |Attribute o y py=>
    exact aw.az fun f q=>aw.AO K.blok hT.cls (ku _ (bC q)) (hv o) (hv v)
   |_=>exact aw.eC
  |Expr v p=>exact aw.if fun h=>aw.aZ (hv v) (by dsimp only[interactive];exact K.blok.kind▸rfl) (l7 h)
  |Return o p=>
   cases o with
   |none=>exact aw.wM
   |some e=>exact aw.z5 (hv e)
  |If t b o p=>exact aw.Jj (hb t) (ih b) (ih o)
  |While t b o p=>exact aw.Df K.blok R (hb t) (ih b) (ih o)
  |For t it b o p=>exact aw.if fun h=>aw.only fun e=>by subst e;exact Ey hT hO K R (fun Y' K' R'=>aw.ma fun x=>Eg hT hO m K' R' x) h
  |Raise e c p=>exact BE hT hO K
  |Break p=>exact aw.DD
  |Continue p=>exact aw.uV
  |Pass p=>exact aw.Ge
  |Delete ts p=>exact aw.az fun w q=>df (xq q) fun p e=>e▸aw.Al K.blok (hv w.1) (hv w.2)
  |Try b hs o f p=>exact aw.if fun h=>aw.only fun e=>by clear ih;subst e;exact Ez hT K R (fun Y' hd' K' R' x=>Eg hT hO m K' R' x) h
  |_=>exact aw.eC
end
end
inductive iO(R:Nat->Nat->Prop):V->V->Prop where
 |ref {k k':Nat} (h:R k k'):iO R (.ref k) (.ref k')
 |same {v:V} (h1:refOf v=none) (h2:aE v=none):iO R v v
inductive dH(R:Nat->Nat->Prop):List V->List V->Prop where
 |nil:dH R [] []
 |cons {v v':V} {r r':List V} (h:iO R v v') (t:dH R r r'):dH R (v::r) (v'::r')
inductive gS(R:Nat->Nat->Prop):List (Int×V)->List (Int×V)->Prop where
 |nil:gS R [] []
 |cons {i:Int} {v v':V} {r r':List (Int×V)} (h:iO R v v') (t:gS R r r'):gS R ((i,v)::r) ((i,v')::r')
inductive iK(R:Nat->Nat->Prop):O->O->Prop where
 |dead {o:O}:iK R o .dead
 |list {vs vs':List V} (h:dH R vs vs'):iK R (.list vs) (.list vs')
 |tup {vs vs':List V} (h:dH R vs vs'):iK R (.tup vs) (.tup vs')
 |dict {es es':List (Int×V)} (h:gS R es es'):iK R (.dict es) (.dict es')
 |cell {v v':V} (h:iO R v v'):iK R (.cell v) (.cell v')
 |tab {k k':Nat} (h:R k k'):iK R (.tab k) (.tab k')
 |gA:iK R .gA .gA
section
variable {D:Wd}{Y:Gm}{R:Nat->Nat->Prop}{ρ ρ':List Addr}{J J':aq}{Z:List V}{s:Shared}
theorem VR.sZ(hR:∀ k k' a,R k k'->ρ[k]? = some a->ρ'[k']? = some a){v v':V}{x:Value}(h:iO R v v')(hv:VR D ρ v x):VR D ρ' v' x:=by
 cases h with
 |ref h=>refine aF hv fun a h1 h2=>?_;clear hv;exact aY a (hR _ _ a h h1) h2
 |same h1 h2=>clear h2;cases v<;>first | exact hv | exact absurd h1 (Zx _) | cases h2
theorem bB.sZ(hR:∀ k k' a,R k k'->ρ[k]? = some a->ρ'[k']? = some a){vs vs':List V}(h:dH R vs vs'):∀ {xs:List Value},bB D ρ vs xs->bB D ρ' vs' xs:=by
 induction h with
 |nil=>intro xs hv;cases xs with
  |nil=>trivial
  |cons _ _=>exact hv.elim
 |cons h t ih=>intro xs hv;cases xs with
  |nil=>exact hv.elim
  |cons x xs=>exact⟨hv.1.sZ hR h,ih hv.2⟩
theorem fP.sZ(hR:∀ k k' a,R k k'->ρ[k]? = some a->ρ'[k']? = some a){es es':List (Int×V)}(h:gS R es es'):∀ {xs:List (Int×Value)},fP D ρ es xs->fP D ρ' es' xs:=by
 induction h with
 |nil=>intro xs hv;cases xs with
  |nil=>trivial
  |cons _ _=>exact hv.elim
 |cons h t ih=>intro xs hv;cases xs with
  |nil=>exact hv.elim
  |cons x xs=>exact c9 hv.1 (hv.2.1.sZ hR h) (ih hv.2.2)
theorem dH.len{vs vs':List V}(h:dH R vs vs'):vs'.length=vs.length:=by
 induction h with
 |nil=>rfl
 |cons _ _ ih=>exact ZV (· + 1) ih
theorem gS.len{vs vs':List (Int×V)}(h:gS R vs vs'):vs'.length=vs.length:=by
 induction h with
 |nil=>rfl
 |cons _ _ ih=>exact ZV (· + 1) ih
theorem OR.sZ(hR:∀ k k' a,R k k'->ρ[k]? = some a->ρ'[k']? = some a){o o':O}{x:Obj}(h:iK R o o')(ho:OR D ρ o x):OR D ρ' o' x:=by
 cases h with
 |dead=>trivial
 |list h=>obtain⟨i,n,e,r,b⟩:=ho;exact⟨i,n,e,r.sZ hR h,by rw[h.len];exact b⟩
 |tup h=>obtain⟨i,n,e,r,b⟩:=ho;exact⟨i,n,e,r.sZ hR h,by rw[h.len];exact b⟩
 |dict h=>refine iu ho fun k e r b=>?_;clear ho;exact iF k e (r.sZ hR h) (by rw[h.len];exact b)
 |cell h=>
  refine aF ho fun y e r=>?_;clear ho
  refine aY y e ?_
  rcases r with⟨rfl,rfl⟩ | ⟨z,rfl,hz⟩
  ·cases h with
   |same _ _=>exact .inl ⟨rfl,rfl⟩
  ·exact .inr (aY z rfl (hz.sZ hR h))
 |tab h=>exact⟨hR _ _ _ h ho.1,ho.2⟩
 |gA=>exact ho
theorem St.sZ(S:St D Y ρ J Z s){Z':List V}{kp:Addr->Option Obj}(hR:∀ k k' a,R k k'->ρ[k]? = some a->ρ'[k']? = some a)(hn:J'.n=ρ'.length)(hf:J'.t.Full J'.n)(hnd:(Y.own ρ').Nodup)(ho:∀ k' o',J'.t.get k'=some o'->∃ k o a,R k k'/\ρ[k]? = some a/\J.t.get k=some o/\iK R o o')(hk:∀ a o,kp a=some o->s.heap.get? a=some o)(hap:∀ a∈Y.own ρ',kp a=none)(hl:∀ m,Sl D Y ρ m Z->Sl D Y ρ' m Z')(hz:Y.fz=fun zz=>none):St D (Y.cT kp Y.fz) ρ' J' Z' s where
 keep:=hk
 dU:=S.dU
 loc:=let ⟨m,h1,h2⟩:=S.loc;(aY m h1 (hl m h2))
 obj:=fun k' o' h=>by
  refine u9 (ho k' o' h) fun k o a h1 h2 h3 h4=>?_
  obtain⟨a',x,g1,g2,g3⟩:=S.obj k o h3
  exact⟨a',x,hR k k' a' h1 g1,g2,g3.sZ hR h4⟩
 num:=hn
 full:=hf
 nd:=hnd
 ap:=hap
 os:=S.os
 gen:=S.gen
 d4:=fun a o e=>by rw[show(Y.cT kp Y.fz).fz=fun zz=>none from hz] at e;contradiction
theorem St.Fi{kp:Addr->Option Obj}{ρ1:List Addr}{J1:aq}{Z1 Z':List V}(S1:St D (Y.cT kp Y.fz) ρ1 J1 Z1 s)(hkp:∀ a o,Y.kp a=some o->kp a=some o)(hR:∀ k k' a,R k k'->ρ1[k]? = some a->ρ'[k']? = some a)(hn:J'.n=ρ'.length)(hf:J'.t.Full J'.n)(hnd:(Y.own ρ').Nodup)(hap:∀ a∈Y.own ρ',Y.kp a=none)(ho:∀ k' o',J'.t.get k'=some o'->(∃ a x,ρ'[k']? = some a/\kp a=some x/\OR D ρ' o' x)∨∃ k o,R k k'/\J1.t.get k=some o/\iK R o o')(hl:∀ m,Sl D (Y.cT kp Y.fz) ρ1 m Z1->Sl D Y ρ' m Z')(hz:Y.fz=fun zz=>none):St D Y ρ' J' Z' s where
 keep:=fun a o h=>S1.keep a o (hkp a o h)
 dU:=S1.dU
 loc:=let ⟨m,h1,h2⟩:=S1.loc;(aY m h1 (hl m h2))
 obj:=fun k' o' h=>by
  rcases ho k' o' h with⟨a,x,h1,h2,h3⟩ | ⟨k,o,h1,h2,h3⟩
  ·exact⟨a,x,h1,S1.keep a x h2,h3⟩
  ·obtain⟨a',x,g1,g2,g3⟩:=S1.obj k o h2
   exact⟨a',x,hR k k' a' h1 g1,g2,g3.sZ hR h3⟩
 num:=hn
 full:=hf
 nd:=hnd
 ap:=hap
 os:=S1.os
 gen:=S1.gen
 d4:=fun a o e=>by replace e:=hz▸e;contradiction
end
section
variable {α γ:Type}{ks ks':List Nat}{vs:List V}{k n:Nat}{R R1:Nat->Nat->Prop}{o:O}{J:aq}{v:V}
noncomputable def aq.add(J:aq)(o:O):aq:=⟨J.n+1,J.t.ins J.n o,J.fz⟩
noncomputable def aq.adds(J:aq):List O->aq
 |[]=>J
 |o::r=>(J.add o).adds r
noncomputable def aq.kill(J:aq):List Nat->aq
 |[]=>J
 |k::r=>aq.kill ⟨J.n,J.t.set k .dead,J.fz⟩ r
noncomputable def aq.vH(J:aq):List Nat->aq
 |[]=>J
 |k::r=>aq.vH ⟨J.n,J.t.set k .gA,J.fz⟩ r
noncomputable def aq.nil:aq:=⟨0,.nil,[]⟩
noncomputable def aq.Ok(J:aq):Prop:=J.t.Full J.n
theorem aq.iZ:aq.nil.Ok:=Tr.yD
theorem aq.Ok.add(h:J.Ok)(o:O):(J.add o).Ok:=Tr.Full.ins h o
theorem aq.Ok.get(h:J.Ok)(e:J.t.get k=some o):k<J.n:=(h k).mp (e▸rfl)
theorem aq.Ok.none(h:J.Ok)(e:J.n<=k):J.t.get k=none:=by
 cases q:J.t.get k with
 |none=>rfl
 |some o=>exact absurd (h.get q) (XZ.mpr e)
theorem aq.cf(J:aq):∀ os:List O,(J.adds os).n=J.n+os.length
 |[]=>rfl
 |o::r=>(aq.cf (J.add o) r).trans ((Xv J.n 1 r.length).trans (ZV (J.n + ·) (Yd 1 r.length)))
theorem aq.dk(J:aq):∀ os:List O,(J.adds os).fz=J.fz
 |[]=>rfl
 |o::r=>aq.dk (J.add o) r
theorem aq.Ok.adds{J:aq}(h:J.Ok):∀ os:List O,(J.adds os).Ok
 |[]=>h
 |o::r=>(h.add o).adds r
theorem AZ{a:α}{r:List α}(h:n<k):(a::r)[k-n]? = r[k-(n+1)]?:=
 ((Nat.sub_add_cancel (Nat.sub_pos_of_lt h)).symm)▸rfl
theorem aq.fM{J:aq}(h:J.Ok):∀ (os:List O) (k:Nat),(J.adds os).t.get k=if k<J.n then J.t.get k else os[k-J.n]?
 |[],k=>(WD (k<J.n)).elim (fun q=>(if_pos q).symm) fun q=>(h.none (XN q)).trans (if_neg q).symm
 |o::r,k=>by
  refine(aq.fM (h.add o) r k).trans ?_
  show(if k<J.n+1 then(J.t.ins J.n o).get k else r[k-(J.n+1)]?)=_
  rw[Tr.get_ins o J.t J.n h]
  rcases Nat.lt_trichotomy k J.n with q | q | q
  ·refine(if_pos (Nat.lt_succ_of_lt q)).trans ?_;exact(if_neg (Zk q))▸(if_pos q)▸rfl
  ·refine(if_pos (q▸Yv k)).trans ?_;rw[if_pos q,if_neg (q▸XF k),q,XW];rfl
  ·refine(if_neg (XZ.mpr q)).trans ?_;rw[if_neg (XZ.mpr (YE q)),AZ q]
theorem aq.sR(J:aq):∀ ks:List Nat,(J.kill ks).n=J.n:=fun ks=>by
 induction ks generalizing J with
 |nil=>rfl
 |cons k r ih=>exact ih _
theorem aq.Bt(J:aq):∀ ks:List Nat,(J.kill ks).fz=J.fz:=fun ks=>by
 induction ks generalizing J with
 |nil=>rfl
 |cons k r ih=>exact ih _
theorem aq.Ok.kill(h:J.Ok)(ks:List Nat):(J.kill ks).Ok:=by
 induction ks generalizing J with
 |nil=>exact h
 |cons k r ih=>exact ih (Tr.Full.set h k .dead)
theorem wL{j:Nat}{r:List Nat}{x:Option O}(c:O):(if k∈r then Option.map (fun zz=>c) (if k=j then x.map fun zz=>c else x) else if k=j then x.map fun zz=>c else x)=if k∈j::r then x.map (fun zz=>c) else x:=by
 by_cases q:k=j
 ·rw[if_pos q,if_pos (ZS.mpr (.inl q))];cases x<;>split<;>rfl
 ·rw[if_neg q];exact ite_congr (propext ⟨fun h=>ZS.mpr (.inr h),fun h=>(ZS.mp h).resolve_left q⟩) (fun zz=>rfl) fun zz=>rfl
theorem aq.mZ(J:aq)(ks:List Nat)(k:Nat):(J.kill ks).t.get k=if k∈ks then(J.t.get k).map (fun zz=>.dead) else J.t.get k:=by
 induction ks generalizing J with
 |nil=>rfl
 |cons j r ih=>exact(ih _).trans ((ZV (fun x=>if k∈r then Option.map (fun zz=>.dead) x else x) (Tr.get_set ..)).trans (wL .dead))
theorem aq.zm(J:aq):∀ ks:List Nat,(J.vH ks).n=J.n:=fun ks=>by
 induction ks generalizing J with
 |nil=>rfl
 |cons k r ih=>exact ih _
theorem aq.Dv(J:aq):∀ ks:List Nat,(J.vH ks).fz=J.fz:=fun ks=>by
 induction ks generalizing J with
 |nil=>rfl
 |cons k r ih=>exact ih _
theorem aq.Ok.vH(h:J.Ok)(ks:List Nat):(J.vH ks).Ok:=by
 induction ks generalizing J with
 |nil=>exact h
 |cons k r ih=>exact ih (Tr.Full.set h k .gA)
theorem aq.pP(J:aq)(ks:List Nat)(k:Nat):(J.vH ks).t.get k=if k∈ks then(J.t.get k).map (fun zz=>.gA) else J.t.get k:=by
 induction ks generalizing J with
 |nil=>rfl
 |cons j r ih=>exact(ih _).trans ((ZV (fun x=>if k∈r then Option.map (fun zz=>.gA) x else x) (Tr.get_set ..)).trans (wL .gA))
theorem iO.inv{v':V}(h:iO R v v')(i:∀ k k',R k k'->R1 k' k):iO R1 v' v:=by
 cases h with
 |ref h=>exact .ref (i _ _ h)
 |same h1 h2=>exact .same h1 h2
theorem dH.inv{v v':List V}(h:dH R v v')(i:∀ k k',R k k'->R1 k' k):dH R1 v' v:=by
 induction h with
 |nil=>exact .nil
 |cons h t ih=>exact .cons (h.inv i) ih
theorem gS.inv{v v':List (Int×V)}(h:gS R v v')(i:∀ k k',R k k'->R1 k' k):gS R1 v' v:=by
 induction h with
 |nil=>exact .nil
 |cons h t ih=>exact .cons (h.inv i) ih
theorem iK.inv{o':O}(h:iK R o o')(i:∀ k k',R k k'->R1 k' k)(d:o'≠.dead):iK R1 o' o:=by
 cases h with
 |dead=>exact absurd rfl d
 |list h=>exact .list (h.inv i)
 |tup h=>exact .tup (h.inv i)
 |dict h=>exact .dict (h.inv i)
 |cell h=>exact .cell (h.inv i)
 |tab h=>exact .tab (i _ _ h)
 |gA=>exact .gA
noncomputable def BC(J:aq)(ks:List Nat)(R:Nat->Nat->Prop)(i:Nat)(o':O):Prop:=o'≠.dead/\∃ k o,ks[i]? = some k/\J.t.get k=some o/\iK R o o'
theorem BC.mono{i j:Nat}(h:∀ k,ks[i]? = some k->ks'[j]? = some k)(x:BC J ks R i o):BC J ks' R j o:=
 ⟨x.1,nz x.2 fun k o g=>uS k o ⟨h k g.1,g.2⟩⟩
structure Laid(J:aq)(vs:List V)(ks:List Nat)(R:Nat->Nat->Prop)(p:List V×List O):Prop where
 len:p.2.length=ks.length
 vals:dH R vs p.1
 objs:∀ (i:Nat) o',p.2[i]? = some o'->BC J ks R i o'
noncomputable def rS(ks:List Nat)(n:Nat)(R:Nat->Nat->Prop):Prop:=∀ (i k:Nat),ks[i]? = some k->R k (n+i)
structure bH(α:Type) where
 rd:aq->List V->Option (α×List Nat)
 lay:α->Nat->List V×List O
 ok:∀ {J:aq} {vs:List V} {a:α} {ks:List Nat},rd J vs=some (a,ks)->∀ (n:Nat) (R:Nat->Nat->Prop),rS ks n R->Laid J vs ks R (lay a n)
theorem BO{i:Nat}{a:α}{P:Prop}(h:([]:List α)[i]? = some a):P:=nomatch h
theorem Laid.none{us:List V}(h:dH R vs us):Laid J vs [] R (us,[]):=⟨rfl,h,fun zz zz=>BO⟩
theorem dH.one{l l':List V}(h:dH R [v] l)(k:dH R vs l'):dH R (v::vs) (l++l'):=by
 cases h with
 |cons h t=>cases t;exact .cons h k
theorem wO{p q:List V×List O}(h1:Laid J [v] ks R p)(h2:Laid J vs ks' R q):Laid J (v::vs) (ks++ks') R (p.1++q.1,p.2++q.2) where
 len:=ZI.trans ((h1.len▸h2.len▸rfl:p.2.length+q.2.length=ks.length+ks'.length).trans ZI.symm)
 vals:=h1.vals.one h2.vals
 objs:=fun i o' e=>(WD (i<p.2.length)).elim (fun g=>(h1.objs i o' ((Yt g).symm.trans e)).mono fun zz=>get_append)
  fun g=>(h2.objs _ o' ((ZF (XN g)).symm.trans e)).mono fun k z=>(ZF (h1.len▸XN g)).trans (h1.len▸z)
theorem rS.right{m:Nat}(h:rS (ks++ks') n R)(e:m=ks.length):rS ks' (n+m) R:=fun i k g=>by
 rw[Xv];exact h _ k (e▸(ZF (Zp _ _)).trans ((Yx ..).symm▸g))
theorem rS.tail(h:rS (k::ks) n R):rS ks (n+1) R:=fun i k g=>(Yg n i 1)▸h (i+1) k g
theorem jI{us:List V}{p:List V×List O}{o':O}{w:List V}(h:Laid J us ks R p)(hw:dH R vs w)(ho:J.t.get k=some o)(hd:o'≠.dead)(hr:iK R o o'):Laid J vs (k::ks) R (w,o'::p.2) where
 len:=ZV (· + 1) h.len
 vals:=hw
 objs:=fun i x e=>by
  cases i with
  |zero=>exact Z9 e▸⟨hd,k,o,rfl,ho,hr⟩
  |succ i=>exact(h.objs i x e).mono fun zz g=>g
noncomputable def Gv{γ δ:Type}(J:aq)(f:O->Option γ)(g:γ->Option (δ×List Nat))(vs:List V):Option (δ×List Nat):=
 (n7 vs).bind fun v=>(refOf v).bind fun k=>(J.t.get k).bind fun o=>(f o).bind fun xs=>(g xs).map fun q=>(q.1,k::q.2)
theorem sz{δ:Type}{f:O->Option γ}{g:γ->Option (δ×List Nat)}{P:δ->List V×List O}{a:δ}(h:Gv J f g vs=some (a,ks))(hR:rS ks n R)(H:∀ k o xs ks',f o=some xs->g xs=some (a,ks')->J.t.get k=some o->dH R [.ref k] [.ref n]->rS ks' (n+1) R->Laid J [.ref k] (k::ks') R (P a)):Laid J vs ks R (P a):=by
 refine aF (bind_some h) fun v h1 h=>aF (bind_some h) fun k h2 h=>aF (bind_some h) fun o h3 h=>aF (bind_some h) fun xs h4 h=>aF (ZU.mp h) fun q h5 h6=>?_
 rw[gV h1,fO h2]
 haveI e:=(Y7 h6).1
 haveI e':=(Y7 h6).2
 exact e'▸H k o xs q.2 h4 (e▸h5) h3 (.cons (.ref ((e'▸hR) 0 k rfl)) .nil) (rS.tail (e'▸hR))
namespace bH
variable {α β:Type}
noncomputable def int:bH Int where
 rd:=fun zz vs=>(n7 vs).bind fun v=>(intOf v).map fun i=>(i,[])
 lay:=fun i zz=>([.int i],[])
 ok:=fun h n R zz=>aF (bind_some h) fun v h1 h=>aF (ZU.mp h) fun i h2 h3=>by
  rw[gV h1,eR h2,<-(Y7 h3).1,<-(Y7 h3).2];exact .none (.cons (.same rfl rfl) .nil)
noncomputable def nil:bH Unit where
 rd:=fun zz vs=>match vs with
  |[]=>some ((),[])
  |_::_=>none
 lay:=fun zz zz=>([],[])
 ok:=fun {J vs a ks} h n R hR=>by
  cases vs with
  |nil=>exact(Y7 (Z9 h)).2▸.none .nil
  |cons _ _=>exact a9 h
noncomputable def xP{γ:Type}(A:bH α)(J:aq)(g:List V->Option (β×List Nat))(c:α->β->γ)(vs:List V):Option (γ×List Nat):=match vs with
 |[]=>none
 |v::vs=>(A.rd J [v]).bind fun p=>(g vs).map fun q=>(c p.1 q.1,p.2++q.2)
theorem qk{A:bH α}{g:List V->Option (β×List Nat)}{c:α->β->γ}{lay:β->Nat->List V×List O}{L:γ->List V×List O}{a:γ}(h:xP A J g c vs=some (a,ks))(hR:rS ks n R)(hL:∀ x y,L (c x y)=((A.lay x n).1++(lay y (n+(A.lay x n).2.length)).1,(A.lay x n).2++(lay y (n+(A.lay x n).2.length)).2))(hB:∀ v vs' b ks' m,vs=v::vs'->g vs'=some (b,ks')->rS ks' m R->Laid J vs' ks' R (lay b m)):Laid J vs ks R (L a):=by
 cases vs with
 |nil=>exact a9 h
 |cons v vs=>
  refine aF (bind_some h) fun p h1 h=>aF (ZU.mp h) fun q h2 h3=>?_
  haveI L1:=fun(hR:rS (p.2++q.2) n R)=>A.ok h1 n R fun i k e=>hR i k (get_append e)
  rw[<-(Y7 h3).1,hL]
  exact((Y7 h3).2▸fun hR=>wO (L1 hR) (hB v vs q.1 q.2 _ rfl h2 (hR.right (L1 hR).len)):rS ks n R->Laid J (v::vs) ks R _) hR
noncomputable def two(A:bH α)(B:bH β):bH (α×β) where
 rd:=fun J=>xP A J (B.rd J) Prod.mk
 lay:=fun a n=>((A.lay a.1 n).1++(B.lay a.2 (n+(A.lay a.1 n).2.length)).1,(A.lay a.1 n).2++(B.lay a.2 (n+(A.lay a.1 n).2.length)).2)
 ok:=fun h n R hR=>qk (lay:=B.lay) (L:=fun a=>((A.lay a.1 n).1++(B.lay a.2 (n+(A.lay a.1 n).2.length)).1,(A.lay a.1 n).2++(B.lay a.2 (n+(A.lay a.1 n).2.length)).2)) h hR (fun zz zz=>rfl) fun zz zz zz zz m zz h2 h3=>B.ok h2 m R h3
noncomputable def mA(A:bH α)(J:aq):List V->Option (List α×List Nat)
 |[]=>some ([],[])
 |v::vs=>xP A J (fun zz=>mA A J vs) List.cons (v::vs)
noncomputable def fu(A:bH α):List α->Nat->List V×List O
 |[],_=>([],[])
 |a::r,n=>((A.lay a n).1++(fu A r (n+(A.lay a n).2.length)).1,(A.lay a n).2++(fu A r (n+(A.lay a n).2.length)).2)
theorem Ai{A:bH α}:∀ {a:List α} {ks:List Nat},mA A J vs=some (a,ks)->∀ n,rS ks n R->Laid J vs ks R (fu A a n):=by
 induction vs with
 |nil=>exact fun h n zz=>(Y7 (Z9 h)).2▸(Y7 (Z9 h)).1▸.none .nil
 |cons v vs ih=>exact fun h n hR=>qk (L:=fun a=>fu A a n) h hR (fun zz zz=>rfl) fun zz zz zz zz m e h2 h3=>(XO e).2▸ih h2 m h3
noncomputable def many(A:bH α):bH (List α) where
 rd:=mA A
 lay:=fu A
 ok:=fun h n zz hR=>Ai h n hR
noncomputable def lst(B:bH β):bH β where
 rd:=fun J=>Gv J dp (B.rd J)
 lay:=fun b n=>([.ref n],.list (B.lay b (n+1)).1::(B.lay b (n+1)).2)
 ok:=fun h n R hR=>sz (P:=fun b=>([.ref n],.list (B.lay b (n+1)).1::(B.lay b (n+1)).2)) h hR fun k o xs ks h1 h2 h3 h4 h5=>jI (B.ok h2 (n+1) R h5) h4 h3 nofun (bW h1▸.list (B.ok h2 (n+1) R h5).vals)
noncomputable def tup(B:bH β):bH β where
 rd:=fun J=>Gv J qu (B.rd J)
 lay:=fun b n=>([.ref n],.tup (B.lay b (n+1)).1::(B.lay b (n+1)).2)
 ok:=fun h n R hR=>sz (P:=fun b=>([.ref n],.tup (B.lay b (n+1)).1::(B.lay b (n+1)).2)) h hR fun k o xs ks h1 h2 h3 h4 h5=>jI (B.ok h2 (n+1) R h5) h4 h3 nofun (fL h1▸.tup (B.ok h2 (n+1) R h5).vals)
noncomputable def GZ:List (Int×V)->Option (List (Int×Int))
 |[]=>some []
 |p::r=>(intOf p.2).bind fun i=>(GZ r).map fun l=>(p.1,i)::l
theorem uK:∀ {es:List (Int×V)} {l:List (Int×Int)},GZ es=some l->gS R es (l.map fun p=>(p.1,.int p.2))
 |[],_,h=>Z9 h▸.nil
 |p::r,l,h=>aF (bind_some h) fun i h1 h=>aF (ZU.mp h) fun l' h2 h3=>h3▸(show(p.1,V.int i)=p from eR h1▸rfl)▸.cons (.same rfl rfl) (uK h2)
noncomputable def G2:bH (List (Int×Int)) where
 rd:=fun J=>Gv J l8 fun es=>(GZ es).map fun q=>(q,[])
 lay:=fun b n=>([.ref n],[.dict (b.map fun p=>(p.1,.int p.2))])
 ok:=fun h n R hR=>sz (P:=fun b=>([.ref n],[.dict (b.map fun p=>(p.1,.int p.2))])) h hR fun k o xs ks h1 h2 h3 h4 h5=>aF (ZU.mp h2) fun l h6 h7=>by
  rw[<-(Y7 h7).1,<-(Y7 h7).2];exact jI (p:=([],[])) (us:=[]) (.none .nil) h4 h3 nofun (eT h1▸.dict (uK h6))
end bH
end
section
variable {b:dG}{cs:List Nat}{Z ws:List V}{i0:Nat}{pv:Nat->V}{J:aq}{v w:V}
noncomputable def G6(J:aq)(k:Sk)(v:V)(r:Option (List V×List Nat)):Option (List V×List Nat):=match k with
 |.own=>(aE v).bind fun c=>(J.t.get c).bind fun o=>(wi o).bind fun w=>r.map fun p=>(w::p.1,c::p.2)
 |.loc=>if(aE v).isNone then r.map fun p=>(v::p.1,p.2) else none
 |.cM _=>none
noncomputable def vb(J:aq):dG->List V->Option (List V×List Nat)
 |[],Z=>match Z with
  |[]=>some ([],[])
  |_::_=>none
 |p::b,Z=>match Z with
  |[]=>none
  |v::Z=>G6 J p.2 v (vb J b Z)
inductive qg(J:aq):dG->List V->List V->List Nat->Prop where
 |nil:qg J [] [] [] []
 |loc {x:Str} {v:V} {b:dG} {Z ws:List V} {cs:List Nat} (h:aE v=none) (t:qg J b Z ws cs):qg J ((x,.loc)::b) (v::Z) (v::ws) cs
 |own {x:Str} {v w:V} {c:Nat} {b:dG} {Z ws:List V} {cs:List Nat} (h:aE v=some c) (g:J.t.get c=some (.cell w)) (t:qg J b Z ws cs):qg J ((x,.own)::b) (v::Z) (w::ws) (c::cs)
theorem qg.of{us:List V}{ds:List Nat}(t:qg J b Z ws cs)(h:(ws,cs)=(us,ds)):qg J b Z us ds:=(Y7 h).1▸(Y7 h).2▸t
theorem tu:∀ {Z ws:List V} {cs:List Nat},vb J b Z=some (ws,cs)->qg J b Z ws cs:=by
 induction b with
 |nil=>
  intro Z ws cs h
  cases Z with
  |nil=>exact qg.nil.of (Z9 h)
  |cons _ _=>exact a9 h
 |cons p b ih=>
  intro Z ws cs h
  cases Z with
  |nil=>exact a9 h
  |cons v Z=>
   obtain⟨x,k⟩:=p
   cases k with
   |cM _=>exact a9 h
   |loc=>
    by_cases q:(aE v).isNone=true
    ·exact aF (ZU.mp ((if_pos q).symm.trans h)) fun r h1 h2=>(qg.loc (Ze.mp q) (ih h1)).of h2
    ·exact a9 ((if_neg q).symm.trans h)
   |own=>exact aF (bind_some h) fun c e h=>aF (bind_some h) fun o g h=>aF (bind_some h) fun w k h=>aF (ZU.mp h) fun r h1 h2=>(qg.own e (pH k▸g) (ih h1)).of h2
noncomputable def pG(pv:Nat->V):Nat->dG->Nat->List V
 |_,[],_=>[]
 |i,(_,k)::b,n=>match k with
  |.own=>.aI n::pG pv (i+1) b (n+1)
  |_=>pv i::pG pv (i+1) b n
noncomputable def qd(pv:Nat->V):Nat->dG->List O
 |_,[]=>[]
 |i,(_,k)::b=>match k with
  |.own=>.cell (pv i)::qd pv (i+1) b
  |_=>qd pv (i+1) b
noncomputable def vh:List Nat->List V->Nat->V
 |p::ps,v::vs,i=>if i=p then v else vh ps vs i
 |_,_,_=>.ah
noncomputable def pC:List V->List V
 |[]=>[]
 |v::r=>(match aE v with
  |some k=>.aI k
  |none=>.ah)::pC r
theorem ql:∀ Z:List V,(pC Z).length=Z.length
 |[]=>rfl
 |v::r=>ZV (· + 1) (ql r)
theorem uy:∀ (Z:List V) (i:Nat),V.at (pC Z) i=match aE (V.at Z i) with
  |some k=>.aI k
  |none=>.ah
 |[],_=>rfl
 |v::r,0=>rfl
 |v::r,i+1=>uy r i
theorem lX:∀ (ps:List Nat) (vs:List V) (i:Nat),i∉ps->vh ps vs i = .ah
 |[],_,_,_=>rfl
 |_::_,[],_,_=>rfl
 |p::ps,v::vs,i,h=>(if_neg fun e=>h (ZS.mpr (.inl e))).trans (lX ps vs i fun q=>h (ZY _ q))
theorem iO.to{R:Nat->Nat->Prop}{a b:V}(e:a=b)(h:iO R v b):iO R v a:=e▸h
theorem qh{R:Nat->Nat->Prop}(ps:List Nat):∀ (vs:List V) (i:Nat),dH R (ps.map (V.at ws)) vs->i∈ps->iO R (V.at ws i) (vh ps vs i):=by
 induction ps with
 |nil=>exact fun zz zz zz h=>absurd h YJ
 |cons p ps ih=>
  intro vs i hv hi
  cases hv with
  | @cons _ v' _ r' h t=>
   by_cases e:i=p
   ·exact .to (if_pos e) (e.symm▸h)
   ·exact .to (if_neg e) (ih _ i t ((ZS.mp hi).resolve_left e))
theorem qg.len(h:qg J b Z ws cs):∀ (i0 n:Nat),Z.length=b.length/\(pG pv i0 b n).length=b.length/\(qd pv i0 b).length=cs.length:=by
 induction h with
 |nil=>exact fun zz zz=>c9 rfl rfl rfl
 |loc _ _ ih=>exact fun i n=>gm (ih (i+1) n) fun h1 h2 h3=>c9 (ZV (· + 1) h1) (ZV (· + 1) h2) h3
 |own _ _ _ ih=>exact fun i n=>gm (ih (i+1) (n+1)) fun h1 h2 h3=>c9 (ZV (· + 1) h1) (ZV (· + 1) h2) (ZV (· + 1) h3)
theorem tU(i0 n:Nat)(pv:Nat->V)(h:vb J b Z=some (ws,cs)):Z.length=b.length/\(pG pv i0 b n).length=b.length/\(qd pv i0 b).length=cs.length:=(tu h).len i0 n
theorem pJ{x:Str}{k:Nat}(hk:J.t.get k=some (.cell w))(hr:vb J b Z=some (ws,cs)):vb J ((x,.own)::b) (.aI k::Z)=some (w::ws,k::cs):=by
 show((J.t.get k).bind fun o=>(wi o).bind fun w=>(vb J b Z).map _)=_
 rw[hk,hr];rfl
theorem fy{x:Str}(hv:aE v=none)(hr:vb J b Z=some (ws,cs)):vb J ((x,.loc)::b) (v::Z)=some (v::ws,cs):=by
 show(if(aE v).isNone=true then(vb J b Z).map _ else none)=_
 rw[hv,hr];rfl
inductive k0(pv:Nat->V)(i0:Nat)(ws:List V)(cs:List Nat)(n:Nat)(Z e0:List V)(i:Nat):Prop where
 |aI (c j:Nat) (h1:V.at Z i = .aI c) (h2:cs[j]? = some c) (h3:V.at e0 i = .aI (n+j))
 |loc (h1:aE (V.at Z i)=none) (h2:V.at e0 i=pv (i0+i)) (h3:V.at ws i=V.at Z i)
inductive zo(J:aq)(pv:Nat->V)(i0:Nat)(ws:List V)(cs:List Nat)(b:dG)(os:List O)(j:Nat)(o':O):Prop where
 |mk (c i:Nat) (w:V) (h1:cs[j]? = some c) (h2:J.t.get c=some (.cell w)) (h3:V.at ws i=w) (h4:o' = .cell (pv (i0+i))) (h5:(b[i]?).map (·.2)=some .own)
theorem zi{c:Nat}:aE v=some c->v = .aI c:=by
 cases v with
 |aI=>intro h;exact(Z9 h)▸rfl
 |_=>exact aQ
theorem k0.skip{n i:Nat}{e0:List V}{u:V}(h:k0 pv (i0+1) ws cs n Z e0 i):k0 pv i0 (w::ws) cs n (v::Z) (u::e0) (i+1):=by
 cases h with
 |aI c j h1 h2 h3=>exact .aI c j h1 h2 h3
 |loc h1 h2 h3=>exact .loc h1 (h2.trans (ZV pv (Yg i0 i 1).symm)) h3
theorem k0.Fg{n i c0:Nat}{e0:List V}{u:V}(h:k0 pv (i0+1) ws cs (n+1) Z e0 i):k0 pv i0 (w::ws) (c0::cs) n (v::Z) (u::e0) (i+1):=by
 cases h with
 |aI c j h1 h2 h3=>exact .aI c (j+1) h1 h2 (h3.trans (ZV V.aI (Yg n j 1).symm))
 |loc h1 h2 h3=>exact .loc h1 (h2.trans (ZV pv (Yg i0 i 1).symm)) h3
theorem qg.slots(h:qg J b Z ws cs):∀ (i0 n i:Nat),i<b.length->k0 pv i0 ws cs n Z (pG pv i0 b n) i:=by
 induction h with
 |nil=>exact fun zz zz zz h=>absurd h (YX _)
 |loc h t ih=>
  intro i0 n i hi
  cases i with
  |zero=>exact .loc h rfl rfl
  |succ i=>exact(ih (i0+1) n i (YQ hi)).skip
 |own h g t ih=>
  intro i0 n i hi
  cases i with
  |zero=>exact .aI _ 0 (zi h) rfl rfl
  |succ i=>exact(ih (i0+1) (n+1) i (YQ hi)).Fg
theorem zo.skip{j j':Nat}{cs':List Nat}{os os':List O}{p:Str×Sk}{o:O}(h:zo J pv (i0+1) ws cs b os j o)(e:∀ c,cs[j]? = some c->cs'[j']? = some c):zo J pv i0 (w::ws) cs' (p::b) os' j' o:=by
 cases h with
 |mk c i w h1 h2 h3 h4 h5=>exact⟨c,i+1,w,e c h1,h2,h3,h4.trans (ZV (fun m=>O.cell (pv m)) (Yg i0 i 1).symm),h5⟩
theorem qg.Hp(h:qg J b Z ws cs):∀ (i0 j:Nat) o',(qd pv i0 b)[j]? = some o'->zo J pv i0 ws cs b (qd pv i0 b) j o':=by
 induction h with
 |nil=>exact fun zz zz zz=>BO
 |loc h t ih=>exact fun i0 j o' e=>(ih (i0+1) j o' e).skip fun zz e=>e
 |own h g t ih=>
  intro i0 j o' e
  cases j with
  |zero=>exact⟨_,0,_,rfl,g,rfl,(Z9 e).symm,rfl⟩
  |succ j=>exact(ih (i0+1) j o' e).skip fun zz e=>e
theorem qQ(i0 n:Nat)(h:vb J b Z=some (ws,cs)) :
  (∀ i,i<b.length->k0 pv i0 ws cs n Z (pG pv i0 b n) i)/\∀ (j:Nat) o',(qd pv i0 b)[j]? = some o'->zo J pv i0 ws cs b (qd pv i0 b) j o':=⟨(tu h).slots i0 n,(tu h).Hp i0⟩
end
section
variable {b:dG}{tb ps ks cs:List Nat}{ws:List V}
section
variable {D:Wd}{Y:Gm}{ρ:List Addr}{J:aq}{Z:List V}{s:Shared}{α β:Type}
structure wU(tb:List Nat)(J:aq)(Z:List V)(b:dG)(ps:List Nat)(A:bH α)(a:α)(ws:List V)(ks cs:List Nat):Prop where
 tab:∀ i∈tb,ks[i]? = some i
 fz:J.fz=[]
 slots:vb J b Z=some (ws,cs)
 args:A.rd J (ps.map (V.at ws))=some (a,ks)
 nd:(ks++cs).Nodup
 ah:∀ i,(b[i]?).map (·.2)=some .own->i∉ps->V.at ws i = .ah
noncomputable def sq(b:dG)(ps:List Nat)(A:bH α)(a:α):Nat->V:=vh ps (A.lay a 0).1
noncomputable def By(b:dG)(ps:List Nat)(A:bH α)(a:α):List O:=(A.lay a 0).2++qd (sq b ps A a) 0 b
noncomputable def dj(b:dG)(ps:List Nat)(A:bH α)(a:α):aq:=aq.nil.adds (By b ps A a)
noncomputable def dT(b:dG)(ps:List Nat)(A:bH α)(a:α):List V:=pG (sq b ps A a) 0 b (A.lay a 0).2.length
structure Fin(tb:List Nat)(A:bH α)(B:bH β)(a:α)(m:Nat)(J1:aq)(v1:V)(d:β)(ks1:List Nat):Prop where
 rd:B.rd J1 [v1]=some (d,ks1)
 new:∀ k∈ks1,m<=k
 nd:ks1.Nodup
 tx:∀ i∈tb,J1.t.get i=some .gA
 un:∀ i o,i∉tb->(A.lay a 0).2[i]? = some o->J1.t.get i=some o
noncomputable def oA(B:bH β)(J:aq)(tb cs:List Nat)(d:β):aq:=((J.kill cs).vH tb).adds (B.lay d J.n).2
noncomputable def nU(B:bH β)(J:aq)(d:β):V:=V.at (B.lay d J.n).1 0
inductive sJ(tb:List Nat)(D:Wd)(Y':Gm)(ρ0:List Addr)(A:bH α)(B:bH β)(a:α)(m:Nat)(d:β)(g:Flow)(s:Shared):Prop where
 |mk (ρ':List Addr) (v1:V) (J1:aq) (e1:List V) (ks1:List Nat) (y:Value) (hg:g = .ret y) (hv:VR D (ρ0++ρ') v1 y) (S:St D Y' (ρ0++ρ') J1 e1 s) (F:Fin tb A B a m J1 v1 d ks1)
theorem eK{ρ:List Addr}{k:Nat}{a:Addr}(h:ρ[k]? = some a):ρ.getD k 0=a:=by simp[List.getD,h]
theorem pn{α β:Type}{f:α->β}{l:List α}{i:Nat}{a:α}(h:l[i]? = some a):(l.map f)[i]? = some (f a):=by simp[h]
theorem iO.ud{R:Nat->Nat->Prop}{v v':V}(h:iO R v v'):aE v'=none:=by
 cases h with
 |ref h=>rfl
 |same h1 h2=>exact h2
theorem iL{ρ:List Addr}(h:ρ.Nodup):∀ {ks:List Nat},ks.Nodup->(∀ k∈ks,k<ρ.length)->(ks.map fun k=>ρ.getD k 0).Nodup
 |[],_,_=>WR
 |k::r,hk,hl=>by
  refine bU (ZN.mp hk) fun h1 h2=>?_
  refine ZN.mpr ⟨fun q=>?_,iL h h2 fun k hk=>hl k (ZY _ hk)⟩
  refine aF (Za.mp q) fun j hj e=>?_
  haveI l1:=hl k ZX
  have l2:=hl j (ZY _ hj)
  haveI g1:=Z7 l1
  haveI g2:=Z7 l2
  dsimp only at e
  simp only[eK g1,eK g2] at e
  exact h1 (dF h g1 (e▸g2)▸hj)
theorem wU.lt{A:bH α}{a:α}(P:wU tb J Z b ps A a ws ks cs){k:Nat}(h:k∈ks++cs):∃ o,J.t.get k=some o:=by
 rcases Zy.mp h with h | h
 ·obtain⟨i,hi,e⟩:=Zt.mp h
  obtain⟨l,_,o⟩:=A.ok P.args 0 (fun zz zz=>True) fun zz zz zz=>trivial
  have:(A.lay a 0).2[i]? = some ((A.lay a 0).2[i]'(om [_,_,_] [(.s (.v 0),.v 1),(.v 1,.v 2)] (.s (.v 0),.v 2) rfl hi (lC l))):=Z7 _
  obtain⟨_,k',o',g1,g2,_⟩:=o i _ this
  have:ks[i]? = some k:=by rw[<-e];exact Z7 hi
  rw[this] at g1;obtain rfl:=Z9 g1
  exact⟨o',g2⟩
 ·obtain⟨i,hi,e⟩:=Zt.mp h
  obtain⟨_,_,l3⟩:=tU 0 0 (fun zz=>V.ah) P.slots
  obtain⟨_,g⟩:=qQ 0 0 P.slots
  obtain⟨c,_,w,g1,g2,_⟩:=g i _ (Z7 (om [_,_,_] [(.s (.v 0),.v 1),(.v 1,.v 2)] (.s (.v 0),.v 2) rfl hi (lC l3)))
  have:cs[i]? = some k:=e▸(Z7 hi)
  rw[this] at g1;obtain rfl:=Z9 g1
  exact⟨_,g2⟩
theorem vi(S:St D Y ρ J Z s){A:bH α}{a:α}(P:wU tb J Z b ps A a ws ks cs)(hnm:Y.nm=bA b)(hz:Y.fz=fun zz=>none){ρ0:List Addr}(hρ:ρ0=(ks++cs).map fun k=>ρ.getD k 0){kp:Addr->Option Obj}(hkp:kp=fun a=>if a∈Y.own ρ0 then none else s.heap.get? a) :
  St D (Y.cT kp Y.fz) ρ0 (dj b ps A a) (dT b ps A a) s:=by
 haveI hJ:J.Ok:=S.full
 let R:Nat->Nat->Prop:=fun k k'=>(ks++cs)[k']? = some k
 have hR:∀ k k' a,R k k'->ρ[k]? = some a->ρ0[k']? = some a:=fun k k' a h e=>by
  rw[hρ,pn h,eK e]
 obtain⟨hl,hv,ho⟩:=A.ok P.args 0 R fun i k e=>by rw[YA];exact get_append e
 refine gm (tU 0 (A.lay a 0).2.length (sq b ps A a) P.slots) fun l1 l2 l3=>?_
 refine bU (qQ (pv:=sq b ps A a) 0 (A.lay a 0).2.length P.slots) fun g1 g2=>?_
 have hlt:∀ k∈ks++cs,k<ρ.length:=fun k h=>by
  refine df (P.lt h) fun o e=>?_
  exact S.num▸(hJ.get e)
 have hsub:∀ x∈ρ0,x∈ρ:=fun x h=>by
  rw[hρ] at h
  refine aF (Za.mp h) fun k hk e=>?_
  haveI:=Z7 (hlt k hk)
  rw[eK this] at e
  exact e▸(Y0 _)
 have hnd:=ZN.mp S.nd
 refine gm (Zl.mp hnd.2) fun n1 n2 n3=>?_
 refine S.sZ hR ?_ ((aq.iZ).adds _) ?_ (fun k' o' h=>?_) (fun x o h=>?_) (fun x h=>by rw[hkp];exact if_pos h) (fun m h=>?_) hz
 ·show(aq.nil.adds _).n=_
  rw[aq.cf,hρ]
  simp[By,hl,l3,aq.nil]
 ·refine ZN.mpr ⟨fun h=>hnd.1 ?_,Zl.mpr (c9 n1 ?_ (fun x hx y hy e=>n3 x hx y (hsub y hy) e))⟩
  ·rcases Zy.mp h with h | h
   ·exact Zm _ h
   ·exact ZM _ (hsub _ h)
  ·rw[hρ];exact iL n2 P.nd hlt
 ·haveI h:(aq.nil.adds _).t.get k'=some o':=h
  rw[aq.fM aq.iZ,if_neg (by simp[aq.nil])] at h
  have h:_[k']? = some o':=h
  unfold By at h
  by_cases q:k'<(A.lay a 0).2.length
  ·rw[Yt q] at h
   obtain⟨_,k,o,e1,e2,e3⟩:=ho k' o' h
   haveI hk:R k k':=get_append e1
   haveI:=hlt k (Zm _ (ZK e1))
   exact vx k o _ hk (Z7 this) e2 e3
  ·rw[ZF (XN q)] at h
   obtain⟨c,i,w,e1,e2,e3,e4,e5⟩:=g2 _ o' h
   haveI hk:R c k':=by
    show(ks++cs)[k']? = some c
    rw[ZF (by omega),<-hl];exact e1
   haveI:=hlt c (ZM _ (ZK e1))
   refine vx c _ _ hk (Z7 this) e2 ?_
   rw[e4,YA]
   refine .cell ?_
   by_cases hi:i∈ps
   ·rw[<-e3];exact qh ps _ i hv hi
   ·rw[<-e3,P.ah i e5 hi,sq,lX ps _ i hi];exact .same rfl rfl
 ·rw[hkp] at h
  dsimp only at h
  split at h
  ·contradiction
  ·exact h
 ·refine bU h fun h1 h2=>?_;clear h
  refine⟨by rw[hnm];show(pG _ _ _ _).length=_;refine(l2).trans ?_;simp[bA],fun i x hx=>?_⟩
  have hi:i<b.length:=by
   rw[hnm] at hx
   haveI:=(ZP.mp hx).1
   simpa [bA] using this
  have hs:=h2 i x hx
  cases g1 i hi with
  |aI c j e1 e2 e3=>
   obtain⟨k1,y,k2,k3⟩:=hs.aI (by rw[e1];rfl)
   refine iI.oy (by show aE (V.at (pG _ _ _ _) i)=_;rw[e3];rfl) ⟨k1,y,k2,hR c _ y ?_ k3⟩
   show(ks++cs)[_]? = some c
   rw[hl,ZF (Zp _ _),Yx];exact e2
  |loc e1 e2 e3=>
   refine bU (hs.loc e1) fun k1 k2=>?_
   have e2:V.at (dT b ps A a) i=vh ps (A.lay a 0).1 i:=by rw[<-YA i];rw[YA];exact e2.trans (by rw[YA];rfl)
   by_cases hip:i∈ps
   ·haveI hr:=qh ps _ i hv hip
    replace hr:=e3▸hr
    haveI hc:=hr.ud
    refine iI.jQ (e2▸hc) ⟨k1,?_⟩
    refine e2▸?_
    rcases k2 with k2 | ⟨y,k2,k3⟩
    ·replace hr:=k2▸hr
     generalize vh ps (A.lay a 0).1 i=v' at hr
     cases hr
     exact .inl rfl
    ·exact .inr (aY y k2 (k3.sZ hR hr))
   ·haveI e4:=e2.trans (lX ps _ i hip)
    exact iI.jQ (e4▸rfl) ⟨k1,.inl e4⟩
theorem wU.sub(S:St D Y ρ J Z s){A:bH α}{a:α}(P:wU tb J Z b ps A a ws ks cs):(∀ k∈ks++cs,k<ρ.length)/\∀ x∈(ks++cs).map fun k=>ρ.getD k 0,x∈ρ:=by
 haveI hJ:J.Ok:=S.full
 have hlt:∀ k∈ks++cs,k<ρ.length:=fun k h=>by
  refine df (P.lt h) fun o e=>?_
  exact S.num▸(hJ.get e)
 refine⟨hlt,fun x h=>?_⟩
 refine aF (Za.mp h) fun k hk e=>?_
 haveI:=Z7 (hlt k hk)
 rw[eK this] at e
 exact e▸(Y0 _)
theorem vf(S:St D Y ρ J Z s){A:bH α}{B:bH β}{a:α}(P:wU tb J Z b ps A a ws ks cs)(hz:Y.fz=fun zz=>none){ρ0:List Addr}(hρ:ρ0=(ks++cs).map fun k=>ρ.getD k 0){kp:Addr->Option Obj}(hkp:kp=fun a=>if a∈Y.own ρ0 then none else s.heap.get? a){ρ':List Addr}{J1:aq}{e1:List V}{s':Shared}(S1:St D (Y.cT kp Y.fz) (ρ0++ρ') J1 e1 s'){d:β}{v1:V}{y:Value}{ks1:List Nat}(hv:VR D (ρ0++ρ') v1 y)(F:Fin tb A B a ρ0.length J1 v1 d ks1) :
  ∃ ρ'',VR D (ρ++ρ'') (nU B J d) y/\St D Y (ρ++ρ'') (oA B J tb cs d) (pC Z) s':=by
 have hJ:J.Ok:=S.full
 have hJ1:J1.Ok:=S1.full
 refine bU (P.sub S) fun hlt hsub=>?_
 replace hsub:=hρ▸hsub
 have hlen0:ρ0.length=(ks++cs).length:=by rw[hρ];simp
 let R:Nat->Nat->Prop:=fun k k'=>(ks++cs)[k]? = some k'∨∃ i:Nat,ks1[i]? = some k/\k'=J.n+i
 obtain⟨bl,bv,bo⟩:=B.ok F.rd J.n R fun i k e=>.inr (aY i e rfl)
 have hlt1:∀ k∈ks1,k<(ρ0++ρ').length:=fun k h=>by
  obtain⟨i,hi,e⟩:=Zt.mp h
  refine bU (bo i _ (Z7 (om [_,_,_] [(.v 0,.v 1),(.s (.v 2),.v 0)] (.s (.v 2),.v 1) rfl (lC bl) hi))) fun zz qz0=>?_;obtain⟨k',o',g1,g2,_⟩:=qz0
  haveI:ks1[i]? = some k:=e▸(Z7 hi)
  replace g1:=(this).symm.trans g1;obtain rfl:=Z9 g1
  exact S1.num▸(hJ1.get g2)
 have hnd:=ZN.mp S.nd
 refine gm (Zl.mp hnd.2) fun n1 n2 n3=>?_
 have hnd1:=ZN.mp S1.nd
 refine gm (Zl.mp hnd1.2) fun m1 m2 m3=>?_
 refine gm (Zl.mp m2) fun zz zz m4=>?_
 let ρ2:=ks1.map fun k=>(ρ0++ρ').getD k 0
 have hin:∀ x∈ρ2,x∈ρ0++ρ'/\x∉ρ0:=fun x h=>by
  refine aF (Za.mp h) fun k hk e=>?_
  haveI h1:=Z7 (hlt1 k hk)
  haveI e:=e
  rw[eK h1] at e
  haveI h2:=F.new k hk
  have h3:x∈ρ':=by
   rw[<-e,List.getElem_append_right h2];exact Y0 _
  exact⟨ZM _ h3,fun h4=>m4 x h4 x h3 rfl⟩
 have hout:=fun x h hx=>by
  refine bU (hin x h) fun h1 h2=>?_
  haveI h3:kp x=none:=S1.ap x (ZY _ (ZM _ h1))
  have h4:x∉Y.own ρ0:=fun q=>by
   rcases ZS.mp q with q | q
   ·exact hnd.1 (q▸ZM _ hx)
   ·rcases Zy.mp q with q | q
    ·exact n3 x q x hx rfl
    ·exact h2 q
  replace h3:=hkp▸h3
  dsimp only at h3
  replace h3:=(if_neg h4).symm.trans h3
  refine df (S.live (ZY _ (ZM _ hx))) fun o ho=>?_
  rw[ho] at h3;exact Zx _ h3
 have hle:∀ x o,Y.kp x=some o->kp x=some o:=fun x o h=>by
  rw[hkp]
  dsimp only
  rw[if_neg,S.keep x o h]
  intro q
  haveI:x∈Y.own ρ:=by
   rcases ZS.mp q with q | q
   ·exact q▸ZX
   ·rcases Zy.mp q with q | q
    ·exact ZY _ (Zm _ q)
    ·exact ZY _ (ZM _ (hsub x q))
  replace h:=(S.ap x this).symm.trans h;contradiction
 have hR:∀ k k' a,R k k'->(ρ0++ρ')[k]? = some a->(ρ++ρ2)[k']? = some a:=fun k k' a h e=>by
  rcases h with h | ⟨i,h1,h2⟩
  ·haveI h3:k<ρ0.length:=by rw[hlen0];exact(ZP.mp h).1
   rw[Yt h3,hρ,pn h] at e
   haveI:=Z7 (hlt k' (ZK h))
   rw[eK this] at e
   obtain rfl:=Z9 e
   exact get_append this
  ·rw[h2,S.num,ZF (Zp _ _),Yx,pn h1,eK e]
 refine aY ρ2 ?_ (S1.Fi hle hR ?_ (((aq.Ok.kill hJ cs).vH tb).adds _) ?_ (fun x h=>?_) (fun k' o' h=>?_) (fun m zz=>?_) hz)
 ·unfold nU
  generalize (B.lay d J.n).1=l at bv ⊢
  cases bv with
  |cons h t=>exact hv.sZ hR h
 ·show(aq.adds _ _).n=_
  rw[aq.cf,aq.zm,aq.sR,bl,S.num]
  simp[ρ2]
 ·refine ZN.mpr ⟨fun h=>?_,Zl.mpr (c9 n1 (Zl.mpr ⟨n2,iL m2 F.nd hlt1,fun x hx y hy e=>hout y hy (e▸hx)⟩) (fun x hx y hy e=>?_))⟩
  ·rcases Zy.mp h with h | h
   ·exact hnd.1 (Zm _ h)
   ·rcases Zy.mp h with h | h
    ·exact hnd.1 (ZM _ h)
    ·exact hnd1.1 (ZM _ (hin _ h).1)
  ·rcases Zy.mp hy with h | h
   ·exact n3 x hx y h e
   ·exact m3 x hx y (hin _ h).1 e
 ·haveI:x∈Y.own ρ∨x∈ρ2:=by
   rcases ZS.mp h with h | h
   ·exact .inl (h▸ZX)
   ·rcases Zy.mp h with h | h
    ·exact .inl (ZY _ (Zm _ h))
    ·rcases Zy.mp h with h | h
     ·exact .inl (ZY _ (ZM _ h))
     ·exact .inr h
  rcases this with h | h
  ·exact S.ap x h
  ·haveI h3:kp x=none:=S1.ap x (ZY _ (ZM _ (hin x h).1))
   refine bI (Y.kp x) (fun q=>?_) fun o q=>?_
   ·rfl
   ·rw[hle x o q] at h3;contradiction
 ·haveI h:(((J.kill cs).vH tb).adds (B.lay d J.n).2).t.get k'=some o':=h
  rw[aq.fM ((aq.Ok.kill hJ cs).vH tb),aq.zm,aq.sR] at h
  by_cases q:k'<J.n
  ·rw[if_pos q,aq.pP] at h
   by_cases qt:k'∈tb
   ·replace h:=(if_pos qt).symm.trans h
    have:o' = .gA:=by
     refine bI ((J.kill cs).t.get k') (fun q3=>?_) fun x q3=>?_
     ·rw[q3] at h;contradiction
     ·rw[q3] at h;injection h with h__;clear h;refine h__▸?_;rfl
    exact .inr (rm k' .gA (.inl (get_append (P.tab k' qt))) (F.tx k' qt) (by rw[this];exact .gA))
   rw[if_neg qt,aq.mZ] at h
   by_cases q2:k'∈cs
   ·replace h:=(if_pos q2).symm.trans h
    obtain⟨j,h1⟩:∃ j,(ks++cs)[j]? = some k':=by
     obtain⟨j,hj,e⟩:=Zt.mp q2
     exact⟨ks.length+j,by rw[ZF (Zp _ _),Yx,<-e];exact Z7 hj⟩
    haveI h2:j<J1.n:=by
     haveI:=(ZP.mp h1).1
     exact S1.num▸ZI▸hlen0▸(Nat.lt_add_right _ ‹_›)
    obtain⟨o,ho⟩:=YV.mp ((hJ1 _).mpr h2)
    haveI:o' = .dead:=by
     refine bI (J.t.get k') (fun q3=>?_) fun x q3=>?_
     ·rw[q3] at h;contradiction
     ·rw[q3] at h;injection h with h__;clear h;refine h__▸?_;rfl
    exact .inr (rm _ o (.inl h1) ho (this▸.dead))
   ·replace h:=(if_neg q2).symm.trans h
    by_cases q3:k'∈ks
    ·obtain⟨i,hi,e⟩:=Zt.mp q3
     have h0:ks[i]? = some k':=e▸(Z7 hi)
     obtain⟨al,_,ao⟩:=A.ok P.args 0 (fun k k'=>(ks++cs)[k']? = some k) fun i k e=>by rw[YA];exact get_append e
     haveI h1:=Z7 (i:=i) (om [_,_,_] [(.s (.v 0),.v 1),(.v 1,.v 2)] (.s (.v 0),.v 2) rfl hi (lC al))
     obtain⟨dd,k2,o2,g1,g2,g3⟩:=ao i _ h1
     rw[h0] at g1;clear e;obtain rfl:=Z9 g1
     rw[h] at g2;obtain rfl:=Z9 g2
     exact .inr (rm i _ (.inl (get_append h0)) (F.un i _ (fun q=>qt (by
      haveI:=(P.tab i q).symm.trans h0
      have h__:=Z9 this;clear dd;clear g3;clear h0;clear h1;clear this;cases h__;exact q)) h1) (g3.inv (fun k k' e=>.inl e) dd))
    ·obtain⟨x,o,g1,g2,g3⟩:=S.obj k' o' h
     refine .inl (rm x o (get_append g1) ?_ g3.mono)
     rw[hkp]
     dsimp only
     have hx:=ZK g1
     rw[if_neg,g2]
     intro q4
     rcases ZS.mp q4 with q4 | q4
     ·exact hnd.1 (q4▸ZM _ hx)
     ·rcases Zy.mp q4 with q4 | q4
      ·exact n3 x q4 x hx rfl
      ·rw[hρ] at q4
       refine aF (Za.mp q4) fun j hj e=>?_
       haveI:=Z7 (hlt j hj)
       haveI e:=e
       rw[eK this] at e
       rw[e] at this
       haveI:=dF n2 this g1
       rcases Zy.mp hj with hj | hj
       ·exact q3 (this▸hj)
       ·exact q2 (this▸hj)
  ·replace h:=(if_neg q).symm.trans h
   refine bU (bo _ o' h) fun zz qz4=>?_;obtain⟨k,o,g1,g2,g3⟩:=qz4
   exact .inr (rm k o (.inr ⟨_,g1,(YW (om [_,_,_] [(.v 0,.a (.v 1) (.v 2))] (.v 0,.a (.v 2) (.v 1)) rfl DW) (om [_,_,_] [(.a (.v 0) (.v 1),.v 2)] (.a (.v 1) (.v 0),.v 2) rfl (Gz (om [_,_] [(.v 0,.v 1)] (.v 0,.v 1) rfl (XN q)))))⟩) g2 g3)
 ·refine iu S.loc fun m0 zz h1 h2=>?_
  refine⟨by rw[ql];exact h1,fun i x hx=>?_⟩
  haveI hs:=h2 i x hx
  rw[uy]
  refine bI (aE (V.at Z i)) (fun e=>?_) fun k e=>?_
  ·exact iI.jQ rfl ⟨(hs.loc e).1,.inl rfl⟩
  ·refine bU (hs.aI e) fun k1 qz6=>?_;obtain⟨y,k2,k3⟩:=qz6
   exact iI.oy rfl ⟨k1,y,k2,get_append k3⟩
theorem wR{t:Sem Flow}(S:St D Y ρ J Z s){A:bH α}{B:bH β}{a:α}(P:wU tb J Z b ps A a ws ks cs)(hnm:Y.nm=bA b){d:β}(H:∀ (kp:Addr->Option Obj) ρ0,Y.Le (Y.cT kp Y.fz)->ρ0.length=(dj b ps A a).n->St D (Y.cT kp Y.fz) ρ0 (dj b ps A a) (dT b ps A a) s->wpAny (model D.prog D.w) Y.A t (sJ tb D (Y.cT kp Y.fz) ρ0 A B a (dj b ps A a).n d) (fun zz zz=>False) s) :
  wpAny (model D.prog D.w) Y.A t (Out D Y ρ (bX D) (.ret (nU B J d)) (oA B J tb cs d) (pC Z)) (fun zz zz=>False) s:=by
 have hz:Y.fz=fun zz=>none:=by
  funext x
  refine bI (Y.fz x) (fun q=>?_) fun o q=>?_
  ·rfl
  ·obtain⟨_,k,es,_,_,g⟩:=S.d4 x o q
   rw[P.fz] at g;exact Bool.noConfusion g
 haveI S0:=vi S P hnm hz rfl rfl
 refine ZO (H _ _ (Gm.Le.of fun x o h=>?_) S0.num.symm S0) (fun g s' h=>?_) fun zz zz h=>h
 ·show _=_
  rw[if_neg,S.keep x o h]
  intro q
  haveI:x∈Y.own ρ:=by
   rcases ZS.mp q with q | q
   ·exact q▸ZX
   ·rcases Zy.mp q with q | q
    ·exact ZY _ (Zm _ q)
    ·exact ZY _ (ZM _ ((P.sub S).2 x q))
  replace h:=(S.ap x this).symm.trans h;contradiction
 ·obtain⟨ρ',v1,J1,e1,ks1,y,hg,hv,S1,F⟩:=h
  rw[S0.num] at F
  refine aF (vf S P hz rfl rfl S1 hv F) fun ρ2 h1 h2=>?_
  exact⟨ρ2,(aY y hg h1),h2⟩
end
end
section
variable {b:dG}{tb ps:List Nat}{m:M Fl}
section
variable {D:Wd}{Y:Gm}{ρ:List Addr}{J:aq}{Z:List V}{s:Shared}{α β:Type}
inductive ng(tb:List Nat)(b:dG)(ps:List Nat)(A:bH α)(B:bH β)(sp:α->Option β)(J:aq)(Z:List V):Rs Fl->Prop where
 |mk {a:α} {ws:List V} {ks cs:List Nat} {d:β} (P:wU tb J Z b ps A a ws ks cs) (h:sp a=some d):ng tb b ps A B sp J Z (.ok (.ret (nU B J d)) (oA B J tb cs d) (pC Z))
theorem ng.det{A:bH α}{B:bH β}{sp:α->Option β}{r r':Rs Fl}(h:ng tb b ps A B sp J Z r)(h':ng tb b ps A B sp J Z r'):r=r':=by
 cases h with
 |mk P h=>
 cases h' with
 |mk P' h'=>
  have e:=P.slots.symm.trans P'.slots
  have h__:=Z9 e;cases h__
  have e:=P.args.symm.trans P'.args
  have h__:=Z9 e;cases h__
  have e:=h.symm.trans h'
  injection e with h__;clear h';refine h__▸?_
  rfl
open Classical in
noncomputable def j9(tb:List Nat)(b:dG)(ps:List Nat)(A:bH α)(B:bH β)(sp:α->Option β):M Fl:=fun J Z=>if h:∃ r,ng tb b ps A B sp J Z r then h.choose else .bad
theorem ip{A:bH α}{B:bH β}{sp:α->Option β}{r:Rs Fl}(h:ng tb b ps A B sp J Z r):j9 tb b ps A B sp J Z=r:=by
 haveI hh:∃ r,ng tb b ps A B sp J Z r:=⟨r,h⟩
 skip
 refine(dif_pos hh).trans ?_
 exact hh.choose_spec.det h
theorem ib{A:bH α}{B:bH β}{sp:α->Option β}:au [j9 tb b ps A B sp]=j9 tb b ps A B sp:=by
 funext J Z
 by_cases hh:∃ r,ng tb b ps A B sp J Z r
 ·obtain⟨r,h⟩:=hh
  refine(ip h)▸?_
  have e:=ip h
  cases h with
  |mk P h=>exact ag e
 ·haveI e:j9 tb b ps A B sp J Z = .bad:=by skip;exact dif_neg hh
  exact e▸(ed e)
theorem aw.j9{t:Sem Flow}{A:bH α}{B:bH β}{sp:α->Option β}(hnm:Y.nm=bA b)(H:∀ Y' ρ0 a d s,Y.Le Y'->sp a=some d->ρ0.length=(dj b ps A a).n->St D Y' ρ0 (dj b ps A a) (dT b ps A a) s->wpAny (model D.prog D.w) Y'.A t (sJ tb D Y' ρ0 A B a (dj b ps A a).n d) (fun zz zz=>False) s):aw D Y t (bX D) (au [j9 tb b ps A B sp]):=by
 rw[ib]
 intro ρ J Z s S
 by_cases hh:∃ r,ng tb b ps A B sp J Z r
 ·obtain⟨r,h⟩:=hh
  rw[ip h]
  cases h with
  |mk P h=>exact wR S P hnm fun kp ρ0 hle hl S0=>H _ _ _ _ _ hle h hl S0
 ·rw[show Mine.j9 tb b ps A B sp J Z = .bad by unfold Mine.j9;rw[dif_neg hh]];trivial
inductive jK(tb:List Nat)(b:dG)(ps:List Nat)(A:bH α)(B:bH β)(m:M Fl)(a:α)(d:β):Prop where
 |mk (v1:V) (J1:aq) (e1:List V) (ks1:List Nat) (h:m (dj b ps A a) (dT b ps A a) = .ok (.ret v1) J1 e1) (F:Fin tb A B a (dj b ps A a).n J1 v1 d ks1)
open Classical in
noncomputable def um(tb:List Nat)(b:dG)(ps:List Nat)(A:bH α)(B:bH β)(m:M Fl)(a:α):Option β:=if h:∃ d,jK tb b ps A B m a d then some h.choose else none
theorem rj{A:bH α}{B:bH β}{a:α}{d:β}(h:jK tb b ps A B m a d):um tb b ps A B m a=some d:=by
 have hh:∃ d,jK tb b ps A B m a d:=⟨d,h⟩
 skip
 refine(dif_pos hh).trans ?_
 haveI h2:=hh.choose_spec
 obtain⟨v1,J1,e1,ks1,g1,F1⟩:=h
 obtain⟨v2,J2,e2,ks2,g2,F2⟩:=h2
 replace g2:=(g1).symm.trans g2
 cases g2
 haveI:=F1.rd.symm.trans F2.rd
 simp only[YN,Prod.mk.injEq] at this
 exact this.1▸rfl
theorem ym{A:bH α}{B:bH β}{a:α}{d:β}(h:um tb b ps A B m a=some d):jK tb b ps A B m a d:=by
 unfold um at h
 by_cases hh:∃ d,jK tb b ps A B m a d
 ·rw[dif_pos hh] at h
  obtain rfl:=Z9 h
  exact hh.choose_spec
 ·rw[dif_neg hh] at h;contradiction
noncomputable def fB(b:dG)(ps:List Nat)(A:bH α)(B:bH β)(m:M Fl):M Fl:=j9 [] b ps A B (um [] b ps A B m)
theorem aw.fB{t:Sem Flow}{A:bH α}{B:bH β}(hnm:Y.nm=bA b)(hm:∀ Y',Y.Le Y'->aw D Y' t (bX D) m):aw D Y t (bX D) (au [fB b ps A B m]):=
 aw.j9 hnm fun Y' ρ0 a d s hle h hl S0=>by
  obtain⟨v1,J1,e1,ks1,g1,F1⟩:=ym h
  have:=hm Y' hle ρ0 _ _ s S0
  rw[g1] at this
  refine ZO this (fun g s' h=>?_) fun zz zz h=>h
  obtain⟨ρ',⟨y,hg,hv⟩,S1⟩:=h
  exact⟨ρ',v1,J1,e1,ks1,y,hg,hv,S1,F1⟩
end
end
section
variable {a b:Addr}{fn:Fn}{h:Heap}{n:Nat}{scope:Scope}
noncomputable def Iq:Bool->Nat->O
 |true=>fun d=>.node [.ah,.ah,.ah] d
 |false=>.inst
noncomputable def JF(D:Wd):Bool->Addr
 |true=>D.node
 |false=>D.jx
noncomputable def pI(fns:List (Nat×Fn))(cl:List (Nat×Bool×Nat))(scr:List Int):Nat->eP
 |0=>fun zz zz=>.bad
 |n+1=>fun f args=>match cl.lookup f with
  |some (nd,i)=>mkObj (Iq nd) (pI fns cl scr n i) args
  |none=>match fns.lookup f with
   |some fn=>aU (pI fns cl scr n) scr fn args
   |none=>.bad
structure Pg(D:Wd)(T:Tab)(fns:List (Nat×Fn))(cl:List (Nat×Bool×Nat))(fa ca:List (Nat×Addr)):Prop where
 top:Tp D T
 yA:∀ f a,fa.lookup f=some a->∃ fn scope body,fns.lookup f=some fn/\cl.lookup f=none/\AQ D a fn scope body/\∀ F n Y,ru D T F n->iJ D a scope fn.names n Y->aw D Y (execs body Y.env) (bX D) (au (fn.body F D.scr))
 FI:∀ f a,ca.lookup f=some a->∃ nd i fI,cl.lookup f=some (nd,i)/\fa.lookup i=some fI/\a=JF D nd/\makesIn D.K a=true/\findIn D.K (.ref a) "__init__" = some (some (.ref fI))/\typeIn D.K (.ref fI)=some (.type "function")
 Io:∀ f x,T.fn.lookup x=some f->(x==("__debug__" : Str))=false/\∃ a,fa.lookup f=some a/\D.mg x=some (.ref a)
 Gn:∀ f x,T.cls.lookup x=some f->(x==("__debug__" : Str))=false/\∃ a o cd,ca.lookup f=some a/\D.mg x=some (.ref a)/\D.K.lookup a=some o/\o.data = .cls cd/\specialIn D.K (.ref a) "__call__" = some (some (.builtin "type.__call__"))
 FX:∀ f x,T.own.lookup x=some f->x∉dw/\∃ a,fa.lookup f=some a/\findIn D.K (.ref D.jx) x=some (some (.ref a))/\typeIn D.K (.ref a)=some (.type "function")
section
variable {D:Wd}{T:Tab}{fns:List (Nat×Fn)}{cl:List (Nat×Bool×Nat)}{fa ca:List (Nat×Addr)}
theorem iJ.bk{b:dG}{Y:Gm}(H:iJ D a scope b n Y):Bk D n Y 0 ⟨scope.names,bA b⟩:=
 ⟨H.blok,H.handled,H.EO.dU H.blok,fun zz=>⟨H.handled,H.units,H.depth⟩,fun x k h=>.inl (by unfold Env.kindOf;rw[H.scope];exact h),H.nm⟩
theorem yK(top:Tp D T){body:List Stmt}(h:∀ F,body.map (cS T F D.scr 40 ⟨scope.names,bA fn.names⟩ 0)=fn.body F D.scr) :
  ∀ F n Y,ru D T F n->iJ D a scope fn.names n Y->aw D Y (execs body Y.env) (bX D) (au (fn.body F D.scr)):=fun F n Y hO hb=>by
 rw[<-h];exact aw.ma fun x=>Eg top hO 40 hb.bk hb.EO x
theorem wh(top:Tp D T){body:List Stmt}{b0:eP->List (M Fl)}{α β:Type}{A:bH α}{B:bH β}{ps:List Nat}(h:∀ F,body.map (cS T F D.scr 40 ⟨scope.names,bA fn.names⟩ 0)=b0 F)(hf:∀ F,fn.body F D.scr=[fB fn.names ps A B (au (b0 F))]) :
  ∀ F n Y,ru D T F n->iJ D a scope fn.names n Y->aw D Y (execs body Y.env) (bX D) (au (fn.body F D.scr)):=fun F n Y hO hb=>by
 rw[hf]
 refine aw.fB hb.nm fun Y' hle=>?_
 haveI:aw D Y' _ (bX D) (au (b0 F)):=by rw[<-h];exact aw.ma fun x=>Eg top hO 40 (hb.bk.le hle) (hb.EO.le hle) x
 refine g9 hle fun kp fz kg qz1 zz=>?_;clear hle;subst qz1
 exact this
theorem Pg.H8(P:Pg D T fns cl fa ca)(h1:∀ f a,fa.lookup f=some a->gz D n (.ref a) (pI fns cl D.scr n f))(h2:∀ f a,ca.lookup f=some a->gz D n (.ref a) (pI fns cl D.scr n f)):ru D T (pI fns cl D.scr n) n where
 fn:=fun f x h=>by
  obtain⟨hdb,a,g1,g2⟩:=P.Io f x h
  refine u9 (P.yA f a g1) fun fn scope body zz zz H zz=>?_
  obtain⟨o,fd,ho,hd,_⟩:=H.obj
  exact⟨hdb,⟨a,o,fd,g2,ho,hd,h1 f a g1⟩⟩
 cls:=fun f x h=>by
  obtain⟨hdb,a,o,cd,g1,g2,g3,g4,g5⟩:=P.Gn f x h
  exact⟨hdb,⟨a,o,cd,g2,g3,g4,g5,h2 f a g1⟩⟩
 own:=fun f x h=>by
  obtain⟨hnf,a,g1,g2,g3⟩:=P.FX f x h
  refine u9 (P.yA f a g1) fun fn scope body zz zz H zz=>?_
  obtain⟨o,fd,ho,hd,_⟩:=H.obj
  exact⟨hnf,⟨a,o,fd,g2,g3,ho,hd,h1 f a g1⟩⟩
theorem Pg.ok(P:Pg D T fns cl fa ca):∀ n,(∀ f a,fa.lookup f=some a->gz D n (.ref a) (pI fns cl D.scr n f))/\∀ f a,ca.lookup f=some a->gz D n (.ref a) (pI fns cl D.scr n f)
 |0=>⟨fun zz zz zz zz zz zz zz zz zz zz zz zz zz zz zz zz h=>absurd rfl h,fun zz zz zz zz zz zz zz zz zz zz zz zz zz zz zz zz h=>absurd rfl h⟩
 |n+1=>by
  refine bU (Pg.ok P n) fun h1 h2=>?_
  haveI hO:=P.H8 h1 h2
  refine⟨fun f a hf=>?_,fun f a hf=>?_⟩
  ·refine u9 (P.yA f a hf) fun fn scope body g1 g2 H g3=>?_
   haveI:=FK H fun Y hb=>g3 _ n Y hO hb
   have e:pI fns cl D.scr (n+1) f=aU (pI fns cl D.scr n) D.scr fn:=by
    funext args
    show(match cl.lookup f with | some (nd,i)=>_ | none=>_)=_
    refine g2▸?_
    exact g1▸rfl
   rw[e];exact this
  ·refine IY (P.FI f a hf) fun nd i fI g1 g2 g3 g4 g5 g6=>?_
   haveI e:pI fns cl D.scr (n+1) f=mkObj (Iq nd) (pI fns cl D.scr n i):=by
    funext args
    show(match cl.lookup f with | some (nd,i)=>_ | none=>_)=_
    exact g1▸rfl
   rw[e]
   refine D0 g4 g5 g6 (fun ρ d b hb=>?_) (h1 i fI g2)
   clear e;clear g1;cases nd with
   |true=>
    clear g5;refine g3▸?_
    exact⟨b,#[],hb,rfl,rfl,fun i hi=>by
     haveI:(V.at [.ah,.ah,.ah] i) = .ah:=by
      match i,hi with
      |0,_=>rfl
      |1,_=>rfl
      |2,_=>rfl
     rw[this]
     exact .inl ⟨rfl,by rfl⟩⟩
   |false=>
    clear g5;refine g3▸?_
    exact aY b hb rfl
theorem fe.Dj{ns:List (Str×NameKind)}{b:dG}(h:fe [] b ns):(∀ p∈b,p.2 = .loc)->(∀ x∈ns,x.2≠.cell)/\∀ (i:Nat) (x:Str),(bA b)[i]? = some x->(x,NameKind.local)∈ns:=by
 induction h with
 |nil=>exact fun zz=>⟨nofun,fun i x h=>by contradiction⟩
 |loc t ih=>
  intro ha
  obtain⟨g1,g2⟩:=ih fun p hp=>ha p (ZY _ hp)
  refine⟨fun x hx=>?_,fun i x hx=>?_⟩
  ·rcases ZS.mp hx with rfl | hx
   ·exact nofun
   ·exact g1 x hx
  ·cases i with
   |zero=>obtain rfl:=Z9 hx;exact ZX
   |succ i=>exact ZY _ (g2 i x hx)
 |own t ih=>exact fun ha=>nomatch ha _ ZX
 |cM h t ih=>contradiction
 |glob t ih=>
  intro ha
  obtain⟨g1,g2⟩:=ih ha
  refine⟨fun x hx=>?_,fun i x hx=>ZY _ (g2 i x hx)⟩
  rcases ZS.mp hx with rfl | hx
  ·exact nofun
  ·exact g1 x hx
theorem mi:∀ {b:dG} {J:aq},(∀ p∈b,p.2 = .loc)->bq [] b J=(J,b.map fun zz=>.ah)
 |[],_,_=>rfl
 |(n,k)::r,J,h=>by
  haveI:=h _ ZX
  dsimp only at this
  refine this▸?_
  simp only[bq,mi fun p hp=>h p (ZY _ hp),Zi]
theorem tK:∀ (b:dG) (i:Nat),V.at (b.map fun zz=>V.ah) i = .ah
 |[],_=>rfl
 |_::_,0=>rfl
 |_::r,i+1=>tK r i
noncomputable def du:aq:=aq.nil.add (.tab 0)
noncomputable def zN(a:Addr)(h:Heap)(b:Addr):Option Obj:=if b=a then none else h.get? b
theorem kB{o:Obj}(hb:b≠a)(e:h.get? b=some o):zN a h b=some o:=by unfold zN;rw[if_neg hb];exact e
theorem Cv{o:Obj}(e:zN a h b=some o):b≠a/\h.get? b=some o:=by
 unfold zN at e
 by_cases q:b=a
 ·rw[if_pos q] at e;contradiction
 ·rw[if_neg q] at e;exact⟨q,e⟩
theorem wa{m:Str->Option Value}(hn:h.Ns b m)(ht:h.get? a=some {cls:=.none,data:=.fields #[]}):b≠a:=fun q=>by
 refine zQ hn fun o es ep e hd zz=>?_;clear hn
 rw[q,ht] at e;obtain rfl:=Z9 e;exact PySem.Data.noConfusion hd
theorem Pg.Jk(P:Pg D T fns cl fa ca){L:Nat}{nme:Str}{rest:dG}{s:Shared}{v:V}{J:aq}{e:List V}{Q:Value->Shared->Prop}{E:Value->Shared->Prop}(hL:fa.lookup L=some a)(hfn:fns.lookup L=some fn)(hn:n<=20)(hp:fn.bR=[0])(hst:fn.star=none)(hdf:fn.dflt=[])(hnm:fn.names=(nme,.loc)::rest)(hloc:∀ p∈fn.names,p.2 = .loc)(X:D.K.In s.heap)(hg:s.heap.Ns mainGlobals D.mg)(hb:s.heap.Ns builtinsNs D.mb)(hlim:s.heap.NoLimit){vs:List Value}(hl:s.heap.IsList D.sa vs.toArray)(hi:IntsAre vs D.scr)(hlen:D.scr.length<=63)(hgen:s.gens = #[])(hos:s.os=D.os)(hsys:(s.heap.get? sysModules).isSome=true)(htab:s.heap.get? D.tab=some {cls:=.none,data:=.fields #[]})(hKt:D.K.lookup D.tab=none)(hsm:sysModules≠D.tab)(hr:pI fns cl D.scr (n+1) L [.scr] du [] = .ok v J e)(hx:J.t.get 0=some .gA)(hQ:∀ y s' ρ,VR D ρ v y->(∀ b o,b≠D.tab->s.heap.get? b=some o->s'.heap.get? b=some o)->(∃ vs,s'.heap.get? D.tab=some {cls:=.none,data:=.fields vs})->s'.os=s.os->AllBare s'.gens->Q y s') :
  wpAny (model D.prog D.w) callerA (call (.ref a) [.ref D.sa]) Q E s:=by
 refine bU (P.ok n) fun h1 h2=>?_
 haveI hO:=P.H8 h1 h2
 refine u9 (P.yA L a hL) fun fn' scope body g1 g2 H g3=>?_
 rw[hfn] at g1
 obtain rfl:=Z9 g1
 haveI hbody:=fun Y hb=>g3 _ n Y hO hb
 have e1:pI fns cl D.scr (n+1) L=aU (pI fns cl D.scr n) D.scr fn:=by
  funext args
  show(match cl.lookup L with | some (nd,i)=>_ | none=>_)=_
  rw[g2]
  dsimp only
  rw[hfn]
 rw[e1] at hr
 obtain⟨o,fd,ho,hd,hcd,hsc,hbd,hgl,hbi,hclo,hp1,hp2,hp3,hnd,hpars,hstar⟩:=H.obj
 rw[hst] at hstar
 dsimp only at hstar
 obtain⟨hva,hdv⟩:=hstar
 have hdv:fd.defaults = .none:=by
  rcases hdv with⟨_,q⟩ | ⟨q,_⟩
  ·exact q
  ·rw[hdf] at q;contradiction
 have hpl:fd.params.args.length=1:=by
  haveI:=ZV List.length hpars
  rw[hp] at this
  simpa using this.symm
 obtain⟨p,hpq⟩:∃ p,fd.params.args=[p]:=WS.mp hpl
 have hpn:p.arg=nme:=by
  rw[hp,hpq,hnm] at hpars
  simpa [bA] using hpars.symm
 refine bU (H.sk.Dj hloc) fun hcell hmem=>?_
 haveI hent:=mi (J:=du) hloc
 haveI hf:gn fn [.scr]=some ([.scr],[]):=by unfold gn;rw[hdf,hp,hst];rfl
 have hrun:aU (pI fns cl D.scr n) D.scr fn [.scr] du []=C6 [] (M.bind (aU.fin (pI fns cl D.scr n) D.scr fn) (fun v=>M.ret v) du (.scr::rest.map fun zz=>.ah)):=by
  unfold aU
  rw[hf]
  dsimp only
  unfold aU.callIn
  rw[hst]
  dsimp only
  rw[hent,hp,hnm]
  haveI:M.bind (eB [0] [.scr]) (fun zz=>aU.fin _ D.scr fn) du (((nme,Sk.loc)::rest).map fun zz=>V.ah)=aU.fin (pI fns cl D.scr n) D.scr fn du (.scr::rest.map fun zz=>.ah):=rfl
  dsimp only
  rw[this]
  unfold C6 M.bind
  cases aU.fin _ D.scr fn du (.scr::rest.map fun zz=>.ah)<;>rfl
 rw[hrun] at hr
 refine W7 (codeAny_call_function (show callerA.depth<1000 by decide) (X _ _ ho) hd (hsc▸H.co) (hsc▸H.gen) hbd (codeRec_of X hcd) ?_)
 rw[gf hp1 hp2 hp3 hva hdv (by rw[hpl];rfl) hnd,hgl,hbi,hclo,hsc]
 refine ZW (wpAny_newFunctionEnv hcell (fun x hx=>?_) (fun h' hns hsb=>?_) H.kind)
 ·rw[hpq] at hx
  simp only[Zi,List.map_nil,List.zip_cons_cons,List.zip_nil_right,Zn] at hx
  rw[hx]
  dsimp only
  rw[hpn]
  exact lookup_mem H.nodup (hmem 0 _ (by rw[hnm];rfl))
 ·generalize henv:newEnv scope s.heap.objs.size mainGlobals [] _ (some a) fd.code none builtinsNs=env
  have e1:env.locals=s.heap.objs.size:=by rw[<-henv];rfl
  have e3:env.scope=scope:=by rw[<-henv];rfl
  have e4:env.globals=mainGlobals:=by rw[<-henv];rfl
  have e5:env.builtins=builtinsNs:=by rw[<-henv];rfl
  haveI e6:env.frame=some env.locals:=by rw[<-henv];rfl
  have keep:=fun b o e=>hsb.extBut b o (Zk (YG e)) (Zq _ e)
  haveI hL:s.heap.get? s.heap.objs.size=none:=Heap.get?_none_of_le (ZE _)
  have S:St D ⟨callerA.deeper env,env,zN D.tab s.heap,[],bA fn.names,fun zz=>none,fun zz=>none⟩ [D.tab] du (.scr::rest.map fun zz=>.ah) {s with heap:=h',toks:=s.toks+((fd.params.args.map (·.arg)).zip [Value.ref D.sa]).length}:={
   keep:=fun b o e=>keep b o (Cv e).2
   dU:=fun p hp=>by cases hp
   loc:=by
    refine iF _ (by rw[e1];exact hns) (by rw[hnm];simp[bA]) (fun i x hx=>?_)
    have hk:env.kindOf x=some .local:=by unfold Env.kindOf;rw[e3];exact lookup_mem H.nodup (hmem i x hx)
    cases i with
    |zero=>
     refine⟨hk,.inr (aY (.ref D.sa) ?_ rfl)⟩
     haveI hx:(bA fn.names)[0]? = some x:=hx
     rw[hnm] at hx
     simp only[bA,Zi,List.getElem?_cons_zero,YN] at hx
     rw[hpq]
     simp[hpn,<-hx]
    |succ i=>
     show iI D _ _ _ x (V.at (rest.map fun zz=>V.ah) i)
     rw[tK]
     exact⟨hk,.inl rfl⟩
   obj:=fun k o e=>by
    haveI hk:k<1:=(aq.Ok.add aq.iZ (.tab 0)).get e
    haveI hk:k=0:=(YW (om [_] [(.s (.v 0),.n 1)] (.v 0,.n 0) rfl hk) (om [_] [] (.n 0,.v 0) rfl))
    subst hk
    cases e
    exact⟨D.tab,_,rfl,keep _ _ htab,rfl,rfl⟩
   num:=rfl
   full:=aq.Ok.add aq.iZ (.tab 0)
   nd:=by
    have:env.locals≠D.tab:=fun q=>by
     rw[e1] at q
     rw[q] at hL
     rw[hL] at htab;cases htab
    simp[Gm.own,this]
   ap:=fun b hb=>by
    have hb:b=env.locals∨b=D.tab:=by simpa [Gm.own] using hb
    show zN D.tab s.heap b=none
    unfold zN
    by_cases q:b=D.tab
    ·rw[if_pos q]
    ·rw[if_neg q,hb.resolve_right q,e1];exact hL
   os:=hos
   gen:=⟨by rw[hgen];exact AllBare.empty,fun g x e=>by cases e⟩
   d4:=fun b o e=>by cases e}
  haveI K:iJ D a scope fn.names n ⟨callerA.deeper env,env,zN D.tab s.heap,[],bA fn.names,fun zz=>none,fun zz=>none⟩:={
   blok:={
    glob:=fun h hk=>by
     rw[e4,e5];exact⟨hg.at fun o e=>hk _ _ (kB (wa hg htab) e),hb.at fun o e=>hk _ _ (kB (wa hb htab) e)⟩
    eQ:=fun h hk b o e=>hk b o (kB (fun q=>by rw[q,hKt] at e;cases e) (X b o e))
    scr:=fun h hk=>(aY vs (hl.at fun o e=>hk _ _ (kB (fun q=>by
     refine iu hl fun o2 g1 g2 zz=>?_;clear hl
     rw[q,htab] at g1;cases g1;cases g2) e)) hi)
    d5:=hlen
    units:=by show callerA.units+3<=8000;decide
    depth:=by show callerA.depth+1<=800;decide
    qA:=by
     show(zN D.tab s.heap sysModules).isSome=true
     unfold zN
     rw[if_neg hsm];exact hsys
    lim:=fun h hk=>by
     refine aF hlim fun mc g1 g2=>?_;clear hlim
     exact aY mc (g1.at fun o e=>hk _ _ (kB (wa g1 htab) e)) g2
    ge:=⟨e4,e5⟩
    kind:=by show env.scope.kind=_;rw[e3];exact H.kind
    names:=H.names
    plain:=H.plain}
   EO:=⟨(aY [] rfl (fun e he=>by cases he)),e6⟩
   handled:=rfl
   units:=by show callerA.units+3+20*n+10<=8000;haveI:callerA.units=4:=rfl;omega
   depth:=by show callerA.depth+1+20*n+10<=800;haveI:callerA.depth=301:=rfl;omega
   scope:=e3
   nm:=rfl
   code:=fun o2 fd2 q1 q2=>by
    rw[ho] at q1;cases q1
    rw[hd] at q2;cases q2
    rw[<-henv];rfl}
  refine⟨hlim.keeps keep,codeAny_func ?_⟩
  haveI hW:=hbody _ K [D.tab] du (.scr::rest.map fun zz=>.ah)
  unfold aU.fin at hr
  refine pf (au (fn.body (pI fns cl D.scr n) D.scr) du (.scr::rest.map fun zz=>.ah)) (fun fl J2 Z2 q=>?_) (fun c x J2 Z2 q=>?_) fun q=>?_
  ·rw[q] at hW
   haveI e7:M.bind (au _) (fun fl=>match fl with
     |.ret v=>.ret v
     |.next=>.ret .none
     |_=>.bad) du (.scr::rest.map fun zz=>.ah)=(match fl with
     |.ret v=>M.ret v
     |.next=>M.ret V.none
     |_=>M.bad) J2 Z2:=ag q
   unfold M.bind at hr
   refine ZO (hW.to S (by intro h;cases h)) (fun g s3 h=>?_) fun zz zz h=>h.elim
   obtain⟨ρ3,hgf,S4⟩:=h
   haveI hk3:=fun b o hb e=>S4.keep b o (kB hb e)
   haveI ho3:=S4.os.trans hos.symm
   haveI htx:J2.t.get 0=some .gA->∃ vs,s3.heap.get? D.tab=some {cls:=.none,data:=.fields vs}:=fun h=>by
    obtain⟨a,x,g1,g2,vs,rfl⟩:=S4.obj 0 _ h
    cases g1
    exact⟨vs,g2⟩
   rw[q] at hr
   dsimp only at hr
   clear e7;clear hW;clear q;cases fl with
   |next=>
    cases(show g = .next from hgf)
    cases hr
    exact hQ _ _ ρ3 rfl hk3 (htx hx) ho3 S4.gen.bare
   |brk=>cases hr
   |cont=>cases hr
   |ret v'=>
    refine aF hgf fun y qz2 hy=>?_;clear hgf;refine qz2▸?_
    cases hr
    exact hQ _ _ _ hy hk3 (htx hx) ho3 S4.gen.bare
  ·rw[cj (cj q)] at hr;cases hr
  ·rw[ed (ed q)] at hr;cases hr
end
end
noncomputable def defAt(ss:List Stmt)(i:Nat)(j:Option Nat):Option (List (Str×NameKind)×FuncBody):=match ss[i]? with
 |some (.FunctionDef _ _ b _ _ _ sc _ _ _)=>some (sc.names,.stmts b)
 |some (.ClassDef _ _ _ b _ _ _ _ _ _ _)=>match j with
  |some j=>match b[j]? with
   |some (.FunctionDef _ _ b _ _ _ sc _ _ _)=>some (sc.names,.stmts b)
   |_=>none
  |none=>none
 |_=>none
section
variable {a:Addr}{fd:FuncData}
noncomputable def lW:Value->Bool
 |.none=>true
 |_=>false
theorem iW:∀ {v:Value},lW v=true->v = .none:=by
 intro v
 cases v<;>first | exact fun zz=>rfl | exact eY
theorem nh{α:Type}{o:Option α}{p:α->Bool}:o.any p=true->∃ a,o=some a/\p a=true:=by
 cases o with
 |none=>exact eY
 |some a=>exact fun h=>aY a rfl h
theorem gT{l:List Bool}(h:l.all id=true)(i:Nat):l.getD i true=true:=by
 induction l generalizing i with
 |nil=>rfl
 |cons b r ih=>
  rw[List.all_cons,ZJ] at h
  cases i with
  |zero=>exact h.1
  |succ i=>exact ih h.2 i
noncomputable def FV:Value->Option Addr
 |.ref a=>some a
 |_=>none
theorem Aj{v:Value}:FV v=some a->v = .ref a:=by
 cases v with
 |ref=>intro h;exact(Z9 h)▸rfl
 |_=>exact aQ
noncomputable def t6:Data->Bool
 |.seq xs _=>decide (xs = #[.none])
 |_=>false
theorem tl{d:Data}:t6 d=true->∃ n,d = .seq #[.none] n:=by
 cases d with
 |seq xs n=>intro h;exact⟨n,ZV (Data.seq · n) (ZL h)⟩
 |_=>exact eY
noncomputable def BS:Data->Option FuncData
 |.func fd=>some fd
 |_=>none
theorem wJ{d:Data}:BS d=some fd->d = .func fd:=by
 cases d with
 |func=>intro h;exact(Z9 h)▸rfl
 |_=>exact aQ
noncomputable def wZ:FuncBody->Option (List Stmt)
 |.stmts b=>some b
 |_=>none
theorem vd{b:FuncBody}{l:List Stmt}:wZ b=some l->b = .stmts l:=by
 cases b with
 |stmts=>intro h;exact(Z9 h)▸rfl
 |_=>exact aQ
noncomputable def xo(K:Frag)(v:Value):Bool:=(FV v).any fun T=>(K.lookup T).any fun o=>t6 o.data
theorem vL{K:Frag}{v:Value}(h:xo K v=true):∃ T oT,v = .ref T/\K.lookup T=some oT/\∃ n,oT.data = .seq #[.none] n:=
 aF (nh h) fun T h1 h2=>aF (nh h2) fun o h3 h4=>rm T o (Aj h1) h3 (tl h4)
noncomputable def td(K:Frag)(f:Fn)(fd:FuncData):Bool:=match f.star with
 |none=>fd.params.vararg.isNone&&((f.dflt.isEmpty&&lW fd.defaults)||(decide (f.dflt=[.none])&&(decide (f.bR.length=2/\fd.params.args.map (·.arg)=[("self" : Str), "graph"])&&xo K fd.defaults)))
 |some i=>f.dflt.isEmpty&&(lW fd.defaults&&fd.params.vararg.any fun q=>decide ((bA f.names)[i]? = some q.arg))
noncomputable def I0(K:Frag)(f:Fn)(fd:FuncData):List Bool:=[codeIn K fd.code fd.qualname,decide (fd.globals=mainGlobals),decide (fd.builtins=builtinsNs),fd.closure.isEmpty,fd.params.posonlyargs.isEmpty,fd.params.kwonlyargs.isEmpty,fd.params.kwarg.isNone,
 decide ((fd.params.args.map (·.arg)).Nodup),decide (f.bR.map (fun i=>(bA f.names)[i]?)=(fd.params.args.map (·.arg)).map some),td K f fd,decide (fd.scope.kind = .function),!fd.scope.isCoroutine,!fd.scope.isGenerator,
 decide ((fd.scope.names.map (·.1)).Nodup),yF [] f.names fd.scope.names,decide ((bA f.names).Nodup),(bA f.names).all (fun x=>!(x==("__classdict__" : Str))&&!(x==("__debug__" : Str)))]
noncomputable def gw(K:Frag)(a:Addr):Option FuncData:=(K.lookup a).bind fun o=>BS o.data
theorem pM{K:Frag}(h:gw K a=some fd):∃ o,K.lookup a=some o/\o.data = .func fd:=
 aF (Zd.mp h) fun o h1 h2=>aY o h1 (wJ h2)
noncomputable def fnIn(K:Frag)(a:Addr)(f:Fn):Bool:=(gw K a).any fun fd=>(wZ fd.body).any fun zz=>(I0 K f fd).all id
theorem vI{D:Wd}{f:Fn}(h:td D.K f fd=true):(match f.star with
   |none=>fd.params.vararg=none/\(f.dflt=[]/\fd.defaults = .none∨f.dflt=[.none]/\(f.bR.length=2/\fd.params.args.map (·.arg)=[("self" : Str), "graph"])/\∃ T oT,fd.defaults = .ref T/\D.K.lookup T=some oT/\∃ n,oT.data = .seq #[.none] n)
   |some i=>f.dflt=[]/\fd.defaults = .none/\∃ q:Arg,fd.params.vararg=some q/\(bA f.names)[i]? = some q.arg):=by
 unfold td at h
 refine bI f.star (fun hs=>?_) fun i hs=>?_
 ·rw[hs] at h
  simp only[ZJ,Bool.or_eq_true,YH,YC,Ze] at h
  exact Hr h.1 (h.2.elim (fun g=>.inl (Hr g.1 (iW g.2))) fun g=>.inr (c9 g.1 g.2.1 (vL g.2.2)))
 ·rw[hs] at h
  simp only[ZJ,YC] at h
  exact aF (nh h.2.2) fun w hw g=>c9 h.1 (iW h.2.1) (aY w hw (ZL g))
theorem Br{D:Wd}{f:Fn}(h:fnIn D.K a f=true):∃ fd body,gw D.K a=some fd/\fd.body = .stmts body/\AQ D a f fd.scope body:=by
 refine aF (nh h) fun fd ha h=>?_
 refine aF (nh h) fun body hb h=>?_
 refine aF (pM ha) fun o ho hd=>?_
 haveI A:=gT h
 haveI hb:=vd hb
 refine rm fd body ha hb ⟨⟨o,fd,ho,hd,A 0,rfl,hb,ZL (A 1),ZL (A 2),YC.mp (A 3),YC.mp (A 4),YC.mp (A 5),Ze.mp (A 6),ZL (A 7),ZL (A 8),vI (A 9)⟩,
  ZL (A 10),(YM _).mp (A 11),(YM _).mp (A 12),ZL (A 13),qc (A 14),ZL (A 15),fun x hx=>?_⟩
 haveI:=Zz.mp (A 16) x hx
 simpa only[ZJ,YM] using this
end
end Mine
end
noncomputable section
open PySem PySem.W PyProof.Rows
namespace Mine.L1
noncomputable def T1:Tab:={
 fn:=[("sorted_list_difference",13),("unorderable_list_difference",14),("_law_classes",15),("_law_marks",16),("_law_wanted",17),("_law_step",18),("_law_meets",19),("_law_above",20),("_law_refused",21),("_law_run",22),("_law_rounds",23),("_law_left",24),("_law_holds",25)]
 cls:=[("_NodeInfo",27),("TopologicalSorter",29)]
 own:=[("_get_nodeinfo",3),("add",4),("prepare",5),("get_ready",6),("is_active",7),("done",9),("_find_cycle",10)]
 nums:=[("_NODE_OUT",-1),("_NODE_DONE",-2),("CHAR_MAX",127)]
 Dz:=["CycleError"]}
noncomputable def real(p:Nat×Nat×Option Nat):=defAt PySem.Challenge.pw_oc0209_01.main.body p.2.1 p.2.2
noncomputable def bodyOf(p:Nat×Nat×Option Nat):List Stmt:=match real p with
 |some (_,.stmts b)=>b
 |_=>[]
noncomputable def m9(p:Nat×Nat×Option Nat):List (Str×NameKind):=match real p with
 |some (ns,_)=>ns
 |_=>[]
noncomputable def lP(p:Nat×Nat×Option Nat)(fn:Fn):Prop:=∀ F scr,((bodyOf p).map (cS T1 F scr 40 ⟨m9 p,bA fn.names⟩ 0))=fn.body F scr
theorem e1:lP (1,4,some 1) de:=fun F scr=>by kernel_rfl
theorem e2:lP (2,6,some 0) bN:=fun F scr=>by kernel_rfl
theorem e3:lP (3,6,some 1) bx:=fun F scr=>by kernel_rfl
theorem e4:lP (4,6,some 2) cI:=fun F scr=>by kernel_rfl
theorem e5:lP (5,6,some 3) bP:=fun F scr=>by kernel_rfl
theorem e6:lP (6,6,some 4) bK:=fun F scr=>by kernel_rfl
theorem e7:lP (7,6,some 5) bJ:=fun F scr=>by kernel_rfl
theorem e9:lP (9,6,some 7) cA:=fun F scr=>by kernel_rfl
theorem JD:lP (10,6,some 8) bF:=fun F scr=>by kernel_rfl
theorem IZ:lP (13,11,none) aN:=fun F scr=>by kernel_rfl
theorem IC:lP (14,12,none) bh:=fun F scr=>by kernel_rfl
theorem GB:lP (15,14,none) dc:=fun F scr=>by kernel_rfl
theorem IV:lP (16,15,none) cL:=fun F scr=>by kernel_rfl
theorem Jt:lP (17,16,none) d9:=fun F scr=>by kernel_rfl
theorem I7:lP (18,17,none) fh:=fun F scr=>by kernel_rfl
theorem JP:lP (19,18,none) eM:=fun F scr=>by kernel_rfl
theorem Jz:lP (20,19,none) eG:=fun F scr=>by kernel_rfl
theorem JO:lP (21,20,none) eU:=fun F scr=>by kernel_rfl
theorem I6:lP (22,21,none) cN:=fun F scr=>by kernel_rfl
theorem GV:lP (24,23,none) fo:=fun F scr=>by kernel_rfl
theorem Ju:lP (25,24,none) cq:=fun F scr=>by kernel_rfl
theorem JM:lP (26,25,none) oH:=fun F scr=>by kernel_rfl
end Mine.L1
end
noncomputable section
open PySem
namespace Mine
section
variable {α:Type}{c:Bool}{r:List (M Fl)}{os:List O}{Z vs ws:List V}{x y:M V}{k j h:Nat}{o:O}{J:aq}{v:V}
namespace Tr
theorem AY(o o':O)(t:Tr)(n:Nat)(_:Full t n):(t.ins n o).set n o'=t.ins n o':=by
 rw[ins,set,beq_eq,ZA rfl];rfl
theorem sH(o o':O)(t:Tr)(n k:Nat)(_:Full t n)(h:k<n):(t.ins n o).set k o'=(t.set k o').ins n o:=by
 rw[ins,set,beq_eq,Zo (Yw h)];rfl
end Tr
noncomputable def aq.put(J:aq)(k:Nat)(o:O):aq:=⟨J.n,J.t.set k o,J.fz⟩
theorem aq.Ok.put(h:J.Ok)(k:Nat)(o:O):(J.put k o).Ok:=Tr.Full.set h k o
theorem aq.BL(h:J.Ok)(o o':O):(J.add o).put J.n o'=J.add o':=by
 show aq.mk _ _ _=aq.mk _ _ _
 exact(show(J.add o).t=J.t.ins J.n o from rfl)▸(Tr.AY o o' J.t J.n h)▸rfl
theorem aq.sF(h:J.Ok)(hk:k<J.n)(o o':O):(J.add o).put k o'=(J.put k o').add o:=by
 show aq.mk _ _ _=aq.mk _ _ _
 exact(show(J.add o).t=J.t.ins J.n o from rfl)▸(Tr.sH o o' J.t J.n k h hk)▸rfl
theorem aq.qV(h:J.Ok)(hk:k<J.n)(o':O):∀ os:List O,(J.adds os).put k o'=(J.put k o').adds os:=fun os=>by
 induction os generalizing J with
 |nil=>rfl
 |cons o r ih=>rw[aq.adds,ih (h.add o) (Nat.lt_succ_of_lt hk),aq.sF h hk];rfl
theorem aq.bL(h:J.Ok)(o':O):∀ (os:List O) (i:Nat),i<os.length->(J.adds os).put (J.n+i) o'=J.adds (os.set i o'):=fun os=>by
 induction os generalizing J with
 |nil=>intro i hi;exact absurd hi (YX _)
 |cons o r ih=>
  intro i hi
  cases i with
  |zero=>rw[aq.adds,Nat.add_zero,aq.qV (h.add o) (Yv _),aq.BL h];rfl
  |succ i=>
   haveI:=ih (h.add o) i (YQ hi)
   rw[aq.adds,show J.n+(i+1)=(J.add o).n+i by show _=J.n+1+i;exact YW (om [_,_] [] (.a (.v 0) (.s (.v 1)),.a (.s (.v 0)) (.v 1)) rfl) (om [_,_] [] (.a (.s (.v 0)) (.v 1),.a (.v 0) (.s (.v 1))) rfl),this];rfl
theorem aq.j0:∀ (os:List O) (o:O),(J.adds os).add o=J.adds (os++[o]):=fun os=>by
 induction os generalizing J with
 |nil=>intro o;rfl
 |cons x r ih=>intro o;rw[aq.adds,ih];rfl
theorem aq.eN:∀ (os os':List O),(J.adds os).adds os'=J.adds (os++os'):=fun os=>by
 induction os generalizing J with
 |nil=>intro o;rfl
 |cons x r ih=>intro o;rw[aq.adds,ih];rfl
theorem aq.ai(h:J.Ok){i:Nat}(e:os[i]? = some o):(J.adds os).t.get (J.n+i)=some o:=by
 rw[aq.fM h,if_neg (by simp),Yx,e]
theorem aq.aX(h:J.Ok)(e:J.t.get k=some o):(J.adds os).t.get k=some o:=by
 rw[aq.fM h,if_pos (h.get e),e]
theorem aq.uC:(J.put k o).t.get j=if j=k then(J.t.get j).map (fun zz=>o) else J.t.get j:=Tr.get_set o J.t k j
theorem cQ{x:O}(h:J.t.get k=some x):(J.put k o).t.get k=some o:=by rw[aq.uC,if_pos rfl,h];rfl
theorem aK{x:O}(h:J.t.get j=some x)(hn:j≠k):(J.put k o).t.get j=some x:=by rw[aq.uC,if_neg hn,h]
theorem wA(o:O):M.kH o (J.adds os) Z = .ok (.ref (J.n+os.length)) (J.adds (os++[o])) Z:=by
 show Rs.ok (V.ref (J.adds os).n) ((J.adds os).add o) Z=_
 rw[aq.cf,aq.j0]
theorem dm(h:vs.length<=10000):M.gi vs (J.adds os) Z = .ok (.ref (J.n+os.length)) (J.adds (os++[.list vs])) Z:=by
 unfold M.gi
 rw[if_pos (XJ h),wA]
theorem lI(h:vs.length<=10000):M.gQ vs (J.adds os) Z = .ok (.ref (J.n+os.length)) (J.adds (os++[.tup vs])) Z:=by
 unfold M.gQ
 rw[if_pos (XJ h),wA]
section
variable {J J' J2:aq}{Z Z' Z2:List V}
theorem ob(k:Nat)(h:J.t.get k=some o):M.obj k J Z = .ok o J Z:=by unfold M.obj;exact h▸rfl
theorem aB{x:M Fl}(h:x J Z = .ok .next J' Z'):au (x::r) J Z=au r J' Z':=ag h
theorem dJ{x:M Fl}(h:x J Z = .ok (.ret v) J' Z'):au (x::r) J Z = .ok (.ret v) J' Z':=ag h
theorem AL{x:M Fl}(h:x J Z = .ok .brk J' Z'):au (x::r) J Z = .ok .brk J' Z':=ag h
theorem tT{x:M Fl}{c:Nat}(h:x J Z = .exc c v J' Z'):au (x::r) J Z = .exc c v J' Z':=cj h
theorem fC{ts:List (V->M Unit)}(h:x J Z = .ok v J' Z')(h2:gU ts v J' Z' = .ok () J2 Z2):aJ x ts J Z = .ok .next J2 Z2:=(ag h).trans (ag h2)
theorem bf{t:M Bool}{b o:M α}(h:t J Z = .ok c J' Z'):br t b o J Z=(match c with
 |true=>b
 |false=>o) J' Z':=(ag h).trans (by clear h;cases c<;>rfl)
theorem mM(h:x J Z = .ok v J' Z')(h2:DZ J' v=some c):aG x J Z = .ok c J' Z':=(ag h).trans (by unfold sC;exact h2▸rfl)
theorem xY{op:CmpOp}{a b:V}(h:x J Z = .ok a J' Z')(h2:y J' Z' = .ok b J2 Z2)(h3:Ak J2 op a b=some c):aO op x y J Z = .ok (.bool c) J2 Z2:=
 (ag h).trans ((ag h2).trans (by unfold mO;exact h3▸rfl))
theorem bQ{op:CmpOp}{a b:V}(h:x J Z = .ok a J' Z')(h2:y J' Z' = .ok b J2 Z2)(h3:Ak J2 op a b=some c):aG (aO op x y) J Z = .ok c J2 Z2:=mM (xY h h2 h3) rfl
theorem ja{a b:Nat}(h:a<b):Nat.blt a b=true:=XJ h
theorem dE(h:j<4611686018427387904):bO (Int.ofNat j)=true:=ja h
theorem CV(hk:J.t.get k=some (.list vs))(hl:vs.length<4611686018427387904)(hv:vs[j]? = some v):AX h (.ref k) (.int (Int.ofNat j)) J Z = .ok v J Z:=by
 haveI hj:=(ZP.mp hv).1
 refine(ag (ob k hk)).trans ?_
 show(if bO (Int.ofNat j) then _ else _:M V) J Z=_
 rw[if_pos (dE (Nat.lt_trans hj hl))]
 show(match idxOf (Int.ofNat j) vs.length with
  |some k=>az vs[k]? M.ret
  |none=>_:M V) J Z=_
 rw[show idxOf (Int.ofNat j) vs.length=some j by
  exact if_pos (ja hj)]
 show az vs[j]? M.ret J Z=_
 exact hv▸rfl
theorem BK(hk:J.t.get k=some (.list vs))(hj:j<4611686018427387904)(hv:vs.length<=j):AX h (.ref k) (.int (Int.ofNat j)) J Z=M.gj h 0 J Z:=by
 refine(ag (ob k hk)).trans ?_
 show(if bO (Int.ofNat j) then _ else _:M V) J Z=_
 rw[if_pos (dE hj)]
 show(match idxOf (Int.ofNat j) vs.length with
  |some k=>az vs[k]? M.ret
  |none=>_:M V) J Z=_
 exact(show idxOf (Int.ofNat j) vs.length=none by
  show(if Nat.blt j vs.length then some j else none)=_
  rw[if_neg]
  intro q
  haveI:=ZC q
  exact XZ.mpr hv this)▸rfl
theorem di{scr:List Int}(h1:x J Z = .ok (.ref k) J Z)(h2:y J Z = .ok (.int (Int.ofNat j)) J Z)(hk:J.t.get k=some (.list vs))(hl:vs.length<4611686018427387904)(hv:vs[j]? = some v):aD h scr x y J Z = .ok v J Z:=
 (ag h1).trans ((ag h2).trans (CV hk hl hv))
theorem m7{scr:List Int}(h1:x J Z = .ok (.ref k) J Z)(h2:y J Z = .ok (.int (Int.ofNat j)) J Z)(hk:J.t.get k=some (.list vs))(hl:j<4611686018427387904)(hv:vs.length<=j):aD h scr x y J Z=M.gj h 0 J Z:=
 (ag h1).trans ((ag h2).trans (BK hk hl hv))
theorem vX(hk:J.t.get k=some (.list vs))(hl:vs.length<10000):Cm .append k [v] J Z = .ok .none (J.put k (.list (vs++[v]))) Z:=by
 refine(ag (ob k hk)).trans ?_
 show(if Nat.blt vs.length 10000 then _ else _:M V) J Z=_
 rw[if_pos (ja hl)]
 rfl
theorem Dm(hk:J.t.get k=some (.list vs))(hj:J.t.get j=some (.list ws))(hl:vs.length+ws.length<10000):Cm .extend k [.ref j] J Z = .ok .none (J.put k (.list (vs++ws))) Z:=by
 refine(ag (ob k hk)).trans ?_
 refine(ag (ob j hj)).trans ?_
 show(if Nat.blt (vs.length+ws.length) 10000 then _ else _:M V) J Z=_
 rw[if_pos (ja hl)]
 rfl
theorem o7{m:Me}{es:List (M V)}(h1:x J Z = .ok (.ref k) J Z)(hk:J.t.get k=some o)(hm:ur m o=true)(ho:Dc h m=true)(h2:cR es J Z = .ok vs J' Z'):bE h x m es J Z=Cm m k vs J' Z':=by
 refine(ag h1).trans ?_
 refine(ag (ob k hk)).trans ?_
 rw[hm,ho]
 exact ag h2
theorem dC(h1:x J Z = .ok (.ref k) J Z)(hk:J.t.get k=some (.list ws))(h2:y J Z = .ok v J' Z')(hk2:J'.t.get k=some (.list vs))(hl:vs.length<10000) :
  aZ (bE 0 x .append [y]) J Z = .ok .next (J'.put k (.list (vs++[v]))) Z':=by
 haveI h3:cR [y] J Z = .ok [v] J' Z':=by
  refine(ag h2).trans ?_;rfl
 haveI h4:bE 0 x .append [y] J Z = .ok .none (J'.put k (.list (vs++[v]))) Z':=(o7 h1 hk rfl rfl h3).trans (vX hk2 hl)
 exact ag h4
theorem oD{us:List V}(h1:x J Z = .ok (.ref k) J Z)(hk:J.t.get k=some (.list ws))(h2:y J Z = .ok (.ref j) J' Z')(hk2:J'.t.get k=some (.list vs))(hj:J'.t.get j=some (.list us))(hl:vs.length+us.length<10000) :
  aZ (bE h x .extend [y]) J Z = .ok .next (J'.put k (.list (vs++us))) Z':=by
 haveI h3:cR [y] J Z = .ok [.ref j] J' Z':=by
  refine(ag h2).trans ?_;rfl
 haveI h4:bE h x .extend [y] J Z = .ok .none (J'.put k (.list (vs++us))) Z':=(o7 h1 hk rfl (by cases h<;>rfl) h3).trans (Dm hk2 hj hl)
 exact ag h4
end
end
end Mine
end
noncomputable section
open PySem
namespace Mine.L1
section
variable {ms us:List Int}{i j:Nat}
abbrev ns(xs:List Int):List V:=xs.map .int
section
variable {J:aq}{scr:List Int}
noncomputable def dz(scr:List Int)(h l c v:Nat)(N:Nat):M Fl:=bM (aG (aO .Eq (aD h scr (af l) (af c)) (af v))) (au [dZ c .Add (.ret (.int 1))]) (au []) N
theorem p9{E:Nat->List V}{h l c v k:Nat}{a:Int}{xs:List Int}(hl:∀ j,af l J (E j) = .ok (.ref k) J (E j))(hc:∀ j,af c J (E j) = .ok (.int (Int.ofNat j)) J (E j))(hs:∀ j j',bt c (.int (Int.ofNat j')) J (E j) = .ok () J (E j'))(hv:∀ j,af v J (E j) = .ok (.int a) J (E j))(hk:J.t.get k=some (.list (ns xs)))(hx:xs.length<1000) :
  ∀ (r:List Int) (j N:Nat),xs.drop j=r->j<=xs.length->r.length<N->
   (r.dropWhile (· == a)=[]->dz scr h l c v N J (E j)=M.gj h 0 J (E xs.length))/\
   (r.dropWhile (· == a)≠[]->∃ j',j'<=xs.length/\xs.drop j'=r.dropWhile (· == a)/\dz scr h l c v N J (E j) = .ok .next J (E j'))
 |[],j,0,_,_,hN=>absurd hN (YX _)
 |[],j,N+1,hd,hj,_=>by
  have hj2:j=xs.length:=by haveI:=X0.mp hd;exact YW (om [_,_] [(.v 0,.v 1)] (.v 0,.v 1) rfl hj) (om [_,_] [(.v 0,.v 1)] (.v 0,.v 1) rfl this)
  subst hj2
  refine⟨fun zz=>?_,fun q=>absurd rfl q⟩
  haveI h1:aD h scr (af l) (af c) J _=M.gj h 0 J (E xs.length):=m7 (hl _) (hc _) hk (om [_] [(.s (.v 0),.n 1000)] (.s (.v 0),.n 4611686018427387904) rfl hx) (by simp)
  rcases h with _ | _ | h
  ·exact cj (cj (cj h1))
  ·exact cj (cj (cj h1))
  ·exact ed (ed (ed h1))
 |x::r,j,0,_,_,hN=>absurd hN (YX _)
 |x::r,j,N+1,hd,hj,hN=>by
  have hjl:j<xs.length:=by
   rcases XV j xs.length with q | q
   ·exact q
   ·replace hd:=(X0.mpr q).symm.trans hd;contradiction
  haveI hcons:=Xi hjl
  rw[hd] at hcons
  obtain⟨e1,e2⟩:=XO hcons
  haveI h1:aD h scr (af l) (af c) J (E j) = .ok (.int x) J (E j):=di (hl _) (hc _) hk (om [_,_] [(.s (.v 0),.n 1000),(.v 1,.v 0)] (.s (.v 1),.n 4611686018427387904) rfl hx (eE (Z0 _))) (by simp[Z7 hjl,e1])
  haveI ht:aG (aO .Eq _ (af v)) J (E j) = .ok (x==a) J (E j):=bQ h1 (hv j) rfl
  by_cases q:(x==a)=true
  ·rw[Xg,if_pos q]
   haveI ih:=p9 (h:=h) hl hc hs hv hk hx r (j+1) N e2.symm hjl (by simpa using hN)
   haveI hb:au [dZ c .Add (.ret (.int 1))] J (E j) = .ok .next J (E (j+1)):=by
    refine aB ?_
    refine(ag (hc j)).trans ?_
    exact ag (hs j (j+1))
   haveI hgo:dz scr h l c v (N+1) J (E j)=dz scr h l c v N J (E (j+1)):=by
    refine(bf ht).trans ?_;exact q▸(ag hb)
   exact hgo▸ih
  ·rw[Xg,if_neg q]
   refine⟨fun q=>(by contradiction),fun zz=>(iF j hj hd ?_)⟩
   refine(bf ht).trans ?_;exact(show(x==a)=false from by simpa using q)▸rfl
noncomputable def bT:Nat->List Int->List Int->List Int×List Int
 |0,_,_=>([],[])
 |_+1,[],ys=>([],ys)
 |_+1,x::xs,[]=>(x::xs,[])
 |n+1,x::xs,y::ys=>if x<y then(x::(bT n (xs.dropWhile (· == x)) (y::ys)).1,(bT n (xs.dropWhile (· == x)) (y::ys)).2)
  else if y<x then((bT n (x::xs) (ys.dropWhile (· == y))).1,y::(bT n (x::xs) (ys.dropWhile (· == y))).2)
  else bT n (xs.dropWhile (· == x)) (ys.dropWhile (· == x))
noncomputable def Zs(J:aq)(ms us:List Int):aq:=J.adds [.list (ns ms),.list (ns us)]
noncomputable def Es(J:aq)(kx ky:Nat)(i j:Nat)(v w:V):List V:=[.ref kx,.ref ky,.int (Int.ofNat i),.int (Int.ofNat j),.ref J.n,.ref (J.n+1),v,w]
noncomputable def nG(scr:List Int):M Fl:=au [aJ (aD 0 scr (af 0) (af 2)) [aA 0 (.one 6)],aJ (aD 0 scr (af 1) (af 3)) [aA 0 (.one 7)],
 br (aG (aO .Lt (af 6) (af 7))) (au [aZ (bE 0 (af 4) .append [af 6]),dZ 2 .Add (.ret (.int 1)),dz scr 0 0 2 6 bc])
  (au [br (aG (aO .Gt (af 6) (af 7))) (au [aZ (bE 0 (af 5) .append [af 7]),dZ 3 .Add (.ret (.int 1)),dz scr 0 1 3 7 bc])
   (au [dZ 2 .Add (.ret (.int 1)),cH (au [dz scr 0 0 2 6 bc]) (au [dZ 3 .Add (.ret (.int 1)),dz scr 0 1 3 7 bc]) (au [dZ 3 .Add (.ret (.int 1)),dz scr 1 1 3 7 bc])])])]
noncomputable def wo:M Fl:=au [aZ (bE 2 (af 4) .extend [gR (af 0) (some (af 2)) none]),aZ (bE 2 (af 5) .extend [gR (af 1) (some (af 3)) none]),.ret .brk]
noncomputable def mJ(scr:List Int):M Fl:=iV 0 (nG scr) wo
example (F:eP):aN.body F scr=[aJ (.ret (.int 0)) [aA 0 (.one 2),aA 0 (.one 3)],aJ (eList []) [aA 0 (.one 4)],aJ (eList []) [aA 0 (.one 5)],
  bM (aG (.ret (.bool true))) (au [mJ scr]) (au []) bc,b9 (eu [af 4,af 5])]:=rfl
variable {kx ky:Nat}{xs ys:List Int}
structure Ek(J:aq)(kx ky:Nat)(xs ys:List Int):Prop where
 ok:J.Ok
 hx:J.t.get kx=some (.list (ns xs))
 hy:J.t.get ky=some (.list (ns ys))
 lx:xs.length<1000
 ly:ys.length<1000
section
variable (T:Ek J kx ky xs ys)
include T
theorem Ek.wc{os:List O}:(J.adds os).t.get kx=some (.list (ns xs)):=aq.aX T.ok T.hx
theorem Ek.AI{os:List O}:(J.adds os).t.get ky=some (.list (ns ys)):=aq.aX T.ok T.hy
theorem qK{x:Int}{w:V}{r:List Int}(hd:xs.drop i=r)(hi:i<=xs.length) :
  (r.dropWhile (· == x)=[]->dz scr 0 0 2 6 bc (Zs J ms us) (Es J kx ky i j (.int x) w) = .exc 0 .ah (Zs J ms us) (Es J kx ky xs.length j (.int x) w))/\
  (r.dropWhile (· == x)≠[]->∃ i',i'<=xs.length/\xs.drop i'=r.dropWhile (· == x)/\dz scr 0 0 2 6 bc (Zs J ms us) (Es J kx ky i j (.int x) w) = .ok .next (Zs J ms us) (Es J kx ky i' j (.int x) w)):=
 p9 (E:=fun i=>Es J kx ky i j (.int x) w) (fun zz=>rfl) (fun zz=>rfl) (fun zz zz=>rfl) (fun zz=>rfl) T.wc T.lx r i bc hd hi (by
  have:=T.lx
  haveI:r.length<=xs.length:=by refine hd▸?_;simp
  exact om [_,_] [(.s (.v 0),.n 1000),(.v 1,.v 0)] (.s (.v 1),.n 2000) rfl (by assumption) this)
theorem qH{h:Nat}{y:Int}{v:V}{r:List Int}(hd:ys.drop j=r)(hi:j<=ys.length) :
  (r.dropWhile (· == y)=[]->dz scr h 1 3 7 bc (Zs J ms us) (Es J kx ky i j v (.int y))=M.gj h 0 (Zs J ms us) (Es J kx ky i ys.length v (.int y)))/\
  (r.dropWhile (· == y)≠[]->∃ j',j'<=ys.length/\ys.drop j'=r.dropWhile (· == y)/\dz scr h 1 3 7 bc (Zs J ms us) (Es J kx ky i j v (.int y)) = .ok .next (Zs J ms us) (Es J kx ky i j' v (.int y))):=
 p9 (E:=fun j=>Es J kx ky i j v (.int y)) (fun zz=>rfl) (fun zz=>rfl) (fun zz zz=>rfl) (fun zz=>rfl) T.AI T.ly r j bc hd hi (by
  have:=T.ly
  haveI:r.length<=ys.length:=by refine hd▸?_;simp
  exact om [_,_] [(.s (.v 0),.n 1000),(.v 1,.v 0)] (.s (.v 1),.n 2000) rfl (by assumption) this)
inductive IT(kx ky:Nat)(scr:List Int)(J:aq)(xs ys rx ry ms us:List Int)(i j:Nat)(v w:V):Prop where
 |mk (i' j':Nat) (v' w':V) (pm pu rx' ry':List Int) (h1:xs.drop i'=rx') (h2:ys.drop j'=ry') (h3:i'<=xs.length) (h4:j'<=ys.length) (h5:rx'.length+ry'.length<rx.length+ry.length)
  (h6:∀ n,bT (n+1) rx ry=(pm++(bT n rx' ry').1,pu++(bT n rx' ry').2)) (h7:pm.length+rx'.length<=rx.length/\pu.length+ry'.length<=ry.length)
  (hv:aE v'=none) (hw:aE w'=none) (h8:nG scr (Zs J ms us) (Es J kx ky i j v w) = .ok .next (Zs J (ms++pm) (us++pu)) (Es J kx ky i' j' v' w')∨
   ((rx'=[]∨ry'=[])/\∃ c,Nat.beq (c % 100) 0=true/\nG scr (Zs J ms us) (Es J kx ky i j v w) = .exc c .ah (Zs J (ms++pm) (us++pu)) (Es J kx ky i' j' v' w')))
theorem BB{rx ry:List Int}{x y:Int}{v w:V}(hx:xs.drop i=x::rx)(hy:ys.drop j=y::ry)(hi:i<=xs.length)(hj:j<=ys.length)(hm:ms.length<5000)(hu:us.length<5000)(hv:aE v=none)(hw:aE w=none) :
  IT kx ky scr J xs ys (x::rx) (y::ry) ms us i j v w:=by
 have hil:i<xs.length:=by
  rcases XV i xs.length with q | q
  ·exact q
  ·rw[X0.mpr q] at hx;cases hx
 have hjl:j<ys.length:=by
  rcases XV j ys.length with q | q
  ·exact q
  ·rw[X0.mpr q] at hy;cases hy
 haveI cx:=Xi hil
 haveI cy:=Xi hjl
 rw[hx] at cx
 rw[hy] at cy
 refine bU (XO cx) fun ex hx1=>?_
 refine bU (XO cy) fun ey hy1=>?_
 have hlx:=T.lx
 have hly:=T.ly
 have lx:(rx.dropWhile (· == x)).length<=rx.length:=(WQ _).length_le
 have ly:(ry.dropWhile (· == y)).length<=ry.length:=(WQ _).length_le
 haveI st6:bt 6 (.int x) (Zs J ms us) _ = .ok () (Zs J ms us) (Es J kx ky i j (.int x) w):=by
  unfold bt
  rw[show aE (V.at (Es J kx ky i j v w) 6)=none from hv]
  rfl
 haveI st7:bt 7 (.int y) (Zs J ms us) _ = .ok () (Zs J ms us) (Es J kx ky i j (.int x) (.int y)):=by
  unfold bt
  rw[show aE (V.at (Es J kx ky i j (.int x) w) 7)=none from hw]
  rfl
 have g1:aJ (aD 0 scr (af 0) (af 2)) [aA 0 (.one 6)] (Zs J ms us) _ = .ok .next (Zs J ms us) _:=
  fC (di rfl rfl T.wc (by simp;exact Zj hlx (ZQ 1000 4611686018427386904)) (by simp[Z7 hil,ex])) (ag st6)
 have g2:aJ (aD 0 scr (af 1) (af 3)) [aA 0 (.one 7)] (Zs J ms us) _ = .ok .next (Zs J ms us) _:=
  fC (di rfl rfl T.AI (by simp;exact Zj hly (ZQ 1000 4611686018427386904)) (by simp[Z7 hjl,ey])) (ag st7)
 haveI t1:aG (aO .Lt (af 6) (af 7)) (Zs J ms us) (Es J kx ky i j (.int x) (.int y)) = .ok (decide (x<y)) (Zs J ms us) _:=rfl
 haveI t2:aG (aO .Gt (af 6) (af 7)) (Zs J ms us) (Es J kx ky i j (.int x) (.int y)) = .ok (decide (y<x)) (Zs J ms us) _:=rfl
 haveI a2:∀ ms us j w,dZ 2 .Add (.ret (.int 1)) (Zs J ms us) (Es J kx ky i j (.int x) w) = .ok .next (Zs J ms us) (Es J kx ky (i+1) j (.int x) w):=fun zz zz zz zz=>rfl
 have a3:∀ ms us i v,dZ 3 .Add (.ret (.int 1)) (Zs J ms us) (Es J kx ky i j v (.int y)) = .ok .next (Zs J ms us) (Es J kx ky i (j+1) v (.int y)):=fun zz zz zz zz=>rfl
 haveI one:∀ {r:Rs Fl} {m:M Fl} {J Z},m J Z=r->(∀ f J' Z',r = .ok f J' Z'->f = .next)->au [m] J Z=r:=fun {r m J Z} h hr=>by
  show M.bind m _ J Z=_
  unfold M.bind
  rw[h]
  clear h;cases r with
  |ok f J' Z'=>have h__:=hr f J' Z' rfl;subst h__;rfl
  |exc=>rfl
  |bad=>rfl
 have hd:∀ m,au _ (Zs J ms us) _=au [m] (Zs J ms us) _:=fun m=>(aB g1).trans (aB g2)
 haveI hstart:=hd (br (aG (aO .Lt (af 6) (af 7))) (au [aZ (bE 0 (af 4) .append [af 6]),dZ 2 .Add (.ret (.int 1)),dz scr 0 0 2 6 bc])
  (au [br (aG (aO .Gt (af 6) (af 7))) (au [aZ (bE 0 (af 5) .append [af 7]),dZ 3 .Add (.ret (.int 1)),dz scr 0 1 3 7 bc])
   (au [dZ 2 .Add (.ret (.int 1)),cH (au [dz scr 0 0 2 6 bc]) (au [dZ 3 .Add (.ret (.int 1)),dz scr 0 1 3 7 bc]) (au [dZ 3 .Add (.ret (.int 1)),dz scr 1 1 3 7 bc])])]))
 haveI hstart:nG scr (Zs J ms us) _=_:=hstart
 haveI fin:∀ {r:Rs Fl} {m:M Fl} {J Z},_->m J Z=r->au [m] J Z=r:=fun h1 h2=>one h2 h1
 haveI nx:∀ {J2 Z2} f J' Z',Rs.ok Fl.next J2 Z2=Rs.ok f J' Z'->f = .next:=fun f J' Z' e=>by cases e;rfl
 haveI ne:∀ {c v J2 Z2} (f:Fl) J' Z',(Rs.exc c v J2 Z2:Rs Fl)=Rs.ok f J' Z'->f = .next:=fun f J' Z' e=>by cases e
 by_cases q1:x<y
 ·have ap:aZ (bE 0 (af 4) .append [af 6]) (Zs J ms us) (Es J kx ky i j (.int x) (.int y)) = .ok .next (Zs J (ms++[x]) us) (Es J kx ky i j (.int x) (.int y)):=by
   have h0:(Zs J ms us).t.get J.n=some _:=aq.ai T.ok (i:=0) rfl
   refine(dC (x:=af 4) (y:=af 6) rfl h0 rfl h0 (by simp;exact Zj hm (ZQ 5000 5000))).trans ?_
   rw[show(Zs J ms us).put J.n _=Zs J (ms++[x]) us by
    rw[show ns ms++[.int x]=ns (ms++[x]) by simp[ns]];exact aq.bL T.ok _ _ 0 (by simp)]
  have pre:∀ {r},dz scr 0 0 2 6 bc _ _=r->_->nG scr (Zs J ms us) _=r:=fun {r} h hr=>by
   rw[hstart]
   refine one ?_ hr
   rw[bf t1,ZA q1]
   exact(aB ap).trans ((aB (a2 _ _ _ _)).trans (one h hr))
  have hp:∀ n,bT (n+1) (x::rx) (y::ry)=([x]++(bT n _ (y::ry)).1,[]++(bT n _ (y::ry)).2):=fun n=>by rw[bT,if_pos q1];rfl
  refine bU (qK (scr:=scr) T (j:=j) (ms:=ms++[x]) (us:=us) (x:=x) (w:=.int y) hx1.symm hil) fun s1 s2=>?_
  by_cases q:rx.dropWhile (· == x)=[]
  ·exact⟨xs.length,j,.int x,.int y,[x],[],_,_,by rw[q];simp,hy,ZE _,hj,by simp;exact Yr ‹_›,hp,⟨(om [_,_] [(.v 0,.v 1)] (.a (.s (.n 0)) (.v 0),.s (.v 1)) rfl lx),by simp⟩,rfl,rfl,.inr ⟨.inl q,0,rfl,by rw[ZT];exact pre (s1 q) ne⟩⟩
  ·refine iu (s2 q) fun i' k1 k2 k3=>?_
   exact⟨i',j,.int x,.int y,[x],[],_,_,k2,hy,k1,hj,by simp;exact Yr ‹_›,hp,⟨(om [_,_] [(.v 0,.v 1)] (.a (.s (.n 0)) (.v 0),.s (.v 1)) rfl lx),by simp⟩,rfl,rfl,.inl (by rw[ZT];exact pre k3 nx)⟩
 ·by_cases q2:y<x
  ·have ap:aZ (bE 0 (af 5) .append [af 7]) (Zs J ms us) (Es J kx ky i j (.int x) (.int y)) = .ok .next (Zs J ms (us++[y])) (Es J kx ky i j (.int x) (.int y)):=by
    have h0:(Zs J ms us).t.get (J.n+1)=some _:=aq.ai T.ok rfl
    refine(dC (x:=af 5) (y:=af 7) rfl h0 rfl h0 (by simp;omega)).trans ?_
    rw[show(Zs J ms us).put (J.n+1) _=Zs J ms (us++[y]) by
     rw[show ns us++[.int y]=ns (us++[y]) by simp[ns]];exact aq.bL T.ok _ _ 1 (by simp)]
   have pre:∀ {r},dz scr 0 1 3 7 bc _ _=r->_->nG scr (Zs J ms us) _=r:=fun {r} h hr=>by
    refine(hstart).trans ?_
    refine one ?_ hr
    rw[bf t1,Zo q1]
    refine one ?_ hr
    rw[bf t2,ZA q2]
    exact(aB ap).trans ((aB (a3 _ _ _ _)).trans (one h hr))
   have hp:∀ n,bT (n+1) (x::rx) (y::ry)=([]++(bT n (x::rx) _).1,[y]++(bT n (x::rx) _).2):=fun n=>by rw[bT,if_neg q1,if_pos q2];rfl
   refine bU (qH (scr:=scr) T (h:=0) (i:=i) (ms:=ms) (us:=us++[y]) (y:=y) (v:=.int x) hy1.symm hjl) fun s1 s2=>?_
   by_cases q:ry.dropWhile (· == y)=[]
   ·exact⟨i,ys.length,.int x,.int y,[],[y],_,_,hx,by rw[q];simp,hi,ZE _,by simp;exact Yr ‹_›,hp,⟨by simp,(om [_,_] [(.v 0,.v 1)] (.a (.s (.n 0)) (.v 0),.s (.v 1)) rfl ly)⟩,rfl,rfl,.inr ⟨.inr q,0,rfl,by rw[ZT];exact pre (s1 q) ne⟩⟩
   ·refine iu (s2 q) fun j' k1 k2 k3=>?_
    exact⟨i,j',.int x,.int y,[],[y],_,_,hx,k2,hi,k1,by simp;exact Yr ‹_›,hp,⟨by simp,(om [_,_] [(.v 0,.v 1)] (.a (.s (.n 0)) (.v 0),.s (.v 1)) rfl ly)⟩,rfl,rfl,.inl (by rw[ZT];exact pre k3 nx)⟩
  ·have pre:∀ {r},cH _ _ _ (Zs J ms us) _=r->_->nG scr (Zs J ms us) _=r:=fun {r} h hr=>by
    rw[hstart]
    refine one ?_ hr
    rw[bf t1,Zo q1]
    refine one ?_ hr
    exact(bf t2)▸(Zo q2)▸((aB (a2 _ _ _ _)).trans (one h hr))
   haveI exy:x=y:=by omega
   have hp:∀ n,bT (n+1) (x::rx) (y::ry)=([]++(bT n (rx.dropWhile (· == x)) _).1,[]++(bT n (rx.dropWhile (· == x)) _).2):=fun n=>by rw[bT,if_neg q1,if_neg q2,exy];rfl
   refine bU (qK (scr:=scr) T (j:=j) (ms:=ms) (us:=us) (x:=x) (w:=.int y) hx1.symm hil) fun s1 s2=>?_
   haveI sy:=fun h i=>qH (scr:=scr) T (h:=h) (i:=i) (ms:=ms) (us:=us) (y:=y) (v:=.int x) hy1.symm hjl
   have h0:∀ i,∀ {r},dz scr 0 1 3 7 bc (Zs J ms us) _=r->_->M.bind (au _) (Cr .next) (Zs J ms us) _=r:=fun i {r} h hr=>by
    haveI:=(aB (a3 ms us i (.int x))).trans (one h hr)
    unfold M.bind
    rw[this]
    clear h;clear this;cases r with
    |ok f J' Z'=>have h__:=hr f J' Z' rfl;subst h__;rfl
    |exc=>rfl
    |bad=>rfl
   by_cases q:rx.dropWhile (· == x)=[]
   ·have e1:=one (s1 q) ne
    by_cases p:ry.dropWhile (· == y)=[]
    ·refine⟨xs.length,ys.length,.int x,.int y,[],[],_,_,by refine q▸?_;simp,by refine p▸?_;simp,ZE _,ZE _,(om [_,_,_,_] [(.v 0,.v 1),(.v 2,.v 3)] (.s (.a (.v 0) (.v 2)),.a (.s (.v 1)) (.s (.v 3))) rfl lx ly),hp,⟨by simp;exact YO ‹_›,by simp;exact YO ‹_›⟩,rfl,rfl,.inr ⟨.inl q,100,rfl,?_⟩⟩
     rw[ZT,ZT]
     refine pre ?_ ne
     unfold cH
     exact e1▸(cj ((aB (a3 ms us xs.length (.int x))).trans (one ((sy 1 xs.length).1 p) ne)))
    ·obtain⟨j',k1,k2,k3⟩:=(sy 1 xs.length).2 p
     refine⟨xs.length,j',.int x,.int y,[],[],_,_,by refine q▸?_;simp,k2,ZE _,k1,by simp;omega,hp,⟨by simp;omega,by simp;omega⟩,rfl,rfl,.inr ⟨.inl q,0,rfl,?_⟩⟩
     rw[ZT,ZT]
     refine pre ?_ ne
     unfold cH
     rw[e1]
     exact ag ((aB (a3 ms us xs.length (.int x))).trans (one k3 nx))
   ·obtain⟨i',l1,l2,l3⟩:=s2 q
    have e1:=one l3 nx
    by_cases p:ry.dropWhile (· == y)=[]
    ·refine⟨i',ys.length,.int x,.int y,[],[],_,_,l2,by refine p▸?_;simp,l1,ZE _,by simp;omega,hp,⟨by simp;omega,by simp;omega⟩,rfl,rfl,.inr ⟨.inr p,0,rfl,?_⟩⟩
     rw[ZT,ZT]
     refine pre ?_ ne
     unfold cH
     rw[e1]
     exact h0 i' ((sy 0 i').1 p) ne
    ·refine iu ((sy 0 i').2 p) fun j' k1 k2 k3=>?_
     refine⟨i',j',.int x,.int y,[],[],_,_,l2,k2,l1,k1,(om [_,_,_,_] [(.v 0,.v 1),(.v 2,.v 3)] (.s (.a (.v 0) (.v 2)),.a (.s (.v 1)) (.s (.v 3))) rfl lx ly),hp,⟨by simp;exact YO ‹_›,by simp;exact YO ‹_›⟩,rfl,rfl,.inl ?_⟩
     rw[ZT,ZT]
     refine pre ?_ nx
     unfold cH
     exact e1▸(h0 i' k3 nx)
end
end
end
section
variable {J:aq}{scr:List Int}{kx ky:Nat}{xs ys:List Int}
noncomputable def Zh(J:aq)(ms us g1 g2:List Int):aq:=J.adds [.list (ns ms),.list (ns us),.list (ns g1),.list (ns g2)]
section
variable (T:Ek J kx ky xs ys)
include T
omit T in
theorem w8{k i:Nat}{x y:M V}{ws:List Int}{os:List O}{Z:List V}(h1:x (J.adds os) Z = .ok (.ref k) (J.adds os) Z)(h2:y (J.adds os) Z = .ok (.int (Int.ofNat i)) (J.adds os) Z)(hk:(J.adds os).t.get k=some (.list (ns ws)))(hl:ws.length<1000) :
  gR x (some y) none (J.adds os) Z = .ok (.ref (J.n+os.length)) (J.adds (os++[.list (ns (ws.drop i))])) Z:=by
 refine(ag h1).trans ?_
 refine(ag (show Ar (some y) (J.adds os) Z = .ok (some (.int (Int.ofNat i))) (J.adds os) Z from ag h2)).trans ?_
 refine(ag (ob k hk)).trans ?_
 show M.gi (((ns ws).take (ns ws).length).drop i) _ _=_
 rw[Yu,show(ns ws).drop i=ns (ws.drop i) by simp[ns],dm (by simp;omega)]
theorem handler{i j:Nat}{ms us:List Int}{v w:V}(hm:ms.length<5000)(hu:us.length<5000) :
  wo (Zs J ms us) (Es J kx ky i j v w) = .ok .brk (Zh J (ms++xs.drop i) (us++ys.drop j) (xs.drop i) (ys.drop j)) (Es J kx ky i j v w):=by
 have lx:=T.lx
 have ly:=T.ly
 haveI s1:=w8 (x:=af 0) (y:=af 2) (Z:=Es J kx ky i j v w) (os:=[.list (ns ms),.list (ns us)]) rfl rfl T.wc lx
 haveI e1:aZ (bE 2 (af 4) .extend [gR (af 0) (some (af 2)) none]) (Zs J ms us) (Es J kx ky i j v w) = .ok .next (J.adds [.list (ns (ms++xs.drop i)),.list (ns us),.list (ns (xs.drop i))]) (Es J kx ky i j v w):=by
  refine(oD (x:=af 4) (k:=J.n) rfl (aq.ai T.ok (i:=0) rfl) s1 (aq.ai T.ok (i:=0) rfl) (aq.ai T.ok rfl) (by simp;omega)).trans ?_
  rw[show ns ms++ns (xs.drop i)=ns (ms++xs.drop i) by simp[ns]]
  exact ZV (fun s=>Rs.ok Fl.next s _) (aq.bL T.ok _ _ 0 (by simp))
 haveI s2:=w8 (x:=af 1) (y:=af 3) (Z:=Es J kx ky i j v w) (os:=[.list (ns (ms++xs.drop i)),.list (ns us),.list (ns (xs.drop i))]) rfl rfl T.AI ly
 haveI e2:aZ (bE 2 (af 5) .extend [gR (af 1) (some (af 3)) none]) (J.adds [.list (ns (ms++xs.drop i)),.list (ns us),.list (ns (xs.drop i))]) (Es J kx ky i j v w) = .ok .next (Zh J (ms++xs.drop i) (us++ys.drop j) (xs.drop i) (ys.drop j)) (Es J kx ky i j v w):=by
  refine(oD (x:=af 5) rfl (aq.ai T.ok rfl) s2 (aq.ai T.ok rfl) (aq.ai T.ok rfl) (by simp;omega)).trans ?_
  rw[show ns us++ns (ys.drop j)=ns (us++ys.drop j) by simp[ns]]
  exact ZV (fun s=>Rs.ok Fl.next s _) (aq.bL T.ok _ _ 1 (by simp))
 exact(aB e1).trans ((aB e2).trans rfl)
inductive Lp(kx ky:Nat)(scr:List Int)(J:aq)(ms us:List Int)(Z:List V)(n:Nat):Prop where
 |mk (g1 g2:List Int) (i j:Nat) (v w:V) (h:bM (aG (.ret (.bool true))) (au [mJ scr]) (au []) n (Zs J ms us) Z = .ok .next (Zh J ms us g1 g2) (Es J kx ky i j v w))
theorem xZ{i j:Nat}{ms us:List Int}{v w:V}(hv:aE v=none)(h:xs.drop i=[]∨ys.drop j=[])(hi:i<=xs.length)(hj:j<=ys.length) :
  ∃ v' w',nG scr (Zs J ms us) (Es J kx ky i j v w) = .exc 0 .ah (Zs J ms us) (Es J kx ky i j v' w'):=by
 haveI lx:=T.lx
 haveI ly:=T.ly
 by_cases q:i<xs.length
 ·haveI hy:ys.length<=j:=by
   rcases h with h | h
   ·haveI:=X0.mp h;exact False.elim (XZ.mpr this q)
   ·exact X0.mp h
  haveI st6:bt 6 (.int xs[i]) (Zs J ms us) (Es J kx ky i j v w) = .ok () (Zs J ms us) (Es J kx ky i j (.int xs[i]) w):=by
   unfold bt
   exact(hv)▸rfl
  haveI g1:aJ (aD 0 scr (af 0) (af 2)) [aA 0 (.one 6)] (Zs J ms us) (Es J kx ky i j v w) = .ok .next (Zs J ms us) (Es J kx ky i j (.int xs[i]) w):=
   fC (di rfl rfl T.wc (by simp;exact Zj lx (ZQ 1000 4611686018427386904)) (by simp[Z7 q])) (ag st6)
  haveI g2:aD 0 scr (af 1) (af 3) (Zs J ms us) (Es J kx ky i j (.int xs[i]) w) = .exc 0 .ah (Zs J ms us) (Es J kx ky i j (.int xs[i]) w):=
   m7 rfl rfl T.AI (om [_,_] [(.v 0,.v 1),(.s (.v 1),.n 1000)] (.s (.v 0),.n 4611686018427387904) rfl hj ly) (by simpa using hy)
  exact uS _ _ ((aB g1).trans (tT (cj g2)))
 ·haveI g2:aD 0 scr (af 0) (af 2) (Zs J ms us) (Es J kx ky i j v w) = .exc 0 .ah (Zs J ms us) (Es J kx ky i j v w):=
   m7 rfl rfl T.wc (om [_,_] [(.v 0,.v 1),(.s (.v 1),.n 1000)] (.s (.v 0),.n 4611686018427387904) rfl hi lx) (by simpa using XN q)
  exact uS _ _ (tT (cj g2))
omit T in
theorem tq{n:Nat}{J1:aq}{Z:List V}:bM (aG (.ret (.bool true))) (au [mJ scr]) (au []) (n+1) J1 Z=M.bind (au [mJ scr]) (nV (bM (aG (.ret (.bool true))) (au [mJ scr]) (au []) n)) J1 Z:=rfl
omit T in
theorem vZ{J1 J2:aq}{Z Z2:List V}(h:nG scr J1 Z = .ok .next J2 Z2):au [mJ scr] J1 Z = .ok .next J2 Z2:=by
 refine(aB ?_).trans rfl
 dsimp only[mJ,iV,iY]
 rw[h]
omit T in
theorem uo{c:Nat}{J1 J2 J3:aq}{Z Z2 Z3:List V}(h:nG scr J1 Z = .exc c .ah J2 Z2)(hc:Nat.beq (c % 100) 0=true)(h2:wo J2 Z2 = .ok .brk J3 Z3):au [mJ scr] J1 Z = .ok .brk J3 Z3:=by
 refine AL ?_
 dsimp only[mJ,iV,iY]
 rw[h]
 show nW c 0 (calm wo) J2 Z2=_
 unfold nW
 refine hc▸?_
 show calm wo J2 Z2=_
 unfold calm
 rw[h2]
theorem rq:∀ (n:Nat) (rx ry ms us:List Int) (i j:Nat) (v w:V),xs.drop i=rx->ys.drop j=ry->i<=xs.length->j<=ys.length->rx.length+ry.length<n->ms.length+rx.length<4000->us.length+ry.length<4000->aE v=none->aE w=none->
  ∃ g1 g2 i' j' v' w',bM (aG (.ret (.bool true))) (au [mJ scr]) (au []) n (Zs J ms us) (Es J kx ky i j v w) = .ok .next (Zh J (ms++(bT n rx ry).1) (us++(bT n rx ry).2) g1 g2) (Es J kx ky i' j' v' w')
 |0,_,_,_,_,_,_,_,_,_,_,_,_,h,_,_,_,_=>absurd h (YX _)
 |n+1,rx,ry,ms,us,i,j,v,w,hx,hy,hi,hj,hn,hm,hu,hv,hw=>by
  by_cases q:rx=[]∨ry=[]
  ·haveI q2:xs.drop i=[]∨ys.drop j=[]:=hx▸hy▸q
   refine nz (xZ (scr:=scr) (ms:=ms) (us:=us) (w:=w) T hv q2 hi hj) fun v' w' h=>?_
   haveI h2:=handler (i:=i) (j:=j) (v:=v') (w:=w') T (om [_,_] [(.s (.a (.v 0) (.v 1)),.n 4000)] (.s (.v 0),.n 5000) rfl hm) (om [_,_] [(.s (.a (.v 0) (.v 1)),.n 4000)] (.s (.v 0),.n 5000) rfl hu)
   refine⟨xs.drop i,ys.drop j,i,j,v',w',?_⟩
   refine(tq).trans ?_;refine(ag (uo h rfl h2)).trans ?_
   haveI hp:bT (n+1) rx ry=(rx,ry):=by
    rcases q with rfl | rfl
    ·clear hn;clear hu;clear hy;cases ry<;>rfl
    ·clear hn;cases rx<;>rfl
   refine hp▸hx▸hy▸?_
   rfl
  ·obtain⟨x,rx,rfl⟩:=XM (fun e=>q (.inl e))
   refine nz (XM (fun e=>q (.inr e))) fun y ry qz3=>?_;clear q;subst qz3
   obtain⟨i',j',v',w',pm,pu,rx',ry',h1,h2,h3,h4,h5,h6,⟨h7,h7'⟩,k1,k2,h8⟩:=BB T hx hy hi hj (om [_,_] [(.s (.a (.v 0) (.s (.v 1))),.n 4000)] (.s (.v 0),.n 5000) rfl hm) (om [_,_] [(.s (.a (.v 0) (.s (.v 1))),.n 4000)] (.s (.v 0),.n 5000) rfl hu) hv hw
   haveI hsub:n≠0:=by simp at hn;omega
   refine(h6 n)▸?_
   rcases h8 with h8 | ⟨hz,c,hc,h8⟩
   ·refine Iw (rq n rx' ry' (ms++pm) (us++pu) i' j' v' w' h1 h2 h3 h4 (om [_,_,_,_,_] [(.s (.a (.s (.v 0)) (.s (.v 1))),.s (.v 2)),(.s (.a (.v 3) (.v 4)),.a (.s (.v 0)) (.s (.v 1)))] (.s (.a (.v 3) (.v 4)),.v 2) rfl hn h5) (om [_,_,_,_,_] [(.s (.a (.v 0) (.s (.v 1))),.n 4000),(.a (.v 2) (.v 3),.s (.v 1)),(.v 4,.a (.v 0) (.v 2))] (.s (.a (.v 4) (.v 3)),.n 4000) rfl hm h7 (eE ZI)) (om [_,_,_,_,_] [(.s (.a (.v 0) (.s (.v 1))),.n 4000),(.a (.v 2) (.v 3),.s (.v 1)),(.v 4,.a (.v 0) (.v 2))] (.s (.a (.v 4) (.v 3)),.n 4000) rfl hu h7' (eE ZI)) k1 k2) fun g1 g2 i2 j2 v2 w2 ih=>?_
    refine⟨g1,g2,i2,j2,v2,w2,?_⟩
    refine(tq).trans ?_;refine(ag (vZ h8)).trans ?_
    rw[<-ZZ,<-ZZ]
    exact ih
   ·haveI e:=handler (i:=i') (j:=j') (v:=v') (w:=w') T (om [_,_,_,_,_] [(.s (.a (.v 0) (.s (.v 1))),.n 4000),(.a (.v 2) (.v 3),.s (.v 1)),(.v 4,.a (.v 0) (.v 2))] (.s (.v 4),.n 5000) rfl hm h7 (eE ZI)) (om [_,_,_,_,_] [(.s (.a (.v 0) (.s (.v 1))),.n 4000),(.a (.v 2) (.v 3),.s (.v 1)),(.v 4,.a (.v 0) (.v 2))] (.s (.v 4),.n 5000) rfl hu h7' (eE ZI))
    refine⟨xs.drop i',ys.drop j',i',j',v',w',?_⟩
    dsimp only[tq];refine(ag (uo h8 hc e)).trans ?_
    refine df (Nat.exists_eq_succ_of_ne_zero hsub) fun m qz5=>?_;clear hn;clear hsub;refine qz5▸?_
    haveI hp:bT (m+1) rx' ry'=(rx',ry'):=by
     rcases hz with rfl | rfl
     ·clear h6;cases ry'<;>rfl
     ·clear h6;cases rx'<;>rfl
    simp only[hp,h1,h2]
    show Rs.ok Fl.next (Zh J (ms++pm++rx') (us++pu++ry') _ _) _=Rs.ok Fl.next (Zh J (ms++(pm++rx')) (us++(pu++ry')) _ _) _
    rw[ZZ,ZZ]
theorem CC(F:eP)(e:List V):∃ g1 g2,aU F scr aN [.ref kx,.ref ky] J e =
  .ok (.ref (J.n+4)) (J.adds [.list (ns (bT 2000 xs ys).1),.list (ns (bT 2000 xs ys).2),.list (ns g1),.list (ns g2),.tup [.ref J.n,.ref (J.n+1)]]) e:=by
 haveI lx:=T.lx
 haveI ly:=T.ly
 refine Iw (rq (scr:=scr) T 2000 xs ys [] [] 0 0 .ah .ah rfl rfl (XU _) (XU _) (om [_,_] [(.s (.v 0),.n 1000),(.s (.v 1),.n 1000)] (.s (.a (.v 0) (.v 1)),.n 2000) rfl lx ly) (by simp;exact Zj lx (ZQ 1000 3000)) (by simp;exact Zj ly (ZQ 1000 3000)) rfl rfl) fun g1 g2 i j v w h=>?_
 refine uS g1 g2 ?_
 haveI h0:au (aN.body F scr) J [.ref kx,.ref ky,.ah,.ah,.ah,.ah,.ah,.ah]=au [bM (aG (.ret (.bool true))) (au [mJ scr]) (au []) bc,b9 (eu [af 4,af 5])] (Zs J [] []) (Es J kx ky 0 0 .ah .ah):=rfl
 haveI h1:=h0.trans ((aB h).trans (dJ (v:=.ref (J.n+4)) (rfl)))
 show(match M.bind (eB [0,1] [.ref kx,.ref ky]) (fun zz=>aU.fin F scr aN) J [.ah,.ah,.ah,.ah,.ah,.ah,.ah,.ah] with
  |.ok v s' _=>_
  |.exc c a s' _=>_
  |.bad=>_)=_
 rw[show M.bind (eB [0,1] [.ref kx,.ref ky]) (fun zz=>aU.fin F scr aN) J [.ah,.ah,.ah,.ah,.ah,.ah,.ah,.ah]=aU.fin F scr aN J [.ref kx,.ref ky,.ah,.ah,.ah,.ah,.ah,.ah] from rfl]
 unfold aU.fin
 rw[ag h1]
 rfl
end
end
noncomputable def kA:bH (List Int):=.lst (.many .int)
noncomputable def rows:bH (List (List Int)):=.lst (.many kA)
noncomputable def res:bH (List (List Int)×List (Int×Int)×Unit):=.tup (.two rows (.two .G2 .nil))
noncomputable def AS:List V->List V->Bool
 |[],[]=>true
 |a::r,b::r'=>(match decide (a=b) with
  |true=>AS r r'
  |false=>false)
 |_,_=>false
noncomputable def Ir:O->O->Bool
 |.list a,.list b=>AS a b
 |_,_=>false
noncomputable def wW(t:Tr):Nat->List O->Bool
 |_,[]=>true
 |i,o::r=>match t.get i with
  |some x=>Ir o x&&wW t (i+1) r
  |none=>false
theorem uL:∀ {a b:List V},AS a b=true->a=b
 |[],[],_=>rfl
 |a::r,b::r',h=>by
  dsimp only[AS] at h
  by_cases q:a=b
  ·rw[ZA q] at h;exact q▸(uL h)▸rfl
  ·rw[Zo q] at h;contradiction
 |[],_::_,h=>by contradiction
 |_::_,[],h=>by contradiction
theorem DB{a b:O}(h:Ir a b=true):a=b:=by
 cases a with
 |list a=>cases b with
  |list b=>exact ZV O.list (uL h)
  |_=>exact Bool.noConfusion h
 |_=>exact Bool.noConfusion h
theorem pe{t:Tr}:∀ {os:List O} {i:Nat},wW t i os=true->∀ (j:Nat) o,os[j]? = some o->t.get (i+j)=some o
 |[],_,_,j,o,e=>by simp at e
 |x::r,i,h,j,o,e=>by
  dsimp only[wW] at h
  refine bI (t.get i) (fun q=>?_) fun y q=>?_
  ·replace h:=q▸h;exact Bool.noConfusion h
  ·rw[q] at h
   refine bU (ZR.mp h) fun h1 h2=>?_
   cases j with
   |zero=>obtain rfl:=Z9 e;simp only[Nat.add_zero,q,DB h1]
   |succ j=>rw[show i+(j+1)=i+1+j by exact YW (om [_,_] [] (.a (.v 0) (.s (.v 1)),.a (.s (.v 0)) (.v 1)) rfl) (om [_,_] [] (.a (.s (.v 0)) (.v 1),.a (.v 0) (.s (.v 1))) rfl)];exact pe h2 j o (by simpa using e)
noncomputable def yL(m:Nat):List Nat->Bool
 |[]=>true
 |k::r=>Nat.ble m k&&!r.contains k&&yL m r
theorem oX{m:Nat}:∀ {ks:List Nat},yL m ks=true->(∀ k∈ks,m<=k)/\ks.Nodup
 |[],_=>⟨fun k h=>(by contradiction),WR⟩
 |k::r,h=>by
  dsimp only[yL] at h
  simp only[ZJ] at h
  refine bU h fun qz1 h3=>?_;clear h;obtain⟨h1,h2⟩:=qz1
  refine bU (oX h3) fun g1 g2=>?_
  refine⟨fun j hj=>?_,ZN.mpr ⟨fun q=>?_,g2⟩⟩
  ·rcases ZS.mp hj with rfl | hj
   ·exact ZC h1
   ·exact g1 j hj
  ·simp[q] at h2
section
variable {α β:Type}
noncomputable def Dr(eq:β->β->Bool)(A:bH α)(B:bH β)(a:α)(d:β)(n:Nat):Rs Fl->Bool
 |.ok (.ret v1) J1 _=>match B.rd J1 [v1] with
  |some (d',ks)=>eq d' d&&yL n ks&&wW J1.t 0 (A.lay a 0).2
  |none=>false
 |_=>false
theorem zU{eq:β->β->Bool}(he:∀ x y,eq x y=true->x=y){b:dG}{ps:List Nat}{A:bH α}{B:bH β}{m:M Fl}{a:α}{d:β}(h:Dr eq A B a d (dj b ps A a).n (m (dj b ps A a) (dT b ps A a))=true):jK [] b ps A B m a d:=by
 generalize e:m (dj b ps A a) (dT b ps A a)=r at h
 cases r with
 |bad=>contradiction
 |exc=>contradiction
 |ok f J1 e1=>
  cases f with
  |ret v1=>
   unfold Dr at h
   dsimp only at h
   refine bI (B.rd J1 [v1]) (fun q=>?_) fun p q=>?_
   ·replace h:=q▸h;contradiction
   ·rw[q] at h
    simp only[ZJ] at h
    obtain⟨⟨h1,h2⟩,h3⟩:=h
    refine bU (oX h2) fun g1 g2=>?_
    exact⟨v1,J1,e1,p.2,e,by exact q▸(he _ _ h1)▸rfl,g1,g2,(fun zz h=>by cases h),fun i o zz q=>by haveI:=pe h3 i o q;rwa [YA] at this⟩
  |_=>exact Bool.noConfusion h
end
abbrev D8:dG:=cL.names
noncomputable def Hy:Fn:={cL with body:=fun F scr=>[fB D8 [0] kA kA (au (cL.body F scr))]}
noncomputable def d6:Nat->Int->Int->List Int
 |0,_,_=>[]
 |n+1,f,s=>if f<=16 then f::d6 n (f+s) s else[]
noncomputable def FQ:List Int->List Int->Bool
 |[],[]=>true
 |a::r,b::r'=>(match decide (a=b) with
  |true=>FQ r r'
  |false=>false)
 |_,_=>false
theorem sX:∀ (a b:List Int),FQ a b=true->a=b
 |[],[],_=>rfl
 |a::r,b::r',h=>by
  dsimp only[FQ] at h
  by_cases q:a=b
  ·rw[ZA q] at h;exact q▸(sX _ _ h)▸rfl
  ·rw[Zo q] at h;contradiction
 |[],_::_,h=>by contradiction
 |_::_,[],h=>by contradiction
noncomputable def Il:eP:=fun zz zz=>.bad
noncomputable def oY(row d:List Int):Bool:=Dr FQ kA kA row d (dj D8 [0] kA row).n (au (cL.body Il []) (dj D8 [0] kA row) (dT D8 [0] kA row))
noncomputable def allB(p:Int->Bool):List Int->Bool
 |[]=>true
 |x::r=>p x&&allB p r
theorem fv{p:Int->Bool}:∀ {l:List Int},allB p l=true->∀ x∈l,p x=true
 |[],_,_,h=>by contradiction
 |y::r,h,x,hx=>by
  refine bU (ZR.mp h) fun h1 h2=>?_
  rcases ZS.mp hx with rfl | hx
  ·exact h1
  ·exact fv h2 x hx
noncomputable def iG(a:Int):Nat->List Int
 |0=>[]
 |n+1=>a::iG (a+1) n
theorem ir:∀ {n:Nat} {a x:Int},a<=x->x<a+n->x∈iG a n
 |0,a,x,h1,h2=>by omega
 |n+1,a,x,h1,h2=>by
  by_cases q:x=a
  ·exact q▸ZX
  ·exact ZY _ (ir (by omega) (by omega))
noncomputable def FU:Bool:=allB (fun s=>allB (fun f=>oY [f,s,0,f] (d6 17 f s)) (iG 1 8)) (iG 2 5)
noncomputable def sA:List Int:=[2,3,4,5,6,10,12,15,20,30,60]
noncomputable def FD:Bool:=allB (fun s=>allB (fun f=>oY [f,s,0] (d6 17 f s)) (iG 1 16)) sA
theorem dA{F:eP}{scr:List Int}{f:Fn}{args:List V}{J J1 J2 J3:aq}{e e1 e2 e3:List V}{v:V}(hst:f.star=none)(hdf:f.dflt=[])(hl:args.length=f.bR.length)(hE:bq [] f.names J=(J1,e1))(hB:eB f.bR args J1 e1 = .ok () J2 e2)(hb:au (f.body F scr) J2 e2 = .ok (.ret v) J3 e3):aU F scr f args J e = .ok v J3 e:=by
 unfold aU
 rw[show gn f args=some (args,[]) by
  unfold gn
  rw[hdf]
  dsimp only
  exact hl▸(show(Nat.ble args.length args.length&&(f.star.isSome||Nat.beq args.length args.length))=true by simp)▸Yu▸List.drop_length▸rfl]
 dsimp only
 dsimp only[aU.callIn]
 refine hst▸?_
 dsimp only
 refine hE▸?_
 dsimp only
 rw[ag hB]
 unfold aU.fin
 rw[ag hb]
theorem kS{J:aq}:∀ l:List Int,(bH.many bH.int).rd J (ns l)=some (l,[])
 |[]=>rfl
 |i::r=>by
  show((some (i,[]):Option (Int×List Nat)).bind fun p=>(bH.mA bH.int J (ns r)).map fun q=>(p.1::q.1,p.2++q.2))=_
  exact(show bH.mA bH.int J (ns r)=some (r,[]) from kS r)▸rfl
theorem jq:∀ (l:List Int) (n:Nat),(bH.many bH.int).lay l n=(ns l,[])
 |[],_=>rfl
 |i::r,n=>by
  show([V.int i]++(bH.fu bH.int r (n+0)).1,[]++(bH.fu bH.int r (n+0)).2)=_
  exact(show bH.fu bH.int r (n+0)=(ns r,[]) from jq r _)▸rfl
theorem yb{J:aq}{k:Nat}{l:List Int}(h:J.t.get k=some (.list (ns l))):kA.rd J [.ref k]=some (l,[k]):=by
 show((J.t.get k).bind fun o=>(dp o).bind _)=_
 rw[h]
 show((bH.many bH.int).rd J (ns l)).map _=_
 rw[kS];rfl
theorem tG(l:List Int)(n:Nat):kA.lay l n=([.ref n],[.list (ns l)]):=by
 show([V.ref n],O.list ((bH.many bH.int).lay l (n+1)).1::((bH.many bH.int).lay l (n+1)).2)=_
 rw[jq]
theorem qL{F:eP}{scr:List Int}{J:aq}{k:Nat}{e:List V}{row d:List Int}(hJ:J.fz=[])(hk:J.t.get k=some (.list (ns row)))(h:oY row d=true) :
  aU F scr Hy [.ref k] J e = .ok (.ref J.n) (J.adds [.list (ns d)]) e:=by
 refine dA (e2:=[.ref k,.ah,.ah,.ah,.ah]) (e3:=pC [.ref k,.ah,.ah,.ah,.ah]) rfl rfl rfl rfl rfl ?_
 haveI hP:wU [] J [.ref k,.ah,.ah,.ah,.ah] D8 [0] kA row [.ref k,.ah,.ah,.ah,.ah] [k] []:=⟨fun i h=>(by cases h),hJ,rfl,yb hk,by simp,fun i hi=>by
  match i,hi with
  |0,hi=>cases hi
  |1,hi=>cases hi
  |2,hi=>cases hi
  |3,hi=>cases hi
  |4,hi=>cases hi⟩
 haveI hs:=rj (zU sX h)
 haveI:=ip (B:=kA) ⟨hP,hs⟩
 show au [fB D8 [0] kA kA (au (cL.body Il []))] _ _=_
 unfold fB
 rw[ib,this]
 delta nU oA
 rw[tG]
 rfl
theorem Bf:FU=true:=by kernel_rfl
theorem BF:FD=true:=by kernel_rfl
theorem Go{s f:Int}(h1:2<=s)(h2:s<=6)(h3:1<=f)(h4:f<=8):oY [f,s,0,f] (d6 17 f s)=true:=fv (fv Bf s (ir h1 (by omega))) f (ir h3 (by omega))
theorem Fx{s f:Int}(hs:s∈sA)(h3:1<=f)(h4:f<=16):oY [f,s,0] (d6 17 f s)=true:=fv (fv BF s hs) f (ir h3 (by omega))
section
variable {x:M V}{N i k:Nat}{P:Nat->aq->List V->Prop}{J:aq}{v:V}
inductive LoopAt(x:It)(f:V->M Unit)(P:Nat->aq->List V->Prop)(i:Nat)(J:aq)(Z:List V):Prop where
 |mk (v:V) (J':aq) (Z':List V) (h1:eH J x i=some (some v)) (h2:f v J Z = .ok () J' Z') (h3:P (i+1) J' Z')
inductive Ends{α:Type}(r:Rs α)(a:α)(P:aq->List V->Prop):Prop where
 |mk (J:aq) (Z:List V) (h:r = .ok a J Z) (hp:P J Z)
theorem mn{x:It}{f:V->M Unit}(hs:∀ i,i<N->∀ J Z,P i J Z->LoopAt x f P i J Z)(he:∀ J Z,P N J Z->eH J x N=some none) :
  ∀ (k i fuel:Nat) (J:aq) (Z:List V),i+k=N->k<fuel->P i J Z->Ends (dQ f x fuel i J Z) () (P N)
 |_,_,0,_,_,_,h,_=>absurd h (YX _)
 |0,i,n+1,J,Z,hi,_,hp=>by
  clear hs;subst hi
  exact⟨J,Z,by dsimp only[dQ];exact(he J Z hp)▸rfl,hp⟩
 |k+1,i,n+1,J,Z,hi,hn,hp=>by
  obtain⟨v,J',Z',h1,h2,h3⟩:=hs i (om [_,_,_] [(.a (.v 0) (.s (.v 1)),.v 2)] (.s (.v 0),.v 2) rfl (eE hi)) J Z hp
  obtain⟨J2,Z2,h4,h5⟩:=mn hs he k (i+1) n J' Z' (YW (om [_,_,_] [(.a (.v 0) (.s (.v 1)),.v 2)] (.a (.s (.v 0)) (.v 1),.v 2) rfl (eE hi)) (om [_,_,_] [(.v 0,.a (.v 1) (.s (.v 2)))] (.v 0,.a (.s (.v 1)) (.v 2)) rfl (lC hi))) (Nat.le_of_lt_succ ‹_›) h3
  exact⟨J2,Z2,by dsimp only[dQ];refine(h1)▸?_;exact(ag h2).trans h4,h5⟩
inductive Cn(x:It)(asg:V->M Unit)(b:M Fl)(P:Nat->aq->List V->Prop)(i:Nat)(J:aq)(Z:List V):Prop where
 |mk (v:V) (J1:aq) (Z1:List V) (J':aq) (Z':List V) (h1:eH J x i=some (some v)) (h2:asg v J Z = .ok () J1 Z1) (h3:b J1 Z1 = .ok .next J' Z') (h4:P (i+1) J' Z')
theorem tE{x:It}{asg:V->M Unit}{b:M Fl}(hs:∀ i,i<N->∀ J Z,P i J Z->Cn x asg b P i J Z)(he:∀ J Z,P N J Z->eH J x N=some none) :
  ∀ (k i fuel:Nat) (J:aq) (Z:List V),i+k=N->k<fuel->P i J Z->Ends (pT x asg b fuel i J Z) .next (P N)
 |_,_,0,_,_,_,h,_=>absurd h (YX _)
 |0,i,n+1,J,Z,hi,_,hp=>by
  clear hs;subst hi
  exact⟨J,Z,by dsimp only[pT];exact(he J Z hp)▸rfl,hp⟩
 |k+1,i,n+1,J,Z,hi,hn,hp=>by
  obtain⟨v,J1,Z1,J',Z',h1,h2,h3,h4⟩:=hs i (om [_,_,_] [(.a (.v 0) (.s (.v 1)),.v 2)] (.s (.v 0),.v 2) rfl (eE hi)) J Z hp
  obtain⟨J2,Z2,h5,h6⟩:=tE hs he k (i+1) n J' Z' (YW (om [_,_,_] [(.a (.v 0) (.s (.v 1)),.v 2)] (.a (.s (.v 0)) (.v 1),.v 2) rfl (eE hi)) (om [_,_,_] [(.v 0,.a (.v 1) (.s (.v 2)))] (.v 0,.a (.s (.v 1)) (.v 2)) rfl (lC hi))) (Nat.le_of_lt_succ ‹_›) h4
  exact⟨J2,Z2,by dsimp only[pT];refine(h1)▸?_;exact(ag h2).trans ((ag h3).trans h5),h6⟩
section
variable {J J1:aq}{Z:List V}
theorem eV{t:Tg}{b:M Fl}{it:It}(hx:x J Z = .ok v J1 Z)(hi:nK J1 v=some it)(hz:d4 (α:=Fl) it=id)(hN:N<2000)(hs:∀ i,i<N->∀ J Z,P i J Z->Cn it (aA 0 t) b P i J Z)(he:∀ J Z,P N J Z->eH J it N=some none)(h0:P 0 J1 Z):Ends (dB t x b J Z) .next (P N):=by
 obtain⟨J2,Z2,h1,h2⟩:=tE hs he N 0 bc J1 Z (YA _) hN h0
 refine⟨J2,Z2,?_,h2⟩
 skip
 refine(ag hx).trans ?_
 dsimp only[dK]
 rw[hi]
 dsimp only
 exact hz▸h1
theorem d7{t:Tg}{ifs:List (M Bool)}{g:Nat->M Unit}{b:dG}{it:It}{J2:aq}{e2:List V}(hx:x J Z = .ok v J1 Z)(hi:nK J1 v=some it)(hz:d4 (α:=V) it=id)(hN:N<2000)(hE:bq Z b (J1.add (.list []))=(J2,e2))(hs:∀ i,i<N->∀ J e,P i J e->LoopAt it (fun v=>iB 0 t ifs (g J1.n) v) P i J e)(he:∀ J e,P N J e->eH J it N=some none)(h0:P 0 J2 e2) :
  Ends (bz x t ifs g b J Z) (.ref J1.n) (fun J' e'=>e'=Z/\∃ e,P N J' e):=by
 obtain⟨J3,Z3,h1,h2⟩:=mn hs he N 0 bc J2 e2 (YA _) hN h0
 refine⟨J3,Z,?_,rfl,Z3,h2⟩
 haveI hb:fm b (dQ (fun v=>iB 0 t ifs (g J1.n) v) it bc 0) (J1.add (.list [])) Z = .ok () J3 Z:=by
  dsimp only[fm]
  rw[hE]
  dsimp only
  exact h1▸rfl
 haveI hm:M.bind (M.new (.list [])) (fun acc=>M.bind (fm b (dQ (fun v=>iB 0 t ifs (g acc) v) it bc 0)) fun zz=>M.ret (V.ref acc)) J1 Z = .ok (.ref J1.n) J3 Z:=ag hb
 refine(ag hx).trans ?_
 dsimp only[wK,dK]
 refine hi▸?_
 dsimp only
 refine hz▸?_
 dsimp only[id]
 rw[hm]
theorem ba{c:Nat}(h:V.at Z i = .aI c)(hc:J.t.get c=some (.cell v))(hv:v≠.ah):af i J Z = .ok v J Z:=by
 unfold af
 refine h▸?_
 show az (J.t.get c) _ J Z=_
 refine hc▸?_
 show oN v J Z=_
 skip
 clear hc;cases v<;>first | rfl | exact absurd rfl hv
theorem j3{c:Nat}{w:V}(h:V.at Z i = .aI c)(hc:J.t.get c=some (.cell w)):bt i v J Z = .ok () (J.put c (.cell v)) Z:=by
 unfold bt
 rw[h]
 show az (J.t.get c) _ J Z=_
 exact hc▸rfl
theorem bZ(h:aE (V.at Z i)=none):bt i v J Z = .ok () J (V.put Z i v):=by
 unfold bt
 exact h▸rfl
theorem jo{n:Nat}{y:M V}{m:Int}(h:y J Z = .ok (.int m) J Z)(hm:bO m=true):aS n .aW [y] J Z = .ok (.ref J.n) (J.add (.bD 0 m)) Z:=by
 haveI h3:cR [y] J Z = .ok [.int m] J Z:=by
  refine(ag h).trans ?_;rfl
 refine(ag h3).trans ?_
 show(if bO m then _ else _:M V) J Z=_
 rw[hm]
 rfl
theorem dn{a b:Int}(h:a+i<b):eH J (.bD a b) i=some (some (.int (a+i))):=by
 unfold eH;dsimp only;exact(if_pos h)▸rfl
theorem bw{a b:Int}(h:¬a+i<b):eH J (.bD a b) i=some none:=by
 unfold eH;dsimp only;exact(if_neg h)▸rfl
theorem cE{vs:List V}(h:J.t.get k=some (.list vs)):eH J (.lst k) i=some vs[i]?:=by
 unfold eH;dsimp only;exact h▸rfl
theorem cb{o:O}(h:J.t.get k=some o):nK J (.ref k)=HM J k o:=by
 show(J.t.get k).bind _=_
 exact h▸rfl
end
noncomputable def iP(m k:Nat):Bool:=Nat.beq (m / 2 ^ k % 2) 1
theorem wz{y:M V}{Z:List V}{m:Nat}(hm:x J Z = .ok (.int (Int.ofNat m)) J Z)(hk:y J Z = .ok (.int (Int.ofNat k)) J Z)(h1:m<8)(h2:k<3) :
  aG (aO .Eq (aL .Mod (aL .FloorDiv x (aL .Pow (.ret (.int 2)) y)) (.ret (.int 2))) (.ret (.int 1))) J Z = .ok (iP m k) J Z:=by
 haveI e1:aL .Pow (.ret (.int 2)) y J Z = .ok (.int ((2:Int) ^ k)) J Z:=(ag rfl).trans ((ag hk).trans (by
  match k,h2 with
  |0,_=>rfl
  |1,_=>rfl
  |2,_=>rfl))
 haveI e2:aL .FloorDiv x (aL .Pow (.ret (.int 2)) y) J Z = .ok (.int (Int.fdiv (m:Int) ((2:Int) ^ k))) J Z:=(ag hm).trans ((ag e1).trans (by
  match k,h2 with
  |0,_=>rfl
  |1,_=>rfl
  |2,_=>rfl))
 haveI e3:aL .Mod (aL .FloorDiv x (aL .Pow (.ret (.int 2)) y)) (.ret (.int 2)) J Z = .ok (.int (Int.ofNat (m / 2 ^ k % 2))) J Z:=(ag e2).trans (by
  show Rs.ok (V.int (Int.fmod (Int.fdiv (m:Int) ((2:Int) ^ k)) 2)) J Z=_
  rw[show(2:Int) ^ k=((2 ^ k:Nat):Int) by simp,<-Int.ofNat_fdiv,show(2:Int)=((2:Nat):Int) from rfl,<-Int.ofNat_fmod];rfl)
 refine(bQ e3 rfl ?_)
 congr 1
 unfold iP
 rcases Nat.mod_two_eq_zero_or_one (m / 2 ^ k) with q | q<;>rw[q]<;>rfl
end
section
variable {os:List O}{Z:List V}{x y:M V}{i:Nat}
section
variable {J:aq}{scr:List Int}
theorem lS{a b:V}(h1:x (J.adds os) Z = .ok a (J.adds os) Z)(h2:y (J.adds os) Z = .ok b (J.adds os) Z):eu [x,y] (J.adds os) Z = .ok (.ref (J.n+os.length)) (J.adds (os++[.tup [a,b]])) Z:=by
 haveI h3:cR [x,y] (J.adds os) Z = .ok [a,b] (J.adds os) Z:=(ag h1).trans (ag ((ag h2).trans rfl))
 exact(ag h3).trans (lI (om [] [] (.s (.s (.n 0)),.n 10000) rfl))
theorem tQ{a b c0 c1 c2 c3 u v:V}(hJ:J.Ok)(h1:x (J.adds os) [c0,c1,c2,c3,u,v] = .ok a (J.adds os) [c0,c1,c2,c3,u,v])(h2:y (J.adds os) [c0,c1,c2,c3,u,v] = .ok b (J.adds os) [c0,c1,c2,c3,u,v])(hu:aE u=none)(hv:aE v=none) :
  jS [4,5] (eu [x,y]) (J.adds os) [c0,c1,c2,c3,u,v] = .ok .next (J.adds (os++[.tup [a,b]])) [c0,c1,c2,c3,a,b]:=by
 refine(ag (lS h1 h2)).trans (ag (a:=()) ?_)
 refine(ag (ob _ (aq.ai hJ (by rw[ZF (ZE _),XW];rfl)))).trans ?_
 refine(ag (bZ (i:=5) (Z:=[c0,c1,c2,c3,u,v]) hv)).trans ?_
 exact ag (bZ hu)
theorem yW(hJ:J.Ok){c0 c1 c2 c3:V}:∀ (N b a:Nat) (os:List O),b<N->∃ g,bM (aG (aO .NotEq (af 5) (.ret (.int 0)))) (au [jS [4,5] (eu [af 5,aL .Mod (af 4) (af 5)])]) (au []) N (J.adds os) [c0,c1,c2,c3,.int (Int.ofNat a),.int (Int.ofNat b)] =
  .ok .next (J.adds (os++g)) [c0,c1,c2,c3,.int (Int.ofNat (Nat.gcd a b)),.int 0]
 |0,_,_,_,h=>absurd h (YX _)
 |N+1,0,a,os,h=>⟨[],by
  rw[ZT,Nat.gcd_zero_right]
  exact(bf (c:=false) (bQ (x:=af 5) (y:=.ret (.int 0)) rfl rfl rfl)).trans rfl⟩
 |N+1,b+1,a,os,h=>by
  obtain⟨g,ih⟩:=yW hJ N (a % (b+1)) (b+1) _ (by haveI:=Nat.mod_lt a (Nat.succ_pos b);exact om [_,_,_] [(.s (.s (.v 0)),.s (.v 1)),(.s (.v 2),.s (.v 0))] (.s (.v 2),.v 1) rfl h this)
  refine⟨.tup [.int (Int.ofNat (b+1)),.int (Int.ofNat (a % (b+1)))]::g,?_⟩
  haveI hm:aL .Mod (af 4) (af 5) (J.adds os) [c0,c1,c2,c3,.int (Int.ofNat a),.int (Int.ofNat (b+1))] = .ok (.int (Int.ofNat (a % (b+1)))) (J.adds os) _:=by
   show Rs.ok (V.int (Int.fmod ((a:Nat):Int) ((b+1:Nat):Int))) _ _=_
   rw[<-Int.ofNat_fmod];rfl
  refine(ag ((aB (tQ (x:=af 5) hJ rfl hm rfl rfl)).trans rfl)).trans ?_
  refine(ih).trans ?_;rw[Nat.gcd_rec a (b+1)]
  rw[show(b+1) % a=(b+1) % a from rfl,<-Nat.gcd_rec,Nat.gcd_comm a (b+1),Nat.gcd_rec (b+1) a,Nat.gcd_comm (b+1) _]
  rw[ZZ];rfl
structure jf(J:aq)(kc:Nat)(ks:Nat->Nat)(f:Nat->Int)(s:Nat->Nat):Prop where
 ok:J.Ok
 lst:J.t.get kc=some (.list [.ref (ks 0),.ref (ks 1),.ref (ks 2)])
 tup:∀ i,i<3->J.t.get (ks i)=some (.tup [.int (f i),.int (Int.ofNat (s i))])
 lo:∀ i,i<3->2<=s i
 hi:∀ i,i<3->s i<=6
noncomputable def cO(s:Nat->Nat)(m:Nat):Nat->Nat
 |0=>1
 |k+1=>match iP m k with
  |true=>Nat.lcm (cO s m k) (s k)
  |false=>cO s m k
theorem uH{s:Nat->Nat}{m:Nat}:∀ k,k<=3->(∀ i,i<3->2<=s i/\s i<=6)->0<cO s m k/\cO s m k<=6 ^ k
 |0,_,_=>⟨Nat.one_pos,ZE _⟩
 |k+1,hk,h=>by
  refine bU (uH (m:=m) k (YE ‹_›) h) fun h1 h2=>?_
  refine bU (h k (by assumption)) fun h3 h4=>?_
  dsimp only[cO]
  cases iP m k with
  |false=>exact⟨h1,ZD h2 (Nat.pow_le_pow_right (Nat.succ_pos _) (XH _))⟩
  |true=>exact⟨Nat.lcm_pos h1 (by omega),ZD (Nat.le_of_dvd (Nat.mul_pos h1 (by omega)) (Nat.lcm_dvd (Nat.dvd_mul_right _ _) (Nat.dvd_mul_left _ _))) (by dsimp only[Nat.pow_succ];exact Nat.mul_le_mul h2 h4)⟩
variable {kc:Nat}{ks:Nat->Nat}{f:Nat->Int}{s:Nat->Nat}
theorem jf.item(C:jf J kc ks f s)(h1:x (J.adds os) Z = .ok (.ref kc) (J.adds os) Z)(h2:y (J.adds os) Z = .ok (.int (Int.ofNat i)) (J.adds os) Z)(hi:i<3):aD 0 scr x y (J.adds os) Z = .ok (.ref (ks i)) (J.adds os) Z:=
 di h1 h2 (aq.aX C.ok C.lst) (show 3<4611686018427387904 by decide) (by
  match i,hi with
  |0,_=>rfl
  |1,_=>rfl
  |2,_=>rfl)
theorem jf.step(C:jf J kc ks f s)(h1:x (J.adds os) Z = .ok (.ref kc) (J.adds os) Z)(h2:y (J.adds os) Z = .ok (.int (Int.ofNat i)) (J.adds os) Z)(hi:i<3):aD 0 scr (aD 0 scr x y) (.ret (.int 1)) (J.adds os) Z = .ok (.int (Int.ofNat (s i))) (J.adds os) Z:=by
 refine(ag (C.item h1 h2 hi)).trans ?_
 refine(ag (ob _ (aq.aX C.ok (C.tup i hi)))).trans ?_
 rfl
theorem jf.fin(C:jf J kc ks f s){W:Nat}(hi:i<3)(p1:0<W)(p2:W<=36)(h0:af 0 (J.adds os) Z = .ok (.ref kc) (J.adds os) Z)(h3:af 3 (J.adds os) Z = .ok (.int (Int.ofNat i)) (J.adds os) Z)(h2:af 2 (J.adds os) Z = .ok (.int (Int.ofNat W)) (J.adds os) Z)(h4:af 4 (J.adds os) Z = .ok (.int (Int.ofNat (Nat.gcd W (s i)))) (J.adds os) Z) :
  aL .FloorDiv (aL .Mult (af 2) (aD 0 scr (aD 0 scr (af 0) (af 3)) (.ret (.int 1)))) (af 4) (J.adds os) Z = .ok (.int (Int.ofNat (Nat.lcm W (s i)))) (J.adds os) Z:=by
 have hs:=C.hi i hi
 have hs2:=C.lo i hi
 haveI hg0:0<Nat.gcd W (s i):=Nat.gcd_pos_of_pos_left _ p1
 haveI hg1:Nat.gcd W (s i)<=s i:=Nat.gcd_le_right _ (YE ‹_›)
 haveI e1:aL .Mult (af 2) (aD 0 scr _ _) (J.adds os) Z = .ok _ (J.adds os) Z:=by
  refine(ag h2).trans ((ag (C.step h0 h3 hi)).trans ?_)
  show(if _=true then M.ret _ else M.bad) _ _=_
  rw[dE (ZG p2 (ZQ _ 4611686018427387867)),dE (ZG hs (ZQ (Nat.succ 6) 4611686018427387897))]
  rfl
 refine(ag e1).trans ((ag h4).trans ?_)
 show(if _=true then M.bad else M.ret _) _ _=_
 rw[dE (by omega),if_neg (by simp;omega)]
 show Rs.ok (V.int (Int.fdiv ((W*s i:Nat):Int) ((Nat.gcd W (s i):Nat):Int))) _ _=_
 rw[<-Int.ofNat_fdiv];rfl
theorem lO(C:jf J kc ks f s)(F:eP)(e:List V){m:Nat}(hm:m<8):∃ g,aU F scr fh [.ref kc,.int (Int.ofNat m)] J e = .ok (.int (Int.ofNat (cO s m 3))) (J.adds g) e:=by
 haveI hJ:=C.ok
 let P:Nat->aq->List V->Prop:=fun i J' Z'=>∃ g z u v,J'=J.adds (.bD 0 3::g)/\Z'=[.ref kc,.int (Int.ofNat m),.int (Int.ofNat (cO s m i)),z,u,v]/\aE z=none/\aE u=none/\aE v=none
 have hb:∀ i,i<3->2<=s i/\s i<=6:=fun i hi=>⟨C.lo i hi,C.hi i hi⟩
 haveI hfor:=eV (J1:=J.adds [.bD 0 3]) (Z:=[.ref kc,.int (Int.ofNat m),.int 1,.ah,.ah,.ah]) (x:=aS scr.length .aW [.ret (.int 3)]) (P:=P) (N:=3)
  (b:=au [br _ (au [jS [4,5] _,bM _ _ (au []) bc,aJ _ [aA 0 (.one 2)]]) (au [])])
  (jo rfl rfl) (cb (o:=.bD 0 3) (aq.ai hJ (i:=0) rfl)) rfl (by decide) (fun i hi J' Z' hp=>by
   refine El hp fun g z u v qz1 qz2 hz hu hv=>?_;clear hp;subst qz1;subst qz2
   have hb1:aG (aO .Eq (aL .Mod (aL .FloorDiv (af 1) (aL .Pow (.ret (.int 2)) (af 3))) (.ret (.int 2))) (.ret (.int 1))) (J.adds (.bD 0 3::g)) [.ref kc,.int (Int.ofNat m),.int (Int.ofNat (cO s m i)),.int (Int.ofNat i),u,v] = .ok (iP m i) _ _:=wz rfl rfl hm hi
   have hn:eH (J.adds (.bD 0 3::g)) (.bD 0 3) i=some (some (.int (Int.ofNat i))):=by
    haveI:=dn (J:=J.adds (.bD 0 3::g)) (a:=0) (b:=3) (i:=i) (by omega)
    rw[Yb] at this;exact this
   haveI hs3:aA 0 (.one 3) (.int (Int.ofNat i)) _ [.ref kc,.int (Int.ofNat m),.int (Int.ofNat (cO s m i)),z,u,v] = .ok () (J.adds (.bD 0 3::g)) _:=bZ hz
   refine bU (uH (m:=m) i (YE ‹_›) hb) fun p1 p2=>?_
   have p3:6 ^ i<=36:=by
    match i,hi with
    |0,_=>decide
    |1,_=>decide
    |2,_=>decide
   refine lQ (iP m i) (fun q=>?_) fun q=>?_
   ·replace hb1:=q▸hb1
    refine⟨_,_,_,_,_,hn,hs3,(aB (bf hb1)).trans rfl,g,.int (Int.ofNat i),u,v,rfl,?_,rfl,hu,hv⟩
    rw[show cO s m (i+1)=cO s m i by dsimp only[cO];refine q▸?_;clear hb1;clear hi;clear hn;clear hs3;clear p1;clear p2;clear p3;clear q;cases i<;>rfl]
   ·rw[q] at hb1
    haveI hsw:=tQ (os:=.bD 0 3::g) (c0:=.ref kc) (c1:=.int (Int.ofNat m)) (c2:=.int (Int.ofNat (cO s m i))) (c3:=.int (Int.ofNat i)) (x:=af 2) hJ rfl (C.step (scr:=scr) (x:=af 0) (y:=af 3) rfl rfl hi) hu hv
    refine df (yW hJ (c0:=.ref kc) (c1:=.int (Int.ofNat m)) (c2:=.int (Int.ofNat (cO s m i))) (c3:=.int (Int.ofNat i)) bc (s i) (cO s m i) ((.bD 0 3::g)++[.tup [.int (Int.ofNat (cO s m i)),.int (Int.ofNat (s i))]]) (by haveI:=hb i hi;show _<2000;exact om [_] [(.v 0,.n 6)] (.s (.v 0),.n 2000) rfl this.2)) fun g2 hg=>?_
    haveI hfin:aJ (aL .FloorDiv (aL .Mult (af 2) (aD 0 scr _ (.ret (.int 1)))) (af 4)) [aA 0 (.one 2)] _ [.ref kc,.int (Int.ofNat m),.int (Int.ofNat (cO s m i)),.int (Int.ofNat i),.int _,.int 0] =
      .ok .next (J.adds (((.bD 0 3::g)++[.tup [.int (Int.ofNat (cO s m i)),.int (Int.ofNat (s i))]])++g2)) [.ref kc,.int (Int.ofNat m),.int _,.int (Int.ofNat i),.int _,.int 0]:=
     fC (C.fin hi p1 (ZD p2 p3) rfl rfl rfl rfl) rfl
    refine⟨_,_,_,_,_,hn,hs3,(aB ((bf hb1).trans ((aB hsw).trans ((aB hg).trans ((aB hfin).trans rfl))))).trans rfl,g++[.tup [.int (Int.ofNat (cO s m i)),.int (Int.ofNat (s i))]]++g2,.int (Int.ofNat i),.int (Int.ofNat (Nat.gcd (cO s m i) (s i))),.int 0,?_,?_,rfl,rfl,rfl⟩
    ·rfl
    ·rw[show cO s m (i+1)=Nat.lcm (cO s m i) (s i) by rw[cO,q]])
  (fun J' Z' hp=>bw (by decide)) (Ee [] .ah .ah .ah rfl rfl rfl rfl rfl)
 obtain⟨J3,Z3,h1,g,z,u,v,rfl,rfl,_,_,_⟩:=hfor
 refine⟨.bD 0 3::g,dA (e2:=[.ref kc,.int (Int.ofNat m),.ah,.ah,.ah,.ah]) (e3:=[.ref kc,.int (Int.ofNat m),.int (Int.ofNat (cO s m 3)),z,u,v]) rfl rfl rfl rfl rfl ?_⟩
 exact(aB (Z':=[.ref kc,.int (Int.ofNat m),.int 1,.ah,.ah,.ah]) rfl).trans ((aB h1).trans (dJ rfl))
end
end
section
variable {J J2:aq}{Z Z1:List V}
theorem eS{t:Tg}{v:V}{ifs:List (M Bool)}{g:M Unit}{c:Bool}(h1:aA 0 t v J Z = .ok () J Z1)(h2:allM ifs J Z1 = .ok c J Z1)(h3:(match c with
 |true=>g J Z1
 |false=>.ok () J Z1) = .ok () J2 Z1):iB 0 t ifs g v J Z = .ok () J2 Z1:=by
 refine(ag h1).trans ((ag h2).trans ?_)
 clear h2;cases c with
 |true=>exact h3
 |false=>exact h3
theorem ie{x:M Bool}{c:Bool}(h:x J Z = .ok c J2 Z1):allM [x] J Z = .ok c J2 Z1:=by
 refine(ag h).trans ?_
 clear h;cases c<;>rfl
theorem d8{x:M V}{acc:Nat}{a:V}{vs:List V}(h:x J Z = .ok a J2 Z1)(hk:J2.t.get acc=some (.list vs))(hl:vs.length<10000):cw x acc J Z = .ok () (J2.put acc (.list (vs++[a]))) Z1:=
 (ag h).trans (ag (vX hk hl))
theorem DO{x y:M Bool}{a b:Bool}(h1:x J Z = .ok a J Z)(h2:y J Z = .ok b J Z):eI .Or [x,y] J Z = .ok (a||b) J Z:=by
 refine(ag h1).trans ?_
 clear h1;cases a with
 |true=>rfl
 |false=>refine(ag h2).trans ?_;clear h2;cases b<;>rfl
theorem lN{n:Nat}{y z:M V}{m k:Int}(h:y J Z = .ok (.int m) J Z)(h2:z J Z = .ok (.int k) J Z)(hm:bO m=true)(hk:bO k=true):aS n .cX [y,z] J Z = .ok (.ref J.n) (J.add (.bD m k)) Z:=by
 haveI h3:cR [y,z] J Z = .ok _ J Z:=(ag h).trans (ag ((ag h2).trans rfl))
 refine(ag h3).trans ?_
 show(if _=true then _ else _:M V) J Z=_
 rw[hm,hk]
 rfl
theorem sG{k i j:Nat}{a b:V}(hk:J.t.get k=some (.tup [a,b]))(hi:aE (V.at Z i)=none)(hj:aE (V.at (V.put Z i a) j)=none):aA 0 (.many [i,j]) (.ref k) J Z = .ok () J (V.put (V.put Z i a) j b):=by
 refine(ag (ob k hk)).trans ?_
 refine(ag (bZ hi)).trans ?_
 exact ag (bZ hj)
end
noncomputable def iz(f:Int)(s:Nat)(x:Int):Bool:=!(decide (x<f)||!(Int.fmod (x-f) (Int.ofNat s)==0))
noncomputable def je(m n:Nat):List Nat:=(List.range n).filter (iP m)
noncomputable def kZ(f:Nat->Int)(s:Nat->Nat)(m:Nat)(x:Int):Bool:=(je m 3).all fun q=>iz (f q) (s q) x
noncomputable def jF(f:Nat->Int)(s:Nat->Nat)(m n:Nat):List Int:=(iG 1 n).filter (kZ f s m)
section
variable {J:aq}{scr:List Int}{kc:Nat}{ks:Nat->Nat}{f:Nat->Int}{s:Nat->Nat}
theorem qI:∀ (n:Nat) (a:Int),iG a (n+1)=iG a n++[a+n]
 |0,a=>by simp[iG]
 |n+1,a=>by
  rw[iG,qI n (a+1),iG];refine(List.cons_append).trans ?_
  congr 3
  omega
theorem vF(C:jf J kc ks f s){m:Nat}(hm:m<8){X a b c d:V} :
  bz (aS scr.length .aW [.ret (.int 3)]) (.one 1) [aG (aO .Eq (aL .Mod (aL .FloorDiv (af 3) (aL .Pow (.ret (.int 2)) (af 1))) (.ret (.int 2))) (.ret (.int 1)))] (cw (aD 0 scr (af 2) (af 1))) [(".0",.loc),("k",.loc),("classes",.cM 0),("mask",.cM 1)]
   (J.adds [.cell (.ref kc),.cell (.int (Int.ofNat m)),.cell X]) [.aI J.n,.aI (J.n+1),a,b,c] =
  .ok (.ref (J.n+4)) (J.adds [.cell (.ref kc),.cell (.int (Int.ofNat m)),.cell X,.bD 0 3,.list ((je m 3).map fun q=>.ref (ks q))]) [.aI J.n,.aI (J.n+1),a,b,c]:=by
 have hJ:=C.ok
 let S:=fun i=>J.adds [.cell (.ref kc),.cell (.int (Int.ofNat m)),.cell X,.bD 0 3,.list ((je m i).map fun q=>.ref (ks q))]
 haveI hc:=d7 (Z:=[.aI J.n,.aI (J.n+1),a,b,c]) (b:=[(".0",.loc),("k",.loc),("classes",.cM 0),("mask",.cM 1)])
  (P:=fun i J' e=>∃ w,J'=S i/\e=[.ah,w,.aI J.n,.aI (J.n+1)]/\aE w=none) (N:=3)
  (jo (n:=scr.length) (y:=.ret (.int 3)) (J:=J.adds [.cell (.ref kc),.cell _,.cell X]) rfl rfl) (cb (o:=.bD 0 3) (aq.ai hJ (os:=[.cell (.ref kc),.cell _,.cell X,.bD 0 3]) (i:=3) rfl)) rfl (by decide) rfl
  (fun i hi J' e hp=>by
   refine iu hp fun w qz1 qz2 hw=>?_;clear hp;subst qz1;subst qz2
   haveI hn:eH (S i) (.bD 0 3) i=some _:=by
    haveI:=dn (J:=S i) (a:=0) (b:=3) (i:=i) (by omega)
    rw[Yb] at this;exact this
   haveI l2:af 2 (S i) _ = .ok (.ref kc) (S i) [.ah,.int (Int.ofNat i),.aI J.n,.aI (J.n+1)]:=ba rfl (aq.ai hJ (i:=0) rfl) nofun
   haveI l3:af 3 (S i) _ = .ok _ (S i) [.ah,.int (Int.ofNat i),.aI J.n,.aI (J.n+1)]:=ba rfl (aq.ai hJ rfl) nofun
   haveI hb:=wz (y:=af 1) l3 rfl hm hi
   haveI hs1:aA 0 (.one 1) (.int (Int.ofNat i)) (S i) [.ah,w,.aI J.n,.aI (J.n+1)] = .ok () (S i) _:=bZ hw
   refine⟨_,S (i+1),[.ah,.int (Int.ofNat i),.aI J.n,.aI (J.n+1)],hn,eS hs1 (ie hb) ?_,_,rfl,rfl,rfl⟩
   refine lQ (iP m i) (fun q=>?_) fun q=>?_
   ·rw[show S (i+1)=S i by
     show J.adds _=J.adds _
     rw[show je m (i+1)=je m i by unfold je;rw[XY,Ye];simp[q]]]
   ·refine(d8 (C.item (scr:=scr) (y:=af 1) l2 rfl hi) (aq.ai hJ (i:=4) rfl) ?_).trans ?_
    ·rw[Z0]
     haveI:(je m i).length<=(List.range i).length:=Zb _ _
     rw[Xq] at this;exact om [_,_] [(.s (.v 0),.n 3),(.v 1,.v 0)] (.s (.v 1),.n 10000) rfl hi this
    ·rw[show S (i+1)=J.adds ([O.cell (.ref kc),.cell (.int (Int.ofNat m)),.cell X,.bD 0 3,.list ((je m i).map fun q=>.ref (ks q))].set 4 (.list (((je m i).map fun q=>.ref (ks q))++[.ref (ks i)]))) by
      show J.adds _=J.adds _
      rw[show je m (i+1)=je m i++[i] by unfold je;rw[XY,Ye];simp[q],Zc]
      rfl]
     exact ZV (fun s=>Rs.ok () s _) (aq.bL hJ _ _ 4 (om [] [] (.s (.n 4),.s (.s (.s (.s (.s (.n 0)))))) rfl)))
  (fun J' e hp=>bw (by decide)) (iF .ah rfl rfl rfl)
 obtain⟨J3,Z3,h1,rfl,e,w,rfl,_⟩:=hc
 exact h1
theorem xS(C:jf J kc ks f s){m:Nat}{x:Int}{A0 A1 A3 A5 A6 a b c d:V}{o3 o5 o6:O}{g:List O} :
  ∃ us,bz (af 2) (.many [1,2]) [eI .Or [aG (aO .Lt (af 3) (af 1)),aG (aO .NotEq (aL .Mod (aL .Sub (af 3) (af 1)) (af 2)) (.ret (.int 0)))]] (cw (.ret (.int 1))) [(".0",.loc),("first",.loc),("step",.loc),("number",.cM 4)]
   (J.adds ([.cell A0,.cell A1,.cell (.int x),o3,.list ((je m 3).map fun q=>.ref (ks q)),o5,o6]++g)) [a,b,.ref (J.n+4),c,.aI (J.n+2)] =
  .ok (.ref (J.n+(7+g.length))) (J.adds (([.cell A0,.cell A1,.cell (.int x),o3,.list ((je m 3).map fun q=>.ref (ks q)),o5,o6]++g)++[.list us])) [a,b,.ref (J.n+4),c,.aI (J.n+2)]/\us.isEmpty=kZ f s m x:=by
 have hJ:=C.ok
 let B:=[O.cell A0,.cell A1,.cell (.int x),o3,.list ((je m 3).map fun q=>.ref (ks q)),o5,o6]++g
 have hB:B.length=7+g.length:=by simp[B];omega
 let Uy:=fun i=>(((je m 3).take i).filter fun q=>!iz (f q) (s q) x).map fun zz=>V.int 1
 let S:=fun i=>J.adds (B++[.list (Uy i)])
 have hlen:(je m 3).length<=3:=by
  haveI:(je m 3).length<=(List.range 3).length:=Zb _ _
  simpa using this
 have g4:∀ {os},(J.adds (B++os)).t.get (J.n+4)=some (.list ((je m 3).map fun q=>.ref (ks q))):=fun {os}=>aq.ai hJ rfl
 have hn0:(J.adds B).n=J.n+(7+g.length):=by rw[aq.cf,hB]
 haveI hc:=d7 (Z:=[a,b,.ref (J.n+4),c,.aI (J.n+2)]) (x:=af 2) (b:=[(".0",.loc),("first",.loc),("step",.loc),("number",.cM 4)])
  (P:=fun i J' e=>∃ u w,J'=S i/\e=[.ah,u,w,.aI (J.n+2)]/\aE u=none/\aE w=none)
  rfl (cb (aq.ai hJ (os:=B) (i:=4) rfl)) rfl (ZG hlen (ZQ (Nat.succ 3) 1996)) (by
   rw[aq.j0];rfl)
  (fun i hi J' e hp=>by
   refine xT hp fun u w qz5 qz6 hu hw=>?_;clear hp;subst qz5;subst qz6
   obtain⟨q,hqe⟩:∃ q,q=(je m 3)[i]:=⟨_,rfl⟩
   have hq:q<3:=by
    haveI:q∈je m 3:=hqe▸Y0 _
    exact Y6.mp (ZB.mp this).1
   haveI hn:eH (S i) (.lst (J.n+4)) i=some (some (.ref (ks q))):=by
    refine(cE (g4)).trans ?_
    simp[hqe,Z7 hi]
   have l3:af 3 (S i) _ = .ok (.int x) (S i) [.ah,.int (f q),.int (Int.ofNat (s q)),.aI (J.n+2)]:=ba rfl (aq.ai hJ rfl) nofun
   haveI hs1:aA 0 (.many [1,2]) (.ref (ks q)) (S i) [.ah,u,w,.aI (J.n+2)] = .ok () (S i) _:=sG (aq.aX hJ (C.tup q hq)) hu hw
   haveI t1:aG (aO .Lt (af 3) (af 1)) (S i) _ = .ok (decide (x<f q)) (S i) _:=bQ l3 rfl rfl
   haveI hs0:¬(Int.ofNat (s q)==0)=true:=by
    haveI:=C.lo q hq
    simp;omega
   haveI t2:aG (aO .NotEq _ (.ret (.int 0))) (S i) _ = .ok (!(Int.fmod (x-f q) (Int.ofNat (s q))==0)) (S i) _:=by
    haveI e1:aL .Sub (af 3) (af 1) (S i) _ = .ok (.int (x-f q)) (S i) _:=(ag l3).trans rfl
    haveI e2:aL .Mod (aL .Sub (af 3) (af 1)) (af 2) (S i) _ = .ok (.int (Int.fmod (x-f q) (Int.ofNat (s q)))) (S i) _:=by
     refine(ag e1).trans ?_
     show(if(Int.ofNat (s q)==0)=true then M.bad else M.ret _) _ _=_
     rw[if_neg hs0]
    exact bQ e2 rfl rfl
   haveI ht:(je m 3).take (i+1)=(je m 3).take i++[q]:=by rw[Yz hi,hqe]
   refine⟨_,S (i+1),[.ah,.int (f q),.int (Int.ofNat (s q)),.aI (J.n+2)],hn,eS hs1 (ie (DO t1 t2)) ?_,_,_,rfl,rfl,rfl,rfl⟩
   have hU:Uy (i+1)=Uy i++(([q].filter fun q=>!iz (f q) (s q) x).map fun zz=>V.int 1):=by
    show List.map _ (List.filter _ _)=_
    rw[ht,Ye,Zc]
   refine lQ ((decide (x<f q)||!(Int.fmod (x-f q) (Int.ofNat (s q))==0))) (fun q2=>?_) fun q2=>?_
   ·show Rs.ok () (S i) _=_
    exact(show S (i+1)=S i by
     show J.adds _=J.adds _
     rw[hU,YU,if_neg (by simp[show iz (f q) (s q) x=true by unfold iz;rw[q2];rfl])]
     simp)▸rfl
   ·haveI hat:(J.adds (B++[.list (Uy i)])).t.get (J.n+(7+g.length))=some (.list (Uy i)):=aq.ai hJ (by rw[ZF (Yo ‹_›),hB,XW];rfl)
    haveI hUl:(Uy i).length<10000:=by
     haveI:(Uy i).length<=(je m 3).length:=by
      rw[Z0]
      exact ZD (Zb _ _) (by rw[Ym];omega)
     exact om [_,_] [(.v 0,.n 3),(.v 1,.v 0)] (.s (.v 1),.n 10000) rfl hlen this
    show cw (.ret (.int 1)) (J.adds B).n (S i) _=_
    refine hn0▸?_
    refine(d8 (x:=.ret (.int 1)) rfl hat hUl).trans ?_
    haveI hput:=aq.bL hJ (.list (Uy i++[.int 1])) (B++[.list (Uy i)]) (7+g.length) (by simp[hB])
    refine ZV (fun s=>Rs.ok () s _) (hput.trans ?_)
    show J.adds _=J.adds _
    rw[List.set_append_right _ _ (Yo ‹_›),hB,XW,hU,YU,if_pos (by simp[show iz (f q) (s q) x=false by unfold iz;refine q2▸?_;rfl])]
    rfl)
  (fun J' e hp=>by
   refine qf hp fun u w qz2 zz=>?_;clear hp;subst qz2
   refine(cE (g4)).trans ?_
   simp) (vq .ah .ah rfl rfl rfl rfl)
 obtain⟨J3,Z3,h1,rfl,e,u,w,rfl,_⟩:=hc
 replace h1:=hn0▸h1
 refine aY (Uy (je m 3).length) h1 ?_
 show(List.map _ (List.filter _ (List.take _ _))).isEmpty=List.all _ _
 refine Yu▸?_
 generalize je m 3=l
 induction l with
 |nil=>rfl
 |cons q r ih=>
  refine List.all_cons▸ih▸YU▸?_
  cases iz (f q) (s q) x<;>simp
end
section
variable {m i:Nat}{J:aq}
section
variable {J:aq}{scr:List Int}{kc:Nat}{ks:Nat->Nat}{f:Nat->Int}{s:Nat->Nat}
noncomputable def dX(kc:Nat)(ks:Nat->Nat)(f:Nat->Int)(s:Nat->Nat)(m:Nat)(X:V)(n:Nat):List O:=[.cell (.ref kc),.cell (.int (Int.ofNat m)),.cell X,.bD 0 3,.list ((je m 3).map fun q=>.ref (ks q)),.list (ns (jF f s m n)),.bD 1 17]
noncomputable def gH(J:aq):List V:=[.aI J.n,.aI (J.n+1),.ref (J.n+4),.ref (J.n+5),.aI (J.n+2)]
theorem oM{n:Nat}:(jF f s m n).length<=n:=by
 refine ZD (Zb _ _) ?_
 haveI:∀ (n:Nat) (a:Int),(iG a n).length=n:=fun n=>by
  induction n with
  |zero=>intro a;rfl
  |succ n ih=>intro a;rw[iG,YK,ih]
 rw[this];exact ZE _
theorem qoE(h:J.Ok)(os:List O)(o:O){k:Nat}(hk:k=os.length):(J.adds (os++[o])).t.get (J.n+k)=some o:=
 aq.ai h (by rw[hk,ZF (ZE _),XW];rfl)
theorem fF{J':aq}{Z Z':List V}{x:M V}{v:V}(h:x J Z = .ok v J' Z')(hc:aE (V.at Z' i)=none):aJ x [aA 0 (.one i)] J Z = .ok .next J' (V.put Z' i v):=fC h (ag (bZ hc))
theorem gE(hJ:J.Ok){Z:List V}{os:List O}{j:Nat}{v w:V}(h:V.at Z i = .aI (J.n+j))(ho:os[j]? = some (.cell w)):bt i v (J.adds os) Z = .ok () (J.adds (os.set j (.cell v))) Z:=
 (j3 h (aq.ai hJ ho)).trans (ZV (fun s=>Rs.ok () s _) (aq.bL hJ _ _ j (ZP.mp ho).1))
theorem vM(C:jf J kc ks f s){X:V}{g:List O}(hi:i<16) :
  ∃ g',au [br (pX (aG (bz (af 2) (.many [1,2]) [eI .Or [aG (aO .Lt (af 3) (af 1)),aG (aO .NotEq (aL .Mod (aL .Sub (af 3) (af 1)) (af 2)) (.ret (.int 0)))]] (cw (.ret (.int 1))) [(".0",.loc),("first",.loc),("step",.loc),("number",.cM 4)]))) (au [aZ (bE 0 (af 3) .append [af 4])]) (au [])]
   (J.adds (dX kc ks f s m (.int (1+(i:Int))) i++g)) (gH J) = .ok .next (J.adds (dX kc ks f s m (.int (1+(i:Int))) (i+1)++g')) (gH J):=by
 have hJ:=C.ok
 obtain⟨us,h1,h2⟩:=xS C
  (A3:=.ah) (A5:=.ah) (A6:=.ah) (d:=.ah)
 haveI hat:(J.adds ((dX kc ks f s m (.int (1+(i:Int))) i++g)++[.list us])).t.get (J.n+(7+g.length))=some (.list us):=qoE hJ _ _ (by rw[ZI];rfl)
 have ht:pX (aG (bz (af 2) (.many [1,2]) [eI .Or [aG (aO .Lt (af 3) (af 1)),aG (aO .NotEq (aL .Mod (aL .Sub (af 3) (af 1)) (af 2)) (.ret (.int 0)))]] (cw (.ret (.int 1))) [(".0",.loc),("first",.loc),("step",.loc),("number",.cM 4)])) (J.adds (dX kc ks f s m (.int (1+(i:Int))) i++g)) (gH J) =
   .ok (kZ f s m (1+(i:Int))) (J.adds ((dX kc ks f s m (.int (1+(i:Int))) i++g)++[.list us])) (gH J):=by
  refine(ag (mM (c:=!us.isEmpty) h1 ?_)).trans ?_
  ·exact(ZV (fun x=>Option.bind x wF) hat).trans rfl
  ·show Rs.ok _ _ _=_
   rw[Bool.not_not,h2];rfl
 have hP:jF f s m (i+1)=jF f s m i++[1+(i:Int)].filter (kZ f s m):=by
  unfold jF
  rw[qI,Ye]
 refine lQ (kZ f s m (1+(i:Int))) (fun q=>?_) fun q=>?_
 ·rw[q] at ht
  refine⟨g++[.list us],(aB (bf ht)).trans ?_⟩
  show Rs.ok _ (J.adds _) _=_
  rw[show dX kc ks f s m _ (i+1)=dX kc ks f s m (.int (1+(i:Int))) i by unfold dX;refine hP▸YU▸q▸?_;simp,ZZ]
 ·rw[q] at ht
  haveI g5:(J.adds ((dX kc ks f s m (.int (1+(i:Int))) i++g)++[.list us])).t.get (J.n+5)=some _:=aq.ai hJ rfl
  haveI l4:af 4 _ (gH J) = .ok _ (J.adds ((dX kc ks f s m (.int (1+(i:Int))) i++g)++[.list us])) (gH J):=ba rfl (aq.ai hJ rfl) nofun
  haveI ha:=dC (x:=af 3) rfl g5 l4 g5 (by haveI:=oM (f:=f) (s:=s) (m:=m) (n:=i);simp;omega)
  refine⟨g++[.list us],(aB ((bf ht).trans ((aB ha).trans rfl))).trans ?_⟩
  refine ZV (fun s=>Rs.ok Fl.next s _) ((aq.bL hJ _ _ 5 (by simp[dX])).trans ?_)
  haveI hq:ns (jF f s m (i+1))=ns (jF f s m i)++[.int (1+(i:Int))]:=by rw[hP,YU,q];simp[ns]
  skip
  exact hq▸rfl
theorem uX(C:jf J kc ks f s)(F:eP)(e:List V)(hm:m<8):∃ X g,aU F scr d9 [.ref kc,.int (Int.ofNat m)] J e = .ok (.ref (J.n+5)) (J.adds (dX kc ks f s m X 16++g)) e:=by
 have hJ:=C.ok
 haveI hp:=vF (scr:=scr) C hm (X:=.ah) (a:=.ah) (b:=.ah) (c:=.aI (J.n+2)) (d:=.ah)
 obtain⟨J3,Z3,h1,X,g,rfl,rfl⟩:=eV (J:=J.adds [.cell (.ref kc),.cell _,.cell .ah,.bD 0 3,.list ((je m 3).map fun q=>.ref (ks q)),.list []]) (N:=16)
  (P:=fun i J' e'=>∃ X g,J'=J.adds (dX kc ks f s m X i++g)/\e'=gH J)
  (lN (y:=.ret (.int 1)) (z:=.ret (.int 17)) rfl rfl rfl rfl) (cb (o:=.bD 1 17) (aq.ai hJ (os:=dX kc ks f s m .ah 0) (i:=6) rfl)) rfl (by decide)
  (fun i hi J' e' hp=>by
   refine qf hp fun X g qz1 qz2=>?_;clear hp;subst qz1;subst qz2
   obtain⟨g',ht⟩:=vM C (X:=X) hi
   haveI hs:aA 0 (.one 4) _ (J.adds (dX kc ks f s m X i++g)) (gH J) = .ok () (J.adds (dX kc ks f s m (.int (1+(i:Int))) i++g)) (gH J):=gE hJ (Z:=gH J) (i:=4) rfl rfl
   exact⟨_,_,_,_,_,dn (by omega),hs,ht,_,g',rfl,rfl⟩)
  (fun J' e' hp=>bw (by decide)) (nB .ah [] rfl rfl)
 haveI hB:eB [0,1] [.ref kc,.int (Int.ofNat m)] (J.adds [.cell .ah,.cell .ah,.cell .ah]) [.aI J.n,.aI (J.n+1),.ah,.ah,.aI (J.n+2)] = .ok () _ _:=by
  exact(ag (gE hJ (j:=0) rfl rfl)).trans ((ag (gE hJ rfl rfl)).trans rfl)
 refine uS X g (dA (J1:=J.adds _) (e1:=[.aI J.n,.aI (J.n+1),.ah,.ah,.aI (J.n+2)]) (e3:=gH J) rfl rfl rfl rfl hB ?_)
 refine(aB (fF hp rfl)).trans ?_
 refine(aB ?_).trans ((aB h1).trans (dJ rfl))
 exact fF (dm (vs:=[]) (by decide)) rfl
end
end
section
variable {ls:List (List Int)}{ys:List Int}{ks as:List Nat}{vs ws:List V}{n a b:Nat}{s:aq}
noncomputable def cY(x:Int)(ys:List Int):Bool:=ys.any fun y=>y==x
theorem oq{x:Int}:∀ ys:List Int,gN s (.int x) (ns ys)=some (ys.map fun y=>y==x)
 |[]=>rfl
 |y::r=>by
  show(match gx s oS (.int y) (.int x),gN s (.int x) (ns r) with
   |some c,some l=>some (c::l)
   |_,_=>none)=_
  exact(oq r)▸rfl
theorem gI(p:Int->Bool):∀ ys:List Int,anyB (ys.map p)=ys.any p
 |[]=>rfl
 |y::r=>by show(p y||anyB (r.map p))=_;exact(gI p r)▸List.any_cons▸rfl
theorem Au{k:Nat}{x:Int}(h:s.t.get k=some (.list (ns ys))):vJ s (.int x) (.ref k)=some (cY x ys):=by
 show(s.t.get k).bind _=_
 rw[h]
 show(gN s (.int x) (ns ys)).map anyB=_
 rw[oq]
 show some (anyB _)=_
 rw[gI];rfl
theorem ow:∀ {xs ys:List Int},xs.length=ys.length->fw (gx s (n+1)) (ns xs) (ns ys)=some (decide (xs=ys))
 |[],[],_=>rfl
 |[],_::_,h=>by contradiction
 |_::_,[],h=>by contradiction
 |x::xs,y::ys,h=>by
  show(match gx s (n+1) (.int x) (.int y),fw _ (ns xs) (ns ys) with
   |some c,some d=>some (c&&d)
   |_,_=>none)=_
  refine(ow (Xy h))▸?_
  show some ((x==y)&&decide (xs=ys))=_
  congr 1
  by_cases q:x=y<;>by_cases q2:xs=ys<;>simp[q,q2]
theorem mz{eq:V->V->Option Bool}{c:Bool}(h1:vs.length=ws.length->fw eq vs ws=some c)(h2:vs.length≠ws.length->c=false):gB eq (true,vs) (true,ws)=some c:=by
 unfold gB
 dsimp only
 by_cases q:vs.length=ws.length
 ·rw[q,if_pos (WY _)]
  exact h1 q
 ·rw[if_neg (by rw[Tr.beq_eq];simpa using q),h2 q]
  rfl
theorem rE(ha:s.t.get a=some (.list vs))(hb:s.t.get b=some (.list ws)):gx s (n+1) (.ref a) (.ref b)=gB (gx s n) (true,vs) (true,ws):=by
 show(match (s.t.get a).bind dy,(s.t.get b).bind dy with
  |some p,some q=>gB (gx s n) p q
  |_,_=>none)=_
 refine ha▸hb▸?_;rfl
theorem Ay(ha:s.t.get a=some (.tup vs))(hb:s.t.get b=some (.tup ws)):gx s (n+1) (.ref a) (.ref b)=gB (gx s n) (false,vs) (false,ws):=by
 show(match (s.t.get a).bind dy,(s.t.get b).bind dy with
  |some p,some q=>gB (gx s n) p q
  |_,_=>none)=_
 refine ha▸hb▸?_;rfl
theorem kD{xs:List Int}(ha:s.t.get a=some (.list (ns xs)))(hb:s.t.get b=some (.list (ns ys))):gx s (n+2) (.ref a) (.ref b)=some (decide (xs=ys)):=by
 refine(rE ha hb).trans ?_
 refine mz (fun q=>ow (by simpa using q)) fun q=>Zo fun e=>q (e▸rfl)
inductive aH(s:aq):List Nat->List (List Int)->Prop where
 |nil:aH s [] []
 |cons {k:Nat} {l:List Int} {ks:List Nat} {ls:List (List Int)} (h:s.t.get k=some (.list (ns l))) (t:aH s ks ls):aH s (k::ks) (l::ls)
theorem aH.len(h:aH s ks ls):ks.length=ls.length:=by
 induction h with
 |nil=>rfl
 |cons _ _ ih=>exact ZV (· + 1) ih
theorem aH.at(h:aH s ks ls):∀ {i k:Nat},ks[i]? = some k->∃ l,ls[i]? = some l/\s.t.get k=some (.list (ns l)):=by
 induction h with
 |nil=>intro i k e;simp at e
 |cons h t ih=>
  intro i k e
  cases i with
  |zero=>obtain rfl:=Z9 e;exact aY _ rfl h
  |succ i=>exact ih (by simpa using e)
theorem aH.mono{s':aq}(h:aH s ks ls)(hm:∀ k o,s.t.get k=some o->s'.t.get k=some o):aH s' ks ls:=by
 induction h with
 |nil=>exact .nil
 |cons h t ih=>exact .cons (hm _ _ h) ih
theorem nq(ha:aH s as ls):∀ {bs:List Nat} {ls':List (List Int)},aH s bs ls'->as.length=bs.length->fw (gx s (n+2)) (as.map .ref) (bs.map .ref)=some (decide (ls=ls')):=by
 induction ha with
 |nil=>intro bs ls' hb h;cases hb with
  |nil=>rfl
  |cons _ _=>contradiction
 | @cons k l ks ls h1 t ih=>
  intro bs ls' hb h
  cases hb with
  |nil=>contradiction
  | @cons k' l' ks' ls' h2 t'=>
   show(match gx s (n+2) (.ref k) (.ref k'),fw _ _ _ with
    |some c,some d=>some (c&&d)
    |_,_=>none)=_
   refine(ih t' (Xy h))▸(kD h1 h2)▸?_
   congr 1
   by_cases q:l=l'<;>by_cases q2:ls=ls'<;>simp[q,q2]
theorem lU{bs:List Nat}{ls':List (List Int)}(ha:s.t.get a=some (.list (as.map .ref)))(hb:s.t.get b=some (.list (bs.map .ref)))(h1:aH s as ls)(h2:aH s bs ls'):gx s (n+3) (.ref a) (.ref b)=some (decide (ls=ls')):=by
 refine(rE ha hb).trans ?_
 refine mz (fun q=>nq h1 h2 (by simpa using q)) fun q=>Zo fun e=>q ?_
 rw[Z0,Z0,h1.len,h2.len,e]
theorem r9{bs:List Nat}{ls':List (List Int)}(ha:s.t.get a=some (.tup (as.map .ref)))(hb:s.t.get b=some (.tup (bs.map .ref)))(h1:aH s as ls)(h2:aH s bs ls')(hl:as.length=bs.length):gx s (n+3) (.ref a) (.ref b)=some (decide (ls=ls')):=by
 refine(Ay ha hb).trans ?_
 unfold gB
 dsimp only
 rw[Z0,Z0,hl,if_pos (WY _)]
 exact nq h1 h2 hl
section
variable {J:aq}
theorem jr(hJ:J.Ok){os:List O}{Z:List V}{x y:M V}{b:dG}{e2:Nat->V->List V}{k1:Nat}{xs:List Int}(hx:x (J.adds os) Z = .ok (.ref k1) (J.adds os) Z)(hk:(J.adds os).t.get k1=some (.list (ns xs)))(hl:xs.length<1000)(hE:∀ J',bq Z b J'=(J',e2 0 .ah))(hs:∀ w J' v,aE w=none->aA 0 (.one 1) v J' (e2 0 w) = .ok () J' (e2 0 v))(hv:∀ n J',af 1 J' (e2 0 (.int n)) = .ok (.int n) J' (e2 0 (.int n)))(hy:∀ u g n,∃ k2 g',y (J.adds (os++.list u::g)) (e2 0 (.int n)) = .ok (.ref k2) (J.adds (os++.list u::(g++g'))) (e2 0 (.int n))/\(J.adds (os++.list u::(g++g'))).t.get k2=some (.list (ns ys))) :
  ∃ g,bz x (.one 1) [aG (aO .NotIn (af 1) y)] (cw (af 1)) b (J.adds os) Z = .ok (.ref (J.n+os.length)) (J.adds (os++.list (ns (xs.filter fun n=>!cY n ys))::g)) Z:=by
 have hk2:∀ {os'},(J.adds (os++os')).t.get k1=some _:=fun {os'}=>by
  rw[<-aq.eN];exact aq.aX (hJ.adds os) hk
 haveI hn0:(J.adds os).n=J.n+os.length:=aq.cf _ _
 obtain⟨J3,Z3,h1,rfl,e,w,g,rfl,_⟩:=d7
  (P:=fun i J' e=>∃ w g,J'=J.adds (os++.list (ns ((xs.take i).filter fun n=>!cY n ys))::g)/\e=e2 0 w/\aE w=none) (J2:=J.adds (os++[.list []]))
  hx (cb hk) rfl (Zj hl (ZQ 1000 1000)) (by rw[aq.j0];exact hE _)
  (fun i hi J' e hp=>by
   refine vR hp fun w g qz1 qz2 hw=>?_;clear hp;subst qz1;subst qz2
   obtain⟨n,hn⟩:∃ n,n=xs[i]:=⟨_,rfl⟩
   haveI ht:xs.take (i+1)=xs.take i++[n]:=(Yz hi)▸hn▸rfl
   refine qf (hy (ns ((xs.take i).filter fun n=>!cY n ys)) g n) fun k2 g' y1 y2=>?_
   haveI hc:aG (aO .NotIn (af 1) y) (J.adds (os++.list (ns ((xs.take i).filter fun n=>!cY n ys))::g)) _ = .ok (!cY n ys) _ _:=bQ (hv n _) y1 (by
    show(vJ _ _ _).map not=_
    exact(Au y2)▸rfl)
   haveI hnth:eH (J.adds (os++.list (ns ((xs.take i).filter fun n=>!cY n ys))::g)) (.lst k1) i=some (some (.int n)):=by
    refine(cE hk2).trans ?_
    simp[Z7 hi,hn]
   refine⟨_,J.adds (os++.list (ns ((xs.take (i+1)).filter fun n=>!cY n ys))::(g++g')),e2 0 (.int n),hnth,(ag (hs w _ (.int n) hw)).trans ((ag (ie hc)).trans ?_),_,_,rfl,rfl,rfl⟩
   have hF:(xs.take (i+1)).filter (fun n=>!cY n ys)=(xs.take i).filter (fun n=>!cY n ys)++[n].filter (fun n=>!cY n ys):=by rw[ht,Ye]
   cases q:cY n ys with
   |true=>
    show Rs.ok () _ _=_
    refine hF▸YU▸q▸?_
    simp
   |false=>
    haveI hat:(J.adds (os++.list (ns ((xs.take i).filter fun n=>!cY n ys))::(g++g'))).t.get (J.adds os).n=some (.list (ns ((xs.take i).filter fun n=>!cY n ys))):=by
     rw[hn0]
     exact aq.ai hJ (by rw[ZF (ZE _),XW];rfl)
    refine(d8 (hv n _) hat ?_).trans ?_
    ·haveI:=Zb (fun n=>!cY n ys) (xs.take i)
     rw[Ym] at this
     simp;omega
    ·rw[hn0]
     refine ZV (fun s=>Rs.ok () s _) ((aq.bL hJ _ _ os.length (by simp)).trans ?_)
     rw[List.set_append_right _ _ (ZE _),XW,hF,YU,q]
     simp)
  (fun J' e hp=>by
   refine qf hp fun w g qz5 zz=>?_;clear hp;subst qz5
   refine(cE hk2).trans ?_
   simp) (rm .ah [] rfl rfl rfl)
 replace h1:=hn0▸Yu▸h1
 exact⟨g,h1⟩
end
end
section
variable {rs:List (List Int)}{ks:List Nat}{km i:Nat}{J J':aq}
structure Ext(J J':aq):Prop where
 ok:J'.Ok
 old:∀ k o,J.t.get k=some o->J'.t.get k=some o
 fz:J'.fz=J.fz
 le:J.n<=J'.n
theorem Ext.refl(h:J.Ok):Ext J J:=⟨h,fun zz zz e=>e,rfl,ZE _⟩
theorem Ext.trans{J2:aq}(h:Ext J J')(h2:Ext J' J2):Ext J J2:=⟨h2.ok,fun k o e=>h2.old k o (h.old k o e),h2.fz.trans h.fz,ZD h.le h2.le⟩
theorem Ext.adds(h:J.Ok)(os:List O):Ext J (J.adds os):=⟨h.adds os,fun zz zz e=>aq.aX h e,aq.dk _ _,by rw[aq.cf];exact Zp _ _⟩
theorem Ext.put(hJ:J.Ok)(h:Ext J J'){k:Nat}(hk:J.n<=k)(o:O):Ext J (J'.put k o):=⟨h.ok.put k o,fun j x e=>aK (h.old j x e) (by haveI:=hJ.get e;exact Zk (om [_,_,_] [(.v 0,.v 1),(.s (.v 2),.v 0)] (.s (.v 2),.v 1) rfl hk this)),h.fz,h.le⟩
noncomputable def iq(xs ys:List Int):List Int:=xs.filter fun n=>!cY n ys
noncomputable def xU(F:eP):Prop:=∀ {J:aq} {kx ky:Nat} {xs ys:List Int},Ek J kx ky xs ys->∀ e,∃ g1 g2,F 13 [.ref kx,.ref ky] J e =
  .ok (.ref (J.n+4)) (J.adds [.list (ns (bT 2000 xs ys).1),.list (ns (bT 2000 xs ys).2),.list (ns g1),.list (ns g2),.tup [.ref J.n,.ref (J.n+1)]]) e
structure Mem(J:aq)(km:Nat)(ks:List Nat)(rs:List (List Int)):Prop where
 ok:J.Ok
 lst:J.t.get km=some (.list (ks.map .ref))
 rws:aH J ks rs
 len:rs.length<=7
 row:∀ l∈rs,l.length<=16
 zM:∀ l∈rs,∀ l'∈rs,bT 2000 l l'=(iq l l',iq l' l)
theorem Mem.ext(h:Mem J km ks rs)(E:Ext J J'):Mem J' km ks rs:=⟨E.ok,E.old _ _ h.lst,h.rws.mono E.old,h.len,h.row,h.zM⟩
theorem Mem.item(h:Mem J km ks rs)(hi:i<rs.length):∃ k l,ks[i]? = some k/\rs[i]? = some l/\J.t.get k=some (.list (ns l))/\l∈rs:=by
 have hk:i<ks.length:=h.rws.len▸hi
 refine aF (h.rws.at (Z7 hk)) fun l h1 h2=>?_
 exact vq _ l (Z7 hk) h1 h2 (ZK h1)
theorem Mem.idx{scr:List Int}(h:Mem J km ks rs){Z:List V}{x y:M V}{k:Nat}(h1:x J Z = .ok (.ref km) J Z)(h2:y J Z = .ok (.int (Int.ofNat i)) J Z)(hk:ks[i]? = some k):aD 0 scr x y J Z = .ok (.ref k) J Z:=by
 refine di h1 h2 h.lst ?_ ((ZH)▸hk▸rfl)
 rw[Z0,h.rws.len]
 haveI:=h.len
 exact ZG this (ZQ (Nat.succ 7) 4611686018427387896)
noncomputable def bG(rs:List (List Int))(i j:Nat):Bool:=decide (iq (rs.getD i []) (rs.getD j [])=[])
noncomputable def u5(sub:Nat->Nat->Bool)(two one:Nat)(ab:List (List Int)):List (List Int):=
 if sub two one then ab.set two (ab.getD two []++[Int.ofNat one]) else if sub one two then ab.set one (ab.getD one []++[Int.ofNat two]) else ab
structure kU(J J':aq)(km:Nat)(K:Nat)(T O:V)(ab:List (List Int)):Prop where
 ext:Ext J J'
 c0:J'.t.get J.n=some (.cell (.ref km))
 c1:J'.t.get (J.n+1)=some (.cell T)
 c2:J'.t.get (J.n+2)=some (.cell O)
 c3:J'.t.get (J.n+3)=some (.list ((List.range K).map fun i=>.ref (J.n+(4+i))))
 len:ab.length=K
 row:∀ i l,ab[i]? = some l->J'.t.get (J.n+(4+i))=some (.list (ns l))/\l.length<1000
section
variable {J J':aq}{km K:Nat}{T O:V}{ab:List (List Int)}
theorem kU.grow(h:kU J J' km K T O ab)(os:List Mine.O):kU J (J'.adds os) km K T O ab:=by
 haveI E:=Ext.adds h.ext.ok os
 exact⟨h.ext.trans E,E.old _ _ h.c0,E.old _ _ h.c1,E.old _ _ h.c2,E.old _ _ h.c3,h.len,fun i l e=>⟨E.old _ _ (h.row i l e).1,(h.row i l e).2⟩⟩
theorem kU.app(hJ:J.Ok)(h:kU J J' km K T O ab){l:List Int}(hi:ab[i]? = some l)(hl:l.length<999)(x:Int):kU J (J'.put (J.n+(4+i)) (.list (ns l++[.int x]))) km K T O (ab.set i (l++[x])):=by
 refine⟨h.ext.put hJ (Zp _ _) _,aK h.c0 (Zk (om [_,_] [] (.s (.v 0),.a (.v 0) (.a (.n 4) (.v 1))) rfl)),aK h.c1 (Zk (om [_,_] [] (.s (.s (.v 0)),.a (.v 0) (.a (.n 4) (.v 1))) rfl)),aK h.c2 (Zk (om [_,_] [] (.s (.a (.v 0) (.n 2)),.a (.v 0) (.a (.n 4) (.v 1))) rfl)),aK h.c3 (Zk (om [_,_] [] (.s (.a (.v 0) (.n 3)),.a (.v 0) (.a (.n 4) (.v 1))) rfl)),by refine(List.length_set).trans ?_;exact h.len,fun j m e=>?_⟩
 by_cases q:j=i
 ·subst q
  haveI hlt:=(ZP.mp hi).1
  rw[List.getElem?_set_self hlt] at e
  obtain rfl:=Z9 e
  refine⟨(cQ (h.row j l hi).1).trans (by simp[ns]),by simp;exact Yr ‹_›⟩
 ·replace e:=(List.getElem?_set_ne (Ne.symm q)).symm.trans e
  exact⟨aK (h.row j m e).1 (by omega),(h.row j m e).2⟩
theorem kU.two(hJ:J.Ok)(h:kU J J' km K T O ab)(T':V):kU J (J'.put (J.n+1) (.cell T')) km K T' O ab:=
 ⟨h.ext.put hJ (Zp _ _) _,aK h.c0 (by simp),cQ h.c1,aK h.c2 (by simp),aK h.c3 (Yw (om [_] [] (.s (.s (.v 0)),.a (.v 0) (.n 3)) rfl)),h.len,fun j m e=>⟨aK (h.row j m e).1 (Yw (om [_,_] [] (.s (.s (.v 0)),.a (.v 0) (.a (.n 4) (.v 1))) rfl)),(h.row j m e).2⟩⟩
theorem kU.one(hJ:J.Ok)(h:kU J J' km K T O ab)(O':V):kU J (J'.put (J.n+2) (.cell O')) km K T O' ab:=
 ⟨h.ext.put hJ (Zp _ _) _,aK h.c0 (Zk (om [_] [] (.s (.v 0),.a (.v 0) (.n 2)) rfl)),aK h.c1 (Zk (om [_] [] (.s (.s (.v 0)),.a (.v 0) (.n 2)) rfl)),cQ h.c2,aK h.c3 (by simp),h.len,fun j m e=>⟨aK (h.row j m e).1 (Yw (om [_,_] [] (.s (.a (.v 0) (.n 2)),.a (.v 0) (.a (.n 4) (.v 1))) rfl)),(h.row j m e).2⟩⟩
end
end
section
variable {Z:List V}{y:M V}{k:Nat}{J:aq}
section
variable {J J':aq}{scr:List Int}{F:eP}{km K:Nat}{ks:List Nat}{rs:List (List Int)}{ab:List (List Int)}
theorem e8{n m:Nat}(h:y J Z = .ok (.int (Int.ofNat m)) J Z)(hm:m<1000):aS n .aW [y] J Z = .ok (.ref J.n) (J.add (.bD 0 (Int.ofNat m))) Z:=jo h (dE (Zj hm (ZQ 1000 4611686018427386904)))
theorem sv{n:Nat}{vs:List V}(h:y J Z = .ok (.ref k) J Z)(hk:J.t.get k=some (.list vs)):aS n .len [y] J Z = .ok (.int (Int.ofNat vs.length)) J Z:=by
 haveI h3:cR [y] J Z = .ok [.ref k] J Z:=(ag h).trans rfl
 refine(ag h3).trans ?_
 show(match (J.t.get k).bind dy |>.map (·.2.length) with
  |some n=>Rs.ok (V.int n) J Z
  |none=>Rs.bad)=_
 exact hk▸rfl
theorem xJ(hJ:J'.Ok){x:M V}{l:List Int}(h:x J' Z = .ok (.ref k) J' Z)(hk:J'.t.get k=some (.list (ns l))):aG (aO .Eq x (eList [])) J' Z = .ok (decide (l=[])) (J'.adds [.list []]) Z:=by
 haveI h2:eList [] J' Z = .ok (.ref J'.n) _ Z:=rfl
 exact bQ h h2 (kD (aq.aX hJ hk) (aq.ai hJ (i:=0) rfl))
theorem ff{x:M V}{a b:V}(h1:x J Z = .ok a J Z)(h2:y J Z = .ok b J Z):cR [x,y] J Z = .ok [a,b] J Z:=(ag h1).trans (ag ((ag h2).trans rfl))
noncomputable def dW(J:aq)(a b c:V):List V:=[.aI J.n,.ref (J.n+3),.aI (J.n+1),.aI (J.n+2),a,b,c]
noncomputable def CN(F:eP)(scr:List Int):M Fl:=au [aJ (el F 13 [aD 0 scr (af 0) (af 3),aD 0 scr (af 0) (af 2)]) [aA 0 (.one 4)],aJ (bz (aD 0 scr (af 0) (af 3)) (.one 1) [aG (aO .NotIn (af 1) (aD 0 scr (af 2) (af 3)))] (cw (af 1)) [(".0",.loc),("number",.loc),("members",.cM 0),("two",.cM 2)]) [aA 0 (.one 5)],aJ (bz (aD 0 scr (af 0) (af 2)) (.one 1) [aG (aO .NotIn (af 1) (aD 0 scr (af 2) (af 3)))] (cw (af 1)) [(".0",.loc),("number",.loc),("members",.cM 0),("one",.cM 3)]) [aA 0 (.one 6)],br (aG (aO .NotEq (af 4) (eu [af 5,af 6]))) (au [b9 (.ret .none)]) (au []),br (aG (aO .Eq (aD 0 scr (af 4) (.ret (.int 1))) (eList []))) (au [aZ (bE 0 (aD 0 scr (af 1) (af 2)) .append [af 3])]) (au [br (aG (aO .Eq (aD 0 scr (af 4) (.ret (.int 0))) (eList []))) (au [aZ (bE 0 (aD 0 scr (af 1) (af 3)) .append [af 2])]) (au [])])]
theorem xN(hF:xU F)(Mm:Mem J km ks rs){t o:Nat}(ht:t<rs.length)(ho:o<rs.length)(hK:K=rs.length)(A:kU J J' km K (.int (Int.ofNat t)) (.int (Int.ofNat o)) ab)(hab:∀ l∈ab,l.length<900){a b c:V}(ha:aE a=none)(hb:aE b=none)(hc:aE c=none) :
  ∃ J2 a' b' c',CN F scr J' (dW J a b c) = .ok .next J2 (dW J a' b' c')/\kU J J2 km K (.int (Int.ofNat t)) (.int (Int.ofNat o)) (u5 (bG rs) t o ab)/\aE a'=none/\aE b'=none/\aE c'=none:=by
 refine xT (Mm.item ho) fun ko lo o1 o2 o3 o4=>?_
 refine xT (Mm.item ht) fun kt lt t1 t2 t3 t4=>?_
 have hlo:=Mm.row lo o4
 have hlt:=Mm.row lt t4
 haveI hK7:=Mm.len
 haveI hsld:=Mm.zM lo o4 lt t4
 have hJ:=Mm.ok
 have L0:∀ {s:aq} {a b c:V},kU J s km K (.int (Int.ofNat t)) (.int (Int.ofNat o)) ab->af 0 s (dW J a b c) = .ok (.ref km) s (dW J a b c):=fun A=>ba rfl A.c0 nofun
 have L2:∀ {s:aq} {a b c:V},kU J s km K _ (.int (Int.ofNat o)) ab->af 2 s (dW J a b c) = .ok (.int (Int.ofNat t)) s (dW J a b c):=fun A=>ba rfl A.c1 nofun
 have L3:∀ {s:aq} {a b c:V},kU J s km K (.int (Int.ofNat t)) (.int (Int.ofNat o)) ab->af 3 s (dW J a b c) = .ok (.int (Int.ofNat o)) s (dW J a b c):=fun A=>ba rfl A.c2 nofun
 have I3:∀ {s:aq} {a b c:V},kU J s km K (.int (Int.ofNat t)) (.int (Int.ofNat o)) ab->aD 0 scr (af 0) (af 3) s (dW J a b c) = .ok (.ref ko) s (dW J a b c):=fun A=>(Mm.ext A.ext).idx (L0 A) (L3 A) o1
 have I2:∀ {s:aq} {a b c:V},kU J s km K (.int (Int.ofNat t)) (.int (Int.ofNat o)) ab->aD 0 scr (af 0) (af 2) s (dW J a b c) = .ok (.ref kt) s (dW J a b c):=fun A=>(Mm.ext A.ext).idx (L0 A) (L2 A) t1
 haveI T2:Ek J' ko kt lo lt:=⟨A.ext.ok,A.ext.old _ _ o3,A.ext.old _ _ t3,(ZG hlo (ZQ (Nat.succ 16) 983)),(ZG hlt (ZQ (Nat.succ 16) 983))⟩
 refine nz (hF T2 (dW J a b c)) fun g1 g2 h13=>?_
 rw[hsld] at h13
 dsimp only at h13
 haveI hcall:=(ag (ff (I3 A) (I2 A))).trans h13
 haveI s1:=fF (i:=4) hcall ha
 generalize hq:[O.list (ns (iq lo lt)),.list (ns (iq lt lo)),.list (ns g1),.list (ns g2),.tup _]=Q at s1
 haveI A1:=A.grow Q
 haveI f0:(J'.adds Q).t.get J'.n=some (.list (ns (iq lo lt))):=aq.ai A.ext.ok (i:=0) (hq▸rfl)
 haveI f1:(J'.adds Q).t.get (J'.n+1)=some (.list (ns (iq lt lo))):=aq.ai A.ext.ok (hq▸rfl)
 haveI f4:(J'.adds Q).t.get (J'.n+4)=some (.tup [.ref J'.n,.ref (J'.n+1)]):=aq.ai A.ext.ok (hq▸rfl)
 generalize J'.adds Q=J1 at s1 A1 f0 f1 f4
 haveI s1:aJ (el F 13 _) [aA 0 (.one 4)] J' (dW J a b c) = .ok .next J1 (dW J (.ref (J'.n+4)) b c):=s1
 obtain⟨g3,c3⟩:=jr A1.ext.ok (os:=[]) (y:=aD 0 scr (af 2) (af 3)) (b:=[(".0",.loc),("number",.loc),("members",.cM 0),("two",.cM 2)]) (e2:=fun zz w=>[.ah,w,.aI J.n,.aI (J.n+1)])
  (I3 A1) (A1.ext.old _ _ o3) (ZG hlo (ZQ (Nat.succ 16) 983)) (fun zz=>rfl) (fun w s v hw=>bZ hw) (fun zz zz=>rfl) (fun u g n=>(nB kt [] (by
   have A9:=A1.grow ([]++.list u::g)
   rw[ZT]
   exact(Mm.ext A9.ext).idx (ba rfl A9.c0 nofun) (ba rfl A9.c1 nofun) t1) ((A1.grow _).ext.old _ _ t3)))
 haveI s2:=fF (i:=5) c3 hb
 haveI A2:=A1.grow ([]++.list (ns (lo.filter fun n=>!cY n lt))::g3)
 haveI E2:=Ext.adds A1.ext.ok ([]++.list (ns (lo.filter fun n=>!cY n lt))::g3)
 haveI f5:(J1.adds ([]++.list (ns (lo.filter fun n=>!cY n lt))::g3)).t.get J1.n=some (.list (ns (iq lo lt))):=aq.ai A1.ext.ok (i:=0) rfl
 generalize J1.adds ([]++.list (ns (lo.filter fun n=>!cY n lt))::g3)=J2 at s2 A2 E2 f5
 haveI s2:aJ _ [aA 0 (.one 5)] J1 _ = .ok .next J2 (dW J (.ref (J'.n+4)) (.ref J1.n) c):=s2
 obtain⟨g4,c4⟩:=jr A2.ext.ok (os:=[]) (y:=aD 0 scr (af 2) (af 3)) (b:=[(".0",.loc),("number",.loc),("members",.cM 0),("one",.cM 3)]) (e2:=fun zz w=>[.ah,w,.aI J.n,.aI (J.n+2)])
  (I2 A2) (A2.ext.old _ _ t3) (ZG hlt (ZQ (Nat.succ 16) 983)) (fun zz=>rfl) (fun w s v hw=>bZ hw) (fun zz zz=>rfl) (fun u g n=>(nB ko [] (by
   have A9:=A2.grow ([]++.list u::g)
   rw[ZT]
   exact(Mm.ext A9.ext).idx (ba rfl A9.c0 nofun) (ba rfl A9.c2 nofun) o1) ((A2.grow _).ext.old _ _ o3)))
 haveI s3:=fF (i:=6) c4 hc
 haveI A3:=A2.grow ([]++.list (ns (lt.filter fun n=>!cY n lo))::g4)
 haveI E3:=E2.trans (Ext.adds A2.ext.ok ([]++.list (ns (lt.filter fun n=>!cY n lo))::g4))
 haveI f6:(J2.adds ([]++.list (ns (lt.filter fun n=>!cY n lo))::g4)).t.get J2.n=some (.list (ns (iq lt lo))):=aq.ai A2.ext.ok (i:=0) rfl
 haveI f5:=(Ext.adds A2.ext.ok ([]++.list (ns (lt.filter fun n=>!cY n lo))::g4)).old _ _ f5
 generalize J2.adds ([]++.list (ns (lt.filter fun n=>!cY n lo))::g4)=J3 at s3 A3 E3 f5 f6
 haveI s3:aJ _ [aA 0 (.one 6)] J2 _ = .ok .next J3 (dW J (.ref (J'.n+4)) (.ref J1.n) (.ref J2.n)):=s3
 haveI c5:=lS (J:=J3) (os:=[]) (x:=af 5) (y:=af 6) (Z:=dW J (.ref (J'.n+4)) (.ref J1.n) (.ref J2.n)) rfl rfl
 haveI A4:=A3.grow ([]++[.tup [.ref J1.n,.ref J2.n]])
 haveI E4:=E3.trans (Ext.adds A3.ext.ok ([]++[.tup [.ref J1.n,.ref J2.n]]))
 haveI f7:(J3.adds ([]++[.tup [.ref J1.n,.ref J2.n]])).t.get J3.n=some _:=aq.ai A3.ext.ok (i:=0) rfl
 haveI f5:=(Ext.adds A3.ext.ok ([]++[.tup [.ref J1.n,.ref J2.n]])).old _ _ f5
 haveI f6:=(Ext.adds A3.ext.ok ([]++[.tup [.ref J1.n,.ref J2.n]])).old _ _ f6
 generalize J3.adds ([]++_)=J4 at c5 A4 E4 f5 f6 f7
 haveI f0:=E4.old _ _ f0
 haveI f1:=E4.old _ _ f1
 haveI f4:=E4.old _ _ f4
 generalize hE4:dW J (.ref (J'.n+4)) (.ref J1.n) (.ref J2.n)=Z4 at s3 c5
 haveI q4:aG (aO .NotEq (af 4) _) J3 Z4 = .ok false J4 Z4:=bQ (by rw[<-hE4];rfl) c5 ((ZV (Option.map not) (r9 f4 f7 (.cons f0 (.cons f1 .nil)) (.cons f5 (.cons f6 .nil)) rfl)).trans (by rw[ZA rfl];rfl))
 haveI s4:br _ (au [b9 (.ret .none)]) (au []) J3 Z4 = .ok .next J4 Z4:=(bf q4).trans rfl
 have Jy:∀ {s:aq} {i k:Nat},s.t.get (J'.n+4)=some (.tup [.ref J'.n,.ref (J'.n+1)])->(i=1/\k=J'.n+1)∨(i=0/\k=J'.n)->aD 0 scr (af 4) (.ret (.int (Int.ofNat i))) s Z4 = .ok (.ref k) s Z4:=fun h hi=>by
  refine hE4▸?_
  refine(ag (ob _ h)).trans ?_
  rcases hi with⟨rfl,rfl⟩ | ⟨rfl,rfl⟩<;>rfl
 have R:∀ {s:aq} {i:Nat} {y:M V},kU J s km K (.int (Int.ofNat t)) (.int (Int.ofNat o)) ab->y s Z4 = .ok (.int (Int.ofNat i)) s Z4->i<K->aD 0 scr (af 1) y s Z4 = .ok _ s Z4:=fun {s i y} A h hi=>by
  refine di (hE4▸rfl) h A.c3 (by rw[Z0,Xq];exact om [_,_] [(.v 0,.v 1),(.v 1,.n 7)] (.s (.v 0),.n 4611686018427387904) rfl (eE hK) hK7) ?_
  rw[ZH,XB hi];rfl
 haveI e5:=xJ A4.ext.ok (Jy f4 (.inl ⟨rfl,rfl⟩)) f1
 haveI A5:=A4.grow [.list []]
 haveI f4:=(Ext.adds A4.ext.ok [.list []]).old _ _ f4
 haveI f0:=(Ext.adds A4.ext.ok [.list []]).old _ _ f0
 generalize J4.adds [.list []]=J5 at e5 A5 f4 f0
 have htl:t<ab.length:=by rw[A.len];exact om [_,_,_] [(.s (.v 0),.v 1),(.v 1,.v 2)] (.s (.v 0),.v 2) rfl ht (lC hK)
 have hol:o<ab.length:=by rw[A.len];omega
 haveI hat:=Z7 htl
 haveI hao:=Z7 hol
 have gd:∀ {i:Nat} {l:List Int},rs[i]? = some l->rs.getD i []=l:=fun h=>by simp[List.getD,h]
 have ga:∀ {i:Nat} {l:List Int},ab[i]? = some l->ab.getD i []=l:=fun h=>by simp[List.getD,h]
 haveI hsto:bG rs t o=decide (iq lt lo=[]):=by skip;exact(gd t2)▸(gd o2)▸rfl
 haveI hsot:bG rs o t=decide (iq lo lt=[]):=by skip;exact(gd t2)▸(gd o2)▸rfl
 unfold u5
 refine hsto▸hsot▸(ga hat)▸(ga hao)▸?_
 have done:∀ {r:Rs Fl} {s:aq} {ab2:List (List Int)},r = .ok .next s Z4->kU J s km K (.int (Int.ofNat t)) (.int (Int.ofNat o)) ab2->∃ J2 a' b' c',r = .ok .next J2 (dW J a' b' c')/\kU J J2 km K (.int (Int.ofNat t)) (.int (Int.ofNat o)) ab2/\aE a'=none/\aE b'=none/\aE c'=none:=fun h A=>(Ee _ (.ref (J'.n+4)) (.ref J1.n) (.ref J2.n) (by rw[h,<-hE4]) A rfl rfl rfl)
 unfold CN
 rw[aB s1,aB s2,aB s3,aB s4]
 by_cases q:iq lt lo=[]
 ·rw[if_pos (ZA q)]
  rw[ZA q] at e5
  have l3:af 3 J5 Z4 = .ok (.int (Int.ofNat o)) J5 Z4:=hE4▸(L3 A5)
  have l2:af 2 J5 Z4 = .ok (.int (Int.ofNat t)) J5 Z4:=hE4▸(L2 A5)
  have ap:=dC (R A5 l2 (om [_,_,_] [(.s (.v 0),.v 1),(.v 1,.v 2)] (.s (.v 0),.v 2) rfl ht (lC hK))) (A5.row t _ hat).1 l3 (A5.row t _ hat).1 (by haveI:=hab _ (Y0 htl);simp;omega)
  exact done ((aB ((bf e5).trans ((aB ap).trans rfl))).trans rfl) (A5.app hJ hat (by haveI:=hab _ (Y0 htl);exact om [_] [(.s (.v 0),.n 900)] (.s (.v 0),.n 999) rfl this) _)
 ·rw[if_neg (by simpa using q)]
  rw[Zo q] at e5
  haveI e6:=xJ A5.ext.ok (Jy f4 (.inr ⟨rfl,rfl⟩)) f0
  haveI A6:=A5.grow [.list []]
  generalize J5.adds [.list []]=J6 at e6 A6
  by_cases q2:iq lo lt=[]
  ·rw[if_pos (ZA q2)]
   rw[ZA q2] at e6
   have l3:af 3 J6 Z4 = .ok (.int (Int.ofNat o)) J6 Z4:=by rw[<-hE4];exact L3 A6
   haveI l2:af 2 J6 Z4 = .ok (.int (Int.ofNat t)) J6 Z4:=hE4▸(L2 A6)
   haveI ap:=dC (R A6 l3 (om [_,_,_] [(.s (.v 0),.v 1),(.v 1,.v 2)] (.s (.v 0),.v 2) rfl ho (lC hK))) (A6.row o _ hao).1 l2 (A6.row o _ hao).1 (by haveI:=hab _ (Y0 hol);simp;omega)
   exact done ((aB ((bf e5).trans ((aB ((bf e6).trans ((aB ap).trans rfl))).trans rfl))).trans rfl) (A6.app hJ hao (by haveI:=hab _ (Y0 hol);exact om [_] [(.s (.v 0),.n 900)] (.s (.v 0),.n 999) rfl this) _)
  ·rw[if_neg (by simpa using q2)]
   rw[Zo q2] at e6
   exact done ((aB ((bf e5).trans ((aB ((bf e6).trans rfl)).trans rfl))).trans rfl) A6
end
end
section
variable {sub:Nat->Nat->Bool}
noncomputable def iX(sub:Nat->Nat->Bool)(t:Nat)(ab:List (List Int)):Nat->List (List Int)
 |0=>ab
 |i+1=>u5 sub t i (iX sub t ab i)
noncomputable def er(sub:Nat->Nat->Bool)(K:Nat):Nat->List (List Int)
 |0=>List.replicate K []
 |t+1=>iX sub t (er sub K t) t
section
variable {J J':aq}{scr:List Int}{F:eP}{km K:Nat}{ks:List Nat}{rs:List (List Int)}
theorem xM{t o B:Nat}{ab:List (List Int)}(h:∀ l∈ab,l.length<=B):∀ l∈u5 sub t o ab,l.length<=B+1:=by
 haveI hg:∀ i,(ab.getD i []).length<=B:=fun i=>by
  refine bI (ab[i]?) (fun q=>?_) fun l q=>?_
  ·simp[List.getD,q]
  ·simpa [List.getD,q] using h l (ZK q)
 have hset:∀ (i:Nat) (x:Int) l,l∈ab.set i (ab.getD i []++[x])->l.length<=B+1:=fun i x l hl=>by
  rcases List.mem_or_eq_of_mem_set hl with h1 | h1
  ·exact YO (h l h1)
  ·rw[h1,ZI];exact Nat.succ_le_succ (hg i)
 intro l hl
 unfold u5 at hl
 split at hl
 ·exact hset _ _ l hl
 ·split at hl
  ·exact hset _ _ l hl
  ·exact YO (h l hl)
theorem jb{t B:Nat}{ab:List (List Int)}(h:∀ l∈ab,l.length<=B):∀ i,∀ l∈iX sub t ab i,l.length<=B+i
 |0=>h
 |i+1=>xM (jb h i)
theorem nk{K:Nat}:∀ t,∀ l∈er sub K t,l.length<=t*t
 |0=>fun l hl=>(List.eq_of_mem_replicate hl)▸(XU _)
 |t+1=>fun l hl=>by
  haveI:=jb (nk t) t l hl
  haveI e:(t+1)*(t+1)=t*t+t+(t+1):=by simp only[Nat.succ_mul,Nat.mul_succ]
  exact om [_,_,_,_] [(.v 0,.a (.v 1) (.v 2)),(.a (.a (.v 1) (.v 2)) (.s (.v 2)),.v 3)] (.v 0,.v 3) rfl this (lC e)
theorem xm(Mm:Mem J km ks rs)(hK:K=rs.length){T O:V} :
  bz (af 0) (.one 1) [] (cw (eList [])) [(".0",.loc),("row",.loc)] (J.adds [.cell (.ref km),.cell T,.cell O]) [.aI J.n,.ah,.aI (J.n+1),.aI (J.n+2),.ah,.ah,.ah] =
   .ok (.ref (J.n+3)) (J.adds ([.cell (.ref km),.cell T,.cell O,.list ((List.range K).map fun i=>.ref (J.n+(4+i)))]++List.replicate K (.list []))) [.aI J.n,.ah,.aI (J.n+1),.aI (J.n+2),.ah,.ah,.ah]:=by
 have hJ:=Mm.ok
 have hlen:=Mm.len
 let os:=fun i=>[Mine.O.cell (.ref km),.cell T,.cell O,.list ((List.range i).map fun i=>.ref (J.n+(4+i)))]++List.replicate i (.list [])
 obtain⟨J3,Z3,h1,rfl,e,w,rfl,_⟩:=d7 (J:=J.adds [.cell (.ref km),.cell T,.cell O]) (Z:=[.aI J.n,.ah,.aI (J.n+1),.aI (J.n+2),.ah,.ah,.ah]) (t:=.one 1) (x:=af 0) (ifs:=[]) (b:=[(".0",.loc),("row",.loc)])
  (P:=fun i J' e=>∃ w,J'=J.adds (os i)/\e=[.ah,w]/\aE w=none) (N:=K)
  (ba rfl (aq.ai hJ (i:=0) rfl) nofun) (cb (aq.aX hJ Mm.lst)) rfl (om [_,_] [(.v 0,.v 1),(.v 1,.n 7)] (.s (.v 0),.n 2000) rfl (eE hK) hlen) rfl
  (fun i hi J' e hp=>by
   refine iu hp fun w qz1 qz2 hw=>?_;clear hp;subst qz1;subst qz2
   refine qf (Mm.item (show i<rs.length by omega)) fun k l k1 zz=>?_
   haveI hn:eH (J.adds (os i)) (.lst km) i=some (some (.ref k)):=by
    rw[cE (aq.aX hJ Mm.lst),ZH,k1];rfl
   haveI e1:eList [] _ _ = .ok _ _ _:=by
    haveI:=dm (J:=J) (os:=os i) (vs:=[]) (Z:=[.ah,.ref k]) (by decide)
    haveI hl:(os i).length=4+i:=by simp[os];omega
    rw[hl] at this
    exact this
   haveI hat:(J.adds (os i++[.list []])).t.get (J.n+3)=some (.list ((List.range i).map fun i=>.ref _)):=aq.ai hJ rfl
   refine⟨_,J.adds (os (i+1)),[.ah,.ref k],hn,eS (bZ hw) rfl ((d8 e1 hat (by simp;omega)).trans ?_),_,rfl,rfl,rfl⟩
   refine ZV (fun s=>Rs.ok () s _) ((aq.bL hJ _ _ 3 (by simp[os])).trans ?_)
   show J.adds _=J.adds ([_,_,_,_]++List.replicate (i+1) _)
   exact List.replicate_succ'▸XY▸Zc▸rfl)
  (fun J' e hp=>by
   refine aF hp fun w qz5 zz=>?_;clear hp;subst qz5
   rw[cE (aq.aX hJ Mm.lst),ZH]
   rw[Yq (Mm.rws.len▸(Yo (Eq.symm ‹_›)))];rfl) (iF .ah rfl rfl rfl)
 exact h1
theorem xA(hF:xU F)(Mm:Mem J km ks rs)(hK:K=rs.length)(e:List V):∃ J' T O,aU F scr eG [.ref km] J e = .ok (.ref (J.n+3)) J' e/\kU J J' km K T O (er (bG rs) K K):=by
 have hJ:=Mm.ok
 have hlen:=Mm.len
 let J0:=J.adds ([Mine.O.cell (.ref km),.cell .ah,.cell .ah,.list ((List.range K).map fun i=>.ref (J.n+(4+i)))]++List.replicate K (.list []))
 have A0:kU J J0 km K .ah .ah (er (bG rs) K 0):=by
  refine⟨Ext.adds hJ _,aq.ai hJ (i:=0) rfl,aq.ai hJ (i:=1) rfl,aq.ai hJ (i:=2) rfl,aq.ai hJ (i:=3) rfl,List.length_replicate,fun i l hl=>?_⟩
  have hi:i<K:=by haveI:=(ZP.mp hl).1;simpa [er] using this
  haveI hl:l=[]:=List.eq_of_mem_replicate (ZK hl)
  refine hl▸?_
  refine⟨aq.ai hJ (i:=4+i) ?_,by decide⟩
  rw[ZF (by simp),show 4+i - [Mine.O.cell (.ref km),.cell .ah,.cell .ah,.list ((List.range K).map fun i=>.ref _)].length=i by simp,List.getElem?_replicate,if_pos hi];rfl
 haveI s0:aJ _ [aA 0 (.one 1)] _ _ = .ok .next J0 _:=fF (xm Mm hK) rfl
 haveI hlK:aS scr.length .len [af 0] J0 _ = .ok _ J0 _:=by
  haveI:=sv (n:=scr.length) (Z:=dW J .ah .ah .ah) (ba (i:=0) rfl A0.c0 nofun) (A0.ext.old _ _ Mm.lst)
  rw[Z0,Mm.rws.len,<-hK] at this
  exact this
 haveI A1:=A0.grow [.bD 0 (Int.ofNat K)]
 obtain⟨J3,Z3,h1,T,O,a,b,c,A3,rfl,_⟩:=eV (J:=J0) (t:=.one 2) (x:=aS scr.length .aW _) (N:=K)
  (b:=au [dB (.one 3) (aS scr.length .aW [af 2]) (CN F scr)])
  (P:=fun t J' Z'=>∃ T O a b c,kU J J' km K T O (er (bG rs) K t)/\Z'=dW J a b c/\aE a=none/\aE b=none/\aE c=none)
  (e8 hlK (om [_,_] [(.v 0,.v 1),(.v 1,.n 7)] (.s (.v 0),.n 1000) rfl (eE hK) hlen)) (cb (k:=J0.n) (aq.ai A0.ext.ok (os:=[.bD 0 _]) (i:=0) rfl)) rfl (om [_,_] [(.v 0,.v 1),(.v 1,.n 7)] (.s (.v 0),.n 2000) rfl (eE hK) hlen)
  (fun t ht s Z hp=>by
   refine IQ hp fun T O a b c A qz0 ha hb hc=>?_;clear hp;refine qz0▸?_
   haveI hn:eH s _ t=some _:=by
    haveI:=dn (J:=s) (a:=0) (i:=t) (by show(0:Int)+t<(K:Int);omega)
    rw[Yb] at this;exact this
   haveI hs:aA 0 (.one 2) (.int (Int.ofNat t)) s (dW J a b c) = .ok () _ _:=j3 (i:=2) (Z:=dW J a b c) rfl A.c1
   haveI A2:=A.two hJ (.int (Int.ofNat t))
   generalize s.put (J.n+1) _=s2 at hs A2
   haveI A4:=A2.grow [.bD 0 (Int.ofNat t)]
   obtain⟨s4,Z4,g1,O',a',b',c',A5,rfl,k1,k2,k3⟩:=eV (J:=s2) (t:=.one 3) (N:=t)
    (P:=fun i J' Z'=>∃ O a b c,kU J J' km K _ O (iX (bG rs) t _ i)/\Z'=dW J a b c/\aE a=none/\aE b=none/\aE c=none)
    (e8 (ba (i:=2) rfl A2.c1 nofun) (om [_,_,_] [(.v 0,.v 1),(.v 1,.n 7),(.s (.v 2),.v 0)] (.s (.v 2),.n 1000) rfl (eE hK) hlen ht)) (cb (k:=s2.n) (aq.ai A2.ext.ok (os:=[.bD 0 _]) (i:=0) rfl)) rfl (om [_,_,_] [(.v 0,.v 1),(.v 1,.n 7),(.s (.v 2),.v 0)] (.s (.v 2),.n 2000) rfl (eE hK) hlen ht)
    (fun i hi s5 Z5 hp=>by
     refine El hp fun O a b c A qz2 ha hb hc=>?_;clear hp;subst qz2
     have hn:eH s5 (.bD 0 (Int.ofNat t)) i=some (some (.int (Int.ofNat i))):=by
      haveI:=dn (J:=s5) (a:=0) (b:=Int.ofNat t) (i:=i) (by show(0:Int)+i<(t:Int);omega)
      rw[Yb] at this;exact this
     haveI hs:aA 0 (.one 3) (.int (Int.ofNat i)) s5 (dW J a b c) = .ok () _ _:=j3 (i:=3) (Z:=dW J a b c) rfl A.c2
     haveI A2:=A.one hJ (.int (Int.ofNat i))
     refine zY (xN (scr:=scr) hF Mm (om [_,_,_] [(.v 0,.v 1),(.s (.v 2),.v 0)] (.s (.v 2),.v 1) rfl (eE hK) ht) (om [_,_,_,_] [(.v 0,.v 1),(.s (.v 2),.v 0),(.s (.v 3),.v 2)] (.s (.v 3),.v 1) rfl (eE hK) ht hi) hK A2 (fun l hl=>by
      haveI h1:=jb (t:=t) (nk (K:=K) t) i l hl
      haveI:t*t<=7*7:=Nat.mul_le_mul (by omega) (by omega)
      omega) ha hb hc) fun s6 a' b' c' q1 q2 q3=>?_
     exact⟨_,_,_,_,_,hn,hs,q1,_,a',b',c',q2,rfl,q3⟩)
    (fun s6 Z6 zz=>bw (by show ¬(0:Int)+t<(t:Int);simp)) (Ee O a b c A4 rfl ha hb hc)
   exact⟨_,_,_,_,_,hn,hs,(aB g1).trans rfl,_,_,_,_,_,A5,rfl,k1,k2,k3⟩)
  (fun s6 Z6 zz=>bw (by show ¬(0:Int)+K<(K:Int);simp)) (JS .ah .ah .ah .ah .ah A1 rfl rfl rfl rfl)
 refine sx J3 T O (dA (J1:=J.adds [.cell .ah,.cell .ah,.cell .ah]) (e1:=[.aI J.n,.ah,.aI (J.n+1),.aI (J.n+2),.ah,.ah,.ah]) (e3:=dW J a b c) rfl rfl rfl rfl
  ((ag (gE hJ (i:=0) (j:=0) rfl rfl)).trans rfl) ?_) A3
 exact(aB s0).trans ((aB h1).trans (dJ rfl))
end
end
theorem qi{x:Int}:∀ {ys:List Int},x∈ys->∃ i,kQ x ys=some i/\fx i (ns ys)=ns (ys.erase x)
 |[],h=>by contradiction
 |y::r,h=>by
  dsimp only[kQ]
  by_cases q:y=x
  ·clear h;refine q▸?_
   rw[if_pos (by simp)]
   exact aY 0 rfl (by simp[fx,ns])
  ·rw[if_neg (by simpa using q)]
   refine aF (qi ((ZS.mp h).resolve_left (Ne.symm q))) fun i h1 h2=>?_
   refine h1▸?_
   refine aY (i+1) rfl ?_
   rw[List.erase_cons_tail (by simpa using q)]
   haveI:fx (i+1) (ns (y::r)) = .int y::fx i (ns r):=by rfl
   refine(this).trans ?_;simp only[h2];rfl
theorem qY(xs:List Int):xs=[]∨∃ l x,xs=l++[x]:=by
 rcases List.eq_nil_or_concat xs with h | ⟨l,x,h⟩
 ·exact .inl h
 ·exact .inr (uS l x (h▸List.concat_eq_append▸rfl))
theorem fG:∀ l:List Int,intsOf (ns l)=some l
 |[]=>rfl
 |x::r=>ZV (Option.map (x::·)) (fG r)
structure wb(J1 J2:aq)(kx ky:Nat)(xs ys:List Int):Prop where
 ok:J2.Ok
 old:∀ k o,k≠kx->k≠ky->J1.t.get k=some o->J2.t.get k=some o
 fz:J2.fz=J1.fz
 le:J1.n+1<=J2.n
 hx:J2.t.get kx=some (.list (ns xs))
 hy:J2.t.get ky=some (.list (ns ys))
 hm:J2.t.get J1.n=some (.list [])
noncomputable def lF(J1:aq)(kx ky:Nat)(v:V):List V:=[.ref kx,.ref ky,.ref J1.n,v]
section
variable {J1:aq}{F:eP}{scr:List Int}{kx ky:Nat}
theorem rH(hne:kx≠ky)(hxn:kx<J1.n)(hyn:ky<J1.n):∀ (N:Nat) (xs ys:List Int) (J2:aq) (v:V),aE v=none->xs.length<N->(∀ z,xs.count z<=ys.count z)->wb J1 J2 kx ky xs ys->
  ∃ J3 ys' v',bM (aG (af 0)) (au [aJ (bE 0 (af 0) .pop []) [aA 0 (.one 3)],iV 1 (au [aZ (bE 0 (af 1) .remove [af 3])]) (au [aZ (bE 2 (af 2) .append [af 3])])]) (au []) N J2 (lF J1 kx ky v) = .ok .next J3 (lF J1 kx ky v')/\wb J1 J3 kx ky [] ys'/\∀ z,xs.count z+ys'.count z=ys.count z
 |0,_,_,_,_,_,h,_,_=>absurd h (YX _)
 |N+1,xs,ys,J2,v,hv,hN,hc,Uy=>by
  have ht:aG (af 0) J2 (lF J1 kx ky v) = .ok (!(ns xs).isEmpty) J2 _:=mM rfl (by
   show(J2.t.get kx).bind wF=_
   exact Uy.hx▸rfl)
  rcases qY xs with rfl | ⟨xs',x,rfl⟩
  ·exact zd J2 ys v ((bf ht).trans rfl) Uy (fun z=>by simp)
  ·have hxy:x∈ys:=by
    haveI:=hc x
    simp at this
    exact List.count_pos_iff.mp (Nat.zero_lt_of_lt ‹_›)
   refine aF (qi hxy) fun i f1 f2=>?_
   haveI hpop:bE 0 (af 0) .pop [] J2 (lF J1 kx ky v) = .ok (.int x) (J2.put kx (.list (ns xs'))) (lF J1 kx ky v):=by
    refine(o7 (x:=af 0) rfl Uy.hx rfl rfl rfl).trans ?_
    refine(ag (ob _ Uy.hx)).trans ?_
    show az (ns (xs'++[x])).getLast? _ _ _=_
    rw[show(ns (xs'++[x])).getLast? = some (.int x) by simp[ns]]
    show Rs.ok (V.int x) (J2.put kx _) _=_
    exact(show(ns (xs'++[x])).dropLast=ns xs' by simp[ns])▸rfl
   haveI hs:=fF (i:=3) hpop hv
   haveI hrem:aZ _ _ _ = .ok .next _ _:=by
    haveI hy2:(J2.put kx (.list (ns xs'))).t.get ky=some _:=aK Uy.hy (Ne.symm hne)
    haveI hm:bE 0 (af 1) .remove [af 3] _ (lF J1 kx ky (.int x)) = .ok .none ((J2.put kx (.list (ns xs'))).put ky (.list (ns (ys.erase x)))) (lF J1 kx ky (.int x)):=by
     refine(o7 (x:=af 1) rfl hy2 rfl rfl rfl).trans ?_
     refine(ag (ob _ hy2)).trans ?_
     show az (intsOf (ns ys)) _ _ _=_
     rw[fG]
     show(match kQ x ys with
      |some i=>M.bind _ fun zz=>M.ret V.none
      |none=>M.raise 1:M V) _ _=_
     refine f1▸?_
     exact f2▸rfl
    exact ag hm
   haveI htry:iV 1 (au [aZ (bE 0 (af 1) .remove [af 3])]) (au [aZ (bE 2 (af 2) .append [af 3])]) (J2.put kx (.list (ns xs'))) (lF J1 kx ky (.int x)) = .ok .next ((J2.put kx (.list (ns xs'))).put ky (.list (ns (ys.erase x)))) (lF J1 kx ky (.int x)):=by
    dsimp only[iV,iY]
    exact(aB hrem)▸rfl
   haveI U2:wb J1 _ kx ky xs' (ys.erase x):=by
    refine⟨(Uy.ok.put _ _).put _ _,fun k o h1 h2 e=>aK (aK (Uy.old k o h1 h2 e) h1) h2,Uy.fz,Uy.le,aK (cQ Uy.hx) hne,cQ (aK Uy.hy (Ne.symm hne)),aK (aK Uy.hm (Yw ‹_›)) (Yw ‹_›)⟩
   refine zQ (rH hne hxn hyn N xs' (ys.erase x) _ (.int x) rfl (by simp at hN;omega) (fun z=>by
    haveI:=hc z
    simp only[List.count_erase]
    simp[List.count_cons] at this ⊢
    split<;>simp_all<;>exact om [_,_,_] [(.s (.v 0),.v 1),(.v 1,.a (.v 2) (.n 1))] (.v 0,.v 2) rfl this DW) U2) fun J3 ys' v' k1 k2 k3=>?_
   refine zd J3 ys' v' ((bf ht).trans ?_) k2 (fun z=>?_)
   ·refine(show(!(ns (xs'++[x])).isEmpty)=true by simp[ns])▸?_
    haveI hbody:au [aJ _ _,iV 1 _ _] J2 _ = .ok .next _ _:=(aB hs).trans ((aB htry).trans rfl)
    exact(ag hbody).trans k1
   ·haveI h1:=k3 z
    haveI h2:=hc z
    rw[XG] at h2 ⊢
    by_cases q:z=x
    ·clear U2;clear Uy;clear f1;clear f2;clear hN;clear hc;clear hpop;clear hrem;clear hs;clear ht;clear htry;clear hxy;clear k1;clear k3;subst q
     simp only[List.count_erase_self] at h1
     rw[List.count_singleton_self] at h2 ⊢
     exact YW (om [_,_,_,_] [(.a (.v 0) (.v 1),.v 2),(.a (.v 2) (.n 1),.v 3)] (.a (.s (.v 0)) (.v 1),.v 3) rfl (eE h1) (Gz (om [_,_] [(.s (.v 0),.v 1)] (.n 1,.v 1) rfl h2))) (om [_,_,_,_] [(.v 0,.a (.v 1) (.v 2)),(.v 3,.a (.v 0) (.n 1))] (.v 3,.a (.s (.v 1)) (.v 2)) rfl (lC h1) DW)
    ·rw[List.count_erase_of_ne q] at h1
     haveI q2:[x].count z=0:=List.count_eq_zero_of_not_mem (by simpa using q)
     rw[q2] at h2 ⊢
     omega
inductive GL(F:eP)(J1:aq)(kx ky:Nat)(xs ys:List Int)(e:List V):Prop where
 |mk (J2:aq) (ys':List Int) (t:Nat) (h:F 14 [.ref kx,.ref ky] J1 e = .ok (.ref t) J2 e) (Uy:wb J1 J2 kx ky [] ys') (ht:J2.t.get t=some (.tup [.ref J1.n,.ref ky])) (hc:∀ z,xs.count z+ys'.count z=ys.count z)
noncomputable def C5(F:eP):Prop:=∀ {J1:aq} {kx ky:Nat} {xs ys:List Int},J1.Ok->J1.t.get kx=some (.list (ns xs))->J1.t.get ky=some (.list (ns ys))->kx≠ky->xs.length<2000->(∀ z,xs.count z<=ys.count z)->∀ e,GL F J1 kx ky xs ys e
theorem CH{F':eP}(hF:∀ args J e,F' 14 args J e=aU F scr bh args J e):C5 F':=by
 intro J1 kx ky xs ys hJ hx hy hne hl hc e
 haveI E:=Ext.adds hJ [.list []]
 haveI U0:wb J1 _ kx ky xs ys:=⟨E.ok,fun k o zz zz h=>E.old k o h,E.fz,by rw[aq.cf];exact ZE _,E.old _ _ hx,E.old _ _ hy,aq.ai hJ (i:=0) rfl⟩
 refine zQ (rH hne (hJ.get hx) (hJ.get hy) 2000 xs ys _ .ah rfl hl hc U0) fun J3 ys' v' h1 h2 h3=>?_
 haveI e4:eu [af 2,af 1] J3 _ = .ok (.ref J3.n) (J3.adds [.tup _]) (lF J1 kx ky v'):=lS (os:=[]) rfl rfl
 haveI h4:=(ag e4:M.bind _ (fun a=>M.ret (Fl.ret a)) _ _=_)
 haveI E3:=Ext.adds h2.ok [.tup [.ref J1.n,.ref ky]]
 refine⟨J3.adds _,ys',J3.n,(hF _ _ _).trans (dA (e2:=[.ref kx,.ref ky,.ah,.ah]) (e3:=lF J1 kx ky v') rfl rfl rfl rfl rfl ?_),⟨E3.ok,fun k o q1 q2 q3=>E3.old _ _ (h2.old k o q1 q2 q3),E3.fz.trans h2.fz,ZD h2.le E3.le,E3.old _ _ h2.hx,E3.old _ _ h2.hy,E3.old _ _ h2.hm⟩,aq.ai h2.ok (i:=0) rfl,h3⟩
 exact(aB (J':=J1.adds [.list []]) (Z':=lF J1 kx ky .ah) rfl).trans ((aB h1).trans (dJ h4))
end
section
variable {Z:List V}{x y:M V}{k:Nat}{J J':aq}
noncomputable def mulL(l:List Int)(w:Int):List Int:=(List.replicate w.toNat l).flatten
noncomputable def dI(rs:List (List Int))(w:Nat->Int):Nat->List Int
 |0=>iG 1 16
 |i+1=>if 0<w i then dI rs w i++mulL (rs.getD i []) (w i) else dI rs w i
noncomputable def cz(rs:List (List Int))(w:Nat->Int):Nat->List Int
 |0=>[]
 |i+1=>if 0<w i then cz rs w i else cz rs w i++mulL (rs.getD i []) (-(w i))
section
variable {J J':aq}{F:eP}{scr:List Int}{km kw:Nat}{ks:List Nat}{rs:List (List Int)}{w:Nat->Int}{Z:List V}
theorem tW(l:List Int):∀ n:Nat,(List.replicate n (ns l)).flatten=ns (List.replicate n l).flatten
 |0=>rfl
 |n+1=>by dsimp only[List.replicate_succ,List.flatten_cons,tW l n,List.replicate_succ,List.flatten_cons];simp[ns]
theorem mS(l:List Int)(v:Int)(h1:l.length<=16)(h2:v.natAbs<=10):(mulL l v).length<=160:=by
 haveI e:∀ n:Nat,(List.replicate n l).flatten.length=n*l.length:=fun n=>by
  induction n with
  |zero=>simp
  |succ n ih=>rw[Yl,XI,ZI,ih,Nat.succ_mul];exact Yd _ _
 unfold mulL
 rw[e]
 exact Nat.mul_le_mul (show v.toNat<=10 by omega) h1
theorem yU(hJ:J'.Ok){r:M V}{ka:Nat}{a l:List Int}{v:Int}(h1:x J' Z = .ok (.ref ka) J' Z)(h2:r J' Z = .ok (.ref k) J' Z)(h3:y J' Z = .ok (.int v) J' Z)(ha:J'.t.get ka=some (.list (ns a)))(hk:J'.t.get k=some (.list (ns l)))(hl:l.length<=16)(hv:v.natAbs<=10)(hal:a.length<5000):aL .Add x (aL .Mult r y) J' Z = .ok (.ref (J'.n+1)) (J'.adds [.list (ns (mulL l v)),.list (ns (a++mulL l v))]) Z:=by
 haveI hm:=mS l v hl hv
 haveI e1:aL .Mult r y J' Z = .ok (.ref J'.n) (J'.adds [.list (ns (mulL l v))]) Z:=by
  refine(ag h2).trans ((ag h3).trans ?_)
  refine(ag (ob _ hk)).trans ?_
  show(if Nat.ble v.natAbs 10000=true then M.gi (List.replicate v.toNat (ns l)).flatten else M.bad) _ _=_
  rw[if_pos (XJ (ZD hv (ZQ 10 9990))),tW]
  exact dm (os:=[]) (by rw[Z0];show(mulL l v).length<=_;exact ZD hm (ZQ 160 9840))
 refine(ag h1).trans ((ag e1).trans ?_)
 refine(ag (ob _ (aq.aX hJ ha))).trans ?_
 refine(ag (ob J'.n (aq.ai hJ (i:=0) rfl))).trans ?_
 refine(dm (by simp;omega)).trans ?_
 rw[show ns a++ns (mulL l v)=ns (a++mulL l v) by simp[ns]]
 rfl
theorem jJ{es:List (Int×V)}{i:Int}{v:V}(h1:x J' Z = .ok (.ref k) J' Z)(h2:y J' Z = .ok (.int i) J' Z)(hk:J'.t.get k=some (.dict es))(hl:es.lookup i=some v):aD 0 scr x y J' Z = .ok v J' Z:=by
 refine(ag h1).trans ((ag h2).trans ?_)
 refine(ag (ob _ hk)).trans ?_
 show az _ M.ret _ _=_
 exact hl▸rfl
theorem DT{v:Int}(h:y J' Z = .ok (.int v) J' Z):iM y J' Z = .ok (.int (-v)) J' Z:=(ag h).trans rfl
theorem uU{n:Nat}{l:List Int}(h:y J' Z = .ok (.ref k) J' Z)(hk:J'.t.get k=some (.list (ns l)))(hl:l.length<64)(hs:(sortI l).length<=10000):aS n .sorted [y] J' Z = .ok (.ref J'.n) (J'.adds [.list (ns (sortI l))]) Z:=by
 haveI h3:cR [y] J' Z = .ok [.ref k] J' Z:=(ag h).trans rfl
 refine(ag h3).trans ?_
 refine(ag (ob _ hk)).trans ?_
 show az (intsOf (ns l)) _ _ _=_
 rw[fG]
 show(if Nat.blt l.length 64=true then M.gi _ else M.bad) _ _=_
 rw[if_pos (ja hl)]
 exact dm (os:=[]) (by simpa using hs)
theorem fN:∀ l:List Int,(sortI l).length=l.length
 |[]=>rfl
 |x::r=>by
  haveI hi:∀ (l:List Int),(insI x l).length=l.length+1:=fun l=>by
   induction l with
   |nil=>rfl
   |cons y r ih=>dsimp only[insI];split<;>simp[ih]
  show(insI x (sortI r)).length=_
  simp only[hi,fN r];rfl
theorem fY{Z':List V}{a:V}(h1:x J Z = .ok a J' Z'):cR [x] J Z = .ok [a] J' Z':=(ag h1).trans rfl
theorem lJ{Z':List V}{n:Nat}{b:Bi}{es:List (M V)}{vs:List V}(h:cR es J Z = .ok vs J' Z'):aS n b es J Z=uz n b vs J' Z':=by
 skip
 exact ag h
theorem pk{z:M V}{a b c:V}(h1:x J Z = .ok a J Z)(h2:y J Z = .ok b J' Z)(h3:z J' Z = .ok c J' Z):cR [x,y,z] J Z = .ok [a,b,c] J' Z:=by
 haveI e3:cR [z] J' Z = .ok [c] J' Z:=(ag h3).trans rfl
 haveI e2:cR [y,z] J Z = .ok [b,c] J' Z:=(ag h2).trans ((ag e3).trans rfl)
 exact(ag h1).trans ((ag e2).trans rfl)
structure BR(J:aq)(kw K:Nat)(w:Nat->Int):Prop where
 d:∃ es,J.t.get kw=some (.dict es)/\∀ i,i<K->es.lookup (Int.ofNat i)=some (.int (w i))
 lo:∀ i,i<K->(w i).natAbs<=10
theorem BR.ext{K:Nat}(h:BR J kw K w)(E:Ext J J'):BR J' kw K w:=let ⟨es,h1,h2⟩:=h.d;⟨⟨es,E.old _ _ h1,h2⟩,h.lo⟩
theorem BR.at{K:Nat}(h:BR J' kw K w){i:Nat}(h1:x J' Z = .ok (.ref kw) J' Z)(h2:y J' Z = .ok (.int (Int.ofNat i)) J' Z)(hi:i<K):aD 0 scr x y J' Z = .ok (.int (w i)) J' Z:=let ⟨_,g1,g2⟩:=h.d;jJ h1 h2 g1 (g2 i hi)
noncomputable def l5(km kw kl kt:Nat)(v:V):List V:=[.ref km,.ref kw,.ref kl,.ref kt,v,.ah,.ah]
structure Bu(J J':aq)(rs:List (List Int))(w:Nat->Int)(kl kt i:Nat):Prop where
 ext:Ext J J'
 hl:J'.t.get kl=some (.list (ns (dI rs w i)))
 ht:J'.t.get kt=some (.list (ns (cz rs w i)))
 ne:kl≠kt
 nl:J.n<=kl
 nt:J.n<=kt
 ll:(dI rs w i).length<=16+160*i
 lt:(cz rs w i).length<=160*i
theorem xH(Mm:Mem J km ks rs)(Wt:BR J kw rs.length w){kl kt i:Nat}(hi:i<rs.length)(L:Bu J J' rs w kl kt i) :
  ∃ J2 kl' kt',au [br (aG (aO .Gt (aD 0 scr (af 1) (af 4)) (.ret (.int 0)))) (au [aJ (aL .Add (af 2) (aL .Mult (aD 0 scr (af 0) (af 4)) (aD 0 scr (af 1) (af 4)))) [aA 0 (.one 2)]]) (au [aJ (aL .Add (af 3) (aL .Mult (aD 0 scr (af 0) (af 4)) (iM (aD 0 scr (af 1) (af 4))))) [aA 0 (.one 3)]])] J' (l5 km kw kl kt (.int (Int.ofNat i))) =
   .ok .next J2 (l5 km kw kl' kt' (.int (Int.ofNat i)))/\Bu J J2 rs w kl' kt' (i+1):=by
 refine xT (Mm.item hi) fun k l k1 k2 k3 k4=>?_
 have hlr:=Mm.row l k4
 have hlen:=Mm.len
 have hw:=Wt.lo i hi
 have hok:=L.ext.ok
 have w1:aD 0 scr (af 1) (af 4) J' _ = .ok (.int (w i)) J' (l5 km kw kl kt (.int (Int.ofNat i))):=(Wt.ext L.ext).at rfl rfl hi
 haveI m1:aD 0 scr (af 0) (af 4) J' _ = .ok (.ref k) J' (l5 km kw kl kt (.int (Int.ofNat i))):=(Mm.ext L.ext).idx rfl rfl k1
 haveI ht:aG (aO .Gt _ (.ret (.int 0))) J' _ = .ok (decide (0<w i)) J' _:=bQ w1 rfl rfl
 have gd:rs.getD i []=l:=by simp[List.getD,k2]
 haveI hll:=L.ll
 haveI hlt:=L.lt
 haveI hnl:=hok.get L.hl
 haveI hnt:=hok.get L.ht
 by_cases q:0<w i
 ·have e1:dI rs w (i+1)=dI rs w i++mulL l (w i):=by rw[dI,if_pos q,gd]
  have e2:cz rs w (i+1)=cz rs w i:=by rw[cz,if_pos q]
  have c:=yU (x:=af 2) hok rfl m1 w1 L.hl (L.ext.old _ _ k3) hlr hw (by omega)
  have E:=Ext.adds hok [.list (ns (mulL l (w i))),.list (ns (dI rs w i++mulL l (w i)))]
  have hm:=mS l (w i) hlr hw
  replace ht:=(ZA q)▸ht
  refine sx _ (J'.n+1) kt ((aB ((bf ht).trans ((aB (fF c rfl)).trans rfl))).trans rfl) ⟨L.ext.trans E,?_,?_,(Yw (om [_,_] [(.s (.v 0),.v 1)] (.s (.v 0),.s (.v 1)) rfl hnt)),by have:=L.ext.le;exact YO ‹_›,L.nt,?_,?_⟩
  ·rw[e1];exact aq.ai hok rfl
  ·rw[e2];exact E.old _ _ L.ht
  ·rw[e1,ZI];omega
  ·rw[e2];omega
 ·have e1:dI rs w (i+1)=dI rs w i:=by rw[dI,if_neg q]
  have e2:cz rs w (i+1)=cz rs w i++mulL l (-(w i)):=by rw[cz,if_neg q,gd]
  have hw2:(-(w i)).natAbs<=10:=by omega
  have c:=yU (x:=af 3) hok rfl m1 (DT w1) L.ht (L.ext.old _ _ k3) hlr hw2 (by omega)
  have E:=Ext.adds hok [.list (ns (mulL l (-(w i)))),.list (ns (cz rs w i++mulL l (-(w i))))]
  have hm:=mS l (-(w i)) hlr hw2
  rw[Zo q] at ht
  refine sx _ kl (J'.n+1) ((aB ((bf ht).trans ((aB (fF c rfl)).trans rfl))).trans rfl) ⟨L.ext.trans E,?_,?_,(Zk (om [_,_] [(.s (.v 0),.v 1)] (.s (.v 0),.s (.v 1)) rfl hnl)),L.nl,by have:=L.ext.le;exact YO ‹_›,?_,?_⟩
  ·rw[e1];exact E.old _ _ L.hl
  ·rw[e2];exact aq.ai hok rfl
  ·rw[e1];omega
  ·rw[e2,ZI];omega
inductive H3(F':eP)(scr:List Int)(J:aq)(km kw:Nat)(rs:List (List Int))(w:Nat->Int)(e:List V):Prop where
 |mk (J3:aq) (ys:List Int) (t m s k:Nat) (h:aU F' scr fo [.ref km,.ref kw] J e = .ok (.ref t) J3 e) (E:Ext J J3) (ht:J3.t.get t=some (.tup ([m,s,k].map .ref))) (hr:aH J3 [m,s,k] [[],sortI ys,[]])
  (hc:∀ z,(cz rs w rs.length).count z+ys.count z=(dI rs w rs.length).count z)
theorem Bl(hF:C5 F)(Mm:Mem J km ks rs)(Wt:BR J kw rs.length w)(hc:∀ z,(cz rs w rs.length).count z<=(dI rs w rs.length).count z)(hl:(dI rs w rs.length).length<64+(cz rs w rs.length).length)(e:List V):H3 F scr J km kw rs w e:=by
 have hJ:=Mm.ok
 have hlen:=Mm.len
 let J0:=J.adds [.bD 1 17,.list (ns (iG 1 16)),.list []]
 have E0:Ext J J0:=Ext.adds hJ _
 haveI L0:Bu J J0 rs w (J.n+1) (J.n+2) 0:=⟨E0,aq.ai hJ (i:=1) rfl,aq.ai hJ (i:=2) rfl,by simp,(XH _),(Zp _ _),by show(iG 1 16).length<=_;decide,by show([]:List Int).length<=_;decide⟩
 haveI hlK:aS scr.length .len [af 0] J0 _ = .ok _ J0 _:=by
  haveI:=sv (n:=scr.length) (y:=af 0) (Z:=l5 km kw (J.n+1) (J.n+2) .ah) rfl (E0.old _ _ Mm.lst)
  rw[Z0,Mm.rws.len] at this
  exact this
 haveI E1:=Ext.adds E0.ok [.bD 0 (Int.ofNat rs.length)]
 obtain⟨J3,Z3,h1,kl,kt,v,L3,rfl,hv⟩:=eV (J:=J0) (J1:=J0.adds _) (t:=.one 4) (x:=aS scr.length .aW _)
  (b:=au [br (aG (aO .Gt (aD 0 scr (af 1) (af 4)) (.ret (.int 0)))) (au [aJ (aL .Add (af 2) (aL .Mult (aD 0 scr (af 0) (af 4)) (aD 0 scr (af 1) (af 4)))) [aA 0 (.one 2)]]) (au [aJ (aL .Add (af 3) (aL .Mult (aD 0 scr (af 0) (af 4)) (iM (aD 0 scr (af 1) (af 4))))) [aA 0 (.one 3)]])])
  (P:=fun i J' Z'=>∃ kl kt v,Bu J J' rs w kl kt i/\Z'=l5 km kw kl kt v/\aE v=none)
  (e8 hlK (ZG hlen (ZQ (Nat.succ 7) 992))) (cb (k:=J0.n) (o:=.bD 0 (Int.ofNat rs.length)) (aq.ai E0.ok (i:=0) rfl)) rfl (ZG hlen (ZQ (Nat.succ 7) 1992))
  (fun i hi s Z hp=>by
   refine zQ hp fun kl kt v L qz1 hv=>?_;clear hp;refine qz1▸?_
   have hn:eH s (.bD 0 (Int.ofNat rs.length)) i=some (some (.int (Int.ofNat i))):=by
    haveI:=dn (J:=s) (a:=0) (b:=Int.ofNat rs.length) (i:=i) (by show(0:Int)+i<(rs.length:Int);omega)
    rw[Yb] at this;exact this
   have hs:aA 0 (.one 4) (.int (Int.ofNat i)) s (l5 km kw kl kt v) = .ok () s (l5 km kw kl kt (.int (Int.ofNat i))):=bZ (i:=4) hv
   refine g9 (xH (scr:=scr) Mm Wt hi L) fun J2 kl' kt' g1 g2=>?_
   exact⟨_,_,_,_,_,hn,hs,g1,kl',kt',_,g2,rfl,rfl⟩)
  (fun s Z zz=>bw (by show ¬(0:Int)+rs.length<(rs.length:Int);simp)) (zd (J.n+1) (J.n+2) .ah ⟨E0.trans E1,E1.old _ _ L0.hl,E1.old _ _ L0.ht,L0.ne,L0.nl,L0.nt,L0.ll,L0.lt⟩ rfl rfl)
 obtain⟨J4,ys,t,c1,Uy,c2,c3⟩:=hF L3.ext.ok L3.ht L3.hl (Ne.symm L3.ne) (by haveI:=L3.lt;omega) hc (l5 km kw kl kt v)
 have hys:ys.length<64:=by
  haveI hp:(cz rs w rs.length++ys).Perm _:=List.perm_iff_count.mpr fun z=>by refine(XG).trans ?_;exact c3 z
  haveI:=hp.length_eq
  replace this:=(ZI).symm.trans this
  exact om [_,_,_] [(.s (.v 0),.a (.n 64) (.v 1)),(.a (.v 1) (.v 2),.v 0)] (.s (.v 2),.n 64) rfl hl (eE this)
 haveI s3:aJ (el F 14 [af 3,af 2]) [aA 0 (.many [5,6])] J3 (l5 km kw kl kt v) = .ok .next J4 _:=by
  haveI hcall:=(ag (ff (x:=af 3) (y:=af 2) rfl rfl)).trans c1
  exact fC hcall ((ag (sG (i:=5) (j:=6) c2 rfl rfl)).trans rfl)
 haveI hs:aS scr.length .sorted [af 6] J4 _ = .ok (.ref J4.n) _ [.ref km,.ref kw,.ref kl,.ref kt,v,.ref J3.n,.ref kl]:=uU rfl Uy.hy hys (by rw[fN];exact om [_] [(.s (.v 0),.n 64)] (.v 0,.n 10000) rfl hys)
 haveI hrow:=
  pk (x:=af 5) (z:=af 3) (c:=.ref kt) rfl hs rfl
 haveI htup:eu _ J4 _ = .ok (.ref (J4.n+1)) (J4.adds [.list (ns (sortI ys)),.tup _]) _:=
  (ag hrow).trans (lI (J:=J4) (by show 3<=10000;decide))
 haveI E4:=Ext.adds Uy.ok [.list (ns (sortI ys)),.tup [.ref J3.n,.ref J4.n,.ref kt]]
 haveI E:Ext J J4:=⟨Uy.ok,fun k o h=>Uy.old k o (by have:=hJ.get h;have:=L3.nt;omega) (by have:=hJ.get h;have:=L3.nl;omega) (L3.ext.old _ _ h),Uy.fz.trans L3.ext.fz,by haveI:=Uy.le;haveI:=L3.ext.le;exact om [_,_,_] [(.s (.v 0),.v 1),(.v 2,.v 0)] (.v 2,.v 1) rfl (by assumption) this⟩
 refine⟨J4.adds _,ys,J4.n+1,J3.n,J4.n,kt,dA (J2:=J) (e2:=[.ref km,.ref kw,.ah,.ah,.ah,.ah,.ah]) (e3:=[.ref km,.ref kw,.ref kl,.ref kt,v,.ref J3.n,.ref kl]) rfl rfl rfl rfl rfl ?_,
  E.trans E4,aq.ai Uy.ok (i:=1) rfl,.cons (E4.old _ _ Uy.hm) (.cons (aq.ai Uy.ok (i:=0) rfl) (.cons (E4.old _ _ Uy.hx) .nil)),c3⟩
 refine(aB (J':=J.adds [.bD 1 17,.list (ns (iG 1 16))]) (Z':=[.ref km,.ref kw,.ref (J.n+1),.ah,.ah,.ah,.ah]) ?_).trans ((aB (J':=J0) (Z':=l5 km kw (J.n+1) (J.n+2) .ah) rfl).trans ((aB h1).trans ((aB s3).trans (dJ (ag htup:M.bind _ (fun a=>M.ret (Fl.ret a)) _ _=_)))))
 haveI hr:aS scr.length .cX [.ret (.int 1),.ret (.int 17)] J _ = .ok (.ref J.n) (J.adds [.bD 1 17]) [.ref km,.ref kw,.ah,.ah,.ah,.ah,.ah]:=lN rfl rfl rfl rfl
 haveI hlst:aS scr.length .list _ J _ = .ok (.ref (J.n+1)) (J.adds [.bD 1 17,.list (ns (iG 1 16))]) _:=by
  refine(lJ (fY hr)).trans ?_
  refine(ag (ob J.n (aq.ai hJ (i:=0) rfl))).trans ?_
  exact dm (J:=J) (by decide)
 exact fF (i:=2) hlst rfl
end
end
end Mine.L1
end
noncomputable section
open PySem PySem.W PyProof.Rows
namespace Mine
section
variable {prog:Program}{w:World}{A:Around}{E:Value->Shared->Prop}{s:Shared}
set_option backward.match.sparseCases true in
theorem ro{r:Addr}{a b c:Int}{t u v:Tok}{n:Nat}{Q:List Value->Shared->Prop}(hh:A.handled=none)(hr:IsRange s.heap r a b c t u v)(hsmall:Builtin.Range.small a b c=true)(hn:Builtin.Range.rangeSize a b c=n)(hlen:n<=2 ^ 24)(hQ:∀ h' tk acc,(∀ b o,s.heap.get? b=some o->h'.get? b=some o)->ItemsOf (fun i v=>∃ t,v = .int (a+i*c) t) acc n->Q acc.toList {s with heap:=h',toks:=tk}) :
  wpAny (model prog w) A (collect (.ref r)) Q E s:=by
 skip
 refine Z8 (wpAny_runValue (WH F.entry_proto_collect ?_))
 dsimp only[Around.under_plainId F.plain_proto_collect _]
 show wpAny _ A.in1 (newList []>>=fun l=>again (.builtin "list.__iadd__" ⟨[l,.ref r],[]⟩)) _ _ s
 refine Z8 (YI ?_)
 refine ZW ⟨plainId_quiet F.plain_list_iadd _,WH F.entry_list_iadd ?_⟩
 dsimp only[Around.under_plainId F.plain_list_iadd _]
 show wpAny _ A.in1 (Builtin.List.listExtendWith (.ref s.heap.objs.size) (.ref r) (.ref s.heap.objs.size)) _ _ _
 have hS:(s.heap.push {cls:=.type "list",data:=.seq ([]:List Value).toArray}).get? s.heap.objs.size=some {cls:=.type "list",data:=.seq #[] 0}:=Zu _ rfl
 refine ZO (wpAny_extend_range (A:=A) (R:=fun q s'=>∃ h' tk acc' c',q = .ok (.ret (.ref s.heap.objs.size))/\s'={s with heap:=h',toks:=tk}/\(∀ b o,s.heap.get? b=some o->h'.get? b=some o)/\
   h'.get? s.heap.objs.size=some {cls:=.type "list",dict:=none,data:=.seq acc' c',slots:=#[]}/\ItemsOf (fun i v=>∃ t,v = .int (a+i*c) t) acc' n)
  (s:={s with heap:=s.heap.push {cls:=.type "list",data:=.seq ([]:List Value).toArray}}) hh (Zq _ hr) hsmall hn hlen s.heap.objs.size (.ref s.heap.objs.size) 0 hS
  fun h' tk acc' c' hk hS' cW=>(Ee h' tk acc' c' rfl rfl (fun b o e=>hk b o (Zk (YG e)) (Zq _ e)) hS' cW)) (fun fin s' h=>?_) fun e s' h=>?_
 ·have fin':∀ {f:PySem.Fin} {q:Value} {s':Shared},f = .done (.ret q)->q = .ref s.heap.objs.size->(∃ h' tk acc' c',s'={s with heap:=h',toks:=tk}/\(∀ b o,s.heap.get? b=some o->h'.get? b=some o)/\
    h'.get? s.heap.objs.size=some {cls:=.type "list",dict:=none,data:=.seq acc' c',slots:=#[]}/\ItemsOf (fun i v=>∃ t,v = .int (a+i*c) t) acc' n)->wpAny (model prog w) A (match q with
    |Value.ref a=>do
     match (<-load a).data with
      |Data.seq xs _=>pure xs.toList
      |_=>unsupported "internal:collect"
    |_=>unsupported "internal:collect") Q E s':=by
   rintro f q s' rfl rfl ⟨h',tk,acc',c',rfl,hk,hS',cW⟩
   show wpAny _ A (load s.heap.objs.size>>=_) _ _ _
   refine Z8 (XE hS' ?_)
   exact ZW (hQ h' tk acc' hk cW)
  cases fin with
  |done f=>
   refine El h fun h' tk acc' c' e qz1 hk hS' cW=>?_;clear h;refine qz1▸?_
   obtain rfl:=Except.ok.inj e
   exact fin' rfl rfl (HJ h' tk acc' c' rfl hk hS' cW)
  |again c'=>
   refine⟨h.1,WC h.2 fun r s'' hr=>?_⟩
   refine El hr fun h' tk acc' c' e qz3 hk hS' cW=>?_;clear hr;subst qz3
   subst e
   exact fin' rfl rfl (HJ h' tk acc' c' rfl hk hS' cW)
 ·refine Fj h fun zz zz zz zz e zz=>?_;clear h
  contradiction
theorem q9{vs:List Value}(h:∀ v∈vs,∃ n t,v = .int n t):IntsAre vs (vs.map numOf):=by
 induction vs with
 |nil=>exact .nil
 |cons v r ih=>
  refine nz (h v ZX) fun n t qz5=>?_;refine qz5▸?_
  exact .cons n t (ih fun v hv=>h v (ZY _ hv))
theorem tA{r f Lf:Addr}{m:Str->Option Value}{K:Nat}{t u v:Tok}{kz:List Int}{Q:Value->Shared->Prop}(hh:A.handled=none)(hr:IsRange s.heap r 0 K 1 t u v)(hK:K<64)(hkz:kz.length=K)(hm:s.heap.Ns Lf m)(turn:∀ (i:Nat) (t:Tok) (k:Int),kz[i]? = some k->∀ (h:Heap) (tk:Nat),h.Ns Lf m->(∀ b o,b≠Lf->s.heap.get? b=some o->h.get? b=some o)->
   wpAny (model prog w) A.in1.in1 (call (.ref f) [.int i t]) (fun y s2=>∃ h' tk' t',y = .int k t'/\s2={s with heap:=h',toks:=tk'}/\h'.Ns Lf m/\∀ b o,b≠Lf->h.get? b=some o->h'.get? b=some o) (fun zz zz=>False) {s with heap:=h,toks:=tk})(h:∀ D h' tk out c (qs:List (Int×Int)),s.heap.get? D=none->(∀ b o,b≠Lf->s.heap.get? b=some o->h'.get? b=some o)->h'.Ns Lf m->h'.get? D=some (seqObj "list" out c)->IntsAre out.toList (qs.map (·.2))->
   qs.Perm (kz.zip ((List.range K).map Int.ofNat))->qs.Pairwise (fun p q=>p.1<=q.1)->Q (.ref D) {s with heap:=h',toks:=tk}) :
  wpAny (model prog w) A (call (.builtin "sorted") [.ref r] [(Str.ofString "key",.ref f)]) Q E s:=by
 refine call_function_entry_kw kind_sorted plain_sorted entry_sorted (ksk_s1 _ _) ?_
 unfold Builtin.«sorted»
 refine Z8 (ZW ?_)
 refine Z8 (ro (n:=K) hh hr (small_one (by decide) (by decide) (by simp) (by omega)) (by rw[rangeSize_nat];rfl) (by omega) fun h1 tk1 acc hk1 cW=>?_)
 have hsz:acc.toList.length=K:=by dsimp only[Array.length_toList];exact cW.1
 refine Z8 (wpAny_newList ?_ (by refine hsz▸XS▸?_;exact om [_] [(.s (.v 0),.n 64)] (.v 0,.n 16777216) rfl hK))
 haveI hLs:Lf<s.heap.objs.size:=by refine g9 hm fun o es ep ho zz=>?_;clear hm;exact YG ho
 have hsl:=fun b o e=>YG (hk1 b o e)
 haveI hL1:Lf<h1.objs.size:=by refine g9 hm fun o es ep ho zz=>?_;clear hm;exact hsl _ _ ho
 haveI hoL:(h1.push _).get? h1.objs.size=some (seqObj "list" acc.toList.toArray 0):=Zu _ rfl
 have keep:∀ b o,s.heap.get? b=some o->(h1.push (seqObj "list" acc.toList.toArray 0)).get? b=some o:=fun b o q=>Zq _ (hk1 b o q)
 haveI hm1:=hm.keeps keep
 haveI fr:s.heap.get? h1.objs.size=none:=by
  refine bI (s.heap.get? h1.objs.size) (fun q=>?_) fun o q=>?_
  ·rfl
  ·exact absurd (hsl _ _ q) (XF _)
 refine Z8 (Zw (wpAny_call_entry_kw slot_list_sort (aY _ hoL rfl) entry_list_sort ?body (ksk_l1 _ _)))
 case body=>
  dsimp only[ksk_t1]
  refine ksk_sort (news:=lZ s.heap Lf Lf) (s:={s with heap:=h1.push (seqObj "list" acc.toList.toArray 0),toks:=tk1})
   (pb hm1) (fun p hp=>?_) hoL (Yw hL1) (ft _) (fun p hp=>?_) (YW (om [_,_,_] [(.v 0,.v 1),(.v 1,.v 2)] (.v 0,.v 2) rfl (eE hkz) (lC hsz)) (om [_,_,_] [(.v 0,.v 1),(.v 2,.v 0)] (.v 2,.v 1) rfl (lC hkz) (eE hsz))) (om [_,_] [(.s (.v 0),.n 64),(.v 1,.v 0)] (.s (.v 1),.n 64) rfl hK (eE hsz)) (fun i x k hx hk g tk own F N=>?_) fun h' tk out c F N ko=>?_
  ·refine gm (cK.mp hp) fun q1 zz q2=>?_
   exact c9 (keep _ _ q2) q1 (ft _)
  ·refine gm (cK.mp hp) fun q1 zz q2=>?_
   exact Zk (hsl _ _ q2)
  ·obtain⟨t',rfl⟩:∃ t',x = .int i t':=by
    rw[YS] at hx
    refine df (cW.2 i x hx) fun t' e=>?_
    exact⟨t',by refine(e).trans ?_;congr 1;omega⟩
   refine ZO (turn i t' k hk g tk F.ns fun b o hb e=>(N (b,o) (Zm _ (cK.mpr (c9 hb hb e)))).1) (fun y s2 hq=>?_) fun zz zz h=>h
   refine u9 hq fun h' tk' t2 qz0 qz1 q1 q2=>?_;clear hq;subst qz0;subst qz1
   exact KskEnd.intro (pb q1) (fun p hp=>(c9 (q2 _ _ (N p hp).2.1 (N p hp).1) ((N p hp).2.1) (ft _))) fun p hp=>hp
  ·refine iu ko fun ps hp ho hs=>?_;clear ko
   have hall:∀ i,∀ x,acc.toList[i]? = some x->∃ t,x=Value.int (Int.ofNat i) t:=fun i x hx=>by
    rw[YS] at hx
    refine df (cW.2 i x hx) fun t' e=>?_
    exact⟨t',by refine(e).trans ?_;congr 1;show(0:Int)+i*1=(i:Int);omega⟩
   haveI hnum:acc.toList.map numOf=(List.range K).map Int.ofNat:=by
    refine List.ext_getElem? fun i=>?_
    rw[ZH,ZH]
    by_cases q:i<K
    ·rw[XB q,Z7 (by omega)]
     refine df (hall i _ (Z7 (by omega))) fun t e=>?_
     refine e▸?_;rfl
    ·rw[Yq (by omega),Yq (by simp;exact XZ.mp ‹_›)];rfl
   haveI hmem:∀ x∈acc.toList,∃ n t,x=Value.int n t:=fun x hx=>by
    obtain⟨i,hi,e⟩:=Zt.mp hx
    obtain⟨t,e2⟩:=hall i x (e▸(Z7 hi))
    exact uS _ t e2
   refine h h1.objs.size h' tk out c (ps.map fun p=>(p.1,numOf p.2)) fr (fun b o hb e=>(N (b,o) (ZY _ (cK.mpr (c9 hb hb e)))).1) F.ns (N _ ZX).1 ?_ ?_ ?_ |> fun hq=>⟨_,rfl,ZW (aY _ rfl hq)⟩
   ·rw[ho,YD]
    haveI:(ps.map Prod.snd).map numOf=ps.map ((fun x:Int×Int=>x.2)∘fun p:Int×Value=>(p.1,numOf p.2)):=by refine(YD).trans ?_;rfl
    refine this▸?_
    refine q9 fun x hx=>?_
    refine aF (Za.mp hx) fun p hp2 qz4=>?_;clear hx;refine qz4▸?_
    exact hmem _ (List.of_mem_zip (hp.mem_iff.mp hp2)).2
   ·haveI:=hp.map (fun p:Int×Value=>(p.1,numOf p.2))
    refine hnum▸?_
    refine this.trans (List.Perm.of_eq ?_)
    exact List.zip_map_right▸rfl
   ·rw[List.pairwise_map]
    exact hs.imp fun h=>by simpa using h
end
noncomputable def fq(P:Nat->Pos):Arguments:={posonlyargs:=[],args:=[{arg:=Str.ofString "k",annotation:=none,pos:=P 0}],vararg:=none,kwonlyargs:=[],kw_defaults:=[],kwarg:=none,defaults:=[]}
noncomputable def nD(P:Nat->Pos):Expr:=.UnaryOp .USub (.Call (.Name (Str.ofString "len") (P 1)) [.Subscript (.Name (Str.ofString "members") (P 2)) (.Name (Str.ofString "k") (P 3)) (P 4)] [] (P 5)) (P 6)
noncomputable def cF:Scope:={kind:=.function,names:=[(Str.ofString "k",.local),(Str.ofString "members",.free),(Str.ofString "len",.globalImplicit)],isGenerator:=false,isCoroutine:=false,more:=[]}
section
variable {prog:Program}{w:World}{A:Around}{E:Value->Shared->Prop}{s:Shared}{P:Nat->Pos}{mg mb:Str->Option Value}
theorem zc{env:Env}{cm km ki:Addr}{oc:Obj}{items row:Array Value}{i:Nat}{t:Tok}{m:Str->Option Value}{Q:Value->Shared->Prop}(hs:env.scope=cF)(hg:s.heap.Ns env.globals mg)(hb:s.heap.Ns env.builtins mb)(hmg:mg "len" = none)(hmb:mb "len" = some (.builtin "len"))(hm:s.heap.Ns env.locals m)(hk:m "k" = some (.int i t))(hc:env.cells.lookup (Str.ofString "members")=some cm)(hcm:s.heap.get? cm=some oc)(hcd:oc.data = .cell (some (.ref km)))(hkm:s.heap.IsList km items)(hi:items[i]? = some (.ref ki))(hki:s.heap.IsList ki row)(hl:row.size<1000)(hi2:i<1000)(hQ:∀ t' tk,Q (.int (-(row.size:Int)) t') {s with toks:=tk}) :
  wpAny (model prog w) A (eval (nD P) env) Q E s:=by
 haveI kk:env.scope.kind = .function:=by rw[hs];rfl
 unfold nD
 dsimp only[arm_eval_UnaryOp]
 refine Z8 ?_
 dsimp only[arm_eval_Call_Name']
 refine Z8 (YT kk (by unfold Env.kindOf;rw[hs];rfl) (Yp hg hmg hb hmb ?_) (by decide))
 refine XX rfl (Calls.evalArgs_plain (Calls.spliced_cons ?_))
 rw[if_neg W8]
 rw[eval_Subscript]
 refine Z8 (wpAny_Name (loadCell kk (.inr (by unfold Env.kindOf;rw[hs];rfl)) (by decide) hc hcm hcd ?_) (by decide))
 refine Z8 (Zw (wpAny_Name (wpAny_loadName_local kk (by unfold Env.kindOf;rw[hs];rfl) hm hk ?_) (by decide)))
 refine Z8 (YR ?_)
 refine tail_any hkm.typeIs slot_list_getitem.lookup (wpAny_getItem_list hkm (by simp) (by omega) (by simpa using hi) ?_) (ml nofun)
 refine Calls.spliced_nil ?_
 refine PyProof.Rows.len_list hki (by omega) ?_
 refine Z8 (YR (Zw ?_))
 exact PyProof.Rows.neg_int (hQ _ _)
theorem zf{cl:List (Str×Addr)}{f c' cm km ki:Addr}{qual:Str}{pm ctv:Value}{oc:Obj}{items row:Array Value}{i:Nat}{t:Tok}(hf:s.heap.get? f=some (kla_obj "<lambda>" qual (fq P) (nD P) cF cl pm c' ctv))(hrec:s.heap.CodeRec (.ref c') qual)(hcl:cl.lookup (Str.ofString "members")=some cm)(hroom:A.depth<1000)(hlim:∀ h:Heap,(∀ b o,s.heap.get? b=some o->h.get? b=some o)->h.NoLimit)(hg:s.heap.Ns mainGlobals mg)(hb:s.heap.Ns builtinsNs mb)(hmg:mg "len" = none)(hmb:mb "len" = some (.builtin "len"))(hcm:s.heap.get? cm=some oc)(hcd:oc.data = .cell (some (.ref km)))(hkm:s.heap.IsList km items)(hi:items[i]? = some (.ref ki))(hki:s.heap.IsList ki row)(hl:row.size<1000)(hi2:i<1000) :
  wpAny (model prog w) A (call (.ref f) [.int i t]) (fun y s2=>∃ h' tk' t',y = .int (-(row.size:Int)) t'/\s2={s with heap:=h',toks:=tk'}/\∀ b o,s.heap.get? b=some o->h'.get? b=some o) (fun zz zz=>False) s:=by
 refine W7 (kla_callFunE hroom hf rfl rfl rfl rfl hrec ?_)
 rw[gf rfl rfl rfl rfl rfl rfl (by show[Str.ofString "k"].Nodup;decide)]
 refine ZW (wpAny_newFunctionEnv (by show ∀ x∈cF.names,x.2≠NameKind.cell;decide) (fun x hx=>?_) (fun h' hns hsb=>?_) rfl)
 ·dsimp only[show((kla_fn "<lambda>" qual (fq P) (nD P) cF cl pm (.ref c') ctv).params.args.map (·.arg)).zip [Value.int i t]=[(Str.ofString "k",Value.int i t)] from rfl] at hx
  exact(Zn.mp hx)▸rfl
 ·haveI keep:=fun b o e=>hsb.extBut b o (Zk (YG e)) (Zq _ e)
  refine⟨hlim _ keep,kla_codeExpr ?_⟩
  refine zc rfl
   (hg.keeps keep) (hb.keeps keep) hmg hmb hns rfl hcl (keep _ _ hcm) hcd (hkm.at fun o e=>keep _ _ e) hi (hki.at fun o e=>keep _ _ e) hl hi2 fun t' tk=>?_
  exact zd h' tk t' rfl rfl keep
end
section
variable {D:Wd}{Y:Gm}{ρ:List Addr}{J:aq}{Z:List V}{s:Shared}{P:Nat->Pos}
theorem St.GX{h':Heap}{tk k:Nat}{a:Addr}(S:St D Y ρ J Z s)(hk:ρ[k]? = some a)(ht:J.t.get k=some (.tab k))(hs:∀ b o,b≠a->s.heap.get? b=some o->h'.get? b=some o)(hx:∃ vs,h'.get? a=some {cls:=.none,data:=.fields vs}) :
  St D Y ρ ⟨J.n,J.t.set k .gA,J.fz⟩ Z {s with heap:=h',toks:=tk}:=by
 haveI nl:=(ZN.mp S.nd).1
 haveI nf:=(Zl.mp (ZN.mp S.nd).2).2.2
 exact {
  keep:=fun b o e=>hs b o (by rintro rfl;replace e:=(S.ap b (jB hk)).symm.trans e;contradiction) (S.keep b o e)
  dU:=fun p hp=>(S.dU p hp).at fun o e=>hs _ o (fun q=>nf p.1 (Y8 hp) a (ZK hk) q) e
  loc:=by
   refine aF S.loc fun m h1 h2=>?_
   exact aY m (h1.at fun o e=>hs _ o (fun q=>nl (q▸ZM _ (ZK hk))) e) h2
  obj:=fun j o e=>by
   rw[Tr.get_set] at e
   by_cases q:j=k
   ·subst q
    rw[if_pos rfl,ht] at e
    obtain rfl:=Z9 e
    refine df hx fun vs hx=>?_
    exact⟨a,_,hk,hx,vs,rfl⟩
   ·replace e:=(if_neg q).symm.trans e
    obtain⟨b,x,g1,g2,g3⟩:=S.obj j o e
    exact⟨b,x,g1,hs b x (fun r=>q (S.inj g1 (r▸hk))) g2,g3⟩
  num:=S.num
  full:=Tr.Full.set S.full _ _
  nd:=S.nd
  ap:=S.ap
  os:=S.os
  gen:=S.gen
  d4:=fun b o e=>by
   refine bU (S.d4 b o e) fun g1 qz1=>?_;obtain⟨j,es,g2,g3,g4⟩:=qz1
   have hj:j≠k:=fun q=>by rw[q,ht] at g3;have h__:=Z9 g3;cases h__
   refine⟨hs b o (fun r=>hj (S.inj g2 (r▸hk))) g1,j,es,g2,?_,g4⟩
   rw[Tr.get_set,if_neg hj];exact g3}
theorem St.EM{h':Heap}{tk:Nat}{m:Str->Option Value}(S:St D Y ρ J Z s)(hm:s.heap.Ns Y.env.locals m)(hm':h'.Ns Y.env.locals m)(hs:∀ b o,b≠Y.env.locals->s.heap.get? b=some o->h'.get? b=some o) :
  St D Y ρ J Z {s with heap:=h',toks:=tk}:=by
 haveI nl:=(ZN.mp S.nd).1
 refine S.heap (fun a o ha e=>hs a o ?_ e) (fun a m2 ha hn=>?_) rfl S.gen
 ·rintro rfl
  rcases ha with ha | ha
  ·exact nl (ZM _ ha)
  ·replace ha:=(S.ap _ ZX).symm.trans ha;contradiction
 ·rcases ha with rfl | ha
  ·haveI:m2=m:=hn.eq_nsMap.trans hm.eq_nsMap.symm
   exact this▸hm'
  ·exact hn.at fun o e=>hs a o (fun q=>nl (q▸Zm _ ha)) e
structure wB(J:aq)(Z:List V)(ic im it:Nat)(ks:List Nat)(ls:List (List V)):Prop where
 e0:V.at Z 0 = .aI ic
 c:J.t.get ic=some (.cell (.ref im))
 l:J.t.get im=some (.list (ks.map .ref))
 rows:∀ (i:Nat) k,ks[i]? = some k->∃ vs,ls[i]? = some vs/\J.t.get k=some (.list vs)/\vs.length<1000
 tab:J.t.get it=some (.tab it)
 len:ks.length=ls.length
 lt:ls.length<64
structure BZ(D:Wd)(Y:Gm):Prop where
 code:∃ c,Y.env.code = .ref c/\∀ h,D.K.In h->CodeHd h c D.tab
 bm:∃ bm o,D.mg (Str.ofString "__builtins__")=some (.ref bm)/\bm≠builtinsNs/\bm≠mainGlobals/\D.K.lookup bm=some o/\o.cls = .type "module"/\o.dict=some builtinsNs/\o.data = .plain
 len:D.mg (Str.ofString "len")=none/\D.mb (Str.ofString "len")=some (.builtin "len")
 Ei:D.mg (Str.ofString "sorted")=none/\D.mb (Str.ofString "sorted")=some (.builtin "sorted")
noncomputable def sQ(ls:List (List V)):List Int:=ls.map fun l=>-(l.length:Int)
structure t7(ls:List (List V))(qs:List (Int×Int)):Prop where
 perm:qs.Perm ((sQ ls).zip ((List.range ls.length).map Int.ofNat))
 Ei:qs.Pairwise fun p q=>p.1<=q.1
inductive Dy(D:Wd)(Y:Gm)(ρ:List Addr)(J:aq)(Z:List V)(it:Nat)(ls:List (List V))(v:Value)(s:Shared):Prop where
 |mk (ρ':List Addr) (qs:List (Int×Int)) (h1:t7 ls qs) (h2:VR D (ρ++ρ') (.ref (J.n+1)) v) (h3:St D Y (ρ++ρ') (((J.add (.bD 0 ls.length)).put it .gA).add (.list ((qs.map (·.2)).map .int))) Z s)
theorem zB{nL:Nat}(B:aV D Y)(hh:Y.A.handled=none)(hdep:Y.A.depth+10<=800)(L:BZ D Y)(hfree:∃ a,Y.env.cells.lookup (Str.ofString "members")=some a)(hnm:Y.nm[0]? = some (Str.ofString "members"))(hsk:Y.env.kindOf (Str.ofString "sorted")=some .globalImplicit){ic im it:Nat}{ks:List Nat}{ls:List (List V)}(I:wB J Z ic im it ks ls)(S:St D Y ρ J Z s){rc:Expr}{p2 kp p:Pos}(hrc:aw D Y (eval rc Y.env) (VR D) (aS nL .aW [aS nL .len [af 0]]))(hst:backTo p (starEach [rc] Y.env)=[(false,eval rc Y.env)]) :
  wpAny (model D.prog D.w) Y.A (eval (.Call (.Name (Str.ofString "sorted") p2) [rc] [⟨some (Str.ofString "key"),.Lambda (fq P) (nD P) cF (P 7),kp⟩] p) Y.env) (Dy D Y ρ J Z it ls) (fun zz zz=>False) s:=by
 have hJ:J.Ok:=S.full
 haveI g:=B.glob s.heap S.keep
 dsimp only[arm_eval_Call_Name']
 refine Z8 (YT B.kind hsk (Yp g.1 L.Ei.1 g.2 L.Ei.2 ?_) (by decide))
 refine callWith_builtin_kwB (by rw[hst];rfl) rfl ?_
 refine hst▸?_
 refine evalArgs_kwB rfl (Calls.spliced_cons ?_)
 haveI hlen:aS nL .len [af 0] J Z = .ok (.int (Int.ofNat ls.length)) J Z:=by
  haveI l0:af 0 J Z = .ok (.ref im) J Z:=by
   unfold af
   refine I.e0▸?_
   show az (J.t.get ic) _ J Z=_
   refine I.c▸?_;rfl
  haveI h3:cR [af 0] J Z = .ok [.ref im] J Z:=(ag l0).trans rfl
  refine(ag h3).trans ?_
  show(match (J.t.get im).bind dy |>.map (·.2.length) with
   |some n=>Rs.ok (V.int n) J Z
   |none=>Rs.bad)=_
  rw[I.l]
  show Rs.ok (V.int (((ks.map V.ref).length:Nat):Int)) J Z=_
  rw[Z0,I.len];rfl
 haveI hrng:aS nL .aW _ J Z = .ok (.ref J.n) (J.add (.bD 0 ls.length)) Z:=by
  haveI h3:cR [aS nL .len [af 0]] J Z = .ok _ J Z:=(ag hlen).trans rfl
  refine(ag h3).trans ?_
  show(if bO _=true then _ else _:M V) J Z=_
  rw[if_pos (dE (by haveI:=I.lt;exact Zj this (ZQ 64 4611686018427387840)))]
  rfl
 haveI hr:=hrc ρ J Z s S
 rw[hrng] at hr
 refine ZO hr (fun r s1 h=>?_) fun zz zz h=>h
 obtain⟨ρ1,⟨ar,har,rfl⟩,S1⟩:=h
 refine Calls.spliced_nil ?_
 refine kws_cons ?_
 refine kla_eval rfl ?_
 refine aF S1.loc fun m hm hl=>?_
 haveI hJ1:(J.add (.bD 0 ls.length)).Ok:=hJ.add _
 have old:∀ {k o},J.t.get k=some o->(J.add _).t.get k=some o:=fun e=>aq.aX (os:=[.bD 0 ls.length]) hJ e
 obtain⟨hP1,hP2⟩:=S1.dN (old I.tab) (by
  obtain⟨a,x,q1,q2,q3⟩:=S1.obj it _ (old I.tab)
  exact q3.1)
 haveI hPk:(ρ++ρ1)[it]? = some D.tab:=by
  obtain⟨a,x,q1,q2,q3⟩:=S1.obj it _ (old I.tab)
  exact q3.1
 refine gm hP2 fun q1 zz qz3=>?_;clear hP2;subst qz3
 have g1:=B.glob s1.heap S1.keep
 refine aF L.code fun c hc hcd=>?_
 refine JI L.bm fun bm ob b1 b2 b3 b4 b5 b6 b7=>?_
 have X1:=B.eQ s1.heap S1.keep
 refine aF (iT (scope:=cF) (by decide) (fun x hx=>by
  haveI:x=Str.ofString "members":=by
   simp[cF] at hx
   exact hx
  exact this▸hfree)) fun cl hc1 hc2=>?_
 have hgP:mainGlobals≠D.tab:=fun q=>by
  refine zQ g1.1 fun o es ep e hd zz=>?_
  rw[B.ge.1,q,q1] at e;obtain rfl:=Z9 e;exact PySem.Data.noConfusion hd
 refine kla_makeFunction hc1 B.ge.1 (B.ge.1▸g1.1) hc (hcd _ X1) q1 trivial rfl hgP ⟨bm,ob,b1,b2,b3,fun q=>?_,X1 _ _ b4,b5,b6,b7⟩ fun c' ctv h' tk hx hge hlt hrec htb=>?_
 ·haveI:=X1 _ _ b4
  rw[q,q1] at this;clear b4;clear b6;clear b7;obtain rfl:=Z9 this;exact PySem.Value.noConfusion b5
 refine evalAll_nil ?_
 have S2:=S1.GX (tk:=tk) (h':=h'.push (kla_obj "<lambda>" (Y.env.qual ++ "<lambda>") (fq P) (nD P) cF cl ((D.mg "__name__").getD .none) c' ctv)) hPk (old I.tab) (fun b o hb e=>Zq _ (hx b o hb e)) ⟨_,Zq _ htb⟩
 haveI hf:=Zu h' (o:=kla_obj "<lambda>" (Y.env.qual ++ "<lambda>") (fq P) (nD P) cF cl ((D.mg "__name__").getD .none) c' ctv) rfl
 generalize hh':h'.push _=h2 at S2 hf
 refine aF S2.loc fun m2 hm2 hl2=>?_
 haveI nl:=(ZN.mp S2.nd).1
 have hLs:Y.env.locals<s1.heap.objs.size:=by refine g9 hm fun o es ep ho zz=>?_;clear hm;exact YG ho
 haveI hne:∀ {k a},(ρ++ρ1)[k]? = some a->a≠Y.env.locals:=fun e q=>nl (q▸ZM _ (ZK e))
 have hnk:∀ {a o},Y.kp a=some o->a≠Y.env.locals:=fun e q=>by rw[q,S2.ap _ ZX] at e;contradiction
 have g2:∀ {k o},k≠it->(J.add _).t.get k=some o->Tr.get ((J.add (.bD 0 ls.length)).t.set it .gA) k=some o:=fun hk e=>aK e hk
 have hitn:=hJ.get I.tab
 refine iu (S2.dN (g2 (show J.n≠it by omega) (aq.ai (os:=[.bD 0 ls.length]) hJ (i:=0) rfl)) har) fun xr hxr hsm qz5=>?_;obtain⟨t1,t2,t3,rfl⟩:=qz5
 haveI hicn:ic≠it:=fun q=>by haveI:=I.c;rw[q,I.tab] at this;have h__:=Z9 this;cases h__
 haveI himn:im≠it:=fun q=>by haveI:=I.l;rw[q,I.tab] at this;have h__:=Z9 this;cases h__
 refine bU ((hl2.2 0 _ hnm).aI (by rw[I.e0];rfl)) fun zz qz0=>?_;obtain⟨aC,hC1,hC2⟩:=qz0
 refine aF (S2.dN (g2 hicn (old I.c)) hC2) fun xC hxC qz2=>?_;obtain⟨yC,rfl,hyC⟩:=qz2
 refine aF (hyC.there (by nofun)) fun zC qz4 qz5=>?_;clear hyC;subst qz4;obtain⟨aM,hM,rfl⟩:=qz5
 obtain⟨items,nI,hI1,hI2,_,hI3⟩:=S2.list (g2 himn (old I.l)) hM
 have hlI:=I.lt
 refine tA (kz:=sQ ls) hh hxr hlI (by unfold sQ;rw[Z0]) hm2 (fun i t k hk g tk2 hns hkeep=>?_) fun D' h3 tk3 out cc qs hfr hkeep hns hD hints hperm hsort=>?_
 ·have hi:i<ls.length:=by
   haveI:=(ZP.mp hk).1
   unfold sQ at this
   rwa [Z0] at this
  refine iu (I.rows i (ks[i]'(I.len▸hi)) (Z7 _)) fun vs v1 v2 v3=>?_
  haveI hkk:k = -(vs.length:Int):=by
   unfold sQ at hk
   rw[ZH,v1] at hk
   exact(Z9 hk).symm
  clear hk;subst hkk
  refine aF (hI2.get (i:=i) (v:=.ref (ks[i]'(by rw[I.len];exact hi))) (by exact(ZH)▸(Z7 (by rw[I.len];exact hi))▸rfl)) fun y hy qz1=>?_;obtain⟨aR,hR,rfl⟩:=qz1
  haveI hrn:ks[i]'(I.len▸hi)≠it:=fun q=>by rw[q,I.tab] at v2;have h__:=Z9 v2;cases h__
  obtain⟨row,nR,hR1,hR2,_,hR3⟩:=S2.list (g2 hrn (old v2)) hR
  haveI gg:=B.glob g fun a o e=>hkeep a o (hnk e) (S2.keep a o e)
  refine JQ hrec fun c2 oc vs2 tt e1 e2 e3 e4=>?_;clear hrec
  obtain rfl:=XC e1
  haveI hcc:=Yw (Zj hLs hge)
  haveI hff:=Yw (Nat.lt_trans (Zj hLs hge) hlt)
  haveI hl:=zf (prog:=D.prog) (w:=D.w) (A:=Y.A.in1.in1) (s:={s1 with heap:=g,toks:=tk2}) (t:=t) (i:=i)
   (hkeep _ _ hff hf) (HJ c' oc vs2 tt rfl (hkeep c' oc hcc (hh'▸Zq _ e2)) e3 e4) ((hc2 _ (by simp[cF])).trans hC1) (by show Y.A.depth<1000;exact om [_] [(.a (.v 0) (.n 10),.n 800)] (.s (.v 0),.n 1000) rfl hdep) (fun h hk=>B.lim h fun a o e=>hk a o (hkeep a o (hnk e) (S2.keep a o e))) (B.ge.1▸gg.1) (B.ge.2▸gg.2) L.len.1 L.len.2
   (hkeep _ _ (hne hC2) hxC) rfl (iF _ (hkeep _ _ (hne hM) hI1) rfl ⟨_,rfl⟩) ((YS)▸hy) (iF _ (hkeep _ _ (hne hR) hR1) rfl ⟨_,rfl⟩) (hR3▸v3) (om [_,_] [(.s (.v 0),.n 64),(.s (.v 1),.v 0)] (.s (.v 1),.n 1000) rfl hlI hi)
  refine ZO hl (fun y s3 hq=>?_) fun zz zz h=>h
  refine zQ hq fun h3 tk3 t3 qz3 qz4 hk3=>?_;clear hq;subst qz3;subst qz4
  exact vx h3 tk3 t3 (hR3▸rfl) rfl (hns.keeps hk3) (fun b o hb e=>hk3 b o e)
 ·haveI S3:=S2.EM (tk:=tk3) hm2 hns hkeep
  haveI fr:D'∉Y.own (ρ++ρ1):=fun hm=>by
   obtain⟨x,hx⟩:=S2.live hm
   replace hx:=(hfr).symm.trans hx;contradiction
  have fk:Y.kp D'=none:=by
   refine bI (Y.kp D') (fun h=>?_) fun o h=>?_
   ·rfl
   ·haveI:=S2.keep _ _ h;replace this:=(hfr).symm.trans this;contradiction
  have hlq:qs.length=ls.length:=by
   rw[hperm.length_eq,List.length_zip]
   simp[sQ]
  haveI S4:=S3.take (o:=.list _) hD fr fk ⟨out,cc,rfl,fi hints,by simp;omega⟩
  refine⟨ρ1++[D'],qs,⟨hperm,hsort⟩,?_,?_⟩
  ·rw[<-ZZ]
   refine aY D' ?_ rfl
   haveI:J.n+1=(ρ++ρ1).length:=S1.num
   rw[this];simp
  ·rw[<-ZZ];exact S4
end
noncomputable def Cj(o:O):Option Nat:=match o with
 |.tab k=>some k
 |_=>none
theorem xO{o:O}{k:Nat}:Cj o=some k->o = .tab k:=by
 cases o with
 |tab=>intro h;exact Z9 h▸rfl
 |_=>exact aQ
noncomputable def tabS{α:Type}(B:bH α):bH α where
 rd:=fun J vs=>(J.t.get 0).bind fun o=>(Cj o).bind fun k=>if k=0 then(B.rd J vs).map fun q=>(q.1,0::q.2) else none
 lay:=fun a n=>((B.lay a (n+1)).1,.tab n::(B.lay a (n+1)).2)
 ok:=fun {J vs a ks} h n R hR=>by
  refine aF (bind_some h) fun o h1 h=>aF (bind_some h) fun k h2 h=>?_
  by_cases q:k=0
  ·refine aF (ZU.mp ((if_pos q).symm.trans h)) fun p h3 h4=>?_
   have e:=(Y7 h4).2
   have L:=B.ok ((Y7 h4).1▸(show B.rd J vs=some (p.1,p.2) from h3)) (n+1) R (rS.tail (e▸hR))
   exact e▸jI L L.vals h1 nofun (xO h2▸q▸.tab ((e▸hR) 0 0 rfl))
  ·exact a9 ((if_neg q).symm.trans h)
theorem AW{α:Type}{B:bH α}{J:aq}{vs:List V}{a:α}{ks:List Nat}(h:J.t.get 0=some (.tab 0))(k:B.rd J vs=some (a,ks)):(tabS B).rd J vs=some (a,0::ks):=by
 show((J.t.get 0).bind _)=_
 rw[h]
 rw[k];rfl
section
variable {D:Wd}{Y:Gm}{ρ:List Addr}{s:Shared}{P:Nat->Pos}{α β:Type}
noncomputable def nj(J:aq)(it:Nat)(ls:List (List V))(qs:List (Int×Int)):aq:=((J.add (.bD 0 ls.length)).put it .gA).add (.list ((qs.map (·.2)).map .int))
set_option backward.match.sparseCases true in
theorem yt{nL:Nat}{tb:List Nat}{b:dG}{ps:List Nat}{A:bH α}{B:bH β}{a:α}{d:β}{m:List (M Fl)}(K:aV D Y)(hh:Y.A.handled=none)(hdep:Y.A.depth+10<=800)(L:BZ D Y)(hnm:Y.nm[0]? = some (Str.ofString "members"))(hnm1:Y.nm[1]? = some (Str.ofString "order"))(hsk:Y.env.kindOf (Str.ofString "sorted")=some .globalImplicit){ic im it:Nat}{ks:List Nat}{ls:List (List V)}(I:wB (dj b ps A a) (dT b ps A a) ic im it ks ls)(hZ:aE (V.at (dT b ps A a) 1)=none)(S:St D Y ρ (dj b ps A a) (dT b ps A a) s)(hn:ρ.length=(dj b ps A a).n){rc:Expr}{p0 p1 p2 kp p:Pos}{rest:List Stmt}(hrc:aw D Y (eval rc Y.env) (VR D) (aS nL .aW [aS nL .len [af 0]]))(hst:backTo p (starEach [rc] Y.env)=[(false,eval rc Y.env)])(hrest:aw D Y (execs rest Y.env) (bX D) (au m))(hM:∀ qs,t7 ls qs->∃ v1 J1 e1 ks1,au m (nj (dj b ps A a) it ls qs) (V.put (dT b ps A a) 1 (.ref ((dj b ps A a).n+1))) = .ok (.ret v1) J1 e1/\Fin tb A B a (dj b ps A a).n J1 v1 d ks1) :
  wpAny (model D.prog D.w) Y.A (execs (.Assign [.Name (Str.ofString "order") p1] (.Call (.Name (Str.ofString "sorted") p2) [rc] [⟨some (Str.ofString "key"),.Lambda (fq P) (nD P) cF (P 7),kp⟩] p) p0::rest) Y.env) (sJ tb D Y ρ A B a (dj b ps A a).n d) (fun zz zz=>False) s:=by
 refine Z8 ?_
 dsimp only[exec_Assign_arm]
 refine Z8 (YR ?_)
 refine(show swapsWithSole _ (.Call _ [rc] _ p) p0.line Y.env=pure false from jw rfl)▸?_
 refine Z8 (ZW ?_)
 rw[if_neg (by decide)]
 refine aF S.loc fun mm zz hl=>?_
 refine bU ((hl.2 0 _ hnm).aI (by rw[I.e0];rfl)) fun zz qz1=>?_;obtain⟨aC,hC1,_⟩:=qz1
 refine Z8 (ZO (zB K hh hdep L ⟨aC,hC1⟩ hnm hsk I S hrc hst) (fun v s1 h1=>?_) fun zz zz h=>h)
 refine(show swappedStores [Expr.Name _ p1] _ Y.env=pure none from oZ rfl)▸?_
 refine Z8 (ZW ?_)
 obtain⟨ρ1,qs,hq,hv,S1⟩:=h1
 haveI hA:bS D Y (fun y=>assignAll y ((assignEach [Expr.Name (Str.ofString "order") p1] Y.env).map (·.2))) (gU [aA 0 (.one 1)]):=by
  rw[ot rfl]
  exact bS.cons (bS.tg K (hd:=0) hh (.one hnm1)) bS.nil
 haveI hw:=hA _ _ _ _ _ hv s1 S1
 haveI hst1:gU [aA 0 (.one 1)] (.ref ((dj b ps A a).n+1)) (nj (dj b ps A a) it ls qs) (dT b ps A a) = .ok () (nj (dj b ps A a) it ls qs) (V.put (dT b ps A a) 1 (.ref ((dj b ps A a).n+1))):=by
  refine(ag (?_:aA 0 (.one 1) _ _ _ = .ok () _ _)).trans rfl
  show bt 1 _ _ _=_
  unfold bt
  exact hZ▸rfl
 rw[show gU _ _ (((dj b ps A a).add _).put it .gA |>.add _) _=_ from hst1] at hw
 refine Z8 (ZO hw (fun zz s2 h2=>?_) fun zz zz h=>h)
 obtain⟨ρ2,_,S2⟩:=h2
 refine ZW ?_
 refine Fj (hM qs hq) fun v1 J1 e1 ks1 hm F=>?_
 haveI hr:=hrest _ _ _ s2 S2
 rw[hm] at hr
 refine ZO hr (fun g s3 h3=>?_) fun zz zz h=>h
 obtain⟨ρ3,⟨y,rfl,hy⟩,S3⟩:=h3
 refine⟨ρ1++ρ2++ρ3,v1,J1,e1,ks1,y,rfl,?_,?_,F⟩
 ·simp only[<-ZZ];exact hy
 ·simp only[<-ZZ];exact S3
end
end Mine
end
noncomputable section
open PySem
namespace Mine.L1
section
variable {k:Nat}
theorem wV{J J1 J2:aq}{Z e2:List V}{t:Tg}{x:M V}{ifs:List (M Bool)}{g:Nat->M Unit}{b:dG}{v:V}{kd:Nat}{es:List (Int×V)}{P:Nat->aq->List V->Prop}{N:Nat}(hx:x J Z = .ok v J1 Z)(hi:nK J1 v=some (.pW kd es))(hN:N<2000)(hE:bq Z b (aq.add ⟨J1.n,J1.t,kd::J1.fz⟩ (.list []))=(J2,e2))(hs:∀ i,i<N->∀ J e,P i J e->LoopAt (.pW kd es) (fun v=>iB 0 t ifs (g J1.n) v) P i J e)(he:∀ J e,P N J e->eH J (.pW kd es) N=some none)(h0:P 0 J2 e2) :
  ∃ J3 e3,bz x t ifs g b J Z = .ok (.ref J1.n) ⟨J3.n,J3.t,J1.fz⟩ Z/\P N J3 e3:=by
 obtain⟨J3,Z3,h1,h2⟩:=mn hs he N 0 bc J2 e2 (YA _) hN h0
 refine nB J3 Z3 ?_ h2
 haveI hb:fm b (dQ (fun v=>iB 0 t ifs (g J1.n) v) (.pW kd es) bc 0) _ Z = .ok () J3 Z:=by
  dsimp only[fm]
  rw[hE]
  dsimp only
  exact h1▸rfl
 haveI hm:M.bind (M.new (.list [])) (fun acc=>M.bind (fm b (dQ (fun v=>iB 0 t ifs (g acc) v) (.pW kd es) bc 0)) fun zz=>M.ret (V.ref acc)) ⟨J1.n,J1.t,kd::J1.fz⟩ Z = .ok (.ref J1.n) J3 Z:=ag hb
 refine(ag hx).trans ?_
 delta wK dK
 refine hi▸?_
 dsimp only
 delta d4 d4.hold
 dsimp only
 rw[hm]
structure jd(J:aq)(cm cr ck im ko:Nat)(ks:List Nat)(rs:List (List Int))(ord:List Int)(kd:Nat)(es:List (Int×V))(kv:V):Prop where
 mem:Mem J im ks rs
 c0:J.t.get cm=some (.cell (.ref im))
 c2:J.t.get cr=some (.cell (.ref kd))
 c3:J.t.get ck=some (.cell kv)
 lo:J.t.get ko=some (.list (ns ord))
 ld:J.t.get kd=some (.dict es)
 n1:cm≠ck
 n2:cr≠ck
 tx:J.t.get 0=some .gA
section
variable {J:aq}{scr:List Int}{cm cr ck im ko kd:Nat}{ks:List Nat}{rs:List (List Int)}{ord:List Int}{es:List (Int×V)}{kv:V}
theorem aH.put{ls:List (List Int)}{as:List Nat}(h:aH J as ls){o x:O}(hx:J.t.get k=some x)(hn:∀ l,x≠.list l):aH (J.put k o) as ls:=by
 induction h with
 |nil=>exact .nil
 |cons h t ih=>exact .cons (aK h (fun q=>by rw[q,hx] at h;clear hx;obtain rfl:=Z9 h;exact hn _ rfl)) ih
theorem Mem.put(h:Mem J im ks rs){o x:O}(hx:J.t.get k=some x)(hn:∀ l,x≠.list l):Mem (J.put k o) im ks rs:=
 ⟨h.ok.put k o,aK h.lst (fun q=>by haveI:=h.lst;rw[q,hx] at this;clear hx;obtain rfl:=Z9 this;exact hn _ rfl),h.rws.put hx hn,h.len,h.row,h.zM⟩
theorem jd.grow(h:jd J cm cr ck im ko ks rs ord kd es kv)(os:List O):jd (J.adds os) cm cr ck im ko ks rs ord kd es kv:=by
 haveI E:=Ext.adds h.mem.ok os
 exact⟨h.mem.ext E,E.old _ _ h.c0,E.old _ _ h.c2,E.old _ _ h.c3,E.old _ _ h.lo,E.old _ _ h.ld,h.n1,h.n2,E.old _ _ h.tx⟩
theorem jd.fz(h:jd J cm cr ck im ko ks rs ord kd es kv)(l:List Nat):jd ⟨J.n,J.t,l⟩ cm cr ck im ko ks rs ord kd es kv:=
 ⟨⟨h.mem.ok,h.mem.lst,h.mem.rws.mono fun zz zz e=>e,h.mem.len,h.mem.row,h.mem.zM⟩,h.c0,h.c2,h.c3,h.lo,h.ld,h.n1,h.n2,h.tx⟩
theorem jd.G9(h:jd J cm cr ck im ko ks rs ord kd es kv)(v:V):jd (J.put ck (.cell v)) cm cr ck im ko ks rs ord kd es v:=
 ⟨h.mem.put h.c3 nofun,aK h.c0 h.n1,aK h.c2 h.n2,cQ h.c3,aK h.lo (fun q=>by have:=h.lo;rw[q,h.c3] at this;have h__:=Z9 this;cases h__),aK h.ld (fun q=>by have:=h.ld;rw[q,h.c3] at this;have h__:=Z9 this;cases h__),h.n1,h.n2,aK h.tx (fun q=>by have:=h.tx;rw[q,h.c3] at this;have h__:=Z9 this;cases h__)⟩
theorem jd.HI(h:jd J cm cr ck im ko ks rs ord kd es kv)(es':List (Int×V)):jd (J.put kd (.dict es')) cm cr ck im ko ks rs ord kd es' kv:=
 ⟨h.mem.put h.ld nofun,aK h.c0 (fun q=>by have:=h.c0;rw[q,h.ld] at this;have h__:=Z9 this;cases h__),aK h.c2 (fun q=>by have:=h.c2;rw[q,h.ld] at this;have h__:=Z9 this;cases h__),aK h.c3 (fun q=>by have:=h.c3;rw[q,h.ld] at this;have h__:=Z9 this;cases h__),
  aK h.lo (fun q=>by have:=h.lo;rw[q,h.ld] at this;have h__:=Z9 this;cases h__),cQ h.ld,h.n1,h.n2,aK h.tx (fun q=>by have:=h.tx;rw[q,h.ld] at this;have h__:=Z9 this;cases h__)⟩
theorem jd.other(h:jd J cm cr ck im ko ks rs ord kd es kv)(o:O)(hk:k≠cm/\k≠cr/\k≠ck/\k≠im/\k≠ko/\k≠kd/\k≠0/\k∉ks):jd (J.put k o) cm cr ck im ko ks rs ord kd es kv:=by
 refine GI hk fun k1 k2 k3 k4 k5 k6 k8 k7=>?_;clear hk
 refine⟨⟨h.mem.ok.put k o,aK h.mem.lst (Ne.symm k4),?_,h.mem.len,h.mem.row,h.mem.zM⟩,aK h.c0 (Ne.symm k1),aK h.c2 (Ne.symm k2),aK h.c3 (Ne.symm k3),aK h.lo (Ne.symm k5),aK h.ld (Ne.symm k6),h.n1,h.n2,aK h.tx (Ne.symm k8)⟩
 haveI:=h.mem.rws
 clear h
 induction this with
 |nil=>exact .nil
 |cons h t ih=>exact .cons (aK h (fun q=>k7 (q▸ZX))) (ih fun q=>k7 (ZY _ q))
theorem jd.below(h:jd J cm cr ck im ko ks rs ord kd es kv)(hk:J.n<=k):k≠cm/\k≠cr/\k≠ck/\k≠im/\k≠ko/\k≠kd/\k≠0/\k∉ks:=by
 haveI ok:=h.mem.ok
 have f:∀ {j o},J.t.get j=some o->k≠j:=fun e q=>by haveI:=ok.get e;exact Yn 0 (om [_,_,_] [(.v 0,.v 1),(.v 1,.v 2),(.s (.v 2),.v 0)] (.s (.n 0),.n 0) rfl hk (eE q) this)
 refine Iy (f h.c0) (f h.c2) (f h.c3) (f h.mem.lst) (f h.lo) (f h.ld) (f h.tx) (fun q=>?_)
 obtain⟨i,hi,e⟩:=Zt.mp q
 refine aF (h.mem.rws.at (e▸(Z7 hi))) fun l zz g=>?_
 exact f g rfl
theorem fU{f:Int->V}:∀ {l:List Int} {y:Int},y∈l->(l.map fun x=>(x,f x)).lookup y=some (f y)
 |[],_,h=>by contradiction
 |x::r,y,h=>by
  refine Zi▸?_;refine(Y4).trans ?_
  by_cases q:y=x
  ·clear h;refine q▸?_;simp
  ·exact(show(y==x)=false by simpa using q)▸(fU ((ZS.mp h).resolve_left q))
theorem lookup_none{f:Int->V}:∀ {l:List Int} {y:Int},y∉l->(l.map fun x=>(x,f x)).lookup y=none
 |[],_,_=>rfl
 |x::r,y,h=>by
  simp only[Zi,Y4,show(y==x)=false by simpa using fun q=>h (by exact q▸ZX)]
  exact lookup_none fun q=>h (ZY _ q)
noncomputable def yd(scr:List Int):M V:=bz (af 2) (.one 1) [pX (aG (bz (aD 0 scr (af 3) (af 2)) (.one 1) [aG (aO .NotIn (af 1) (aD 0 scr (af 3) (af 2)))] (cw (af 1)) [(".0",.loc),("number",.loc),("j",.cM 1),("members",.cM 3)]))] (cw (aD 0 scr (af 4) (af 1))) [(".0",.loc),("j",.own),("k",.cM 3),("members",.cM 0),("ranks",.cM 2)]
noncomputable def kN(cm ko cr ck:Nat)(a b:V):List V:=[.aI cm,.ref ko,.aI cr,.aI ck,a,b]
noncomputable def cJ(rs:List (List Int))(rk:Int->Int)(k:Nat)(ys:List Int):List Int:=(ys.filter fun y=>bG rs k y.toNat).map rk
theorem wC(n:Nat)(t:Tr)(f f':List Nat):∀ os:List O,(⟨(aq.adds ⟨n,t,f⟩ os).n,(aq.adds ⟨n,t,f⟩ os).t,f'⟩:aq)=aq.adds ⟨n,t,f'⟩ os:=fun os=>by
 induction os generalizing n t with
 |nil=>rfl
 |cons o r ih=>exact ih (n+1) (t.ins n o)
theorem AE{a b:V}(h:jd J cm cr ck im ko ks rs ord kd es (.int (Int.ofNat k)))(hk:k<rs.length){rk:Int->Int}{ys:List Int}(hes:es=ys.map fun x=>(x,.int (rk x)))(hys:∀ y∈ys,∃ j:Nat,y=Int.ofNat j/\j<rs.length)(hlen:ys.length<=7) :
  ∃ g,yd scr J (kN cm ko cr ck a b) = .ok (.ref J.n) (J.adds (.list (ns (cJ rs rk k ys))::g)) (kN cm ko cr ck a b):=by
 haveI hJ:=h.mem.ok
 refine xT (h.mem.item hk) fun kk lk k1 k2 k3 k4=>?_
 haveI hlk:=h.mem.row lk k4
 let τ:aq:=⟨J.n,J.t,kd::J.fz⟩
 have hτ:τ.Ok:=hJ
 have R:∀ os,jd (τ.adds os) cm cr ck im ko ks rs ord kd es _:=fun os=>(h.fz _).grow os
 obtain⟨J3,e3,h1,jv,g,rfl,_⟩:=wV (Z:=kN cm ko cr ck a b) (t:=.one 1) (x:=af 2)
  (b:=[(".0",.loc),("j",.own),("k",.cM 3),("members",.cM 0),("ranks",.cM 2)])
  (P:=fun j J' e=>∃ jv g,J'=τ.adds (.list (ns (cJ rs rk k (ys.take j)))::.cell jv::g)/\e=_) (J2:=τ.adds [.list [],.cell .ah]) (e2:=[.ah,.aI (J.n+1),.aI ck,.aI cm,.aI cr])
  (ba rfl h.c2 nofun) (cb h.ld) (ZG hlen (ZQ (Nat.succ 7) 1992)) rfl
  (fun j hj s e hp=>by
   refine qf hp fun jv g qz1 qz2=>?_;clear hp;subst qz1;subst qz2
   obtain⟨y,hy⟩:∃ y,y=ys[j]:=⟨_,rfl⟩
   have hmem:=hy▸Y0 _
   refine aF (hys y hmem) fun jj j1 j2=>?_
   refine xT (h.mem.item j2) fun kj lj q1 q2 q3 q4=>?_
   haveI hlj:=h.mem.row lj q4
   haveI ht:ys.take (j+1)=ys.take j++[y]:=(Yz hj)▸hy▸rfl
   have hn:eH (τ.adds (.list (ns (cJ rs rk k (ys.take j)))::.cell jv::g)) (.pW kd es) j=some (some (.int y)):=by
    show some (es[j]?.map fun p=>V.int p.1)=_
    rw[hes,ZH,Z7 hj,hy];rfl
   haveI hs:=gE hτ (os:=.list (ns (cJ rs rk k (ys.take j)))::.cell jv::g) (Z:=[.ah,.aI (J.n+1),.aI ck,.aI cm,.aI cr]) (i:=1) (v:=.int y) rfl rfl
   generalize hos:(O.list _::O.cell jv::g).set 1 (.cell (.int y))=os at hs
   haveI a0:os[0]? = some _:=by rw[<-hos];rfl
   haveI a1:os[1]? = some (.cell (.int y)):=by rw[<-hos];rfl
   haveI ax:∀ {r},(os++r)[1]? = some (.cell (.int y)):=fun {r}=>hos▸rfl
   haveI ay:∀ {r},(os++r)[0]? = some (.list (ns (cJ rs rk k (ys.take j)))):=fun {r}=>hos▸rfl
   haveI L3:∀ {r},af 3 (τ.adds (os++r)) _ = .ok (.ref im) (τ.adds (os++r)) [.ah,.aI (J.n+1),.aI ck,.aI cm,.aI cr]:=fun {r}=>ba rfl (R _).c0 nofun
   obtain⟨g3,c3⟩:=jr hτ (Z:=[.ah,.aI (J.n+1),.aI ck,.aI cm,.aI cr]) (x:=aD 0 scr (af 3) (af 2)) (y:=aD 0 scr (af 3) (af 2)) (b:=[(".0",.loc),("number",.loc),("j",.cM 1),("members",.cM 3)]) (e2:=fun zz w=>[.ah,w,.aI (J.n+1),.aI cm])
    ((R os).mem.idx (ba rfl (R os).c0 nofun) (ba rfl (R os).c3 nofun) k1) (aq.aX hτ k3) (ZG hlk (ZQ (Nat.succ 16) 983)) (fun zz=>rfl) (fun w s v hw=>bZ hw) (fun zz zz=>rfl) (fun u g n=>(nB kj [] (by
     rw[ZT]
     exact(R _).mem.idx (ba rfl (R _).c0 nofun) (ba rfl (j1▸(aq.ai hτ ax)) nofun) q1) (aq.aX hτ q3)))
   haveI htru:=mM (c:=!decide (iq lk lj=[])) c3 (by
    exact(ZV (fun x=>Option.bind x wF) (aq.ai hτ (o:=.list (ns (iq lk lj))) (by rw[ZF (ZE _),XW];rfl))).trans (by
     cases iq lk lj<;>rfl))
   have hnot:pX (aG (bz (aD 0 scr (af 3) (af 2)) (.one 1) [aG (aO .NotIn (af 1) (aD 0 scr (af 3) (af 2)))] (cw (af 1)) [(".0",.loc),("number",.loc),("j",.cM 1),("members",.cM 3)])) (τ.adds os) [.ah,.aI (J.n+1),.aI ck,.aI cm,.aI cr] = .ok (decide (iq lk lj=[])) (τ.adds (os++.list (ns (lk.filter fun n=>!cY n lj))::g3)) [.ah,.aI (J.n+1),.aI ck,.aI cm,.aI cr]:=by
    refine(ag htru).trans ?_
    rw[Bool.not_not]
   haveI gd:∀ {i:Nat} {l:List Int},rs[i]? = some l->rs.getD i []=l:=fun h=>by simp[List.getD,h]
   have hsub:bG rs k y.toNat=decide (iq lk lj=[]):=by
    skip
    exact j1▸(show(Int.ofNat jj).toNat=jj from rfl)▸(gd k2)▸(gd q2)▸rfl
   have hov:cJ rs rk k (ys.take (j+1))=cJ rs rk k (ys.take j)++([y].filter fun y=>bG rs k y.toNat).map rk:=by
    unfold cJ
    rw[ht,Ye,Zc]
   haveI hin:∀ {r:List O} {o:O},((os++r).set 0 o)=o::.cell (.int y)::(g++r):=fun {r o}=>by refine hos▸?_;rfl
   refine lQ (decide (iq lk lj=[])) (fun q=>?_) fun q=>?_
   ·rw[q] at hnot hsub
    refine⟨_,_,_,hn,(ag hs).trans ((ag (ie hnot)).trans rfl),.int y,g++.list (ns (lk.filter fun n=>!cY n lj))::g3,?_,rfl⟩
    rw[hov,YU,hsub]
    refine hos▸?_
    simp
   ·rw[q] at hnot hsub
    haveI hrd:aD 0 scr (af 4) (af 1) (τ.adds (os++.list (ns (lk.filter fun n=>!cY n lj))::g3)) _ = .ok (.int (rk y)) (τ.adds (os++.list (ns (lk.filter fun n=>!cY n lj))::g3)) [.ah,.aI (J.n+1),.aI ck,.aI cm,.aI cr]:=
     jJ (ba rfl (R _).c2 nofun) (ba rfl (aq.ai hτ ax) nofun) (R _).ld (hes▸(fU hmem))
    haveI hgf:=d8 (acc:=J.n) hrd (aq.ai hτ ay) (by
     haveI h1:(cJ rs rk k (ys.take j)).length<=(ys.take j).length:=by
      unfold cJ
      rw[Z0];exact Zb _ _
     rw[Ym] at h1
     rw[Z0];omega)
    refine⟨_,_,_,hn,(ag hs).trans ((ag (ie hnot)).trans hgf),.int y,g++.list (ns (lk.filter fun n=>!cY n lj))::g3,?_,rfl⟩
    refine(aq.bL hτ _ _ 0 (by refine hos▸?_;simp)).trans ?_
    refine hin▸hov▸YU▸hsub▸?_
    simp[ns])
  (fun s e zz=>by
   show some (es[ys.length]?.map fun p=>V.int p.1)=_
   rw[hes,ZH,Yq (ZE _)];rfl) (nB .ah [] rfl rfl)
 rw[Yu] at h1
 refine⟨.cell jv::g,h1.trans ?_⟩
 exact ZV (fun s=>Rs.ok _ s _) (wC J.n J.t _ J.fz _)
end
end
section
variable {Z:List V}{y:M V}{k:Nat}
section
variable {J:aq}{scr:List Int}{cm cr ck im ko kd:Nat}{ks:List Nat}{rs:List (List Int)}{ord:List Int}{es:List (Int×V)}{kv:V}{rk:Int->Int}
noncomputable def Gq(scr:List Int):M Fl:=au [aJ (yd scr) [aA 0 (.one 4)],aJ (aL .Add (aS scr.length .max [aL .Add (eList [iM (.ret (.int 1))]) (af 4)]) (.ret (.int 1))) [j4 (af 2) (af 3)]]
theorem zh{n:Nat}{x:Int}{l:List Int}{J':aq}(h:y J Z = .ok (.ref k) J' Z)(hk:J'.t.get k=some (.list (ns (x::l)))):aS n .max [y] J Z = .ok (.int (gv x l)) J' Z:=by
 refine(lJ (fY h)).trans ?_
 refine(ag (ob k hk)).trans ?_
 show az (intsOf (ns (x::l))) _ _ _=_
 rw[fG]
theorem BA{es:List (Int×V)}{x:M V}{i:Int}{v:V}{J:aq}(h1:x J Z = .ok (.ref k) J Z)(h2:y J Z = .ok (.int i) J Z)(hk:J.t.get k=some (.dict es))(hl:es.length<1000)(hn:es.lookup i=none)(hz:J.fz=[]):j4 x y v J Z = .ok () (J.put k (.dict (es++[(i,v)]))) Z:=by
 refine(ag h1).trans ((ag h2).trans ?_)
 refine(ag (ob k hk)).trans ?_
 show(if Nat.blt es.length 1000=true then M.zE k (.dict (putD i v es)) else M.bad) _ _=_
 rw[if_pos (ja hl)]
 show(match hG k J.fz with
  |true=>Rs.ok () (⟨J.n,J.t.set k (.dict (putD i v es)),J.fz⟩:aq) Z
  |false=>Rs.bad)=_
 refine hz▸(show hG k []=true from rfl)▸?_
 haveI hp:putD i v es=es++[(i,v)]:=by
  unfold putD
  exact hn▸rfl
 refine hp▸?_
 show Rs.ok () (⟨J.n,J.t.set k _,[]⟩:aq) Z=Rs.ok () (⟨J.n,J.t.set k _,J.fz⟩:aq) Z
 rw[hz]
theorem tm{J J1 J2:aq}{x:M V}{ka kb:Nat}{vs ws:List V}(h1:x J Z = .ok (.ref ka) J1 Z)(h2:y J1 Z = .ok (.ref kb) J2 Z)(ha:J2.t.get ka=some (.list vs))(hb:J2.t.get kb=some (.list ws))(hl:vs.length+ws.length<=10000) :
  aL .Add x y J Z = .ok (.ref J2.n) (J2.adds [.list (vs++ws)]) Z:=by
 refine(ag h1).trans ((ag h2).trans ?_)
 refine(ag (ob ka ha)).trans ?_
 refine(ag (ob kb hb)).trans ?_
 exact dm (os:=[]) (by simpa using hl)
theorem As{a b:V}(h:jd J cm cr ck im ko ks rs ord kd es (.int (Int.ofNat k)))(hz:J.fz=[])(hk:k<rs.length){ys:List Int}(hes:es=ys.map fun x=>(x,.int (rk x)))(hys:∀ y∈ys,∃ j:Nat,y=Int.ofNat j/\j<rs.length)(hlen:ys.length<=7)(ha:aE a=none)(hnew:Int.ofNat k∉ys)(hrk:gv (-1) (cJ rs rk k ys)+1=rk (Int.ofNat k)) :
  ∃ J2 v,Gq scr J (kN cm ko cr ck a b) = .ok .next J2 (kN cm ko cr ck v b)/\jd J2 cm cr ck im ko ks rs ord kd ((ys++[Int.ofNat k]).map fun x=>(x,.int (rk x))) (.int (Int.ofNat k))/\J2.fz=[]/\aE v=none/\J.n<=J2.n:=by
 refine df (AE (scr:=scr) (a:=a) (b:=b) h hk hes hys hlen) fun g hov=>?_
 haveI hJ:=h.mem.ok
 haveI s1:=fF (i:=4) hov ha
 have R1:=h.grow (.list (ns (cJ rs rk k ys))::g)
 haveI hz1:(J.adds (.list (ns (cJ rs rk k ys))::g)).fz=[]:=by rw[aq.dk,hz]
 haveI ho:=aq.ai hJ (os:=.list (ns (cJ rs rk k ys))::g) (i:=0) rfl
 haveI hn1:J.n<=(J.adds (.list (ns (cJ rs rk k ys))::g)).n:=by rw[aq.cf];exact Zp _ _
 generalize J.adds (.list (ns (cJ rs rk k ys))::g)=J1 at s1 R1 hz1 ho hn1
 haveI s1:aJ (yd scr) [aA 0 (.one 4)] J (kN cm ko cr ck a b) = .ok .next J1 (kN cm ko cr ck (.ref J.n) b):=s1
 haveI hlo:(cJ rs rk k ys).length<=7:=by
  unfold cJ
  rw[Z0]
  exact ZD (Zb _ _) hlen
 haveI e1:eList [iM (.ret (.int 1))] J1 (kN cm ko cr ck (.ref J.n) b) = .ok (.ref J1.n) (J1.adds [.list (ns [-1])]) (kN cm ko cr ck (.ref J.n) b):=rfl
 haveI e2:aL .Add (eList [iM (.ret (.int 1))]) (af 4) J1 (kN cm ko cr ck (.ref J.n) b) = .ok (.ref (J1.n+1)) (J1.adds [.list (ns [-1]),.list (ns (-1::cJ rs rk k ys))]) (kN cm ko cr ck (.ref J.n) b):=
  tm (y:=af 4) e1 rfl (aq.ai R1.mem.ok (i:=0) rfl) (aq.aX R1.mem.ok ho) (by simp;omega)
 haveI R2:=R1.grow [.list (ns [-1]),.list (ns (-1::cJ rs rk k ys))]
 haveI e3:=zh (n:=scr.length) e2 (aq.ai R1.mem.ok rfl)
 have hz2:(J1.adds [.list (ns [-1]),.list (ns (-1::cJ rs rk k ys))]).fz=[]:=by rw[aq.dk,hz1]
 haveI hn2:J.n<=(J1.adds [.list (ns [-1]),.list (ns (-1::cJ rs rk k ys))]).n:=by rw[aq.cf];exact ZD hn1 (Zp J1.n [O.list (ns [-1]),O.list (ns (-1::cJ rs rk k ys))].length)
 generalize J1.adds [.list (ns [-1]),.list (ns (-1::cJ rs rk k ys))]=J2 at e3 R2 hz2 hn2
 haveI e4:aL .Add (aS scr.length .max [aL .Add (eList [iM (.ret (.int 1))]) (af 4)]) (.ret (.int 1)) J1 (kN cm ko cr ck (.ref J.n) b) = .ok (.int (rk (Int.ofNat k))) J2 (kN cm ko cr ck (.ref J.n) b):=by
  exact hrk▸((ag e3).trans rfl)
 haveI e5:=BA (x:=af 2) (y:=af 3) (v:=.int (rk (Int.ofNat k))) (Z:=kN cm ko cr ck (.ref J.n) b) (ba rfl R2.c2 nofun) (ba rfl R2.c3 nofun) R2.ld (by rw[hes,Z0];exact ZG hlen (ZQ (Nat.succ 7) 992)) (by rw[hes];exact lookup_none hnew) hz2
 haveI e6:gU [j4 (af 2) (af 3)] (.int (rk (Int.ofNat k))) J2 (kN cm ko cr ck (.ref J.n) b) = .ok () (J2.put kd (.dict (es++[(Int.ofNat k,.int (rk (Int.ofNat k)))]))) (kN cm ko cr ck (.ref J.n) b):=(ag e5).trans rfl
 haveI R3:=R2.HI (es++[(Int.ofNat k,.int (rk (Int.ofNat k)))])
 refine CF _ (.ref J.n) ((aB s1).trans ((aB (fC e4 e6)).trans rfl)) ?_ hz2 rfl hn2
 exact Zc▸hes▸R3
end
end
section
variable {rs:List (List Int)}{ord:List Int}
noncomputable def iA:List Nat->Nat
 |[]=>0
 |x::r=>Nat.max x (iA r)
theorem fT{B:Nat}:∀ {l:List Nat},iA l<=B↔∀ v∈l,v<=B
 |[]=>⟨fun zz v h=>(by contradiction),fun zz=>XU _⟩
 |x::r=>by
  simp only[iA,show Nat.max x (iA r)<=B↔x<=B/\iA r<=B from Nat.max_le,fT,List.forall_mem_cons]
theorem mG{l l':List Nat}(h:∀ v,v∈l↔v∈l'):iA l=iA l':=
 YW (fT.mpr fun v hv=>fT.mp (ZE _) v ((h v).mp hv)) (fT.mpr fun v hv=>fT.mp (ZE _) v ((h v).mpr hv))
theorem ke:∀ (l:List Nat) (m:Nat),gv (Int.ofNat m-1) (l.map Int.ofNat)+1=Int.ofNat (Nat.max m (iA (l.map (· + 1))))
 |[],m=>by show Int.ofNat m-1+1=Int.ofNat (Nat.max m 0);simp
 |x::r,m=>by
  show gv _ (r.map Int.ofNat)+1=Int.ofNat (Nat.max m _)
  haveI e:(if Int.ofNat m-1<Int.ofNat x then Int.ofNat x else Int.ofNat m-1)=Int.ofNat (Nat.max m (x+1))-1:=by
   by_cases q:m<=x
   ·refine(if_pos (by show(m:Int)-1<(x:Int);omega)).trans ?_;rw[show Nat.max m (x+1)=x+1 from Nat.max_eq_right (YO ‹_›)]
    simp
   ·refine(if_neg (by show ¬(m:Int)-1<(x:Int);omega)).trans ?_;rw[show Nat.max m (x+1)=m from Nat.max_eq_left (Nat.not_le.mp ‹_›)]
  simp only[e,ke r]
  congr 1
  exact Nat.max_assoc _ _ _
noncomputable def fV(sub:Nat->Nat->Bool)(K:Nat):Nat->Nat->Nat
 |0,_=>0
 |n+1,i=>iA (((List.range K).filter fun j=>!Nat.beq j i&&sub i j).map fun j=>fV sub K n j+1)
noncomputable def pL(sub:Nat->Nat->Bool)(K:Nat):Bool:=(List.range K).all fun i=>Nat.beq (fV sub K (K+1) i) (fV sub K K i)
noncomputable def cn(rk:Nat->Nat)(K:Nat):List (List Int):=(List.range (iA ((List.range K).map fun k=>rk k+1))).map fun r=>((List.range K).filter fun k=>Nat.beq (rk k) r).map Int.ofNat
noncomputable def kq(rs:List (List Int))(x:Int):Int:=Int.ofNat (fV (bG rs) rs.length rs.length x.toNat)
structure lE(rs:List (List Int))(ord:List Int):Prop where
 perm:ord.Perm ((List.range rs.length).map Int.ofNat)
 ahead:∀ (i k j:Nat),ord[i]? = some (Int.ofNat k)->j<rs.length->k≠j->bG rs k j=true->Int.ofNat j∈ord.take i
theorem lE.mem(h:lE rs ord){y:Int}:y∈ord↔∃ j:Nat,y=Int.ofNat j/\j<rs.length:=by
 rw[h.perm.mem_iff,Za]
 exact⟨fun⟨j,h1,h2⟩=>⟨j,h2.symm,Y6.mp h1⟩,fun⟨j,h1,h2⟩=>(aY j (Y6.mpr h2) h1.symm)⟩
theorem lE.nodup(h:lE rs ord):ord.Nodup:=by
 refine(h.perm.nodup_iff).mpr ?_
 exact List.pairwise_map.mpr (List.nodup_range.imp fun h e=>h (WK e))
theorem lE.rank(h:lE rs ord)(hf:pL (bG rs) rs.length=true){i k:Nat}(hi:ord[i]? = some (Int.ofNat k))(hk:k<rs.length):gv (-1) (cJ rs (kq rs) k (ord.take i))+1=kq rs (Int.ofNat k):=by
 have h1:=Zz.mp hf k (Y6.mpr hk)
 haveI h1:=Zr h1
 unfold cJ
 haveI e:(((ord.take i).filter fun y=>bG rs k y.toNat).map (kq rs))=(((ord.take i).filter fun y=>bG rs k y.toNat).map fun y=>fV (bG rs) rs.length rs.length y.toNat).map Int.ofNat:=YD▸rfl
 refine e▸?_
 haveI:=ke (((ord.take i).filter fun y=>bG rs k y.toNat).map fun y=>fV (bG rs) rs.length rs.length y.toNat) 0
 replace this:=(show(Int.ofNat 0-1:Int) = -1 from rfl)▸this
 refine(this).trans ?_
 show _=Int.ofNat (fV (bG rs) rs.length rs.length k)
 refine h1▸?_
 congr 1
 rw[show ∀ n,Nat.max 0 n=n from Nat.zero_max]
 refine mG fun v=>?_
 rw[YD]
 constructor
 ·intro hv
  refine aF (Za.mp hv) fun y hy qz1=>?_;clear hv;refine qz1▸?_
  obtain⟨hy1,hy2⟩:=ZB.mp hy
  refine aF (h.mem.mp (List.mem_of_mem_take hy1)) fun j qz3 hj=>?_;clear hy;subst qz3
  refine Za.mpr (aY j (ZB.mpr ⟨Y6.mpr hj,?_⟩) rfl)
  haveI hne:j≠k:=fun q=>by
   clear e;clear this;subst q
   obtain⟨n,hn,e⟩:=Zt.mp hy1
   rw[List.getElem_take] at e
   replace hn:=Ym▸hn
   haveI:=(Z7 (by omega)).trans (ZV some e)
   haveI:=dF h.nodup this hi
   omega
  rw[Tr.beq_eq,Zo hne]
  exact hy2
 ·intro hv
  refine aF (Za.mp hv) fun j hj qz5=>?_;clear hv;rw[<-qz5]
  obtain⟨hj1,hj2⟩:=ZB.mp hj
  rw[ZJ,Tr.beq_eq] at hj2
  have hne:k≠j:=fun q=>by
   haveI:=hj2.1
   simp[q] at this
  exact Za.mpr (aY _ (ZB.mpr ⟨h.ahead i k j hi (Y6.mp hj1) hne hj2.2,hj2.2⟩) rfl)
section
variable {J:aq}{scr:List Int}{cm cr ck im ko kd:Nat}{ks:List Nat}{rs:List (List Int)}{ord:List Int}
theorem AV{kv:V}(h:jd J cm cr ck im ko ks rs ord kd [] kv)(hz:J.fz=[])(O:lE rs ord)(hf:pL (bG rs) rs.length=true) :
  ∃ J2 kv w,dB (.one 3) (af 1) (Gq scr) J (kN cm ko cr ck .ah .ah) = .ok .next J2 (kN cm ko cr ck w .ah)/\jd J2 cm cr ck im ko ks rs ord kd (ord.map fun x=>(x,.int (kq rs x))) kv/\J2.fz=[]/\aE w=none/\J.n<=J2.n:=by
 have hlen:ord.length=rs.length:=by refine(O.perm.length_eq).trans ?_;simp
 haveI h7:=h.mem.len
 obtain⟨J3,Z3,h1,kv',w,R,rfl,hw,hz3,hn⟩:=eV (t:=.one 3) (x:=af 1) (N:=ord.length) (b:=Gq scr)
  (P:=fun i J' Z'=>∃ kv w,jd J' cm cr ck im ko ks rs ord kd ((ord.take i).map fun x=>(x,.int (kq rs x))) kv/\Z'=kN cm ko cr ck w .ah/\aE w=none/\J'.fz=[]/\J.n<=J'.n)
  rfl (cb h.lo) rfl (om [_,_] [(.v 0,.v 1),(.v 1,.n 7)] (.s (.v 0),.n 2000) rfl (eE hlen) h7)
  (fun i hi s Z hp=>by
   refine D3 hp fun kv w R qz0 hw hz hn=>?_;clear hp;refine qz0▸?_
   refine aF (O.mem.mp (Y0 hi)) fun k hk1 hk2=>?_
   have hik:ord[i]? = some (Int.ofNat k):=by rw[Z7 hi,hk1]
   haveI hnth:eH s (.lst ko) i=some (some _):=by
    rw[cE R.lo,ZH,hik];rfl
   haveI hs:aA 0 (.one 3) (.int (Int.ofNat k)) s (kN cm ko cr ck w .ah) = .ok () _ _:=j3 (i:=3) (Z:=kN cm ko cr ck w .ah) rfl R.c3
   haveI R2:=R.G9 (.int (Int.ofNat k))
   refine D3 (As (scr:=scr) (b:=.ah) R2 hz hk2 rfl (fun y hy=>O.mem.mp (List.mem_of_mem_take hy)) (by rw[Ym];omega) hw (fun hin=>by
    obtain⟨n,hn,e⟩:=Zt.mp hin
    replace e:=(List.getElem_take).symm.trans e
    replace hn:=Ym▸hn
    haveI:=(Z7 (by omega)).trans (ZV some e)
    haveI:=dF O.nodup this hik
    omega) (O.rank hf hik hk2)) fun J2 v q1 q2 q3 q4 q5=>?_
   refine⟨_,_,_,_,_,hnth,hs,q1,.int (Int.ofNat k),v,?_,rfl,q4,q3,ZD hn q5⟩
   rw[Yz hi,hk1]
   exact q2)
  (fun s Z hp=>by
   refine qf hp fun kv w R zz=>?_;clear hp
   rw[cE R.lo,Yq (by simp)]) (CF kv .ah (by dsimp only[List.take_zero];exact h) rfl rfl hz (ZE _))
 replace R:=Yu▸R
 exact GH J3 kv' w h1 R hz3 hw hn
end
end
section
variable {J:aq}{scr:List Int}{cm cr ck im ko kd:Nat}{ks:List Nat}{rs:List (List Int)}{ord:List Int}{kv:V}
theorem Bp(h:jd J cm cr ck im ko ks rs ord kd (ord.map fun x=>(x,.int (kq rs x))) kv)(O:lE rs ord)(h0:0<rs.length){a b:V} :
  aS scr.length .max [bz (af 1) (.one 1) [] (cw (aD 0 scr (af 2) (af 1))) [(".0",.loc),("k",.loc),("ranks",.cM 2)]] J (kN cm ko cr ck a b) =
   .ok (.int (Int.ofNat (iA ((List.range rs.length).map fun k=>fV (bG rs) rs.length rs.length k+1))-1)) (J.adds [.list (ns (ord.map (kq rs)))]) (kN cm ko cr ck a b):=by
 have hJ:=h.mem.ok
 have hlen:ord.length=rs.length:=by refine(O.perm.length_eq).trans ?_;simp
 have h7:=h.mem.len
 obtain⟨J3,Z3,h1,rfl,e,w,rfl,_⟩:=d7 (Z:=kN cm ko cr ck a b) (t:=.one 1) (x:=af 1) (ifs:=[]) (b:=[(".0",.loc),("k",.loc),("ranks",.cM 2)])
  (P:=fun j J' e=>∃ w,J'=J.adds [.list (ns ((ord.take j).map (kq rs)))]/\e=[.ah,w,.aI cr]/\aE w=none) (N:=ord.length) (e2:=[.ah,.ah,.aI cr])
  rfl (cb h.lo) rfl (om [_,_] [(.v 0,.v 1),(.v 1,.n 7)] (.s (.v 0),.n 2000) rfl (eE hlen) h7) rfl
  (fun j hj s e hp=>by
   refine iu hp fun w qz1 qz2 hw=>?_;clear hp;subst qz1;subst qz2
   obtain⟨y,hy⟩:∃ y,y=ord[j]:=⟨_,rfl⟩
   haveI hm:=hy▸Y0 hj
   haveI R:=h.grow [.list (ns ((ord.take j).map (kq rs)))]
   haveI hn:eH (J.adds [.list (ns ((ord.take j).map (kq rs)))]) (.lst ko) j=some (some (.int y)):=by
    refine(cE R.lo)▸(ZH)▸(Z7 hj)▸hy▸?_;rfl
   haveI hx:aD 0 scr (af 2) (af 1) (J.adds [.list (ns ((ord.take j).map (kq rs)))]) [.ah,.int y,.aI cr] = .ok (.int (kq rs y)) (J.adds [.list (ns ((ord.take j).map (kq rs)))]) [.ah,.int y,.aI cr]:=jJ (ba rfl R.c2 nofun) rfl R.ld (fU hm)
   refine⟨_,J.adds [.list (ns ((ord.take (j+1)).map (kq rs)))],[.ah,.int y,.aI cr],hn,eS (bZ hw) rfl ((d8 hx (aq.ai hJ (i:=0) rfl) ?_).trans ?_),_,rfl,rfl,rfl⟩
   ·rw[Z0,Z0,Ym];omega
   ·refine ZV (fun s=>Rs.ok () s _) ((aq.bL hJ _ _ 0 (by simp)).trans ?_)
    refine(Yz hj)▸hy▸?_
    simp[ns])
  (fun s e hp=>by
   refine aF hp fun w qz5 zz=>?_;clear hp;subst qz5
   rw[cE (h.grow _).lo,Yq (by simp)]) (iF .ah rfl rfl rfl)
 rw[Yu] at h1
 have hne:ord.map (kq rs)≠[]:=fun q=>by
  haveI:=ZV List.length q
  rw[Z0,List.length_nil] at this
  exact Yn 0 (om [_,_] [(.s (.n 0),.v 0),(.v 0,.v 1),(.v 1,.n 0)] (.s (.n 0),.n 0) rfl h0 (lC hlen) (eE this))
 refine nz (XM hne) fun x l hxl=>?_
 haveI hat:(J.adds [.list (ns (ord.map (kq rs)))]).t.get J.n=some (.list (ns (x::l))):=hxl▸(aq.ai hJ (i:=0) rfl)
 refine(zh h1 hat).trans ?_
 congr 2
 haveI hx0:(-1:Int)<x:=by
  haveI:x∈ord.map (kq rs):=hxl▸ZX
  refine aF (Za.mp this) fun y zz qz0=>?_;clear hat;clear hxl;refine qz0▸?_
  exact Int.lt_of_lt_of_le (by decide) (Xa _)
 haveI e1:gv x l=gv (-1) (ord.map (kq rs)):=by
  rw[hxl]
  show _=gv (if -1<x then x else -1) l
  exact(if_pos hx0)▸rfl
 haveI e2:ord.map (kq rs)=(ord.map fun y=>fV (bG rs) rs.length rs.length y.toNat).map Int.ofNat:=YD▸rfl
 haveI e3:=ke (ord.map fun y=>fV (bG rs) rs.length rs.length y.toNat) 0
 rw[show(Int.ofNat 0-1:Int) = -1 from rfl,show ∀ n,Nat.max 0 n=n from Nat.zero_max,show((ord.map fun y=>fV (bG rs) rs.length rs.length y.toNat).map (· + 1))=ord.map ((fun x=>x+1)∘fun y=>fV (bG rs) rs.length rs.length y.toNat) from YD] at e3
 rw[e1,e2,show iA ((List.range rs.length).map fun k=>fV (bG rs) rs.length rs.length k+1)=iA (ord.map ((fun x=>x+1)∘fun y=>fV (bG rs) rs.length rs.length y.toNat)) from mG fun v=>?_]
 ·omega
 ·constructor
  ·intro hv
   refine aF (Za.mp hv) fun k hk qz2=>?_;clear hv;subst qz2
   exact Za.mpr (aY (Int.ofNat k) (O.mem.mpr ⟨k,rfl,Y6.mp hk⟩) rfl)
  ·intro hv
   refine aF (Za.mp hv) fun y hy qz4=>?_;clear hv;subst qz4
   refine aF (O.mem.mp hy) fun k qz6 hk=>?_;clear hy;rw[qz6]
   exact Za.mpr (aY k (Y6.mpr hk) rfl)
noncomputable def DY(scr:List Int):M V:=bz (aS scr.length .aW [aS scr.length .len [af 2]]) (.one 1) [aG (aO .Eq (aD 0 scr (af 3) (af 1)) (af 2))] (cw (af 1)) [(".0",.loc),("k",.loc),("rank",.cM 1),("ranks",.cM 3)]
noncomputable def nM(rk:Nat->Nat)(r i:Nat):List Int:=((List.range i).filter fun k=>Nat.beq (rk k) r).map Int.ofNat
theorem DP(h:jd J cm cr ck im ko ks rs ord kd (ord.map fun x=>(x,.int (kq rs x))) kv)(O:lE rs ord){c r:Nat}(hc:J.t.get c=some (.cell (.int (Int.ofNat r)))) :
  DY scr J [.ah,.aI c,.aI cm,.aI cr] = .ok (.ref (J.n+1)) (J.adds [.bD 0 (Int.ofNat rs.length),.list (ns (nM (fV (bG rs) rs.length rs.length) r rs.length))]) [.ah,.aI c,.aI cm,.aI cr]:=by
 have hJ:=h.mem.ok
 have h7:=h.mem.len
 haveI hl:aS scr.length .len [af 2] J [.ah,.aI c,.aI cm,.aI cr] = .ok (.int (Int.ofNat rs.length)) J [.ah,.aI c,.aI cm,.aI cr]:=by
  haveI:=sv (n:=scr.length) (y:=af 2) (Z:=[.ah,.aI c,.aI cm,.aI cr]) (ba rfl h.c0 nofun) h.mem.lst
  rw[Z0,h.mem.rws.len] at this
  exact this
 let S:=fun i=>J.adds [.bD 0 (Int.ofNat rs.length),.list (ns (nM (fV (bG rs) rs.length rs.length) r i))]
 obtain⟨J3,Z3,h1,rfl,e,w,rfl,_⟩:=d7 (t:=.one 1) (b:=[(".0",.loc),("k",.loc),("rank",.cM 1),("ranks",.cM 3)])
  (P:=fun i J' e=>∃ w,J'=S i/\e=[.ah,w,.aI c,.aI cr]/\aE w=none) (J2:=S 0) (e2:=[.ah,.ah,.aI c,.aI cr])
  (e8 hl (ZG h7 (ZQ (Nat.succ 7) 992))) (cb (aq.ai hJ (os:=[.bD 0 (Int.ofNat rs.length)]) (i:=0) rfl)) rfl (ZG h7 (ZQ (Nat.succ 7) 1992)) rfl
  (fun i hi s e hp=>by
   refine iu hp fun w qz1 qz2 hw=>?_;clear hp;subst qz1;subst qz2
   haveI R:jd (S i) cm cr ck im ko ks rs ord kd (ord.map fun x=>(x,.int (kq rs x))) kv:=h.grow _
   haveI hn:eH (S i) (.bD 0 (Int.ofNat rs.length)) i=some (some (.int (Int.ofNat i))):=by
    haveI:=dn (J:=S i) (by show(0:Int)+i<(rs.length:Int);omega)
    rw[Yb] at this;exact this
   haveI hx:aD 0 scr (af 3) (af 1) (S i) [.ah,.int (Int.ofNat i),.aI c,.aI cr] = .ok (.int (kq rs (Int.ofNat i))) (S i) [.ah,.int (Int.ofNat i),.aI c,.aI cr]:=jJ (ba rfl R.c2 nofun) rfl R.ld (fU (O.mem.mpr (aY i rfl hi)))
   haveI ht:=bQ (op:=.Eq) (y:=af 2) hx (ba rfl (aq.aX hJ hc) nofun) (c:=Nat.beq (fV (bG rs) rs.length rs.length i) r) (by
    show some (kq rs (Int.ofNat i)==Int.ofNat r)=_
    congr 1
    rw[Tr.beq_eq]
    refine decide_eq_decide.mpr ⟨fun h=>WK h,fun h=>ZV Int.ofNat h⟩)
   haveI hr:nM (fV (bG rs) rs.length rs.length) r (i+1)=nM (fV (bG rs) rs.length rs.length) r i++([i].filter fun k=>Nat.beq (fV (bG rs) rs.length rs.length k) r).map Int.ofNat:=by
    unfold nM
    rw[XY,Ye,Zc]
   refine⟨_,S (i+1),[.ah,.int (Int.ofNat i),.aI c,.aI cr],hn,eS (bZ hw) (ie ht) ?_,_,rfl,rfl,rfl⟩
   refine lQ (Nat.beq (fV (bG rs) rs.length rs.length i) r) (fun q=>?_) fun q=>?_
   ·show Rs.ok () (S i) _=Rs.ok () (J.adds [_,.list (ns (nM _ r (i+1)))]) _
    rw[hr,YU,q]
    simp[S]
   ·refine(d8 (x:=af 1) rfl (aq.ai hJ rfl) ?_).trans (ZV (fun s=>Rs.ok () s _) ((aq.bL hJ _ _ 1 (by simp)).trans ?_))
    ·haveI:(nM (fV (bG rs) rs.length rs.length) r i).length<=i:=by
      unfold nM
      rw[Z0]
      exact ZD (Zb _ _) (by simp)
     rw[Z0];exact om [_,_,_] [(.v 0,.n 7),(.s (.v 1),.v 0),(.v 2,.v 1)] (.s (.v 2),.n 10000) rfl h7 hi this
    ·show _=J.adds [_,.list (ns (nM _ r (i+1)))]
     rw[hr,YU,q]
     simp[ns])
  (fun s e zz=>bw (by show ¬(0:Int)+rs.length<(rs.length:Int);simp)) (iF .ah rfl rfl rfl)
 exact h1
end
theorem yM{sub:Nat->Nat->Bool}{K:Nat}:∀ n i,fV sub K n i<=n
 |0,_=>ZE _
 |n+1,i=>fT.mpr fun v hv=>by
  refine aF (Za.mp hv) fun j zz qz1=>?_;clear hv;refine qz1▸?_
  exact Nat.succ_le_succ (yM n j)
theorem aH.lt{J:aq}(hJ:J.Ok){as:List Nat}{ls:List (List Int)}(h:aH J as ls):∀ a∈as,a<J.n:=by
 induction h with
 |nil=>intro a h;cases h
 |cons h t ih=>
  intro a ha
  rcases ZS.mp ha with rfl | ha
  ·exact hJ.get h
  ·exact ih a ha
theorem aH.snoc{J:aq}{as:List Nat}{ls:List (List Int)}(h:aH J as ls){a:Nat}{l:List Int}(ha:J.t.get a=some (.list (ns l))):aH J (as++[a]) (ls++[l]):=by
 induction h with
 |nil=>exact .cons ha .nil
 |cons h t ih=>exact .cons h ih
section
variable {J:aq}{scr:List Int}{cm cr ck im ko kd:Nat}{ks:List Nat}{rs:List (List Int)}{ord:List Int}{kv:V}
inductive FO(J:aq)(scr:List Int)(cm cr ck im ko kd:Nat)(ks:List Nat)(rs:List (List Int))(ord:List Int)(kv:V)(Z:List V):Prop where
 |mk (J2:aq) (v:Nat) (as:List Nat) (h:bz (aS scr.length .aW [aL .Add (af 5) (.ret (.int 1))]) (.one 1) [] (cw (DY scr)) [(".0",.loc),("rank",.own),("members",.cM 0),("ranks",.cM 2)] J Z = .ok (.ref v) J2 Z)
  (R:jd J2 cm cr ck im ko ks rs ord kd (ord.map fun x=>(x,.int (kq rs x))) kv) (hv:J2.t.get v=some (.list (as.map .ref))) (hr:aH J2 as (cn (fV (bG rs) rs.length rs.length) rs.length)) (n1:∀ a∈as,J.n<=a) (n2:as.Nodup) (n3:J.n<=v) (n4:v∉as)
theorem Aw(h:jd J cm cr ck im ko ks rs ord kd (ord.map fun x=>(x,.int (kq rs x))) kv)(Hord:lE rs ord){a:V} :
  FO J scr cm cr ck im ko kd ks rs ord kv (kN cm ko cr ck a (.int (Int.ofNat (iA ((List.range rs.length).map fun k=>fV (bG rs) rs.length rs.length k+1))-1))):=by
 have hJ:=h.mem.ok
 haveI h7:=h.mem.len
 obtain⟨R,hR⟩:∃ R,R=iA ((List.range rs.length).map fun k=>fV (bG rs) rs.length rs.length k+1):=⟨_,rfl⟩
 have hR8:R<=8:=by
  rw[hR]
  refine fT.mpr fun v hv=>?_
  refine aF (Za.mp hv) fun j zz qz3=>?_;clear hv;subst qz3
  haveI:=yM (sub:=bG rs) (K:=rs.length) rs.length j
  exact om [_,_] [(.v 0,.n 7),(.v 1,.v 0)] (.s (.v 1),.n 8) rfl h7 this
 refine hR▸?_
 haveI hb:aL .Add (af 5) _ J _ = .ok _ J _:=by
  haveI:aL .Add (af 5) (.ret (.int 1)) J (kN cm ko cr ck a (.int (Int.ofNat R-1))) = .ok _ J _:=rfl
  rw[this,Int.sub_add_cancel]
 let f:=nM (fV (bG rs) rs.length rs.length)
 obtain⟨J3,Z3,h1,rfl,e,as,jv,g,rfl,_,hr,hn1,hn2⟩:=d7 (J1:=J.adds [.bD 0 _]) (b:=[(".0",.loc),("rank",.own),("members",.cM 0),("ranks",.cM 2)])
  (P:=fun j J' e=>∃ as jv g,J'=J.adds (.bD 0 _::.list (as.map .ref)::.cell jv::g)/\e=_/\aH J' as ((List.range j).map fun r=>f r rs.length)/\(∀ a∈as,J.n+2<=a)/\as.Nodup) (J2:=J.adds [.bD 0 _,.list [],.cell .ah]) (e2:=[.ah,.aI (J.n+2),.aI cm,.aI cr])
  (e8 hb (ZG hR8 (ZQ (Nat.succ 8) 991))) (cb (o:=.bD 0 _) (aq.ai hJ (i:=0) rfl)) rfl (ZG hR8 (ZQ (Nat.succ 8) 1991)) rfl
  (fun j hj s e hp=>by
   refine Hh hp fun as jv g qz5 qz6 hr hn1 hn2=>?_;clear hp;subst qz5;subst qz6
   haveI hn:eH _ _ j=some _:=by
    haveI:=dn (J:=J.adds (.bD 0 (Int.ofNat R)::.list (as.map .ref)::.cell jv::g)) (by show(0:Int)+j<(R:Int);omega)
    rw[Yb] at this;exact this
   haveI hs:=gE hJ (os:=.bD 0 (Int.ofNat R)::.list (as.map .ref)::.cell jv::g) (Z:=[.ah,.aI (J.n+2),.aI cm,.aI cr]) (i:=1) (v:=.int (Int.ofNat j)) rfl rfl
   haveI hs:aA 0 (.one 1) _ _ [.ah,.aI (J.n+2),.aI cm,.aI cr] = .ok () (J.adds (.bD 0 _::.list _::.cell _::g)) _:=hs
   haveI Rk:=h.grow (.bD 0 (Int.ofNat R)::.list (as.map .ref)::.cell (.int (Int.ofNat j))::g)
   haveI hrow:=DP (scr:=scr) Rk Hord (aq.ai hJ (i:=2) rfl)
   haveI hadd:(J.adds (.bD 0 (Int.ofNat R)::.list (as.map .ref)::.cell (.int (Int.ofNat j))::g)).n=J.n+(g.length+3):=by rw[aq.cf];simp
   rw[aq.eN,hadd] at hrow
   haveI hasl:as.length=j:=by refine(hr.len).trans ?_;simp
   haveI hgf:=d8 hrow (aq.ai hJ (i:=1) rfl) (by rw[Z0,hasl];exact om [_,_] [(.v 0,.n 8),(.s (.v 1),.v 0)] (.s (.v 1),.n 10000) rfl hR8 hj)
   obtain⟨L,hL⟩:∃ L:List O,L = .bD 0 (Int.ofNat R)::.list (as.map .ref++[.ref (J.n+(g.length+3)+1)])::.cell (.int (Int.ofNat j))::(g++[.bD 0 (Int.ofNat rs.length),.list (ns (f j rs.length))]):=⟨_,rfl⟩
   haveI hput:(J.adds ((.bD 0 (Int.ofNat R)::.list (as.map .ref)::.cell (.int (Int.ofNat j))::g)++[.bD 0 (Int.ofNat rs.length),.list (ns (f j rs.length))])).put (J.n+1) (.list (as.map .ref++[.ref (J.n+(g.length+3)+1)]))=J.adds L:=(aq.bL hJ _ _ 1 (by simp)).trans (by exact hL▸rfl)
   refine⟨_,_,_,hn,(ag hs).trans ((ag (x:=allM []) rfl).trans hgf),as++[J.n+(g.length+3)+1],.int (Int.ofNat j),g++[.bD 0 (Int.ofNat rs.length),.list (ns (f j rs.length))],?_,rfl,?_,?_,?_⟩
   ·refine hput.trans ?_
    exact hL▸Zc▸rfl
   ·rw[hput,XY,Zc]
    have hold:∀ a l,a∈as->(J.adds (.bD 0 (Int.ofNat R)::.list (as.map .ref)::.cell jv::g)).t.get a=some (.list (ns l))->(J.adds L).t.get a=some _:=fun a l ha e=>by
     haveI:=hn1 a ha
     rw[aq.fM hJ,if_neg (by omega)] at e ⊢
     obtain⟨d,hd⟩:∃ d,a-J.n=d+2:=⟨a-J.n-2,(YW (om [_,_] [(.v 0,.a (.v 1) (.n 2))] (.v 0,.a (.v 1) (.n 2)) rfl DW) (om [_,_] [(.a (.v 0) (.n 2),.v 1)] (.a (.v 0) (.n 2),.v 1) rfl (Gz (om [_,_,_] [(.a (.v 0) (.n 2),.v 1),(.v 1,.a (.v 2) (.v 0))] (.n 2,.v 2) rfl this DW))))⟩
     rw[hd] at e ⊢
     rw[hL]
     clear hd;cases d with
     |zero=>haveI h__:=Z9 e;cases h__
     |succ d=>
      haveI e:=e
      exact get_append e
    haveI hmono:∀ {bs:List Nat} {ls:List (List Int)},aH _ bs ls->(∀ b∈bs,b∈as)->aH (J.adds L) bs ls:=fun {bs ls} h=>by
     induction h with
     |nil=>intro _;exact .nil
     |cons h t ih=>intro hb;exact .cons (hold _ _ (hb _ ZX) h) (ih fun b q=>hb b (ZY _ q))
    refine(hmono hr fun b q=>q).snoc ?_
    rw[show J.n+_+1=J.n+(g.length+4) by rfl]
    refine aq.ai hJ ?_
    rw[hL]
    show(g++_)[g.length+1]? = _
    rw[ZF (Zp _ _),Yx];rfl
   ·intro b hb
    rcases Zy.mp hb with hb | hb
    ·exact hn1 b hb
    ·refine(Zn.mp hb)▸?_;exact om [_,_] [] (.a (.v 0) (.n 2),.s (.a (.v 0) (.a (.v 1) (.n 3)))) rfl
   ·refine Zl.mpr (c9 hn2 (by simp) (fun x hx y hy=>?_))
    rw[Zn.mp hy]
    haveI:=hr.lt (hJ.adds _) x hx
    rw[aq.cf] at this
    simp at this
    exact Zk (om [_,_,_] [(.s (.v 0),.a (.v 1) (.s (.s (.s (.v 2)))))] (.s (.v 0),.s (.a (.v 1) (.a (.v 2) (.n 3)))) rfl this))
  (fun s e zz=>bw (by show ¬(0:Int)+R<(R:Int);simp)) (GH [] .ah [] rfl rfl .nil (by simp) WR)
 refine⟨_,_,as,h1,h.grow _,aq.ai hJ (i:=1) rfl,?_,fun b hb=>by haveI:=hn1 b hb;exact om [_,_] [(.a (.v 0) (.n 2),.v 1)] (.v 0,.v 1) rfl this,hn2,by show J.n<=(J.adds [_]).n;rw[aq.cf];exact XH _,fun hb=>?_⟩
 ·skip
  exact hR▸hr
 ·haveI h2:=hn1 _ hb
  rw[aq.cf] at h2
  simp at h2
end
theorem jh:∀ (rs:List (List Int)) (m:Nat),(bH.many kA).lay rs m=((List.range rs.length).map fun i=>V.ref (m+i),rs.map fun l=>O.list (ns l))
 |[],_=>rfl
 |l::r,m=>by
  show((kA.lay l m).1++((bH.many kA).lay r (m+(kA.lay l m).2.length)).1,(kA.lay l m).2++((bH.many kA).lay r (m+(kA.lay l m).2.length)).2)=_
  simp only[tG,jh r,show(l::r).length=r.length+1 from rfl,WW,Zi,YD]
  show(V.ref m::(List.range r.length).map (fun i=>V.ref (m+1+i)),_::_)=(V.ref (m+0)::_,_)
  rw[show(List.range r.length).map (fun i=>V.ref (m+1+i))=(List.range r.length).map ((fun i=>V.ref (m+i))∘Nat.succ) from Yj fun i zz=>ZV V.ref (YW (om [_,_] [] (.a (.s (.v 0)) (.v 1),.a (.v 0) (.s (.v 1))) rfl) (om [_,_] [] (.a (.v 0) (.s (.v 1)),.a (.s (.v 0)) (.v 1)) rfl))]
  rfl
theorem gY(rs:List (List Int))(n:Nat):rows.lay rs n=([.ref n],.list ((List.range rs.length).map fun i=>.ref (n+1+i))::rs.map fun l=>.list (ns l)):=by
 show([V.ref n],O.list ((bH.many kA).lay rs (n+1)).1::((bH.many kA).lay rs (n+1)).2)=_
 rw[jh]
theorem qw{J:aq}{as:List Nat}{ls:List (List Int)}(h:aH J as ls):(bH.many kA).rd J (as.map .ref)=some (ls,as):=by
 induction h with
 |nil=>rfl
 | @cons k l ks ls h t ih=>
  show(kA.rd J [.ref k]).bind (fun p=>((bH.many kA).rd J (ks.map .ref)).map fun q=>(p.1::q.1,p.2++q.2))=_
  refine(yb h)▸ih▸?_;rfl
theorem pZ{J:aq}{k:Nat}{as:List Nat}{ls:List (List Int)}(hk:J.t.get k=some (.list (as.map .ref)))(h:aH J as ls):rows.rd J [.ref k]=some (ls,k::as):=by
 show((J.t.get k).bind fun o=>(dp o).bind _)=_
 rw[hk]
 show((bH.many kA).rd J (as.map .ref)).map _=_
 rw[qw h];rfl
theorem ik{os:List O}{i:Nat}{o:O}(h:os[i]? = some o):(aq.nil.adds os).t.get i=some o:=by
 haveI:=aq.ai aq.iZ h
 rwa [show aq.nil.n+i=i from YA i] at this
noncomputable def nO(scr:List Int):List (M Fl):=[aJ (kJ) [aA 0 (.one 2)],dB (.one 3) (af 1) (Gq scr),aJ (aS scr.length .max [bz (af 1) (.one 1) [] (cw (aD 0 scr (af 2) (af 1))) [(".0",.loc),("k",.loc),("ranks",.cM 2)]]) [aA 0 (.one 5)],
 b9 (bz (aS scr.length .aW [aL .Add (af 5) (.ret (.int 1))]) (.one 1) [] (cw (DY scr)) [(".0",.loc),("rank",.own),("members",.cM 0),("ranks",.cM 2)])]
example (F:eP) (scr:List Int):ec.body F scr=aJ (yV (aS scr.length .aW [aS scr.length .len [af 0]]) [("k",.loc),("members",.cM 0)] 0 (iM (aS scr.length .len [aD 0 scr (af 1) (af 0)]))) [aA 0 (.one 1)]::nO scr:=rfl
section
variable {J:aq}{scr:List Int}{cm cr ck im ko:Nat}{ks:List Nat}{rs:List (List Int)}{ord:List Int}{v2 v3:V}
inductive FW(J:aq)(scr:List Int)(cm cr ck im ko:Nat)(ks:List Nat)(rs:List (List Int)):Prop where
 |mk (J2:aq) (e2:List V) (v:Nat) (as:List Nat) (h:au (nO scr) J [.aI cm,.ref ko,.aI cr,.aI ck,.ah,.ah] = .ok (.ret (.ref v)) J2 e2)
  (M:Mem J2 im ks rs) (hv:J2.t.get v=some (.list (as.map .ref))) (hr:aH J2 as (cn (fV (bG rs) rs.length rs.length) rs.length)) (n1:∀ a∈v::as,J.n<=a) (n2:(v::as).Nodup) (tx:J2.t.get 0=some .gA)
theorem BJ(Mm:Mem J im ks rs)(hz:J.fz=[])(c0:J.t.get cm=some (.cell (.ref im)))(c2:J.t.get cr=some (.cell v2))(c3:J.t.get ck=some (.cell v3))(lo:J.t.get ko=some (.list (ns ord)))(n0:cm≠cr)(n1:cm≠ck)(n2:cr≠ck)(Hord:lE rs ord)(hf:pL (bG rs) rs.length=true)(h0:0<rs.length)(htx:J.t.get 0=some .gA):FW J scr cm cr ck im ko ks rs:=by
 have hJ:=Mm.ok
 haveI E:=Ext.adds hJ [.dict []]
 haveI hs1:aJ (kJ) [aA 0 (.one 2)] J [.aI cm,.ref ko,.aI cr,.aI ck,.ah,.ah] = .ok .next ((J.adds [.dict []]).put cr (.cell (.ref J.n))) [.aI cm,.ref ko,.aI cr,.aI ck,.ah,.ah]:=by
  haveI e1:kJ J [.aI cm,.ref ko,.aI cr,.aI ck,.ah,.ah] = .ok (.ref J.n) (J.adds [.dict []]) [.aI cm,.ref ko,.aI cr,.aI ck,.ah,.ah]:=rfl
  haveI e2:bt 2 (.ref J.n) (J.adds [.dict []]) [.aI cm,.ref ko,.aI cr,.aI ck,.ah,.ah] = .ok () ((J.adds [.dict []]).put cr (.cell (.ref J.n))) [.aI cm,.ref ko,.aI cr,.aI ck,.ah,.ah]:=j3 rfl (E.old _ _ c2)
  haveI e3:gU [aA 0 (.one 2)] (.ref J.n) (J.adds [.dict []]) [.aI cm,.ref ko,.aI cr,.aI ck,.ah,.ah] = .ok () ((J.adds [.dict []]).put cr (.cell (.ref J.n))) [.aI cm,.ref ko,.aI cr,.aI ck,.ah,.ah]:=(ag e2).trans rfl
  exact fC e1 e3
 haveI c2':=E.old _ _ c2
 haveI R0:jd ((J.adds [.dict []]).put cr (.cell (.ref J.n))) cm cr ck im ko ks rs ord J.n [] v3:=
  ⟨(Mm.ext E).put c2' nofun,aK (E.old _ _ c0) n0,cQ c2',aK (E.old _ _ c3) (Ne.symm n2),aK (E.old _ _ lo) (fun q=>by rw[q,c2] at lo;have h__:=Z9 lo;cases h__),aK (aq.ai hJ (i:=0) rfl) (fun q=>by haveI:=hJ.get c2;exact Zk this (id (Eq.symm q))),n1,n2,aK (E.old _ _ htx) (fun q=>by rw[q,c2] at htx;have h__:=Z9 htx;cases h__)⟩
 have hn0:((J.adds [.dict []]).put cr (.cell (.ref J.n))).n=J.n+1:=by show(J.adds _).n=_;rw[aq.cf];rfl
 haveI hz0:((J.adds [.dict []]).put cr (.cell (.ref J.n))).fz=[]:=by show(J.adds _).fz=_;rw[aq.dk];exact hz
 refine Hh (AV (scr:=scr) R0 hz0 Hord hf) fun J2 kv w s2 R2 hz2 hw hn2=>?_
 haveI s3:=Bp (scr:=scr) (a:=w) (b:=.ah) R2 Hord h0
 haveI s3':=fF (i:=5) s3 rfl
 haveI R3:=R2.grow [.list (ns (ord.map (kq rs)))]
 obtain⟨J4,v,as,h4,R4,hv,hr,m1,m2,m3,m4⟩:=Aw R3 Hord
 have hn3:J2.n<=(J2.adds [.list (ns (ord.map (kq rs)))]).n:=by rw[aq.cf];exact XH _
 refine⟨J4,_,v,as,(aB hs1).trans ((aB s2).trans ((aB s3').trans (dJ (ag h4:M.bind _ (fun a=>M.ret (Fl.ret a)) _ _=_)))),R4.mem,hv,hr,fun a ha=>?_,ZN.mpr ⟨m4,m2⟩,R4.tx⟩
 rcases ZS.mp ha with rfl | ha
 ·exact om [_,_,_,_,_] [(.s (.v 0),.v 1),(.v 1,.v 2),(.v 2,.v 3),(.v 3,.v 4)] (.v 0,.v 4) rfl (lC hn0) hn2 hn3 m3
 ·haveI:=m1 a ha;exact om [_,_,_,_,_] [(.s (.v 0),.v 1),(.v 1,.v 2),(.v 2,.v 3),(.v 3,.v 4)] (.v 0,.v 4) rfl (lC hn0) hn2 hn3 this
end
end Mine.L1
end
noncomputable section
open PySem PySem.W PyProof.Rows
namespace Mine.L1
abbrev rN:dG:=ec.names
structure Bj(rs:List (List Int)):Prop where
 len:rs.length<=7
 pos:0<rs.length
 row:∀ l∈rs,l.length<=16
 zM:∀ l∈rs,∀ l'∈rs,bT 2000 l l'=(iq l l',iq l' l)
 fix:pL (bG rs) rs.length=true
 Fv:∀ (k j:Nat),k<rs.length->j<rs.length->k≠j->bG rs k j=true->(rs.getD k []).length<(rs.getD j []).length
open Classical in
noncomputable def zu(rs:List (List Int)):Option (List (List Int)):=if Bj rs then some (cn (fV (bG rs) rs.length rs.length) rs.length) else none
noncomputable def Gr:Fn:={ec with body:=fun zz zz=>[j9 [0] rN [0] (tabS rows) rows zu]}
noncomputable def mV(rs:List (List Int)):List O:=.tab 0::.list ((List.range rs.length).map fun i=>.ref (2+i))::((rs.map fun l=>.list (ns l))++[.cell (.ref 1),.cell .ah,.cell .ah])
noncomputable def EV(rs:List (List Int)):List V:=[.aI (rs.length+2),.ah,.aI (rs.length+3),.aI (rs.length+4),.ah,.ah]
theorem pK(rs:List (List Int)):(tabS rows).lay rs 0=([.ref 1],.tab 0::.list ((List.range rs.length).map fun i=>.ref (2+i))::rs.map fun l=>.list (ns l)):=by
 show((rows.lay rs 1).1,O.tab 0::(rows.lay rs 1).2)=_
 rw[gY]
theorem wD(rs:List (List Int)):dj rN [0] (tabS rows) rs=aq.nil.adds (mV rs):=by
 delta dj By sq
 rw[pK]
 rfl
theorem rY(rs:List (List Int)):dT rN [0] (tabS rows) rs=EV rs:=by
 delta dT sq
 rw[pK]
 rw[YK,YK,Z0]
 rfl
section
variable {rs:List (List Int)}
theorem vm:(mV rs).length=rs.length+5:=by simp[mV]
theorem n5{i:Nat}{l:List Int}(h:rs[i]? = some l):(mV rs)[2+i]? = some (.list (ns l)):=by
 rw[Yd]
 show((rs.map fun l=>O.list (ns l))++_)[i]? = _
 rw[Yt (by rw[Z0];exact(ZP.mp h).1),ZH,h];rfl
theorem ia(j:Nat)(hj:j<3):(mV rs)[rs.length+2+j]? = [O.cell (.ref 1),.cell .ah,.cell .ah][j]?:=by
 rw[show rs.length+2+j=(rs.length+j)+2 by omega]
 show((rs.map fun l=>O.list (ns l))++_)[rs.length+j]? = _
 rw[ZF (by rw[Z0];exact Zp _ _),Z0,Yx]
theorem il{J:aq}:∀ (ls:List (List Int)) (m:Nat),(∀ (i:Nat) l,ls[i]? = some l->J.t.get (m+i)=some (.list (ns l)))->aH J ((List.range ls.length).map fun i=>m+i) ls
 |[],_,_=>.nil
 |l::r,m,h=>by
  simp only[YK,WW,Zi,YD]
  refine .cons (h 0 l rfl) ?_
  haveI:=il r (m+1) fun i l e=>by rw[show m+1+i=m+(i+1) by omega];exact h (i+1) l (e)
  rw[show(List.range r.length).map ((fun i=>m+i)∘Nat.succ)=(List.range r.length).map fun i=>m+1+i from Yj fun i zz=>show m+(i+1)=m+1+i by omega]
  exact this
theorem zX(C:Bj rs){qs:List (Int×Int)}(h:t7 (rs.map ns) qs):lE rs (qs.map (·.2)):=by
 obtain⟨hp,hs⟩:=h
 have hk:sQ (rs.map ns)=rs.map fun l=>-(l.length:Int):=by
  skip
  refine(YD).trans ?_
  refine Yj fun l zz=>?_
  show -((ns l).length:Int)=_
  rw[Z0]
 rw[hk,Z0] at hp
 have hmem:∀ {p:Int×Int},p∈qs->∃ k:Nat,k<rs.length/\p=(-((rs.getD k []).length:Int),Int.ofNat k):=fun {p} hpm=>by
  haveI:=hp.mem_iff.mp hpm
  obtain⟨i,hi,e⟩:=Zt.mp this
  rw[List.length_zip,Z0,Z0,Xq,Nat.min_self] at hi
  refine aY i hi ?_
  rw[<-e,List.getElem_zip,WM,WM,List.getElem_range]
  simp[List.getD,Z7 hi]
 have perm:(qs.map (·.2)).Perm ((List.range rs.length).map Int.ofNat):=by
  haveI:=hp.map (fun p:Int×Int=>p.2)
  rw[show(List.map (fun p:Int×Int=>p.2) ((rs.map fun l=>-(l.length:Int)).zip _))=(List.range rs.length).map Int.ofNat from List.map_snd_zip (by simp)] at this
  exact this
 refine⟨perm,fun i k j hi hj hne hsub=>?_⟩
 haveI hjm:=perm.mem_iff.mpr (Za.mpr (aY j (Y6.mpr hj) rfl))
 obtain⟨n,hn,e⟩:=Zt.mp hjm
 have hil:=(ZP.mp hi).1
 rw[Z0] at hn hil
 haveI e1:(qs[n]).2=Int.ofNat j:=by rw[WM] at e;exact e
 have e2:(qs[i]).2=Int.ofNat k:=by
  haveI:=(ZP.mp hi).2
  rw[WM] at this;exact this
 refine aF (hmem (Y0 hn)) fun j' j1 j2=>?_
 refine aF (hmem (Y0 hil)) fun k' k1 k2=>?_
 haveI ej:j'=j:=by rw[j2] at e1;exact WK e1
 haveI ek:k'=k:=by rw[k2] at e2;exact WK e2
 clear e1;clear hjm;subst ej ek
 haveI hl:=C.Fv k' j' k1 hj hne hsub
 have hni:n<i:=by
  rcases Nat.lt_trichotomy n i with q | q | q
  ·exact q
  ·clear e2;clear hi;subst q
   rw[j2] at k2
   exact absurd (WK (ZV Prod.snd k2)).symm hne
  ·haveI:=List.pairwise_iff_getElem.mp hs i n hil hn q
   rw[j2,k2] at this
   dsimp only at this
   omega
 exact List.mem_take_iff_getElem.mpr ⟨n,by rw[Z0];omega,e⟩
theorem Fc(C:Bj rs){scr:List Int}{qs:List (Int×Int)}(h:t7 (rs.map ns) qs) :
  ∃ v1 J1 e1 ks1,au (nO scr) (nj (dj rN [0] (tabS rows) rs) 0 (rs.map ns) qs) (V.put (dT rN [0] (tabS rows) rs) 1 (.ref ((dj rN [0] (tabS rows) rs).n+1))) = .ok (.ret v1) J1 e1/\
   Fin [0] (tabS rows) rows rs (dj rN [0] (tabS rows) rs).n J1 v1 (cn (fV (bG rs) rs.length rs.length) rs.length) ks1:=by
 rw[wD,rY]
 haveI hO:=zX C h
 let J0:=aq.nil.adds (mV rs)
 haveI h0:J0.Ok:=aq.iZ.adds _
 haveI hn:J0.n=rs.length+5:=by
  rw[aq.cf,vm];exact YA _
 haveI hq:nj J0 0 (rs.map ns) qs=((J0.add _).put 0 .gA).add _:=rfl
 have hsub:∀ {k:Nat} {o:O},k≠0->(mV rs)[k]? = some o->(nj J0 0 (rs.map ns) qs).t.get k=some o:=fun hk e=>by
  rw[hq]
  exact aq.aX (os:=[_]) ((h0.add _).put _ _) (aK (aq.aX (os:=[_]) h0 (ik e)) hk)
 have hok:(nj J0 0 (rs.map ns) qs).Ok:=((h0.add _).put _ _).add _
 have hrws:=il rs 2 fun i l e=>hsub (by simp) (n5 e)
 have M0:Mem _ 1 ((List.range rs.length).map fun i=>2+i) rs:=⟨hok,by
  rw[YD]
  exact hsub (by decide) rfl,hrws,C.len,C.row,C.zM⟩
 have hko:(nj J0 0 (rs.map ns) qs).t.get (J0.n+1)=some (.list (ns (qs.map (·.2)))):=by
  rw[hq]
  exact aq.ai ((h0.add _).put _ _) (os:=[.list _]) (i:=0) rfl
 haveI hfz:(nj J0 0 (rs.map ns) qs).fz=[]:=by
  show(aq.nil.adds _).fz=_
  rw[aq.dk];rfl
 haveI htx:(nj J0 0 (rs.map ns) qs).t.get 0=some .gA:=by
  rw[hq]
  exact aq.aX (os:=[_]) ((h0.add _).put _ _) (cQ (aq.aX (os:=[_]) h0 (ik rfl)))
 haveI hqn:(nj J0 0 (rs.map ns) qs).n=J0.n+2:=rfl
 obtain⟨J2,e2,v,as,r1,r2,r3,r4,r5,r6,r7⟩:=BJ (cm:=rs.length+2) (cr:=rs.length+3) (ck:=rs.length+4) M0 hfz (hsub (Nat.succ_ne_zero _) (ia 0 (by decide))) (hsub (Nat.succ_ne_zero _) (ia 1 (by decide))) (hsub (Nat.succ_ne_zero _) (ia 2 (by decide))) hko (by simp) (by simp) (by simp) hO C.fix C.pos htx
 refine Gy (.ref v) J2 e2 (v::as) r1 ⟨pZ r3 r4,fun a ha=>?_,r6,fun i hi=>by rw[Zn.mp hi];exact r7,fun i o hi e=>?_⟩
 ·haveI:=r5 a ha
  rw[hqn] at this
  exact YE (YE this)
 ·rw[pK] at e
  match i,e with
  |0,_=>exact absurd ZX hi
  |1,e=>
   injection e with h__;clear e;refine h__▸?_
   haveI:=r2.lst
   rwa [YD] at this
  |i+2,e=>
   haveI e:=e
   replace e:=(ZH).symm.trans e
   refine bI (rs[i]?) (fun q=>?_) fun l q=>?_
   ·rw[q] at e;contradiction
   ·rw[q] at e
    obtain rfl:=Z9 e
    have hil:=(ZP.mp q).1
    refine aF (r2.rws.at (i:=i) (k:=2+i) ((ZH)▸(XB hil)▸rfl)) fun l' q1 q2=>?_
    rw[q] at q1;obtain rfl:=Z9 q1
    rw[Yd];exact q2
theorem zR(C:Bj rs):wB (dj rN [0] (tabS rows) rs) (dT rN [0] (tabS rows) rs) (rs.length+2) 1 0 ((List.range rs.length).map fun i=>2+i) (rs.map ns):=by
 rw[wD,rY]
 haveI h7:=C.len
 refine⟨rfl,ik (ia 0 (by decide)),ik (by rw[YD];rfl),fun i k e=>?_,ik rfl,by simp,by rw[Z0];exact ZG h7 (ZQ (Nat.succ 7) 56)⟩
 replace e:=(ZH).symm.trans e
 refine bI ((List.range rs.length)[i]?) (fun q=>?_) fun j q=>?_
 ·rw[q] at e;contradiction
 ·rw[q] at e
  obtain rfl:=Z9 e
  haveI hj:j=i/\i<rs.length:=by
   haveI:=ZP.mp q
   obtain⟨h1,h2⟩:=this
   rw[Xq] at h1
   rw[List.getElem_range] at h2
   exact⟨h2.symm,h1⟩
  obtain⟨rfl,hj⟩:=hj
  refine iF (ns rs[j]) (by rw[ZH,Z7 hj];rfl) (ik (n5 (Z7 hj))) ?_
  haveI:=C.row _ (Y0 hj)
  rw[Z0];exact ZG this (ZQ _ 983)
end
structure xK(D:Wd)(a:Addr):Prop where
 code:∃ o fd c,D.K.lookup a=some o/\o.data = .func fd/\fd.code = .ref c/\∀ h,D.K.In h->CodeHd h c D.tab
 bm:∃ bm o,D.mg (Str.ofString "__builtins__")=some (.ref bm)/\bm≠builtinsNs/\bm≠mainGlobals/\D.K.lookup bm=some o/\o.cls = .type "module"/\o.dict=some builtinsNs/\o.data = .plain
 len:D.mg (Str.ofString "len")=none/\D.mb (Str.ofString "len")=some (.builtin "len")
 Ei:D.mg (Str.ofString "sorted")=none/\D.mb (Str.ofString "sorted")=some (.builtin "sorted")
theorem vl{D:Wd}{T:Tab}(top:Tp D T){a:Addr}(L:xK D a){scope:Scope}{P:Nat->Pos}{p0 p1 p2 kp p:Pos}{rc:Expr}{rest:List Stmt}(hrest:∀ F,rest.map (cS T F D.scr 40 ⟨scope.names,bA rN⟩ 0)=nO D.scr)(hrc:∀ F,(cP T F D.scr 40 ⟨scope.names,bA rN⟩ 0 rc).1=aS D.scr.length .aW [aS D.scr.length .len [af 0]])(hst:∀ env,backTo p (starEach [rc] env)=[(false,eval rc env)])(hsk:scope.names.lookup (Str.ofString "sorted")=some .globalImplicit) :
  ∀ F n Y,ru D T F n->iJ D a scope rN n Y->aw D Y (execs (.Assign [.Name (Str.ofString "order") p1] (.Call (.Name (Str.ofString "sorted") p2) [rc] [⟨some (Str.ofString "key"),.Lambda (fq P) (nD P) cF (P 7),kp⟩] p) p0::rest) Y.env) (bX D) (au (Gr.body F D.scr)):=fun F n Y hO hb=>by
 refine aw.j9 hb.nm fun Y' ρ0 rs d s hle hsp hl S0=>?_
 have C:Bj rs:=by
  unfold zu at hsp
  by_cases q:Bj rs
  ·exact q
  ·rw[if_neg q] at hsp;contradiction
 haveI hd:d=cn (fV (bG rs) rs.length rs.length) rs.length:=by
  unfold zu at hsp
  rw[if_pos C] at hsp
  exact(Z9 hsp).symm
 clear hsp;refine hd▸?_
 have K':=hb.bk.le hle
 haveI R':=hb.EO.le hle
 haveI hrS:aw D Y' (execs rest Y'.env) (bX D) (au (nO D.scr)):=by
  exact(hrest F)▸(aw.ma fun x=>Eg top hO 40 K' R' x)
 have hcS:aw D Y' (eval rc Y'.env) (VR D) (aS D.scr.length .aW [aS D.scr.length .len [af 0]]):=by
  rw[<-hrc F]
  exact(qz top hO 40 K' rc).1
 refine u9 L.code fun o fd c l1 l2 l3 l4=>?_
 haveI hcode:=(hb.code o fd l1 l2).trans l3
 haveI hdep:=hb.depth
 refine g9 hle fun kp' fz kg qz1 hk=>?_;clear hle;clear R';subst qz1
 refine yt K'.blok hb.handled (by show Y.A.depth+10<=800;exact om [_,_] [(.a (.a (.v 0) (.v 1)) (.n 10),.n 800)] (.a (.v 0) (.n 10),.n 800) rfl hdep) ⟨(aY c hcode l4),L.bm,L.len,L.Ei⟩ (by show Y.nm[0]? = _;rw[hb.nm];rfl) (by show Y.nm[1]? = _;rw[hb.nm];rfl)
  (by show Y.env.scope.names.lookup _=_;exact hb.scope▸hsk) (zR C) (by rw[rY];rfl) S0 hl hcS (hst _) hrS fun qs hq=>Fc C hq
end Mine.L1
end
noncomputable section
open PySem
namespace Mine.L1
noncomputable def iN(a c:Nat):Bool:=Nat.beq (Nat.land a c) a
noncomputable def iy(p c:Nat):Bool:=Nat.beq (p / 2 ^ (c-1) % 2) 1
noncomputable def parts:List Nat:=[1,2,3,4,5,6,7]
noncomputable def p5(p a b:Nat):Bool:=parts.all fun c=>!iy p c||!iN a c||iN b c
noncomputable def CY(p a:Nat):Bool:=parts.any fun c=>iy p c&&iN a c
noncomputable def gr(p:Nat)(acc:List Nat)(a:Nat):List Nat:=if CY p a&&!acc.any (fun b=>p5 p a b&&p5 p b a) then acc++[a] else acc
noncomputable def cC(p:Nat):List Nat:=parts.foldl (gr p) []
noncomputable def qy(p i j:Nat):Bool:=p5 p ((cC p).getD i 0) ((cC p).getD j 0)
noncomputable def fW(p:Nat):List (List Int):=er (qy p) (cC p).length (cC p).length
noncomputable def pa(w:Nat->Int)(p c:Nat):Nat->Int
 |0=>0
 |k+1=>pa w p c k+(if iN ((cC p).getD k 0) c then w k else 0)
noncomputable def mP(ws:List (Int×Int))(k:Nat):Int:=(ws.lookup (Int.ofNat k)).getD 0
noncomputable def mr(p:Nat)(d:List (List Int)×List (Int×Int)×Unit):Bool:=
 decide (d.1=cn (fV (qy p) (cC p).length (cC p).length) (cC p).length)&&pL (qy p) (cC p).length &&
 ((List.range (cC p).length).all fun k=>match d.2.1.lookup (Int.ofNat k) with
  |some w=>decide (w.natAbs<=10)
  |none=>false)&&parts.all fun c=>!iy p c||decide (pa (mP d.2.1) p c (cC p).length = -1)
abbrev zP:dG:=cN.names
noncomputable def Ht:Fn:={cN with body:=fun F scr=>[fB zP [0] rows res (au (cN.body F scr))]}
noncomputable def A8:List (Nat×Fn):=[(1,de),(2,bN),(3,bx),(4,cI),(5,bP),(6,bK),(7,bJ),(9,cA),(10,bF),
 (13,aN),(14,bh),(15,dc),(16,Hy),(17,d9),(18,fh),(19,eM),(20,eG),(21,eU),(22,Ht),(23,Gr),(24,fo),(25,cq),(26,oH)]
noncomputable def Hz:List (Nat×Bool×Nat):=[(27,true,1),(29,false,2)]
noncomputable abbrev FL(scr:List Int)(n:Nat):eP:=pI A8 Hz scr n
noncomputable def F7(r:Rs Fl)(n:Nat)(os:List O)(good:List (List Int)×List (Int×Int)×Unit->Bool):Bool:=match r with
 |.ok (.ret v1) J1 _=>match res.rd J1 [v1] with
  |some (d,ks)=>yL n ks&&wW J1.t 0 os&&good d
  |none=>false
 |_=>false
noncomputable def vo(scr:List Int)(p:Nat):Bool:=F7 (au (cN.body (FL scr 10) scr) (dj zP [0] rows (fW p)) (dT zP [0] rows (fW p))) (dj zP [0] rows (fW p)).n (rows.lay (fW p) 0).2 (mr p)
noncomputable def nC(scr:List Int)(a:Nat):Nat->Bool
 |0=>true
 |n+1=>vo scr a&&nC scr (a+1) n
theorem eD{scr:List Int}:∀ {n a p:Nat},nC scr a n=true->a<=p->p<a+n->vo scr p=true
 |0,a,p,_,h1,h2=>absurd h2 (XZ.mpr (om [_,_] [(.v 0,.v 1)] (.a (.v 0) (.n 0),.v 1) rfl h1))
 |n+1,a,p,h,h1,h2=>by
  obtain⟨g1,g2⟩:=ZR.mp h
  by_cases q:p=a
  ·exact q▸g1
  ·exact eD g2 (by omega) (om [_,_,_] [(.s (.v 0),.a (.v 1) (.s (.v 2)))] (.s (.v 0),.a (.s (.v 1)) (.v 2)) rfl h2)
theorem c0(scr:List Int):nC scr 1 16=true:=by kernel_rfl
theorem c1(scr:List Int):nC scr 17 16=true:=by kernel_rfl
theorem c2(scr:List Int):nC scr 33 16=true:=by kernel_rfl
theorem c3(scr:List Int):nC scr 49 16=true:=by kernel_rfl
theorem c4(scr:List Int):nC scr 65 16=true:=by kernel_rfl
theorem c5(scr:List Int):nC scr 81 16=true:=by kernel_rfl
theorem c6(scr:List Int):nC scr 97 16=true:=by kernel_rfl
theorem c7(scr:List Int):nC scr 113 15=true:=by kernel_rfl
theorem yq(scr:List Int){p:Nat}(h1:1<=p)(h2:p<128):vo scr p=true:=by
 rcases XV p 17 with q | q
 ·exact eD (c0 scr) h1 q
 rcases XV p 33 with q2 | q2
 ·exact eD (c1 scr) q q2
 rcases XV p 49 with q3 | q3
 ·exact eD (c2 scr) q2 q3
 rcases XV p 65 with q4 | q4
 ·exact eD (c3 scr) q3 q4
 rcases XV p 81 with q5 | q5
 ·exact eD (c4 scr) q4 q5
 rcases XV p 97 with q6 | q6
 ·exact eD (c5 scr) q5 q6
 rcases XV p 113 with q7 | q7
 ·exact eD (c6 scr) q6 q7
 ·exact eD (c7 scr) q7 h2
theorem uj{scr:List Int}{p:Nat}(h:vo scr p=true):∃ d,jK [] zP [0] rows res (au (cN.body (FL scr 10) scr)) (fW p) d/\mr p d=true:=by
 unfold vo F7 at h
 generalize e:au _ _ _=r at h
 cases r with
 |bad=>contradiction
 |exc=>contradiction
 |ok f J1 e1=>
  cases f with
  |ret v1=>
   dsimp only at h
   refine bI (res.rd J1 [v1]) (fun q=>?_) fun p2 q=>?_
   ·rw[q] at h;contradiction
   ·rw[q] at h
    simp only[ZJ] at h
    obtain⟨⟨h1,h2⟩,h3⟩:=h
    obtain⟨g1,g2⟩:=oX h1
    exact aY p2.1 ⟨v1,J1,e1,p2.2,e,q,g1,g2,(fun zz h=>by cases h),fun i o zz q=>by haveI:=pe h2 i o q;rwa [YA] at this⟩ h3
  |_=>exact Bool.noConfusion h
theorem uw{J:aq}(hJ:J.Ok){os:List O}{m:Nat}{rs:List (List Int)}(h:∀ (i:Nat) l,rs[i]? = some l->os[m+i]? = some (.list (ns l))):aH (J.adds os) ((List.range rs.length).map fun i=>J.n+m+i) rs:=
 il rs (J.n+m) fun i l e=>by rw[Xv];exact aq.ai hJ (h i l e)
inductive HX(F:eP)(scr:List Int)(J:aq)(ka:Nat)(d:List (List Int)×List (Int×Int)×Unit)(e:List V):Prop where
 |mk (J':aq) (t kr kw:Nat) (rr:List Nat) (h:aU F scr Ht [.ref ka] J e = .ok (.ref t) J' e) (E:Ext J J') (ht:J'.t.get t=some (.tup [.ref kr,.ref kw])) (hr:J'.t.get kr=some (.list (rr.map .ref))) (hrr:aH J' rr d.1) (hw:J'.t.get kw=some (.dict (d.2.1.map fun p=>(p.1,.int p.2))))
theorem jM(d:List (List Int)×List (Int×Int)×Unit)(n:Nat):res.lay d n=([.ref n],.tup [.ref (n+1),.ref (n+1+(d.1.length+1))]::((.list ((List.range d.1.length).map fun i=>.ref (n+1+1+i))::d.1.map fun l=>.list (ns l))++[.dict (d.2.1.map fun p=>(p.1,.int p.2))])):=by
 obtain⟨R,ws,u⟩:=d
 show([V.ref n],O.tup ((rows.lay R (n+1)).1++((bH.two bH.G2 bH.nil).lay (ws,u) (n+1+(rows.lay R (n+1)).2.length)).1)::((rows.lay R (n+1)).2++((bH.two bH.G2 bH.nil).lay (ws,u) (n+1+(rows.lay R (n+1)).2.length)).2))=_
 rw[gY,YK,Z0]
 rfl
theorem CJ{scr:List Int}{J:aq}{ka:Nat}{as:List Nat}{ls:List (List Int)}{d:List (List Int)×List (Int×Int)×Unit}{F:eP}(hJ:J.Ok)(hz:J.fz=[])(hk:J.t.get ka=some (.list (as.map .ref)))(hr:aH J as ls)(hn:(ka::as).Nodup)(h:jK [] zP [0] rows res (au (cN.body F scr)) ls d)(e:List V):HX F scr J ka d e:=by
 haveI E1:=Ext.adds hJ [.cell .ah]
 haveI hc:(J.adds [.cell .ah]).t.get J.n=some (.cell .ah):=aq.ai hJ (i:=0) rfl
 have hsl:vb _ zP [.ref ka,.ah,.ah,.ah,.ah,.aI J.n,.ah,.ah]=some _:=
  fy rfl (fy rfl (fy rfl (fy rfl (fy rfl (pJ hc (fy rfl (fy rfl rfl)))))))
 haveI hP:wU [] _ _ zP [0] rows ls _ (ka::as) [J.n]:=by
  refine⟨fun i h=>(by cases h),(by rw[aq.dk,hz]),hsl,pZ (E1.old _ _ hk) (hr.mono E1.old),?_,fun i hi zz=>?_⟩
  ·refine Zl.mpr (c9 hn (by simp) (fun x hx y hy=>?_))
   rw[Zn.mp hy]
   rcases ZS.mp hx with rfl | hx
   ·exact Zk (hJ.get hk)
   ·exact Zk (hr.lt hJ x hx)
  ·match i,hi with
   |0,hi=>cases hi
   |1,hi=>cases hi
   |2,hi=>cases hi
   |3,hi=>cases hi
   |4,hi=>cases hi
   |5,_=>rfl
   |6,hi=>cases hi
   |7,hi=>cases hi
 haveI hL:=ip (ng.mk (B:=res) hP (rj h))
 haveI hS:oA res _ [] [J.n] d=J.adds (.dead::(res.lay d (J.n+1)).2):=by
  show aq.adds ((J.adds [.cell .ah]).put J.n .dead) _=_
  rw[show(J.adds [.cell .ah]).put J.n .dead=J.adds [.dead] from aq.bL hJ _ _ 0 (by simp),aq.eN]
  rfl
 rw[hS] at hL
 refine⟨J.adds (.dead::(res.lay d (J.n+1)).2),J.n+1,J.n+2,J.n+(d.1.length+3),(List.range d.1.length).map fun i=>J.n+3+i,dA (J1:=J.adds [.cell .ah]) (e3:=pC [.ref ka,.ah,.ah,.ah,.ah,.aI J.n,.ah,.ah]) rfl rfl rfl rfl rfl ?_,Ext.adds hJ _,?_,?_,?_,?_⟩
 ·show au [fB zP [0] rows res _] _ _=_
  unfold fB
  rw[ib]
  refine hL.trans ?_
  skip
  rw[jM]
  rfl
 ·rw[jM]
  exact aq.ai hJ (by
   show some _=_
   rw[show J.n+1+1+_=J.n+(d.1.length+3) by omega])
 ·rw[jM]
  exact aq.ai hJ (by
   show some (O.list ((List.range d.1.length).map fun i=>.ref _))=_
   exact YD▸rfl)
 ·rw[jM]
  refine uw hJ fun i l hl=>?_
  rw[show 3+i=i+3 from Yd 3 i]
  show(d.1.map (fun l=>O.list (ns l))++_)[i]? = _
  rw[Yt (by rw[Z0];exact(ZP.mp hl).1),ZH,hl];rfl
 ·rw[jM]
  refine aq.ai hJ ?_
  show(d.1.map (fun l=>O.list (ns l))++[O.dict (d.2.1.map fun p=>(p.1,.int p.2))])[d.1.length]? = _
  rw[ZF (by rw[Z0];exact ZE _),Z0,XW];rfl
inductive HF(F:eP)(scr:List Int)(J:aq)(km:Nat)(rs:List (List Int))(e:List V):Prop where
 |mk (J':aq) (v:Nat) (as:List Nat) (h:aU F scr Gr [.ref km] J e = .ok (.ref v) J' e) (ok:J'.Ok) (old:∀ k o,(∀ j,o≠.tab j)->J.t.get k=some o->J'.t.get k=some o) (fz:J'.fz=[])
  (hv:J'.t.get v=some (.list (as.map .ref))) (hr:aH J' as (cn (fV (bG rs) rs.length rs.length) rs.length)) (tx:J'.t.get 0=some .gA)
theorem vy{scr:List Int}{J:aq}{km:Nat}{ks:List Nat}{rs:List (List Int)}{F:eP}(hJ:J.Ok)(hz:J.fz=[])(ht:J.t.get 0=some (.tab 0))(hk:J.t.get km=some (.list (ks.map .ref)))(hr:aH J ks rs)(hn:(km::ks).Nodup)(C:Bj rs)(e:List V):HF F scr J km rs e:=by
 let J2:=J.adds [.cell (.ref km),.cell .ah,.cell .ah]
 have E2:Ext J J2:=Ext.adds hJ _
 have hn2:J2.n=J.n+3:=by show(J.adds _).n=_;rw[aq.cf];rfl
 have hB:eB [0] [.ref km] (J.adds [.cell .ah,.cell .ah,.cell .ah]) _ = .ok () J2 [.aI J.n,.ah,.aI (J.n+1),.aI (J.n+2),.ah,.ah]:=
  (ag (gE hJ (j:=0) rfl rfl)).trans rfl
 have hsl:vb J2 rN [.aI J.n,.ah,.aI (J.n+1),.aI (J.n+2),.ah,.ah]=some _:=
  pJ (aq.ai hJ (i:=0) rfl) (fy rfl (pJ (aq.ai hJ rfl) (pJ (aq.ai hJ rfl) (fy rfl (fy rfl rfl)))))
 have hlt:∀ x∈0::km::ks,x<J.n:=fun x hx=>by
  rcases ZS.mp hx with rfl | hx
  ·exact hJ.get ht
  ·rcases ZS.mp hx with rfl | hx
   ·exact hJ.get hk
   ·exact hr.lt hJ x hx
 have hks0:∀ {as:List Nat} {ls:List (List Int)},aH J as ls->0∉as:=fun {as ls} h=>by
  induction h with
  |nil=>exact YJ
  |cons h t ih=>
   intro q
   rcases ZS.mp q with q | q
   ·rw[<-q,ht] at h;have h__:=Z9 h;cases h__
   ·exact ih q
 haveI hP:wU [0] J2 _ rN [0] (tabS rows) rs _ (0::km::ks) _:=by
  refine⟨fun i hi=>by rw[Zn.mp hi];rfl,(by show(J.adds _).fz=_;rw[aq.dk,hz]),hsl,?_,?_,fun i hi hni=>?_⟩
  ·exact AW (E2.old _ _ ht) (pZ (E2.old _ _ hk) (hr.mono E2.old))
  ·refine Zl.mpr (c9 (ZN.mpr ⟨fun q=>?_,hn⟩) (by simp) (fun x hx y hy=>?_))
   ·rcases ZS.mp q with q | q
    ·rw[<-q,ht] at hk;have h__:=Z9 hk;cases h__
    ·exact hks0 hr q
   ·haveI:=hlt x hx
    haveI hy:y=J.n∨y=J.n+1∨y=J.n+2:=by simpa using hy
    omega
  ·match i,hi with
   |0,_=>exact absurd ZX hni
   |1,hi=>cases hi
   |2,_=>rfl
   |3,_=>rfl
   |4,hi=>cases hi
   |5,hi=>cases hi
 haveI hsp:zu rs=some _:=by skip;exact if_pos C
 haveI hL:=ip (ng.mk (B:=rows) hP hsp)
 generalize hd:cn _ rs.length=d at hL
 haveI hko:((J2.kill [J.n,J.n+1,J.n+2]).vH [0]).Ok:=(E2.ok.kill _).vH _
 have hkn:((J2.kill [J.n,J.n+1,J.n+2]).vH [0]).n=J.n+3:=by rw[aq.zm,aq.sR];exact hn2
 refine⟨oA rows J2 [0] _ d,J.n+3,(List.range d.length).map fun i=>J.n+4+i,dA (J1:=J.adds _) (e1:=[.aI J.n,.ah,.aI (J.n+1),.aI (J.n+2),.ah,.ah]) (e3:=pC [.aI J.n,.ah,.aI (J.n+1),.aI (J.n+2),.ah,.ah]) rfl rfl rfl rfl hB ?_,hko.adds _,fun k o ho hg=>?_,?_,?_,?_,?_⟩
 ·show au [j9 [0] rN [0] (tabS rows) rows zu] _ _=_
  rw[ib]
  refine hL.trans ?_
  unfold nU
  rw[gY,hn2]
  rfl
 ·refine aq.aX hko ?_
  haveI hk0:k≠0:=fun q=>by rw[q,ht] at hg;obtain rfl:=Z9 hg;exact ho _ rfl
  rw[aq.pP,if_neg (by simpa using hk0),aq.mZ,if_neg ?_]
  ·exact E2.old _ _ hg
  ·intro q
   haveI:=hJ.get hg
   haveI q:k=J.n∨k=J.n+1∨k=J.n+2:=by simpa using q
   omega
 ·show(aq.adds _ _).fz=_
  rw[aq.dk,aq.Dv,aq.Bt]
  show(J.adds _).fz=_
  rw[aq.dk,hz]
 ·show(aq.adds _ _).t.get _=_
  rw[gY]
  have:=aq.ai hko (os:=.list ((List.range d.length).map fun i=>.ref (J2.n+1+i))::d.map fun l=>.list (ns l)) (i:=0) rfl
  rw[hkn] at this
  refine this.trans ?_
  exact YD▸hn2▸rfl
 ·rw[hd]
  show aH (aq.adds _ _) _ _
  rw[gY]
  haveI:=uw hko (os:=.list ((List.range d.length).map fun i=>.ref (J2.n+1+i))::d.map fun l=>.list (ns l)) fun i l hl=>by
   rw[show 1+i=i+1 from Yd 1 i]
   show(d.map fun l=>O.list (ns l))[i]? = _
   rw[ZH,hl];rfl
  rw[hkn] at this
  exact this
 ·refine aq.aX hko ?_
  rw[aq.pP,if_pos ZX,aq.mZ,if_neg (fun q=>by
   haveI:=hJ.get ht
   haveI q:0=J.n∨0=J.n+1∨0=J.n+2:=by simpa using q
   omega),E2.old _ _ ht]
  rfl
section
variable {ls:List (List Int)}{as:List Nat}{Z:List V}{n:Nat}{J J':aq}
section
variable {scr:List Int}
theorem CU:xU (FL scr (n+1)):=fun T e=>CC T (FL scr n) e
theorem HA:C5 (FL scr (n+1)):=CH (F:=FL scr n) fun zz zz zz=>rfl
structure lh(J J':aq)(acc:Nat)(as:List Nat)(ls:List (List Int)):Prop where
 ok:J'.Ok
 old:∀ k o,J.t.get k=some o->J'.t.get k=some o
 cW:J'.t.get acc=some (.list (as.map .ref))
 rows:aH J' as ls
 fz:J'.fz=J.fz
 le:J.n<=acc
 ne:acc∉as
theorem lh.start(h:J.Ok):lh J (J.adds [.list []]) J.n [] []:=⟨h.adds _,fun zz zz e=>aq.aX h e,aq.ai h (i:=0) rfl,.nil,aq.dk _ _,ZE _,YJ⟩
theorem aH.yT(h:aH J as ls){k:Nat}{o:O}(hn:k∉as):aH (J.put k o) as ls:=by
 induction h with
 |nil=>exact .nil
 |cons h t ih=>exact .cons (aK h (fun q=>hn (q▸ZX))) (ih fun q=>hn (ZY _ q))
theorem lh.step{J2:aq}(hJ:J.Ok){acc a:Nat}{l:List Int}(h:lh J J' acc as ls)(E:Ext J' J2)(ha:J2.t.get a=some (.list (ns l)))(hne:J'.n<=a) :
  lh J (J2.put acc (.list (as.map .ref++[.ref a]))) acc (as++[a]) (ls++[l]):=by
 haveI hlt:=h.ok.get h.cW
 haveI hac:=E.old _ _ h.cW
 have haa:a≠acc:=(Yw (om [_,_,_] [(.v 0,.v 1),(.s (.v 2),.v 0)] (.s (.v 2),.v 1) rfl hne hlt))
 refine⟨E.ok.put _ _,fun k o e=>aK (E.old _ _ (h.old k o e)) (by haveI:=hJ.get e;haveI:=h.le;exact Zk (om [_,_,_] [(.s (.v 0),.v 1),(.v 1,.v 2)] (.s (.v 0),.v 2) rfl (by assumption) this)),?_,?_,E.fz.trans h.fz,h.le,fun q=>?_⟩
 ·exact Zc▸(cQ hac)
 ·exact((h.rows.mono E.old).yT h.ne).snoc (aK ha haa)
 ·rcases Zy.mp q with q | q
  ·exact h.ne q
  ·exact haa (Zn.mp q).symm
theorem ra{J2:aq}{acc a:Nat}{x:M V}(h:lh J J' acc as ls)(hl:as.length<1000)(E:Ext J' J2)(hx:x J' Z = .ok (.ref a) J2 Z):cw x acc J' Z = .ok () (J2.put acc (.list (as.map .ref++[.ref a]))) Z:=
 d8 hx (E.old _ _ h.cW) (by rw[Z0];exact Zj hl (ZQ 1000 9000))
noncomputable def WL(f:Nat->Int)(s:Nat->Nat)(m:Nat):List Int:=jF f s m 16
variable {J:aq}{kc:Nat}{kt:Nat->Nat}{f:Nat->Int}{s:Nat->Nat}
theorem jf.ext(C:jf J kc kt f s)(E:Ext J J'):jf J' kc kt f s:=⟨E.ok,E.old _ _ C.lst,fun i hi=>E.old _ _ (C.tup i hi),C.lo,C.hi⟩
theorem yH{n c:Nat}(C:jf J kc kt f s)(hc:J.t.get c=some (.cell (.ref kc))){Z:List V}(h0:V.at Z 0 = .aI c) :
  ∃ J' acc as,bz (aS scr.length .aW [.ret (.int 8)]) (.one 1) [] (cw (el (FL scr (n+1)) 17 [af 2,af 1])) [(".0",.loc),("mask",.loc),("classes",.cM 0)] J Z = .ok (.ref acc) J' Z/\lh J J' acc as ((List.range 8).map (WL f s)):=by
 have hJ:=C.ok
 have E1:=Ext.adds hJ [.bD 0 8]
 have G0:=lh.start E1.ok
 obtain⟨J3,Z3,h1,rfl,e,as,w,G,_⟩:=d7 (J:=J) (J1:=J.adds [.bD 0 8]) (Z:=Z) (t:=.one 1) (v:=.ref J.n) (it:=.bD 0 8) (ifs:=[]) (g:=cw (el (FL scr (n+1)) 17 [af 2,af 1])) (b:=[(".0",.loc),("mask",.loc),("classes",.cM 0)])
  (P:=fun j J' e=>∃ as w,lh (J.adds [.bD 0 8]) J' (J.adds [.bD 0 8]).n as ((List.range j).map (WL f s))/\e=[.ah,w,.aI c]/\aE w=none) (N:=8)
  (jo (y:=.ret (.int 8)) (m:=8) rfl rfl) (cb (k:=J.n) (o:=.bD 0 8) (aq.ai hJ (i:=0) rfl)) rfl (by decide) (by
   exact h0▸rfl)
  (fun j hj s' e hp=>by
   refine vR hp fun as w G qz1 hw=>?_;clear hp;subst qz1
   have E2:Ext J s':=⟨G.ok,fun k o q=>G.old k o (E1.old k o q),G.fz.trans E1.fz,by haveI:=E1.le;haveI:=G.le;haveI:=G.ok.get G.cW;exact YE (YE this)⟩
   haveI hn:eH s' (.bD 0 8) j=some (some (.int (Int.ofNat j))):=by
    haveI:=dn (J:=s') (a:=0) (b:=8) (i:=j) (by omega)
    rw[Yb] at this;exact this
   haveI l2:af 2 s' [.ah,.int (Int.ofNat j),.aI c] = .ok (.ref kc) s' [.ah,.int (Int.ofNat j),.aI c]:=ba rfl (E2.old _ _ hc) nofun
   refine nz (uX (scr:=scr) (C.ext E2) (FL scr n) [.ah,.int (Int.ofNat j),.aI c] (m:=j) (by omega)) fun X g hw2=>?_
   haveI hcall:=(ag (ff l2 (y:=af 1) rfl)).trans hw2
   haveI E3:=Ext.adds G.ok (dX kc kt f s j X 16++g)
   haveI ha:(s'.adds (dX kc kt f s j X 16++g)).t.get (s'.n+5)=some (.list (ns (WL f s j))):=aq.ai G.ok (i:=5) rfl
   haveI hasl:as.length=j:=by refine(G.rows.len).trans ?_;simp
   refine⟨_,_,[.ah,.int (Int.ofNat j),.aI c],hn,eS (c:=true) (bZ (i:=1) hw) rfl (ra G (om [_,_] [(.s (.v 0),.n 8),(.v 1,.v 0)] (.s (.v 1),.n 1000) rfl hj (eE hasl)) E3 hcall),as++[s'.n+5],_,?_,rfl,rfl⟩
   rw[XY,Zc]
   exact G.step E1.ok E3 ha (Zp _ _))
  (fun s' e zz=>bw (by decide)) (rm [] .ah G0 rfl rfl)
 exact sx J3 _ as h1 ⟨G.ok,fun k o q=>G.old k o (E1.old k o q),G.cW,G.rows,G.fz.trans E1.fz,by haveI:=E1.le;haveI:=G.le;omega,G.ne⟩
theorem vC{c:Nat}(C:jf J kc kt f s)(hz:J.fz=[])(hf:∀ i,i<3->1<=f i/\f i<=8)(hc:J.t.get c=some (.cell (.ref kc)))(h0:V.at Z 0 = .aI c) :
  ∃ J' acc as,bz (af 0) (.many [1,2]) [] (cw (el (FL scr (n+1)) 16 [eList [af 1,af 2,.ret (.int 0),af 1]])) [(".0",.loc),("first",.loc),("step",.loc)] J Z = .ok (.ref acc) J' Z/\lh J J' acc as ((List.range 3).map fun i=>d6 17 (f i) (Int.ofNat (s i))):=by
 haveI hJ:=C.ok
 haveI G0:=lh.start hJ
 obtain⟨J3,Z3,h1,rfl,e,as,w,z,G,_⟩:=d7 (ifs:=[]) (g:=cw (el (FL scr (n+1)) 16 [eList [af 1,af 2,.ret (.int 0),af 1]])) (b:=[(".0",.loc),("first",.loc),("step",.loc)])
  (P:=fun j J' e=>∃ as w z,lh J J' J.n as ((List.range j).map fun i=>d6 17 (f i) (Int.ofNat (s i)))/\e=[.ah,w,z]/\aE w=none/\aE z=none) (N:=3)
  (ba h0 hc nofun) (cb C.lst) rfl (by decide) rfl
  (fun j hj s' e hp=>by
   refine u9 hp fun as w z G qz3 hw hz2=>?_;clear hp;subst qz3
   haveI hn:eH s' (.lst kc) j=some (some (.ref (kt j))):=by
    refine(cE (G.old _ _ C.lst)).trans ?_
    match j,hj with
    |0,_=>rfl
    |1,_=>rfl
    |2,_=>rfl
   haveI hs:=sG (i:=1) (j:=2) (Z:=[.ah,w,z]) (G.old _ _ (C.tup j hj)) hw hz2
   haveI e1:eList [af 1,af 2,.ret (.int 0),af 1] s' [.ah,.int (f j),.int (Int.ofNat (s j))] = .ok (.ref s'.n) (s'.adds [.list (ns [f j,Int.ofNat (s j),0,f j])]) [.ah,.int (f j),.int (Int.ofNat (s j))]:=rfl
   haveI E3:=Ext.adds G.ok [.list (ns [f j,Int.ofNat (s j),0,f j])]
   haveI hlo:=C.lo j hj
   haveI hhi:=C.hi j hj
   haveI hm:=qL (F:=FL scr n) (scr:=scr) (e:=[.ah,.int (f j),.int (Int.ofNat (s j))]) (J:=s'.adds [.list (ns [f j,Int.ofNat (s j),0,f j])]) (by exact E3.fz▸G.fz▸hz▸rfl) (aq.ai G.ok (i:=0) rfl) (Go (by show(2:Int)<=(s j:Int);omega) (by show(s j:Int)<=6;omega) (hf j hj).1 (hf j hj).2)
   haveI hcall:=(ag (fY e1)).trans hm
   haveI E4:=E3.trans (Ext.adds E3.ok [.list (ns (d6 17 (f j) (Int.ofNat (s j))))])
   haveI ha:=aq.ai E3.ok (os:=[.list (ns (d6 17 (f j) (Int.ofNat (s j))))]) (i:=0) rfl
   haveI hasl:as.length=j:=by refine(G.rows.len).trans ?_;simp
   refine⟨_,_,[.ah,.int (f j),.int (Int.ofNat (s j))],hn,eS hs rfl (ra G (om [_,_] [(.s (.v 0),.n 3),(.v 1,.v 0)] (.s (.v 1),.n 1000) rfl hj (eE hasl)) E4 hcall),as++[(s'.adds [.list (ns [f j,Int.ofNat (s j),0,f j])]).n],_,_,?_,rfl,rfl,rfl⟩
   rw[XY,Zc]
   exact G.step hJ E4 ha (by rw[aq.cf];exact XH _))
  (fun s' e hp=>by
   refine g9 hp fun as w z G zz=>?_;clear hp
   refine(cE (G.old _ _ C.lst)).trans ?_;rfl) (vx [] .ah .ah G0 rfl rfl rfl)
 exact sx J3 _ as h1 G
end
end
theorem gL:∀ (n:Nat) (xs ys:List Int),(bT n xs ys).1.length<=xs.length
 |0,_,_=>XU _
 |_+1,[],_=>ZE _
 |_+1,x::xs,[]=>ZE _
 |n+1,x::xs,y::ys=>by
  haveI hd:(xs.dropWhile (· == x)).length<=xs.length:=(WQ _).length_le
  dsimp only[bT]
  split
  ·haveI:=gL n (xs.dropWhile (· == x)) (y::ys)
   simp;exact ZD this hd
  ·split
   ·exact gL n (x::xs) _
   ·exact YO (ZD (gL n _ _) hd)
noncomputable def jn(a b:List Int):List Int:=(bT 2000 a (bT 2000 a b).1).1
noncomputable def ML(R:Nat->List Int):List (List Int):=[[],R 0,R 1,jn (R 0) (R 1),R 2,jn (R 0) (R 2),jn (R 1) (R 2),jn (jn (R 0) (R 1)) (R 2)]
noncomputable def Hn(R:Nat->List Int)(k:Nat):Nat->List Int
 |0=>R k
 |m+1=>jn ((ML R).getD (m+1) []) (R k)
theorem ET{R:Nat->List Int}{k m:Nat}(hk:k<3)(hm:m<2 ^ k):(ML R)[2 ^ k+m]? = some (Hn R k m):=by
 match k,hk,m,hm with
 |0,_,0,_=>rfl
 |1,_,0,_=>rfl
 |1,_,1,_=>rfl
 |2,_,0,_=>rfl
 |2,_,1,_=>rfl
 |2,_,2,_=>rfl
 |2,_,3,_=>rfl
 |0,_,m+1,h=>exact absurd h (by simp)
 |1,_,m+2,h=>exact absurd h (by simp)
 |2,_,m+4,h=>exact absurd h (by simp)
section
variable {J J':aq}{scr:List Int}{F:eP}{kr acc:Nat}{rk as:List Nat}{R:Nat->List Int}
theorem lh.put{J2:aq}(hJ:J.Ok){a:Nat}{ls:List (List Int)}{l:List Int}(h:lh J J' acc as ls)(E:Ext J' J2)(ha:J2.t.get a=some (.list (ns l)))(hne:a≠acc) :
  lh J (J2.put acc (.list (as.map .ref++[.ref a]))) acc (as++[a]) (ls++[l]):=by
 haveI hac:=E.old _ _ h.cW
 refine⟨E.ok.put _ _,fun k o e=>aK (E.old _ _ (h.old k o e)) (by haveI:=hJ.get e;haveI:=h.le;exact Zk (om [_,_,_] [(.s (.v 0),.v 1),(.v 1,.v 2)] (.s (.v 0),.v 2) rfl (by assumption) this)),?_,?_,E.fz.trans h.fz,h.le,fun q=>?_⟩
 ·exact Zc▸(cQ hac)
 ·exact((h.rows.mono E.old).yT h.ne).snoc (aK ha hne)
 ·rcases Zy.mp q with q | q
  ·exact h.ne q
  ·exact hne (Zn.mp q).symm
noncomputable def Hs(F:eP)(scr:List Int):M Fl:=au [br (aG (aO .Eq (af 3) (.ret (.int 0)))) (au [aZ (bE 0 (af 1) .append [aD 0 scr (af 0) (af 2)])]) (au [aJ (aD 0 scr (el F 13 [aD 0 scr (af 1) (af 3),aD 0 scr (af 0) (af 2)]) (.ret (.int 0))) [aA 0 (.one 4)],aZ (bE 0 (af 1) .append [aD 0 scr (el F 13 [aD 0 scr (af 1) (af 3),af 4]) (.ret (.int 0))])])]
noncomputable def BU(kr acc k m:Nat)(v:V):List V:=[.ref kr,.ref acc,.int (Int.ofNat k),.int (Int.ofNat m),v]
theorem mf{J J2:aq}{Z:List V}{x:M V}{t a b:Nat}(hx:x J Z = .ok (.ref t) J2 Z)(ht:J2.t.get t=some (.tup [.ref a,.ref b])):aD 0 scr x (.ret (.int 0)) J Z = .ok (.ref a) J2 Z:=by
 refine(ag hx).trans ?_
 refine(ag (ob _ ht)).trans ?_
 rfl
structure Gd(J:aq)(kr:Nat)(rk:List Nat)(R:Nat->List Int):Prop where
 ok:J.Ok
 lst:J.t.get kr=some (.list (rk.map .ref))
 rows:aH J rk [R 0,R 1,R 2]
 len:∀ i,i<3->(R i).length<=16
theorem Gd.item(h:Gd J kr rk R){k:Nat}(hk:k<3):∃ r,rk[k]? = some r/\J.t.get r=some (.list (ns (R k))):=by
 have hl:rk.length=3:=h.rows.len
 refine aF (h.rows.at (Z7 (i:=k) (by omega))) fun l h1 h2=>?_
 refine aY (rk[k]) (Z7 _) ?_
 have:l=R k:=by
  match k,hk,h1 with
  |0,_,h1=>injection h1 with h__;clear h1;clear h2;refine h__▸?_;rfl
  |1,_,h1=>injection h1 with h__;clear h1;clear h2;refine h__▸?_;rfl
  |2,_,h1=>injection h1 with h__;clear h1;clear h2;refine h__▸?_;rfl
 exact this▸h2
theorem m5{a b:List Int}(h:a.length<=16):(jn a b).length<=16:=ZD (gL _ _ _) h
theorem CP(h:∀ i,i<3->(R i).length<=16):∀ l∈ML R,l.length<=16:=by
 haveI h0:=h 0 (by decide)
 haveI h1:=h 1 (by decide)
 haveI h2:=h 2 (by decide)
 intro l hl
 simp only[ML,ZS,YJ,or_false] at hl
 rcases hl with rfl | rfl | rfl | rfl | rfl | rfl | rfl | rfl
 ·exact XU _
 ·exact h0
 ·exact h1
 ·exact m5 h0
 ·exact h2
 ·exact m5 h0
 ·exact m5 h1
 ·exact m5 (m5 h0)
theorem Ad(hF:xU F)(h:Gd J kr rk R)(hle:J.n<=acc){k m:Nat}(hk:k<3)(hm:m<2 ^ k)(G:lh J J' acc as ((ML R).take (2 ^ k+m))){v:V}(hv:aE v=none) :
  ∃ J2 as' v',Hs F scr J' (BU kr acc k m v) = .ok .next J2 (BU kr acc k m v')/\lh J J2 acc as' ((ML R).take (2 ^ k+(m+1)))/\aE v'=none:=by
 haveI hJ:=h.ok
 refine aF (h.item hk) fun r r1 r2=>?_
 haveI hat:=ET (R:=R) hk hm
 have hlt:=(ZP.mp hat).1
 haveI htk:(ML R).take (2 ^ k+(m+1))=(ML R).take (2 ^ k+m)++[Hn R k m]:=by
  rw[<-Xv,List.take_add_one,hat];rfl
 have h8:(ML R).length=8:=rfl
 have hasl:as.length=2 ^ k+m:=by rw[G.rows.len,Ym];omega
 have hrow:∀ {s:aq},Ext J' s->aD 0 scr (af 0) (af 2) s _ = .ok (.ref r) s (BU kr acc k m v):=fun E=>di rfl rfl (E.old _ _ (G.old _ _ h.lst)) (by rw[Z0,h.rows.len];show 3<_;decide) (by rw[ZH,r1];rfl)
 haveI hrl:=h.len k hk
 haveI hra:r≠acc:=by haveI:=hJ.get r2;exact Zk (om [_,_,_] [(.v 0,.v 1),(.s (.v 2),.v 0)] (.s (.v 2),.v 1) rfl hle this)
 haveI ht:aG (aO .Eq (af 3) (.ret (.int 0))) J' (BU kr acc k m v) = .ok (Int.ofNat m==0) J' _:=rfl
 refine htk▸?_
 clear hat;clear htk;cases m with
 |zero=>
  haveI ap:=dC (x:=af 1) rfl G.cW (hrow (Ext.refl G.ok)) G.cW (by rw[Z0];exact om [_,_,_] [(.v 0,.n 8),(.s (.a (.v 1) (.n 0)),.v 0),(.v 2,.a (.v 1) (.n 0))] (.s (.v 2),.n 10000) rfl (eE h8) hlt (eE hasl))
  exact zd _ (as++[r]) v ((aB ((bf ht).trans ((aB ap).trans rfl))).trans rfl) (G.put hJ (Ext.refl G.ok) (G.old _ _ r2) hra) hv
 |succ m=>
  obtain⟨x,hx1⟩:∃ x,as[m+1]? = some x:=⟨_,Z7 (by omega)⟩
  refine aF (G.rows.at hx1) fun l hx2 hx3=>?_
  haveI hl:l=(ML R).getD (m+1) []:=by
   rw[List.getElem?_take_of_lt (Nat.lt_add_right _ ‹_›)] at hx2
   simp[List.getD,hx2]
  haveI hlm:=CP h.len l (List.mem_of_mem_take (ZK hx2))
  clear hx2;subst hl
  have hmv:Hn R k (m+1)=jn _ (R k):=rfl
  rw[hmv]
  generalize hL:(ML R).getD (m+1) []=l at hx3 hlm ⊢
  have hmt:∀ {s:aq} {v:V},Ext J' s->aD 0 scr (af 1) (af 3) s _ = .ok (.ref x) s (BU kr acc k (m+1) v):=fun E=>di rfl rfl (E.old _ _ G.cW) (by rw[Z0];exact om [_,_,_,_] [(.v 0,.n 8),(.s (.a (.v 1) (.s (.v 2))),.v 0),(.v 3,.a (.v 1) (.s (.v 2)))] (.s (.v 3),.n 4611686018427387904) rfl (eE h8) hlt (eE hasl)) (by rw[ZH,hx1];rfl)
  refine nz (hF ⟨G.ok,hx3,G.old _ _ r2,(om [_] [(.v 0,.n 16)] (.s (.v 0),.n 1000) rfl hlm),(om [_] [(.v 0,.n 16)] (.s (.v 0),.n 1000) rfl hrl)⟩ (BU kr acc k (m+1) v)) fun g1 g2 c1=>?_
  haveI c1':el F 13 _ J' _=_:=(ag (ff (hmt (Ext.refl G.ok)) (hrow (Ext.refl G.ok)))).trans c1
  generalize hq:[O.list _,.list _,.list (ns g1),.list (ns g2),.tup _]=Q at c1'
  have E1:=Ext.adds G.ok Q
  haveI f0:(J'.adds Q).t.get J'.n=some (.list (ns (bT 2000 l (R k)).1)):=aq.ai G.ok (i:=0) (by refine hq▸?_;rfl)
  haveI f4:(J'.adds Q).t.get (J'.n+4)=some (.tup [.ref J'.n,.ref (J'.n+1)]):=aq.ai G.ok (by refine hq▸?_;rfl)
  generalize J'.adds Q=J1 at c1' E1 f0 f4
  haveI s1:=fF (i:=4) (mf (scr:=scr) c1' f4) hv
  haveI s1:aJ _ _ J' _ = .ok .next J1 (BU kr acc k (m+1) (.ref J'.n)):=s1
  haveI hal:=gL 2000 l (R k)
  refine nz (hF ⟨E1.ok,E1.old _ _ hx3,f0,(om [_] [(.v 0,.n 16)] (.s (.v 0),.n 1000) rfl hlm),(om [_,_] [(.v 0,.n 16),(.v 1,.v 0)] (.s (.v 1),.n 1000) rfl hlm hal)⟩ (BU kr acc k (m+1) (.ref J'.n))) fun g3 g4 c2=>?_
  haveI c2':el F 13 _ J1 _=_:=(ag (ff (hmt E1) (y:=af 4) rfl)).trans c2
  generalize hq2:[O.list _,.list _,.list (ns g3),.list (ns g4),.tup _]=Q2 at c2'
  haveI E2:=Ext.adds E1.ok Q2
  haveI p0:(J1.adds Q2).t.get J1.n=some (.list (ns (jn l (R k)))):=aq.ai E1.ok (i:=0) (by refine hq2▸?_;rfl)
  haveI p4:(J1.adds Q2).t.get (J1.n+4)=some _:=aq.ai E1.ok (by rw[<-hq2];rfl)
  generalize J1.adds Q2=J2 at c2' E2 p0 p4
  haveI hacc1:=E1.old _ _ G.cW
  haveI ap:=dC (x:=af 1) rfl hacc1 (mf (scr:=scr) c2' p4) (E2.old _ _ hacc1) (by rw[Z0];exact om [_,_,_,_] [(.v 0,.n 8),(.s (.a (.v 1) (.s (.v 2))),.v 0),(.v 3,.a (.v 1) (.s (.v 2)))] (.s (.v 3),.n 10000) rfl (eE h8) hlt (eE hasl))
  haveI hna:J1.n≠acc:=by haveI:=E1.ok.get hacc1;exact Yw ‹_›
  refine zd _ (as++[J1.n]) (.ref J'.n) ((aB ((bf ht).trans ((aB s1).trans ((aB ap).trans rfl)))).trans rfl) ?_ rfl
  exact G.put hJ (E1.trans E2) p0 hna
inductive IJ(F:eP)(scr:List Int)(J:aq)(kr:Nat)(R:Nat->List Int)(e:List V):Prop where
 |mk (J':aq) (acc:Nat) (as:List Nat) (h:aU F scr eM [.ref kr] J e = .ok (.ref acc) J' e) (E:Ext J J') (hv:J'.t.get acc=some (.list (as.map .ref))) (hr:aH J' as (ML R))
theorem yX(hF:xU F)(h:Gd J kr rk R)(e:List V):IJ F scr J kr R e:=by
 haveI hJ:=h.ok
 let J0:=J.adds [.list [],.list [.ref J.n]]
 haveI G0:lh J J0 (J.n+1) [J.n] ((ML R).take 1):=⟨hJ.adds _,fun zz zz e=>aq.aX hJ e,aq.ai hJ (i:=1) rfl,.cons (aq.ai hJ (i:=0) rfl) .nil,aq.dk _ _,(XH _),by simp⟩
 have grow:∀ {s:aq} {as:List Nat} {ls:List (List Int)} (os:List O),lh J s (J.n+1) as ls->lh J (s.adds os) (J.n+1) as ls:=fun {s as ls} os G=>by
  have E:=Ext.adds G.ok os
  exact⟨E.ok,fun k o q=>E.old _ _ (G.old k o q),E.old _ _ G.cW,G.rows.mono E.old,E.fz.trans G.fz,G.le,G.ne⟩
 obtain⟨J3,Z3,h1,as,a,b,c,G3,rfl,_⟩:=eV (J1:=J0.adds [.bD 0 3]) (t:=.one 2) (x:=aS scr.length .aW [.ret (.int 3)]) (N:=3) (b:=au [dB (.one 3) (aS scr.length .aW [aL .Pow (.ret (.int 2)) (af 2)]) (Hs F scr)])
  (P:=fun k J' Z'=>∃ as a b c,lh J J' (J.n+1) as ((ML R).take (2 ^ k))/\Z'=[.ref kr,.ref (J.n+1),a,b,c]/\aE a=none/\aE b=none/\aE c=none)
  (jo (m:=3) rfl rfl) (cb (o:=.bD 0 3) (aq.ai G0.ok (i:=0) rfl)) rfl (by decide)
  (fun k hk s Z hp=>by
   refine El hp fun as a b c G qz1 ha hb hc=>?_;clear hp;refine qz1▸?_
   have hn:eH s (.bD 0 3) k=some (some (.int (Int.ofNat k))):=by
    haveI:=dn (J:=s) (a:=0) (b:=3) (i:=k) (by omega)
    rw[Yb] at this;exact this
   haveI hs:aA 0 (.one 2) (.int (Int.ofNat k)) s [.ref kr,.ref (J.n+1),a,b,c] = .ok () s _:=bZ (i:=2) ha
   have hp:aL .Pow (.ret (.int 2)) (af 2) s [.ref kr,.ref (J.n+1),.int (Int.ofNat k),b,c] = .ok (.int (Int.ofNat (2 ^ k))) s [.ref kr,.ref (J.n+1),.int (Int.ofNat k),b,c]:=by
    match k,hk with
    |0,_=>rfl
    |1,_=>rfl
    |2,_=>rfl
   haveI h2k:2 ^ k<=4:=by
    match k,hk with
    |0,_=>decide
    |1,_=>decide
    |2,_=>decide
   obtain⟨s4,Z4,g1,as',b',c',G4,rfl,k1,k2⟩:=eV (J:=s) (J1:=s.adds [.bD 0 _]) (t:=.one 3) (b:=Hs F scr)
    (P:=fun m J' Z'=>∃ as b c,lh J J' (J.n+1) as ((ML R).take (2 ^ k+m))/\Z'=[.ref kr,.ref (J.n+1),.int _,b,c]/\aE b=none/\aE c=none)
    (e8 hp (ZG h2k (ZQ (Nat.succ 4) 995))) (cb (o:=.bD 0 _) (aq.ai G.ok (i:=0) rfl)) rfl (ZG h2k (ZQ (Nat.succ 4) 1995))
    (fun m hm s5 Z5 hp=>by
     refine u9 hp fun as b c G qz3 hb hc=>?_;clear hp;refine qz3▸?_
     have hn:eH s5 (.bD 0 (Int.ofNat (2 ^ k))) m=some (some (.int (Int.ofNat m))):=by
      haveI:=dn (J:=s5) (a:=0) (b:=Int.ofNat (2 ^ k)) (i:=m) (by show(0:Int)+m<((2 ^ k:Nat):Int);omega)
      rw[Yb] at this;exact this
     have hs:aA 0 (.one 3) (.int (Int.ofNat m)) s5 [.ref kr,.ref (J.n+1),.int (Int.ofNat k),b,c] = .ok () s5 _:=bZ (i:=3) hb
     refine zQ (Ad (scr:=scr) hF h (XH _) hk hm G hc) fun s6 as' v' q1 q2 q3=>?_
     exact⟨_,_,_,_,_,hn,hs,q1,as',_,v',q2,rfl,rfl,q3⟩)
    (fun s6 Z6 zz=>bw (by show ¬(0:Int)+_<_;simp)) (vx as b c (grow _ G) rfl hb hc)
   refine⟨_,_,_,_,_,hn,hs,(aB g1).trans rfl,as',_,b',c',?_,rfl,rfl,k1,k2⟩
   rw[show 2 ^ (k+1)=2 ^ k+2 ^ k by dsimp only[Nat.pow_succ];omega]
   exact G4)
  (fun s6 Z6 zz=>bw (by decide)) (Ee [J.n] .ah .ah .ah (grow _ G0) rfl rfl rfl rfl)
 haveI E3:Ext J J3:=⟨G3.ok,G3.old,G3.fz,by haveI:=G3.le;haveI:=G3.ok.get G3.cW;exact YE (YE this)⟩
 refine⟨J3,J.n+1,as,dA (e2:=[.ref kr,.ah,.ah,.ah,.ah]) (e3:=[.ref kr,.ref (J.n+1),a,b,c]) rfl rfl rfl rfl rfl ?_,E3,G3.cW,G3.rows⟩
 exact(aB (J':=J0) (Z':=[.ref kr,.ref (J.n+1),.ah,.ah,.ah]) rfl).trans ((aB h1).trans (dJ rfl))
end
section
variable {ls:List (List Int)}{as:List Nat}{k:Nat}
section
variable {J J':aq}{scr:List Int}{Z:List V}
theorem aH.drop(h:aH J as ls):aH J (as.drop 1) (ls.drop 1):=by
 cases h with
 |nil=>exact .nil
 |cons h t=>exact t
theorem jL{x:M V}{vs:List V}(h1:x J Z = .ok (.ref k) J Z)(hk:J.t.get k=some (.list vs))(hl:vs.length<1000):gR x (some (.ret (.int 1))) none J Z = .ok (.ref J.n) (J.adds [.list (vs.drop 1)]) Z:=by
 refine(ag h1).trans ?_
 refine(ag (ob k hk)).trans ?_
 show M.gi ((vs.take vs.length).drop 1) _ _=_
 rw[Yu]
 exact dm (os:=[]) (by rw[List.length_drop];exact om [_,_] [(.s (.v 0),.n 1000),(.v 1,.v 0)] (.v 1,.n 10000) rfl hl (Nat.sub_le _ _))
theorem CZ{x y:Int}(h:V.int x = .int y):x=y:=by cases h;rfl
theorem yh{x y:List V}(h:O.list x = .list y):x=y:=by cases h;rfl
theorem vW:∀ {a b:List Int},ns a=ns b->a=b
 |[],[],_=>rfl
 |[],_::_,h=>by contradiction
 |_::_,[],h=>by contradiction
 |x::a,y::b,h=>by
  refine bU (XO h) fun h1 h2=>?_
  exact(CZ h1)▸(vW h2)▸rfl
theorem aH.nodup(h:aH J as ls)(hn:ls.Nodup):as.Nodup:=by
 induction h with
 |nil=>exact WR
 | @cons k l ks ls h t ih=>
  obtain⟨h1,h2⟩:=ZN.mp hn
  refine ZN.mpr ⟨fun q=>?_,ih h2⟩
  obtain⟨i,hi,e⟩:=Zt.mp q
  refine aF (t.at (e▸(Z7 hi))) fun l' g1 g2=>?_
  replace g2:=(h).symm.trans g2
  haveI g2:=Z9 g2
  haveI g2:=yh g2
  haveI:l=l':=vW g2
  exact h1 (this▸ZK g1)
theorem aH.AF(h:aH J as ls)(hk:J.t.get k=some (.list (as.map .ref))):k∉as:=fun q=>by
 obtain⟨i,hi,e⟩:=Zt.mp q
 refine aF (h.at (e▸(Z7 hi))) fun l g1 g2=>?_
 replace g2:=(hk).symm.trans g2
 have g2:=yh (Z9 g2)
 clear e;clear h;clear hk;clear q;cases as with
 |nil=>exact absurd hi (YX _)
 |cons a r=>
  clear g1;cases l with
  |nil=>cases g2
  |cons x r=>cases(XO g2).1
theorem wq{a:Nat}{l:List Int}(hk:J.t.get k=some (.list (as.map .ref)))(h:aH J as ls)(ha:J.t.get a=some (.list (ns l))):vJ J (.ref a) (.ref k)=some (ls.any fun l'=>decide (l'=l)):=by
 show(J.t.get k).bind _=_
 refine hk▸?_
 show(gN J (.ref a) _).map anyB=_
 haveI:gN J (.ref a) (as.map .ref)=some (ls.map fun l'=>decide (l'=l)):=by
  clear hk
  induction h with
  |nil=>rfl
  | @cons k l' ks ls h t ih=>
   show(match gx J (98+2) (.ref k) (.ref a),gN J (.ref a) _ with
    |some c,some r=>some (c::r)
    |_,_=>none)=_
   rw[ih,kD h ha];rfl
 rw[this]
 show some (anyB _)=_
 congr 1
 clear this h hk
 induction ls with
 |nil=>rfl
 |cons l' r ih=>show(_||anyB _)=_;rw[ih,List.any_cons]
theorem tP{x y:M Bool}{a b:Bool}{J2:aq}(h1:x J Z = .ok a J Z)(h2:a=true->y J Z = .ok b J2 Z)(h3:a=false->J2=J/\b=false):eI .And [x,y] J Z = .ok (a&&b) J2 Z:=by
 refine(ag h1).trans ?_
 clear h1;cases a with
 |false=>obtain⟨rfl,rfl⟩:=h3 rfl;rfl
 |true=>refine(ag (h2 rfl)).trans ?_;clear h2;clear h3;cases b<;>rfl
theorem pQ{x y:M Bool}{b:Bool}{J1 J2:aq}(h1:x J Z = .ok false J1 Z)(h2:y J1 Z = .ok b J2 Z):eI .Or [x,y] J Z = .ok b J2 Z:=by
 refine(ag h1).trans ?_
 refine(ag h2).trans ?_
 clear h2;cases b<;>rfl
theorem qU{x:M V}{l:List Int}(h:x J Z = .ok (.ref k) J' Z)(hk:J'.t.get k=some (.list (ns l))):aG x J Z = .ok (decide (l≠[])) J' Z:=by
 refine mM h ?_
 show(J'.t.get k).bind wF=_
 refine hk▸?_
 clear hk;cases l<;>rfl
structure HB(J:aq)(c0 c1 kc kW:Nat)(wk:List Nat)(kt:Nat->Nat)(f:Nat->Int)(s:Nat->Nat):Prop where
 cls:jf J kc kt f s
 g0:J.t.get c0=some (.cell (.ref kc))
 g1:J.t.get c1=some (.cell (.ref kW))
 lst:J.t.get kW=some (.list (wk.map .ref))
 rows:aH J wk ((List.range 8).map (WL f s))
 fz:J.fz=[]
variable {c0 c1 kc kW:Nat}{wk:List Nat}{kt:Nat->Nat}{f:Nat->Int}{s:Nat->Nat}
theorem HB.ext(h:HB J c0 c1 kc kW wk kt f s)(E:Ext J J'):HB J' c0 c1 kc kW wk kt f s:=⟨h.cls.ext E,E.old _ _ h.g0,E.old _ _ h.g1,E.old _ _ h.lst,h.rows.mono E.old,E.fz.trans h.fz⟩
theorem HB.ok(h:HB J c0 c1 kc kW wk kt f s):J.Ok:=h.cls.ok
theorem HB.Ap(h:HB J c0 c1 kc kW wk kt f s):wk.length=8:=by refine(h.rows.len).trans ?_;simp
theorem HB.rl(h:HB J c0 c1 kc kW wk kt f s){j:Nat}(hj:j<8):∃ x,wk[j]? = some x/\J.t.get x=some (.list (ns (WL f s j))):=by
 have hl:=h.Ap
 refine aF (h.rows.at (Z7 (i:=j) (by omega))) fun l g1 g2=>?_
 refine aY _ (Z7 (by omega)) ?_
 rw[ZH,XB hj] at g1
 obtain rfl:=Z9 g1
 exact g2
theorem HB.idx(h:HB J c0 c1 kc kW wk kt f s){j x:Nat}{y:M V}(h2:V.at Z 2 = .aI c1)(hy:y J Z = .ok (.int (Int.ofNat j)) J Z)(hx:wk[j]? = some x):aD 0 scr (af 2) y J Z = .ok (.ref x) J Z:=
 di (ba h2 h.g1 nofun) hy h.lst (by rw[Z0,h.Ap];decide) (by refine(ZH)▸hx▸?_;rfl)
theorem eZ{m:Nat}:(WL f s m).length<=16:=oM
theorem wm{n:Nat}(hC:∀ m,m<8->WL f s m≠[]->oY [(WL f s m).headD 0,Int.ofNat (cO s m 3),0] (WL f s m)=true)(h:HB J c0 c1 kc kW wk kt f s){r:List V}(hr:∃ v,Z = .aI c0::v::.aI c1::r/\aE v=none) :
  ∃ J2 v,dB (.one 1) (aS scr.length .cX [.ret (.int 1),.ret (.int 8)]) (au [br (eI .And [aG (aD 0 scr (af 2) (af 1)),aG (aO .NotEq (el (FL scr (n+1)) 16 [eList [aD 0 scr (aD 0 scr (af 2) (af 1)) (.ret (.int 0)),el (FL scr (n+1)) 18 [af 0,af 1],.ret (.int 0)]]) (aD 0 scr (af 2) (af 1)))]) (au [b9 (.ret (.bool false))]) (au [])]) J Z = .ok .next J2 (.aI c0::v::.aI c1::r)/\Ext J J2/\aE v=none:=by
 refine aF hr fun v0 qz5 hv0=>?_;clear hr;refine qz5▸?_
 haveI hJ:=h.ok
 haveI E0:=Ext.adds hJ [.bD 1 8]
 obtain⟨J3,Z3,h1,v,E,rfl,hv⟩:=eV (J:=J) (J1:=J.adds [.bD 1 8]) (t:=.one 1) (N:=7)
  (b:=au [br _ (au _) (au [])])
  (P:=fun i J' Z'=>∃ v,Ext J J'/\Z' = .aI c0::v::.aI c1::r/\aE v=none)
  (lN (y:=.ret (.int 1)) (z:=.ret (.int 8)) (m:=1) (k:=8) rfl rfl rfl rfl) (cb (o:=.bD 1 8) (aq.ai hJ (i:=0) rfl)) rfl (by decide)
  (fun i hi s' Z' hp=>by
   refine iu hp fun v E qz0 hv=>?_;clear hp;subst qz0
   have H:=h.ext E
   have hn:eH s' (.bD 1 8) i=some (some (.int (Int.ofNat (i+1)))):=by
    haveI:=dn (J:=s') (a:=1) (b:=8) (i:=i) (by omega)
    replace this:=(show(1:Int)+(i:Int)=Int.ofNat (i+1) by show(1:Int)+(i:Int)=((i+1:Nat):Int);omega)▸this
    exact this
   haveI hs:aA 0 (.one 1) _ s' (.aI c0::v::.aI c1::r) = .ok () s' (.aI c0::.int (Int.ofNat (i+1))::.aI c1::r):=bZ (i:=1) hv
   refine aF (H.rl (j:=i+1) (Yr ‹_›)) fun x x1 x2=>?_
   have hx:∀ {s2:aq},Ext s' s2->aD 0 scr (af 2) (af 1) s2 _ = .ok (.ref x) s2 (.aI c0::.int (Int.ofNat (i+1))::.aI c1::r):=fun E2=>(H.ext E2).idx rfl rfl x1
   haveI ht:=qU (hx (Ext.refl H.ok)) x2
   by_cases q:WL f s (i+1)=[]
   ·haveI ht2:=tP (y:=aG (aO .NotEq (el (FL scr (n+1)) 16 [eList [aD 0 scr (aD 0 scr (af 2) (af 1)) (.ret (.int 0)),el (FL scr (n+1)) 18 [af 0,af 1],.ret (.int 0)]]) (aD 0 scr (af 2) (af 1)))) (b:=false) (J2:=s') ht (fun e=>by rw[Zo (fun w=>w q)] at e;contradiction) (fun zz=>⟨rfl,rfl⟩)
    rw[Bool.and_false] at ht2
    exact⟨_,_,_,_,_,hn,hs,(aB ((bf ht2).trans rfl)).trans rfl,_,E,rfl,rfl⟩
   ·have hc:=hC (i+1) (Yr ‹_›) q
    refine nz (XM q) fun a l hal=>?_
    haveI e1:aD 0 scr _ (.ret (.int 0)) s' _ = .ok (.int a) s' _:=di (j:=0) (hx (Ext.refl H.ok)) rfl x2 (by haveI:=eZ (f:=f) (s:=s) (m:=i+1);rw[Z0];exact ZG this (ZQ _ 4611686018427387887)) (by exact hal▸rfl)
    refine df (lO (scr:=scr) H.cls (FL scr n) (.aI c0::.int (Int.ofNat (i+1))::.aI c1::r) (m:=i+1) (Yr ‹_›)) fun g c18=>?_
    haveI e2:el (FL scr (n+1)) 18 [af 0,af 1] s' _=_:=(ag (ff (ba rfl H.g0 nofun) (y:=af 1) rfl)).trans c18
    haveI e3:=
     (ag (pk e1 e2 (z:=.ret (.int 0)) (c:=.int 0) rfl)).trans (dm (J:=s') (os:=g) (vs:=ns [a,Int.ofNat (cO s (i+1) 3),0]) (by show 3<=10000;decide))
    have E2:=Ext.adds H.ok (g++[.list (ns [a,Int.ofNat (cO s (i+1) 3),0])])
    haveI hg:=qoE H.ok g (.list (ns [a,Int.ofNat (cO s (i+1) 3),0])) rfl
    rw[hal] at hc
    haveI hm:=qL (F:=FL scr n) (scr:=scr) (e:=.aI c0::.int (Int.ofNat (i+1))::.aI c1::r) (by exact E2.fz▸H.fz▸rfl) hg hc
    haveI e4:el (FL scr (n+1)) 16 [eList _] s' _=_:=(ag (fY e3)).trans hm
    haveI E3:=E2.trans (Ext.adds E2.ok [.list (ns (a::l))])
    haveI hcmp:=bQ (op:=.NotEq) e4 (hx E3) ((ZV (Option.map not) (kD (n:=98) (ys:=a::l) (aq.ai E2.ok (i:=0) rfl) (hal▸E3.old _ _ x2))).trans (by rw[ZA rfl];rfl))
    rw[ZA q] at ht
    haveI ht2:=tP ht (fun zz=>hcmp) (fun e=>by contradiction)
    exact⟨_,_,_,_,_,hn,hs,(aB ((bf ht2).trans rfl)).trans rfl,_,E.trans E3,rfl,rfl⟩)
  (fun s' Z' zz=>bw (by decide)) (iF v0 E0 rfl hv0)
 exact rm J3 v h1 E hv
end
end
noncomputable def gX(acc:List (List Int))(l:List Int):List (List Int):=if decide (l≠[])&&!acc.any (fun l'=>decide (l'=l)) then acc++[l] else acc
noncomputable def j6(ls:List (List Int)):List (List Int):=ls.foldl gX []
theorem vK(ls:List (List Int))(l:List Int):j6 (ls++[l])=gX (j6 ls) l:=by skip;refine(List.foldl_append).trans ?_;rfl
theorem rt:∀ ls:List (List Int),(j6 ls).length<=ls.length:=fun ls=>by
 haveI:∀ (ls acc:List (List Int)),(ls.foldl gX acc).length<=acc.length+ls.length:=fun ls=>by
  induction ls with
  |nil=>intro acc;exact ZE _
  |cons l r ih=>
   intro acc
   haveI h1:=ih (gX acc l)
   haveI h2:(gX acc l).length<=acc.length+1:=by
    unfold gX
    split
    ·simp
    ·exact XH _
   dsimp only[List.length_cons];exact om [_,_,_,_] [(.v 0,.a (.v 1) (.v 2)),(.v 1,.s (.v 3))] (.v 0,.a (.v 3) (.s (.v 2))) rfl h1 h2
 haveI:=this ls []
 simpa [j6] using this
noncomputable def sr(c0 c1 kR kM km:Nat)(v1 v6:V):List V:=[.aI c0,v1,.aI c1,.ref kR,.ref kM,.ref km,v6,.ah,.ah,.ah,.ah,.ah]
section
variable {J:aq}{c0 c1 kR kM:Nat}{v1:V}
inductive GK(J:aq)(c0 c1 kR kM:Nat)(v1:V)(TL:List (List Int)):Prop where
 |mk (J2:aq) (as:List Nat) (v6:V) (h:dB (.one 6) (gR (af 4) (some (.ret (.int 1))) none) (au [br (eI .And [aG (af 6),aG (aO .NotIn (af 6) (af 5))]) (au [aZ (bE 0 (af 5) .append [af 6])]) (au [])]) (J.adds [.list []]) (sr c0 c1 kR kM J.n v1 .ah) = .ok .next J2 (sr c0 c1 kR kM J.n v1 v6))
  (G:lh J J2 J.n as (j6 (TL.drop 1)))
theorem tw{ms:List Nat}{TL:List (List Int)}(hJ:J.Ok)(hM:J.t.get kM=some (.list (ms.map .ref)))(hr:aH J ms TL)(hl:TL.length<=8):GK J c0 c1 kR kM v1 TL:=by
 haveI G0:=lh.start hJ
 haveI hml:=hr.len
 haveI hsl:=jL (x:=af 4) (Z:=sr c0 c1 kR kM J.n v1 .ah) rfl (G0.old _ _ hM) (by rw[Z0];exact om [_,_] [(.v 0,.n 8),(.v 1,.v 0)] (.s (.v 1),.n 1000) rfl hl (eE hml))
 have hn0:(J.adds [.list []]).n=J.n+1:=by rw[aq.cf];rfl
 haveI E1:=Ext.adds G0.ok [.list ((ms.map .ref).drop 1)]
 haveI G1:lh J _ J.n [] []:=⟨E1.ok,fun k o e=>E1.old _ _ (G0.old k o e),E1.old _ _ G0.cW,.nil,E1.fz.trans G0.fz,ZE _,YJ⟩
 haveI hS:((J.adds [.list []]).adds [.list ((ms.map .ref).drop 1)]).t.get (J.n+1)=some (.list ((ms.drop 1).map .ref)):=by
  exact hn0▸WJ▸(aq.ai G0.ok (i:=0) rfl)
 have hrd:=hr.drop
 obtain⟨J3,Z3,h1,as,v6,G,_,rfl,_⟩:=eV (it:=.lst (J.n+1)) (N:=(TL.drop 1).length)
  (b:=au [br _ (au [aZ _]) (au [])])
  (P:=fun i J' Z'=>∃ as v6,lh J J' J.n as (j6 ((TL.drop 1).take i))/\J'.t.get (J.n+1)=some _/\Z'=sr c0 c1 kR kM J.n v1 v6/\aE v6=none)
  hsl (hn0▸(cb hS)) rfl (by rw[List.length_drop];exact om [_,_] [(.v 0,.n 8),(.v 1,.v 0)] (.s (.v 1),.n 2000) rfl hl (Nat.sub_le _ _))
  (fun i hi s' Z' hp=>by
   refine xT hp fun as v6 G hS qz1 hv=>?_;clear hp;subst qz1
   obtain⟨a,ha⟩:∃ a,(ms.drop 1)[i]? = some a:=⟨_,Z7 (hrd.len▸hi)⟩
   refine aF (hrd.at ha) fun l l1 l2=>?_
   haveI hn:eH s' _ i=some (some (.ref a)):=by rw[cE hS,ZH,ha];rfl
   haveI hs:aA 0 (.one 6) (.ref a) s' (sr c0 c1 kR kM J.n v1 v6) = .ok () s' (sr c0 c1 kR kM J.n v1 (.ref a)):=bZ hv
   have la:=G.old _ _ l2
   haveI ht:=qU (x:=af 6) (Z:=sr c0 c1 kR kM J.n v1 (.ref a)) rfl la
   haveI hin:=bQ (op:=.NotIn) (x:=af 6) (y:=af 5) (Z:=sr c0 c1 kR kM J.n v1 (.ref a)) rfl rfl ((ZV (Option.map not) (wq G.cW G.rows la)).trans rfl)
   haveI htk:j6 ((TL.drop 1).take (i+1))=gX _ l:=by
    rw[List.take_add_one,l1]
    exact vK _ _
   have hand:eI .And [aG (af 6),aG (aO .NotIn (af 6) (af 5))] s' (sr c0 c1 kR kM J.n v1 (.ref a)) = .ok (decide (l≠[])&&!(j6 ((TL.drop 1).take i)).any fun l'=>decide (l'=l)) s' (sr c0 c1 kR kM J.n v1 (.ref a)):=by
    refine(ag ht).trans ?_
    cases decide (l≠[]) with
    |false=>rfl
    |true=>
     refine(ag hin).trans ?_
     cases(j6 _).any fun l'=>decide (l'=l)<;>rfl
   haveI hasl:as.length<=8:=by
    rw[G.rows.len]
    haveI:=rt ((TL.drop 1).take i)
    rw[Ym,List.length_drop] at this
    omega
   haveI hne:a≠J.n:=by haveI:=hJ.get l2;exact Zk ‹_›
   refine lQ (decide (l≠[])&&!(j6 ((TL.drop 1).take i)).any fun l'=>decide (l'=l)) (fun q=>?_) fun q=>?_
   ·replace hand:=q▸hand
    refine⟨_,_,_,_,_,hn,hs,(aB ((bf hand).trans rfl)).trans rfl,as,_,?_,hS,rfl,rfl⟩
    rw[htk]
    unfold gX
    exact q▸G
   ·rw[q] at hand
    have ap:=dC (x:=af 5) (y:=af 6) (Z:=sr c0 c1 kR kM J.n v1 (.ref a)) rfl G.cW rfl G.cW (by rw[Z0];exact om [_] [(.v 0,.n 8)] (.s (.v 0),.n 10000) rfl hasl)
    refine⟨_,_,_,_,_,hn,hs,(aB ((bf hand).trans ((aB ap).trans rfl))).trans rfl,as++[a],_,?_,aK hS (Yw (om [_] [] (.s (.v 0),.s (.v 0)) rfl)),rfl,rfl⟩
    rw[htk]
    unfold gX
    rw[q]
    exact G.put hJ (Ext.refl G.ok) la hne)
  (fun s' Z' hp=>by
   refine vR hp fun as v6 G hS zz=>?_;clear hp
   rw[cE hS,Yq (by rw[Z0,hrd.len];exact ZE _)]) (vq [] .ah G1 hS rfl rfl)
 rw[Yu] at G
 exact⟨J3,as,v6,h1,G⟩
end
section
variable {J J':aq}
abbrev Rf(f:Nat->Int)(s:Nat->Nat)(i:Nat):List Int:=d6 17 (f i) (Int.ofNat (s i))
abbrev bg(f:Nat->Int)(s:Nat->Nat):List (List Int):=j6 ((ML (Rf f s)).drop 1)
noncomputable def dq(f:Nat->Int)(s:Nat->Nat):List Int:=iq (WL f s 0) (WL f s 1++WL f s 2++WL f s 4)
structure PF(f:Nat->Int)(s:Nat->Nat)(p:Nat):Prop where
 r1:Rf f s 0=WL f s 1
 r2:Rf f s 1=WL f s 2
 r4:Rf f s 2=WL f s 4
 b:(ML (Rf f s)).drop 1=((List.range 8).map (WL f s)).drop 1
 c:∀ m,m<8->WL f s m≠[]->oY [(WL f s m).headD 0,Int.ofNat (cO s m 3),0] (WL f s m)=true
 cc:Bj (bg f s)
 nd:(bg f s).Nodup
 p1:1<=p/\p<128
 ab:er (bG (bg f s)) (bg f s).length (bg f s).length=fW p
 rd:cn (fV (qy p) (cC p).length (cC p).length) (cC p).length=cn (fV (bG (bg f s)) (bg f s).length (bg f s).length) (bg f s).length
 kl:(bg f s).length=(cC p).length
 w0:WL f s 0=iG 1 16
 wt:∀ w:Nat->Int,(∀ c,c∈parts->iy p c=true->pa w p c (cC p).length = -1)->∀ z,(cz (bg f s) w (bg f s).length).count z+(dq f s).count z=(dI (bg f s) w (bg f s).length).count z
 la:bT 2000 (iG 1 16) (sortI (Rf f s 0++Rf f s 1++Rf f s 2))=(dq f s,[])
 so:∀ ys:List Int,(∀ z,ys.count z=(dq f s).count z)->sortI ys=dq f s
theorem se{l:List (Int×Int)}{k w:Int}(h:l.lookup k=some w):(l.map fun p=>(p.1,V.int p.2)).lookup k=some (.int w):=by
 induction l with
 |nil=>contradiction
 |cons p r ih=>
  rw[Y4] at h
  rw[Zi,Y4]
  refine lQ (k==p.1) (fun q=>?_) fun q=>?_
  ·rw[q] at h;exact ih h
  ·rw[q] at h;dsimp only at h;clear ih;obtain rfl:=Z9 h;rfl
theorem rh{p:Nat}{d:List (List Int)×List (Int×Int)×Unit}(h:mr p d=true):d.1=cn (fV (qy p) (cC p).length (cC p).length) (cC p).length/\(∀ k,k<(cC p).length->d.2.1.lookup (Int.ofNat k)=some (mP d.2.1 k)/\(mP d.2.1 k).natAbs<=10)/\∀ c,c∈parts->iy p c=true->pa (mP d.2.1) p c (cC p).length = -1:=by
 unfold mr at h
 simp only[ZJ,YH] at h
 refine bU h fun qz1 h4=>?_;clear h;obtain⟨⟨h1,h2⟩,h3⟩:=qz1
 refine c9 h1 (fun k hk=>?_) (fun c hc hp=>?_)
 ·have:=Zz.mp h3 k (Y6.mpr hk)
  unfold mP
  refine bI (d.2.1.lookup _) (fun q=>?_) fun w q=>?_
  ·rw[q] at this;exact Bool.noConfusion this
  ·rw[q] at this;exact⟨rfl,ZL this⟩
 ·haveI:=Zz.mp h4 c hc
  rw[hp] at this
  exact ZL this
theorem j5{F:eP}{k:Nat}{x:M V}{v:V}{J1:aq}{Z:List V}{r:Rs V}(h:x J Z = .ok v J1 Z)(h2:F k [v] J1 Z=r):el F k [x] J Z=r:=by
 skip
 exact(ag (fY h)).trans h2
structure yR(J J':aq):Prop where
 ok:J'.Ok
 old:∀ k o,(∀ j,o≠.tab j)->J.t.get k=some o->J'.t.get k=some o
 fz:J'.fz=J.fz
theorem yR.rows(E:yR J J'){as:List Nat}{ls:List (List Int)}(h:aH J as ls):aH J' as ls:=by
 induction h with
 |nil=>exact .nil
 |cons h t ih=>exact .cons (E.old _ _ nofun h) ih
theorem HB.CI{c0 c1 kc kW:Nat}{wk:List Nat}{kt:Nat->Nat}{f:Nat->Int}{s:Nat->Nat}(h:HB J c0 c1 kc kW wk kt f s)(E:yR J J'):HB J' c0 c1 kc kW wk kt f s:=
 ⟨⟨E.ok,E.old _ _ nofun h.cls.lst,fun i hi=>E.old _ _ nofun (h.cls.tup i hi),h.cls.lo,h.cls.hi⟩,E.old _ _ nofun h.g0,E.old _ _ nofun h.g1,E.old _ _ nofun h.lst,E.rows h.rows,E.fz.trans h.fz⟩
theorem Mem.CI{km:Nat}{ks:List Nat}{rs:List (List Int)}(h:Mem J km ks rs)(E:yR J J'):Mem J' km ks rs:=⟨E.ok,E.old _ _ nofun h.lst,E.rows h.rws,h.len,h.row,h.zM⟩
section
variable {scr:List Int}{J:aq}{kc:Nat}{kt:Nat->Nat}{f:Nat->Int}{s:Nat->Nat}{p:Nat}
noncomputable def hE(c0 c1:Nat)(v1 v3 v4 v5 v6 v7 v8 v9 v10 v11:V):List V:=[.aI c0,v1,.aI c1,v3,v4,v5,v6,v7,v8,v9,v10,v11]
noncomputable def zy(scr:List Int):List (M Fl):=(cq.body (FL scr 11) scr).take 12
noncomputable def Cd(scr:List Int):List (M Fl):=(cq.body (FL scr 11) scr).drop 12
inductive H1(scr:List Int)(J:aq)(kc:Nat)(kt:Nat->Nat)(f:Nat->Int)(s:Nat->Nat)(p:Nat):Prop where
 |mk (J2:aq) (c0 c1 kW:Nat) (wk:List Nat) (v1 v6 v7:V) (kR:Nat) (rr:List Nat) (kM:Nat) (ms:List Nat) (km:Nat) (as:List Nat) (t kr kw:Nat) (d:List (List Int)×List (Int×Int)×Unit)
  (h:∀ r,au (zy scr++r) (J.adds [.cell (.ref kc),.cell .ah]) (hE J.n (J.n+1) .ah .ah .ah .ah .ah .ah .ah .ah .ah .ah)=au r J2 (hE c0 c1 v1 (.ref kR) (.ref kM) (.ref km) v6 v7 (.ref t) .ah .ah .ah))
  (B:HB J2 c0 c1 kc kW wk kt f s) (lR:J2.t.get kR=some (.list (rr.map .ref))) (rR:aH J2 rr [Rf f s 0,Rf f s 1,Rf f s 2]) (lM:J2.t.get kM=some (.list (ms.map .ref))) (rM:aH J2 ms (ML (Rf f s)))
  (M:Mem J2 km as (bg f s)) (ht:J2.t.get t=some (.tup [.ref kr,.ref kw])) (hw:J2.t.get kw=some (.dict (d.2.1.map fun p=>(p.1,.int p.2)))) (hd:mr p d=true) (tx:J2.t.get 0=some .gA)
theorem EZ(C:jf J kc kt f s)(hz:J.fz=[])(htab:J.t.get 0=some (.tab 0))(hf:∀ i,i<3->1<=f i/\f i<=8)(Pf:PF f s p)(hrun:∃ d,jK [] zP [0] rows res (au (cN.body (FL scr 10) scr)) (fW p) d/\mr p d=true):H1 scr J kc kt f s p:=by
 have hJ:=C.ok
 haveI E0:=Ext.adds hJ [.cell (.ref kc),.cell .ah]
 have C0:=C.ext E0
 haveI g0:(J.adds [.cell (.ref kc),.cell .ah]).t.get J.n=some (.cell (.ref kc)):=aq.ai hJ (i:=0) rfl
 haveI g1:(J.adds [.cell (.ref kc),.cell .ah]).t.get (J.n+1)=some (.cell .ah):=aq.ai hJ rfl
 haveI hz0:(J.adds [.cell (.ref kc),.cell .ah]).fz=[]:=by rw[aq.dk,hz]
 haveI ht0:=E0.old _ _ htab
 obtain⟨J0,hJ0⟩:∃ J0,J0=J.adds [.cell (.ref kc),.cell .ah]:=⟨_,rfl⟩
 obtain⟨n,hnn⟩:∃ n,n=J.n:=⟨_,rfl⟩
 rw[<-hJ0,<-hnn] at g0 g1
 rw[<-hJ0] at C0 hz0 ht0
 clear E0 C hz htab
 refine g9 (yH (scr:=scr) (n:=10) C0 g0 (Z:=hE n (n+1) .ah .ah .ah .ah .ah .ah .ah .ah .ah .ah) rfl) fun J1 kW wk h0 G=>?_
 haveI hkWn:=fun q=>by have:=C0.ok.get g1;haveI:=G.le;exact Yn 0 (om [_,_,_] [(.v 0,.s (.v 1)),(.s (.s (.v 1)),.v 2),(.v 2,.v 0)] (.s (.n 0),.n 0) rfl (eE q) (by assumption) this)
 have g1':=G.old _ _ g1
 haveI s0:aJ _ [aA 0 (.one 2)] J0 (hE n (n+1) .ah .ah .ah .ah .ah .ah .ah .ah .ah .ah) = .ok .next (J1.put (n+1) (.cell (.ref kW))) (hE n (n+1) .ah .ah .ah .ah .ah .ah .ah .ah .ah .ah):=by
  haveI e2:bt 2 (.ref kW) J1 (hE n (n+1) .ah .ah .ah .ah .ah .ah .ah .ah .ah .ah) = .ok () (J1.put (n+1) (.cell (.ref kW))) (hE n (n+1) .ah .ah .ah .ah .ah .ah .ah .ah .ah .ah):=j3 rfl g1'
  haveI e3:gU [aA 0 (.one 2)] (.ref kW) J1 (hE n (n+1) .ah .ah .ah .ah .ah .ah .ah .ah .ah .ah) = .ok () (J1.put (n+1) (.cell (.ref kW))) (hE n (n+1) .ah .ah .ah .ah .ah .ah .ah .ah .ah .ah):=(ag e2).trans rfl
  exact fC h0 e3
 haveI hnw:n+1∉wk:=fun q=>by
  obtain⟨i,hi,e⟩:=Zt.mp q
  refine aF (G.rows.at (e▸(Z7 hi))) fun l zz q2=>?_
  rw[g1'] at q2;have h__:=Z9 q2;cases h__
 have cell:∀ {k:Nat} {o:O},J1.t.get k=some o->(∀ v,o≠.cell v)->(J1.put (n+1) (.cell (.ref kW))).t.get k=some o:=fun e h=>aK e (fun q=>by rw[q,g1'] at e;obtain rfl:=Z9 e;exact h _ rfl)
 have B1:HB (J1.put (n+1) (.cell (.ref kW))) n (n+1) kc kW wk kt f s:=⟨⟨G.ok.put _ _,cell (G.old _ _ C0.lst) nofun,fun i hi=>cell (G.old _ _ (C0.tup i hi)) nofun,C0.lo,C0.hi⟩,aK (G.old _ _ g0) (Zk (om [_] [] (.s (.v 0),.s (.v 0)) rfl)),cQ g1',cell G.cW nofun,G.rows.yT hnw,G.fz.trans hz0⟩
 haveI t1:=cell (G.old _ _ ht0) nofun
 generalize J1.put (n+1) (.cell (.ref kW))=J2 at s0 B1 t1
 clear cell G g1' h0
 refine g9 (vC (scr:=scr) (n:=10) B1.cls B1.fz hf B1.g0 (Z:=hE n (n+1) .ah .ah .ah .ah .ah .ah .ah .ah .ah .ah) rfl) fun J3 kR rr h1 G3=>?_
 haveI s1:=fF (i:=3) h1 rfl
 have E3:Ext J2 J3:=⟨G3.ok,G3.old,G3.fz,by haveI:=G3.le;haveI:=G3.ok.get G3.cW;exact om [_,_,_] [(.v 0,.v 1),(.s (.v 1),.v 2)] (.v 0,.v 2) rfl (by assumption) this⟩
 have B3:=B1.ext E3
 haveI t3:=E3.old _ _ t1
 have rR:aH J3 rr [Rf f s 0,Rf f s 1,Rf f s 2]:=G3.rows
 have lR:=G3.cW
 haveI s1:aJ (bz (af 0) (.many [1,2]) [] (cw (el (FL scr 11) 16 [eList [af 1,af 2,.ret (.int 0),af 1]])) [(".0",.loc),("first",.loc),("step",.loc)]) [aA 0 (.one 3)] J2 (hE n (n+1) .ah .ah .ah .ah .ah .ah .ah .ah .ah .ah) = .ok .next J3 (hE n (n+1) .ah (.ref kR) .ah .ah .ah .ah .ah .ah .ah .ah):=s1
 clear G3 E3 B1 t1 h1
 refine aF (B3.rl (j:=1) (by decide)) fun x1 y1 z1=>?_
 refine aF (B3.rl (j:=2) (by decide)) fun x2 y2 z2=>?_
 refine aF (B3.rl (j:=4) (by decide)) fun x4 y4 z4=>?_
 haveI e2:eList [aD 0 scr (af 2) (.ret (.int 1)),aD 0 scr (af 2) (.ret (.int 2)),aD 0 scr (af 2) (.ret (.int 4))] J3 (hE n (n+1) .ah (.ref kR) .ah .ah .ah .ah .ah .ah .ah .ah) = .ok (.ref J3.n) (J3.adds [.list ([x1,x2,x4].map .ref)]) (hE n (n+1) .ah (.ref kR) .ah .ah .ah .ah .ah .ah .ah .ah):=
  (ag (pk (B3.idx rfl rfl y1) (B3.idx rfl rfl y2) (B3.idx rfl rfl y4))).trans (dm (os:=[]) (by show 3<=10000;decide))
 have E4:=Ext.adds B3.ok [.list ([x1,x2,x4].map .ref)]
 haveI q2:=bQ (op:=.NotEq) (x:=af 3) (Z:=hE n (n+1) .ah (.ref kR) .ah .ah .ah .ah .ah .ah .ah .ah) rfl e2 ((ZV (Option.map not) (lU (E4.old _ _ lR) (aq.ai B3.ok (i:=0) rfl) (rR.mono E4.old) (.cons (E4.old _ _ z1) (.cons (E4.old _ _ z2) (.cons (E4.old _ _ z4) .nil))))).trans (by
  rw[Pf.r1,Pf.r2,Pf.r4,ZA rfl];rfl))
 haveI s2:br _ (au [b9 (.ret (.bool false))]) (au []) J3 (hE n (n+1) .ah (.ref kR) .ah .ah .ah .ah .ah .ah .ah .ah) = .ok .next _ _:=(bf q2).trans rfl
 haveI B4:=B3.ext E4
 haveI t4:=E4.old _ _ t3
 haveI lR:=E4.old _ _ lR
 haveI rR:=rR.mono E4.old
 generalize J3.adds [.list ([x1,x2,x4].map .ref)]=J4 at s2 B4 t4 lR rR
 clear E4 q2 e2 B3 t3 x1 y1 z1 x2 y2 z2 x4 y4 z4
 haveI hR16:∀ i,i<3->(Rf f s i).length<=16:=fun i hi=>by
  match i,hi with
  |0,_=>rw[Pf.r1];exact eZ
  |1,_=>rw[Pf.r2];exact eZ
  |2,_=>rw[Pf.r4];exact eZ
 obtain⟨J5,kM,ms,h3,E5,lM,rM⟩:=yX (F:=FL scr 10) (CU) ⟨B4.ok,lR,rR,hR16⟩ (hE n (n+1) .ah (.ref kR) .ah .ah .ah .ah .ah .ah .ah .ah)
 haveI c3:el (FL scr 11) 19 [af 3] J4 (hE n (n+1) .ah (.ref kR) .ah .ah .ah .ah .ah .ah .ah .ah)=_:=j5 rfl h3
 haveI s3:=fF (i:=4) c3 rfl
 haveI s3:aJ (el (FL scr 11) 19 [af 3]) [aA 0 (.one 4)] J4 (hE n (n+1) .ah (.ref kR) .ah .ah .ah .ah .ah .ah .ah .ah) = .ok .next J5 (hE n (n+1) .ah (.ref kR) (.ref kM) .ah .ah .ah .ah .ah .ah .ah):=s3
 have B5:=B4.ext E5
 haveI t5:=E5.old _ _ t4
 haveI lR:=E5.old _ _ lR
 haveI rR:=rR.mono E5.old
 clear c3 h3 E5 B4 t4
 haveI hml:=rM.len
 haveI e4:=jL (x:=af 4) (Z:=hE n (n+1) .ah (.ref kR) (.ref kM) .ah .ah .ah .ah .ah .ah .ah) rfl lM (by rw[Z0];exact om [_] [(.v 0,.n 8)] (.s (.v 0),.n 1000) rfl (eE hml))
 have E6:=Ext.adds B5.ok [.list ((ms.map .ref).drop 1)]
 have B6:=B5.ext E6
 haveI e5:=jL (x:=af 2) (Z:=hE n (n+1) .ah (.ref kR) (.ref kM) .ah .ah .ah .ah .ah .ah .ah) (ba rfl B6.g1 nofun) B6.lst (by rw[Z0,B6.Ap];decide)
 haveI E7:=Ext.adds E6.ok [.list ((wk.map .ref).drop 1)]
 haveI q4:=bQ (op:=.NotEq) e4 e5 ((ZV (Option.map not) (lU (E7.old _ _ (WJ▸(aq.ai B5.ok (i:=0) rfl))) (by rw[WJ];exact aq.ai E6.ok (i:=0) rfl) ((rM.mono E6.old).mono E7.old).drop ((B6.rows).mono E7.old).drop)).trans (by
  rw[Pf.b,ZA rfl];rfl))
 haveI s4:br _ (au [b9 (.ret (.bool false))]) (au []) J5 _ = .ok .next _ _:=(bf q4).trans rfl
 have E8:=E6.trans E7
 haveI B8:=B6.ext E7
 haveI t8:=E8.old _ _ t5
 haveI lR:=E8.old _ _ lR
 haveI rR:=rR.mono E8.old
 haveI lM:=E8.old _ _ lM
 haveI rM:=rM.mono E8.old
 generalize (J5.adds [.list ((ms.map .ref).drop 1)]).adds [.list ((wk.map .ref).drop 1)]=J8 at s4 B8 t8 lR rR lM rM
 clear q4 e5 e4 E8 E7 B6 E6 B5 t5
 refine vR (wm (n:=10) (scr:=scr) Pf.c B8 (r:=[.ref kR,.ref kM,.ah,.ah,.ah,.ah,.ah,.ah,.ah]) (aY .ah rfl rfl)) fun J9 v1 s5 E9 hv1=>?_
 have B9:=B8.ext E9
 haveI t9:=E9.old _ _ t8
 haveI lR:=E9.old _ _ lR
 haveI rR:=rR.mono E9.old
 have lM:=E9.old _ _ lM
 have rM:=rM.mono E9.old
 clear E9 B8 t8
 obtain⟨Ja,as,v6,s7,Ga⟩:=tw (c0:=n) (c1:=n+1) (kR:=kR) (v1:=v1) B9.ok lM rM (by show 8<=8;decide)
 haveI s6:aJ (eList []) [aA 0 (.one 5)] J9 (.aI n::v1::.aI (n+1)::[.ref kR,.ref kM,.ah,.ah,.ah,.ah,.ah,.ah,.ah]) = .ok .next (J9.adds [.list []]) (sr n (n+1) kR kM J9.n v1 .ah):=rfl
 have Ea:Ext J9 Ja:=⟨Ga.ok,Ga.old,Ga.fz,by haveI:=Ga.le;haveI:=Ga.ok.get Ga.cW;exact YE ‹_›⟩
 haveI Ba:=B9.ext Ea
 haveI ta:=Ea.old _ _ t9
 haveI lR:=Ea.old _ _ lR
 haveI rR:=rR.mono Ea.old
 haveI lM:=Ea.old _ _ lM
 haveI rM:=rM.mono Ea.old
 have Ma:Mem Ja J9.n as (bg f s):=⟨Ga.ok,Ga.cW,Ga.rows,Pf.cc.len,Pf.cc.row,Pf.cc.zM⟩
 generalize J9.n=km at s6 s7 Ma
 clear Ga Ea B9 t9
 refine g9 (xA (F:=FL scr 10) (scr:=scr) (CU) Ma rfl (sr n (n+1) kR kM km v1 v6)) fun Jb T O' h8 Ab=>?_
 haveI c8:el (FL scr 11) 20 [af 5] Ja (sr n (n+1) kR kM km v1 v6)=_:=j5 rfl h8
 haveI s8:=fF (i:=7) c8 rfl
 have Eb:=Ab.ext
 haveI lA:=Ab.c3
 have rA:aH Jb ((List.range (bg f s).length).map fun i=>Ja.n+4+i) (fW p):=by
  refine Pf.ab▸?_
  haveI:=il (er (bG (bg f s)) (bg f s).length (bg f s).length) (Ja.n+4) fun i l e=>by rw[Xv];exact(Ab.row i l e).1
  replace this:=Ab.len▸this
  exact this
 haveI s8:aJ (el (FL scr 11) 20 [af 5]) [aA 0 (.one 7)] Ja (sr n (n+1) kR kM km v1 v6) = .ok .next Jb (hE n (n+1) v1 (.ref kR) (.ref kM) (.ref km) v6 (.ref (Ja.n+3)) .ah .ah .ah .ah):=s8
 have lA':Jb.t.get (Ja.n+3)=some (.list (((List.range (bg f s).length).map fun i=>Ja.n+4+i).map .ref)):=by
  rw[lA,YD]
  congr 2
  refine Yj fun i zz=>?_
  show V.ref (Ja.n+(4+i))=V.ref (Ja.n+4+i)
  rw[Xv]
 have nA:((Ja.n+3)::(List.range (bg f s).length).map fun i=>Ja.n+4+i).Nodup:=by
  refine ZN.mpr ⟨fun q=>?_,List.pairwise_map.mpr (List.nodup_range.imp fun h e=>h (YW (om [_,_,_] [(.a (.a (.v 0) (.n 4)) (.v 1),.a (.a (.v 0) (.n 4)) (.v 2))] (.v 1,.v 2) rfl (eE e)) (om [_,_,_] [(.a (.a (.v 0) (.n 4)) (.v 1),.a (.a (.v 0) (.n 4)) (.v 2))] (.v 1,.v 2) rfl (lC e))))⟩
  refine aF (Za.mp q) fun i zz e=>?_
  exact Yn 0 (om [_,_] [(.a (.a (.v 0) (.n 4)) (.v 1),.a (.v 0) (.n 3))] (.s (.n 0),.n 0) rfl (eE e))
 haveI Bb:=Ba.ext Eb
 haveI tb:=Eb.old _ _ ta
 haveI lR:=Eb.old _ _ lR
 haveI rR:=rR.mono Eb.old
 haveI lM:=Eb.old _ _ lM
 haveI rM:=rM.mono Eb.old
 haveI Mb:=Ma.ext Eb
 generalize hka:Ja.n+3=ka at s8 lA' nA
 generalize (List.range (bg f s).length).map (fun i=>Ja.n+4+i)=aa at rA lA' nA
 clear Ab c8 h8 Eb lA Ba ta Ma
 haveI s9:br (aG (aO .Is (af 7) (.ret .none))) (au [b9 (.ret (.bool false))]) (au []) Jb (hE n (n+1) v1 (.ref kR) (.ref kM) (.ref km) v6 (.ref ka) .ah .ah .ah .ah) = .ok .next Jb _:=rfl
 refine aF hrun fun d hd1 hd2=>?_;clear hrun
 refine gm (rh hd2) fun hg1 hg2 hg3=>?_
 obtain⟨Jc,t,kr,kw,rn,hc,Ec,htt,hr,hrr,hw⟩:=CJ Bb.ok Bb.fz lA' rA nA hd1 _
 haveI c10:el (FL scr 11) 22 [af 7] Jb (hE n (n+1) v1 (.ref kR) (.ref kM) (.ref km) v6 (.ref ka) .ah .ah .ah .ah)=_:=j5 rfl hc
 haveI s10:=fF (i:=8) c10 rfl
 haveI s10:aJ (el (FL scr 11) 22 [af 7]) [aA 0 (.one 8)] Jb _ = .ok .next Jc (hE n (n+1) v1 (.ref kR) (.ref kM) (.ref km) v6 (.ref ka) (.ref t) .ah .ah .ah):=s10
 have Bc:=Bb.ext Ec
 haveI tc:=Ec.old _ _ tb
 haveI lR:=Ec.old _ _ lR
 haveI rR:=rR.mono Ec.old
 haveI lM:=Ec.old _ _ lM
 haveI rM:=rM.mono Ec.old
 haveI Mc:=Mb.ext Ec
 clear c10 hc Ec Bb tb Mb lA' rA nA hd1
 obtain⟨Jd,v,vs,hd,dok,dold,dfz,dv,dr,dtx⟩:=vy (F:=FL scr 10) Mc.ok Bc.fz tc Mc.lst Mc.rws (ZN.mpr ⟨Mc.rws.AF Mc.lst,Mc.rws.nodup Pf.nd⟩) Pf.cc _
 haveI c11:el (FL scr 11) 23 [af 5] Jc (hE n (n+1) v1 (.ref kR) (.ref kM) (.ref km) v6 (.ref ka) (.ref t) .ah .ah .ah)=_:=j5 rfl hd
 haveI f11:=mf (scr:=scr) (x:=af 8) (Z:=hE n (n+1) v1 (.ref kR) (.ref kM) (.ref km) v6 (.ref ka) (.ref t) .ah .ah .ah) rfl htt
 have Ed:yR Jc Jd:=⟨dok,dold,dfz.trans Bc.fz.symm⟩
 haveI q11:=bQ (op:=.NotEq) f11 c11 ((ZV (Option.map not) (lU (as:=rn) (Ed.old _ _ nofun hr) dv (Ed.rows hrr) dr)).trans (by
  rw[hg1,Pf.rd,ZA rfl];rfl))
 haveI o11:=pQ (x:=aG (aO .Is (af 8) (.ret .none))) rfl q11
 haveI s11:br _ (au [b9 (.ret (.bool false))]) (au []) Jc _ = .ok .next _ _:=(bf o11).trans rfl
 refine⟨Jd,n,n+1,kW,wk,v1,v6,.ref ka,kR,rr,kM,ms,km,as,t,kr,kw,d,fun r=>?_,Bc.CI Ed,Ed.old _ _ nofun lR,Ed.rows rR,Ed.old _ _ nofun lM,Ed.rows rM,Mc.CI Ed,Ed.old _ _ nofun htt,Ed.old _ _ nofun hw,hd2,dtx⟩
 exact hJ0▸hnn▸((aB s0).trans ((aB s1).trans ((aB s2).trans ((aB s3).trans ((aB s4).trans ((aB s5).trans ((aB s6).trans ((aB s7).trans ((aB s8).trans ((aB s9).trans ((aB s10).trans (aB s11))))))))))))
end
end
section
variable {Z:List V}{x y:M V}{J:aq}
section
variable {scr:List Int}{J:aq}{kc:Nat}{kt:Nat->Nat}{f:Nat->Int}{s:Nat->Nat}{p:Nat}
theorem pV{z:M V}{a b c:Nat}{la lb lc:List Int}(hJ:J.Ok)(h1:∀ {s},Ext J s->x s Z = .ok (.ref a) s Z)(h2:∀ {s},Ext J s->y s Z = .ok (.ref b) s Z)(h3:∀ {s},Ext J s->z s Z = .ok (.ref c) s Z)(ga:J.t.get a=some (.list (ns la)))(gb:J.t.get b=some (.list (ns lb)))(gc:J.t.get c=some (.list (ns lc)))(l1:la.length<=16)(l2:lb.length<=16)(l3:lc.length<=16) :
  aL .Add (aL .Add x y) z J Z = .ok (.ref (J.n+1)) (J.adds [.list (ns (la++lb)),.list (ns (la++lb++lc))]) Z:=by
 haveI E1:=Ext.adds hJ [.list (ns (la++lb))]
 haveI e1:aL .Add x y J Z = .ok (.ref J.n) (J.adds [.list (ns (la++lb))]) Z:=by
  haveI:=tm (h1 (Ext.refl hJ)) (h2 (Ext.refl hJ)) ga gb (by rw[Z0,Z0];exact om [_,_] [(.v 0,.n 16),(.v 1,.n 16)] (.a (.v 0) (.v 1),.n 10000) rfl l1 l2)
  rw[show ns la++ns lb=ns (la++lb) by simp[ns]] at this
  exact this
 haveI:=tm e1 (h3 E1) (aq.ai hJ (i:=0) rfl) (E1.old _ _ gc) (by rw[Z0,Z0,ZI];exact om [_,_,_] [(.v 0,.n 16),(.v 1,.n 16),(.v 2,.n 16)] (.a (.a (.v 0) (.v 1)) (.v 2),.n 10000) rfl l1 l2 l3)
 rw[show ns (la++lb)++ns lc=ns (la++lb++lc) by simp[ns],aq.cf] at this
 rw[this,aq.eN]
 rfl
theorem mI{k n:Nat}{l:List Int}{J':aq}(h:y J Z = .ok (.ref k) J' Z)(hk:J'.t.get k=some (.list (ns l)))(hl:l.length<64):aS n .sorted [y] J Z = .ok (.ref J'.n) (J'.adds [.list (ns (sortI l))]) Z:=by
 refine(lJ (fY h)).trans ?_
 refine(ag (ob k hk)).trans ?_
 show az (intsOf (ns l)) _ _ _=_
 rw[fG]
 show(if Nat.blt l.length 64=true then M.gi ((sortI l).map .int) else M.bad) _ _=_
 rw[if_pos (ja hl)]
 exact dm (os:=[]) (by rw[Z0,fN];exact om [_] [(.s (.v 0),.n 64)] (.v 0,.n 10000) rfl hl)
theorem qG{J':aq}{a b:V}(h1:x J Z = .ok a J Z)(h2:y J Z = .ok b J' Z):cR [x,y] J Z = .ok [a,b] J' Z:=(ag h1).trans (ag ((ag h2).trans rfl))
theorem Am{J1 J2:aq}{r:List (M V)}{a:V}{vs:List V}(h1:x J Z = .ok a J1 Z)(h2:cR r J1 Z = .ok vs J2 Z):cR (x::r) J Z = .ok (a::vs) J2 Z:=(ag h1).trans ((ag h2).trans rfl)
theorem FA(Pf:PF f s p)(H:H1 scr J kc kt f s p):∃ J' e',au (zy scr++Cd scr) (J.adds [.cell (.ref kc),.cell .ah]) (hE J.n (J.n+1) .ah .ah .ah .ah .ah .ah .ah .ah .ah .ah) = .ok (.ret (.bool true)) J' e'/\J'.t.get 0=some .gA:=by
 obtain⟨J0,c0,c1,kW,wk,v1,v6,v7,kR,rr,kM,ms,km,as,t,kr,kw,d,h,B,lR,rR,lM,rM,Mm,ht,hw,hd,tx⟩:=H
 rw[h]
 clear h
 refine aF (B.rl (j:=0) (by decide)) fun x0 y0 z0=>?_
 refine aF (B.rl (j:=1) (by decide)) fun x1 y1 z1=>?_
 refine aF (B.rl (j:=2) (by decide)) fun x2 y2 z2=>?_
 refine aF (B.rl (j:=4) (by decide)) fun x4 y4 z4=>?_
 have W16:∀ m,(WL f s m).length<=16:=fun m=>eZ
 refine gm (rh hd) fun g1 g2 g3=>?_
 obtain⟨g,hfree⟩:=jr B.ok (os:=[]) (Z:=hE c0 c1 v1 (.ref kR) (.ref kM) (.ref km) v6 v7 (.ref t) .ah .ah .ah) (x:=aD 0 scr (af 2) (.ret (.int 0))) (y:=aL .Add (aL .Add (aD 0 scr (af 2) (.ret (.int 1))) (aD 0 scr (af 2) (.ret (.int 2)))) (aD 0 scr (af 2) (.ret (.int 4)))) (b:=[(".0",.loc),("number",.loc),("wants",.cM 2)]) (e2:=fun zz w=>[.ah,w,.aI c1])
  (B.idx rfl rfl y0) z0 (by haveI:=W16 0;exact ZQ _ _) (fun zz=>rfl) (fun w s v hw=>bZ hw) (fun zz zz=>rfl) (fun u g n=>by
   have E:=Ext.adds B.ok ([]++.list u::g)
   haveI h3:=pV (Z:=[.ah,.int n,.aI c1]) (x:=aD 0 scr (af 2) (.ret (.int 1))) (y:=aD 0 scr (af 2) (.ret (.int 2))) (z:=aD 0 scr (af 2) (.ret (.int 4))) E.ok (fun E2=>(B.ext (E.trans E2)).idx rfl rfl y1) (fun E2=>(B.ext (E.trans E2)).idx rfl rfl y2) (fun E2=>(B.ext (E.trans E2)).idx rfl rfl y4) (E.old _ _ z1) (E.old _ _ z2) (E.old _ _ z4) (W16 1) (W16 2) (W16 4)
   refine nB ((J0.adds ([]++.list u::g)).n+1) [.list (ns (WL f s 1++WL f s 2)),.list (ns (WL f s 1++WL f s 2++WL f s 4))] ?_ ?_
   ·rw[h3,aq.eN];rfl
   ·haveI:=aq.ai E.ok (os:=[.list (ns (WL f s 1++WL f s 2)),.list (ns (WL f s 1++WL f s 2++WL f s 4))]) (i:=1) rfl
    rw[aq.eN] at this
    exact this)
 haveI s12:=fF (i:=9) hfree rfl
 have E1:=Ext.adds B.ok ([]++.list (ns (dq f s))::g)
 haveI lf:(J0.adds ([]++.list (ns (dq f s))::g)).t.get J0.n=some (.list (ns (dq f s))):=aq.ai B.ok (i:=0) rfl
 haveI s12:aJ (bz (aD 0 scr (af 2) (.ret (.int 0))) (.one 1) [aG (aO .NotIn (af 1) (aL .Add (aL .Add (aD 0 scr (af 2) (.ret (.int 1))) (aD 0 scr (af 2) (.ret (.int 2)))) (aD 0 scr (af 2) (.ret (.int 4)))))] (cw (af 1)) [(".0",.loc),("number",.loc),("wants",.cM 2)]) [aA 0 (.one 9)] J0 (hE c0 c1 v1 (.ref kR) (.ref kM) (.ref km) v6 v7 (.ref t) .ah .ah .ah) = .ok .next (J0.adds ([]++.list (ns (dq f s))::g)) (hE c0 c1 v1 (.ref kR) (.ref kM) (.ref km) v6 v7 (.ref t) (.ref J0.n) .ah .ah):=s12
 generalize hkf:J0.n=kf at s12 lf
 generalize J0.adds ([]++.list (ns (dq f s))::g)=J1 at s12 lf E1
 have B1:=B.ext E1
 clear hfree
 haveI hr13:aS scr.length .cX [.ret (.int 1),.ret (.int 17)] J1 (hE c0 c1 v1 (.ref kR) (.ref kM) (.ref km) v6 v7 (.ref t) (.ref kf) .ah .ah) = .ok (.ref J1.n) (J1.adds [.bD 1 17]) (hE c0 c1 v1 (.ref kR) (.ref kM) (.ref km) v6 v7 (.ref t) (.ref kf) .ah .ah):=lN rfl rfl rfl rfl
 haveI h13:aS scr.length .list [aS scr.length .cX [.ret (.int 1),.ret (.int 17)]] J1 (hE c0 c1 v1 (.ref kR) (.ref kM) (.ref km) v6 v7 (.ref t) (.ref kf) .ah .ah) = .ok (.ref (J1.n+1)) (J1.adds [.bD 1 17,.list (ns (iG 1 16))]) (hE c0 c1 v1 (.ref kR) (.ref kM) (.ref km) v6 v7 (.ref t) (.ref kf) .ah .ah):=by
  refine(lJ (fY hr13)).trans ?_
  refine(ag (ob J1.n (aq.ai B1.ok (i:=0) rfl))).trans ?_
  exact dm (by decide)
 haveI s13:=fF (i:=10) h13 rfl
 have E2:=Ext.adds B1.ok [.bD 1 17,.list (ns (iG 1 16))]
 haveI lnum:(J1.adds [.bD 1 17,.list (ns (iG 1 16))]).t.get (J1.n+1)=some (.list (ns (iG 1 16))):=aq.ai B1.ok rfl
 haveI s13:aJ (aS scr.length .list [aS scr.length .cX [.ret (.int 1),.ret (.int 17)]]) [aA 0 (.one 10)] J1 (hE c0 c1 v1 (.ref kR) (.ref kM) (.ref km) v6 v7 (.ref t) (.ref kf) .ah .ah) = .ok .next (J1.adds [.bD 1 17,.list (ns (iG 1 16))]) (hE c0 c1 v1 (.ref kR) (.ref kM) (.ref km) v6 v7 (.ref t) (.ref kf) (.ref (J1.n+1)) .ah):=s13
 generalize hkn:J1.n+1=kn at s13 lnum
 generalize J1.adds [.bD 1 17,.list (ns (iG 1 16))]=J2 at s13 lnum E2
 have B2:=B1.ext E2
 haveI EE2:=E1.trans E2
 clear hr13 h13
 have hR3:Gd J2 kR rr (Rf f s):=⟨B2.ok,EE2.old _ _ lR,rR.mono EE2.old,fun i hi=>by
  match i,hi with
  |0,_=>rw[Pf.r1];exact eZ
  |1,_=>rw[Pf.r2];exact eZ
  |2,_=>rw[Pf.r4];exact eZ⟩
 haveI rix:∀ {s':aq} {i r:Nat} {y:M V} {a b:V},Ext J2 s'->rr[i]? = some r->y s' (hE c0 c1 v1 (.ref kR) (.ref kM) (.ref km) v6 v7 (.ref t) (.ref kf) a b) = .ok (.int (Int.ofNat i)) s' (hE c0 c1 v1 (.ref kR) (.ref kM) (.ref km) v6 v7 (.ref t) (.ref kf) a b)->aD 0 scr (af 3) y s' (hE c0 c1 v1 (.ref kR) (.ref kM) (.ref km) v6 v7 (.ref t) (.ref kf) a b) = .ok (.ref r) s' (hE c0 c1 v1 (.ref kR) (.ref kM) (.ref km) v6 v7 (.ref t) (.ref kf) a b):=fun E hr hy=>
  di rfl hy (E.old _ _ hR3.lst) (by rw[Z0,hR3.rows.len];show 3<_;decide) ((ZH)▸hr▸rfl)
 refine aF (hR3.item (k:=0) (by decide)) fun p0 u0 w0=>?_
 refine aF (hR3.item (k:=1) (by decide)) fun p1 u1 w1=>?_
 refine aF (hR3.item (k:=2) (by decide)) fun p2 u2 w2=>?_
 haveI h14:=pV (x:=aD 0 scr (af 3) (.ret (.int 0))) (y:=aD 0 scr (af 3) (.ret (.int 1))) (z:=aD 0 scr (af 3) (.ret (.int 2))) (Z:=hE c0 c1 v1 (.ref kR) (.ref kM) (.ref km) v6 v7 (.ref t) (.ref kf) (.ref kn) .ah) B2.ok (fun E=>rix E u0 rfl) (fun E=>rix E u1 rfl) (fun E=>rix E u2 rfl) w0 w1 w2 (hR3.len 0 (by decide)) (hR3.len 1 (by decide)) (hR3.len 2 (by decide))
 haveI E3:=Ext.adds B2.ok [.list (ns (Rf f s 0++Rf f s 1)),.list (ns (Rf f s 0++Rf f s 1++Rf f s 2))]
 have hl48:(Rf f s 0++Rf f s 1++Rf f s 2).length<=48:=by
  haveI a:=hR3.len 0 (by decide)
  haveI b:=hR3.len 1 (by decide)
  haveI c:=hR3.len 2 (by decide)
  rw[ZI,ZI];exact om [_,_,_] [(.v 0,.n 16),(.v 1,.n 16),(.v 2,.n 16)] (.a (.a (.v 0) (.v 1)) (.v 2),.n 48) rfl a b c
 haveI h14s:=mI (n:=scr.length) h14 (aq.ai B2.ok rfl) (om [_] [(.v 0,.n 48)] (.s (.v 0),.n 64) rfl hl48)
 haveI s14:=fF (i:=11) h14s rfl
 haveI B3:=B2.ext E3
 haveI E4:=Ext.adds B3.ok [.list (ns (sortI (Rf f s 0++Rf f s 1++Rf f s 2)))]
 haveI lld:((J2.adds [.list (ns (Rf f s 0++Rf f s 1)),.list (ns (Rf f s 0++Rf f s 1++Rf f s 2))]).adds [.list (ns (sortI (Rf f s 0++Rf f s 1++Rf f s 2)))]).t.get (J2.adds [.list (ns (Rf f s 0++Rf f s 1)),.list (ns (Rf f s 0++Rf f s 1++Rf f s 2))]).n=some (.list (ns (sortI (Rf f s 0++Rf f s 1++Rf f s 2)))):=aq.ai B3.ok (i:=0) rfl
 haveI EE4:=E3.trans E4
 generalize hkl:(J2.adds [.list (ns (Rf f s 0++Rf f s 1)),.list (ns (Rf f s 0++Rf f s 1++Rf f s 2))]).n=kl at s14 lld
 generalize (J2.adds [.list (ns (Rf f s 0++Rf f s 1)),.list (ns (Rf f s 0++Rf f s 1++Rf f s 2))]).adds [.list (ns (sortI (Rf f s 0++Rf f s 1++Rf f s 2)))]=J4 at s14 lld EE4
 haveI s14:aJ (aS scr.length .sorted [aL .Add (aL .Add (aD 0 scr (af 3) (.ret (.int 0))) (aD 0 scr (af 3) (.ret (.int 1)))) (aD 0 scr (af 3) (.ret (.int 2)))]) [aA 0 (.one 11)] J2 (hE c0 c1 v1 (.ref kR) (.ref kM) (.ref km) v6 v7 (.ref t) (.ref kf) (.ref kn) .ah) = .ok .next J4 (hE c0 c1 v1 (.ref kR) (.ref kM) (.ref km) v6 v7 (.ref t) (.ref kf) (.ref kn) (.ref kl)):=s14
 clear h14s h14 E4 B3 E3 hkl
 have B4:=B2.ext EE4
 haveI EA4:=EE2.trans EE4
 haveI lnum4:=EE4.old _ _ lnum
 haveI lf4:=(E2.trans EE4).old _ _ lf
 generalize hZ:hE c0 c1 v1 (.ref kR) (.ref kM) (.ref km) v6 v7 (.ref t) (.ref kf) (.ref kn) (.ref kl)=Z at s14
 haveI V2:V.at Z 2 = .aI c1:=by rw[<-hZ];rfl
 have L:∀ {s':aq} {i k:Nat},V.at Z i = .ref k->af i s' Z = .ok (.ref k) s' Z:=fun {s' i k} h=>by
  unfold af
  rw[h];rfl
 haveI V10:V.at Z 10 = .ref kn:=hZ▸rfl
 haveI V11:V.at Z 11 = .ref kl:=hZ▸rfl
 haveI V9:V.at Z 9 = .ref kf:=hZ▸rfl
 haveI V5:V.at Z 5 = .ref km:=hZ▸rfl
 haveI V8:V.at Z 8 = .ref t:=hZ▸rfl
 haveI V4:V.at Z 4 = .ref kM:=hZ▸rfl
 refine nz (CU (scr:=scr) (n:=10) ⟨B4.ok,lnum4,lld,(by decide),by rw[fN];exact om [_] [(.v 0,.n 48)] (.s (.v 0),.n 1000) rfl hl48⟩ Z) fun a1 a2 cs=>?_
 rw[Pf.la] at cs
 dsimp only at cs
 haveI c15:el (FL scr 11) 13 [af 10,af 11] J4 Z=_:=(ag (ff (L V10) (L V11))).trans cs
 haveI E5:=Ext.adds B4.ok [.list (ns (dq f s)),.list (ns []),.list (ns a1),.list (ns a2),.tup [.ref J4.n,.ref (J4.n+1)]]
 haveI m0:=aq.ai B4.ok (os:=[.list (ns (dq f s)),.list (ns []),.list (ns a1),.list (ns a2),.tup [.ref J4.n,.ref (J4.n+1)]]) (i:=0) rfl
 haveI m1:=aq.ai B4.ok (os:=[.list (ns (dq f s)),.list (ns []),.list (ns a1),.list (ns a2),.tup [.ref J4.n,.ref (J4.n+1)]]) (i:=1) rfl
 haveI m4:=aq.ai B4.ok (os:=[.list (ns (dq f s)),.list (ns []),.list (ns a1),.list (ns a2),.tup [.ref J4.n,.ref (J4.n+1)]]) (i:=4) rfl
 generalize J4.adds [.list (ns (dq f s)),.list (ns []),.list (ns a1),.list (ns a2),.tup [.ref J4.n,.ref (J4.n+1)]]=J5 at c15 E5 m0 m1 m4
 haveI GB:eu [af 9,eList []] J5 Z = .ok (.ref (J5.n+1)) (J5.adds [.list (ns []),.tup ([kf,J5.n].map .ref)]) Z:=(ag (qG (y:=eList []) (J':=J5.adds [.list (ns [])]) (L V9) rfl)).trans (lI (by show 2<=10000;decide))
 haveI B5:=B4.ext E5
 haveI E6:=Ext.adds B5.ok [.list (ns []),.tup ([kf,J5.n].map .ref)]
 haveI q15:=bQ (op:=.NotEq) c15 GB ((ZV (Option.map not) (r9 (as:=[J4.n,J4.n+1]) (E6.old _ _ m4) (aq.ai B5.ok rfl) (.cons (E6.old _ _ m0) (.cons (E6.old _ _ m1) .nil)) (.cons (E6.old _ _ (E5.old _ _ lf4)) (.cons (aq.ai B5.ok (i:=0) rfl) .nil)) rfl)).trans (by rw[ZA rfl];rfl))
 haveI B6:=B5.ext E6
 haveI EE6:=E5.trans E6
 haveI q15b:=bQ (op:=.NotEq) (L V10) (B6.idx (scr:=scr) (y:=.ret (.int 0)) V2 rfl y0) ((ZV (Option.map not) (kD (EE6.old _ _ lnum4) ((EA4.trans EE6).old _ _ z0))).trans (by rw[Pf.w0,ZA rfl];rfl))
 haveI o15:=pQ q15 q15b
 generalize J5.adds [.list (ns []),.tup ([kf,J5.n].map .ref)]=J6 at o15 B6 EE6
 haveI s15:br (eI .Or [aG (aO .NotEq (el (FL scr 11) 13 [af 10,af 11]) (eu [af 9,eList []])),aG (aO .NotEq (af 10) (aD 0 scr (af 2) (.ret (.int 0))))]) (au [b9 (.ret (.bool false))]) (au []) J4 Z = .ok .next J6 Z:=(bf o15).trans rfl
 clear c15 cs GB q15 q15b o15 E6 E5 m0 m1 m4 B5
 haveI EA6:=EA4.trans EE6
 haveI lf6:=EE6.old _ _ lf4
 haveI lld6:=EE6.old _ _ lld
 haveI h16:=pV (x:=aD 0 scr (af 2) (.ret (.int 1))) (y:=aD 0 scr (af 2) (.ret (.int 2))) (z:=aD 0 scr (af 2) (.ret (.int 4))) B6.ok (fun E=>(B6.ext E).idx V2 rfl y1) (fun E=>(B6.ext E).idx V2 rfl y2) (fun E=>(B6.ext E).idx V2 rfl y4) (EA6.old _ _ z1) (EA6.old _ _ z2) (EA6.old _ _ z4) (W16 1) (W16 2) (W16 4)
 haveI hw48:(WL f s 1++WL f s 2++WL f s 4).length<64:=by
  haveI a:=W16 1
  haveI b:=W16 2
  haveI c:=W16 4
  rw[ZI,ZI];exact om [_,_,_] [(.v 0,.n 16),(.v 1,.n 16),(.v 2,.n 16)] (.s (.a (.a (.v 0) (.v 1)) (.v 2)),.n 64) rfl a b c
 haveI h16s:=mI (n:=scr.length) h16 (aq.ai B6.ok rfl) hw48
 haveI E7:=Ext.adds B6.ok [.list (ns (WL f s 1++WL f s 2)),.list (ns (WL f s 1++WL f s 2++WL f s 4))]
 haveI E8:=E7.trans (Ext.adds E7.ok [.list (ns (sortI (WL f s 1++WL f s 2++WL f s 4)))])
 haveI l16:=aq.ai E7.ok (os:=[.list (ns (sortI (WL f s 1++WL f s 2++WL f s 4)))]) (i:=0) rfl
 generalize hk16:(J6.adds [.list (ns (WL f s 1++WL f s 2)),.list (ns (WL f s 1++WL f s 2++WL f s 4))]).n=k16 at h16s l16
 generalize (J6.adds [.list (ns (WL f s 1++WL f s 2)),.list (ns (WL f s 1++WL f s 2++WL f s 4))]).adds [.list (ns (sortI (WL f s 1++WL f s 2++WL f s 4)))]=J8 at h16s E8 l16
 haveI q16:=bQ (op:=.NotEq) (L V11) h16s ((ZV (Option.map not) (kD (E8.old _ _ lld6) l16)).trans (by rw[Pf.r1,Pf.r2,Pf.r4,ZA rfl];rfl))
 haveI B8:=B6.ext E8
 haveI EA8:=EA6.trans E8
 haveI M8:=Mm.ext EA8
 haveI hcnt:=Pf.wt (mP d.2.1) g3
 haveI hfl:(dq f s).length<=16:=ZD (Zb _ _) (W16 0)
 haveI hWt:BR J8 kw (bg f s).length (mP d.2.1):=⟨⟨_,EA8.old _ _ hw,fun i hi=>se (g2 i (by rw[<-Pf.kl];exact hi)).1⟩,fun i hi=>(g2 i (by rw[<-Pf.kl];exact hi)).2⟩
 haveI hll:(dI (bg f s) (mP d.2.1) (bg f s).length).length<64+(cz (bg f s) (mP d.2.1) (bg f s).length).length:=by
  haveI hp:(cz (bg f s) (mP d.2.1) (bg f s).length++dq f s).Perm (dI (bg f s) (mP d.2.1) (bg f s).length):=List.perm_iff_count.mpr fun z=>by refine(XG).trans ?_;exact hcnt z
  haveI:=hp.length_eq
  replace this:=(ZI).symm.trans this
  exact om [_,_,_] [(.v 0,.n 16),(.v 1,.a (.v 2) (.v 0))] (.s (.v 1),.a (.n 64) (.v 2)) rfl hfl (lC this)
 obtain⟨J9,ys,tt,mm,ss,kk,hl24,E9,ht9,hr9,hc9⟩:=Bl (HA) M8 hWt (fun z=>by haveI:=hcnt z;exact om [_,_,_] [(.a (.v 0) (.v 1),.v 2)] (.v 0,.v 2) rfl (eE this)) hll Z
 haveI hys:=Pf.so ys fun z=>by haveI:=hcnt z;haveI:=hc9 z;exact YW (om [_,_,_,_] [(.v 0,.a (.v 1) (.v 2)),(.a (.v 1) (.v 3),.v 0)] (.v 3,.v 2) rfl (lC (by assumption)) (eE this)) (om [_,_,_,_] [(.a (.v 0) (.v 1),.v 2),(.v 2,.a (.v 0) (.v 3))] (.v 1,.v 3) rfl (eE (by assumption)) (lC this))
 rw[hys] at hr9
 haveI f24:aD 0 scr (af 8) (.ret (.int 1)) J8 Z = .ok (.ref kw) J8 Z:=by
  refine(ag (L V8)).trans ?_
  refine(ag (ob _ (EA8.old _ _ ht))).trans ?_
  rfl
 haveI c24:el (FL scr 11) 24 [af 5,aD 0 scr (af 8) (.ret (.int 1))] J8 Z=_:=(ag (ff (L V5) f24)).trans hl24
 haveI GV:eu [eList [],af 9,eList []] J9 Z = .ok (.ref (J9.n+2)) (J9.adds [.list (ns []),.list (ns []),.tup ([J9.n,kf,J9.n+1].map .ref)]) Z:=by
  haveI r1:cR [af 9,eList []] (J9.adds [.list (ns [])]) Z = .ok [.ref kf,.ref (J9.n+1)] (J9.adds [.list (ns []),.list (ns [])]) Z:=qG (L V9) rfl
  haveI r0:cR [eList [],af 9,eList []] J9 Z = .ok ([J9.n,kf,J9.n+1].map .ref) (J9.adds [.list (ns []),.list (ns [])]) Z:=Am (J1:=J9.adds [.list (ns [])]) rfl r1
  exact(ag r0).trans (lI (by show 3<=10000;decide))
 haveI Ea:=Ext.adds E9.ok [.list (ns []),.list (ns []),.tup ([J9.n,kf,J9.n+1].map .ref)]
 haveI q24:=bQ (op:=.NotEq) c24 GV ((ZV (Option.map not) (r9 (Ea.old _ _ ht9) (aq.ai E9.ok (i:=2) rfl) (hr9.mono Ea.old) (.cons (aq.ai E9.ok (i:=0) rfl) (.cons (Ea.old _ _ (E9.old _ _ (E8.old _ _ lf6))) (.cons (aq.ai E9.ok rfl) .nil))) rfl)).trans (by rw[ZA rfl];rfl))
 haveI o16:=pQ q16 q24
 have EAb:=EA8.trans (E9.trans Ea)
 have Bb:=B8.ext (E9.trans Ea)
 generalize J9.adds [.list (ns []),.list (ns []),.tup ([J9.n,kf,J9.n+1].map .ref)]=Jb at o16 EAb Bb
 haveI s16:br (eI .Or [aG (aO .NotEq (af 11) (aS scr.length .sorted [aL .Add (aL .Add (aD 0 scr (af 2) (.ret (.int 1))) (aD 0 scr (af 2) (.ret (.int 2)))) (aD 0 scr (af 2) (.ret (.int 4)))])),aG (aO .NotEq (el (FL scr 11) 24 [af 5,aD 0 scr (af 8) (.ret (.int 1))]) (eu [eList [],af 9,eList []]))]) (au [b9 (.ret (.bool false))]) (au []) J6 Z = .ok .next Jb Z:=(bf o16).trans rfl
 haveI hml:=rM.len
 haveI lMb:=EAb.old _ _ lM
 haveI rMb:=rM.mono EAb.old
 haveI e4:=jL (L V4) lMb (by rw[Z0];exact om [_] [(.v 0,.n 8)] (.s (.v 0),.n 1000) rfl (eE hml))
 haveI Ec:=Ext.adds Bb.ok [.list ((ms.map .ref).drop 1)]
 haveI Bc:=Bb.ext Ec
 haveI e5:=jL (ba V2 Bc.g1 nofun) Bc.lst (by rw[Z0,Bc.Ap];decide)
 haveI Ed:=Ext.adds Ec.ok [.list ((wk.map .ref).drop 1)]
 haveI q17:=xY (op:=.Eq) e4 e5 ((lU (Ed.old _ _ (by rw[WJ];exact aq.ai Bb.ok (i:=0) rfl)) (by rw[WJ];exact aq.ai Ec.ok (i:=0) rfl) ((rMb.mono Ec.old).mono Ed.old).drop ((Bc.rows).mono Ed.old).drop).trans (by rw[Pf.b,ZA rfl]))
 refine nB _ Z ((aB s12).trans ((aB s13).trans ((aB s14).trans ((aB s15).trans ((aB s16).trans (dJ (ag q17:M.bind _ (fun a=>M.ret (Fl.ret a)) _ _=_))))))) ((EAb.trans (Ec.trans Ed)).old _ _ tx)
theorem zk(C:jf J kc kt f s)(hz:J.fz=[])(htab:J.t.get 0=some (.tab 0))(hf:∀ i,i<3->1<=f i/\f i<=8)(Pf:PF f s p)(hrun:vo scr p=true)(e:List V):∃ J',aU (FL scr 11) scr cq [.ref kc] J e = .ok (.bool true) J' e/\J'.t.get 0=some .gA:=by
 refine qf (FA Pf (EZ C hz htab hf Pf (uj hrun))) fun J' e' h htx=>?_
 refine aY J' (dA (J1:=J.adds [.cell .ah,.cell .ah]) (e1:=[.aI J.n,.ah,.aI (J.n+1),.ah,.ah,.ah,.ah,.ah,.ah,.ah,.ah,.ah]) (e3:=e') rfl rfl rfl rfl ((ag (gE C.ok (j:=0) rfl rfl)).trans rfl) ?_) htx
 haveI hs:zy scr++Cd scr=cq.body (FL scr 11) scr:=List.take_append_drop 12 _
 exact hs▸h
end
end
noncomputable def CD(c:Int):Int:=1+Int.fmod (Int.fdiv c 5) 8
noncomputable def D6(c:Int):Nat:=(2+Int.fmod c 5).toNat
theorem sE(c:Int):1<=CD c/\CD c<=8:=by
 have h1:=Int.fmod_nonneg_of_pos (Int.fdiv c 5) (show(0:Int)<8 by decide)
 have h2:=Int.fmod_lt_of_pos (Int.fdiv c 5) (show(0:Int)<8 by decide)
 unfold CD;omega
theorem nc(c:Int):2<=D6 c/\D6 c<=6/\(2+Int.fmod c 5:Int)=Int.ofNat (D6 c):=by
 have h1:=Int.fmod_nonneg_of_pos c (show(0:Int)<5 by decide)
 have h2:=Int.fmod_lt_of_pos c (show(0:Int)<5 by decide)
 unfold D6
 refine c9 (by omega) (by omega) ?_
 show _=(((2+Int.fmod c 5).toNat:Nat):Int)
 omega
noncomputable def p8(c:Nat->Int):O:=.list [.int (c 0),.int (c 1),.int (c 2)]
section
variable {J:aq}{scr:List Int}
theorem AP(hJ:J.Ok){c:Nat->Int}{g:List O}{i:Nat}{x:Int}(hx:scr[i]? = some x):∃ c',au [aJ (aL .Add (aD 0 scr (af 1) (aL .Mod (af 2) (.ret (.int 3)))) (aD 0 scr (af 0) (af 2))) [j4 (af 1) (aL .Mod (af 2) (.ret (.int 3)))]] (J.adds (p8 c::g)) [.scr,.ref J.n,.int (Int.ofNat i)] =
  .ok .next (J.adds (p8 c'::g)) [.scr,.ref J.n,.int (Int.ofNat i)]:=by
 haveI hg:(J.adds (p8 c::g)).t.get J.n=some (p8 c):=aq.ai hJ (i:=0) rfl
 obtain⟨r,hr,hr3⟩:∃ r,r=i % 3/\r<3:=(aY _ rfl (Nat.mod_lt _ (by decide)))
 have hm:aL .Mod (af 2) (.ret (.int 3)) (J.adds (p8 c::g)) [.scr,.ref J.n,.int (Int.ofNat i)] = .ok (.int (Int.ofNat r)) (J.adds (p8 c::g)) [.scr,.ref J.n,.int (Int.ofNat i)]:=by
  show Rs.ok (V.int (Int.fmod ((i:Nat):Int) ((3:Nat):Int))) _ _=_
  rw[<-Int.ofNat_fmod,hr];rfl
 have h1:aD 0 scr (af 1) _ _ _ = .ok (.int (c r)) _ _:=
  di rfl hm hg (show 3<_ by decide) (by
   match r,hr3 with
   |0,_=>rfl
   |1,_=>rfl
   |2,_=>rfl)
 haveI h2:aD 0 scr (af 0) (af 2) (J.adds (p8 c::g)) [.scr,.ref J.n,.int (Int.ofNat i)] = .ok (.int x) (J.adds (p8 c::g)) [.scr,.ref J.n,.int (Int.ofNat i)]:=by
  show az scr[i]? (fun y=>if decide _ then M.ret (V.int y) else M.bad) _ _=_
  refine hx▸?_
  haveI hd:decide ((0:Int)<=Int.ofNat i)=true:=ZA (Xa i)
  exact hd▸rfl
 have h3:aL .Add _ _ _ _ = .ok _ _ _:=(ag h1).trans ((ag h2).trans rfl)
 haveI h4:j4 (af 1) _ (.int (c r+x)) _ [.scr,.ref J.n,.int _] = .ok () (J.adds (p8 (fun j=>if j=r then c r+x else c j)::g)) [.scr,.ref J.n,.int (Int.ofNat i)]:=by
  unfold j4
  rw[ag (x:=af 1) rfl,ag hm]
  refine(ag (ob _ hg)).trans ?_
  show(if bO _=true then az (idxOf _ 3) (fun k=>M.upd J.n _) else M.bad) _ _=_
  rw[if_pos (dE (Zj hr3 (ZQ 3 4611686018427387901)))]
  haveI hp:=fun o=>aq.bL hJ o (p8 c::g) 0 (by simp)
  match r,hr3 with
  |0,_=>exact ZV (fun s=>Rs.ok () s _) (hp _)
  |1,_=>exact ZV (fun s=>Rs.ok () s _) (hp _)
  |2,_=>exact ZV (fun s=>Rs.ok () s _) (hp _)
 haveI h5:gU [j4 (af 1) _] _ _ _ = .ok () (J.adds (p8 (fun j=>if j=r then c r+x else c j)::g)) _:=(ag h4).trans rfl
 exact⟨_,(aB (fC h3 h5)).trans rfl⟩
noncomputable def G8(c:Int):O:=.tup [.int (CD c),.int (2+Int.fmod c 5)]
inductive JB(F:eP)(scr:List Int)(J:aq)(e:List V):Prop where
 |mk (J':aq) (kc:Nat) (kt:Nat->Nat) (c:Nat->Int) (h:aU F scr dc [.scr] J e = .ok (.ref kc) J' e) (E:Ext J J') (C:jf J' kc kt (fun i=>CD (c i)) (fun i=>D6 (c i)))
theorem tv(F:eP)(hJ:J.Ok)(hl:scr.length<=63)(e:List V):JB F scr J e:=by
 haveI hln:aS scr.length .len [af 0] (J.adds [p8 (fun i=>6*(i:Int))]) [.scr,.ref J.n,.ah] = .ok _ (J.adds [p8 (fun i=>6*(i:Int))]) _:=rfl
 obtain⟨J3,Z3,h1,c,v,rfl,rfl,_⟩:=eV (t:=.one 2)
  (P:=fun i J' Z'=>∃ c v,J'=J.adds [p8 c,.bD 0 _]/\Z'=[.scr,.ref J.n,v]/\aE v=none)
  (e8 hln (ZG hl (ZQ _ 936))) (cb (o:=.bD 0 _) (aq.ai (hJ.adds _) (os:=[.bD 0 _]) (i:=0) rfl)) rfl (ZG hl (ZQ _ 1936))
  (fun i hi s' Z' hp=>by
   refine vR hp fun c v qz1 qz2 hv=>?_;clear hp;subst qz1;subst qz2
   have hn:eH (J.adds [p8 c,.bD 0 (Int.ofNat scr.length)]) (.bD 0 (Int.ofNat scr.length)) i=some (some (.int (Int.ofNat i))):=by
    haveI:=dn (J:=J.adds [p8 c,.bD 0 (Int.ofNat scr.length)]) (b:=Int.ofNat scr.length) (by show(0:Int)+i<(scr.length:Int);omega)
    rw[Yb] at this;exact this
   refine df (AP hJ (c:=c) (g:=[.bD 0 (Int.ofNat scr.length)]) (Z7 hi)) fun c' h=>?_
   exact⟨_,_,_,_,_,hn,bZ hv,h,c',_,rfl,rfl,rfl⟩)
  (fun s' Z' zz=>bw (by show ¬(0:Int)+scr.length<_;simp)) (rm _ .ah rfl rfl rfl)
 let τ:=J.adds [p8 c,.bD 0 (Int.ofNat scr.length)]
 have hτ:τ.Ok:=hJ.adds _
 have h00:τ.t.get J.n=some (p8 c):=aq.ai hJ (i:=0) rfl
 haveI hn:τ.n=J.n+2:=by show(J.adds _).n=_;rw[aq.cf];rfl
 let Os:Nat->List O:=fun j=>.list ((List.range j).map fun i=>.ref (τ.n+(1+i)))::(List.range j).map fun i=>G8 (c i)
 haveI hOl:∀ j,(Os j).length=1+j:=fun j=>by simp[Os];exact Yd _ _
 obtain⟨J4,Z4,h2,rfl,e4,w,rfl,_⟩:=d7 (Z:=[.scr,.ref J.n,v]) (t:=.one 1) (x:=af 1) (b:=[(".0",.loc),("cell",.loc)])
  (P:=fun j J' e=>∃ w,J'=τ.adds (Os j)/\e=[.ah,w]/\aE w=none) (N:=3)
  rfl (cb h00) rfl (by decide) rfl
  (fun j hj s' e hp=>by
   refine iu hp fun w qz5 qz6 hw=>?_;clear hp;subst qz5;subst qz6
   haveI hn:eH (τ.adds (Os j)) (.lst J.n) j=some (some (.int (c j))):=by
    refine(cE (aq.aX hτ h00)).trans ?_
    match j,hj with
    |0,_=>rfl
    |1,_=>rfl
    |2,_=>rfl
   haveI ht:=lS (J:=τ) (os:=Os j) (Z:=[.ah,.int (c j)]) (x:=aL .Add (.ret (.int 1)) (aL .Mod (aL .FloorDiv (af 1) (.ret (.int 5))) (.ret (.int 8)))) (y:=aL .Add (.ret (.int 2)) (aL .Mod (af 1) (.ret (.int 5)))) (a:=.int (CD (c j))) rfl rfl
   rw[hOl] at ht
   haveI hgf:=d8 ht (aq.ai hτ (i:=0) rfl) (by rw[Z0,Xq];exact Zj hj (ZQ 3 9997))
   refine⟨_,τ.adds (Os (j+1)),[.ah,.int (c j)],hn,(ag (bZ (Z:=[.ah,w]) hw:aA 0 (.one 1) (.int (c j)) _ _=_)).trans ((ag (x:=allM []) rfl).trans (hgf.trans ?_)),_,rfl,rfl,rfl⟩
   refine ZV (fun s=>Rs.ok () s _) ((aq.bL hτ _ _ 0 (by simp[Os])).trans ?_)
   show τ.adds _=τ.adds (.list _::(List.range (j+1)).map _)
   rw[XY,Zc,Zc]
   rfl)
  (fun s' e hp=>by
   refine aF hp fun w qz2 zz=>?_;clear hp;subst qz2
   refine(cE (aq.aX hτ h00)).trans ?_;rfl) (iF .ah rfl rfl rfl)
 haveI E:Ext J (τ.adds (Os 3)):=(Ext.adds hJ _).trans (Ext.adds hτ _)
 refine⟨τ.adds (Os 3),τ.n,fun i=>τ.n+(1+i),c,dA (e2:=[.scr,.ah,.ah]) (e3:=[.scr,.ref J.n,v]) rfl rfl rfl rfl rfl ?_,E,E.ok,aq.ai hτ (i:=0) rfl,fun i hi=>?_,fun i zz=>(nc (c i)).1,fun i zz=>(nc (c i)).2.1⟩
 ·exact(aB (J':=J.adds [p8 (fun i=>6*(i:Int))]) rfl).trans ((aB h1).trans (dJ (ag h2:M.bind _ (fun a=>M.ret (Fl.ret a)) _ _=_)))
 ·refine aq.ai hτ ?_
  rw[Yd 1 i,WZ,ZH,XB hi]
  show some (O.tup _)=_
  rw[(nc (c i)).2.2]
end
theorem Fa:du.Ok:=aq.iZ.add _
theorem DI{scr:List Int}(hl:scr.length<=63)(hP:∀ c:Nat->Int,∃ p,1<=p/\p<128/\PF (fun i=>CD (c i)) (fun i=>D6 (c i)) p):∃ J',FL scr 13 26 [.scr] du [] = .ok (.bool true) J' []/\J'.t.get 0=some .gA:=by
 obtain⟨J1,kc,kt,c,h,E,C⟩:=tv (FL scr 11) Fa hl [.scr]
 refine iu (hP c) fun p h1 h2 Pf=>?_
 refine aF (zk C (E.fz.trans rfl) (E.old _ _ rfl) (fun i zz=>sE (c i)) Pf (yq scr h1 h2) [.scr]) fun J2 h3 htx=>?_
 haveI e1:FL scr 12 15=aU (FL scr 11) scr dc:=rfl
 haveI e2:FL scr 12 25=aU (FL scr 11) scr cq:=rfl
 haveI f1:el (FL scr 12) 15 [af 0] du [.scr] = .ok (.ref kc) J1 [.scr]:=j5 rfl (e1▸h)
 haveI f2:=j5 f1 (e2▸h3)
 refine aY J2 ?_ htx
 show aU (FL scr 12) scr oH [.scr] du []=_
 exact dA (e2:=[.scr]) rfl rfl rfl rfl rfl (dJ (ag f2:M.bind _ (fun a=>M.ret (Fl.ret a)) _ _=_))
section
variable {x:Int}{ys l:List Int}
theorem ee:cY x ys=true↔x∈ys:=by
 skip
 refine(Xk).trans ?_
 exact⟨fun⟨y,h,e⟩=>eq_of_beq e▸h,fun h=>(aY x h (Y3 x))⟩
theorem eW(h:x∉ys):cY x ys=false:=by
 refine lQ (cY x ys) (fun q=>?_) fun q=>?_
 ·rfl
 ·exact absurd (ee.mp q) h
theorem pS{a b:List Int}:x∈iq a b↔x∈a/\x∉b:=by
 skip
 refine(ZB).trans ?_
 refine WE fun zz=>?_
 rw[YM]
 exact⟨fun h q=>(by replace h:=(ee.mpr q).symm.trans h;exact Bool.noConfusion h),eW⟩
abbrev rU(l:List Int):Prop:=l.Pairwise (· < ·)
abbrev AM(l:List Int):Prop:=l.Pairwise (·<=·)
theorem yl(h:rU (x::l)):l.dropWhile (· == x)=l:=by
 cases l with
 |nil=>rfl
 |cons y r=>
  have:=(Y1.mp h).1 y ZX
  rw[Xg,if_neg (by rw[Y9];omega)]
theorem fJ(x:Int):∀ {l:List Int},AM (x::l)->AM (l.dropWhile (· == x))/\(∀ z,z∈l.dropWhile (· == x)↔z∈l/\z≠x)/\(l.dropWhile (· == x)).length<=l.length
 |[],_=>(c9 .nil (fun z=>⟨fun h=>(by contradiction),fun h=>(by cases h.1)⟩) (ZE _))
 |y::r,h=>by
  refine Xg▸?_
  by_cases q:y=x
  ·rw[if_pos (by rw[q];exact Y3 x)]
   refine q▸?_
   refine bU (Y1.mp h) fun h1 h2=>?_
   refine gm (fJ y h2) fun a b c=>?_
   refine c9 a (fun z=>(b z).trans ⟨fun⟨h,e⟩=>⟨ZY _ h,e⟩,fun⟨h,e⟩=>⟨(ZS.mp h).resolve_left e,e⟩⟩) (by dsimp only[List.length_cons];exact YO ‹_›)
  ·rw[if_neg (by simpa using q)]
   refine bU (Y1.mp h) fun h1 h2=>?_
   refine c9 h2 (fun z=>⟨fun hz=>⟨hz,?_⟩,fun hz=>hz.1⟩) (ZE _)
   haveI:=h1 y ZX
   rcases ZS.mp hz with rfl | hz
   ·exact q
   ·haveI:=(Y1.mp h2).1 z hz;omega
theorem fK:∀ (n:Nat) (xs ys:List Int),bT n ys xs=((bT n xs ys).2,(bT n xs ys).1)
 |0,_,_=>rfl
 |n+1,[],[]=>rfl
 |n+1,[],y::ys=>rfl
 |n+1,x::xs,[]=>rfl
 |n+1,x::xs,y::ys=>by
  dsimp only[bT]
  rcases Int.lt_trichotomy x y with q | q | q
  ·refine(if_neg (by omega)).trans ?_;rw[if_pos q,if_pos q,fK n]
  ·subst q
   simp only[if_neg (show ¬x<x by simp)]
   exact fK n _ _
  ·refine(if_pos q).trans ?_;rw[if_neg (by omega),if_pos q,fK n]
theorem jk:∀ (n:Nat) {xs ys:List Int},AM xs->AM ys->∀ z,z∈(bT n xs ys).1->z∈xs/\z∉ys
 |0,_,_,_,_,z,h=>by contradiction
 |n+1,[],_,_,_,z,h=>by contradiction
 |n+1,x::xs,[],_,_,z,h=>⟨h,YJ⟩
 |n+1,x::xs,y::ys,hx,hy,z,h=>by
  refine gm (fJ x hx) fun wx mx zz=>?_
  obtain⟨hx1,hx2⟩:=Y1.mp hx
  obtain⟨hy1,hy2⟩:=Y1.mp hy
  dsimp only[bT] at h
  rcases Int.lt_trichotomy x y with q | q | q
  ·rw[if_pos q] at h
   rcases ZS.mp h with rfl | h
   ·refine⟨ZX,fun q2=>?_⟩
    rcases ZS.mp q2 with rfl | q2
    ·omega
    ·haveI:=hy1 z q2;omega
   ·refine bU (jk n wx hy z h) fun a b=>?_
    exact⟨ZY _ ((mx z).mp a).1,b⟩
  ·clear hy1;subst q
   refine gm (fJ x hy) fun wy my zz=>?_
   rw[if_neg (by omega),if_neg (by omega)] at h
   refine bU (jk n wx wy z h) fun a b=>?_
   refine bU ((mx z).mp a) fun a a2=>?_
   refine⟨ZY _ a,fun q2=>?_⟩
   rcases ZS.mp q2 with q2 | q2
   ·exact a2 q2
   ·exact b ((my z).mpr ⟨q2,a2⟩)
  ·refine gm (fJ y hy) fun wy my zz=>?_
   rw[if_neg (by omega),if_pos q] at h
   refine bU (jk n hx wy z h) fun a b=>?_
   refine⟨a,fun q2=>?_⟩
   have hzx:x<=z:=by
    rcases ZS.mp a with rfl | a
    ·exact W2 _
    ·exact hx1 z a
   rcases ZS.mp q2 with rfl | q2
   ·omega
   ·exact b ((my z).mpr ⟨q2,by omega⟩)
theorem kG{xs ys':List Int}(h:∀ z∈xs,z∈ys↔z∈ys'):iq xs ys=iq xs ys':=by
 skip
 refine Y5 fun z hz=>ZV _ ?_
 refine lQ (cY z ys') (fun q=>?_) fun q=>?_
 ·exact eW fun q2=>by replace q:=(ee.mpr ((h z hz).mp q2)).symm.trans q;exact W8 (q).symm
 ·exact ee.mpr ((h z hz).mpr (ee.mp q))
theorem Bz(xs:List Int):iq xs []=xs:=List.filter_eq_self.mpr fun zz zz=>rfl
theorem ef:∀ (n:Nat) {xs ys:List Int},rU xs->AM ys->xs.length+ys.length<n->(bT n xs ys).1=iq xs ys
 |0,_,_,_,_,h=>(absurd ‹_› (YX _))
 |n+1,[],_,_,_,_=>rfl
 |n+1,x::xs,[],_,_,_=>(Bz _).symm
 |n+1,x::xs,y::ys,hx,hy,h=>by
  haveI dx:=yl hx
  obtain⟨hx1,hx2⟩:=Y1.mp hx
  obtain⟨hy1,hy2⟩:=Y1.mp hy
  simp only[YK] at h
  dsimp only[bT]
  rw[dx]
  rcases Int.lt_trichotomy x y with q | q | q
  ·rw[if_pos q]
   haveI hn:x∉y::ys:=fun q2=>by
    rcases ZS.mp q2 with q2 | q2
    ·omega
    ·haveI:=hy1 x q2;omega
   show x::(bT n xs (y::ys)).1=_
   rw[ef n hx2 hy (by dsimp only[List.length_cons];exact om [_,_,_] [(.s (.a (.s (.v 0)) (.s (.v 1))),.s (.v 2))] (.s (.a (.v 0) (.s (.v 1))),.v 2) rfl h)]
   unfold iq
   rw[YU,if_pos (by rw[eW hn];rfl)]
  ·clear hy1;subst q
   refine gm (fJ x hy) fun wy my ly=>?_
   rw[if_neg (by omega),if_neg (by omega)];refine(ef n hx2 wy (om [_,_,_,_] [(.s (.a (.s (.v 0)) (.s (.v 1))),.s (.v 2)),(.v 3,.v 1)] (.s (.a (.v 0) (.v 3)),.v 2) rfl h ly)).trans ?_
   show _=(x::xs).filter _
   rw[YU,if_neg (by rw[ee.mpr ZX];decide)]
   exact kG fun z hz=>by
    haveI:=hx1 z hz
    rw[my,ZS]
    exact⟨fun h=>.inr h.1,fun h=>⟨h.resolve_left (by omega),by omega⟩⟩
  ·refine gm (fJ y hy) fun wy my ly=>?_
   rw[if_neg (by omega),if_pos q]
   refine(ef n hx wy (by dsimp only[List.length_cons];exact om [_,_,_,_] [(.s (.a (.s (.v 0)) (.s (.v 1))),.s (.v 2)),(.v 3,.v 1)] (.s (.a (.s (.v 0)) (.v 3)),.v 2) rfl h ly)).trans ?_
   exact kG fun z hz=>by
    have hzx:x<=z:=by
     rcases ZS.mp hz with rfl | a
     ·exact W2 _
     ·exact Int.le_of_lt (hx1 z a)
    rw[my,ZS]
    exact⟨fun h=>.inr h.1,fun h=>⟨h.resolve_left (by omega),by omega⟩⟩
theorem rU.D2(h:rU l):AM l:=h.imp Int.le_of_lt
theorem u3{xs:List Int}(hx:rU xs)(hy:rU ys)(h:xs.length+ys.length<2000):bT 2000 xs ys=(iq xs ys,iq ys xs):=by
 haveI h1:=ef 2000 hx hy.D2 h
 haveI h2:=ef 2000 hy hx.D2 (om [_,_] [(.s (.a (.v 0) (.v 1)),.n 2000)] (.s (.a (.v 1) (.v 0)),.n 2000) rfl h)
 rw[fK] at h2
 generalize bT 2000 xs ys=p at h1 h2
 obtain⟨a,b⟩:=p
 obtain rfl:=h1;obtain rfl:=h2;rfl
theorem u6{Uy:List Int}(hU:rU Uy)(hl:Uy.length<=16){p q:Int->Bool}:jn (Uy.filter p) (Uy.filter q)=Uy.filter fun x=>p x&&q x:=by
 haveI ha:rU (Uy.filter p):=hU.filter _
 haveI hb:rU (Uy.filter q):=hU.filter _
 have la:(Uy.filter p).length<=16:=ZD (Zb _ _) hl
 haveI lb:(Uy.filter q).length<=16:=ZD (Zb _ _) hl
 unfold jn
 refine(ef 2000 ha hb.D2 (om [_,_] [(.v 0,.n 16),(.v 1,.n 16)] (.s (.a (.v 0) (.v 1)),.n 2000) rfl la lb))▸?_
 haveI hd:rU (iq (Uy.filter p) (Uy.filter q)):=ha.filter _
 haveI ld:(iq (Uy.filter p) (Uy.filter q)).length<=16:=ZD (Zb _ _) la
 refine(ef 2000 ha hd.D2 (om [_,_] [(.v 0,.n 16),(.v 1,.n 16)] (.s (.a (.v 0) (.v 1)),.n 2000) rfl la ld)).trans ?_
 skip
 refine(List.filter_filter).trans ?_
 refine Y5 fun x hx=>?_
 refine lQ (p x) (fun h1=>?_) fun h1=>?_
 ·simp
 ·haveI hm:cY x (List.filter (fun n=>!cY n (List.filter q Uy)) (List.filter p Uy)) = !q x:=by
   refine lQ (q x) (fun h2=>?_) fun h2=>?_
   ·have hn:x∉List.filter q Uy:=fun hz=>by replace h2:=((ZB.mp hz).2).symm.trans h2;contradiction
    exact ee.mpr (ZB.mpr ⟨ZB.mpr ⟨hx,h1⟩,by rw[eW hn];rfl⟩)
   ·refine eW fun hz=>?_
    haveI:=(ZB.mp hz).2
    rw[ee.mpr (ZB.mpr ⟨hx,h2⟩)] at this
    exact W8 this
  refine hm▸?_
  simp
theorem jt:∀ {n:Nat} {a x:Int},x∈iG a n↔a<=x/\x<a+n
 |0,a,x=>⟨fun h=>(by contradiction),fun h=>(by omega)⟩
 |n+1,a,x=>by
  rw[iG,ZS,jt]
  omega
theorem tS:∀ (n:Nat) (a:Int),rU (iG a n)
 |0,_=>.nil
 |n+1,a=>Y1.mpr ⟨fun x h=>by haveI:=jt.mp h;omega,tS n (a+1)⟩
theorem j7(h:rU l):l.Nodup:=h.imp fun h e=>by omega
theorem yi{a b:List Int}(hb:rU b)(h:∀ z,a.count z=b.count z):sortI a=b:=(oK (List.perm_iff_count.mpr h)).trans (gC hb.D2)
theorem tD(x:Int):∀ {l:List Int},AM l->AM (insI x l)/\∀ z,z∈insI x l↔z=x∨z∈l
 |[],_=>⟨List.pairwise_singleton _ _,fun z=>by simp[insI]⟩
 |y::r,h=>by
  dsimp only[insI]
  refine bU (Y1.mp h) fun h1 h2=>?_
  by_cases q:x<=y
  ·rw[if_pos q]
   exact⟨Y1.mpr ⟨fun z hz=>by
    rcases ZS.mp hz with rfl | hz
    ·exact q
    ·haveI:=h1 z hz;omega,h⟩,fun z=>ZS⟩
  ·rw[if_neg q]
   refine bU (tD x h2) fun a b=>?_
   refine⟨Y1.mpr ⟨fun z hz=>?_,a⟩,fun z=>?_⟩
   ·rcases(b z).mp hz with rfl | hz
    ·omega
    ·exact h1 z hz
   ·refine(ZS).trans ?_;rw[b,ZS]
    exact or_left_comm
theorem qp:∀ l:List Int,AM (sortI l)/\∀ z,z∈sortI l↔z∈l
 |[]=>⟨.nil,fun zz=>Iff.rfl⟩
 |x::r=>by
  refine bU (qp r) fun a b=>?_
  refine bU (tD x a) fun c d=>?_
  exact⟨c,fun z=>(d z).trans (by rw[b,ZS])⟩
end
section
variable {m a b:Nat}
abbrev gJ:List Int:=iG 1 16
theorem jl:rU gJ:=tS 16 1
noncomputable def zO(a b c:Bool):Nat:=(bif a then 1 else 0)+(bif b then 2 else 0)+(bif c then 4 else 0)
noncomputable def cm(f:Nat->Int)(s:Nat->Nat)(x:Int):Nat:=zO (iz (f 0) (s 0) x) (iz (f 1) (s 1) x) (iz (f 2) (s 2) x)
theorem CO:∀ a b c,zO a b c<8:=by decide
theorem DH(g:Nat->Bool):∀ {m:Nat},m<8->(je m 3).all g=iN m (zO (g 0) (g 1) (g 2))
 |0,_=>by show true=_;generalize g 0=a;generalize g 1=b;generalize g 2=c;revert a b c;decide
 |1,_=>by show(g 0&&true)=_;generalize g 0=a;generalize g 1=b;generalize g 2=c;revert a b c;decide
 |2,_=>by show(g 1&&true)=_;generalize g 0=a;generalize g 1=b;generalize g 2=c;revert a b c;decide
 |3,_=>by show(g 0&&(g 1&&true))=_;generalize g 0=a;generalize g 1=b;generalize g 2=c;revert a b c;decide
 |4,_=>by show(g 2&&true)=_;generalize g 0=a;generalize g 1=b;generalize g 2=c;revert a b c;decide
 |5,_=>by show(g 0&&(g 2&&true))=_;generalize g 0=a;generalize g 1=b;generalize g 2=c;revert a b c;decide
 |6,_=>by show(g 1&&(g 2&&true))=_;generalize g 0=a;generalize g 1=b;generalize g 2=c;revert a b c;decide
 |7,_=>by show(g 0&&(g 1&&(g 2&&true)))=_;generalize g 0=a;generalize g 1=b;generalize g 2=c;revert a b c;decide
section
variable {f:Nat->Int}{s:Nat->Nat}
theorem oP(x:Int):cm f s x<8:=CO _ _ _
theorem fj(hm:m<8):WL f s m=gJ.filter fun x=>iN m (cm f s x):=by
 skip
 refine Y5 fun x zz=>?_
 skip
 refine(DH _ hm).trans ?_
 rfl
theorem d0(hm:m<8){x:Int}:x∈WL f s m↔x∈gJ/\iN m (cm f s x)=true:=by rw[fj hm,ZB]
theorem mW(hm:m<8):rU (WL f s m):=by rw[fj hm];exact jl.filter _
theorem za:∀ c,c<8->iN 0 c=true:=by decide
theorem o8:WL f s 0=gJ:=by
 refine(fj (by decide)).trans ?_
 exact List.filter_eq_self.mpr fun x zz=>za _ (oP x)
noncomputable def iS(f:Nat->Int)(s:Nat->Nat)(c:Nat):Bool:=gJ.any fun x=>Nat.beq (cm f s x) c
noncomputable def pB(a b c d e g h:Bool):Nat:=(bif a then 1 else 0)+(bif b then 2 else 0)+(bif c then 4 else 0)+(bif d then 8 else 0)+(bif e then 16 else 0)+(bif g then 32 else 0)+(bif h then 64 else 0)
noncomputable def bY(f:Nat->Int)(s:Nat->Nat):Nat:=pB (iS f s 1) (iS f s 2) (iS f s 3) (iS f s 4) (iS f s 5) (iS f s 6) (iS f s 7)
theorem wu:∀ a b c d e g h:Bool,pB a b c d e g h<128/\iy (pB a b c d e g h) 1=a/\iy (pB a b c d e g h) 2=b/\iy (pB a b c d e g h) 3=c/\iy (pB a b c d e g h) 4=d/\iy (pB a b c d e g h) 5=e/\iy (pB a b c d e g h) 6=g/\iy (pB a b c d e g h) 7=h:=by decide +kernel
theorem zl{c:Nat}(h1:1<=c)(h2:c<8):iy (bY f s) c=iS f s c:=by
 refine GI (wu (iS f s 1) (iS f s 2) (iS f s 3) (iS f s 4) (iS f s 5) (iS f s 6) (iS f s 7)) fun zz e1 e2 e3 e4 e5 e6 e7=>?_
 match c,h1,h2 with
 |1,_,_=>exact e1
 |2,_,_=>exact e2
 |3,_,_=>exact e3
 |4,_,_=>exact e4
 |5,_,_=>exact e5
 |6,_,_=>exact e6
 |7,_,_=>exact e7
theorem su:bY f s<128:=(wu _ _ _ _ _ _ _).1
theorem cg:∀ {c:Nat},c∈parts↔1<=c/\c<8:=fun {c}=>by
 constructor
 ·revert c;decide
 ·exact fun h=>(by decide:∀ c,c<8->1<=c->c∈parts) c h.2 h.1
theorem hH{c:Nat}(h:c∈parts):iy (bY f s) c=true↔∃ x∈gJ,cm f s x=c:=by
 refine bU (cg.mp h) fun h1 h2=>?_
 rw[zl h1 h2]
 skip
 refine(Xk).trans ?_
 exact⟨fun⟨x,h,e⟩=>⟨x,h,Zr e⟩,fun⟨x,h,e⟩=>⟨x,h,by rw[e];exact WY c⟩⟩
theorem kC:∀ a,a∈parts->∀ c,c<8->iN a c=true->c∈parts:=by decide
theorem tN{a b c:Bool}:(!a||!b||c)=true↔(a=true->b=true->c=true):=by cases a<;>cases b<;>cases c<;>decide
theorem lH(ha:a∈parts):p5 (bY f s) a b=true↔∀ x∈gJ,iN a (cm f s x)=true->iN b (cm f s x)=true:=by
 skip
 refine(Zz).trans ?_
 constructor
 ·intro h x hx q
  have hc:=kC a ha _ (oP x) q
  exact tN.mp (h _ hc) ((hH hc).mpr (aY x hx rfl)) q
 ·intro h c hc
  refine tN.mpr fun h1 h2=>?_
  refine aF ((hH hc).mp h1) fun x hx qz1=>?_;clear h1;clear hc;subst qz1
  exact h x hx h2
theorem uq(ha:a∈parts):CY (bY f s) a=true↔WL f s a≠[]:=by
 have ha8:=(cg.mp ha).2
 skip
 refine(Xk).trans ?_
 constructor
 ·rintro⟨c,hc,h⟩
  obtain⟨h1,h2⟩:=ZR.mp h
  refine aF ((hH hc).mp h1) fun x hx qz3=>?_;clear h1;clear h;clear hc;subst qz3
  exact List.ne_nil_of_mem ((d0 ha8).mpr ⟨hx,h2⟩)
 ·intro h
  refine df (List.exists_mem_of_ne_nil _ h) fun x hx=>?_
  obtain⟨h1,h2⟩:=(d0 ha8).mp hx
  haveI hc:=kC a ha _ (oP x) h2
  exact aY _ hc (by rw[(hH hc).mpr (aY x h1 rfl),h2];rfl)
theorem tZ(ha:a∈parts)(hb:b∈parts):iq (WL f s a) (WL f s b)=[]↔p5 (bY f s) a b=true:=by
 have ha8:=(cg.mp ha).2
 have hb8:=(cg.mp hb).2
 rw[lH ha,List.eq_nil_iff_forall_not_mem]
 constructor
 ·intro h x hx q
  haveI:=h x
  rw[pS] at this
  by_cases q2:x∈WL f s b
  ·exact((d0 hb8).mp q2).2
  ·exact absurd ⟨(d0 ha8).mpr ⟨hx,q⟩,q2⟩ this
 ·intro h x hx
  obtain⟨h1,h2⟩:=pS.mp hx
  obtain⟨h3,h4⟩:=(d0 ha8).mp h1
  exact h2 ((d0 hb8).mpr ⟨h3,h x h3 h4⟩)
theorem zS(ha:a∈parts)(hb:b∈parts):WL f s b=WL f s a↔(p5 (bY f s) a b&&p5 (bY f s) b a)=true:=by
 rw[ZR,lH ha,lH hb,fj (cg.mp ha).2,fj (cg.mp hb).2]
 constructor
 ·intro h
  refine⟨fun x hx q=>?_,fun x hx q=>?_⟩
  ·haveI:x∈gJ.filter fun x=>iN b (cm f s x):=by rw[h];exact ZB.mpr ⟨hx,q⟩
   exact(ZB.mp this).2
  ·haveI:x∈gJ.filter fun x=>iN a (cm f s x):=h▸(ZB.mpr ⟨hx,q⟩)
   exact(ZB.mp this).2
 ·rintro⟨h1,h2⟩
  exact Y5 fun x hx=>Bool.eq_iff_iff.mpr ⟨h2 x hx,h1 x hx⟩
theorem ni{p:Nat}:∀ (l acc:List Nat),(∀ a∈acc,a∈parts)->(∀ a∈l,a∈parts)->∀ a∈l.foldl (gr p) acc,a∈parts
 |[],_,h,_=>h
 |x::l,acc,h,h2=>ni l _ (fun a ha=>by
   unfold gr at ha
   split at ha
   ·rcases Zy.mp ha with ha | ha
    ·exact h a ha
    ·exact(Zn.mp ha)▸(h2 x ZX)
   ·exact h a ha) fun a ha=>h2 a (ZY _ ha)
theorem uf{p:Nat}:∀ a∈cC p,a∈parts:=ni _ _ (fun zz h=>by cases h) fun zz h=>h
theorem pE{a b:Bool}(h:a=true↔b=true):a=b:=Bool.eq_iff_iff.mpr h
theorem qC:∀ (l acc:List Nat),(∀ a∈acc,a∈parts)->(∀ a∈l,a∈parts)->(l.map (WL f s)).foldl gX (acc.map (WL f s))=(l.foldl (gr (bY f s)) acc).map (WL f s)
 |[],_,_,_=>rfl
 |x::l,acc,h,h2=>by
  have hx:=h2 x ZX
  haveI e:gX (acc.map (WL f s)) (WL f s x)=(gr (bY f s) acc x).map (WL f s):=by
   haveI e1:decide (WL f s x≠[])=CY (bY f s) x:=pE (by rw[YH,uq hx])
   haveI e2:((acc.map (WL f s)).any fun l'=>decide (l'=WL f s x))=acc.any fun b=>p5 (bY f s) x b&&p5 (bY f s) b x:=by
    refine(List.any_map).trans ?_
    refine pE ?_
    refine(Xk).trans ?_;rw[Xk]
    exact exists_congr fun b=>WE fun hb=>by
     show decide (WL f s b=WL f s x)=true↔_
     rw[YH];exact(zS hx (h b hb))
   delta gX gr
   refine e1▸e2▸?_
   split
   ·simp only[Zc];rfl
   ·rfl
  show(l.map (WL f s)).foldl gX (gX (acc.map (WL f s)) (WL f s x))=(l.foldl _ (gr (bY f s) acc x)).map _
  refine e▸?_
  refine qC l _ (ni [x] acc h fun a ha=>(Zn.mp ha)▸hx) fun a ha=>h2 a (ZY _ ha)
theorem oF:j6 (parts.map (WL f s))=(cC (bY f s)).map (WL f s):=qC parts [] (fun zz h=>by cases h) fun zz h=>h
end
end
noncomputable def AA:Bool:=allB (fun t=>allB (fun h=>FQ (d6 17 h t) (gJ.filter (iz h t.toNat))) (iG 1 16)) (1::sA)
theorem DV:AA=true:=by decide +kernel
theorem uh{h:Int}{t:Nat}(ht:Int.ofNat t∈1::sA)(h1:1<=h)(h2:h<=16):d6 17 h (Int.ofNat t)=gJ.filter (iz h t):=sX _ _ (fv (fv DV _ ht) h (ir h1 (by omega)))
theorem Bm:∀ t,2<=t->t<=6->Int.ofNat t∈(1:Int)::sA:=fun t h1 h2=>by
 match t,h1,h2 with
 |2,_,_=>decide
 |3,_,_=>decide
 |4,_,_=>decide
 |5,_,_=>decide
 |6,_,_=>decide
theorem Ds:∀ a b c:Bool,iN 1 (zO a b c)=a/\iN 2 (zO a b c)=b/\iN 3 (zO a b c)=(a&&b)/\iN 4 (zO a b c)=c/\iN 5 (zO a b c)=(a&&c)/\iN 6 (zO a b c)=(b&&c)/\iN 7 (zO a b c)=((a&&b)&&c):=by decide
theorem gh{f x:Int}{s:Nat}:iz f s x=true↔f<=x/\(s:Int) ∣ x-f:=by
 unfold iz
 rw[YM,Bool.or_eq_false_iff,decide_eq_false_iff_not,Bool.not_eq_false',Y9]
 refine and_congr Int.not_lt ?_
 exact(Int.dvd_iff_fmod_eq_zero).symm
theorem ji{s:Nat->Nat}{m d:Nat}:∀ k,cO s m k ∣ d↔∀ q,q<k->iP m q=true->s q ∣ d
 |0=>⟨fun zz q h=>absurd h (YX q),fun zz=>Nat.one_dvd d⟩
 |k+1=>by
  dsimp only[cO]
  refine lQ (iP m k) (fun hb=>?_) fun hb=>?_
  ·refine(ji k).trans ?_
   refine⟨fun h q hq q2=>?_,fun h q hq q2=>h q (by omega) q2⟩
   rcases Nat.lt_succ_iff_lt_or_eq.mp hq with hq | rfl
   ·exact h q hq q2
   ·replace q2:=(hb).symm.trans q2;exact Bool.noConfusion q2
  ·refine(Nat.lcm_dvd_iff).trans ?_;rw[ji k]
   refine⟨fun h q hq q2=>?_,fun h=>⟨fun q hq q2=>h q (by omega) q2,h k (Yv _) hb⟩⟩
   rcases Nat.lt_succ_iff_lt_or_eq.mp hq with hq | rfl
   ·exact h.1 q hq q2
   ·exact h.2
noncomputable def gate(s:Nat->Nat)(m q:Nat):Nat:=bif iP m q then s q else 1
theorem mF{s:Nat->Nat}{m k:Nat}:cO s m (k+1)=Nat.lcm (cO s m k) (gate s m k):=by
 unfold gate
 show(match iP m k with | true=>Nat.lcm (cO s m k) (s k) | false=>cO s m k)=_
 cases iP m k with
 |true=>rfl
 |false=>exact(Nat.lcm_one_right _).symm
theorem AU:∀ a∈[1,2,3,4,5,6],∀ b∈[1,2,3,4,5,6],∀ c∈[1,2,3,4,5,6],Int.ofNat (Nat.lcm (Nat.lcm (Nat.lcm 1 a) b) c)∈(1:Int)::sA:=by decide +kernel
theorem H5{n:Nat}(h1:1<=n)(h2:n<=6):n∈[1,2,3,4,5,6]:=by
 match n,h1,h2 with
 |1,_,_ | 2,_,_ | 3,_,_ | 4,_,_ | 5,_,_ | 6,_,_=>decide
section
variable {f:Nat->Int}{s:Nat->Nat}
theorem CS(hs:∀ i,i<3->2<=s i/\s i<=6)(m:Nat):Int.ofNat (cO s m 3)∈(1:Int)::sA:=by
 haveI hg:∀ q,q<3->gate s m q∈[1,2,3,4,5,6]:=fun q hq=>by
  haveI:=hs q hq
  unfold gate
  cases iP m q with
  |true=>exact H5 (by show 1<=s q;omega) this.2
  |false=>exact H5 (n:=1) (by decide) (by decide)
 rw[mF,mF,mF]
 exact AU _ (hg 0 (by decide)) _ (hg 1 (by decide)) _ (hg 2 (by decide))
theorem jP{m:Nat}{x:Int}:x∈WL f s m↔x∈gJ/\∀ q,q<3->iP m q=true->iz (f q) (s q) x=true:=by
 delta WL jF kZ je
 rw[ZB,Zz]
 refine WE fun zz=>?_
 exact⟨fun h q hq hb=>h q (ZB.mpr ⟨Y6.mpr hq,hb⟩),fun h q hq=>h q (Y6.mp (ZB.mp hq).1) (ZB.mp hq).2⟩
theorem wX{m:Nat}(hm:m<8)(hn:WL f s m≠[]):∃ h,(WL f s m).headD 0=h/\1<=h/\h<=16/\WL f s m=gJ.filter (iz h (cO s m 3)):=by
 haveI hA:=mW (f:=f) (s:=s) hm
 refine JL (WL f s m) (fun q=>?_) fun h r q=>?_
 ·exact absurd q hn
 ·rw[q] at hA
  have hh:h∈WL f s m:=by rw[q];exact ZX
  have hle:∀ x∈WL f s m,h<=x:=fun x hx=>by
   replace hx:=q▸hx
   rcases ZS.mp hx with rfl | hx
   ·exact W2 _
   ·exact Int.le_of_lt ((Y1.mp hA).1 x hx)
  have hU:=jt.mp (jP.mp hh).1
  refine EB h rfl hU.1 (by omega) ?_
  refine q▸?_
  haveI e:WL f s m=gJ.filter (kZ f s m):=rfl
  refine(e).trans ?_
  refine Y5 fun x hx=>Bool.eq_iff_iff.mpr ?_
  haveI hx2:kZ f s m x=true↔x∈WL f s m:=by rw[e,ZB];exact⟨fun h=>⟨hx,h⟩,fun h=>h.2⟩
  rw[hx2,gh]
  constructor
  ·intro hw
   refine⟨hle x hw,W6.mpr ((ji 3).mpr fun q hq hb=>W6.mp ?_)⟩
   haveI h1:=(gh.mp ((jP.mp hw).2 q hq hb)).2
   haveI h2:=(gh.mp ((jP.mp hh).2 q hq hb)).2
   haveI:=Int.dvd_sub h1 h2
   rwa [show x-f q-(h-f q)=x-h by omega] at this
  ·rintro⟨h1,h2⟩
   refine jP.mpr ⟨hx,fun q hq hb=>gh.mpr ?_⟩
   refine bU (gh.mp ((jP.mp hh).2 q hq hb)) fun h3 h4=>?_
   refine⟨by omega,?_⟩
   haveI h5:=W6.mpr ((ji 3).mp (W6.mp h2) q hq hb)
   haveI:=Int.dvd_add h5 h4
   rwa [show x-h+(h-f q)=x-f q by omega] at this
theorem Hq:allB (fun h=>oY [h,1,0] (d6 17 h 1)) (iG 1 16)=true:=by kernel_rfl
theorem GU(hs:∀ i,i<3->2<=s i/\s i<=6){m:Nat}(hm:m<8)(hn:WL f s m≠[]):oY [(WL f s m).headD 0,Int.ofNat (cO s m 3),0] (WL f s m)=true:=by
 refine Hb (wX hm hn) fun h e1 h1 h2 e2=>?_
 haveI hl:=CS hs m
 refine e1▸e2▸(uh hl h1 h2)▸?_
 rcases ZS.mp hl with q | q
 ·exact q▸(fv Hq h (ir h1 (by omega)))
 ·exact Fx q h1 h2
variable (hf:∀ i,i<3->1<=f i/\f i<=8)(hs:∀ i,i<3->2<=s i/\s i<=6)
include hf hs
theorem iC{i:Nat}(hi:i<3):Rf f s i=gJ.filter (iz (f i) (s i)):=uh (Bm _ (hs i hi).1 (hs i hi).2) (hf i hi).1 (by have:=(hf i hi).2;omega)
omit hf hs in
theorem pR:WL f s 1=gJ.filter (iz (f 0) (s 0))/\WL f s 2=gJ.filter (iz (f 1) (s 1))/\WL f s 3=(gJ.filter fun x=>iz (f 0) (s 0) x&&iz (f 1) (s 1) x)/\WL f s 4=gJ.filter (iz (f 2) (s 2))/\
  WL f s 5=(gJ.filter fun x=>iz (f 0) (s 0) x&&iz (f 2) (s 2) x)/\WL f s 6=(gJ.filter fun x=>iz (f 1) (s 1) x&&iz (f 2) (s 2) x)/\WL f s 7=(gJ.filter fun x=>(iz (f 0) (s 0) x&&iz (f 1) (s 1) x)&&iz (f 2) (s 2) x):=
 haveI k:=fun x=>Ds (iz (f 0) (s 0) x) (iz (f 1) (s 1) x) (iz (f 2) (s 2) x)
 (Ii ((fj (by decide)).trans (Y5 fun x zz=>(k x).1)) ((fj (by decide)).trans (Y5 fun x zz=>(k x).2.1)) ((fj (by decide)).trans (Y5 fun x zz=>(k x).2.2.1)) ((fj (by decide)).trans (Y5 fun x zz=>(k x).2.2.2.1)) ((fj (by decide)).trans (Y5 fun x zz=>(k x).2.2.2.2.1)) ((fj (by decide)).trans (Y5 fun x zz=>(k x).2.2.2.2.2.1)) ((fj (by decide)).trans (Y5 fun x zz=>(k x).2.2.2.2.2.2)))
theorem HP:Rf f s 0=WL f s 1/\Rf f s 1=WL f s 2/\Rf f s 2=WL f s 4:=by
 refine Hl (pR (f:=f) (s:=s)) fun e1 e2 e3 e4 e5 e6 e7=>?_
 exact c9 ((iC hf hs (by decide)).trans e1.symm) ((iC hf hs (by decide)).trans e2.symm) ((iC hf hs (by decide)).trans e4.symm)
theorem yg:(ML (Rf f s)).drop 1=parts.map (WL f s):=by
 refine Hl (pR (f:=f) (s:=s)) fun e1 e2 e3 e4 e5 e6 e7=>?_
 show[Rf f s 0,Rf f s 1,jn (Rf f s 0) (Rf f s 1),Rf f s 2,jn (Rf f s 0) (Rf f s 2),jn (Rf f s 1) (Rf f s 2),jn (jn (Rf f s 0) (Rf f s 1)) (Rf f s 2)]=[WL f s 1,WL f s 2,WL f s 3,WL f s 4,WL f s 5,WL f s 6,WL f s 7]
 haveI hj:=fun {p q:Int->Bool}=>u6 (p:=p) (q:=q) jl (by decide)
 rw[iC hf hs (by decide),iC hf hs (by decide),iC hf hs (by decide),hj,hj,hj,hj,e1,e2,e3,e4,e5,e6,e7]
end
section
variable {K:Nat}{sub sub':Nat->Nat->Bool}
theorem jz{t:Nat}(h:∀ i j,i<K->j<K->sub i j=sub' i j)(ht:t<K){ab:List (List Int)}:∀ n,n<=K->iX sub t ab n=iX sub' t ab n
 |0,_=>rfl
 |n+1,hn=>by
  dsimp only[iX]
  refine(jz h ht n (YE ‹_›))▸?_
  unfold u5
  exact(h t n ht (by omega))▸(h n t (by omega) ht)▸rfl
theorem jg(h:∀ i j,i<K->j<K->sub i j=sub' i j):∀ n,n<=K->er sub K n=er sub' K n
 |0,_=>rfl
 |n+1,hn=>by
  dsimp only[er]
  exact(jg h n (by omega))▸(jz h hn n (by omega))▸rfl
theorem ij(h:∀ i j,i<K->j<K->sub i j=sub' i j):∀ (n i:Nat),i<K->fV sub K n i=fV sub' K n i
 |0,_,_=>rfl
 |n+1,i,hi=>by
  dsimp only[fV]
  haveI e:((List.range K).filter fun j=>!Nat.beq j i&&sub i j)=(List.range K).filter fun j=>!Nat.beq j i&&sub' i j:=Y5 fun j hj=>(h i j hi (Y6.mp hj))▸rfl
  exact e▸(ZV iA (Yj fun j hj=>(ij h n j (Y6.mp (ZB.mp hj).1))▸rfl))
theorem o9{rk rk':Nat->Nat}(h:∀ i,i<K->rk i=rk' i):cn rk K=cn rk' K:=by
 unfold cn
 rw[Yj (g:=fun k=>rk' k+1) fun k hk=>(h k (Y6.mp hk))▸rfl]
 refine Yj fun r zz=>ZV _ (Y5 fun k hk=>(h k (Y6.mp hk))▸rfl)
theorem u4(h:∀ i j,i<K->j<K->sub i j=sub' i j)(hb:pL sub K=true):pL sub' K=true:=by
 unfold pL at hb ⊢
 rw[Zz] at hb ⊢
 intro i hi
 exact(ij h _ i (Y6.mp hi))▸(ij h _ i (Y6.mp hi))▸(hb i hi)
theorem sP{α:Type}{l:List α}{x:α}(h:l.Nodup)(hx:x∉l):(l++[x]).Nodup:=
 Zl.mpr (c9 h (List.pairwise_singleton _ _) (fun a ha b hb e=>hx (by rw[Zn.mp hb] at e;exact e▸ha)))
set_option tactic.hygienic true in
theorem tV:∀ (ls acc:List (List Int)),acc.Nodup->(ls.foldl gX acc).Nodup
 |[],_,h=>h
 |l::ls,acc,h=>tV ls _ (by
  unfold gX
  split
  ·rename_i q
   have q:=(ZR.mp q).2
   refine sP h fun hm=>?_
   rw[YM,List.any_eq_false] at q
   exact q l hm (ZA rfl)
  ·exact h)
theorem oG(z:Int)(l:List Int)(v:Int):(mulL l v).count z=v.toNat*l.count z:=by
 unfold mulL
 induction v.toNat with
 |zero=>simp
 |succ n ih=>rw[Yl,XI,XG,ih,Nat.add_mul,Nat.one_mul,Yd]
noncomputable def zj(rs:List (List Int))(w:Nat->Int)(z:Int):Nat->Int
 |0=>0
 |k+1=>zj rs w z k+w k*((rs.getD k []).count z:Nat)
theorem mX(rs:List (List Int))(w:Nat->Int)(z:Int):∀ k,(((dI rs w k).count z:Nat):Int)-((cz rs w k).count z:Nat)=(gJ.count z:Nat)+zj rs w z k
 |0=>by show _-0=_+0;rfl
 |k+1=>by
  haveI ih:=mX rs w z k
  dsimp only[dI,cz,zj]
  by_cases q:0<w k
  ·rw[if_pos q,if_pos q,XG,oG]
   have e:(((w k).toNat*(rs.getD k []).count z:Nat):Int)=w k*((rs.getD k []).count z:Nat):=by
    rw[Int.natCast_mul,Int.toNat_of_nonneg (by omega)]
   omega
  ·rw[if_neg q,if_neg q,XG,oG]
   have e:(((-(w k)).toNat*(rs.getD k []).count z:Nat):Int) = -(w k*((rs.getD k []).count z:Nat)):=by
    rw[Int.natCast_mul,Int.toNat_of_nonneg (by omega),Int.neg_mul]
   omega
theorem nu{l:List Int}(h:l.Nodup)(z:Int):l.count z=if z∈l then 1 else 0:=h.count
theorem Di:∀ a,a∈parts->iN a 0=false:=by decide
theorem Ax:∀ c,c<8->((iN 1 c=true∨iN 2 c=true)∨iN 4 c=true↔c≠0):=by decide
section
variable {f:Nat->Int}{s:Nat->Nat}
theorem mv{z:Int}:z∈dq f s↔z∈gJ/\cm f s z=0:=by
 unfold dq
 rw[pS,o8]
 refine WE fun hz=>?_
 rw[Zy,Zy,d0 (by decide),d0 (by decide),d0 (by decide)]
 haveI:=Ax _ (oP (f:=f) (s:=s) z)
 refine Iff.trans (not_congr ⟨fun h=>h.imp (Or.imp And.right And.right) And.right,fun h=>h.imp (Or.imp (And.intro hz) (And.intro hz)) (And.intro hz)⟩) ((not_congr this).trans Decidable.not_not)
theorem qT:rU (dq f s):=(mW (by decide)).filter _
abbrev dY(f:Nat->Int)(s:Nat->Nat):List (List Int):=(cC (bY f s)).map (WL f s)
theorem eO{k:Nat}(hk:k<(cC (bY f s)).length):(dY f s).getD k []=WL f s ((cC (bY f s)).getD k 0)/\(cC (bY f s)).getD k 0∈parts:=by
 haveI e:=Z7 hk
 rw[XK,XK,ZH,e]
 exact⟨rfl,uf _ (Y0 hk)⟩
theorem wj{i j:Nat}(hi:i<(cC (bY f s)).length)(hj:j<(cC (bY f s)).length):qy (bY f s) i j=bG (dY f s) i j:=by
 refine bU (eO hi) fun e1 h1=>?_
 refine bU (eO hj) fun e2 h2=>?_
 delta qy bG
 rw[e1,e2]
 exact pE (by rw[YH];exact(tZ h1 h2).symm)
theorem qX:(dY f s).Nodup:=by
 haveI:=tV (parts.map (WL f s)) [] .nil
 rw[show(parts.map (WL f s)).foldl gX []=_ from oF] at this
 exact this
theorem FR{w:Nat->Int}(hw:∀ c,c∈parts->iy (bY f s) c=true->pa w (bY f s) c (cC (bY f s)).length = -1)(z:Int) :
  (cz (dY f s) w (cC (bY f s)).length).count z+(dq f s).count z=(dI (dY f s) w (cC (bY f s)).length).count z:=by
 haveI hL:=mX (dY f s) w z (cC (bY f s)).length
 rw[nu (j7 jl)] at hL
 rw[nu (j7 qT)]
 have hc:∀ k,k<=(cC (bY f s)).length->zj (dY f s) w z k=if z∈gJ then pa w (bY f s) (cm f s z) k else 0:=fun k=>by
  induction k with
  |zero=>intro _;show(0:Int)=if _ then 0 else 0;split<;>rfl
  |succ k ih=>
   intro hk
   refine bU (eO hk) fun e h=>?_
   have ha8:=(cg.mp h).2
   dsimp only[zj,pa]
   rw[ih (YE ‹_›),e,nu (j7 (mW ha8))]
   by_cases q:z∈gJ
   ·rw[if_pos q,if_pos q]
    by_cases q2:iN ((cC (bY f s)).getD k 0) (cm f s z)=true
    ·rw[if_pos ((d0 ha8).mpr ⟨q,q2⟩),if_pos q2];simp
    ·rw[if_neg fun h=>q2 ((d0 ha8).mp h).2,if_neg q2];simp
   ·rw[if_neg q,if_neg q,if_neg fun h=>q ((d0 ha8).mp h).1];simp
 rw[hc _ (ZE _)] at hL
 by_cases q:z∈gJ
 ·rw[if_pos q,if_pos q] at hL
  by_cases q2:cm f s z=0
  ·rw[if_pos (mv.mpr ⟨q,q2⟩)]
   have h0:∀ k,k<=(cC (bY f s)).length->pa w (bY f s) 0 k=0:=fun k=>by
    induction k with
    |zero=>intro _;rfl
    |succ k ih=>intro hk;dsimp only[pa];rw[ih (YE ‹_›),Di _ (eO hk).2];rfl
   rw[q2,h0 _ (ZE _)] at hL
   omega
  ·rw[if_neg fun h=>q2 (mv.mp h).2]
   have hp:=cg.mpr ⟨(Nat.pos_of_ne_zero ‹_›),oP z⟩
   rw[hw _ hp ((hH hp).mpr (aY z q rfl))] at hL
   omega
 ·replace hL:=(if_neg q)▸(if_neg q)▸hL
  rw[if_neg fun h=>q (mv.mp h).1]
  omega
variable (hf:∀ i,i<3->1<=f i/\f i<=8)(hs:∀ i,i<3->2<=s i/\s i<=6)
include hf hs
theorem An:bg f s=dY f s:=by
 show j6 _=_
 exact(yg hf hs)▸oF
omit hs in
theorem tF:1<=bY f s:=by
 rcases Nat.eq_zero_or_pos (bY f s) with q | q
 ·haveI hf0:=hf 0 (by decide)
  have hx:f 0∈gJ:=jt.mpr ⟨hf0.1,by omega⟩
  haveI hw:f 0∈WL f s 1:=by
   rw[(pR).1]
   exact ZB.mpr ⟨hx,gh.mpr ⟨W2 _,by rw[Int.sub_self];exact Int.dvd_zero _⟩⟩
  haveI h1:=((d0 (by decide)).mp hw).2
  haveI hc:=kC 1 (by decide) _ (oP _) h1
  haveI h2:=(hH hc).mpr (aY _ hx rfl)
  rw[q] at h2
  haveI:∀ c,c∈parts->iy 0 c=false:=by decide
  rw[this _ hc] at h2;exact Bool.noConfusion h2
 ·exact q
theorem vc:PF f s (bY f s):=by
 haveI hm:=An hf hs
 have hl:(dY f s).length=(cC (bY f s)).length:=Z0 _
 refine gm (HP hf hs) fun r1 r2 r4=>?_
 haveI hp1:=tF (s:=s) hf
 refine aF (uj (yq [] hp1 su)) fun d zz hd=>?_
 haveI hfix:pL _ (cC (bY f s)).length=true:=by
  unfold mr at hd
  exact(ZR.mp (ZR.mp (ZR.mp hd).1).1).2
 have hin:∀ l∈dY f s,∃ a,a∈parts/\l=WL f s a:=fun l hl=>by
  refine aF (Za.mp hl) fun a h1 h2=>?_
  exact aY a (uf a h1) h2.symm
 haveI hlen7:(dY f s).length<=7:=by
  refine hm▸?_
  refine ZD (rt _) ?_
  rw[yg hf hs];exact Yo rfl
 have hsub:∀ i j,i<(dY f s).length->j<(dY f s).length->qy (bY f s) i j=bG (dY f s) i j:=fun i j hi hj=>wj (by rwa [<-hl]) (by rwa [<-hl])
 have hRl:∀ i,i<3->(Rf f s i).length<=16:=fun i hi=>by rw[iC hf hs hi];exact Zb _ _
 haveI hsl:(sortI (Rf f s 0++Rf f s 1++Rf f s 2)).length<=48:=by
  rw[fN,ZI,ZI]
  haveI:=hRl 0 (by decide);haveI:=hRl 1 (by decide);haveI:=hRl 2 (by decide)
  exact om [_,_,_] [(.v 0,.n 16),(.v 1,.n 16),(.v 2,.n 16)] (.a (.a (.v 0) (.v 1)) (.v 2),.n 48) rfl (by assumption) (by assumption) this
 obtain⟨sw,sm⟩:=qp _
 haveI hpos:0<(dY f s).length:=by
  haveI hf0:=hf 0 (by decide)
  haveI hx:f 0∈WL f s 1:=by
   rw[(pR).1]
   exact ZB.mpr ⟨jt.mpr ⟨hf0.1,by omega⟩,gh.mpr ⟨W2 _,by rw[Int.sub_self];exact Int.dvd_zero _⟩⟩
  have h1:=(uq (by decide)).mpr (List.ne_nil_of_mem hx)
  refine hl▸?_
  haveI hmono:∀ (l acc:List Nat),acc.length<=(l.foldl (gr (bY f s)) acc).length:=fun l=>by
   induction l with
   |nil=>intro acc;exact ZE _
   |cons x l ih=>
    intro acc
    refine ZD ?_ (ih _)
    unfold gr
    split
    ·simp
    ·exact ZE _
  haveI e:gr (bY f s) [] 1=[1]:=by unfold gr;rw[h1];rfl
  show 0<(([2,3,4,5,6,7]:List Nat).foldl (gr (bY f s)) _).length
  exact e▸(hmono _ [1])
 haveI C:Bj (dY f s):={
  len:=hlen7
  pos:=hpos
  row:=fun l hl=>by refine aF (hin l hl) fun a zz qz1=>?_;clear hl;refine qz1▸?_;exact eZ
  zM:=fun l hl l' hl'=>by
   refine aF (hin l hl) fun a ha qz3=>?_;clear hl;refine qz3▸?_
   refine aF (hin l' hl') fun b hb qz5=>?_;clear hl';refine qz5▸?_
   haveI h1:=eZ (f:=f) (s:=s) (m:=a)
   haveI h2:=eZ (f:=f) (s:=s) (m:=b)
   exact u3 (mW (cg.mp ha).2) (mW (cg.mp hb).2) (om [_,_] [(.v 0,.n 16),(.v 1,.n 16)] (.s (.a (.v 0) (.v 1)),.n 2000) rfl h1 h2)
  fix:=u4 hsub (hl▸hfix)
  Fv:=fun k j hk hj hkj hs=>by
   refine bU (eO (by rwa [<-hl]:k<_)) fun e1 h1=>?_
   refine bU (eO (by rwa [<-hl]:j<_)) fun e2 h2=>?_
   haveI hsb:=ZL hs
   haveI hne:(dY f s).getD k []≠(dY f s).getD j []:=fun e=>hkj (by
    rw[XK,XK,Z7 hk,Z7 hj] at e
    exact(List.getElem_inj qX).mp e)
   rw[e1,e2] at hsb hne ⊢
   haveI ha8:=(cg.mp h1).2
   haveI hb8:=(cg.mp h2).2
   have hS:=(lH h1).mp ((tZ h1 h2).mp hsb)
   rw[fj ha8,fj hb8] at hne ⊢
   have hsl:(gJ.filter fun x=>iN ((cC (bY f s)).getD k 0) (cm f s x)).Sublist (gJ.filter fun x=>iN ((cC (bY f s)).getD j 0) (cm f s x)):=by
    haveI:(gJ.filter fun x=>iN _ (cm f s x))=(gJ.filter fun x=>iN ((cC (bY f s)).getD j 0) (cm f s x)).filter fun x=>iN _ (cm f s x):=by
     rw[List.filter_filter]
     refine Y5 fun x hx=>?_
     refine lQ (iN ((cC (bY f s)).getD k 0) (cm f s x)) (fun q=>?_) fun q=>?_
     ·rfl
     ·rw[hS x hx q];rfl
    rw[this]
    exact List.filter_sublist
   exact Nat.lt_of_le_of_ne hsl.length_le fun e=>hne (hsl.eq_of_length e)}
 exact {
  r1:=r1
  r2:=r2
  r4:=r4
  b:=(yg hf hs).trans rfl
  c:=fun m h1 h2=>GU hs h1 h2
  cc:=by rw[hm];exact C
  nd:=by rw[hm];exact qX
  p1:=⟨hp1,su⟩
  ab:=by
   refine hm▸?_
   unfold fW
   exact hl▸((jg hsub _ (ZE _)).symm)
  rd:=by
   exact hm▸hl▸(o9 fun i hi=>ij hsub _ i hi)
  kl:=hm▸hl▸rfl
  w0:=o8
  wt:=fun w hw z=>hm▸hl▸(FR hw z)
  la:=by
   haveI hU:gJ.length=16:=rfl
   haveI h1:=ef 2000 jl sw (om [_,_] [(.v 0,.n 48),(.v 1,.n 16)] (.s (.a (.v 1) (.v 0)),.n 2000) rfl hsl (eE hU))
   have h2:(bT 2000 gJ (sortI (Rf f s 0++Rf f s 1++Rf f s 2))).2=[]:=by
    refine List.eq_nil_iff_forall_not_mem.mpr fun z hz=>?_
    haveI:=jk 2000 sw jl.D2 z (by rw[fK];exact hz)
    refine this.2 ?_
    haveI hz:=(sm z).mp this.1
    rw[Zy,Zy] at hz
    rcases hz with(hz | hz) | hz
    ·rw[iC hf hs (by decide)] at hz;exact(ZB.mp hz).1
    ·rw[iC hf hs (by decide)] at hz;exact(ZB.mp hz).1
    ·rw[iC hf hs (by decide)] at hz;exact(ZB.mp hz).1
   haveI h3:iq gJ (sortI _)=dq f s:=by
    unfold dq
    rw[o8,<-r1,<-r2,<-r4]
    exact kG fun z zz=>sm z
   rw[h3] at h1
   exact Prod.ext h1 h2
  so:=fun ys h=>yi qT h}
end
theorem zA{scr:List Int}(hl:scr.length<=63):∃ J',FL scr 13 26 [.scr] du [] = .ok (.bool true) J' []/\J'.t.get 0=some .gA:=
 DI hl fun c=>(iF _ (tF (fun i zz=>sE (c i))) su (vc (fun i zz=>sE (c i)) (fun i zz=>⟨(nc (c i)).1,(nc (c i)).2.1⟩)))
end
end Mine.L1
end
noncomputable section
open PySem PySem.W PyProof.Rows
namespace Mine.L1
noncomputable def EC(p:Nat×Nat×Option Nat)(fn:Fn):Prop:=∀ {D:Wd} (_:Tp D T1) (a:Addr) (_:p.1=23->xK D a) (scope:Scope) (body:List Stmt),real p=some (scope.names,.stmts body)->
 ∀ F n Y,ru D T1 F n->iJ D a scope fn.names n Y->aw D Y (execs body Y.env) (bX D) (au (fn.body F D.scr))
theorem th{p:Nat×Nat×Option Nat}{fn:Fn}(h:lP p fn){ns:List (Str×NameKind)}{body:List Stmt}(e:real p=some (ns,.stmts body))(F:eP)(scr:List Int):(body.map (cS T1 F scr 40 ⟨ns,bA fn.names⟩ 0))=fn.body F scr:=by
 haveI:=h F scr
 unfold bodyOf m9 at this
 rw[e] at this
 exact this
theorem bu{p:Nat×Nat×Option Nat}{fn:Fn}(h:lP p fn):EC p fn:=fun {D} top _ _ _ _ e=>yK top fun F=>th h e F D.scr
theorem Hc:EC (16,15,none) Hy:=fun {D} top _ _ _ _ e=>wh top (fun F=>th IV e F D.scr) fun zz=>rfl
theorem GD:EC (22,21,none) Ht:=fun {D} top _ _ _ _ e=>wh top (fun F=>th I6 e F D.scr) fun zz=>rfl
noncomputable def IB:List Pos:=[⟨266,51,266,52⟩,⟨266,55,266,58⟩,⟨266,59,266,66⟩,⟨266,67,266,68⟩,⟨266,59,266,69⟩,⟨266,55,266,70⟩,⟨266,54,266,70⟩,⟨266,44,266,70⟩]
noncomputable def rP(i:Nat):Pos:=(IB[i]?).getD ⟨0,0,0,0⟩
noncomputable def Iz:Expr:=.Call (.Name (Str.ofString "range") ⟨266,19,266,24⟩) [.Call (.Name (Str.ofString "len") ⟨266,25,266,28⟩) [.Name (Str.ofString "members") ⟨266,29,266,36⟩] [] ⟨266,25,266,37⟩] [] ⟨266,19,266,38⟩
noncomputable def Jg:Stmt:=.Assign [.Name (Str.ofString "order") ⟨266,4,266,9⟩] (.Call (.Name (Str.ofString "sorted") ⟨266,12,266,18⟩) [Iz] [⟨some (Str.ofString "key"),.Lambda (fq rP) (nD rP) cF (rP 7),⟨266,40,266,70⟩⟩] ⟨266,12,266,71⟩) ⟨266,4,266,71⟩
theorem C8:bodyOf (23,22,none)=Jg::(bodyOf (23,22,none)).drop 1:=by kernel_rfl
theorem Dh(F:eP)(scr:List Int):((bodyOf (23,22,none)).drop 1).map (cS T1 F scr 40 ⟨m9 (23,22,none),bA rN⟩ 0)=nO scr:=by kernel_rfl
theorem ES(F:eP)(scr:List Int):(cP T1 F scr 40 ⟨m9 (23,22,none),bA rN⟩ 0 Iz).1=aS scr.length .aW [aS scr.length .len [af 0]]:=by kernel_rfl
theorem Eo:(m9 (23,22,none)).lookup (Str.ofString "sorted")=some .globalImplicit:=by kernel_rfl
theorem GG:EC (23,22,none) Gr:=fun {D} top a L scope body e=>by
 haveI e1:bodyOf (23,22,none)=body:=by unfold bodyOf;rw[e]
 haveI e2:m9 (23,22,none)=scope.names:=by unfold m9;rw[e]
 haveI hr:=fun F=>Dh F D.scr
 haveI hg:=fun F=>ES F D.scr
 haveI hs:=Eo
 haveI hb:=C8
 rw[e1] at hb hr
 rw[e2] at hr hg hs
 rw[hb]
 exact vl top (L rfl) hr hg (fun zz=>rfl) hs
theorem IL:∀ p∈places,∃ fn,A8.lookup p.1=some fn/\EC p fn:=by
 intro p hp
 simp only[places,ZS,YJ,or_false] at hp
 rcases hp with rfl | rfl | rfl | rfl | rfl | rfl | rfl | rfl | rfl | rfl | rfl | rfl | rfl | rfl | rfl | rfl | rfl | rfl | rfl | rfl | rfl | rfl | rfl
 ·exact⟨_,rfl,bu e1⟩
 ·exact⟨_,rfl,bu e2⟩
 ·exact⟨_,rfl,bu e3⟩
 ·exact⟨_,rfl,bu e4⟩
 ·exact⟨_,rfl,bu e5⟩
 ·exact⟨_,rfl,bu e6⟩
 ·exact⟨_,rfl,bu e7⟩
 ·exact⟨_,rfl,bu e9⟩
 ·exact⟨_,rfl,bu JD⟩
 ·exact⟨_,rfl,bu IZ⟩
 ·exact⟨_,rfl,bu IC⟩
 ·exact⟨_,rfl,bu GB⟩
 ·exact⟨_,rfl,Hc⟩
 ·exact⟨_,rfl,bu Jt⟩
 ·exact⟨_,rfl,bu I7⟩
 ·exact⟨_,rfl,bu JP⟩
 ·exact⟨_,rfl,bu Jz⟩
 ·exact⟨_,rfl,bu JO⟩
 ·exact⟨_,rfl,GD⟩
 ·exact⟨_,rfl,GG⟩
 ·exact⟨_,rfl,bu GV⟩
 ·exact⟨_,rfl,bu Ju⟩
 ·exact⟨_,rfl,bu JM⟩
section
variable {K:Frag}{r:Option (Option Value)}
noncomputable def vY:List (Nat×Addr):=[(1,36),(2,73),(3,80),(4,87),(5,92),(6,99),(7,106),(9,120),(10,127),(13,155),(14,162),(15,167),(16,174),(17,179),(18,186),(19,193),(20,198),(21,205),(22,210),(23,215),(24,222),(25,227),(26,234)]
noncomputable def Gs:List (Nat×Addr):=[(27,40),(29,137)]
noncomputable def fX(r:Option (Option Value))(a:Addr):Bool:=decide (r=some (some (.ref a)))
noncomputable def DG(r:Option (Option Value)):Bool:=decide (r=some none)
noncomputable def vInt(v:Value):Option Int:=match v with
 |.int i _=>some i
 |_=>none
theorem AH{v:Value}{i:Int}:vInt v=some i->∃ t,v = .int i t:=by
 cases v with
 |int j t=>exact fun h=>Z9 h▸⟨t,rfl⟩
 |_=>exact aQ
noncomputable def yJ(r:Option (Option Value))(i:Int):Bool:=decide ((r.bind id).bind vInt=some i)
theorem dD{a:Addr}(h:fX r a=true):r=some (some (.ref a)):=ZL h
theorem eL(h:DG r=true):r=some none:=ZL h
theorem oz{i:Int}(h:yJ r i=true):∃ t,r=some (some (.int i t)):=
 aF (bind_some (ZL h)) fun v h1 h2=>aF (bind_some h1) fun o h3 h4=>df (AH h2) fun t e=>⟨t,h3.trans (ZV some (h4.trans (ZV some e)))⟩
noncomputable def zx(x:Str):Bool:=x==("__debug__" : Str)
noncomputable def BX(K:Frag):Bool:=vY.all fun p=>match A8.lookup p.1 with
 |some fn=>(Hz.lookup p.1).isNone&&fnIn K p.2 fn
 |none=>false
noncomputable def xR(K:Frag):Bool:=T1.fn.all fun p=>!zx p.1&&match vY.lookup p.2 with
 |some a=>fX (nsIn K mainGlobals p.1) a
 |none=>false
noncomputable def Ff(K:Frag):Bool:=T1.cls.all fun p=>!zx p.1&&match Gs.lookup p.2 with
 |some a=>fX (nsIn K mainGlobals p.1) a
 |none=>false
noncomputable def Cs(K:Frag):Bool:=T1.nums.all fun p=>!zx p.1&&yJ (nsIn K mainGlobals p.1) p.2
noncomputable def FF(K:Frag):Bool:=T1.own.all fun p=>decide (p.1∉dw)&&match vY.lookup p.2 with
 |some a=>fX (findIn K (.ref 137) p.1) a
 |none=>false
noncomputable def pO:List Str:=["len", "range", "list", "tuple", "sum", "max", "sorted", "bool", "set", "iter", "isinstance",Str.ofString (aT 0),Str.ofString (aT 1),Str.ofString (aT 2)]
noncomputable def Ce(K:Frag):Bool:=pO.all fun x=>DG (nsIn K mainGlobals x)
noncomputable def FE(K:Frag):Bool:=dw.all fun x=>DG (findIn K (.ref 137) x)
noncomputable def jD(K:Frag):List (Option (List (Str×NameKind)×FuncBody)):=vY.map fun p=>(gw K p.2).map fun fd=>(fd.scope.names,fd.body)
noncomputable def gk:List (Option (List (Str×NameKind)×FuncBody)):=places.map real
noncomputable def JG:List Pos:=[⟨125,4,125,17⟩,⟨125,20,125,24⟩,⟨125,4,125,24⟩,⟨126,8,126,16⟩,⟨126,20,126,28⟩,⟨126,4,135,32⟩,⟨127,11,127,19⟩,⟨127,23,127,31⟩,⟨127,11,127,31⟩,⟨128,12,128,18⟩,⟨127,8,128,18⟩,⟨129,11,129,19⟩,⟨129,23,129,24⟩,⟨129,11,129,24⟩,
 ⟨130,15,130,28⟩,⟨130,32,130,36⟩,⟨130,15,130,36⟩,⟨131,22,131,32⟩,⟨131,33,131,51⟩,⟨131,22,131,52⟩,⟨131,16,131,52⟩,⟨130,12,131,52⟩,⟨132,18,132,22⟩,⟨133,22,133,35⟩,⟨133,16,133,35⟩,⟨133,16,133,35⟩,⟨132,12,133,35⟩,⟨129,8,133,35⟩,
 ⟨134,14,134,22⟩,⟨134,8,134,22⟩,⟨134,8,134,22⟩,⟨135,8,135,21⟩,⟨135,24,135,32⟩,⟨135,8,135,32⟩]
noncomputable def gP(i:Nat):Pos:=(JG[i]?).getD ⟨0,0,0,0⟩
noncomputable def eF:Nat->Nat
 |0=>0
 |1=>1
 |_=>2
noncomputable def zV:Nat->Addr
 |0=>41
 |1=>42
 |_=>43
noncomputable def isPlain:Data->Bool
 |.plain=>true
 |_=>false
noncomputable def D1(K:Frag)(a:Addr):Bool:=match K.lookup a with
 |some o=>decide (o.cls = .type "module")&&(decide (o.dict=some builtinsNs)&&isPlain o.data)
 |none=>false
theorem sM{d:Data}:isPlain d=true->d = .plain:=by
 cases d<;>first | exact fun zz=>rfl | exact eY
theorem AN{a:Addr}(h:D1 K a=true):∃ o,K.lookup a=some o/\o.cls = .type "module"/\o.dict=some builtinsNs/\o.data = .plain:=by
 unfold D1 at h
 refine bI (K.lookup a) (fun q=>?_) fun o q=>?_
 ·rw[q] at h;exact jC h
 ·rw[q] at h
  dsimp only at h
  rw[ZJ,ZJ] at h
  exact EB o rfl (ZL h.1) (ZL h.2.1) (sM h.2.2)
noncomputable def Bh(K:Frag):Bool:=match gw K 215 with
 |some fd=>decide (fd.code = .ref 214)&&(codeHdIn K 214 212&&(fX (nsIn K mainGlobals (Str.ofString "__builtins__")) 4&&(D1 K 4&&(K.lookup 212).isNone)))
 |none=>false
noncomputable def CX(K:Frag):Bool:=(clsIn K 55).isSome&&(fX (nsIn K mainGlobals (Str.ofString "CycleError")) 55&&(decide (instIn K (.ref 55) (.type "tuple")=some false)&&decide (subIn K (.ref 55) (.type "BaseException")=some true)))
structure nF(K:Frag):Prop where
 Dk:jD K=gk
 Hx:BX K=true
 names:xR K=true
 HC:Ff K=true
 nums:Cs K=true
 own:FF K=true
 lq:Ce K=true
 c1:(clsIn K 40).isSome=true/\specialIn K (.ref 40) "__call__" = some (some (.builtin "type.__call__"))/\makesIn K 40=true/\findIn K (.ref 40) "__init__" = some (some (.ref 36))
 c2:(clsIn K 137).isSome=true/\specialIn K (.ref 137) "__call__" = some (some (.builtin "type.__call__"))/\makesIn K 137=true/\findIn K (.ref 137) "__init__" = some (some (.ref 73))
 JR:vY.map (fun p=>typeIn K (.ref p.2))=vY.map fun zz=>some (.type "function")
 rB:plainGet K 137 "" = true
 nY:hasDictIn K 137=true
 Az:findIn K (.ref 137) "__setattr__" = some (some (.builtin "object.__setattr__"))
 uO:plainOver K 137=true
 xi:FE K=true
 zJ:plainGet K 40 "" = true
 z9:findIn K (.ref 40) "__setattr__" = some (some (.builtin "object.__setattr__"))
 uF:plainOver K 40=true
 FZ:findIn K (.ref 40) "node" = some (some (.ref 41))/\specialIn K (.ref 41) "__get__" = some (some (.builtin "member_descriptor.__get__"))/\takesIn K (.ref 41)=some true/\slotIn K 41 40=some (eF 0)/\typeIn K (.ref 41)=some (.type "member_descriptor")
 Gh:findIn K (.ref 40) "npredecessors" = some (some (.ref 42))/\specialIn K (.ref 42) "__get__" = some (some (.builtin "member_descriptor.__get__"))/\takesIn K (.ref 42)=some true/\slotIn K 42 40=some (eF 1)/\typeIn K (.ref 42)=some (.type "member_descriptor")
 EN:findIn K (.ref 40) "successors" = some (some (.ref 43))/\specialIn K (.ref 43) "__get__" = some (some (.builtin "member_descriptor.__get__"))/\takesIn K (.ref 43)=some true/\slotIn K 43 40=some (eF 2)/\typeIn K (.ref 43)=some (.type "member_descriptor")
 lam:Bh K=true
 exc:CX K=true
 GJ:nsIn K mainGlobals eA=some (some (.ref 148))
 g1:(gw K 148).map (fun fd=>codeIn K fd.code fd.qualname)=some true
 g2:(gw K 148).map (·.scope)=some fc
 g3:(gw K 148).map (·.body)=some (.stmts (iE gP))
 g4:(gw K 148).map (fun fd=>(fd.globals,fd.builtins,fd.closure,fd.defaults))=some (mainGlobals,builtinsNs,[],.none)
 g5:(gw K 148).map (fun fd=>(fd.params.posonlyargs,fd.params.kwonlyargs,fd.params.kwarg,fd.params.vararg,fd.params.args.map (·.arg)))=some ([],[],none,none,[Str.ofString "grouping"])
noncomputable def tJ(K:Frag)(x:Str)(d:Addr)(i:Nat):List Bool:=[fX (findIn K (.ref 40) x) d,decide (specialIn K (.ref d) "__get__" = some (some (.builtin "member_descriptor.__get__"))),decide (takesIn K (.ref d)=some true),decide (slotIn K d 40=some (eF i)),decide (typeIn K (.ref d)=some (.type "member_descriptor"))]
noncomputable def G7(K:Frag)(fd:FuncData):List Bool:=[codeIn K fd.code fd.qualname,decide (fd.scope=fc),decide (fd.globals=mainGlobals),decide (fd.builtins=builtinsNs),fd.closure.isEmpty,lW fd.defaults,fd.params.posonlyargs.isEmpty,fd.params.kwonlyargs.isEmpty,fd.params.kwarg.isNone,fd.params.vararg.isNone,decide (fd.params.args.map (·.arg)=[Str.ofString "grouping"])]
noncomputable def DX(K:Frag):Bool:=match gw K 148 with
 |some fd=>(G7 K fd).all id
 |none=>false
noncomputable def Fy(K:Frag):List Bool:=[BX K,xR K,Ff K,Cs K,FF K,Ce K,
 (clsIn K 40).isSome,decide (specialIn K (.ref 40) "__call__" = some (some (.builtin "type.__call__"))),makesIn K 40,decide (findIn K (.ref 40) "__init__" = some (some (.ref 36))),
 (clsIn K 137).isSome,decide (specialIn K (.ref 137) "__call__" = some (some (.builtin "type.__call__"))),makesIn K 137,decide (findIn K (.ref 137) "__init__" = some (some (.ref 73))),
 decide (vY.map (fun p=>typeIn K (.ref p.2))=vY.map fun zz=>some (.type "function")),
 plainGet K 137 "",hasDictIn K 137,decide (findIn K (.ref 137) "__setattr__" = some (some (.builtin "object.__setattr__"))),plainOver K 137,FE K,
 plainGet K 40 "",decide (findIn K (.ref 40) "__setattr__" = some (some (.builtin "object.__setattr__"))),plainOver K 40,
 (tJ K "node" 41 0).all id,(tJ K "npredecessors" 42 1).all id,(tJ K "successors" 43 2).all id,
 fX (nsIn K mainGlobals eA) 148,fX (nsIn K mainGlobals (Str.ofString "law")) 234,Bh K,CX K,DX K]
noncomputable def Cp(K:Frag):Bool:=(Fy K).all id
theorem mY{x:Str}{d:Addr}{i:Nat}(h:(tJ K x d i).all id=true):findIn K (.ref 40) x=some (some (.ref d))/\specialIn K (.ref d) "__get__" = some (some (.builtin "member_descriptor.__get__"))/\takesIn K (.ref d)=some true/\slotIn K d 40=some (eF i)/\typeIn K (.ref d)=some (.type "member_descriptor"):=
 Iv (dD (gT h 0)) (ZL (gT h 1)) (ZL (gT h 2)) (ZL (gT h 3)) (ZL (gT h 4))
theorem xW(h:Cp K=true)(ht:jD K=gk)(hb:(gw K 148).map (·.body)=some (.stmts (iE gP))):nF K/\nsIn K mainGlobals (Str.ofString "law")=some (some (.ref 234)):=by
 haveI A:=gT h
 haveI hg:DX K=true:=A 30
 unfold DX at hg
 refine bI (gw K 148) (fun hf=>?_) fun fd hf=>?_
 ·rw[hf] at hg;exact jC hg
 ·rw[hf] at hg
  have B:=gT hg
  haveI e3:=ZL (B 2)
  haveI e4:=ZL (B 3)
  exact⟨⟨ht,A 0,A 1,A 2,A 3,A 4,A 5,(CB (A 6) (ZL (A 7)) (A 8) (ZL (A 9))),(CB (A 10) (ZL (A 11)) (A 12) (ZL (A 13))),ZL (A 14),A 15,A 16,ZL (A 17),A 18,A 19,A 20,ZL (A 21),A 22,
   mY (A 23),mY (A 24),mY (A 25),A 28,A 29,dD (A 26),ZV (Option.map _) hf |>.trans (ZV some (B 0)),(ZV (Option.map _) hf).trans (ZV some (ZL (B 1))),hb,
   (ZV (Option.map _) hf).trans (ZV some (by dsimp only;rw[e3,e4,YC.mp (B 4),iW (B 5)])),
   (ZV (Option.map _) hf).trans (ZV some (by dsimp only;rw[YC.mp (B 6),YC.mp (B 7),Ze.mp (B 8),Ze.mp (B 9),show fd.params.args.map (·.arg)=[Str.ofString "grouping"] from ZL (B 10)]))⟩,dD (A 27)⟩
noncomputable def fragOf(h:Heap):List Addr->Frag
 |[]=>[]
 |a::r=>match h.get? a with
  |some o=>(a,o)::fragOf h r
  |none=>fragOf h r
set_option tactic.hygienic true in
theorem kh(h:Heap):∀ as:List Addr,(fragOf h as).In h
 |[],a,o,e=>by contradiction
 |b::r,a,o,e=>by
  dsimp only[fragOf] at e
  split at e
  ·rename_i o' ho
   dsimp only[List.lookup_cons] at e
   split at e
   ·rename_i q
    obtain rfl:=Z9 e
    exact(eq_of_beq q)▸ho
   ·exact kh h r a o e
  ·exact kh h r a o e
end
theorem rp{K:Frag}{C:Addr}{cd:ClassData}(h:clsIn K C=some cd):∃ o,K.lookup C=some o/\o.data = .cls cd:=by
 unfold clsIn at h
 refine bI (K.lookup C) (fun q=>?_) fun o q=>?_
 ·rw[q] at h;exact a9 h
 ·rw[q] at h
  obtain⟨_,_,dt,_⟩:=o
  cases dt with
  |cls c=>exact aY _ rfl (ZV Data.cls (Z9 h))
  |_=>exact a9 h
theorem BG:∀ b:Bi,bootBuiltins (jc b)=some (uk b):=by
 intro b
 cases b<;>kernel_rfl
theorem qE:∀ n,n<3->bootBuiltins (Str.ofString (aT n))=some (.type (aT n)):=by
 intro n h
 match n,h with
 |0,_=>kernel_rfl
 |1,_=>kernel_rfl
 |2,_=>kernel_rfl
theorem FH:∀ b:Bi,jc b∈pO:=by intro b;cases b<;>decide
theorem wd:∀ n,n<3->Str.ofString (aT n)∈pO:=by
 intro n h
 match n,h with
 |0,_=>decide
 |1,_=>decide
 |2,_=>decide
noncomputable def CR(prog:Program)(w:World)(sa:Addr)(os:OsState)(mg mb:Str->Option Value)(K:Frag)(scr:List Int):Wd:=⟨prog,w,sa,os,137,40,mg,mb,K,scr,eF,zV,212⟩
section
variable {prog:Program}{w:World}{sa:Addr}{os:OsState}{mg mb:Str->Option Value}{K:Frag}{scr:List Int}{h:Heap}
theorem GF(H:nF K):_root_.Mine.jf (CR prog w sa os mg mb K scr) where
 rB:=fun zz=>H.rB
 nY:=H.nY
 Az:=H.Az
 uO:=H.uO
 xi:=fun i x hx=>eL (Zz.mp H.xi x (ZK hx))
 zJ:=fun zz=>H.zJ
 FG:=H.c1.1
 z9:=H.z9
 uF:=H.uF
 DJ:=fun i x hx=>by
  match i,hx with
  |0,hx=>obtain rfl:=Z9 hx;refine EH H.FZ fun a b c d e=>?_;exact⟨a,b,c,d,e,(show eF 0<1000 by decide)⟩
  |1,hx=>obtain rfl:=Z9 hx;refine EH H.Gh fun a b c d e=>?_;exact⟨a,b,c,d,e,(show eF 1<1000 by decide)⟩
  |2,hx=>obtain rfl:=Z9 hx;refine EH H.EN fun a b c d e=>?_;exact⟨a,b,c,d,e,(show eF 2<1000 by decide)⟩
  |n+3,hx=>simp at hx
 pos:=fun i j hi hj e=>by
  match i,hi,j,hj,e with
  |0,_,0,_,_=>rfl
  |1,_,1,_,_=>rfl
  |2,_,2,_,_=>rfl
  |0,_,1,_,e=>exact Nat.noConfusion e
  |0,_,2,_,e=>exact Nat.noConfusion e
  |1,_,0,_,e=>exact Nat.noConfusion e
  |1,_,2,_,e=>have h__:=Xy e;cases h__
  |2,_,0,_,e=>exact Nat.noConfusion e
  |2,_,1,_,e=>have h__:=Xy e;cases h__
theorem Hu(H:nF K)(X:K.In h)(G:h.Ns mainGlobals mg)(hB:∀ x:Str,x≠ "__name__"->mb x=bootBuiltins x):ue (CR prog w sa os mg mb K scr) 148 gP where
 obj:=by
  haveI g1:=H.g1
  haveI g2:=H.g2
  haveI g3:=H.g3
  haveI g4:=H.g4
  haveI g5:=H.g5
  refine bI (gw K 148) (fun hf=>?_) fun fd hf=>?_
  ·rw[hf] at g1;exact a9 g1
  ·rw[hf] at g1 g2 g3 g4 g5
   simp only[Xd,YN,Prod.mk.injEq] at g1 g2 g3 g4 g5
   refine aF (pM hf) fun o ho hd=>?_
   exact Gf o fd ho hd g1 g2 g3 g4.1 g4.2.1 g4.2.2.1 g5.1 g5.2.1 g5.2.2.1 g5.2.2.2.1 g4.2.2.2 g5.2.2.2.2
 xF:=by
  haveI:=Zz.mp H.nums ("CHAR_MAX",127) (by decide)
  simp only[ZJ] at this
  obtain⟨t,ht⟩:=oz this.2
  exact⟨t,mg_of X G ht⟩
 u7:=by
  haveI h1:=eL (Zz.mp H.lq (Str.ofString (aT 1)) (wd 1 (by decide)))
  exact⟨W5 X G h1,(hB _ (by decide)).trans (qE 1 (by decide))⟩
theorem Ia(H:nF K)(X:K.In h)(G:h.Ns mainGlobals mg)(hB:∀ x:Str,x≠ "__name__"->mb x=bootBuiltins x):Tp (CR prog w sa os mg mb K scr) T1 where
 cls:=GF H
 bi:=fun b=>⟨W5 X G (eL (Zz.mp H.lq _ (FH b))),(hB _ (by cases b<;>decide)).trans (BG b)⟩
 nums:=fun x i hx=>by
  have:=Zz.mp H.nums _ (bC hx)
  simp only[ZJ,YM] at this
  refine df (oz this.2) fun t ht=>?_
  exact⟨this.1,t,mg_of X G ht⟩
 exc:=fun n hn=>⟨W5 X G (eL (Zz.mp H.lq _ (wd n hn))),(hB _ (by
  match n,hn with
  |0,_=>decide
  |1,_=>decide
  |2,_=>decide)).trans (qE n hn)⟩
 iter:=⟨W5 X G (eL (Zz.mp H.lq _ (by decide))),(hB _ (by decide)).trans (by kernel_rfl)⟩
 Ep:=⟨W5 X G (eL (Zz.mp H.lq _ (by decide))),(hB _ (by decide)).trans (by kernel_rfl)⟩
 tup:=⟨W5 X G (eL (Zz.mp H.lq _ (by decide))),(hB _ (by decide)).trans (by kernel_rfl)⟩
 own:=fun x hx=>by
  refine(Zn.mp (hx))▸?_
  haveI h:=H.exc
  unfold CX at h
  simp only[ZJ,YH] at h
  refine D7 h fun h1 h2 h3 h4=>?_;clear h
  exact df (YV.mp h1) fun cd hc=>aF (rp hc) fun o q e=>⟨by decide,55,mg_of X G (dD h2),⟨nB o cd q e,h3,h4⟩⟩
 gen:=(nB 148 gP (Hu H X G hB) (mg_of X G H.GJ))
theorem CQ(H:nF K){f:Nat}{a:Addr}(hf:vY.lookup f=some a):typeIn K (.ref a)=some (.type "function"):=by
 obtain⟨i,hi,e⟩:=List.getElem_of_mem (bC hf)
 haveI:=ZV (fun l=>l[i]?) H.JR
 simp only[ZH,Z7 hi,e,Xd,YN] at this
 exact this
theorem sT:places.map (·.1)=vY.map (·.1):=by decide +kernel
theorem EW(H:nF K)(X:K.In h)(G:h.Ns mainGlobals mg)(hB:∀ x:Str,x≠ "__name__"->mb x=bootBuiltins x):xK (CR prog w sa os mg mb K scr) 215:=by
 haveI hl:=H.lam
 unfold Bh at hl
 refine bI (gw K 215) (fun hfd=>?_) fun fd hfd=>?_
 ·rw[hfd] at hl;exact jC hl
 ·rw[hfd] at hl
  simp only[ZJ,YH] at hl
  refine EH hl fun h1 h2 h3 h4 zz=>?_;clear hl
  refine Hb (AN h4) fun bo b1 b2 b3 b4=>?_
  refine aF (pM hfd) fun o ho hd=>?_
  exact {
   code:=(vx o fd 214 ho hd h1 (fun h' hx=>codeHd_of_K hx h2))
   bm:=(Jv 4 bo (mg_of X G (dD h3)) (by decide) (by decide) b1 b2 b3 b4)
   len:=⟨W5 X G (eL (Zz.mp H.lq (Str.ofString "len") (by decide))),(hB _ (by decide)).trans (by kernel_rfl)⟩
   Ei:=⟨W5 X G (eL (Zz.mp H.lq (Str.ofString "sorted") (by decide))),(hB _ (by decide)).trans (by kernel_rfl)⟩}
theorem H0(H:nF K):K.lookup 212=none:=by
 haveI hl:=H.lam
 unfold Bh at hl
 refine bI (gw K 215) (fun hfd=>?_) fun fd hfd=>?_
 ·rw[hfd] at hl;exact jC hl
 ·rw[hfd] at hl
  simp only[ZJ,YH,Ze] at hl
  exact hl.2.2.2.2
set_option tactic.hygienic true in
theorem II(H:nF K)(X:K.In h)(G:h.Ns mainGlobals mg)(hB:∀ x:Str,x≠ "__name__"->mb x=bootBuiltins x):Pg (CR prog w sa os mg mb K scr) T1 A8 Hz vY Gs where
 top:=Ia H X G hB
 yA:=fun f a hf=>by
  haveI hm:=bC hf
  haveI:=Zz.mp H.Hx _ hm
  dsimp only at this
  split at this
  ·rename_i fn hfn
   simp only[ZJ,Ze] at this
   refine vR (Br (D:=CR prog w sa os mg mb K scr) this.2) fun fd body h0 hb h1=>?_
   obtain⟨i,hi,e⟩:=List.getElem_of_mem hm
   haveI hi':i<places.length:=hi
   have hp:(places[i]'hi').1=f:=by
    haveI:=ZV (fun l=>l[i]?) sT
    simp only[ZH,Z7 hi,Z7 hi',e,Xd,YN] at this
    exact this
   refine aF (IL _ (Y0 hi')) fun fn' g1 g2=>?_
   rw[hp,hfn] at g1
   obtain rfl:=Z9 g1
   have hr:=ZV (fun l=>l[i]?) H.Dk
   simp only[jD,gk,ZH,Z7 hi,Z7 hi',e,Xd,YN] at hr
   rw[show gw K a=some fd from h0,Xd,hb] at hr
   refine vx fn fd.scope body hfn this.1 h1 (g2 (Ia H X G hB) a (fun q=>?_) _ _ hr.symm)
   rw[hp] at q
   clear e;clear hfn;clear hm;clear hp;clear this;subst q
   clear h0;clear h1;obtain rfl:=Z9 (hf)
   exact EW H X G hB
  ·contradiction
 FI:=fun f a hf=>by
  have hm:=bC hf
  simp only[Gs,ZS,YJ,or_false,Prod.mk.injEq] at hm
  rcases hm with⟨rfl,rfl⟩ | ⟨rfl,rfl⟩
  ·exact H6 true 1 36 rfl rfl rfl H.c1.2.2.1 H.c1.2.2.2 (CQ H (f:=1) rfl)
  ·exact H6 false 2 73 rfl rfl rfl H.c2.2.2.1 H.c2.2.2.2 (CQ H (f:=2) rfl)
 Io:=fun f x hx=>by
  have:=Zz.mp H.names _ (bC hx)
  simp only[ZJ,YM] at this
  obtain⟨h1,h2⟩:=this
  split at h2
  ·rename_i a ha
   exact⟨h1,a,ha,mg_of X G (dD h2)⟩
  ·contradiction
 Gn:=fun f x hx=>by
  have:=Zz.mp H.HC _ (bC hx)
  simp only[ZJ,YM] at this
  obtain⟨h1,h2⟩:=this
  split at h2
  ·rename_i a ha
   have hcd:(clsIn K a).isSome=true/\specialIn K (.ref a) "__call__" = some (some (.builtin "type.__call__")):=by
    haveI hm:=bC ha
    simp only[Gs,ZS,YJ,or_false,Prod.mk.injEq] at hm
    rcases hm with⟨_,rfl⟩ | ⟨_,rfl⟩
    ·exact⟨H.c1.1,H.c1.2.1⟩
    ·exact⟨H.c2.1,H.c2.2.1⟩
   exact df (YV.mp hcd.1) fun cd hc=>aF (rp hc) fun o q e=>⟨h1,a,o,cd,ha,mg_of X G (dD h2),q,e,hcd.2⟩
  ·contradiction
 FX:=fun f x hx=>by
  have:=Zz.mp H.own _ (bC hx)
  simp only[ZJ,YH] at this
  obtain⟨h1,h2⟩:=this
  split at h2
  ·rename_i a ha
   exact⟨h1,a,ha,dD h2,CQ H ha⟩
  ·contradiction
end
noncomputable def Gu:List Addr:=[2,3,4,7,9,11,13,15,17,18,20,21,22,25,27,29,30,32,33,35,36,37,39,40,41,42,43,46,49,51,53,54,55,56,59,62,64,66,67,69,70,72,73,74,76,77,79,80,81,83,84,86,87,88,91,92,93,95,96,98,99,100,102,103,105,106,107,109,110,112,113,114,116,117,119,120,121,123,124,126,127,128,130,131,133,134,135,136,137,138,139,142,144,145,147,148,149,151,152,154,155,156,158,159,161,162,163,166,167,168,170,171,173,174,175,178,179,180,182,183,185,186,187,189,190,192,193,194,197,198,199,201,202,204,205,206,209,210,211,214,215,216,218,219,221,222,223,226,227,228,230,231,233,234]
noncomputable def BW(d:Data):Bool:=match d with
 |.fields a=>Nat.beq a.size 0
 |_=>false
theorem wN{d:Data}:BW d=true->d = .fields #[]:=by
 cases d with
 |fields a=>exact fun h=>ZV Data.fields (XA (Zr h))
 |_=>exact eY
noncomputable def EP(o:Obj):Bool:=decide (o.cls = .none)&&o.dict.isNone&&BW o.data&&Nat.beq o.slots.size 0
theorem z8{o:Obj}(h:EP o=true):o={cls:=.none,data:=.fields #[]}:=by
 have h:=ZR.mp h
 have h1:=ZR.mp h.1
 have h2:=ZR.mp h1.1
 cases o with
 |mk c d a s=>exact congr (congr (congr (ZV Obj.mk (ZL h2.1)) (Ze.mp h2.2)) (wN h1.2)) (XA (Zr h.2))
noncomputable def Cw(h:Heap):Bool:=((h.get? 212).map EP).getD false
theorem Bv{h:Heap}(e:Cw h=true):h.get? 212=some {cls:=.none,data:=.fields #[]}:=by
 unfold Cw at e
 cases q:h.get? 212 with
 |none=>rw[q] at e;exact jC e
 |some o=>rw[q] at e;exact ZV some (z8 e)
noncomputable def lg:Hook where
 α:=(Bool×List (Option (List (Str×NameKind)×FuncBody)))×Option FuncBody
 obs s:=((Cw s.heap&&Cp (fragOf s.heap Gu),jD (fragOf s.heap Gu)),(gw (fragOf s.heap Gu) 148).map (·.body))
 val _:=((true,gk),some (.stmts (iE gP)))
 says _ h:=∃ K:Frag,K.In h/\(nF K/\nsIn K mainGlobals (Str.ofString "law")=some (some (.ref 234)))/\h.get? 212=some {cls:=.none,data:=.fields #[]}
 of _ s e:=⟨fragOf s.heap Gu,kh _ _,xW (ZR.mp (ZV (·.1.1) e)).2 (ZV (·.1.2) e) (ZV Prod.snd e),Bv (ZR.mp (ZV (·.1.1) e)).1⟩
 keeps _ _ _ x hk:=let ⟨K,h1,h2,h3⟩:=x;⟨K,fun a o e=>hk a o (h1 a o e),h2,hk _ _ h3⟩
theorem wG{prog:Program}{w:World}{K:Frag}{s:Shared}{mg mb:Str->Option Value}{sa:Addr}{vs:List Value}{scr:List Int}{Q:Value->Shared->Prop}{E:Value->Shared->Prop}(H:nF K)(X:K.In s.heap)(hg:s.heap.Ns mainGlobals mg)(hb:s.heap.Ns builtinsNs mb)(hB:∀ x:Str,x≠ "__name__"->mb x=bootBuiltins x)(hlim:s.heap.NoLimit)(hl:s.heap.IsList sa vs.toArray)(hi:IntsAre vs scr)(hlen:scr.length<=63)(hgen:s.gens = #[])(hm:∃ mm,s.heap.Ns sysModules mm)(ht:s.heap.get? 212=some {cls:=.none,data:=.fields #[]})(hQ:∀ s',OldK s.heap s'.heap->s'.os=s.os->AllBare s'.gens->Q (.bool true) s') :
  wpAny (model prog w) callerA (call (.ref 234) [.ref sa]) Q E s:=by
 obtain⟨s',hr,hx⟩:=zA hlen
 haveI hsys:(s.heap.get? sysModules).isSome=true:=by
  obtain⟨mm,o,es,ep,ho,_⟩:=hm
  rw[ho];rfl
 obtain⟨lo,lfd,c,l1,l2,l3,l4⟩:=(EW (prog:=prog) (w:=w) (sa:=sa) (os:=s.os) (scr:=scr) H X hg hB).code
 haveI hC:=(l4 _ X).tab ht
 exact Pg.Jk (D:=CR prog w sa s.os mg mb K scr) (L:=26) (n:=12) (fn:=oH) (II H X hg hB) rfl rfl (by decide) rfl rfl rfl rfl (fun p hp=>by
   simp only[oH,ZS,YJ,or_false] at hp
   rcases hp with rfl<;>rfl) X hg hb hlim hl hi hlen hgen rfl hsys ht (H0 H) (show sysModules≠212 by decide) hr hx fun y s' ρ hv h1 h4 h2 h3=>by
  cases(show y = .bool true from hv)
  obtain⟨more,h4⟩:=h4
  refine hQ s' ⟨fun b o e=>?_,fun b o e=>?_⟩ h2 h3
  ·by_cases q:b=212
   ·subst q
    rw[ht] at e
    cases e
    exact .inr (.inl ⟨hC.isCodeTable,rfl,#[],more,rfl,by rw[Array.empty_append];exact h4⟩)
   ·exact .inl (h1 b o q e)
  ·by_cases q:b=212
   ·subst q;exact⟨_,h4⟩
   ·exact⟨o,h1 b o q e⟩
noncomputable def vw:Program:=view PySem.Challenge.rw_oc0209_01.row.toRowW.prog [0,2,3,4,5,6,8,9,11,12,14,15,16,17,18,19,20,21,22,23,24,25]
theorem w9:LeftO PySem.Challenge.rw_oc0209_01.row.toRowW.prog vw [Str.ofString "_NodeInfo"] (fun s=>xlAt vw [] s&&recOk (RowW.records PySem.Challenge.rw_oc0209_01.row.toRowW) s) lg.obs lg.val 3180:=
 fun w=>by kernel_rfl
end Mine.L1
open Mine Mine.L1 in
theorem PySem.Challenge.cw_oc0209_01_holds : PySem.Challenge.rw_oc0209_01.Holds := by
 w_on
 refine holds_law (by kernel_rfl) fun said=>?_
 refine holds_open (q:=vw) (loose:=[Str.ofString "_NodeInfo"]) (Xt:=fun s=>xlAt vw [] s&&recOk (RowW.records PySem.Challenge.rw_oc0209_01.row.toRowW) s) (XP:=XL vw []) (Yf:=Hook.obs lg) (Ya:=Hook.val lg) (YP:=Hook.says lg) (N:=3180) w9 (Hook.of lg) (Hook.keeps lg) (fun s e=>xl_of s (ZR.mp e).1) XL.keeps (by rfl) (by rfl) (by rfl) (fun s e=>recFacts_of (ZR.mp e).2) (by rfl) (by assumption) (by decide +kernel) ⟨rfl,rfl,rfl,rfl,rfl,by decide +kernel⟩ ?hw ?hc
 case hw=>w_witness2
 intro w s₀ s₁ mg mb G Yy fa o pm cd doc dV kV ho hd hcd hD hmg hg args vals as hpre hlay hrd hwl hlo
 obtain⟨K,KX,⟨HS,HL⟩,HT⟩:=(Yy:lg.says w s₁.heap)
 refine Ground.open G ?_
 intro T B D TE TW
 wrow_args hpre hlay hrd hwl hlo
 clear hd ho hcd hD
 have hl:s₁.heap.Ns mainGlobals mg:=T.g
 have e1:mg (Str.ofString "law")=some (.ref 234):=mg_of KX hl HL
 have e2:some (Value.ref 234)=some (Value.ref fa):=e1.symm.trans hmg
 cases e2
 refine wG HS KX T.g T.b T.builtins T.nolimit (by assumption) (by assumption) (by omega) hg ⟨_,(T.seer (by kernel_rfl)).mods.choose_spec.1⟩ HT fun s' h1 h2 h3=>?_
 exact⟨.inl ⟨_,_,[],rfl,fun zz=>rfl,ReadsW.bool true,by wrow_post,fun zz=>⟨WR,nofun⟩⟩,h1,h2,h3⟩
end
