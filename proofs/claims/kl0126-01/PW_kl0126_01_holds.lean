import PyProof.Rows.All
import Wide.All
import OpenK.AllK
import Wide.FinOn
import Lean
import PySem.Challenge.RW_kl0126_01
set_option Elab.async false
set_option maxRecDepth 100000
set_option linter.unusedVariables false
set_option genSizeOf false
set_option genInjectivity false
open PySem renaming wpAny_bind → Vc, Value → Vg, Shared → Vh, wpAny_pure → Vj, NameKind → Vn, DictEntry → Vt, wpAny_holding → Vu, assign → VR, wpAny_mono → V6, wpAny_standAt → Wb, Program → Wi, Around → Wk, FuncData → WH, World → WK, Scope → WM, wpAny_dictEntries → WS, wpAny_field → WZ, slot_listiter_next → W9, wpAny_newObj_type → Xh, wpAny_specialOf → Xm, wpAny_of_eq → Xn, builtinLookup_eq_fast → Xq, Comprehension → Xv, wpAny_callSpecial?_slot → XA, wpAny_call_entry → XJ, wpAny_seqItems → XN, Operator → X0, wpAny_evalAll_nil → X7, Keyword → Yl, wpAny_rule → Yt, wpAny_pyNext_list_item → Yu, wpAny_updateSeq → YC, typeLookup_type → YF, isSubtype_type → YN, wpAny_isInstance → YQ, plainId_quiet → YX, wpAny_comprehension_free → YY, codeAny_builtin → Y4, wpAny_dictEpoch → Y5, wpAny_call → Y6, wpAny_Call_Name_kw → Y7, slot_list_getitem → Zc, getMethod_builtin → Ze, wpAny_setField → Zg, wpAny_tryCatch → Zi, Model → Zn, PyData → Zs, wpAny_Name → Zu, wpAny_items_cons → Zv, Fin → ZD, wpAny_release → ZG, wpAny_letGo → ZH, wpAny_alloc → ZI, wpAny_updateDictKeys → ZJ, wpAny_items_nil → ZM, wpAny_execs_nil → ZN, wpAny_Assign_stores → ZS, entry_listiter_next → ZT, wpAny_Constant_int → ZW, args_listiter_next → Z0, sliceRange_one → ae, wpAny_truthy_bool → a0, wpAny_pyIter_list → a8, Result → bc, arm_eval_Call → bi, wpAny_onRaise → bj, strKind → bp, assign_Subscript → cm, call_meets → cv, codeAny_of_tree → dq, wpAny_listItems → dA, intText? → ey, arm_execs_cons → eR, Builtin → fa, typeIs_int → gd, typeIs_str → gN, name_of_addr → ib, wpAny_typeOf → ii, call_meetsIn → ik, Params → iq, BoolOp → ix, TriplesOk → i4, Arguments → i5, wpAny_Slice → jp, ReadsAll → j2, CmpOp → ka
open Nat renaming le_trans → Vd, beq → Vo, add_le_add_left → Vq, le_of_lt → Vv, le_add_right → Vw, lt_of_lt_of_le → Vx, mod_lt → Vy, lt_of_le_of_lt → VB, le_refl → VD, eq_of_beq_eq_true → VE, lt_trans → VJ, le_of_eq → VK, add_le_add_right → VN, mul_le_mul_left → VP, le_of_ble_eq_true → VQ, ble_eq_true_of_le → VS, le_of_lt_succ → V5, lt_irrefl → V8, add_le_add → V9, lt_succ_self → Wf, add_right_comm → Wh, ble → Wn, lt_succ_of_le → Wo, zero_add → Ws, lt_of_lt_of_eq → WA, zero_le → WC, ne_of_lt → WE, add_comm → WG, beq_refl → WL, succ_le_succ → WN, add_assoc → Xc, blt → Xf, add_lt_add_left → Xl, ne_of_gt → Xu, le_succ → Xy, le_of_succ_le → Ye, min_eq_right → Yo, sub_eq_zero_iff_le → Yw, mod_mod_of_dvd → Yy, sub_self → Yz, le_antisymm → YA, min_eq_left → YB, le_add_left → YH, lt_succ_of_lt → Zh, succ_pos → Zk, succ_ne_zero → Zz, not_lt → ZZ, casesOn → aw, le_of_not_lt → cb, le_total → de, lt_or_ge → df, min_le_left → dT, succ → d6, not_le → hM, blt_eq → hU, sub_le → hV, ble_eq → hY, zero_mul → im
open PySem.Str renaming ofString → Ve
open Option.some renaming inj → Vf
open List renaming mem_singleton → Vi, length_append → Vk, length_map → Vl, mem_cons → Vm, not_mem_nil → Vr, append_assoc → Vs, nil_append → Vz, mem_cons_self → VC, map_map → VF, mem_cons_of_mem → VH, map_append → VI, size_toArray → VM, append_nil → VT, filter_eq_self → VU, range' → VV, getElem?_eq_none_iff → VW, casesOn → VY, length_cons → V3, length_range' → V4, mem_append → Wa, all_eq_true → Wg, getElem?_toArray → Wq, forIn_cons → Ww, replicate → Wx, getElem?_map → Wy, length_filter_le → WD, filter_cons → WJ, range'_succ → WO, map_congr_left → WQ, getElem?_append_right → WV, mem_map → WW, mem_filterMap → W0, filter_append → Xa, take_of_length_le → Xg, forIn_nil → Xj, getElem?_eq_some_iff → Xp, flatten_cons → Xz, filter_congr → XD, map_cons → XI, map → XS, filter_map → XZ, drop_eq_nil_iff → X8, mem_range'_1 → Yg, filterMap_cons_none → Yi, filterMap_cons_some → Yj, range → Yk, lookup_eq_none_iff → Yn, filter_eq_nil_iff → Yx, length_singleton → YI, length_range → YJ, replicate_succ → YT, getElem?_eq_getElem → Y0, reverse_cons → Zf, drop_eq_nil_of_le → Zl, take_append_drop → Zo, contains_iff_mem → Zp, map_fst_zip → Zw, map_snd_zip → Zx, length_take → ZA, length_drop → ZC, nodup_cons → ZP, filterMap_cons → ZR, getElem?_drop → ab, lookup_append → ac, filter_filter → am, lookup_cons → bt, cons_append → ci, isEmpty_iff → cn, length_nil → du, mem_filter → dC, nodup_nil → eb, drop_left → et, length → eD, mem_range → eI, map_id → eJ, any_cons → fg, sum_cons → fv, cons → kn
open Bool renaming false_ne_true → Vp, and_eq_true_iff → VG, and_eq_true → VZ, eq_false_iff → Wm, not_eq_true' → X6, or_eq_true_iff → YU, or_eq_false_iff → ZK, eq_iff_iff → dE, and_false → ei
open PySem.Heap renaming get?_push_of_some → VA, get?_push_size → VL, lt_size → V1, get?_update_other → V2, get?_update_self → V7, get?_none_of_le → WU, size_push → Xi, SameBut → cq, ExtBut → ea
open PySem.Builtin.Range renaming small → VO, rangeSize → WI
open PySem.Txt renaming lower → VX, upper → XY, join → ke
open Int renaming natCast_nonneg → V0, ofNat_lt → Wz, toNat_natCast → XC, zero_mul → XH, fmod_eq_emod_of_nonneg → XQ, lt_trans → Yc, zero_add → Yd, mul_zero → Yh, add_zero → Yv, ofNat_le → YR, add_assoc → Y3, eq_ofNat_of_zero_le → Zb, toNat_of_nonneg → ZU, ofNat → ZV, lt_of_le_of_lt → ZX, fmod → ag, one_mul → ba, le_refl → ed, negSucc → en, mul_one → ew, mul_add → eQ, add_comm → io, mul_comm → ip, add_mul → j1, not_lt → km
open LawfulBEq renaming eq_of_beq → Wc
open Prod.mk renaming inj → Wd
open Option renaming none → We, map_eq_some_iff → Xe, map → XE, isNone_iff_eq_none → XU, map_some → ZO
open PySem.NameKind renaming free → Wj, cell → Xs
open PySem.W renaming SharedT → Wl, plainGet_of → a6, callWith_of → a7, absHeap_size → cp, looks_nsIn → gL
open PySem.Obj renaming mapSeq → Wr, isFreed_of_fields → XT, mapDictKeys → YG, data_mapFields → Y8, putName → js
open PySem.Heap.SameBut renaming update → Wt
open List.cons renaming inj → Wu
open PySem.Value renaming ref → Wv, none → WR, isInt → Xo, str → Za, type → Zt, int → Zy, builtin → ZF
open PySem.Builtin.Str renaming strSliceIndices → WB
open PySem.Sem renaming wp → WT, wp_mono → Ys
open PySem.SeqAt renaming shaped → WX
open PySem.F renaming plain_min_loop → WY, plain_extend_loop → XW, slot_list_append → YW, plainAttrs_str → Zd, entry_min_loop → Zj
open PySem.Value.ref renaming inj → Xb
open Array renaming getElem_push_lt → Xr, length_toList → XF, getElem?_eq_some_iff → XM, getElem?_eq_getElem → XX, eq_empty_of_size_eq_zero → Yp, getElem_modify → YO, ext → kt
open PySem.Builtin renaming bitAnd → Xw, bitNot → XR, divisionGoesByPylong → YD, bitOr → YV
open PySem.Expr renaming casesOn → XG
open PUnit renaming unit → XO
open PySem.PyData renaming canLayAll0 → X5, list → Yr, eqv → YM, int → Y9, strOk → Zm, depthAll → ZL, keyHash → ej, tuple → hZ
open PySem.Around renaming under_plainId → Yb, deeper → fo, in1 → kd
open Ne renaming symm → Ym
open PySem.W.WData renaming int → Yq
open ForInStep renaming yield → YE
open PySem.Builtin.List renaming listExtendWith → YK, listSubscript? → YL
open PySem.Calls renaming call_function_entry → YS
open Int.ofNat renaming inj → YZ
open PySem.Shared renaming asleep_of_life → Zq, mk → Zr
open PySem.W.Looks renaming of_pure → ZE
open PySem.W.WShape renaming hasItems → ZQ, has → dp
open PySem.Heap.IsSliceOf renaming new → ZY
open PyProof.Rows renaming reads_list_at → be, Subscript_ → cx
open LawfulMonad renaming pure_bind → ce, bind_assoc → hJ
open PySem.Env renaming blockKind → fb
open PySem.Code renaming builtin → ij
open Nat.succ renaming inj → il
open PySem.W.WTm renaming holds → kv
open Eq renaming symm → kx
open PySem PySem.W PySem.W.X PyProof.Rows
namespace Internal
section
theorem qA {a b X:Prop}(k:a->b->X)(h:a/\b):X:=by obtain ⟨h0,h1⟩:=h;exact k h0 h1
theorem fJ {a b c X:Prop}(k:a->b->c->X)(h:a/\b/\c):X:=by obtain ⟨h0,h1,h2⟩:=h;exact k h0 h1 h2
theorem bQ {a b c d X:Prop}(k:a->b->c->d->X)(h:a/\b/\c/\d):X:=by obtain ⟨h0,h1,h2,h3⟩:=h;exact k h0 h1 h2 h3
theorem bB {a b c d e X:Prop}(k:a->b->c->d->e->X)(h:a/\b/\c/\d/\e):X:=by obtain ⟨h0,h1,h2,h3,h4⟩:=h;exact k h0 h1 h2 h3 h4
theorem qE {α:Sort _}{a:α->Prop}{X:Prop}(k:∀ x,a x->X)(h:∃ x,a x):X:=by obtain ⟨x,h0⟩:=h;exact k x h0
theorem aI {α:Sort _}{a b:α->Prop}{X:Prop}(k:∀ x,a x->b x->X)(h:∃ x,a x/\b x):X:=by obtain ⟨x,h0,h1⟩:=h;exact k x h0 h1
theorem fq {α:Sort _}{a b c:α->Prop}{X:Prop}(k:∀ x,a x->b x->c x->X)(h:∃ x,a x/\b x/\c x):X:=by obtain ⟨x,h0,h1,h2⟩:=h;exact k x h0 h1 h2
theorem fZ {α:Sort _}{a b c d:α->Prop}{X:Prop}(k:∀ x,a x->b x->c x->d x->X)(h:∃ x,a x/\b x/\c x/\d x):X:=by obtain ⟨x,h0,h1,h2,h3⟩:=h;exact k x h0 h1 h2 h3
theorem D7 {α β:Sort _}{a:α->β->Prop}{X:Prop}(k:∀ x y,a x y->X)(h:∃ x y,a x y):X:=by obtain ⟨x,y,h0⟩:=h;exact k x y h0
theorem dM {α β:Sort _}{a b:α->β->Prop}{X:Prop}(k:∀ x y,a x y->b x y->X)(h:∃ x y,a x y/\b x y):X:=by obtain ⟨x,y,h0,h1⟩:=h;exact k x y h0 h1
theorem ak {α β:Sort _}{a b c:α->β->Prop}{X:Prop}(k:∀ x y,a x y->b x y->c x y->X)(h:∃ x y,a x y/\b x y/\c x y):X:=by obtain ⟨x,y,h0,h1,h2⟩:=h;exact k x y h0 h1 h2
theorem MA {α β γ:Sort _}{a:α->β->γ->Prop}{X:Prop}(k:∀ x y z,a x y z->X)(h:∃ x y z,a x y z):X:=by obtain ⟨x,y,z,h0⟩:=h;exact k x y z h0
theorem aU {α β γ:Sort _}{a b:α->β->γ->Prop}{X:Prop}(k:∀ x y z,a x y z->b x y z->X)(h:∃ x y z,a x y z/\b x y z):X:=by obtain ⟨x,y,z,h0,h1⟩:=h;exact k x y z h0 h1
theorem bG {α β γ δ:Sort _}{a:α->β->γ->δ->Prop}{X:Prop}(k:∀ x y z w,a x y z w->X)(h:∃ x y z w,a x y z w):X:=by obtain ⟨x,y,z,w,h0⟩:=h;exact k x y z w h0
theorem bY {a b c:Prop}(h0:a)(h1:b)(h2:c):a/\b/\c:=⟨h0,h1,h2⟩
theorem dG {a b c d:Prop}(h0:a)(h1:b)(h2:c)(h3:d):a/\b/\c/\d:=⟨h0,h1,h2,h3⟩
theorem cO {a b c d e:Prop}(h0:a)(h1:b)(h2:c)(h3:d)(h4:e):a/\b/\c/\d/\e:=⟨h0,h1,h2,h3,h4⟩
theorem aC {α:Sort _}{a b:α->Prop}(x:α)(h0:a x)(h1:b x):∃ x,a x/\b x:=⟨x,h0,h1⟩
theorem fu {α:Sort _}{a b c:α->Prop}(x:α)(h0:a x)(h1:b x)(h2:c x):∃ x,a x/\b x/\c x:=⟨x,h0,h1,h2⟩
theorem ir {α:Sort _}{a b c d:α->Prop}(x:α)(h0:a x)(h1:b x)(h2:c x)(h3:d x):∃ x,a x/\b x/\c x/\d x:=⟨x,h0,h1,h2,h3⟩
theorem rD {α β:Sort _}{a:α->β->Prop}(x:α)(y:β)(h0:a x y):∃ x y,a x y:=⟨x,y,h0⟩
theorem nC {α β:Sort _}{a b:α->β->Prop}(x:α)(y:β)(h0:a x y)(h1:b x y):∃ x y,a x y/\b x y:=⟨x,y,h0,h1⟩
theorem ay {α β:Sort _}{a b c:α->β->Prop}(x:α)(y:β)(h0:a x y)(h1:b x y)(h2:c x y):∃ x y,a x y/\b x y/\c x y:=⟨x,y,h0,h1,h2⟩
theorem R9 {α β γ:Sort _}{a:α->β->γ->Prop}(x:α)(y:β)(z:γ)(h0:a x y z):∃ x y z,a x y z:=⟨x,y,z,h0⟩
theorem cu {α β γ:Sort _}{a b:α->β->γ->Prop}(x:α)(y:β)(z:γ)(h0:a x y z)(h1:b x y z):∃ x y z,a x y z/\b x y z:=⟨x,y,z,h0,h1⟩
theorem d7 {α β γ δ:Sort _}{a:α->β->γ->δ->Prop}(x:α)(y:β)(z:γ)(w:δ)(h0:a x y z w):∃ x y z w,a x y z w:=⟨x,y,z,w,h0⟩
theorem qB {a b:Bool}{X:Prop}(k:a=true->b=true->X)(h:(a&&b)=true):X:=qA k (VG.mp h)
theorem qO {α β:Type _}{o:Option α}{f:α->Option β}{y:β}{X:Prop}(k:∀ x,o=some x->f x=some y->X)(h:o.bind f=some y):X:=aI k (Option.bind_eq_some_iff.mp h)
theorem qM {α β:Type _}{f:α->β}{o:Option α}{y:β}{X:Prop}(k:∀ x,o=some x->f x=y->X)(h:o.map f=some y):X:=aI k (Xe.mp h)
theorem qL {α β:Type _}{f:α->β}{l:List α}{y:β}{X:Prop}(k:∀ x,x∈l->f x=y->X)(h:y∈l.map f):X:=aI k (WW.mp h)
theorem qP {α β:Type _}{a c:α}{b d:β}{X:Prop}(k:a=c->b=d->X)(h:(a,b)=(c,d)):X:=qA k (Wd h)
theorem qV {α β:Type _}{a c:α}{b d:β}{X:Prop}(k:a=c->b=d->X)(h:some (a,b)=some (c,d)):X:=qP k (Vf h)
theorem qS {α:Type _}{o:Option α}{X:Prop}(k:∀ x,o=some x->X)(h:o.isSome=true):X:=qE k (Option.isSome_iff_exists.mp h)
theorem iu {α β:Type _}{f:α->β}{l:List α}{P:β->Prop}(k:∀ x,x∈l->P (f x))(y:β)(h:y∈l.map f):P y:=by obtain ⟨x,hx,rfl⟩:=WW.mp h;exact k x hx
theorem DV {α:Type _}{p q:Prop}{v w:α}{Y:α->Prop}(k:p->Y v)(hq:q)(h:some (p,v)=some (q,w)):Y w:=by cases h;exact k hq
theorem jB {α:Type _}{p:Prop}{x:α}(h:none=some x):p:=nomatch h
end
section
noncomputable abbrev HV:OpenLaw:=PySem.Challenge.rw_kl0126_01
theorem MB:HV.wellSaid=true:=by kernel_rfl
end
section
theorem B0 {α:Type}{p:Prop}{x:α}(h:none=some x):p:=nomatch h
noncomputable abbrev Me:=∀ α:Type,Ctx->Pos->Wl->Sem α->Option (Except Vg α×Pos×Wl)
noncomputable def rE (den:Code->Sem Fin)(ih:Me):Nat->Ctx->Pos->Wl->Option (bc×Wl)
 | 0,_,_,_=>none
 | n+1,Γ,p,S=>(ih Fin Γ p S (den Γ.code)).bind λ r=>match r.1 with
  | .error e=>some (.error e,r.2.2)
  | .ok (.done f)=>some (.ok f,r.2.2)
  | .ok (.again c)=>bif c.quiet then rE den ih n (Γ.goto c) r.2.1 r.2.2 else none
theorem lN {b:Bool}{β:Type}{k:Option β}{r:β}(h:(bif b then k else none)=some r):b=true/\k=some r:=by
 induction b with
 | true=>exact ⟨rfl,h⟩
 | false=>exact B0 h
noncomputable def B5 (S:Wl)(a:Addr):Option Obj:=bif Xf a S.n then (S.tree.get a).bind alive else none
noncomputable def D8 (den:Code->Sem Fin)(prog:Wi)(P:iq)(n:Nat)(ih:Me):Me:=λ α Γ p S t=>match t with
 | .pure a=>some (.ok a,p,S)
 | .raise e=>some (.error e,p,S)
 | .rule _ k=>ih α Γ p S (k ())
 | .at p' k=>ih α Γ p' S (k ())
 | .point _ k=>ih α Γ p S (k ())
 | .ask k=>ih α Γ p S (k ⟨prog,P⟩)
 | .load a _ k=>(B5 S a).bind λ o=>ih α Γ p S (k o)
 | .loadIfAlive a k=>(B5 S a).bind λ o=>ih α Γ p S (k (some o))
 | .update a _ f k=>(B5 S a).bind λ _=>ih α Γ p ⟨S.tree.set a f,S.n,S.life,S.gens,S.drawn,S.toks,S.os⟩ (k ())
 | .alloc o k=>bif ((S.tree.ins S.n o).get S.n).isSome then ih α Γ p ⟨S.tree.ins S.n o,S.n+1,S.life,S.gens,S.drawn,S.toks,S.os⟩ (k S.n) else none
 | .fresh k=>ih α Γ p ⟨S.tree,S.n,S.life,S.gens,S.drawn,S.toks+1,S.os⟩ (k S.toks)
 | .handled own k=>ih α Γ p S (k (if own then Γ.own else Γ.handled))
 | .stack k=>ih α Γ p S (k ((Γ.code,p)::Γ.below))
 | .thread k=>ih α Γ p S (k 0)
 | .call c h _ _ k=>(rE den ih n (Γ.enter c h p) p S).bind λ r=>ih α Γ p r.2 (k r.1)
 | _=>none
noncomputable def rn (den:Code->Sem Fin)(prog:Wi)(P:iq):Nat->Me
 | 0=>λ _ _ _ _ _=>none
 | n+1=>D8 den prog P n (rn den prog P n)
theorem nZ {S:Wl}{a:Addr}{o:Obj}(h:B5 S a=some o):S.abs.heap.get? a=some o/\∃ o',S.tree.get a=some o':=by
 refine qA (λ hb h=>?_) (lN h)
 refine qO (λ o' e h=>?_) h
 exact ⟨(abs_get (blt_true hb) e).trans h,o',e⟩
section
variable {den:Code->Sem Fin}{prog:Wi}{P:iq}{w:WK}
noncomputable def D9 (den:Code->Sem Fin)(prog:Wi)(w:WK)(ih:Me):Prop:=
 ∀ (α:Type) (Γ:Ctx) (p:Pos) (S:Wl) (t:Sem α) (r:Except Vg α) (p':Pos) (S':Wl),ih α Γ p S t=some (r,p',S')->
  ∀ (Q:α->Pos->Vh->Prop) (E:Vg->Pos->Vh->Prop),(match r with | .ok a=>Q a p' S'.abs | .error e=>E e p' S'.abs)->WT ⟨den,prog,w⟩ Γ t Q E p S.abs
theorem rF {ih:Me}(IH:D9 den prog w ih)(n:Nat):∀ (Γ:Ctx) (p:Pos) (S:Wl) (r:bc) (S':Wl),rE den ih n Γ p S=some (r,S')->
  ∀ R:bc->Vh->Prop,R r S'.abs->wpCode ⟨den,prog,w⟩ Γ R p S.abs:=by
 induction n with
 | zero=>exact λ _ _ _ _ _ h=>B0 h
 | succ n ih'=>
  intro Γ p S r S' h R hR
  rw [wpCode_iff_wp]
  refine qO (λ ef hx h=>?_) h;obtain ⟨x1,x2,x3⟩:=ef
  refine IH _ _ _ _ _ _ _ _ hx _ _ ?_
  induction x1 with
  | error e=>cases h;exact hR
  | ok fin=>
   induction fin with
   | done f=>cases h;exact hR
   | again c=>refine qA (λ hq h=>?_) (lN h);exact ⟨hq,ih' _ _ _ _ _ h R hR⟩
theorem Ea (n:Nat):D9 den prog w (rn den prog w.params n):=by
 induction n with
 | zero=>exact λ _ _ _ _ _ _ _ _ h=>B0 h
 | succ n IH=>
  intro α Γ p S t r p' S' h Q E hQ
  have h:D8 den prog w.params n (rn den prog w.params n) α Γ p S t=some (r,p',S'):=h
  induction t using Sem.casesOn with
  | pure a=>cases h;exact hQ
  | raise e=>cases h;exact hQ
  | rule tag k=>exact IH _ _ _ _ _ _ _ _ h _ _ hQ
  | «at» q k=>exact IH _ _ _ _ _ _ _ _ h _ _ hQ
  | point l k=>exact IH _ _ _ _ _ _ _ _ h _ _ hQ
  | ask k=>exact IH _ _ _ _ _ _ _ _ h _ _ hQ
  | load a q k=>
   refine qO (λ o e h=>?_) h
   exact ⟨o,(nZ e).1,IH _ _ _ _ _ _ _ _ h _ _ hQ⟩
  | loadIfAlive a k=>
   refine qO (λ o e h=>?_) h
   show WT _ Γ (k (S.abs.heap.get? a)) Q E p S.abs
   rw [(nZ e).1];exact IH _ _ _ _ _ _ _ _ h _ _ hQ
  | update a q f k=>
   refine qO (λ o e h=>?_) h
   refine qA (λ h1=>qE λ o' h2=>?_) (nZ e)
   have z:=IH _ _ _ _ _ _ _ _ h Q E hQ
   rw [show (⟨S.tree.set a f,S.n,S.life,S.gens,S.drawn,S.toks,S.os⟩:Wl).abs={S.abs with heap:=S.abs.heap.update a f} from congrArg (Zr · _ _ _ _) (absHeap_set h2)] at z
   exact ⟨by rw [h1];rfl,z⟩
  | alloc o k=>
   refine qA (λ e h=>?_) (lN h)
   have z:=IH _ _ _ _ _ _ _ _ h Q E hQ
   rw [show (⟨S.tree.ins S.n o,S.n+1,S.life,S.gens,S.drawn,S.toks,S.os⟩:Wl).abs={S.abs with heap:=S.abs.heap.push o} from congrArg (Zr · _ _ _ _) (absHeap_ins e)] at z
   show WT _ Γ (k S.abs.heap.objs.size) Q E p _
   rw [show S.abs.heap.objs.size=S.n from cp ..];exact z
  | fresh k=>exact IH _ _ _ _ _ _ _ _ h _ _ hQ
  | handled own k=>exact IH _ _ _ _ _ _ _ _ h _ _ hQ
  | stack k=>exact IH _ _ _ _ _ _ _ _ h _ _ hQ
  | thread k=>exact IH _ _ _ _ _ _ _ _ h _ _ hQ
  | call c hd g l k=>
   refine qO (λ ef e h=>?_) h;obtain ⟨r1,S1⟩:=ef
   exact rF IH n _ _ _ _ _ e _ (IH _ _ _ _ _ _ _ _ h _ _ hQ)
  | _=>exact B0 h
end
end
section
theorem aV {α:Type}{p:Prop}{x:α}(h:none=some x):p:=nomatch h
theorem lO {p:Prop}(h:false=true):p:=nomatch h
theorem HQ {p:Prop}(h:true=false):p:=nomatch h
theorem cps {P:Prop}(k:∀ G:Prop,(P->G)->G):P:=k P id
inductive V where
 | none
 | bool (b:Bool)
 | int (i:Int)
 | str (s:Str)
 | tup (l:List V)
 | lst (l:List V)
 | con (x:Vg)
 | loc (n:Nat)
 | bm (f:Vg) (self:V)
 | kwd (n : Str) (v : V)                -- a dict of one entry
 | qQ (a b c:Int)
 | ku                                 -- an empty dict
 | lam (fd : WH)                  -- a lambda
noncomputable abbrev Fz:=Addr->Option Obj
noncomputable abbrev Ky:=Nat->Option Addr
noncomputable def dN (xs:List Vg):Obj:={cls:=.type "tuple",data:=.seq xs.toArray}
noncomputable def ao (xs:List Vg)(ep:Nat):Obj:={cls:=.type "list",data:=.seq xs.toArray ep}
noncomputable def pL (a b c:Int)(t u v:Tok):Obj:={cls:=.type "range",data:=.fields #[.int a t,.int b u,.int c v]}
noncomputable def rG (fd:WH):Obj:={cls:=.type "function",data:=.func fd}
noncomputable def n5 (F:Fz)(v:Vg):Prop:=∃ c oc vs q t,v=.ref c/\F c=some oc/\oc.data=.fields vs/\vs[1]?=some (.str q t)
theorem n5.mono {F F':Fz}(h:∀ a o,F a=some o->F' a=some o){v:Vg}(x:n5 F v):n5 F' v:=bG (λ c oc vs q=>fq λ t e f r=>⟨c,oc,vs,q,t,e,h _ _ f,r⟩) x
noncomputable def Eb (f self:Vg):Obj:={cls:=.type "method",data:=.fields #[f,self]}
mutual
inductive Den (F:Fz)(ρ:Ky):V->Vg->Prop
 | none:Den F ρ .none .none
 | bool (b:Bool):Den F ρ (.bool b) (.bool b)
 | int (i:Int) (t:Tok):Den F ρ (.int i) (.int i t)
 | str (s:Str) (t:Tok):Den F ρ (.str s) (.str s t)
 | con (x:Vg):Den F ρ (.con x) x
 | loc {n:Nat}{a:Addr} (h:ρ n=some a):Den F ρ (.loc n) (.ref a)
 | tup {l:List V}{xs:List Vg}{a:Addr} (h:F a=some (dN xs)) (hl:aF F ρ l xs):Den F ρ (.tup l) (.ref a)
 | lst {l:List V}{xs:List Vg}{a:Addr}{ep:Nat} (h:F a=some (ao xs ep)) (hl:aF F ρ l xs):Den F ρ (.lst l) (.ref a)
 | bm {f:Vg}{u:V}{x:Vg}{a:Addr} (h:F a=some (Eb f x)) (hu:Den F ρ u x):Den F ρ (.bm f u) (.ref a)
 | qQ {a b c:Int}{t u v:Tok}{d:Addr} (h:F d=some (pL a b c t u v)):Den F ρ (.qQ a b c) (.ref d)
 | ku {d:Addr} (h:F d=some {cls:=.type "dict",data:=.dict #[]}):Den F ρ .ku (.ref d)
 | kwd {n:Str}{v:V}{x:Vg}{d:Addr}{o:Obj}{hs:Int}{t:Tok}{ep:Nat} (h:F d=some o) (hc:o.cls=.type "dict") (hd:o.data=.dict #[⟨hs,.str n t,x⟩] ep) (hv:Den F ρ v x):Den F ρ (.kwd n v) (.ref d)
 | lam {fd:WH}{a:Addr} (h:F a=some (rG fd)) (hc:n5 F fd.code):Den F ρ (.lam fd) (.ref a)
inductive aF (F:Fz)(ρ:Ky):List V->List Vg->Prop
 | nil:aF F ρ [] []
 | cons {v:V}{l:List V}{x:Vg}{xs:List Vg} (h:Den F ρ v x) (hl:aF F ρ l xs):aF F ρ (v::l) (x::xs)
end
noncomputable def aZ (F F':Fz):Prop:=∀ a o,F a=some o->F' a=some o
noncomputable def bD (ρ ρ':Ky):Prop:=∀ n a,ρ n=some a->ρ' n=some a
theorem aZ.refl (F:Fz):aZ F F:=λ _ _ h=>h
theorem bD.refl (ρ:Ky):bD ρ ρ:=λ _ _ h=>h
theorem aZ.trans {F G H:Fz}(x:aZ F G)(y:aZ G H):aZ F H:=λ a o h=>y a o (x a o h)
theorem bD.trans {F G H:Ky}(x:bD F G)(y:bD G H):bD F H:=λ a o h=>y a o (x a o h)
theorem lP {F:Fz}{ρ:Ky}{M1:V->Vg->Prop}{M2:List V->List Vg->Prop}(hnone:M1 .none .none)(JU:∀ b,M1 (.bool b) (.bool b))(hint:∀ i t,M1 (.int i) (.int i t))(hstr:∀ s t,M1 (.str s) (.str s t))(MC:∀ x,M1 (.con x) x)
  (hloc:∀ {n a},ρ n=some a->M1 (.loc n) (.ref a)) (htup:∀ {l xs a},F a=some (dN xs)->aF F ρ l xs->M2 l xs->M1 (.tup l) (.ref a)) (qR:∀ {l xs a ep},F a=some (ao xs ep)->aF F ρ l xs->M2 l xs->M1 (.lst l) (.ref a))
  (hbm:∀ {f u x a},F a=some (Eb f x)->Den F ρ u x->M1 u x->M1 (.bm f u) (.ref a)) (MD:∀ {a b c t u v d},F d=some (pL a b c t u v)->M1 (.qQ a b c) (.ref d))
  (hdct:∀ {d},F d=some {cls:=.type "dict",data:=.dict #[]}->M1 .ku (.ref d))
  (ME:∀ {n v x d o hs t ep},F d=some o->o.cls=.type "dict"->o.data=.dict #[⟨hs,.str n t,x⟩] ep->Den F ρ v x->M1 v x->M1 (.kwd n v) (.ref d))
  (MF:∀ {fd a},F a=some (rG fd)->n5 F fd.code->M1 (.lam fd) (.ref a))
  (MG:M2 [] []) (JV:∀ {v l x xs},Den F ρ v x->aF F ρ l xs->M1 v x->M2 l xs->M2 (v::l) (x::xs)):(∀ {v x},Den F ρ v x->M1 v x)/\∀ {l xs},aF F ρ l xs->M2 l xs:=
 ⟨λ h=>Den.rec (motive_1:=λ v x _=>M1 v x) (motive_2:=λ l xs _=>M2 l xs) hnone JU hint hstr MC hloc htup qR hbm MD hdct ME MF MG JV h,λ h=>aF.rec (motive_1:=λ v x _=>M1 v x) (motive_2:=λ l xs _=>M2 l xs) hnone JU hint hstr MC hloc htup qR hbm MD hdct ME MF MG JV h⟩
theorem Den.mono {F F':Fz}{ρ ρ':Ky}(hF:aZ F F')(ig:bD ρ ρ'){v:V}{x:Vg}(h:Den F ρ v x):Den F' ρ' v x:=
 (lP (M1:=Den F' ρ') (M2:=aF F' ρ') .none .bool .int .str .con (λ h=>.loc (ig _ _ h)) (λ h _ ih=>.tup (hF _ _ h) ih) (λ h _ ih=>.lst (hF _ _ h) ih) (λ h _ ih=>.bm (hF _ _ h) ih) (λ h=>.qQ (hF _ _ h)) (λ h=>.ku (hF _ _ h)) (λ h hc hd _ ih=>.kwd (hF _ _ h) hc hd ih) (λ h hc=>.lam (hF _ _ h) (hc.mono hF)) .nil (λ _ _ h hl=>.cons h hl)).1 h
theorem aF.ind {F:Fz}{ρ:Ky}{P:List V->List Vg->Prop}(hn:P [] [])(hc:∀ {v x l xs},Den F ρ v x->aF F ρ l xs->P l xs->P (v::l) (x::xs)){l:List V}{xs:List Vg}(h:aF F ρ l xs):P l xs:=
 (lP (M1:=λ _ _=>True) trivial (λ _=>trivial) (λ _ _=>trivial) (λ _ _=>trivial) (λ _=>trivial) (λ _=>trivial) (λ _ _ _=>trivial) (λ _ _ _=>trivial) (λ _ _ _=>trivial) (λ _=>trivial) (λ _=>trivial) (λ _ _ _ _ _=>trivial) (λ _ _=>trivial) hn (λ h hl _ ih=>hc h hl ih)).2 h
theorem aF.mono {F F':Fz}{ρ ρ':Ky}(hF:aZ F F')(ig:bD ρ ρ'){l:List V}{xs:List Vg}(h:aF F ρ l xs):aF F' ρ' l xs:=h.ind .nil λ d _ ih=>.cons (d.mono hF ig) ih
section
variable {F:Fz}{ρ:Ky}{x:Vg}{xs:List Vg}
theorem Den.none_inv (h:Den F ρ .none x):x=.none:=by cases h;rfl
theorem Den.bool_inv {b:Bool}(h:Den F ρ (.bool b) x):x=.bool b:=by cases h;rfl
theorem Den.int_inv {i:Int}(h:Den F ρ (.int i) x):∃ t,x=.int i t:=by cases h;exact ⟨_,rfl⟩
theorem Den.str_inv {i:Str}(h:Den F ρ (.str i) x):∃ t,x=.str i t:=by cases h;exact ⟨_,rfl⟩
theorem Den.HW {y:Vg}(h:Den F ρ (.con y) x):x=y:=by cases h;rfl
theorem Den.AP {n:Nat}(h:Den F ρ (.loc n) x):∃ a,x=.ref a/\ρ n=some a:=by cases h with | loc h=>exact aC _ rfl h
theorem Den.lQ {l:List V}(h:Den F ρ (.tup l) x):∃ a xs,x=.ref a/\F a=some (dN xs)/\aF F ρ l xs:=by cases h with | tup h hl=>exact ay _ _ rfl h hl
theorem Den.lst_inv {l:List V}(h:Den F ρ (.lst l) x):∃ a xs ep,x=.ref a/\F a=some (ao xs ep)/\aF F ρ l xs:=by cases h with | lst h hl=>exact cu _ _ _ rfl (⟨h,hl⟩)
theorem Den.pM {P:Vg->Prop}(h:Den F ρ .none x)(k:P .none):P x:=h.none_inv▸k
theorem Den.lR {P:Vg->Prop}{b:Bool}(h:Den F ρ (.bool b) x)(k:P (.bool b)):P x:=h.bool_inv▸k
theorem Den.aM {P:Vg->Prop}{i:Int}(h:Den F ρ (.int i) x)(k:∀ t,P (.int i t)):P x:=let ⟨t,e⟩:=h.int_inv;e▸k t
theorem Den.bR {P:Vg->Prop}{i:Str}(h:Den F ρ (.str i) x)(k:∀ t,P (.str i t)):P x:=let ⟨t,e⟩:=h.str_inv;e▸k t
theorem Den.bL {P:Vg->Prop}{y:Vg}(h:Den F ρ (.con y) x)(k:P y):P x:=h.HW▸k
theorem Den.eg {P:Vg->Prop}{n:Nat}(h:Den F ρ (.loc n) x)(k:∀ a,ρ n=some a->P (.ref a)):P x:=let ⟨a,e,q⟩:=h.AP;e▸k a q
theorem Den.jb {P:Vg->Prop}{l:List V}(h:Den F ρ (.tup l) x)(k:∀ a xs,F a=some (dN xs)->aF F ρ l xs->P (.ref a)):P x:=let ⟨a,xs,e,q,r⟩:=h.lQ;e▸k a xs q r
theorem Den.jc {P:Vg->Prop}{l:List V}(h:Den F ρ (.lst l) x)(k:∀ a xs ep,F a=some (ao xs ep)->aF F ρ l xs->P (.ref a)):P x:=let ⟨a,xs,ep,e,q,r⟩:=h.lst_inv;e▸k a xs ep q r
theorem Den.HX {a b c:Int}(h:Den F ρ (.qQ a b c) x):∃ t u v d,x=.ref d/\F d=some (pL a b c t u v):=by cases h with | qQ h=>exact d7 _ _ _ _ (⟨rfl,h⟩)
theorem Den.KO {f:Vg}{u:V}(h:Den F ρ (.bm f u) x):∃ y a,x=.ref a/\F a=some (Eb f y)/\Den F ρ u y:=by cases h with | bm h hu=>exact ay _ _ rfl h hu
theorem Den.rH (h:Den F ρ .ku x):∃ d,x=.ref d/\F d=some {cls:=.type "dict",data:=.dict #[]}:=by cases h with | ku h=>exact aC _ rfl h
theorem Den.AQ {fd:WH}(h:Den F ρ (.lam fd) x):∃ a,x=.ref a/\F a=some (rG fd)/\n5 F fd.code:=by cases h with | lam h hc=>exact fu _ rfl h hc
theorem Den.kwd_inv {n:Str}{v:V} (h:Den F ρ (.kwd n v) x):∃ d o hs t y ep,x=.ref d/\F d=some o/\o.cls=.type "dict"/\o.data=.dict #[⟨hs,.str n t,y⟩] ep/\Den F ρ v y:=by cases h with | kwd h hc hd hv=>exact d7 _ _ _ _ (ay _ _ rfl h (bY hc hd hv))
theorem aF.nil_inv (h:aF F ρ [] xs):xs=[]:=by cases h;rfl
theorem aF.cons_inv {v:V}{l:List V}(h:aF F ρ (v::l) xs):∃ y ys,xs=y::ys/\Den F ρ v y/\aF F ρ l ys:=by cases h with | cons h hl=>exact ay _ _ rfl h hl
theorem aF.aD {P:List Vg->Prop}(h:aF F ρ [] xs)(k:P []):P xs:=h.nil_inv▸k
theorem aF.au {P:List Vg->Prop}{v:V}{l:List V}(h:aF F ρ (v::l) xs)(k:∀ y ys,Den F ρ v y->aF F ρ l ys->P (y::ys)):P xs:=let ⟨y,ys,e,q,r⟩:=h.cons_inv;e▸k y ys q r
end
theorem aF.length {F:Fz}{ρ:Ky}{l:List V}{xs:List Vg}(h:aF F ρ l xs):l.length=xs.length:=h.ind (P:=λ l xs=>l.length=xs.length) rfl λ _ _ ih=>congrArg d6 ih
theorem aF.get {F:Fz}{ρ:Ky}{l:List V}{xs:List Vg}(h:aF F ρ l xs):∀ {i:Nat}{v:V},l[i]?=some v->∃ x,xs[i]?=some x/\Den F ρ v x:=
 h.ind (P:=λ l xs=>∀ {i:Nat}{v:V},l[i]?=some v->∃ x,xs[i]?=some x/\Den F ρ v x) (λ h=>aV h) λ {v x l xs} hv _ ih i=>by
  intro w e
  induction i using aw with
  | zero=>exact aC x rfl (Vf e▸hv)
  | succ i=>exact ih (i:=i) e
theorem aF.append {F:Fz}{ρ:Ky}{l l':List V}{xs xs':List Vg}(h:aF F ρ l xs)(h':aF F ρ l' xs'):aF F ρ (l++l') (xs++xs'):=h.ind (P:=λ l xs=>aF F ρ (l++l') (xs++xs')) h' λ hv _ ih=>.cons hv ih
inductive MO where
 | lst (l:List V)
 | it (src : V) (i : Nat)             -- an iterator over a list (frozen, or at a key), at place i
 | any                                -- nothing is told of it
 | qj (c : Addr) (k : Nat)           -- the places of the known code object c, under the key k
 | inst (cls : Addr) (dk : Nat)       -- an object of a class, its dict under the key dk
 | dict (kvs:List (Str×V))
structure St where
 vars:List (Str×V)
 heap:List (Nat×MO)
noncomputable def B6:List Nat->List Nat->Bool
 | [],[]=>true
 | x::xs,y::ys=>Vo x y&&B6 xs ys
 | _,_=>false
theorem B7 (a:List Nat):B6 a a=true:=by
 induction a with
 | nil=>rfl
 | cons x l ih=>exact VG.mpr ⟨WL x,ih⟩
theorem HY (a:List Nat):∀ b,B6 a b=true->a=b:=by
 induction a with
 | nil=>intro b;induction b using VY with | nil=>exact λ _=>rfl | cons _ _=>exact lO
 | cons x l ih=>intro b;induction b using VY with | nil=>exact lO | cons y r=>exact λ h=>congr (congrArg kn (VE (VG.mp h).1)) (ih _ (VG.mp h).2)
theorem xm {a b:List Nat}:B6 a b=true↔a=b:=⟨HY a b,λ h=>h▸B7 a⟩
noncomputable def sB (a b:Str):Bool:=B6 a.cps.toList b.cps.toList
theorem dH {a b:Str}:sB a b=true↔a=b:=by
 unfold sB
 rw [xm]
 constructor
 ·intro h
  obtain ⟨⟨a⟩⟩:=a
  obtain ⟨⟨b⟩⟩:=b
  cases h;rfl
 ·rintro rfl;rfl
section
variable {κ α:Type}
noncomputable def kB (q:κ->κ->Bool):List (κ×α)->κ->Option α
 | [],_=>none
 | p::l,x=>bif q x p.1 then some p.2 else kB q l x
noncomputable def xo (q:κ->κ->Bool):List (κ×α)->κ->α->List (κ×α)
 | [],x,v=>[(x,v)]
 | p::l,x,v=>bif q x p.1 then (p.1,v)::l else p::xo q l x v
theorem qF {q:κ->κ->Bool}(hq:∀ {a b},q a b=true↔a=b){a b:κ}(h:¬ a=b):q a b=false:=Wm.mpr λ e=>h (hq.mp e)
theorem uK [DecidableEq κ]{q:κ->κ->Bool}(hq:∀ {a b},q a b=true↔a=b)(l:List (κ×α))(x:κ)(v:α)(y:κ):kB q (xo q l x v) y=if y=x then some v else kB q l y:=by
 by_cases h:y=x
 ·subst h
  rw [if_pos rfl]
  induction l with
  | nil=>show (bif q y y then some v else none)=_;rw [hq.mpr rfl];rfl
  | cons p l ih=>
   show kB q (bif q y p.1 then (p.1,v)::l else p::xo q l y v) y=_
   cases e:q y p.1 with
   | true=>show (bif q y p.1 then some v else _)=_;rw [e];rfl
   | false=>show (bif q y p.1 then some p.2 else kB q (xo q l y v) y)=_;rw [e];exact ih
 ·rw [if_neg h]
  induction l with
  | nil=>show (bif q y x then some v else none)=_;rw [qF hq h];rfl
  | cons p l ih=>
   show kB q (bif q x p.1 then (p.1,v)::l else p::xo q l x v) y=bif q y p.1 then some p.2 else kB q l y
   cases e:q x p.1 with
   | true=>show (bif q y p.1 then some v else kB q l y)=_;rw [<-hq.mp e,qF hq h];rfl
   | false=>show (bif q y p.1 then some p.2 else kB q (xo q l x v) y)=_;rw [ih]
end
theorem uq {a b:Nat}:Vo a b=true↔a=b:=⟨VE,λ h=>h▸WL a⟩
noncomputable def az {α:Type}:List (Str×α)->Str->Option α:=kB sB
noncomputable def n6 {α:Type}:List (Str×α)->Str->α->List (Str×α):=xo sB
noncomputable def J:List (Nat×MO)->Nat->Option MO:=kB Vo
noncomputable def af:List (Nat×MO)->Nat->MO->List (Nat×MO):=xo Vo
theorem fN {α:Type}(l:List (Str×α))(x:Str)(v:α)(y:Str):az (n6 l x v) y=if y=x then some v else az l y:=uK dH l x v y
theorem dj (l:List (Nat×MO))(x:Nat)(v:MO)(y:Nat):J (af l x v) y=if y=x then some v else J l y:=uK uq l x v y
inductive mR (F:Fz)(ρ:Ky):MO->Obj->Prop
 | lst {l:List V}{xs:List Vg}{ep:Nat} (hl:aF F ρ l xs):mR F ρ (.lst l) (ao xs ep)
 | it {src:V}{a:Addr}{i:Nat} (h:Den F ρ src (.ref a)) {o:Obj} (hc:o.cls=.type "list_iterator") (hd:o.data=.fields #[.ref a,.int i 0]):mR F ρ (.it src i) o
 | any {o:Obj}:mR F ρ .any o
 | qj {c P:Addr}{k:Nat}{ob oc:Obj}{ps:Array Vg} (hc:F c=some oc) (hk:ρ k=some P) (hi:∀ h:Heap,h.get? c=some oc->h.get? P=some ob->h.IsCode c P ps/\h.TableAt c P ps) (hg:∀ pos v,codeAmong pos ps.toList=some v->n5 F v):mR F ρ (.qj c k) ob
 | inst {c d:Addr}{dk:Nat} (h:ρ dk=some d):mR F ρ (.inst c dk) {cls:=.ref c,dict:=some d,data:=.plain}
 | dict {kvs:List (Str×V)}{o:Obj}{es:Array Vt}{ep:Nat} (hx:o={cls:=.type "dict",data:=.dict es ep}) (hz:es.size<=kvs.length) (hd:o.data=.dict es ep) (hk:StrKeys es)
   (hm:∀ x,(∀ v,az kvs x=some v->∃ y,nsFind es x=some y/\Den F ρ v y)/\(az kvs x=none->nsFind es x=none)):mR F ρ (.dict kvs) o
theorem mR.lst_inv {F:Fz}{ρ:Ky}{l:List V}{o:Obj}(h:mR F ρ (.lst l) o):∃ xs ep,o=ao xs ep/\aF F ρ l xs:=by cases h with | lst hl=>exact nC _ _ rfl hl
theorem mR.mono {F F':Fz}{ρ ρ':Ky}(hF:aZ F F')(ig:bD ρ ρ'){m:MO}{o:Obj}:mR F ρ m o->mR F' ρ' m o
 | .lst hl=>.lst (hl.mono hF ig)
 | .it h hc hd=>.it (h.mono hF ig) hc hd
 | .any=>.any
 | .qj hc hk hi hg=>.qj (hF _ _ hc) (ig _ _ hk) hi λ pos v e=>(hg pos v e).mono hF
 | .inst h=>.inst (ig _ _ h)
 | .dict hx hz hd hk hm=>.dict hx hz hd hk λ x=>⟨λ v e=>aI (λ y a b=>(aC y a (b.mono hF ig))) ((hm x).1 v e),(hm x).2⟩
structure Cx where
 prog:Wi
 w:WK
 A:Wk
 env:Env
 G:Fz
 gens:Array GenState
 os:OsState
 drawn:Drawn
 K:Frag
 frs:List Env
 ext:Fz
noncomputable def Cx.own (C:Cx)(a:Addr):Prop:=a=C.env.locals\/∃ x,C.env.cells.lookup x=some a
noncomputable def Cx.fr (C:Cx)(b:Addr):Prop:=b∈C.frs.filterMap (·.frame)
noncomputable def pN (p:Prop)(o o':Obj):Prop:=o'=o\/(p/\o'.cls=o.cls/\o'.data=o.data)
theorem pN.trans {p:Prop}{a b c:Obj}(x:pN p a b)(y:pN p b c):pN p a c:=by
 rcases x with rfl | ⟨x1,x2,x3⟩
 ·exact y
 ·rcases y with rfl | ⟨y1,y2,y3⟩
  ·exact .inr (bY x1 x2 x3)
  ·exact .inr (bY x1 (y2.trans x2) (y3.trans x3))
theorem pN.imp {p q:Prop}{a b:Obj}(h:p->q)(x:pN p a b):pN q a b:=Or.imp id (λ⟨a,b⟩=>⟨h a,b⟩) x
theorem pN.dat {p:Prop}{a b:Obj}(x:pN p a b):b.data=a.data/\b.cls=a.cls:=by
 rcases x with rfl | ⟨_,h,h'⟩
 ·exact ⟨rfl,rfl⟩
 ·exact ⟨h',h⟩
noncomputable def Cx.known (C:Cx)(b:Addr)(o:Obj):Prop:=C.K.lookup b=some o\/C.ext b=some o
structure Rel (C:Cx)(F:Fz)(ρ:Ky)(st:St)(s:Vh):Prop where
 gens:s.gens=C.gens
 os:s.os=C.os
 drawn:s.drawn=C.drawn
 kG:∀ b o,C.G b=some o->∃ o',s.heap.get? b=some o'/\pN (C.fr b) o o'
 kF:∀ b o,F b=some o->s.heap.get? b=some o
 kK:∀ b o,C.known b o->F b=some o
 FG:∀ b o,F b=some o->C.G b=none
 mt:∀ n o,J st.heap n=some o->∃ a ob,ρ n=some a/\s.heap.get? a=some ob/\mR F ρ o ob/\F a=none/\C.G a=none/\¬ C.own a
 dom:∀ n a,ρ n=some a->(J st.heap n).isSome=true
 inj:∀ n m a,ρ n=some a->ρ m=some a->n=m
 ns:∃ m,s.heap.Ns C.env.locals m/\∀ x v,az st.vars x=some v->C.env.kindOf x=some .local->∃ y,m x=some y/\Den F ρ v y
 cells:∀ x c,C.env.cells.lookup x=some c->∃ u,s.heap.IsCell c u/\∀ v,az st.vars x=some v->∃ y,u=some y/\Den F ρ v y
 c7:∀ a,C.own a->F a=none
@[irreducible] noncomputable def eu {α:Type} (ne:Nonempty α) (S:α->Prop):α:=@Classical.epsilon α ne λ a=>¬ S a
theorem sk {α:Type}{ne:Nonempty α}{S:α->Prop}(h:S (eu ne S))(a:α):S a:=Classical.byContradiction λ q=>(by
 have:=@Classical.epsilon_spec α (λ a=>¬ S a) ⟨a,q⟩
 unfold eu at h
 exact this h)
theorem Sa {α β:Type}(a:Nonempty α)(b:Nonempty β):Nonempty (α×β):=a.elim λ a=>b.elim λ b=>⟨(a,b)⟩
theorem neW:Nonempty WK:=⟨⟨λ _ _=>0,{strHash:=λ _=>0,shareClass:=λ _=>0,mergeTok:=id,idOf:=λ _=>0,idOfShared:=λ _ _=>0,followText:=λ _=>false,idOfImm:=λ _=>0}⟩⟩
theorem neC:Nonempty Cx:=neW.elim λ w=>⟨⟨default,w,{},default,λ _=>none,#[],{},{},default,[],λ _=>none⟩⟩
theorem neN:Nonempty Nat:=⟨0⟩
theorem neI:Nonempty Int:=⟨0⟩
theorem neX:Nonempty (String->List V->St->Prop):=⟨λ _ _ _=>True⟩
theorem neQ:Nonempty (V->St->Prop):=⟨λ _ _=>True⟩
theorem neS:Nonempty St:=⟨⟨[],[]⟩⟩
theorem neV:Nonempty V:=⟨.none⟩
theorem neLN:Nonempty (List Nat):=⟨[]⟩
theorem neLV:Nonempty (List (Str×V)):=⟨[]⟩
theorem neB:Nonempty Bool:=⟨true⟩
theorem neLS:Nonempty (List (Str×Str)):=⟨[]⟩
theorem neLI:Nonempty (List Int):=⟨[]⟩
theorem neStr:Nonempty Str:=⟨Str.empty⟩
theorem neFn2 {α β:Type}:Nonempty (α->β->Prop):=⟨λ _ _=>True⟩
theorem neFn1 {α:Type}:Nonempty (α->Prop):=⟨λ _=>True⟩
theorem neF:Nonempty Fz:=⟨λ _=>none⟩
theorem neK:Nonempty Ky:=⟨λ _=>none⟩
theorem neSh:Nonempty Vh:=⟨{}⟩
theorem neVal:Nonempty Vg:=⟨.none⟩
theorem neLV0:Nonempty (List V):=⟨[]⟩
theorem neLVal:Nonempty (List Vg):=⟨[]⟩
theorem neE:Nonempty Expr:=⟨default⟩
theorem neP0:Nonempty Pos:=⟨default⟩
theorem neLE:Nonempty (List Expr):=⟨[]⟩
theorem neLSt:Nonempty (List Stmt):=⟨[]⟩
theorem neSc:Nonempty WM:=⟨default⟩
theorem neLStr:Nonempty (List Str):=⟨[]⟩
theorem neHp:Nonempty Heap:=⟨default⟩
theorem neEnv:Nonempty Env:=⟨default⟩
theorem neAr:Nonempty Wk:=⟨{}⟩
theorem neOb:Nonempty Obj:=⟨default⟩
theorem neSV:Nonempty (Sem Vg):=⟨default⟩
theorem neFD:Nonempty WH:=⟨default⟩
theorem neLM:Nonempty (List (Nat×MO)):=⟨[]⟩
theorem neLK:Nonempty (List Yl):=⟨[]⟩
theorem nePr:Nonempty Wi:=⟨default⟩
theorem neL:Nonempty (List (Str×Vn)):=⟨[]⟩
theorem neNI:Nonempty (Nat->Int):=⟨λ _=>0⟩
theorem neNNI:Nonempty (Nat->Nat->Int):=⟨λ _ _=>0⟩
theorem neLNN:Nonempty (List (Nat×Nat)):=⟨[]⟩
theorem neNN:Nonempty (Nat->Nat):=⟨λ _=>0⟩
noncomputable def u2 {Z1 Z2:Type}(S:Z1->Z2->Prop)(p:Z1×Z2):Prop:=S p.1 p.2
noncomputable def u3 {Z1 Z2 Z3:Type}(S:Z1->Z2->Z3->Prop)(p:Z1×Z2×Z3):Prop:=u2 (S p.1) p.2
noncomputable def u4 {Z1 Z2 Z3 Z4:Type}(S:Z1->Z2->Z3->Z4->Prop)(p:Z1×Z2×Z3×Z4):Prop:=u3 (S p.1) p.2
noncomputable def u5 {Z1 Z2 Z3 Z4 Z5:Type}(S:Z1->Z2->Z3->Z4->Z5->Prop)(p:Z1×Z2×Z3×Z4×Z5):Prop:=u4 (S p.1) p.2
noncomputable def u6 {Z1 Z2 Z3 Z4 Z5 Z6:Type}(S:Z1->Z2->Z3->Z4->Z5->Z6->Prop)(p:Z1×Z2×Z3×Z4×Z5×Z6):Prop:=u5 (S p.1) p.2
noncomputable def u7 {Z1 Z2 Z3 Z4 Z5 Z6 Z7:Type}(S:Z1->Z2->Z3->Z4->Z5->Z6->Z7->Prop)(p:Z1×Z2×Z3×Z4×Z5×Z6×Z7):Prop:=u6 (S p.1) p.2
noncomputable def u8 {Z1 Z2 Z3 Z4 Z5 Z6 Z7 Z8:Type}(S:Z1->Z2->Z3->Z4->Z5->Z6->Z7->Z8->Prop)(p:Z1×Z2×Z3×Z4×Z5×Z6×Z7×Z8):Prop:=u7 (S p.1) p.2
noncomputable def u9 {Z1 Z2 Z3 Z4 Z5 Z6 Z7 Z8 Z9:Type}(S:Z1->Z2->Z3->Z4->Z5->Z6->Z7->Z8->Z9->Prop)(p:Z1×Z2×Z3×Z4×Z5×Z6×Z7×Z8×Z9):Prop:=u8 (S p.1) p.2
noncomputable def KP {Z1 Z2 Z3 Z4 Z5 Z6 Z7 Z8 Z9 gH:Type}(S:Z1->Z2->Z3->Z4->Z5->Z6->Z7->Z8->Z9->gH->Prop)(p:Z1×Z2×Z3×Z4×Z5×Z6×Z7×Z8×Z9×gH):Prop:=u9 (S p.1) p.2
noncomputable def Mf {Z1 Z2 Z3 Z4 Z5 Z6 Z7 Z8 Z9 gH iw:Type}(S:Z1->Z2->Z3->Z4->Z5->Z6->Z7->Z8->Z9->gH->iw->Prop)(p:Z1×Z2×Z3×Z4×Z5×Z6×Z7×Z8×Z9×gH×iw):Prop:=KP (S p.1) p.2
noncomputable def OG {Z1 Z2 Z3 Z4 Z5 Z6 Z7 Z8 Z9 gH iw jd:Type}(S:Z1->Z2->Z3->Z4->Z5->Z6->Z7->Z8->Z9->gH->iw->jd->Prop)(p:Z1×Z2×Z3×Z4×Z5×Z6×Z7×Z8×Z9×gH×iw×jd):Prop:=Mf (S p.1) p.2
noncomputable def OH {Z1 Z2 Z3 Z4 Z5 Z6 Z7 Z8 Z9 gH iw jd j6:Type}(S:Z1->Z2->Z3->Z4->Z5->Z6->Z7->Z8->Z9->gH->iw->jd->j6->Prop)(p:Z1×Z2×Z3×Z4×Z5×Z6×Z7×Z8×Z9×gH×iw×jd×j6):Prop:=OG (S p.1) p.2
noncomputable def HZ {Z1 Z2 Z3 Z4 Z5 Z6 Z7 Z8 Z9 gH iw jd j6 kC:Type}(S:Z1->Z2->Z3->Z4->Z5->Z6->Z7->Z8->Z9->gH->iw->jd->j6->kC->Prop)(p:Z1×Z2×Z3×Z4×Z5×Z6×Z7×Z8×Z9×gH×iw×jd×j6×kC):Prop:=OH (S p.1) p.2
noncomputable def Qx {Z1 Z2 Z3 Z4 Z5 Z6 Z7 Z8 Z9 gH iw jd j6 kC mX mY:Type}(S:Z1->Z2->Z3->Z4->Z5->Z6->Z7->Z8->Z9->gH->iw->jd->j6->kC->mX->mY->Prop)(p:Z1×Z2×Z3×Z4×Z5×Z6×Z7×Z8×Z9×gH×iw×jd×j6×kC×mX×mY):Prop:=HZ (S p.1 p.2.1) p.2.2
noncomputable def Qy {Z1 Z2 Z3 Z4 Z5 Z6 Z7 Z8 Z9 gH iw jd j6 kC mX mY n7:Type}(S:Z1->Z2->Z3->Z4->Z5->Z6->Z7->Z8->Z9->gH->iw->jd->j6->kC->mX->mY->n7->Prop)(p:Z1×Z2×Z3×Z4×Z5×Z6×Z7×Z8×Z9×gH×iw×jd×j6×kC×mX×mY×n7):Prop:=Qx (S p.1) p.2
noncomputable def O1 {Z1 Z2 Z3 Z4 Z5 Z6 Z7 Z8 Z9 gH iw jd j6 kC mX mY n7 qk:Type}(S:Z1->Z2->Z3->Z4->Z5->Z6->Z7->Z8->Z9->gH->iw->jd->j6->kC->mX->mY->n7->qk->Prop)(p:Z1×Z2×Z3×Z4×Z5×Z6×Z7×Z8×Z9×gH×iw×jd×j6×kC×mX×mY×n7×qk):Prop:=Qy (S p.1) p.2
noncomputable def O5 {Z1 Z2 Z3 Z4 Z5 Z6 Z7 Z8 Z9 gH iw jd j6 kC mX mY n7 qk rI:Type}(S:Z1->Z2->Z3->Z4->Z5->Z6->Z7->Z8->Z9->gH->iw->jd->j6->kC->mX->mY->n7->qk->rI->Prop)(p:Z1×Z2×Z3×Z4×Z5×Z6×Z7×Z8×Z9×gH×iw×jd×j6×kC×mX×mY×n7×qk×rI):Prop:=O1 (S p.1) p.2
noncomputable def O6 {Z1 Z2 Z3 Z4 Z5 Z6 Z7 Z8 Z9 gH iw jd j6 kC mX mY n7 qk rI uL:Type}(S:Z1->Z2->Z3->Z4->Z5->Z6->Z7->Z8->Z9->gH->iw->jd->j6->kC->mX->mY->n7->qk->rI->uL->Prop)(p:Z1×Z2×Z3×Z4×Z5×Z6×Z7×Z8×Z9×gH×iw×jd×j6×kC×mX×mY×n7×qk×rI×uL):Prop:=O5 (S p.1) p.2
noncomputable def O7 {Z1 Z2 Z3 Z4 Z5 Z6 Z7 Z8 Z9 gH iw jd j6 kC mX mY n7 qk rI uL xq:Type}(S:Z1->Z2->Z3->Z4->Z5->Z6->Z7->Z8->Z9->gH->iw->jd->j6->kC->mX->mY->n7->qk->rI->uL->xq->Prop)(p:Z1×Z2×Z3×Z4×Z5×Z6×Z7×Z8×Z9×gH×iw×jd×j6×kC×mX×mY×n7×qk×rI×uL×xq):Prop:=O6 (S p.1) p.2
noncomputable def Qz {Z1 Z2 Z3 Z4 Z5 Z6 Z7 Z8 Z9 gH iw jd j6 kC mX mY n7 qk rI uL xq AR:Type}(S:Z1->Z2->Z3->Z4->Z5->Z6->Z7->Z8->Z9->gH->iw->jd->j6->kC->mX->mY->n7->qk->rI->uL->xq->AR->Prop)(p:Z1×Z2×Z3×Z4×Z5×Z6×Z7×Z8×Z9×gH×iw×jd×j6×kC×mX×mY×n7×qk×rI×uL×xq×AR):Prop:=O7 (S p.1) p.2
noncomputable def QA {Z1 Z2 Z3 Z4 Z5 Z6 Z7 Z8 Z9 gH iw jd j6 kC mX mY n7 qk rI uL xq AR Ec Ed:Type}(S:Z1->Z2->Z3->Z4->Z5->Z6->Z7->Z8->Z9->gH->iw->jd->j6->kC->mX->mY->n7->qk->rI->uL->xq->AR->Ec->Ed->Prop)(p:Z1×Z2×Z3×Z4×Z5×Z6×Z7×Z8×Z9×gH×iw×jd×j6×kC×mX×mY×n7×qk×rI×uL×xq×AR×Ec×Ed):Prop:=Qz (S p.1 p.2.1) p.2.2
noncomputable def QB {Z1 Z2 Z3 Z4 Z5 Z6 Z7 Z8 Z9 gH iw jd j6 kC mX mY n7 qk rI uL xq AR Ec Ed JW JX JY JZ:Type}(S:Z1->Z2->Z3->Z4->Z5->Z6->Z7->Z8->Z9->gH->iw->jd->j6->kC->mX->mY->n7->qk->rI->uL->xq->AR->Ec->Ed->JW->JX->JY->JZ->Prop)(p:Z1×Z2×Z3×Z4×Z5×Z6×Z7×Z8×Z9×gH×iw×jd×j6×kC×mX×mY×n7×qk×rI×uL×xq×AR×Ec×Ed×JW×JX×JY×JZ):Prop:=QA (S p.1 p.2.1 p.2.2.1 p.2.2.2.1) p.2.2.2.2
noncomputable def QC {Z1 Z2 Z3 Z4 Z5 Z6 Z7 Z8 Z9 gH iw jd j6 kC mX mY n7 qk rI uL xq AR Ec Ed JW JX JY JZ MH MI:Type}(S:Z1->Z2->Z3->Z4->Z5->Z6->Z7->Z8->Z9->gH->iw->jd->j6->kC->mX->mY->n7->qk->rI->uL->xq->AR->Ec->Ed->JW->JX->JY->JZ->MH->MI->Prop)(p:Z1×Z2×Z3×Z4×Z5×Z6×Z7×Z8×Z9×gH×iw×jd×j6×kC×mX×mY×n7×qk×rI×uL×xq×AR×Ec×Ed×JW×JX×JY×JZ×MH×MI):Prop:=QB (S p.1 p.2.1) p.2.2
noncomputable def Sb {Z1 Z2 Z3 Z4 Z5 Z6 Z7 Z8 Z9 gH iw jd j6 kC mX mY n7 qk rI uL xq AR Ec Ed JW JX JY JZ MH MI QD QE QF QG QH QI QJ QK QL QM:Type}(S:Z1->Z2->Z3->Z4->Z5->Z6->Z7->Z8->Z9->gH->iw->jd->j6->kC->mX->mY->n7->qk->rI->uL->xq->AR->Ec->Ed->JW->JX->JY->JZ->MH->MI->QD->QE->QF->QG->QH->QI->QJ->QK->QL->QM->Prop)(p:Z1×Z2×Z3×Z4×Z5×Z6×Z7×Z8×Z9×gH×iw×jd×j6×kC×mX×mY×n7×qk×rI×uL×xq×AR×Ec×Ed×JW×JX×JY×JZ×MH×MI×QD×QE×QF×QG×QH×QI×QJ×QK×QL×QM):Prop:=QC (S p.1 p.2.1 p.2.2.1 p.2.2.2.1 p.2.2.2.2.1 p.2.2.2.2.2.1 p.2.2.2.2.2.2.1 p.2.2.2.2.2.2.2.1 p.2.2.2.2.2.2.2.2.1 p.2.2.2.2.2.2.2.2.2.1) p.2.2.2.2.2.2.2.2.2.2
end
def Ef (s:String):Lean.MacroM (Lean.TSyntax `tactic):=do
 let ids:=(s.splitOn " ").toArray.map λ s=>Lean.mkIdent (Lean.Name.mkSimple s)
 `(tactic| with_reducible first $[| exact $ids]* | refine Sa ?_ ?_)
local macro_rules | `(tactic| walk_at "ne1") => Ef "neN neC neS neX neQ neF neK neSh neV neLV0 neLV neFn2 neI neLN neB neStr neFn1 neVal neLVal neE neP0 neLE neLSt neSc neHp neEnv neAr neOb neSV neFD neLM neLK nePr neLStr neLS neLI neL neNI neNNI neLNN neNN neW"
local macro_rules | `(tactic| walk_at "ne") => `(tactic| repeat walk_at "ne1")
section
noncomputable def je (F:Fz)(a:Addr)(o:Obj):Fz:=λ b=>if b=a then some o else F b
noncomputable def kD (ρ:Ky)(n:Nat)(a:Addr):Ky:=λ m=>if m=n then some a else ρ m
theorem aX (F:Fz)(a:Addr)(o:Obj):je F a o a=some o:=if_pos rfl
theorem rq {F:Fz}{a:Addr}{o:Obj}(h:F a=none):aZ F (je F a o):=λ b o' e=>by
 unfold je
 by_cases hb:b=a
 ·subst hb;rw [h] at e;exact aV e
 ·rw [if_neg hb];exact e
theorem fW {ρ:Ky}{n:Nat}{a:Addr}(h:ρ n=none):bD ρ (kD ρ n a):=λ b o' e=>by
 unfold kD
 by_cases hb:b=n
 ·subst hb;rw [h] at e;exact aV e
 ·rw [if_neg hb];exact e
noncomputable abbrev Keeps (h h':Heap):Prop:=∀ b o,h.get? b=some o->h'.get? b=some o
section
variable {C:Cx}{F:Fz}{ρ:Ky}{st:St}{s:Vh}{h':Heap}
noncomputable def aP (C:Cx)(F:Fz)(ρ:Ky)(a:Addr):Prop:=F a=none/\C.G a=none/\(∀ n,ρ n≠some a)/\¬ C.own a
theorem Rel.moved (R:Rel C F ρ st s)(W:List Addr)(U:∀ b,b∈W->aP C F ρ b)(hk:∀ b o,b∉W->s.heap.get? b=some o->h'.get? b=some o)(tk:Nat):Rel C F ρ st {s with heap:=h',toks:=tk} where
 gens:=R.gens
 os:=R.os
 drawn:=R.drawn
 kG b o e:=aI (λ o' a q=>(aC o' (hk _ _ (λ hb=>aV ((U b hb).2.1.symm.trans e)) a) q)) (R.kG b o e)
 kF b o e:=hk _ _ (λ hb=>aV ((U b hb).1.symm.trans e)) (R.kF b o e)
 kK:=R.kK
 FG:=R.FG
 mt n o e:=ak (λ a ob h1 h2 h3=>(ay a ob h1 (hk _ _ (λ hb=>(U a hb).2.2.1 n h1) h2) h3)) (R.mt n o e)
 dom:=R.dom
 inj:=R.inj
 ns:=let ⟨m,⟨o,es,ep,h1,q⟩,h2⟩:=R.ns;(aC m ⟨o,es,ep,hk _ _ (λ hb=>(U _ hb).2.2.2 (.inl rfl)) h1,q⟩ h2)
 cells x c e:=let ⟨u,⟨o,h1,q⟩,h2⟩:=R.cells x c e;(aC u ⟨o,hk _ _ (λ hb=>(U _ hb).2.2.2 (.inr ⟨x,e⟩)) h1,q⟩ h2)
 c7:=R.c7
theorem Rel.keeps (R:Rel C F ρ st s)(hk:Keeps s.heap h')(tk:Nat):Rel C F ρ st {s with heap:=h',toks:=tk}:=R.moved [] (λ _ h=>nomatch h) (λ b o _ e=>hk b o e) tk
theorem Rel.jf {T:Addr}(R:Rel C F ρ st s)(U:aP C F ρ T)(hs:cq T s.heap h')(tk:Nat):Rel C F ρ st {s with heap:=h',toks:=tk}:=
 R.moved [T] (λ b hb=>Vi.mp hb▸U) (λ b o hb e=>(hs.2 b λ q=>hb (Vi.mpr q)).trans e) tk
theorem Rel.n8 {T:Addr}(R:Rel C F ρ st s)(U:aP C F ρ T)(hs:ea T s.heap h')(tk:Nat):Rel C F ρ st {s with heap:=h',toks:=tk}:=
 R.moved [T] (λ b hb=>Vi.mp hb▸U) (λ b o hb e=>hs b o (λ q=>hb (Vi.mpr q)) e) tk
theorem Rel.toks (R:Rel C F ρ st s)(tk:Nat):Rel C F ρ st {s with toks:=tk}:=R.keeps (λ _ _ e=>e) tk
theorem Rel.jC (R:Rel C F ρ st s){a:Addr}(h:C.own a):∃ o,s.heap.get? a=some o:=by
 rcases h with rfl | ⟨x,hx⟩
 ·refine aI (λ m ef _=>?_) R.ns;refine aU (λ o es ep ho _=>?_) ef;exact ⟨o,ho⟩
 ·refine aI (λ u ef _=>?_) (R.cells x a hx);refine aI (λ o ho _=>?_) ef;exact ⟨o,ho⟩
theorem Rel.vK (R:Rel C F ρ st s){n:Nat}{a:Addr}(h:ρ n=some a):∃ o,s.heap.get? a=some o:=by
 refine qS (λ o ho=>?_) ((R.dom n a h))
 refine ak (λ a' ob h1 h2 _=>?_) (R.mt n o ho)
 rw [h] at h1;obtain rfl:=Vf h1;exact ⟨ob,h2⟩
theorem Rel.newF (R:Rel C F ρ st s){a:Addr}{o:Obj}(hk:Keeps s.heap h')(ha:s.heap.get? a=none)(ho:h'.get? a=some o)(tk:Nat):
  aZ F (je F a o)/\Rel C (je F a o) ρ st {s with heap:=h',toks:=tk}:=by
 have hF:F a=none:=by
  cases e:F a with
  | none=>rfl
  | some o'=>rw [R.kF a o' e] at ha;exact jB ha.symm
 have hle:=rq (o:=o) hF
 refine ⟨hle,?_⟩
 have ne:∀ b,(∃ o,s.heap.get? b=some o)->b≠a:=by
  intro b;refine qE λ o' e=>?_;rintro rfl;rw [ha] at e;exact aV e
 exact {
  gens:=R.gens
  os:=R.os
  drawn:=R.drawn
  kG:=λ b o e=>aI (λ o' a b=>(aC o' (hk _ _ a) b)) (R.kG b o e)
  kF:=λ b o' e=>by
   unfold je at e
   by_cases hb:b=a
   ·subst hb;rw [if_pos rfl] at e;obtain rfl:=Vf e;exact ho
   ·rw [if_neg hb] at e;exact hk _ _ (R.kF b o' e)
  kK:=λ b o e=>hle _ _ (R.kK b o e)
  FG:=λ b o' e=>by
   unfold je at e
   by_cases hb:b=a
   ·subst hb
    cases q:C.G b with
    | none=>rfl
    | some Mg=>refine aI (λ o3 h3 _=>?_) (R.kG _ _ q);rw [h3] at ha;exact jB ha.symm
   ·rw [if_neg hb] at e;exact R.FG b o' e
  mt:=λ n o' e=>by
   refine ak (λ b ob h1 h2=>bQ λ h3 h4 h5 h6=>?_) (R.mt n o' e)
   refine ay b ob h1 (hk _ _ h2) (dG (h3.mono hle (bD.refl _)) ?_ h5 h6)
   show (if b=a then some o else F b)=none
   rw [if_neg (ne b ⟨_,h2⟩)];exact h4
  dom:=R.dom
  inj:=R.inj
  ns:=aI (λ m h1 h2=>(aC m (h1.keeps hk) (λ x v e k=>aI (λ y a b=>(aC y a (b.mono hle (bD.refl _)))) (h2 x v e k)))) R.ns
  cells:=λ x c e=>aI (λ u h1 h2=>(aC u (h1.keeps hk) (λ v e=>aI (λ y a b=>(aC y a (b.mono hle (bD.refl _)))) (h2 v e)))) (R.cells x c e)
  c7:=λ b hb=>by
   show (if b=a then some o else F b)=none
   rw [if_neg (ne b (R.jC hb))];exact R.c7 b hb}
theorem Rel.MJ (R:Rel C F ρ st s){a:Addr}{o:Obj}{mo:MO}{n:Nat}(hk:Keeps s.heap h')(ha:s.heap.get? a=none)(ho:h'.get? a=some o)
  (hn:J st.heap n=none) (hm:mR F (kD ρ n a) mo o) (tk:Nat) :
  bD ρ (kD ρ n a)/\Rel C F (kD ρ n a) {st with heap:=af st.heap n mo} {s with heap:=h',toks:=tk}:=by
 have ig:ρ n=none:=by
  cases e:ρ n with
  | none=>rfl
  | some b=>have:=R.dom n b e;rw [hn] at this;exact lO this
 have hF:F a=none:=by
  cases e:F a with
  | none=>rfl
  | some o'=>rw [R.kF a o' e] at ha;exact jB ha.symm
 have hG:C.G a=none:=by
  cases e:C.G a with
  | none=>rfl
  | some o'=>refine aI (λ Mg h1 _=>?_) (R.kG a o' e);rw [h1] at ha;exact jB ha.symm
 have hO:¬ C.own a:=λ h=>by refine qE (λ o' e=>?_) (R.jC h);rw [ha] at e;exact aV e
 have hle:=fW (a:=a) ig
 have hna:∀ m,ρ m≠some a:=λ m e=>by refine qE (λ o' e'=>?_) (R.vK e);rw [ha] at e';exact jB e'
 refine ⟨hle,?_⟩
 exact {
  gens:=R.gens
  os:=R.os
  drawn:=R.drawn
  kG:=λ b o e=>aI (λ o' a b=>(aC o' (hk _ _ a) b)) (R.kG b o e)
  kF:=λ b o e=>hk _ _ (R.kF b o e)
  kK:=R.kK
  FG:=R.FG
  mt:=λ m o' e=>by
   dsimp only at e
   rw [dj] at e
   by_cases hmn:m=n
   ·subst hmn
    rw [if_pos rfl] at e
    obtain rfl:=Vf e
    exact ay a o (if_pos rfl) ho (dG hm hF hG hO)
   ·rw [if_neg hmn] at e
    refine ak (λ b ob h1 h2=>bQ λ h3 h4 h5 h6=>?_) (R.mt m o' e)
    exact ay b ob (hle _ _ h1) (hk _ _ h2) (dG (h3.mono (aZ.refl _) hle) h4 h5 h6)
  dom:=λ m b e=>by
   dsimp only
   rw [dj]
   by_cases hmn:m=n
   ·rw [if_pos hmn];rfl
   ·rw [if_neg hmn]
    have e':(if m=n then some a else ρ m)=some b:=e
    rw [if_neg hmn] at e'
    exact R.dom m b e'
  inj:=λ m m' b e e'=>by
   have e1:(if m=n then some a else ρ m)=some b:=e
   have e2:(if m'=n then some a else ρ m')=some b:=e'
   by_cases hm1:m=n<;>by_cases hm2:m'=n
   ·rw [hm1,hm2]
   ·rw [if_pos hm1] at e1;rw [if_neg hm2] at e2;obtain rfl:=Vf e1;exact absurd e2 (hna _)
   ·rw [if_neg hm1] at e1;rw [if_pos hm2] at e2;obtain rfl:=Vf e2;exact absurd e1 (hna _)
   ·rw [if_neg hm1] at e1;rw [if_neg hm2] at e2;exact R.inj _ _ _ e1 e2
  ns:=aI (λ m h1 h2=>(aC m (h1.keeps hk) (λ x v e k=>aI (λ y a b=>(aC y a (b.mono (aZ.refl _) hle))) (h2 x v e k)))) R.ns
  cells:=λ x c e=>aI (λ u h1 h2=>(aC u (h1.keeps hk) (λ v e=>aI (λ y a b=>(aC y a (b.mono (aZ.refl _) hle))) (h2 v e)))) (R.cells x c e)
  c7:=R.c7}
theorem Rel.upd (R:Rel C F ρ st s){a:Addr}{o:Obj}{mo J0:MO}{n:Nat}(hn:J st.heap n=some J0)(ha:ρ n=some a)(hs:cq a s.heap h')(ho:h'.get? a=some o)
  (hm:mR F ρ mo o) (tk:Nat):Rel C F ρ {st with heap:=af st.heap n mo} {s with heap:=h',toks:=tk}:=by
 refine ak (λ a' ob h1 h2=>bQ λ h3 h4 h5 h6=>?_) (R.mt n J0 hn)
 rw [ha] at h1;obtain rfl:=Vf h1
 have hk:∀ b o,b≠a->s.heap.get? b=some o->h'.get? b=some o:=λ b o hb e=>(hs.2 b hb).trans e
 exact {
  gens:=R.gens
  os:=R.os
  drawn:=R.drawn
  kG:=λ b o e=>aI (λ o' x y=>(aC o' (hk _ _ (by rintro rfl;rw [h5] at e;exact aV e) x) y)) (R.kG b o e)
  kF:=λ b o e=>hk _ _ (by rintro rfl;rw [h4] at e;exact aV e) (R.kF b o e)
  kK:=R.kK
  FG:=R.FG
  mt:=λ m o' e=>by
   dsimp only at e
   rw [dj] at e
   by_cases hmn:m=n
   ·subst hmn
    rw [if_pos rfl] at e
    obtain rfl:=Vf e
    exact ay a o ha ho (dG hm h4 h5 h6)
   ·rw [if_neg hmn] at e
    refine ak (λ b ob q1 q2 q3=>?_) (R.mt m o' e)
    exact ay b ob q1 (hk _ _ (by rintro rfl;exact hmn (R.inj _ _ _ q1 ha)) q2) q3
  dom:=λ m b e=>by
   dsimp only
   rw [dj]
   by_cases hmn:m=n
   ·rw [if_pos hmn];rfl
   ·rw [if_neg hmn];exact R.dom m b e
  inj:=R.inj
  ns:=aI (λ m q1 q2=>(aC m (q1.sameBut hs (λ e=>h6 (.inl e.symm))) q2)) R.ns
  cells:=λ x c e=>aI (λ u q1 q2=>(aC u (q1.sameBut hs (λ q=>h6 (.inr ⟨x,q▸e⟩))) q2)) (R.cells x c e)
  c7:=R.c7}
end
noncomputable def Go (C:Cx)(F:Fz)(ρ:Ky)(s:Vh){α:Type}(m:Sem α)(P:Fz->Ky->α->Vh->Prop)(X:Fz->Ky->Vg->Vh->Prop):Prop:=
 ∀ (Q:α->Vh->Prop) (E:Vg->Vh->Prop),(∀ F' ρ' x s',aZ F F'->bD ρ ρ'->P F' ρ' x s'->Q x s')->
  (∀ F' ρ' x s',aZ F F'->bD ρ ρ'->X F' ρ' x s'->E x s')->wpAny (model C.prog C.w) C.A m Q E s
section
variable {C:Cx}{F:Fz}{ρ:Ky}{s:Vh}{α β:Type}{P P':Fz->Ky->α->Vh->Prop}{X X':Fz->Ky->Vg->Vh->Prop}
theorem Go.mono {m:Sem α}(h:Go C F ρ s m P X)(hP:∀ F' ρ' x s',aZ F F'->bD ρ ρ'->P F' ρ' x s'->P' F' ρ' x s')
  (hX:∀ F' ρ' x s',aZ F F'->bD ρ ρ'->X F' ρ' x s'->X' F' ρ' x s'):Go C F ρ s m P' X':=
 λ Q E hQ hE=>h Q E (λ F' ρ' x s' l k p=>hQ F' ρ' x s' l k (hP F' ρ' x s' l k p)) λ F' ρ' x s' l k p=>hE F' ρ' x s' l k (hX F' ρ' x s' l k p)
end
end
section
noncomputable def vL (C:Cx)(st:St)(v:V):Fz->Ky->Vg->Vh->Prop:=λ F' ρ' x s'=>Rel C F' ρ' st s'/\Den F' ρ' v x
section
variable {C:Cx}{F:Fz}{ρ:Ky}{s:Vh}{st:St}{X:Fz->Ky->Vg->Vh->Prop}
theorem iW {v:V}{m:Sem Vg}(R:Rel C F ρ st s)
  (h:∀ Q E,(∀ x tk,Den F ρ v x->Q x {s with toks:=tk})->wpAny (model C.prog C.w) C.A m Q E s):Go C F ρ s m (vL C st v) X:=λ Q E hQ _=>
 h Q E λ x tk d=>hQ F ρ x _ (aZ.refl _) (bD.refl _) ⟨R.toks tk,d⟩
theorem AU {v:V}{o:Obj}{m:Sem Vg}(R:Rel C F ρ st s)(hf:o.isFreed=false)
  (hd:Den (je F s.heap.objs.size o) ρ v (.ref s.heap.objs.size))
  (h:∀ Q E,Q (.ref s.heap.objs.size) {s with heap:=s.heap.push o}->wpAny (model C.prog C.w) C.A m Q E s):Go C F ρ s m (vL C st v) X:=λ Q E hQ _=>
 h Q E (by
  have hn:s.heap.get? s.heap.objs.size=none:=by
   cases e:s.heap.get? s.heap.objs.size with
   | none=>rfl
   | some o'=>exact absurd (V1 e) (V8 _)
  refine qA (λ l R'=>?_) (R.newF (h':=s.heap.push o) (λ b o' e=>VA _ e) hn (VL _ hf) s.toks)
  exact hQ _ ρ _ _ l (bD.refl _) ⟨R',hd⟩)
noncomputable def binI:X0->Int->Int->Option (Prop×V)
 | .Add,a,b=>some (True,.int (a+b))
 | .Sub,a,b=>some (True,.int (a-b))
 | .Mult,a,b=>some (a.natAbs<2^62\/b.natAbs<2^62,.int (a*b))
 | .FloorDiv,a,b=>some (b≠0/\b.natAbs<1073741824,.int (a.fdiv b))
 | .Mod,a,b=>some (b≠0,.int (a.fmod b))
 | .Pow,a,b=>some (0<=b/\b<=1000000/\a.natAbs<2^62,.int (a^b.toNat))
 | .BitAnd,a,b=>some (True,.int (Xw a b))
 | .BitOr,a,b=>some (True,.int (YV a b))
 | .LShift,a,b=>some (0<=b/\b<=1000000/\a.natAbs<2^62,.int (a*2^b.toNat))
 | _,_,_=>none
noncomputable def MK:X0->Str->Str->Option (Prop×V)
 | .Add,a,b=>some (a.length+b.length<=sizeLine,.str (a++b))
 | _,_,_=>none
noncomputable def ML:X0->List V->List V->Option (Prop×V)
 | .Add,a,b=>some (a.length+b.length<=sizeLine,.lst (a++b))
 | _,_,_=>none
noncomputable def J1:X0->List V->Int->Option (Prop×V)
 | .Mult,a,n=>some (0<=n/\n<2^63/\a.length*n.toNat<=2^24,.lst ((Wx n.toNat a).flatten))
 | _,_,_=>none
noncomputable def H6 (op:X0)(a b:V):Option (Prop×V):=match a with
 | .int a=>(match b with
  | .int b=>binI op a b
  | _=>none)
 | .str a=>(match b with
  | .str b=>MK op a b
  | _=>none)
 | .lst a=>(match b with
  | .lst b=>ML op a b
  | .int n=>J1 op a n
  | _=>none)
 | _=>none
theorem O8 {α:Type}{p q:Prop}{v w:α}(h:some (p,v)=some (q,w)):p=q/\v=w:=Wd (Vf h)
theorem MM {a b:Int}(h:a.natAbs<2^62\/b.natAbs<2^62):IntMulOk a b:=by
 rcases h with h | h
 ·exact IntMulOk.of_left (intBits_le_64 (by omega) (by omega))
 ·exact IntMulOk.of_right (intBits_le_64 (by omega) (by omega))
theorem uM (xs:List Vg):∀ (n:Nat) (z:Array Vg),(Wx n xs.toArray).foldl (λ x1 x2=>x1++x2) z=z++((Wx n xs).flatten).toArray
 | 0,z=>by simp
 | n+1,z=>by
  rw [YT,List.foldl_cons,uM xs n,YT,Xz]
  apply Array.ext'
  simp
theorem aF.rep {l:List V}{xs:List Vg}(h:aF F ρ l xs):∀ n,aF F ρ ((Wx n l).flatten) ((Wx n xs).flatten)
 | 0=>.nil
 | n+1=>by rw [YT,YT,Xz,Xz];exact h.append (aF.rep h n)
theorem H7 {op:X0}{a b:Int}{v:V}{p:Prop}(h:binI op a b=some (p,v))(hp:p)(t u:Tok)(R:Rel C F ρ st s):Go C F ρ s (binaryOp op (.int a t) (.int b u)) (vL C st v) X:=by
 induction op with
 | Add=>apply DV (hq:=hp) (h:=h);intro hp;exact iW R λ Q E hQ=>add_int (hQ _ _ (.int _ _))
 | Sub=>apply DV (hq:=hp) (h:=h);intro hp;exact iW R λ Q E hQ=>sub_int (hQ _ _ (.int _ _))
 | Mult=>apply DV (hq:=hp) (h:=h);intro hp;exact iW R λ Q E hQ=>mul_int (hQ _ _ (.int _ _)) (MM hp)
 | Mod=>apply DV (hq:=hp) (h:=h);intro hp;exact iW R λ Q E hQ=>PyProof.Rows.mod_int hp (hQ _ _ (.int _ _))
 | Pow=>apply DV (hq:=hp) (h:=h);intro hp;exact iW R λ Q E hQ=>PyProof.Rows.pow_int hp.1 (bits_mul_le (Vx hp.2.2 (by decide)) hp.1 hp.2.1) (hQ _ _ (.int _ _))
 | LShift=>apply DV (hq:=hp) (h:=h);intro hp;exact iW R λ Q E hQ=>PyProof.Rows.lshift_int hp.1 (bits_add_le (Vx hp.2.2 (by decide)) hp.2.1) (hQ _ _ (.int _ _))
 | BitOr=>apply DV (hq:=hp) (h:=h);intro hp;exact iW R λ Q E hQ=>PyProof.Rows.or_int (hQ _ _ (.int _ _))
 | BitAnd=>apply DV (hq:=hp) (h:=h);intro hp;exact iW R λ Q E hQ=>PyProof.Rows.and_int (hQ _ _ (.int _ _))
 | FloorDiv=>apply DV (hq:=hp) (h:=h);intro hp;exact iW R λ Q E hQ=>PyProof.Rows.floordiv_int hp.1 (hQ _ _ (.int _ _)) (.inl (PyProof.noPylong_small hp.2))
 | _=>exact aV h
theorem KQ {op:X0}{a b v:V}{p:Prop}{x y:Vg}(h:H6 op a b=some (p,v))(hp:p)(ha:Den F ρ a x)(hb:Den F ρ b y)(R:Rel C F ρ st s):
  Go C F ρ s (binaryOp op x y) (vL C st v) X:=by
 induction a using V.casesOn with
 | int a=>induction b using V.casesOn with
  | int b=>apply ha.aM;intro t;apply hb.aM;intro u;exact H7 h hp t u R
  | _=>exact aV h
 | str a=>induction b using V.casesOn with
  | str b=>
   have h:MK op a b=some (p,v):=h
   induction op with
   | Add=>
    apply DV (hq:=hp) (h:=h);intro hp
    apply ha.bR;intro t;apply hb.bR;intro u;exact iW R λ Q E hQ=>PyProof.Rows.add_str (λ t' tk=>hQ _ tk (.str _ _)) hp
   | _=>exact aV h
  | _=>exact aV h
 | lst la=>induction b using V.casesOn with
  | lst lb=>
   have h:ML op la lb=some (p,v):=h
   induction op with
   | Add=>
    apply DV (hq:=hp) (h:=h);intro hp
    apply ha.jc;intro aa xs ep hx hlx
    apply hb.jc;intro bb ys xu hy QN
    have e:xs.toArray++ys.toArray=(xs++ys).toArray:=by simp
    refine AU (o:=ao (xs++ys) 0) R rfl ?_ λ Q E hQ=>?_
    ·have hn:F s.heap.objs.size=none:=by
      cases e:F s.heap.objs.size with
      | none=>rfl
      | some o'=>exact absurd (V1 (R.kF _ _ e)) (V8 _)
     exact .lst (aX ..) ((hlx.append QN).mono (rq hn) (bD.refl _))
    ·refine concat_meets ⟨_,R.kF _ _ hx,rfl⟩ ⟨_,R.kF _ _ hy,rfl⟩ noFill_list_add seq_list_add PySem.F.slot_list_add PySem.F.entry_list_add (PySem.F.args_list_add_2 _ _) (list_addW aa bb xs.toArray ys.toArray ep xu none none #[] #[] ?_) (bY (R.kF _ _ hx) (R.kF _ _ hy) ?_)
     ·rw [VM,VM,<-hlx.length,<-QN.length];exact hp
     ·rw [e];exact hQ
   | _=>exact aV h
  | int n=>
   have h:J1 op la n=some (p,v):=h
   induction op with
   | Mult=>
    apply DV (hq:=hp) (h:=h);intro hp
    apply ha.jc;intro aa xs ep hx hlx
    apply hb.aM;intro u
    refine fJ (λ h0 h1 h2=>?_) hp
    have hn:F s.heap.objs.size=none:=by
     cases e:F s.heap.objs.size with
     | none=>rfl
     | some o'=>exact absurd (V1 (R.kF _ _ e)) (V8 _)
    refine AU (o:=ao ((Wx n.toNat xs).flatten) 0) R rfl (.lst (aX ..) ((hlx.rep n.toNat).mono (rq hn) (bD.refl _))) λ Q E hQ=>?_
    have hl:=R.kF _ _ hx
    have hz:xs.toArray.size*n.toNat<=2^24:=by rw [VM,<-hlx.length];exact h2
    refine wpAny_binaryOp_repeat_ref (T:="list") (U:="int") (by decide) ⟨_,hl,rfl⟩ (λ s'=>gd s' n u) noFill_list_mul PySem.F.fills_int_mul PySem.F.slot_int_rmul repeat_list PySem.F.slot_int_index.lookup
     (cv PySem.F.slot_int_rmul (gd s n u) PySem.F.entry_int_rmul (PySem.F.args_int_rmul_2 _ _) (int___rmul___int_list n u aa xs.toArray ep)
      ⟨hl,rfl,⟨_,hl,rfl⟩,cv PySem.F.slot_list_mul ⟨_,hl,rfl⟩ PySem.F.entry_list_mul (PySem.F.args_list_mul_2 _ _)
       (AutoListH.list___mul___list_int_3 aa xs.toArray ep n u (by simp [Builtin.List.listFitsIndex];omega) (by omega) (by simp [Builtin.List.listTooLong,sizeLine];simp at hz;omega))
       ⟨hl,?_⟩⟩)
    have e2:(Wx (if xs.toArray.isEmpty=true then 0 else n.toNat) xs.toArray).foldl (λ x1 x2=>x1++x2) #[]=((Wx n.toNat xs).flatten).toArray:=by
     induction xs using VY with
     | nil=>
      have:(Wx n.toNat ([]:List Vg)).flatten=[]:=by simp
      rw [this];rfl
     | cons x xs=>
      rw [if_neg (by simp),uM]
      apply Array.ext';simp
    rw [e2]
    exact hQ
   | _=>exact aV h
  | _=>exact aV h
 | _=>exact aV h
end
end
section
noncomputable def aE (st:St):V->Option (List V)
 | .lst l=>some l
 | .loc n=>match J st.heap n with
  | some (.lst l)=>some l
  | _=>none
 | _=>none
section
variable {C:Cx}{F:Fz}{ρ:Ky}{s:Vh}{st:St}
theorem dm {n:Nat}{l:List V}(h:aE st (.loc n)=some l):J st.heap n=some (.lst l):=by
 have h':(match J st.heap n with | some (.lst l)=>some l | _=>none)=some l:=h
 cases e:J st.heap n with
 | none=>rw [e] at h';exact aV h'
 | some m=>rw [e] at h';induction m with | lst l'=>exact congrArg (λ x=>x.map MO.lst) h' | _=>exact aV h'
theorem Rel.MN (R:Rel C F ρ st s){n:Nat}{l:List V}{a:Addr}(e:J st.heap n=some (.lst l))(hn:ρ n=some a):∃ xs ep,s.heap.get? a=some (ao xs ep)/\aF F ρ l xs:=by
 refine ak (λ a' ob h1 h2=>qA λ h3 _=>?_) (R.mt _ _ e)
 refine dM (λ xs ep h4 hl=>?_) h3.lst_inv
 exact nC xs ep (by rw [Vf (hn.symm.trans h1),h2,h4]) hl
theorem bH {v:V}{x:Vg}{l:List V}(R:Rel C F ρ st s)(hd:Den F ρ v x)(h:aE st v=some l):
  ∃ a xs ep,x=.ref a/\s.heap.get? a=some (ao xs ep)/\aF F ρ l xs:=by
 induction v using V.casesOn with
 | lst l'=>
  refine aU (λ a xs ep e=>qA λ hx hl=>?_) hd.lst_inv
  exact cu a xs ep e (⟨R.kF _ _ hx,Vf h▸hl⟩)
 | loc n=>
  refine aI (λ a e hn=>?_) hd.AP
  refine dM (λ xs ep hg hl=>?_) (R.MN (dm h) hn)
  exact cu a xs ep e (⟨hg,hl⟩)
 | _=>exact aV h
end
mutual
noncomputable def xw (g:Nat->Option Zs):V->Option Zs
 | .none=>some .none
 | .bool b=>some (.bool b)
 | .int i=>some (.int i)
 | .str x=>some (.str x)
 | .tup l=>(f5 g l).map hZ
 | .lst l=>(f5 g l).map Yr
 | .loc n=>g n
 | _=>none
noncomputable def f5 (g:Nat->Option Zs):List V->Option (List Zs)
 | []=>some []
 | v::l=>(xw g v).bind λ d=>(f5 g l).map (d::·)
end
noncomputable def Eg:Nat->Option Zs:=λ _=>none
noncomputable def OI (st:St)(n:Nat):Option Zs:=match J st.heap n with
 | some (.lst l)=>(f5 Eg l).map Yr
 | _=>none
noncomputable abbrev Eh (st:St):V->Option Zs:=xw (OI st)
noncomputable abbrev Ei (st:St):List V->Option (List Zs):=f5 (OI st)
section
variable {C:Cx}{F:Fz}{ρ:Ky}{s:Vh}{st:St}{g:Nat->Option Zs}
theorem xx {l:List V}:xw g (.tup l)=(f5 g l).map hZ:=by kernel_rfl
theorem rJ {l:List V}:xw g (.lst l)=(f5 g l).map Yr:=by kernel_rfl
theorem nE {v:V}{l:List V}:f5 g (v::l)=(xw g v).bind λ d=>(f5 g l).map (d::·):=by kernel_rfl
theorem H8 {n:Nat}{d:Zs}(e:OI st n=some d):∃ l ds,J st.heap n=some (.lst l)/\f5 Eg l=some ds/\Yr ds=d:=by
 have e':(match J st.heap n with | some (.lst l)=>(f5 Eg l).map Yr | _=>none)=some d:=e
 cases h:J st.heap n with
 | none=>rw [h] at e';exact aV e'
 | some m=>
  rw [h] at e'
  induction m with
  | lst l=>
   refine qM (λ ds h2 h3=>?_) e'
   exact ay l ds rfl h2 h3
  | _=>exact aV e'
theorem AV {h:Heap}(hF:∀ a o,F a=some o->h.get? a=some o)(hg:∀ n a d,ρ n=some a->g n=some d->∃ as,Reads h (.ref a) d as):
  (∀ {v:V}{x:Vg},Den F ρ v x->∀ d,xw g v=some d->∃ as,Reads h x d as)/\∀ {l:List V}{xs:List Vg},aF F ρ l xs->∀ ds,f5 g l=some ds->∃ as,j2 h xs ds as:=
 lP (M1:=λ v x=>∀ d,xw g v=some d->∃ as,Reads h x d as) (M2:=λ l xs=>∀ ds,f5 g l=some ds->∃ as,j2 h xs ds as)
  (λ _ e=>Vf e▸⟨_,.none⟩) (λ b _ e=>Vf e▸⟨_,.bool b⟩) (λ i t _ e=>Vf e▸⟨_,.int i t⟩) (λ i t _ e=>Vf e▸⟨_,.str i t⟩) (λ _ _ e=>aV e)
  (λ hn d e=>hg _ _ d hn e)
  (λ {l _ _} hx _ ih d e=>let ⟨ds,h1,h2⟩:=Xe.mp (xx.symm.trans e)
   let ⟨as,r⟩:=ih ds h1
   h2▸⟨as,reads_tuple_at (hF _ _ hx) rfl rfl r⟩)
  (λ {l _ _ _} hx _ ih d e=>let ⟨ds,h1,h2⟩:=Xe.mp (rJ.symm.trans e)
   let ⟨as,r⟩:=ih ds h1
   h2▸⟨_,be (hF _ _ hx) rfl rfl r⟩)
  (λ _ _ _ _ e=>aV e) (λ _ _ e=>aV e) (λ _ _ e=>aV e) (λ _ _ _ _ _ _ e=>aV e) (λ _ _ _ e=>aV e) (λ _ e=>Vf e▸⟨_,.nil⟩)
  (λ {v l _ _} _ _ ih1 ih2 ds e=>by
   refine qO (λ d h e=>?_) ((nE.symm.trans e))
   refine qM (λ es h1 h2=>?_) e
   refine qE (λ _ r1=>?_) (ih1 d h)
   refine qE (λ _ r2=>?_) (ih2 es h1)
   exact h2▸⟨_,.cons r1 r2⟩)
theorem rK (R:Rel C F ρ st s):(∀ {v:V}{x:Vg},Den F ρ v x->∀ d,Eh st v=some d->∃ as,Reads s.heap x d as)/\∀ {l:List V}{xs:List Vg},aF F ρ l xs->∀ ds,Ei st l=some ds->∃ as,j2 s.heap xs ds as:=
 AV R.kF λ n a d hn e=>let ⟨l,ds,hk,hf,q⟩:=H8 e
  let ⟨a',ob,h1,h2,h3,_⟩:=R.mt _ _ hk
  let ⟨xs,ep,e1,hl⟩:=h3.lst_inv
  let ⟨as,r⟩:=(AV (g:=Eg) (ρ:=ρ) R.kF λ _ _ _ _ e=>aV e).2 hl ds hf
  q▸⟨_,be (o:=ao xs ep) (Vf (hn.symm.trans h1)▸e1▸h2) rfl rfl r⟩
theorem kE (R:Rel C F ρ st s){v:V}{x:Vg}{d:Zs}(h:Den F ρ v x)(e:Eh st v=some d):∃ as,Reads s.heap x d as:=(rK R).1 h d e
theorem B8 (R:Rel C F ρ st s){l:List V}{xs:List Vg}{ds:List Zs}(h:aF F ρ l xs)(e:Ei st l=some ds):∃ as,j2 s.heap xs ds as:=(rK R).2 h ds e
end
noncomputable def vM:V->Bool
 | .none=>true
 | .con x=>x==WR
 | _=>false
noncomputable def DW (st:St)(a b:V):Option (Prop×Bool):=(Eh st a).bind λ d=>(Eh st b).map λ e=>(WX d=true/\WX e=true,YM d e)
noncomputable def MP (st:St)(a b:V):Option (Prop×Bool):=match a with
 | .int i=>(match b with
  | .int j=>some (True,i==j)
  | b=>DW st (.int i) b)
 | .str x=>(match b with
  | .str y=>some (True,x.cps.toList==y.cps.toList)
  | b=>DW st (.str x) b)
 | a=>DW st a b
theorem AW {st:St}{a b:V}{p:Prop}{r:Bool}(h:DW st a b=some (p,r)):∃ d e,Eh st a=some d/\Eh st b=some e/\(WX d=true/\WX e=true)=p/\YM d e=r:=by
 refine qO (λ d ha h=>?_) h
 refine qM (λ e hb h=>?_) h
 exact ay d e ha hb (⟨(Wd h).1,(Wd h).2⟩)
noncomputable def MQ (st:St)(a b:V):Option (Prop×Bool):=(Eh st a).bind λ d=>((aE st b).bind (Ei st)).map λ ds=>(X5 ds=true/\d.canLay0=true/\d.depth<=64,ds.any λ y=>YM y d)
theorem H9 {st:St}{a b:V}{p:Prop}{r:Bool}(h:MQ st a b=some (p,r)):∃ d l ds,Eh st a=some d/\aE st b=some l/\Ei st l=some ds/\(X5 ds=true/\d.canLay0=true/\d.depth<=64)=p/\(ds.any λ y=>YM y d)=r:=by
 refine qO (λ d ha h=>?_) h
 refine qM (λ ds hb h=>?_) h
 refine qO (λ l hl hb=>?_) hb
 exact cu d l ds ha (dG hl hb ((Wd h).1) ((Wd h).2))
noncomputable def MR (a b:Vg):Option Bool:=match a with
 | .ref a=>(match b with
  | .ref b=>(match Vo a b with
   | true=>some true
   | false=>none)
  | _=>none)
 | .type a=>(match b with
  | .type b=>some (a==b)
  | _=>none)
 | _=>none
noncomputable def MS (a b:V):Option Bool:=match b with
 | .none=>some (vM a)
 | .bool b=>(match a with
  | .bool a=>some (a==b)
  | _=>none)
 | .con b=>(match a with
  | .con a=>MR a b
  | _=>none)
 | _=>none
noncomputable def Ej {β:Type}(a b:V)(f:Int->Int->β):Option β:=match a with
 | .int i=>(match b with
  | .int j=>some (f i j)
  | _=>none)
 | _=>none
theorem n9 {β:Type}{a b:V}{f:Int->Int->β}{r:β}(h:Ej a b f=some r):∃ i j,a=.int i/\b=.int j/\f i j=r:=by
 induction a using V.casesOn with
 | int i=>induction b using V.casesOn with | int j=>exact (ay i j rfl rfl (Vf h)) | _=>exact aV h
 | _=>exact aV h
noncomputable def pO (st:St)(op:ka)(a b:V):Option (Prop×Bool):=match op with
 | .Eq=>MP st a b
 | .NotEq=>(MP st a b).map λ p=>(p.1,!p.2)
 | .Lt=>Ej a b λ a b=>(True,decide (a<b))
 | .LtE=>Ej a b λ a b=>(True,decide (a<=b))
 | .Gt=>Ej a b λ a b=>(True,decide (b<a))
 | .GtE=>Ej a b λ a b=>(True,decide (b<=a))
 | .Is=>(MS a b).map λ r=>(True,r)
 | .IsNot=>(MS a b).map λ r=>(True,!r)
 | .In=>MQ st a b
 | .NotIn=>(MQ st a b).map λ p=>(p.1,!p.2)
structure Cx.Good0 (C:Cx)(d:Nat):Prop where
 units:C.A.units+400+40*d<cLine
 depth:C.A.depth+120+4*d<recursionLimit
 fn:C.env.scope.kind=.function
 glob:C.env.globals=mainGlobals
 blt:C.env.builtins=builtinsNs
 apart:C.env.cells.Pairwise λ x y=>x.2≠y.2
 j7:∀ x∈C.env.cells,x.2≠C.env.locals
 frames:C.A.frames=some C.frs
 lim:∀ h,C.K.In h->h.NoLimit
 mS:∀ a,C.own a->C.G a=none
 fz:∀ x c,C.env.cells.lookup x=some c->C.env.kindOf x≠some .local
 bu:∀ x k,C.env.kindOf x=some k->k=.cell\/k=.free->∃ c,C.env.cells.lookup x=some c
 B9:∀ e∈C.frs,e.scope.kind≠.module/\∃ L,e.frame=some L/\(L=C.env.locals\/∃ o es n,C.G L=some o/\o.data=.dict es n)
structure Cx.Good (C:Cx)(d:Nat):Prop extends C.Good0 d where
 handled:C.A.handled=none
section
variable {C:Cx}{F:Fz}{ρ:Ky}{s:Vh}{st:St}
theorem xy {v:V}{x:Vg}(h:Den F ρ v x):(x==WR)=vM v:=by
 exact (lP (M1:=λ v x=>(x==WR)=vM v) (M2:=λ _ _=>True) rfl (λ _=>rfl) (λ _ _=>rfl) (λ _ _=>rfl) (λ _=>rfl) (λ _=>rfl) (λ _ _ _=>rfl) (λ _ _ _=>rfl) (λ _ _ _=>rfl) (λ _=>rfl) (λ _=>rfl) (λ _ _ _ _ _=>rfl) (λ _ _=>rfl) trivial (λ _ _ _ _=>trivial)).1 h
theorem MT {a b:V}{p:Prop}{r:Bool}{x y:Vg}{dd:Nat}(G:C.Good dd)(h:MP st a b=some (p,r))(hp:p)(ha:Den F ρ a x)(hb:Den F ρ b y)(R:Rel C F ρ st s){Q E:Vg->Vh->Prop}:
  (∀ tk,Q (.bool r) {s with toks:=tk})->wpAny (model C.prog C.w) C.A (compareOp .Eq x y) Q E s:=λ hQ=>by
 have py:DW st a b=some (p,r)->wpAny (model C.prog C.w) C.A (compareOp .Eq x y) Q E s:=λ h=>by
  refine ak (λ d e hd he=>qA λ e_ cg=>?_) (AW h);subst e_ cg
  refine qE (λ as r1=>?_) (kE R ha hd)
  refine qE (λ bs r2=>?_) (kE R hb he)
  exact eq_dataH r1 r2 hp.1 hp.2 (by have:=G.units;lia) (hQ _)
 induction a using V.casesOn with
 | int i=>induction b using V.casesOn with
  | int j=>refine qV (λ e_ cg=>?_) h;subst e_ cg;apply ha.aM;intro t;apply hb.aM;intro u;exact PyProof.Rows.eq_int (hQ _)
  | _=>exact py h
 | str i=>induction b using V.casesOn with
  | str j=>refine qV (λ e_ cg=>?_) h;subst e_ cg;apply ha.bR;intro t;apply hb.bR;intro u;exact PySem.P.eq_str (hQ _)
  | _=>exact py h
 | _=>exact py h
theorem MU {a b:V}{p:Prop}{r:Bool}{x y:Vg}{dd:Nat}(G:C.Good dd)(h:MP st a b=some (p,r))(hp:p)(ha:Den F ρ a x)(hb:Den F ρ b y)(R:Rel C F ρ st s){Q E:Vg->Vh->Prop}:
  (∀ tk,Q (.bool (!r)) {s with toks:=tk})->wpAny (model C.prog C.w) C.A (compareOp .NotEq x y) Q E s:=λ hQ=>by
 have py:DW st a b=some (p,r)->wpAny (model C.prog C.w) C.A (compareOp .NotEq x y) Q E s:=λ h=>by
  refine ak (λ d e hd he=>qA λ e_ cg=>?_) (AW h);subst e_ cg
  refine qE (λ as r1=>?_) (kE R ha hd)
  refine qE (λ bs r2=>?_) (kE R hb he)
  exact ne_dataH r1 r2 hp.1 hp.2 (by have:=G.units;lia) (hQ _)
 induction a using V.casesOn with
 | int i=>induction b using V.casesOn with
  | int j=>refine qV (λ e_ cg=>?_) h;subst e_ cg;apply ha.aM;intro t;apply hb.aM;intro u;exact PyProof.Rows.ne_int (hQ _)
  | _=>exact py h
 | str i=>induction b using V.casesOn with
  | str j=>refine qV (λ e_ cg=>?_) h;subst e_ cg;apply ha.bR;intro t;apply hb.bR;intro u;exact PySem.P.ne_str (hQ _)
  | _=>exact py h
 | _=>exact py h
theorem J2 {a b:V}{p:Prop}{r:Bool}{x y:Vg}{dd:Nat}(G:C.Good dd)(h:MQ st a b=some (p,r))(hp:p)(ha:Den F ρ a x)(hb:Den F ρ b y)(R:Rel C F ρ st s){Q E:Vg->Vh->Prop}(neg:Bool):
  (∀ tk,Q (.bool (if neg then !r else r)) {s with toks:=tk})->wpAny (model C.prog C.w) C.A (compareOp (if neg then .NotIn else .In) x y) Q E s:=λ hQ=>by
 refine aU (λ d l ds hd=>bQ λ hl hds e_ cg=>?_) (H9 h);subst e_ cg
 refine qE (λ as r1=>?_) (kE R ha hd)
 refine aU (λ c xs ep e_=>qA λ hc dO=>?_) (bH R hb hl);subst e_
 refine qE (λ bs r2=>?_) (B8 R dO hds)
 have hu:C.A.units+300<cLine:=by have:=G.units;lia
 have Uz:=hp.2.2
 have hm:=Nat.min_le_right (ZL ds) d.depth
 induction neg with
 | false=>exact SeqAt.in_list_reads (be hc rfl rfl r2) r1 hp.1 hp.2.1 (by lia) (hQ _)
 | true=>exact SeqAt.notIn_list_reads (be hc rfl rfl r2) r1 hp.1 hp.2.1 (by lia) (hQ _)
theorem xA (a b:String):(Zt a==Zt b)=(a==b):=by
 by_cases h:a=b
 ·subst h;simp
 ·rw [beq_eq_false_iff_ne.mpr (λ q:Zt a=Zt b=>h (by injection q)),beq_eq_false_iff_ne.mpr h]
theorem J3 {a b:V}{r:Bool}{x y:Vg}(h:MS a b=some r)(ha:Den F ρ a x)(hb:Den F ρ b y){Q E:Vg->Vh->Prop}(neg:Bool):
  Q (.bool (if neg then !r else r)) s->wpAny (model C.prog C.w) C.A (compareOp (if neg then .IsNot else .Is) x y) Q E s:=λ hQ=>by
 induction b using V.casesOn with
 | none=>
  obtain rfl:=Vf h
  apply hb.pM
  rw [<-xy ha] at hQ
  induction neg with
  | false=>exact is_none hQ
  | true=>exact isNot_none hQ
 | bool b=>induction a using V.casesOn with
  | bool a=>
   obtain rfl:=Vf h
   apply ha.lR
   apply hb.lR
   induction neg with
   | false=>exact wpAny_is_plain rfl (by induction a<;>induction b<;>exact hQ)
   | true=>exact wpAny_isNot_plain rfl (by induction a<;>induction b<;>exact hQ)
  | _=>exact aV h
 | con b=>induction a using V.casesOn with
  | con a=>
   apply ha.bL
   apply hb.bL
   have h:MR a b=some r:=h
   induction a with
   | ref a=>induction b with
    | ref b=>
     have h:(match Vo a b with | true=>some true | false=>none)=some r:=h
     cases e:Vo a b with
     | false=>rw [e] at h;exact aV h
     | true=>
      rw [e] at h
      obtain rfl:=Vf h
      obtain rfl:=uq.mp e
      induction neg with
      | false=>exact wpAny_is_ref_self hQ
      | true=>
       show wpAny _ _ (do return .bool (!(<-isSame _ _))) Q E s
       exact Vc (wpAny_isSame_ref_self (Vj hQ))
    | _=>exact aV h
   | type a=>induction b with
    | type b=>
     obtain rfl:=Vf h
     induction neg with
     | false=>exact wpAny_is_plain rfl (by rw [xA];exact hQ)
     | true=>exact wpAny_isNot_plain rfl (by rw [xA];exact hQ)
    | _=>exact aV h
   | _=>exact aV h
  | _=>exact aV h
 | _=>exact aV h
theorem Ek {op:ka}{a b:V}{p:Prop}{r:Bool}{x y:Vg}{dd:Nat}(G:C.Good dd)(h:pO st op a b=some (p,r))(hp:p)(ha:Den F ρ a x)(hb:Den F ρ b y)(R:Rel C F ρ st s){Q E:Vg->Vh->Prop}:
  (∀ tk,Q (.bool r) {s with toks:=tk})->wpAny (model C.prog C.w) C.A (compareOp op x y) Q E s:=λ hQ=>by
 induction op with
 | Eq=>exact MT G h hp ha hb R hQ
 | NotEq=>
  refine qM (λ q h1 h2=>?_) h
  refine qP (λ e_ cg=>?_) h2;subst e_ cg
  exact MU G h1 hp ha hb R hQ
 | Is=>
  refine qM (λ q h1 h2=>?_) h
  refine qP (λ _ e_=>?_) h2;subst e_
  exact J3 h1 ha hb false (hQ s.toks)
 | IsNot=>
  refine qM (λ q h1 h2=>?_) h
  refine qP (λ _ e_=>?_) h2;subst e_
  exact J3 h1 ha hb true (hQ s.toks)
 | In=>exact J2 G h hp ha hb R false hQ
 | NotIn=>
  refine qM (λ q h1 h2=>?_) h
  refine qP (λ e_ cg=>?_) h2;subst e_ cg
  exact J2 G h1 hp ha hb R true hQ
 | Lt=>
  refine ak (λ i j e_ cg e=>?_) (n9 h);subst e_ cg
  apply ha.aM;intro t
  apply hb.aM;intro u
  exact PySem.P.lt_int ((Wd e).2▸hQ _)
 | LtE=>
  refine ak (λ i j e_ cg e=>?_) (n9 h);subst e_ cg
  apply ha.aM;intro t
  apply hb.aM;intro u
  exact PySem.P.le_int ((Wd e).2▸hQ _)
 | Gt=>
  refine ak (λ i j e_ cg e=>?_) (n9 h);subst e_ cg
  apply ha.aM;intro t
  apply hb.aM;intro u
  exact PySem.P.gt_int ((Wd e).2▸hQ _)
 | GtE=>
  refine ak (λ i j e_ cg e=>?_) (n9 h);subst e_ cg
  apply ha.aM;intro t
  apply hb.aM;intro u
  exact PySem.P.ge_int ((Wd e).2▸hQ _)
end
noncomputable def vN (st:St):V->Option (Prop×Bool)
 | .none=>some (True,false)
 | .bool b=>some (True,b)
 | .int i=>some (True,i != 0)
 | .str x=>some (x.length<=sizeLine,(x.length:Int) != 0)
 | _=>none
section
variable {C:Cx}{F:Fz}{ρ:Ky}{s:Vh}{st:St}
theorem xB {a:V}{p:Prop}{r:Bool}{x:Vg}(h:vN st a=some (p,r))(hp:p)(ha:Den F ρ a x){Q:Bool->Vh->Prop}{E:Vg->Vh->Prop}:
  (∀ tk,Q r {s with toks:=tk})->wpAny (model C.prog C.w) C.A (truthy x) Q E s:=λ hQ=>by
 induction a using V.casesOn with
 | none=>refine qP (λ _ e_=>?_) ((Vf h));subst e_;apply ha.pM;exact truthy_none (hQ s.toks)
 | bool b=>refine qP (λ _ e_=>?_) ((Vf h));subst e_;apply ha.lR;exact a0 (hQ s.toks)
 | int i=>refine qP (λ _ e_=>?_) ((Vf h));subst e_;apply ha.aM;intro t;exact PySem.P.truthy_int (hQ s.toks)
 | str y=>
  refine qP (λ e_ cg=>?_) ((Vf h));subst e_ cg
  apply ha.bR;intro t;exact PySem.P.truthy_str (by rw [PySem.sizeLine_eq] at hp;lia) (hQ _)
 | _=>exact aV h
end
end
section
noncomputable abbrev QV:=V->St->Prop
noncomputable abbrev XK:=String->List V->St->Prop
noncomputable def J4 (C:Cx)(F:Fz)(ρ:Ky)(cls:String)(arg:List V)(e:Vg)(s:Vh)(tb:Option (Addr×Vg)):Prop:=
 ∃ a oe vs t x,e=.ref a/\s.heap.get? a=some oe/\oe.cls=.type cls/\oe.data=.fields vs/\vs[0]?=some (.ref t)/\F t=some (dN x)/\aF F ρ arg x/\aP C F ρ a/\
  (match tb with
  | none=>vs[1]?=some .none
  | some (T,fl)=>vs[1]?=some (.ref T)/\aP C F ρ T/\T≠a/\∃ oT ts,s.heap.get? T=some oT/\oT.data=.fields ts/\ts[3]?=some fl)
noncomputable def Xd (C:Cx)(F:Fz)(ρ:Ky)(cls:String)(arg:List V)(e:Vg)(s:Vh):Prop:=∃ tb,J4 C F ρ cls arg e s tb
noncomputable def Post (C:Cx)(Q:QV)(F:Fz)(ρ:Ky)(x:Vg)(s:Vh):Prop:=∃ v st,Q v st/\Rel C F ρ st s/\Den F ρ v x
noncomputable def oh (C:Cx)(Q:List V->St->Prop)(F:Fz)(ρ:Ky)(x:List Vg)(s:Vh):Prop:=∃ v st,Q v st/\Rel C F ρ st s/\aF F ρ v x
noncomputable def fK (C:Cx)(Q:Bool->St->Prop)(F:Fz)(ρ:Ky)(x:Bool)(s:Vh):Prop:=∃ st,Q x st/\Rel C F ρ st s
noncomputable def jg (C:Cx)(Q:St->Prop)(F:Fz)(ρ:Ky)(_:Unit)(s:Vh):Prop:=∃ st,Q st/\Rel C F ρ st s
noncomputable def cC (C:Cx)(X:XK)(F:Fz)(ρ:Ky)(e:Vg)(s:Vh):Prop:=∃ cls arg st,X cls arg st/\Rel C F ρ st s/\Xd C F ρ cls arg e s
inductive Fl where
 | next | brk | cont
 | ret (v:V)
inductive xC (F:Fz)(ρ:Ky):Fl->Flow->Prop
 | next:xC F ρ .next .next
 | brk:xC F ρ .brk .brk
 | cont:xC F ρ .cont .cont
 | ret {v:V}{x:Vg} (h:Den F ρ v x):xC F ρ (.ret v) (.ret x)
noncomputable def cy (C:Cx)(Q:Fl->St->Prop)(F:Fz)(ρ:Ky)(x:Flow)(s:Vh):Prop:=∃ v st,Q v st/\Rel C F ρ st s/\xC F ρ v x
section
variable {C:Cx}{F:Fz}{ρ:Ky}{s:Vh}{G:Prop}
theorem Post.elim {Q:QV}{x:Vg}(h:Post C Q F ρ x s)(k:∀ v st,Q v st->Rel C F ρ st s->Den F ρ v x->G):G:=ak (λ v st a b c=>k v st a b c) h
theorem oh.elim {Q:List V->St->Prop}{x:List Vg}(h:oh C Q F ρ x s)(k:∀ v st,Q v st->Rel C F ρ st s->aF F ρ v x->G):G:=ak (λ v st a b c=>k v st a b c) h
theorem cy.elim {Q:Fl->St->Prop}{x:Flow}(h:cy C Q F ρ x s)(k:∀ v st,Q v st->Rel C F ρ st s->xC F ρ v x->G):G:=ak (λ v st a b c=>k v st a b c) h
theorem fK.elim {Q:Bool->St->Prop}{x:Bool}(h:fK C Q F ρ x s)(k:∀ st,Q x st->Rel C F ρ st s->G):G:=aI (λ st a b=>k st a b) h
theorem jg.elim {Q:St->Prop}{x:Unit}(h:jg C Q F ρ x s)(k:∀ st,Q st->Rel C F ρ st s->G):G:=aI (λ st a b=>k st a b) h
theorem Post.in {Q:QV}{x:Vg}{v:V}{st:St}(a:Q v st)(b:Rel C F ρ st s)(c:Den F ρ v x):Post C Q F ρ x s:=⟨v,st,a,b,c⟩
theorem oh.in {Q:List V->St->Prop}{x:List Vg}{v:List V}{st:St}(a:Q v st)(b:Rel C F ρ st s)(c:aF F ρ v x):oh C Q F ρ x s:=⟨v,st,a,b,c⟩
theorem cy.in {Q:Fl->St->Prop}{x:Flow}{v:Fl}{st:St}(a:Q v st)(b:Rel C F ρ st s)(c:xC F ρ v x):cy C Q F ρ x s:=⟨v,st,a,b,c⟩
theorem fK.in {Q:Bool->St->Prop}{x:Bool}{st:St}(a:Q x st)(b:Rel C F ρ st s):fK C Q F ρ x s:=⟨st,a,b⟩
theorem jg.in {Q:St->Prop}{x:Unit}{st:St}(a:Q st)(b:Rel C F ρ st s):jg C Q F ρ x s:=⟨st,a,b⟩
theorem cC.elim {X:XK}{x:Vg}(h:cC C X F ρ x s)(k:∀ c a st,X c a st->Rel C F ρ st s->Xd C F ρ c a x s->G):G:=aU (λ c a st q=>qA λ r d=>k c a st q r d) h
end
theorem QO {α:Type}{F F1:Fz}{ρ bE:Ky}{E:α->Vh->Prop}{P:Fz->Ky->α->Vh->Prop}(hE:∀ F' ρ' e s',aZ F F'->bD ρ ρ'->P F' ρ' e s'->E e s')(l1:aZ F F1)(k1:bD ρ bE):
  ∀ F' ρ' e s',aZ F1 F'->bD bE ρ'->P F' ρ' e s'->E e s':=λ F' ρ' e s' l k=>hE F' ρ' e s' (l1.trans l) (k1.trans k)
noncomputable def EV (C:Cx)(m:Sem Vg)(st:St)(Q:QV)(X:XK):Prop:=∀ F ρ s,Rel C F ρ st s->Go C F ρ s m (Post C Q) (cC C X)
noncomputable def EL (C:Cx)(m:Sem (List Vg))(st:St)(Q:List V->St->Prop)(X:XK):Prop:=∀ F ρ s,Rel C F ρ st s->Go C F ρ s m (oh C Q) (cC C X)
noncomputable def EB (C:Cx)(m:Sem Bool)(st:St)(Q:Bool->St->Prop)(X:XK):Prop:=∀ F ρ s,Rel C F ρ st s->Go C F ρ s m (fK C Q) (cC C X)
noncomputable def EU (C:Cx)(m:Sem Unit)(st:St)(Q:St->Prop)(X:XK):Prop:=∀ F ρ s,Rel C F ρ st s->Go C F ρ s m (jg C Q) (cC C X)
noncomputable def fy (kb:Nat)(ρ ρ':Ky):Prop:=∀ n a,n<kb->ρ n=some a->ρ' n=some a
theorem bD.b {ρ ρ':Ky}(h:bD ρ ρ')(kb:Nat):fy kb ρ ρ':=λ n a _ e=>h n a e
theorem fy.trans {kb:Nat}{F G H:Ky}(x:fy kb F G)(y:fy kb G H):fy kb F H:=λ n a q h=>y n a q (x n a q h)
theorem fy.le {kb kb':Nat}{F G:Ky}(x:fy kb' F G)(h:kb<=kb'):fy kb F G:=λ n a q=>x n a (Vx q h)
noncomputable def OJ (C:Cx)(kb:Nat)(F:Fz)(ρ:Ky)(s:Vh){α:Type}(m:Sem α)(P:Fz->Ky->α->Vh->Prop)(X:Fz->Ky->Vg->Vh->Prop):Prop:=
 ∀ (Q:α->Vh->Prop) (E:Vg->Vh->Prop),(∀ F' ρ' x s',aZ F F'->fy kb ρ ρ'->P F' ρ' x s'->Q x s')->
  (∀ F' ρ' x s',aZ F F'->fy kb ρ ρ'->X F' ρ' x s'->E x s')->wpAny (model C.prog C.w) C.A m Q E s
theorem OJ.mono {C:Cx}{kb:Nat}{F:Fz}{ρ:Ky}{s:Vh}{α:Type}{m:Sem α}{P P':Fz->Ky->α->Vh->Prop}{X X':Fz->Ky->Vg->Vh->Prop}(h:OJ C kb F ρ s m P X)
  (hP:∀ F' ρ' x s',aZ F F'->fy kb ρ ρ'->P F' ρ' x s'->P' F' ρ' x s') (hX:∀ F' ρ' x s',aZ F F'->fy kb ρ ρ'->X F' ρ' x s'->X' F' ρ' x s'):OJ C kb F ρ s m P' X':=
 λ Q E hQ hE=>h Q E (λ F' ρ' x s' l k p=>hQ F' ρ' x s' l k (hP F' ρ' x s' l k p)) λ F' ρ' x s' l k p=>hE F' ρ' x s' l k (hX F' ρ' x s' l k p)
noncomputable def ES (C:Cx)(kb:Nat)(m:Sem Flow)(st:St)(Q:Fl->St->Prop)(X:XK):Prop:=∀ F ρ s,Rel C F ρ st s->OJ C kb F ρ s m (cy C Q) (cC C X)
section
variable {C:Cx}{st:St}{X X':XK}
theorem EV.mono {m:Sem Vg}{Q Q':QV}(h:EV C m st Q X)(hQ:∀ v st,Q v st->Q' v st):EV C m st Q' X:=λ F ρ s R=>
 (h F ρ s R).mono (λ _ _ _ _ _ _=>dM λ v st a b=>⟨v,st,hQ _ _ a,b⟩) λ _ _ _ _ _ _ x=>x
theorem EB.mono {m:Sem Bool}{Q Q':Bool->St->Prop}(h:EB C m st Q X)(hQ:∀ v st,Q v st->Q' v st):EB C m st Q' X:=λ F ρ s R=>
 (h F ρ s R).mono (λ _ _ _ _ _ _=>aI λ st a b=>⟨st,hQ _ _ a,b⟩) λ _ _ _ _ _ _ x=>x
theorem EL.mono {m:Sem (List Vg)}{Q Q':List V->St->Prop}(h:EL C m st Q X)(hQ:∀ v st,Q v st->Q' v st):EL C m st Q' X:=λ F ρ s R=>
 (h F ρ s R).mono (λ _ _ _ _ _ _=>dM λ v st a b=>⟨v,st,hQ _ _ a,b⟩) λ _ _ _ _ _ _ x=>x
theorem ES.mono {kb:Nat}{m:Sem Flow}{Q Q':Fl->St->Prop}(h:ES C kb m st Q X)(hQ:∀ v st,Q v st->Q' v st):ES C kb m st Q' X:=λ F ρ s R=>
 (h F ρ s R).mono (λ _ _ _ _ _ _=>dM λ v st a b=>⟨v,st,hQ _ _ a,b⟩) λ _ _ _ _ _ _ x=>x
theorem EV.int {i:Int}{k:Nat}{pos:Pos}{Q:QV}(h:Q (.int i) st):EV C (eval (.Constant (.int i) k pos) C.env) st Q X:=λ F ρ s R Q' E hQ _=>
 ZW (hQ F ρ _ _ (aZ.refl _) (bD.refl _) (Post.in (h) (R.toks _) (.int _ _)))
theorem EV.str {x:Str}{k:Nat}{pos:Pos}{Q:QV}(h:Q (.str x) st):EV C (eval (.Constant (.str x) k pos) C.env) st Q X:=λ F ρ s R Q' E hQ _=>
 wpAny_Constant_str (hQ F ρ _ _ (aZ.refl _) (bD.refl _) (Post.in (h) (R.toks _) (.str _ _)))
theorem EV.none {k:Nat}{pos:Pos}{Q:QV}(h:Q .none st):EV C (eval (.Constant .none k pos) C.env) st Q X:=λ F ρ s R Q' E hQ _=>
 wpAny_Constant_none (hQ F ρ _ _ (aZ.refl _) (bD.refl _) (Post.in (h) (R) (.none)))
theorem EV.bool {b:Bool}{k:Nat}{pos:Pos}{Q:QV}(h:Q (.bool b) st):EV C (eval (.Constant (.bool b) k pos) C.env) st Q X:=λ F ρ s R Q' E hQ _=>
 wpAny_Constant_bool (hQ F ρ _ _ (aZ.refl _) (bD.refl _) (Post.in (h) (R) (.bool b)))
noncomputable def gl (K:Frag)(x:Str):Option Vg:=match nsIn K mainGlobals x with
 | some (some v)=>some v
 | some none=>(match nsIn K builtinsNs x with
  | some (some v)=>some v
  | _=>none)
 | none=>none
noncomputable def nameV (names:List (Str×Vn))(K:Frag)(vars:List (Str×V))(x:Str):Option V:=match az names x with
 | some .local=>az vars x
 | some .cell=>az vars x
 | some .free=>(match sB x "__classdict__" with
  | true=>none
  | false=>az vars x)
 | some .globalImplicit=>(gl K x).map V.con
 | _=>none
theorem bA {α:Type}(l:List (Str×α))(x:Str):az l x=l.lookup x:=by
 induction l with
 | nil=>rfl
 | cons p l ih=>
  show (bif sB x p.1 then some p.2 else az l x)=_
  rw [bt,ih]
  cases h:sB x p.1 with
  | true=>rw [dH.mp h,beq_self_eq_true];rfl
  | false=>rw [beq_eq_false_iff_ne.mpr λ e=>HQ ((dH.mpr e).symm.trans h)];rfl
theorem qT {F:Fz}{ρ:Ky}{s:Vh}(R:Rel C F ρ st s):C.K.In s.heap:=λ a o e=>R.kF _ _ (R.kK _ _ (.inl e))
theorem ur {env:Env}{x:Str}(hf:env.scope.kind=.function)(hk:env.kindOf x=some .globalImplicit):loadName env x=loadGlobal env x:=by
 unfold loadName fb;rw [hf,hk];rfl
end
namespace lS
noncomputable def aq (x:Str)(C:Cx)(st:St)(d:Nat)(F:Fz)(ρ:Ky)(s:Vh)(Q' E:Vg->Vh->Prop):Prop:=∀ (G:C.Good0 d) (R:Rel C F ρ st s) {v:V} (hv:nameV C.env.scope.names C.K st.vars x=some v) (fin:∀ y,Den F ρ v y->Q' y s),wpAny (model C.prog C.w) C.A (loadName C.env x) Q' E s
noncomputable def S0:=u9 aq
noncomputable def ε:=eu (by walk_at "ne") S0
theorem here:S0 ε:=by
 intro G R v hv fin
 unfold nameV at hv
 rw [bA] at hv
 cases hk:ε.2.1.env.scope.names.lookup ε.1 with
 | none=>rw [hk] at hv;exact aV hv
 | some k=>
  rw [hk] at hv
  induction k with
  | «local»=>
   refine aI (λ m hm hx=>?_) R.ns
   refine aI (λ y hy dO=>?_) (hx ε.1 v hv hk)
   exact wpAny_loadName_local G.fn hk hm hy (fin y dO)
  | cell=>
   refine qE (λ c hc=>?_) (G.bu ε.1 _ hk (.inl rfl))
   refine aI (λ u hu hx=>?_) (R.cells ε.1 c hc)
   refine aI (λ y e_ dO=>?_) (hx v hv);subst e_
   exact wpAny_loadName_cell G.fn hk hc hu (fin y dO)
  | free=>
   refine qE (λ c hc=>?_) (G.bu ε.1 _ hk (.inr rfl))
   refine aI (λ u hu hx=>?_) (R.cells ε.1 c hc)
   dsimp only at hv
   cases hcd:sB ε.1 "__classdict__" with
   | true=>rw [hcd] at hv;exact aV hv
   | false=>
    rw [hcd] at hv
    refine aI (λ y e_ dO=>?_) (hx v hv);subst e_
    refine wpAny_loadName_free G.fn hk hc hu (fin y dO) ?_
    rw [beq_eq_false_iff_ne];intro e;rw [e,dH.mpr rfl] at hcd;exact HQ hcd
  | globalImplicit=>
   refine qM (λ w hg e_=>?_) hv;subst e_
   have hk':ε.2.1.env.kindOf ε.1=some .globalImplicit:=hk
   rw [ur G.fn hk']
   unfold loadGlobal
   rw [G.glob,G.blt]
   unfold gl at hg
   cases e:nsIn ε.2.1.K mainGlobals ε.1 with
   | none=>rw [e] at hg;exact aV hg
   | some o=>
    rw [e] at hg
    induction o with
    | some y=>
     obtain rfl:=Vf hg
     exact Vc ((gL (qT R) e).here (Vj (fin _ (.con _))))
    | none=>
     dsimp only at hg
     cases e2:nsIn ε.2.1.K builtinsNs ε.1 with
     | none=>rw [e2] at hg;exact aV hg
     | some o2=>
      rw [e2] at hg
      induction o2 with
      | none=>exact aV hg
      | some y=>
       obtain rfl:=Vf hg
       exact Vc ((gL (qT R) e).here (Vc ((gL (qT R) e2).here (Vj (fin _ (.con _))))))
  | _=>exact aV hv
end lS
theorem lT {C st d F ρ s x Q' E}:lS.aq x C st d F ρ s Q' E:=sk (S:=lS.S0) lS.here (x,C,st,d,F,ρ,s,Q',E)
section
variable {C:Cx}{st:St}{X X':XK}
theorem EV.name {d:Nat} (G:C.Good d) {x:Str}{pos:Pos}{v:V}{Q:QV} (hv:nameV C.env.scope.names C.K st.vars x=some v) (hd:sB x "__debug__" = false) (h:Q v st) :
  EV C (eval (.Name x pos) C.env) st Q X:=λ F ρ s R Q' E hQ _=>by
 have hd':(x==("__debug__" : Str))=false:=by
  rw [beq_eq_false_iff_ne];intro e;rw [e,dH.mpr rfl] at hd;exact HQ hd
 exact Zu (lT G.toGood0 R hv λ y d=>hQ F ρ y s (aZ.refl _) (bD.refl _) (Post.in (h) (R) (d))) hd'
theorem EV.binop {l r:Expr}{op:X0}{pos:Pos}{Q:QV}
  (h:EV C (eval l C.env) st (λ a st1=>EV C (eval r C.env) st1 (λ b st2=>∃ p v,H6 op a b=some (p,v)/\p/\Q v st2) X) X) :
  EV C (eval (.BinOp l op r pos) C.env) st Q X:=λ F ρ s R Q' E hQ hE=>by
 refine wpAny_BinOp (h F ρ s R _ E ?_ hE)
 rintro F1 bE x s1 l1 k1 hp0;apply hp0.elim;rintro a st1 h1 R1 d1
 refine h1 F1 bE s1 R1 _ E ?_ λ F' ρ' e s' l k=>hE F' ρ' e s' (l1.trans l) (k1.trans k)
 rintro F2 bZ y s2 l2 k2 hp0;apply hp0.elim;intro b st2;refine ak λ p v e hp hq=>?_;intro R2 d2
 refine KQ (X:=cC C X) e hp (d1.mono l2 k2) d2 R2 _ E ?_ λ F' ρ' e s' l k=>hE F' ρ' e s' (l1.trans (l2.trans l)) (k1.trans (k2.trans k))
 intro F3 fO z s3 l3 k3;refine qA λ R3 d3=>?_
 exact hQ F3 fO z s3 (l1.trans (l2.trans l3)) (k1.trans (k2.trans k3)) (Post.in (hq) (R3) (d3))
theorem EV.compare {d:Nat}(G:C.Good d){l r:Expr}{op:ka}{pos:Pos}{Q:QV}(hm:behindInMarks op r=false)
  (h:EV C (eval l C.env) st (λ a st1=>EV C (eval r C.env) st1 (λ b st2=>∃ p v,pO st2 op a b=some (p,v)/\p/\Q (.bool v) st2) X) X) :
  EV C (eval (.Compare l [op] [r] pos) C.env) st Q X:=λ F ρ s R Q' E hQ hE=>by
 refine wpAny_Compare1 (h F ρ s R _ E ?_ hE) hm
 rintro F1 bE x s1 l1 k1 hp0;apply hp0.elim;rintro a st1 h1 R1 d1
 refine h1 F1 bE s1 R1 _ E ?_ λ F' ρ' e s' l k=>hE F' ρ' e s' (l1.trans l) (k1.trans k)
 rintro F2 bZ y s2 l2 k2 hp0;apply hp0.elim;intro b st2;refine ak λ p v e hp hq=>?_;intro R2 d2
 exact Ek G e hp (d1.mono l2 k2) d2 R2 λ tk=>hQ F2 bZ _ _ (l1.trans l2) (k1.trans k2) (Post.in (hq) (R2.toks tk) (.bool _))
theorem EB.compare {d:Nat}(G:C.Good d){l r:Expr}{op:ka}{pos:Pos}{Q:Bool->St->Prop}{whole:Sem Vg}(hm:behindInMarks op r=false)
  (h:EV C (eval l C.env) st (λ a st1=>EV C (eval r C.env) st1 (λ b st2=>∃ p v,pO st2 op a b=some (p,v)/\p/\Q v st2) X) X) :
  EB C (isTrue (.Compare l [op] [r] pos) C.env whole) st Q X:=λ F ρ s R Q' E hQ hE=>by
 refine wpAny_isTrue_Compare1 (h F ρ s R _ E ?_ hE) hm
 rintro F1 bE x s1 l1 k1 hp0;apply hp0.elim;rintro a st1 h1 R1 d1
 refine h1 F1 bE s1 R1 _ E ?_ λ F' ρ' e s' l k=>hE F' ρ' e s' (l1.trans l) (k1.trans k)
 rintro F2 bZ y s2 l2 k2 hp0;apply hp0.elim;intro b st2;refine ak λ p v e hp hq=>?_;intro R2 d2
 exact Ek G e hp (d1.mono l2 k2) d2 R2 λ tk=>a0 (hQ F2 bZ _ _ (l1.trans l2) (k1.trans k2) (fK.in (hq) (R2.toks tk)))
theorem EB.value {e:Expr}{Q:Bool->St->Prop}(he:∀ whole,isTrue e C.env whole=(do let v <-whole;standAt e.pos;holding [v] (truthy v)))
  (h:EV C (eval e C.env) st (λ a st1=>∃ p v,vN st1 a=some (p,v)/\p/\Q v st1) X):EB C (isTrue e C.env (eval e C.env)) st Q X:=λ F ρ s R Q' E hQ hE=>by
 refine wpAny_isTrue_value (h F ρ s R _ E ?_ hE) (he _)
 rintro F1 bE x s1 l1 k1 hp0;apply hp0.elim;intro a st1;refine ak λ p v e hp hq=>?_;intro R1 d1
 exact xB e hp d1 λ tk=>hQ F1 bE _ _ l1 k1 (fK.in (hq) (R1.toks tk))
theorem EB.not {x:Expr}{pos:Pos}{whole:Sem Vg}{Q:Bool->St->Prop}(h:EB C (isTrue x C.env (eval x C.env)) st (λ b st1=>Q (!b) st1) X):
  EB C (isTrue (.UnaryOp .Not x pos) C.env whole) st Q X:=λ F ρ s R Q' E hQ hE=>by
 refine wpAny_isTrue_Not (h F ρ s R _ E ?_ hE)
 rintro F1 bE x s1 l1 k1 hp0;apply hp0.elim;rintro st1 h1 R1
 exact hQ F1 bE _ _ l1 k1 (fK.in (h1) (R1))
theorem EB.boolop {op:ix}{es:List Expr}{pos:Pos}{whole:Sem Vg}{Q:Bool->St->Prop}(h:EB C (allTrue op es C.env) st Q X):
  EB C (isTrue (.BoolOp op es pos) C.env whole) st Q X:=λ F ρ s R Q' E hQ hE=>wpAny_isTrue_BoolOp (h F ρ s R _ E hQ hE)
theorem EB.all_nil {op:ix}{Q:Bool->St->Prop}(h:Q (op==.And) st):EB C (allTrue op [] C.env) st Q X:=λ F ρ s R Q' E hQ hE=>
 Vj (hQ F ρ _ _ (aZ.refl _) (bD.refl _) (fK.in (h) (R)))
noncomputable def br (b:Bool)(p q:Prop):Prop:=(b=true->p)/\(b=false->q)
theorem EB.all_cons {op:ix}{x:Expr}{es:List Expr}{Q:Bool->St->Prop}
  (h:EB C (isTrue x C.env (eval x C.env)) st (λ b st1=>br (op==.And) (br b (EB C (allTrue op es C.env) st1 Q X) (Q false st1)) (br b (Q true st1) (EB C (allTrue op es C.env) st1 Q X))) X) :
  EB C (allTrue op (x::es) C.env) st Q X:=λ F ρ s R Q' E hQ hE=>by
 show wpAny _ _ (do match op,<-isTrue x C.env (eval x C.env) with | .And,false=>pure false | .Or,true=>pure true | _,_=>allTrue op es C.env) Q' E s
 refine Vc (h F ρ s R _ E ?_ hE)
 rintro F1 bE b s1 l1 k1 hp0;apply hp0.elim;rintro st1 h1 R1
 have MV:∀ F' ρ' e s',aZ F1 F'->bD bE ρ'->cC C X F' ρ' e s'->E e s':=λ F' ρ' e s' l k=>hE F' ρ' e s' (l1.trans l) (k1.trans k)
 have KR:∀ F' ρ' e s',aZ F1 F'->bD bE ρ'->fK C Q F' ρ' e s'->Q' e s':=λ F' ρ' e s' l k=>hQ F' ρ' e s' (l1.trans l) (k1.trans k)
 induction op<;>induction b
 ·exact Vj (hQ F1 bE _ _ l1 k1 (fK.in ((h1.1 rfl).2 rfl) (R1)))
 ·exact (h1.1 rfl).1 rfl F1 bE s1 R1 Q' E KR MV
 ·exact (h1.2 rfl).2 rfl F1 bE s1 R1 Q' E KR MV
 ·exact Vj (hQ F1 bE _ _ l1 k1 (fK.in ((h1.2 rfl).1 rfl) (R1)))
theorem EV.ifexp {t b o:Expr}{pos:Pos}{Q:QV}
  (h:EB C (isTrue t C.env (eval t C.env)) st (λ c st1=>br c (EV C (eval b C.env) st1 Q X) (EV C (eval o C.env) st1 Q X)) X) :
  EV C (eval (.IfExp t b o pos) C.env) st Q X:=λ F ρ s R Q' E hQ hE=>by
 refine wpAny_IfExp (h F ρ s R _ E ?_ hE)
 rintro F1 bE c s1 l1 k1 hp0;apply hp0.elim;rintro st1 h1 R1
 induction c
 ·exact h1.2 rfl F1 bE s1 R1 Q' E (λ F' ρ' e s' l k=>hQ F' ρ' e s' (l1.trans l) (k1.trans k)) λ F' ρ' e s' l k=>hE F' ρ' e s' (l1.trans l) (k1.trans k)
 ·exact h1.1 rfl F1 bE s1 R1 Q' E (λ F' ρ' e s' l k=>hQ F' ρ' e s' (l1.trans l) (k1.trans k)) λ F' ρ' e s' l k=>hE F' ρ' e s' (l1.trans l) (k1.trans k)
end
end
section
theorem ez (h:Heap):h.get? h.objs.size=none:=by
 cases e:h.get? h.objs.size with
 | none=>rfl
 | some o'=>exact absurd (V1 e) (V8 _)
theorem Rel.gI {C:Cx}{F:Fz}{ρ:Ky}{st:St}{s:Vh}(R:Rel C F ρ st s){o:Obj}(ho:o.isFreed=false):
  aZ F (je F s.heap.objs.size o)/\Rel C (je F s.heap.objs.size o) ρ st {s with heap:=s.heap.push o}:=
 R.newF (h':=s.heap.push o) (λ b o' e=>VA _ e) (ez _) (VL _ ho) s.toks
noncomputable def maxKey:List (Nat×MO)->Nat
 | []=>0
 | (n,_)::l=>Nat.max n (maxKey l)
noncomputable def fresh (h:List (Nat×MO)):Nat:=d6 (maxKey h)
theorem uN (h:List (Nat×MO))(n:Nat):maxKey h<n->J h n=none:=by
 induction h with
 | nil=>exact λ _=>rfl
 | cons p h ih=>
  intro (hn:max p.1 (maxKey h)<n)
  show (bif Vo n p.1 then some p.2 else J h n)=none
  rw [qF uq λ e:n=p.1=>V8 n (VB (Vd (VK e) (Nat.le_max_left ..)) hn)]
  exact ih (VB (Nat.le_max_right ..) hn)
theorem aA (h:List (Nat×MO)):J h (fresh h)=none:=uN h _ (Wf _)
theorem Rel.xD {C:Cx}{F:Fz}{ρ:Ky}{st:St}{s:Vh}(R:Rel C F ρ st s){o:Obj}{mo:MO}(ho:o.isFreed=false)(hm:mR F (kD ρ (Internal.fresh st.heap) s.heap.objs.size) mo o):
  bD ρ (kD ρ (Internal.fresh st.heap) s.heap.objs.size)/\Rel C F (kD ρ (Internal.fresh st.heap) s.heap.objs.size) {st with heap:=af st.heap (Internal.fresh st.heap) mo} {s with heap:=s.heap.push o}:=
 R.MJ (h':=s.heap.push o) (λ b o' e=>VA _ e) (ez _) (VL _ ho) (aA _) hm s.toks
theorem kH {C:Cx}{F:Fz}{ρ:Ky}{st:St}{s:Vh}(R:Rel C F ρ st s):ρ (Internal.fresh st.heap)=none:=by
 cases e:ρ (Internal.fresh st.heap) with
 | none=>rfl
 | some a=>have:=R.dom _ _ e;rw [aA] at this;exact lO this
noncomputable def notStar:Expr->Bool
 | .Starred _ _=>false
 | _=>true
theorem cP {e:Expr}{rest:List Expr}{env:Env}(h:notStar e=true):starEach (e::rest) env=(false,eval e env)::starEach rest env:=by
 induction e using XG<;>first | rfl | exact HQ h | exact lO h | cases h
section
variable {C:Cx}{st:St}{X:XK}
theorem EL.nil {pos:Pos}{Q:List V->St->Prop}(h:Q [] st):EL C (spliced (backTo pos (starEach [] C.env))) st Q X:=λ F ρ s R Q' E hQ hE=>
 ZM (hQ F ρ _ _ (aZ.refl _) (bD.refl _) (oh.in (h) (R) (.nil)))
theorem EL.cons {pos:Pos}{e:Expr}{rest:List Expr}{Q:List V->St->Prop}(hs:notStar e=true)
  (h:EV C (eval e C.env) st (λ v st1=>EL C (spliced (backTo pos (starEach rest C.env))) st1 (λ vs st2=>Q (v::vs) st2) X) X) :
  EL C (spliced (backTo pos (starEach (e::rest) C.env))) st Q X:=λ F ρ s R Q' E hQ hE=>by
 refine Zv (h F ρ s R _ E ?_ hE) (cP hs)
 rintro F1 bE x s1 l1 k1 hp0;apply hp0.elim;rintro a st1 h1 R1 d1
 refine h1 F1 bE s1 R1 _ E ?_ λ F' ρ' e s' l k=>hE F' ρ' e s' (l1.trans l) (k1.trans k)
 rintro F2 bZ y s2 l2 k2 hp0;apply hp0.elim;rintro b st2 hb R2 d2
 exact hQ F2 bZ _ _ (l1.trans l2) (k1.trans k2) (oh.in (hb) (R2) (.cons (d1.mono l2 k2) d2))
theorem EV.tuple {es:List Expr}{k:Nat}{pos:Pos}{Q:QV}(h:EL C (spliced (backTo pos (starEach es C.env))) st (λ vs st1=>vs.length<=sizeLine/\Q (.tup vs) st1) X):
  EV C (eval (.Tuple es k pos) C.env) st Q X:=λ F ρ s R Q' E hQ hE=>by
 refine wpAny_Tuple (h F ρ s R _ E ?_ hE)
 rintro F1 bE xs s1 l1 k1 hp0;apply hp0.elim;intro vs st1;refine qA λ hz hq=>?_;intro R1 d1
 refine qA (λ l2 R2=>?_) (R1.gI (o:=dN xs) rfl)
 exact ⟨by rw [<-d1.length];exact hz,hQ _ bE _ _ (l1.trans l2) k1 (Post.in (hq) (R2) (.tup (aX ..) (d1.mono l2 (bD.refl _))))⟩
theorem EV.flist {es:List Expr}{pos:Pos}{Q:QV}(h:EL C (spliced (backTo pos (starEach es C.env))) st (λ vs st1=>vs.length<=sizeLine/\Q (.lst vs) st1) X):
  EV C (eval (.List es pos) C.env) st Q X:=λ F ρ s R Q' E hQ hE=>by
 refine wpAny_List (h F ρ s R _ E ?_ hE)
 rintro F1 bE xs s1 l1 k1 hp0;apply hp0.elim;intro vs st1;refine qA λ hz hq=>?_;intro R1 d1
 refine qA (λ l2 R2=>?_) (R1.gI (o:=ao xs 0) rfl)
 exact ⟨by rw [<-d1.length];exact hz,hQ _ bE _ _ (l1.trans l2) k1 (Post.in (hq) (R2) (.lst (aX ..) (d1.mono l2 (bD.refl _))))⟩
noncomputable def pP (st:St)(vs:List V):St:={st with heap:=af st.heap (fresh st.heap) (.lst vs)}
theorem EV.mlist {es:List Expr}{pos:Pos}{Q:QV}(h:EL C (spliced (backTo pos (starEach es C.env))) st (λ vs st1=>vs.length<=sizeLine/\Q (.loc (fresh st1.heap)) (pP st1 vs)) X):
  EV C (eval (.List es pos) C.env) st Q X:=λ F ρ s R Q' E hQ hE=>by
 refine wpAny_List (h F ρ s R _ E ?_ hE)
 rintro F1 bE xs s1 l1 k1 hp0;apply hp0.elim;intro vs st1;refine qA λ hz hq=>?_;intro R1 d1
 have k2:=fW (a:=s1.heap.objs.size) (kH R1)
 refine qA (λ _ R2=>?_) (R1.xD (o:=ao xs 0) (mo:=.lst vs) rfl (.lst (d1.mono (aZ.refl _) k2)))
 exact ⟨by rw [<-d1.length];exact hz,hQ _ _ _ _ l1 (k1.trans k2) (Post.in (hq) (R2) (.loc (if_pos rfl)))⟩
noncomputable def bq {α:Type}(l:List α)(n:Nat):Option α:=l[n]?
theorem bI {α:Type}(l:List α)(n:Nat):bq l n=l[n]?:=rfl
noncomputable def gq (st:St)(o i:V):Option V:=match i with
 | .int (.ofNat j)=>(match Wn j 9223372036854775807 with
  | true=>(match o with
   | .tup l=>bq l j
   | .lst l=>bq l j
   | .loc n=>(match J st.heap n with
    | some (.lst l)=>bq l j
    | _=>none)
   | .str x=>(bq x.cps.toList j).map λ c=>.str ⟨#[c]⟩
   | _=>none)
  | false=>none)
 | _=>none
theorem jD {s:Vh}{o:Vg}{T id:String}{value slice:Expr}{i:Vg}{Q E:Vg->Vh->Prop}(hT:s.TypeIs o T)
  (hl:typeLookup (.type T) "__getitem__" = pure (some (.builtin id))) (h:wpAny (model C.prog C.w) C.A (getItem o i) Q E s) :
  wpAny (model C.prog C.w) C.A (subscriptTail value slice o i) Q E s:=by
 unfold subscriptTail
 refine Vc ?_
 rw [getitemInPython_of_ne hT.not_modules]
 refine Vc (Xm hT hl ?_)
 have fin:wpAny (model C.prog C.w) C.A (subscripted slice false o i) (λ r s₃=>wpAny (model C.prog C.w) C.A (letTemporaryGo value o r >>= λ _=>pure r) Q E s₃) E s:=by
  have fin':∀ vs,wpAny (model C.prog C.w) C.A (operate vs (getItem o i)) (λ r s₃=>wpAny (model C.prog C.w) C.A (letTemporaryGo value o r >>= λ _=>pure r) Q E s₃) E s:=λ vs=>
   wpAny_operating (V6 h (λ r s₃ h₃=>Vc (wpAny_letTemporaryGo (Vj h₃))) λ _ _ x=>x)
  induction slice using XG with
  | Slice lo hi sp p=>induction sp with
   | none=>exact fin' _
   | some _=>exact fin' _
  | _=>exact fin' _
 first
  | exact Vj (Vc fin)
  | exact Vc (Vj (Vc fin))
  | exact Vc fin
theorem Int.zv {j:Nat}(h:Wn j 9223372036854775807=true):(ZV j)<2^63:=by
 have:=VQ h
 show (j:Int)<2^63
 lia
theorem zw {F:Fz}{ρ:Ky}{s:Vh}(R:Rel C F ρ st s){o i v:V}{x y:Vg}{value slice:Expr}(h:gq st o i=some v)(hx:Den F ρ o x)(hy:Den F ρ i y)
  {Q E:Vg->Vh->Prop} (hQ:∀ z tk,Den F ρ v z->Q z {s with toks:=tk}):wpAny (model C.prog C.w) C.A (subscriptTail value slice x y) Q E s:=by
 unfold gq at h
 induction i using V.casesOn with
 | int i=>induction i with
  | negSucc _=>exact aV h
  | ofNat j=>
   dsimp only at h
   apply hy.aM;intro t
   cases hb:Wn j 9223372036854775807 with
   | false=>rw [hb] at h;exact aV h
   | true=>
    rw [hb] at h
    have h63:=Int.zv hb
    have h0:(0:Int)<=ZV j:=V0 j
    induction o using V.casesOn with
    | tup l=>
     have h:bq l j=some v:=h
     rw [bI] at h
     apply hx.jb;intro _ _ hf hl
     refine aI (λ z hz hd=>?_) (hl.get h)
     have hlt:=(Xp.mp hz).1
     refine jD ⟨_,R.kF _ _ hf,rfl⟩ slot_tuple_getitem.lookup (PyProof.Rows.getItem_tuple (j:=j) ⟨_,R.kF _ _ hf,rfl,_,rfl⟩ (by lia) h63 ?_ (by simpa using hz) (hQ z s.toks hd))
     exact seqIndex_of h0 (by simpa using hlt)
    | lst l=>
     have h:bq l j=some v:=h
     rw [bI] at h
     apply hx.jc;intro _ _ _ hf hl
     refine aI (λ z hz hd=>?_) (hl.get h)
     exact jD ⟨_,R.kF _ _ hf,rfl⟩ Zc.lookup (wpAny_getItem_list ⟨_,R.kF _ _ hf,rfl,_,rfl⟩ h0 h63 (by simpa using hz) (hQ z s.toks hd))
    | loc n=>
     dsimp only at h
     cases hk:J st.heap n with
     | none=>rw [hk] at h;exact aV h
     | some m=>
      rw [hk] at h
      induction m with
      | lst l=>
       have h:bq l j=some v:=h
       rw [bI] at h
       apply hx.eg;intro _ hn
       refine ak (λ a ob h1 h2=>qA λ h3 _=>?_) (R.mt _ _ hk)
       obtain rfl:=Vf (hn.symm.trans h1)
       refine dM (λ _ _ e_ hl=>?_) h3.lst_inv;subst e_
       refine aI (λ z hz hd=>?_) (hl.get h)
       exact jD ⟨_,h2,rfl⟩ Zc.lookup (wpAny_getItem_list ⟨_,h2,rfl,_,rfl⟩ h0 h63 (by simpa using hz) (hQ z s.toks hd))
      | _=>exact aV h
    | str w=>
     refine qM (λ c hc e_=>?_) h;subst e_
     rw [bI] at hc
     apply hx.bR;intro t2
     have hlt:=(Xp.mp hc).1
     refine jD (gN s w t2) PySem.F.slot_str_getitem.lookup (P.getItem_str (c:=c) ?_ ?_ (hQ _ _ (.str _ _)))
     ·have:¬ (ZV j < -(2^63:Int)):=λ q=>absurd (ZX h0 q) (by decide)
      have h2:¬ (ZV j>=2^63):=Int.not_le.mpr h63
      simp only [this,h2,decide_false,Bool.or_self]
     ·have hs:seqIndex? (ZV j) w.length=some j:=seqIndex_of h0 (by simpa [Str.length] using hlt)
      rw [hs]
      simpa using hc
    | _=>exact aV h
 | _=>exact aV h
theorem EV.subscript {o i:Expr}{pos:Pos}{Q:QV}(h:EV C (eval o C.env) st (λ a st1=>EV C (eval i C.env) st1 (λ b st2=>∃ v,gq st2 a b=some v/\Q v st2) X) X):
  EV C (eval (.Subscript o i pos) C.env) st Q X:=λ F ρ s R Q' E hQ hE=>by
 refine cx (h F ρ s R _ E ?_ hE)
 rintro F1 bE x s1 l1 k1 hp0;apply hp0.elim;rintro a st1 h1 R1 d1
 refine h1 F1 bE s1 R1 _ E ?_ λ F' ρ' e s' l k=>hE F' ρ' e s' (l1.trans l) (k1.trans k)
 rintro F2 bZ y s2 l2 k2 hp0;apply hp0.elim;intro b st2;refine aI λ v e hq=>?_;intro R2 d2
 exact zw R2 e (d1.mono l2 k2) d2 λ z tk hd=>hQ F2 bZ _ _ (l1.trans l2) (k1.trans k2) (Post.in (hq) (R2.toks tk) (hd))
end
end
section
noncomputable def mZ:V->Option (Option Int)
 | .none=>some none
 | .int i=>some (some i)
 | _=>none
noncomputable def pick {α:Type}(l:List α)(lo hi st:Option Int):List α:=(sliceRange (sliceBounds lo hi st l.length).1 (sliceBounds lo hi st l.length).2.1 (sliceBounds lo hi st l.length).2.2).filterMap (bq l)
noncomputable def eW (x:Str)(lo hi st:Option Int):Str:=
 if (st.getD 1==1&&(WB lo hi (st.getD 1) x.length).length==x.length)=true then x else ⟨((WB lo hi (st.getD 1) x.length).filterMap (bq x.cps.toList)).toArray⟩
noncomputable def rL (st:St)(o lo hi sp:V):Option (Prop×V):=match mZ lo,mZ hi,mZ sp with
 | some lo,some hi,some sp=>(match o with
  | .str x=>some (sp≠some 0/\x.length<=sizeLine,.str (eW x lo hi sp))
  | o=>(aE st o).map λ l=>(sp≠some 0/\l.length<=sizeLine,.lst (pick l lo hi sp)))
 | _,_,_=>none
theorem pQ {F:Fz}{ρ:Ky}{v:V}{x:Vg}{p:Option Int}(h:mZ v=some p)(hd:Den F ρ v x):IsPart x p/\∃ q:Option (Int×Tok),x=partValue q/\q.map (·.1)=p:=by
 induction v using V.casesOn with
 | none=>obtain rfl:=Vf h;apply hd.pM;exact ⟨.none,aC none rfl rfl⟩
 | int i=>obtain rfl:=Vf h;apply hd.aM;intro t;exact ⟨.int i t,aC (some (i,t)) rfl rfl⟩
 | _=>exact aV h
theorem aF.Ia {F:Fz}{ρ:Ky}{l:List V}{xs:List Vg}(h:aF F ρ l xs)(is:List Nat):aF F ρ (is.filterMap (bq l)) (is.filterMap (xs[·]?)):=by
 induction is with
 | nil=>exact .nil
 | cons i is ih=>
  cases e:bq l i with
  | none=>
   rw [Yi e,Yi (VW.mpr (h.length▸VW.mp e))]
   exact ih
  | some v=>
   refine aI (λ x hx hd=>?_) (h.get e)
   rw [Yj e,Yj hx];exact .cons hd ih
section
variable {C:Cx}{st:St}{X:XK}
noncomputable def cH (C:Cx):Option Expr->Sem Vg
 | some e=>eval e C.env
 | none=>pure .none
theorem iz (e:Option Expr):evalPart e C.env=cH C e:=by induction e<;>rfl
theorem EV.part_none {Q:QV}(h:Q .none st):EV C (cH C We) st Q X:=λ F ρ s R Q' E hQ hE=>Vj (hQ F ρ _ _ (aZ.refl _) (bD.refl _) (Post.in (h) (R) (.none)))
end
namespace nF
noncomputable def aq (E:Vg->Vh->Prop)(F:Fz)(ρ:Ky)(s:Vh)(C:Cx)(st:St)(X:XK)(o:Expr)(p pos:Pos)(Q:QV)(Q':Vg->Vh->Prop):Prop:=∀ {lo hi sp:Option Expr} (h:EV C (eval o C.env) st (λ a st1=>EV C (cH C lo) st1 (λ b st2=>EV C (cH C hi) st2 (λ c st3=>EV C (cH C sp) st3 (λ d xh=>
   ∃ pr v,rL xh a b c d=some (pr,v)/\pr/\Q v xh) X) X) X) X)  (R:Rel C F ρ st s) (hQ:∀ F' ρ' x s',aZ F F'->bD ρ ρ'->Post C Q F' ρ' x s'->Q' x s') (hE:∀ F' ρ' x s',aZ F F'->bD ρ ρ'->cC C X F' ρ' x s'->E x s'),wpAny (model C.prog C.w) C.A (eval (.Subscript o (.Slice lo hi sp p) pos) C.env) Q' E s
noncomputable def S0:=OG aq
noncomputable def ε:=eu (by walk_at "ne") S0
theorem here:S0 ε:=by
 intro lo hi sp h R hQ hE
 refine cx (h ε.2.1 ε.2.2.1 ε.2.2.2.1 R _ ε.1 ?_ hE)
 rintro F1 bE x s1 l1 k1 hp0;apply hp0.elim;rintro a st1 h1 R1 d1
 refine jp ?_
 rw [iz]
 refine h1 F1 bE s1 R1 _ ε.1 ?_ λ F' ρ' e s' l k=>hE F' ρ' e s' (l1.trans l) (k1.trans k)
 rintro F2 bZ y s2 l2 k2 hp0;apply hp0.elim;rintro b st2 h2 R2 d2
 rw [iz]
 refine h2 F2 bZ s2 R2 _ ε.1 ?_ λ F' ρ' e s' l k=>hE F' ρ' e s' (l1.trans (l2.trans l)) (k1.trans (k2.trans k))
 intro F3 fO z s3 l3 k3;refine ak λ c st3 h3 R3 d3=>?_
 rw [iz]
 refine h3 F3 fO s3 R3 _ ε.1 ?_ λ F' ρ' e s' l k=>hE F' ρ' e s' (l1.trans (l2.trans (l3.trans l))) (k1.trans (k2.trans (k3.trans k)))
 intro F4 vO w s4 l4 k4;refine ak λ d xh ef R4 d4=>?_;obtain ⟨pr,v,e,hp,hq⟩:=ef
 have da:=d1.mono (l2.trans (l3.trans l4)) (k2.trans (k3.trans k4))
 have db:=d2.mono (l3.trans l4) (k3.trans k4)
 have dc:=d3.mono l4 k4
 have rM:=l1.trans (l2.trans (l3.trans l4))
 have mT:=k1.trans (k2.trans (k3.trans k4))
 refine qA (λ l5 R5=>?_) (R4.gI (o:={cls:=.type "slice",data:=.fields #[y,z,w]}) rfl)
 have hsl:({s4 with heap:=s4.heap.push {cls:=.type "slice",data:=.fields #[y,z,w]}}:Vh).heap.IsSliceOf s4.heap.objs.size y z w:=ZY _ _ _ _
 unfold rL at e
 cases e1:mZ b with
 | none=>rw [e1] at e;exact aV e
 | some p1=>
 cases e2:mZ c with
 | none=>rw [e1,e2] at e;exact aV e
 | some p2=>
 cases e3:mZ d with
 | none=>rw [e1,e2,e3] at e;exact aV e
 | some p3=>
 rw [e1,e2,e3] at e
 refine qA (λ i1=>aI λ q1 f1 g1=>?_) (pQ e1 db)
 refine qA (λ i2=>aI λ q2 f2 g2=>?_) (pQ e2 dc)
 refine qA (λ i3=>aI λ q3 f3 g3=>?_) (pQ e3 d4)
 have two:(∃ x,a=.str x/\some (p3≠some 0/\x.length<=sizeLine,V.str (eW x p1 p2 p3))=some (pr,v))\/(aE xh a).map (λ l=>(p3≠some 0/\l.length<=sizeLine,V.lst (pick l p1 p2 p3)))=some (pr,v):=by
  induction a using V.casesOn with
  | str x=>exact .inl (aC x rfl e)
  | _=>exact .inr e
 rcases two with ⟨w',rfl,e⟩ | e
 ·refine qV (λ e_ cg=>?_) e;subst e_ cg
  apply da.bR;intro tk
  refine jD (gN _ w' tk) PySem.F.slot_str_getitem.lookup (wpAny_getItem_str_slice (l:=q1) (u:=q2) (st:=q3) ⟨_,VL _ rfl,rfl,by rw [f1,f2,f3]⟩ ?_ ?_)
  ·rw [g3]
   induction p3 with
   | none=>rfl
   | some c=>simp only [Option.getD_some,beq_eq_false_iff_ne];intro h0;exact hp.1 (by rw [h0])
  ·unfold sliceMade slicePicked
   unfold eW at hq
   rw [g1,g2,g3]
   by_cases hc:(p3.getD 1==1&&(WB p1 p2 (p3.getD 1) w'.length).length==w'.length)=true
   ·rw [if_pos hc];rw [if_pos hc] at hq
    exact hQ _ vO _ _ (rM.trans l5) mT (Post.in (hq) (R5) (.str _ _))
   ·rw [if_neg hc];rw [if_neg hc] at hq
    have e5:(WB p1 p2 (p3.getD 1) w'.length).filterMap (w'.cps[·]?)=(WB p1 p2 (p3.getD 1) w'.length).filterMap (bq w'.cps.toList):=by
     congr 1;funext i;rw [bI,Array.getElem?_toList]
    refine ⟨?_,?_⟩
    ·refine Vd ?_ hp.2
     show (List.toArray _).size<=w'.length
     rw [VM]
     refine Vd (List.length_filterMap_le _ _) (sliceIndicesBy_le _ _ _ ?_ _)
     induction p3 with
     | none=>decide
     | some c=>intro h0;exact hp.1 (by rw [show c=0 from h0])
    ·rw [e5]
     exact hQ _ vO _ _ (rM.trans l5) mT (Post.in (hq) (R5.toks _) (.str _ _))
 ·refine qM (λ l hl e=>?_) e
  refine qP (λ e_ cg=>?_) e;subst e_ cg
  refine aU (λ ad xs ep e_=>qA λ hget dO=>?_) (bH R5 (da.mono l5 (bD.refl _)) hl);subst e_
  refine qA (λ l6 R6=>?_) (R5.gI (o:=ao ((sliceRange (sliceBounds p1 p2 p3 xs.length).1 (sliceBounds p1 p2 p3 xs.length).2.1 (sliceBounds p1 p2 p3 xs.length).2.2).filterMap (xs[·]?)) 0) rfl)
  refine jD ⟨_,hget,rfl⟩ Zc.lookup (wpAny_getItem_list_slice ⟨_,hget,rfl,_,rfl⟩ hsl i1 i2 i3 hp.1 ?_ (by rw [VM,<-dO.length];exact hp.2))
  have e7:slicePick xs.toArray p1 p2 p3=((sliceRange (sliceBounds p1 p2 p3 xs.length).1 (sliceBounds p1 p2 p3 xs.length).2.1 (sliceBounds p1 p2 p3 xs.length).2.2).filterMap (xs[·]?)).toArray:=by
   unfold slicePick;rw [VM];congr 1;congr 1;funext i;rw [Wq]
  rw [e7]
  refine hQ _ vO _ _ (rM.trans (l5.trans l6)) mT (Post.in (hq) (R6) (.lst (aX ..) ?_))
  have:=(dO.mono l6 (bD.refl _)).Ia (sliceRange (sliceBounds p1 p2 p3 l.length).1 (sliceBounds p1 p2 p3 l.length).2.1 (sliceBounds p1 p2 p3 l.length).2.2)
  unfold pick
  rw [<-dO.length]
  rw [<-dO.length] at this
  exact this
end nF
theorem EV.slice {C:Cx}{st:St}{X:XK}{o:Expr}{p pos:Pos}{Q:QV}{lo hi sp:Option Expr}(h:EV C (eval o C.env) st (λ a st1=>EV C (cH C lo) st1 (λ b st2=>EV C (cH C hi) st2 (λ c st3=>EV C (cH C sp) st3 (λ d xh=>
   ∃ pr v,rL xh a b c d=some (pr,v)/\pr/\Q v xh) X) X) X) X):EV C (eval (.Subscript o (.Slice lo hi sp p) pos) C.env) st Q X:=λ F ρ s R Q' E hQ hE=>sk (S:=nF.S0) nF.here (E,F,ρ,s,C,st,X,o,p,pos,Q,Q') h R hQ hE
section
variable {C:Cx}{st:St}{X:XK}
noncomputable def uO (C:Cx)(pos:Pos)(op:ix)(es:List Expr):Sem Vg:=boolOp pos op (evalEach es C.env)
theorem EV.boolop {op:ix}{es:List Expr}{pos:Pos}{Q:QV}(h:EV C (uO C pos op es) st Q X):EV C (eval (.BoolOp op es pos) C.env) st Q X:=h
theorem EV.andor1 {op:ix}{e:Expr}{pos:Pos}{Q:QV}(h:EV C (eval e C.env) st Q X):EV C (uO C pos op [e]) st Q X:=h
theorem EV.andor2 {op:ix}{e e':Expr}{es:List Expr}{pos:Pos}{Q:QV}
  (h:EV C (eval e C.env) st (λ a st1=>∃ p b,vN st1 a=some (p,b)/\p/\br (op==.And) (br b (EV C (uO C pos op (e'::es)) st1 Q X) (Q a st1)) (br b (Q a st1) (EV C (uO C pos op (e'::es)) st1 Q X))) X) :
  EV C (uO C pos op (e::e'::es)) st Q X:=λ F ρ s R Q' E hQ hE=>by
 show wpAny _ _ (do
  let v <-eval e C.env
  standAt pos
  let t <-holding [v] (truthy v)
  match op,t with
  | .And,false | .Or,true=>pure v
  | _,_=>uO C pos op (e'::es)) Q' E s
 refine Vc (h F ρ s R _ E ?_ hE)
 rintro F1 bE x s1 l1 k1 hp0;apply hp0.elim;intro a st1;refine ak λ p b e1 hp h1=>?_;intro R1 d1
 have MV:∀ F' ρ' e s',aZ F1 F'->bD bE ρ'->cC C X F' ρ' e s'->E e s':=QO hE l1 k1
 have KR:∀ F' ρ' e s',aZ F1 F'->bD bE ρ'->Post C Q F' ρ' e s'->Q' e s':=QO hQ l1 k1
 refine Vc (Wb (Vc (Vu (xB e1 hp d1 λ tk=>?_))))
 induction op<;>induction b
 ·exact Vj (KR F1 bE _ _ (aZ.refl _) (bD.refl _) (Post.in ((h1.1 rfl).2 rfl) (R1.toks tk) (d1)))
 ·exact (h1.1 rfl).1 rfl F1 bE _ (R1.toks tk) Q' E KR MV
 ·exact (h1.2 rfl).2 rfl F1 bE _ (R1.toks tk) Q' E KR MV
 ·exact Vj (KR F1 bE _ _ (aZ.refl _) (bD.refl _) (Post.in ((h1.2 rfl).1 rfl) (R1.toks tk) (d1)))
noncomputable def ql:V->Bool
 | .con _=>false
 | _=>true
theorem Cc {F:Fz}{ρ:Ky}{v:V}{x:Vg}(h:ql v=true)(hd:Den F ρ v x):handedIn x=true:=by
 exact (lP (M1:=λ v x=>ql v=true->handedIn x=true) (M2:=λ _ _=>True) (λ _=>rfl) (λ _ _=>rfl) (λ _ _ _=>rfl) (λ _ _ _=>rfl) (λ _ h=>lO h) (λ _ _=>rfl) (λ _ _ _ _=>rfl) (λ _ _ _ _=>rfl) (λ _ _ _ _=>rfl) (λ _ _=>rfl) (λ _ _=>rfl) (λ _ _ _ _ _ _=>rfl) (λ _ _ _=>rfl) trivial (λ _ _ _ _=>trivial)).1 hd h
inductive AG where
 | own (v:V)
 | bound (f:Addr)
noncomputable def El:Vg->Option Addr
 | .ref a=>some a
 | _=>none
theorem kI {v:Vg}{a:Addr}(h:El v=some a):v=.ref a:=by
 induction v with
 | ref b=>exact congrArg Wv (Vf h)
 | _=>exact aV h
theorem c8 {b:Bool}{β:Type}{k:Option β}{r:β}(h:(bif b then k else none)=some r):b=true/\k=some r:=by
 induction b with
 | true=>exact ⟨rfl,h⟩
 | false=>exact aV h
theorem kJ {α:Type}{o:Option α}{p:α->Bool}(h:o.any p=true):∃ x,o=some x/\p x=true:=by
 induction o with
 | none=>exact lO h
 | some x=>exact aC x rfl h
noncomputable def kL (K:Frag)(cls:Addr)(kvs:List (Str×V))(name:Str):Option AG:=bif plainGet K cls name&&hasDictIn K cls then (findIn K (.ref cls) name).bind λ attr=>(az kvs name).elim
  ((attr.bind El).bind λ f=>bif isFn K (.ref f)&&((specialIn K (.ref f) "__get__"==some (some (.builtin "function.__get__")))&&((takesIn K (.ref f)==some false)&&!copiedNames.contains name)) then some (.bound f) else none)
  (λ v=>bif noGet K attr&&ql v then some (.own v) else none) else none
noncomputable def qm {β:Type}(st:St)(o:V)(f:Nat->Addr->Nat->List (Str×V)->Option β):Option β:=match o with
 | .loc n=>(match J st.heap n with
  | some (.inst cls dk)=>(match J st.heap dk with
   | some (.dict kvs)=>f n cls dk kvs
   | _=>none)
  | _=>none)
 | _=>none
theorem kM {β:Type}{st:St}{n dk:Nat}{cls:Addr}{kvs:List (Str×V)}{f:Nat->Addr->Nat->List (Str×V)->Option β}(h:J st.heap n=some (.inst cls dk))(h2:J st.heap dk=some (.dict kvs)):qm st (.loc n) f=f n cls dk kvs:=by
 unfold qm;dsimp only;rw [h];dsimp only;rw [h2]
noncomputable def m5 (K:Frag)(st:St)(o:V)(name:Str):Option V:=qm st o λ n cls _ kvs=>match kL K cls kvs name with
 | some (.own v)=>some v
 | some (.bound f)=>some (.bm (.ref f) (.loc n))
 | none=>none
noncomputable def fnOf (K:Frag)(o:Option (Option Vg)):Option Addr:=((o.bind id).bind El).bind λ f=>bif isFn K (.ref f) then some f else none
theorem uP {K:Frag}{o:Option (Option Vg)}{f:Addr}(h:fnOf K o=some f):o=some (some (.ref f))/\isFn K (.ref f)=true:=by
 refine qO (λ g h1 h2=>?_) h
 refine qA (λ h3 h2=>?_) (c8 h2)
 obtain rfl:=Vf h2
 refine qO (λ w h4 h5=>?_) h1
 refine qO (λ _ e_ cg=>?_) h4;subst e_ cg
 exact ⟨congrArg (λ w=>some (some w)) (kI h5),h3⟩
theorem lU {st:St}{o:V}{β:Type}{f:Nat->Addr->Nat->List (Str×V)->Option β}{r:β}(h:qm st o f=some r):∃ n cls dk kvs,o=.loc n/\J st.heap n=some (.inst cls dk)/\J st.heap dk=some (.dict kvs)/\f n cls dk kvs=some r:=by
 unfold qm at h
 induction o using V.casesOn with
 | loc n=>
  dsimp only at h
  cases hk:J st.heap n with
  | none=>rw [hk] at h;exact aV h
  | some m=>
   rw [hk] at h
   induction m with
   | inst cls dk=>
    dsimp only at h
    cases hk2:J st.heap dk with
    | none=>rw [hk2] at h;exact aV h
    | some m2=>
     rw [hk2] at h
     induction m2 with
     | dict kvs=>exact d7 n cls dk kvs (dG rfl hk hk2 h)
     | _=>exact aV h
   | _=>exact aV h
 | _=>exact aV h
theorem rN {b:Bool}{β:Type}{k:Option β}{r:β}(h:(match b with | true=>k | false=>none)=some r):b=true/\k=some r:=by
 induction b with
 | false=>exact aV h
 | true=>exact ⟨rfl,h⟩
noncomputable def O9 (K:Frag)(cls:Addr)(kvs:List (Str×V))(name:Str)(attr:Option Vg):AG->Prop
 | .own v=>az kvs name=some v/\noGet K attr=true/\ql v=true
 | .bound f=>az kvs name=none/\attr=some (.ref f)/\isFn K (.ref f)=true/\(specialIn K (.ref f) "__get__"==some (some (.builtin "function.__get__")))=true/\(takesIn K (.ref f)==some false)=true/\copiedNames.contains name=false
theorem Cd {K:Frag}{cls:Addr}{kvs:List (Str×V)}{name:Str}{g:AG}(h:kL K cls kvs name=some g):plainGet K cls name=true/\hasDictIn K cls=true/\∃ attr,findIn K (.ref cls) name=some attr/\O9 K cls kvs name attr g:=by
 refine qA (λ h1 h=>?_) (c8 h)
 refine qB (λ h1 h2=>?_) h1
 refine qO (λ attr h3 h=>?_) h
 refine bY h1 h2 (aC attr h3 ?_)
 cases hv:az kvs name with
 | some v=>
  rw [hv] at h
  refine qA (λ h4 h=>?_) (c8 h)
  refine qB (λ h4 h5=>?_) h4
  obtain rfl:=Vf h
  exact ⟨hv,h4,h5⟩
 | none=>
  rw [hv] at h
  refine qO (λ f h4 h=>?_) h
  refine qO (λ w e_ h4=>?_) h4;subst e_
  obtain rfl:=kI h4
  refine qA (λ h5 h=>?_) (c8 h)
  refine qB (λ h5 h6=>?_) h5
  refine qB (λ h6 h7=>?_) h6
  refine qB (λ h7 h8=>?_) h7
  obtain rfl:=Vf h
  exact ⟨hv,rfl,h5,h6,h7,(X6 _).mp h8⟩
theorem xE {o:Obj}{es:Array Vt}{ep:Nat}{name:Str}{y:Vg}(hd:o.data=.dict es ep)(h:nsFind es name=some y):lookIn name o=some (some y):=by
 unfold lookIn
 rw [hd]
 unfold nsFind findBy at h
 refine qM (λ e he e_=>?_) h;subst e_
 rw [<-Array.find?_toList] at he
 dsimp only
 rw [he]
theorem qn {o:Obj}{es:Array Vt}{ep:Nat}{name:Str}(hd:o.data=.dict es ep)(hk:StrKeys es)(h:nsFind es name=none):lookIn name o=some none:=by
 unfold lookIn
 rw [hd]
 unfold nsFind findBy at h
 have he:=Option.map_eq_none_iff.mp h
 rw [<-Array.find?_toList] at he
 dsimp only
 rw [he]
 have:es.toList.any (·.refKey)=false:=by
  rw [List.any_eq_false]
  intro e hm
  refine D7 (λ n t hkey=>?_) (hk e (by simpa using hm))
  unfold DictEntry.refKey
  rw [hkey]
  exact Vp
 simp [this]
end
namespace nG
noncomputable def aq (C:Cx)(st:St)(F:Fz)(ρ:Ky)(s:Vh):Prop:=∀ (R:Rel C F ρ st s) {n dk:Nat}{cls:Addr}{kvs:List (Str×V)}{x:Vg} (hx:Den F ρ (.loc n) x) (h1:J st.heap n=some (.inst cls dk)) (h2:J st.heap dk=some (.dict kvs)),∃ a d od es ep,x=.ref a/\ρ n=some a/\ρ dk=some d/\InstAt s.heap a {cls:=.ref cls,dict:=some d,data:=.plain} cls (some od)/\od.data=.dict es ep/\StrKeys es/\
   ∀ y,(∀ v,az kvs y=some v->∃ z,nsFind es y=some z/\Den F ρ v z)/\(az kvs y=none->nsFind es y=none)
noncomputable def S0:=u5 aq
noncomputable def ε:=eu (by walk_at "ne") S0
theorem here:S0 ε:=by
 intro R n dk cls kvs x hx h1 h2
 apply hx.eg;intro _ hn
 refine ak (λ a ob q1 q2=>qA λ q3 _=>?_) (R.mt _ _ h1)
 rw [hn] at q1;obtain rfl:=Vf q1
 refine ak (λ d od r1 r2=>qA λ r3 _=>?_) (R.mt _ _ h2)
 cases q3 with
 | inst hd=>
  rw [hd] at r1;obtain rfl:=Vf r1
  cases r3 with
  | dict _ _ DX hk hm=>exact d7 _ _ od _ (ir _ rfl hn hd (dG ⟨q2,rfl,rfl,r2⟩ DX hk hm))
end nG
theorem oi {C:Cx}{st:St}{F:Fz}{ρ:Ky}{s:Vh}(R:Rel C F ρ st s){n dk:Nat}{cls:Addr}{kvs:List (Str×V)}{x:Vg}(hx:Den F ρ (.loc n) x)(h1:J st.heap n=some (.inst cls dk))(h2:J st.heap dk=some (.dict kvs)):∃ a d od es ep,x=.ref a/\ρ n=some a/\ρ dk=some d/\InstAt s.heap a {cls:=.ref cls,dict:=some d,data:=.plain} cls (some od)/\od.data=.dict es ep/\StrKeys es/\
   ∀ y,(∀ v,az kvs y=some v->∃ z,nsFind es y=some z/\Den F ρ v z)/\(az kvs y=none->nsFind es y=none):=sk (S:=nG.S0) nG.here (C,st,F,ρ,s) R hx h1 h2
namespace pR
noncomputable def aq (s:Vh)(ρ:Ky)(C:Cx)(F:Fz)(st:St)(X:XK)(Q:QV):Prop:=∀ (R:Rel C F ρ st s) {o v:V}{x:Vg}{name:Str} (h:m5 C.K st o name=some v) (hx:Den F ρ o x) (hq:Q v st),Go C F ρ s (getAttr x name true) (Post C Q) (cC C X)
noncomputable def S0:=u7 aq
noncomputable def ε:=eu (by walk_at "ne") S0
theorem here:S0 ε:=by
 intro R o v x name h hx hq
 intro Q' E hQ hE
 obtain ⟨n,cls,dk,kvs,rfl,hk,hk2,h⟩:=lU h
 obtain ⟨a,d,od,es,ep,rfl,hn,_,I,DX,Mh,hm⟩:=oi R hx hk hk2
 have X₀:=qT R
 cases hg:kL ε.2.2.1.K cls kvs name with
 | none=>rw [hg] at h;exact aV h
 | some g=>
  rw [hg] at h
  obtain ⟨hp,hh,attr,ha,hA⟩:=Cd hg
  induction g with
  | own v'=>
   obtain rfl:=Vf h
   obtain ⟨hv,hng,MW⟩:=hA
   obtain ⟨z,hz,dO⟩:=(hm name).1 _ hv
   exact get_value X₀ I (a6 hp).1 (findObj_own hh ha hng (xE DX hz)) (Cc MW dO) (hQ ε.2.2.2.1 ε.2.1 _ _ (aZ.refl _) (bD.refl _) (Post.in (hq) (R.toks _) (dO)))
  | bound f=>
   obtain rfl:=Vf h
   obtain ⟨hv,rfl,hf,hget,ht,hcn⟩:=hA
   refine get_bind X₀ I (a6 hp).1 (PySem.W.findObj_fn hh ha (beq_iff_eq.mp hget) (beq_iff_eq.mp ht) hcn (qn DX Mh ((hm name).2 hv))) (a6 hp).2
    (Y6 (PySem.W.fn_get (s:={ε.1 with toks:=ε.1.toks+1}) X₀ (beq_iff_eq.mp hf) (handed_on rfl ?_)))
   obtain ⟨l2,R2⟩:=(R.toks (ε.1.toks+1)).gI (o:=methodObj (.ref f) (.ref _)) rfl
   exact hQ _ ε.2.1 _ _ l2 (bD.refl _) (Post.in (hq) (R2) (.bm (aX ..) (.loc hn)))
end pR
theorem Ib {C:Cx}{st:St}{X:XK}{F:Fz}{ρ:Ky}{s:Vh}{Q:QV}(R:Rel C F ρ st s){o v:V}{x:Vg}{name:Str}(h:m5 C.K st o name=some v)(hx:Den F ρ o x)(hq:Q v st):Go C F ρ s (getAttr x name true) (Post C Q) (cC C X):=sk (S:=pR.S0) pR.here (s,ρ,C,F,st,X,Q) R h hx hq
section
variable {C:Cx}{st:St}{X:XK}
theorem EV.attribute {o:Expr}{name:Str}{pos:Pos}{Q:QV}(h:EV C (eval o C.env) st (λ a st1=>∃ v,m5 C.K st1 a name=some v/\Q v st1) X)
  (hb:attributeBase o name C.env (eval o C.env)=eval o C.env):EV C (eval (.Attribute o name pos) C.env) st Q X:=λ F ρ s R Q' E hQ hE=>by
 refine Attribute_any_ (h F ρ s R _ E ?_ hE) ?_
 ·rintro F1 bE x s1 l1 k1 hp0;apply hp0.elim;intro a st1;refine aI λ v e hq=>?_;intro R1 d1
  exact Ib R1 e d1 hq Q' E (λ F' ρ' e s' l k=>hQ F' ρ' e s' (l1.trans l) (k1.trans k)) λ F' ρ' e s' l k=>hE F' ρ' e s' (l1.trans l) (k1.trans k)
 ·have:eval (.Attribute o name pos) C.env=(do
   let o' <-attributeBase o name C.env (eval o C.env)
   standAt pos.atName
   let r <-holding [o'] (getAttr o' name true)
   letTemporaryGo o o' r
   pure r):=rfl
  rw [this,hb]
end
end
section
noncomputable def CJ (C:Cx)(f:V)(args:List V)(ks:List Str)(kvs:List V)(st:St)(Q:QV)(X:XK):Prop:=∀ F ρ s x xs ys,Rel C F ρ st s->Den F ρ f x->aF F ρ args xs->aF F ρ kvs ys->
 Go C F ρ s (call x xs (ks.zip ys)) (Post C Q) (cC C X)
noncomputable def cX (K:Frag):V->Bool
 | .con (.builtin _)=>true
 | .con (.type _)=>true
 | .con (.ref a)=>keepIn K (.ref a)
 | .bm (.ref f) _=>fnIn K f
 | .lam _=>true
 | _=>false
noncomputable def J5 (F:Fz)(h:Heap):Prop:=∀ a o,F a=some o->h.get? a=some o
theorem nH {K:Frag}{F:Fz}{ρ:Ky}{v:V}{x:Vg}{M:Zn}(h:cX K v=true)(hd:Den F ρ v x)(hK:∀ b o,K.lookup b=some o->F b=some o){hp:Heap}(hF:J5 F hp):
  ∃ k,(k=Keeper.frame\/k=Keeper.machine\/k=Keeper.boundFrame)/\Looks M hp (keeperOf x) k:=by
 have QS:K.In hp:=λ a o e=>hF _ _ (hK _ _ e)
 induction v using V.casesOn with
 | con y=>
  apply hd.bL
  induction y with
  | builtin id=>exact aC .machine (.inr (.inl rfl)) (ZE rfl)
  | type T=>exact aC .machine (.inr (.inl rfl)) (ZE rfl)
  | ref a=>exact keeps_K (K:=K) (f:=.ref a) h hp QS
  | _=>exact lO h
 | lam fd=>
  refine fq (λ a e_ hf _=>?_) hd.AQ;subst e_
  refine aC .frame (.inl rfl) ?_
  unfold keeperOf
  exact (Looks.ld (hF _ _ hf)).andThen Looks.now
 | bm f u=>
  refine ak (λ y a e_ hf hu=>?_) hd.KO;subst e_
  induction f with
  | ref f=>exact keeps_M (K:=K) (f:=f) h hp ⟨hF _ _ hf,QS⟩
  | _=>exact lO h
 | _=>exact lO h
noncomputable def bg (es:List Expr):Bool:=es.all notStar
theorem gJ {e:Expr}{es:List Expr}(h:bg (e::es)=true):notStar e=true/\bg es=true:=VG.mp h
theorem fP {e:Expr}(h:notStar e=true):bg [e]=true:=VG.mpr ⟨h,rfl⟩
noncomputable def jh:List Yl->Bool
 | []=>true
 | ⟨some _,_,_⟩::ks=>jh ks
 | _=>false
noncomputable def jE:List Yl->List Str
 | []=>[]
 | ⟨some n,_,_⟩::ks=>n::jE ks
 | ⟨none,_,_⟩::ks=>jE ks
noncomputable def pS:List Yl->List Expr
 | []=>[]
 | ⟨_,e,_⟩::ks=>e::pS ks
noncomputable def f7 (pos:Pos)(es:List Expr)(env:Env):List (Sem Vg):=es.map λ e=>do let v <-eval e env;standAt pos;pure v
theorem gK (pos:Pos)(env:Env):∀ ks:List Yl,jh ks=true->(backToKw pos (keywordEach ks env)).all (·.1.isSome)=true/\(backToKw pos (keywordEach ks env)).map (·.2)=f7 pos (pS ks) env/\
  (backToKw pos (keywordEach ks env)).filterMap (·.1)=jE ks/\(backToKw pos (keywordEach ks env)).any (·.1.isNone)=false
 | [],_=>dG rfl rfl rfl rfl
 | ⟨some n,e,p⟩::ks,h=>by
  refine bQ (λ h1 h2 h3 h4=>?_) (gK pos env ks h)
  have e0:backToKw pos (keywordEach (⟨some n,e,p⟩::ks) env)=(some n,do let v <-eval e env;standAt pos;pure v)::backToKw pos (keywordEach ks env):=rfl
  rw [e0]
  refine dG ?_ ?_ ?_ ?_
  ·rw [List.all_cons,h1];rfl
  ·rw [XI,h2];rfl
  ·rw [ZR,h3];rfl
  ·rw [fg,h4];rfl
theorem fQ (pos:Pos)(env:Env)(es:List Expr):bg es=true->(backTo pos (starEach es env)).any (·.1)=false/\(backTo pos (starEach es env)).all (!·.1)=true:=by
 induction es with
 | nil=>exact λ _=>⟨rfl,rfl⟩
 | cons e es ih=>
  intro h
  rw [cP (gJ h).1]
  exact ih (gJ h).2
theorem Pa {c:Prop}[Decidable c]:(if c then 0 else 1)<=1:=by
 by_cases h:c
 ·rw [if_pos h];exact WC 1
 ·rw [if_neg h];exact VD 1
theorem rt {pos:Pos}{env:Env}{args:List Expr}{kws:List Yl}{n:Nat}(ha:bg args=true)(hk:jh kws=true)(hn:Wn (n+1+1) 30=true):
  methodCallForm n (backTo pos (starEach args env)) (backToKw pos (keywordEach kws env))=true:=by
 unfold methodCallForm
 rw [(fQ pos env args ha).2,(gK pos env kws hk).1]
 exact decide_eq_true (VB (Vq Pa n) (VQ hn))
theorem vP {o:Expr}{env:Env}{apos pos:Pos}(h:Vo apos.endLine pos.line=true):methodCallPos true o env apos pos=pure pos:=
 if_pos (by rw [uq.mp h,beq_self_eq_true];rfl)
section
variable {C:Cx}{st:St}{X:XK}
theorem EL.vals_nil {pos:Pos}{Q:List V->St->Prop}(h:Q [] st):EL C (evalAll (f7 pos [] C.env)) st Q X:=λ F ρ s R Q' E hQ hE=>
 X7 (hQ F ρ _ _ (aZ.refl _) (bD.refl _) (oh.in (h) (R) (.nil)))
theorem EL.vals_cons {pos:Pos}{e:Expr}{rest:List Expr}{Q:List V->St->Prop}
  (h:EV C (eval e C.env) st (λ v st1=>EL C (evalAll (f7 pos rest C.env)) st1 (λ vs st2=>Q (v::vs) st2) X) X) :
  EL C (evalAll (f7 pos (e::rest) C.env)) st Q X:=λ F ρ s R Q' E hQ hE=>by
 refine wpAny_evalAll_cons (Vc (h F ρ s R _ E ?_ hE))
 rintro F1 bE x s1 l1 k1 hp0;apply hp0.elim;rintro a st1 h1 R1 d1
 refine Vc (Wb (Vj ?_))
 refine h1 F1 bE s1 R1 _ E ?_ λ F' ρ' e s' l k=>hE F' ρ' e s' (l1.trans l) (k1.trans k)
 rintro F2 bZ y s2 l2 k2 hp0;apply hp0.elim;rintro b st2 hb R2 d2
 exact hQ F2 bZ _ _ (l1.trans l2) (k1.trans k2) (oh.in (hb) (R2) (.cons (d1.mono l2 k2) d2))
noncomputable def f9 (C:Cx)(pos:Pos)(f:V)(first:List V)(args:List Expr)(kws:List Yl)(st:St)(Q:QV)(X:XK):Prop:=
 cX C.K f=true/\bg args=true/\jh kws=true/\
  EL C (spliced (backTo pos (starEach args C.env))) st (λ vs st1=>EL C (evalAll (f7 pos (pS kws) C.env)) st1 (λ ks st2=>CJ C f (first++vs) (jE kws) ks st2 Q X) X) X
theorem fB {A:Wk}{M:Zn}{s:Vh}{E:Vg->Vh->Prop}{f:Vg}{env:Env}{pos:Pos}{args:List Expr}{kws:List Yl}{Q:Args->Vh->Prop}(ha:bg args=true)(hk:jh kws=true)
  (h:wpAny M A (spliced (backTo pos (starEach args env))) (λ vs s₁=>wpAny M A (evalAll (f7 pos (pS kws) env)) (λ ks s₂=>Q ⟨vs,(jE kws).zip ks⟩ s₂) E s₁) E s) :
  wpAny M A (evalArgs f true (backTo pos (starEach args env)) (backToKw pos (keywordEach kws env))) Q E s:=by
 refine bQ (λ h1 h2 h3 _=>?_) (gK pos env kws hk)
 induction args using VY with
 | nil=>
  refine λ Γ p hΓ=>(evalArgs_kw_nil h1 ?_) Γ p hΓ
  rw [h2,h3]
  exact h Γ p hΓ
 | cons e es=>
  rw [cP (gJ ha).1] at h ⊢
  refine evalArgs_kw h1 ?_
  rw [h2,h3]
  exact h
end
namespace gr
noncomputable def aq (C:Cx)(F:Fz)(pos:Pos)(x:Vg)(ρ:Ky)(s:Vh)(f:V)(args:List Expr)(kws:List Yl)(xs:List Vg)(st:St)(X:XK)(first:List V)(Q:QV):Prop:=∀ (h:f9 C pos f first args kws st Q X) (R:Rel C F ρ st s) (hx:Den F ρ f x) (hf:aF F ρ first xs),Go C F ρ s (callWith pos x xs (backTo pos (starEach args C.env)) (backToKw pos (keywordEach kws C.env))) (Post C Q) (cC C X)
noncomputable def S0:=HZ aq
noncomputable def ε:=eu (by walk_at "ne") S0
theorem here:S0 ε:=by
 intro h R hx hf
 intro Q' E hQ hE
 refine bQ (λ hc ha hk hl=>?_) h
 refine a7 (P:=λ hp=>∃ F' ρ',aZ ε.2.1 F'/\J5 F' hp/\(∀ b o,ε.1.K.lookup b=some o->F' b=some o)/\Den F' ρ' ε.2.2.2.2.2.2.1 ε.2.2.2.1) ?_ (λ hp=>ak λ F' ρ' _ a=>qA λ b c=>nH hc c b a) ?_
 ·rw [(fQ ε.2.2.1 ε.1.env ε.2.2.2.2.2.2.2.1 ha).1,(gK ε.2.2.1 ε.1.env ε.2.2.2.2.2.2.2.2.1 hk).2.2.2];rfl
 ·refine fB ha hk (hl ε.2.1 ε.2.2.2.2.1 ε.2.2.2.2.2.1 R _ E ?_ hE)
  rintro F1 bE vs s1 l1 k1 hp0;apply hp0.elim;rintro ws st1 h1 R1 d1
  refine h1 F1 bE s1 R1 _ E ?_ λ F' ρ' e s' l k=>hE F' ρ' e s' (l1.trans l) (k1.trans k)
  rintro F2 bZ us s2 l2 k2 hp0;apply hp0.elim;rintro zs st2 h2 R2 d2
  have MX:=hx.mono (l1.trans l2) (k1.trans k2)
  refine ⟨(ay F2 bZ (l1.trans l2) R2.kF (⟨λ b o e=>R2.kK b o (.inl e),MX⟩)),?_⟩
  exact h2 F2 bZ s2 ε.2.2.2.1 (ε.2.2.2.2.2.2.2.2.2.1++vs) us R2 MX ((hf.mono (l1.trans l2) (k1.trans k2)).append (d1.mono l2 k2)) d2 Q' E (λ F' ρ' e s' l k=>hQ F' ρ' e s' (l1.trans (l2.trans l)) (k1.trans (k2.trans k)))
   λ F' ρ' e s' l k=>hE F' ρ' e s' (l1.trans (l2.trans l)) (k1.trans (k2.trans k))
end gr
theorem iX {C:Cx}{st:St}{X:XK}{F:Fz}{ρ:Ky}{s:Vh}{pos:Pos}{f:V}{first:List V}{args:List Expr}{kws:List Yl}{x:Vg}{xs:List Vg}{Q:QV}(h:f9 C pos f first args kws st Q X)(R:Rel C F ρ st s)(hx:Den F ρ f x)(hf:aF F ρ first xs):Go C F ρ s (callWith pos x xs (backTo pos (starEach args C.env)) (backToKw pos (keywordEach kws C.env))) (Post C Q) (cC C X):=sk (S:=gr.S0) gr.here (C,F,pos,x,ρ,s,f,args,kws,xs,st,X,first,Q) h R hx hf
section
variable {C:Cx}{st:St}{X:XK}
theorem EV.call {id:Str}{p pos:Pos}{args:List Expr}{kws:List Yl}{Q:QV}(h:EV C (eval (.Name id p) C.env) st (λ f st1=>f9 C pos f [] args kws st1 Q X) X):
  EV C (eval (.Call (.Name id p) args kws pos) C.env) st Q X:=λ F ρ s R Q' E hQ hE=>by
 refine Y7 (h F ρ s R _ E ?_ hE)
 rintro F1 bE x s1 l1 k1 hp0;apply hp0.elim;rintro f st1 h1 R1 d1
 exact iX h1 R1 d1 .nil Q' E (λ F' ρ' e s' l k=>hQ F' ρ' e s' (l1.trans l) (k1.trans k)) λ F' ρ' e s' l k=>hE F' ρ' e s' (l1.trans l) (k1.trans k)
inductive Ty where
 | str | list | tuple
noncomputable def Ty.nm:Ty->String
 | .str=>"str"
 | .list=>"list"
 | .tuple=>"tuple"
noncomputable def Mi (st:St):V->Option Ty
 | .str _=>some .str
 | .lst _=>some .list
 | .tup _=>some .tuple
 | .loc n=>match J st.heap n with
  | some (.lst _)=>some .list
  | _=>none
 | _=>none
noncomputable def AX (t:Ty)(name:Str):Option String:=match t with
 | .str=>(match sB name "upper" with
  | true=>some "str.upper"
  | false=>match sB name "lower" with
   | true=>some "str.lower"
   | false=>match sB name "join" with
    | true=>some "str.join"
    | false=>none)
 | .list=>(match sB name "append" with
  | true=>some "list.append"
  | false=>match sB name "extend" with
   | true=>some "list.extend"
   | false=>none)
 | .tuple=>none
theorem Em {t:Ty}{name:Str}{id:String} (h:AX t name=some id):PlainAttrs t.nm/\Slot t.nm name id/\typeOf (.builtin id)=pure (.type "method_descriptor"):=by
 unfold AX at h
 induction t with
 | str=>
  dsimp only at h
  cases e:sB name "upper" with
  | true=>rw [e] at h;obtain rfl:=Vf h;rw [dH.mp e];exact bY Zd PySem.F.slot_str_upper PySem.F.type_str_upper
  | false=>
   rw [e] at h
   dsimp only at h
   cases e:sB name "lower" with
   | true=>rw [e] at h;obtain rfl:=Vf h;rw [dH.mp e];exact bY Zd PySem.F.slot_str_lower PySem.F.type_str_lower
   | false=>
    rw [e] at h
    refine qA (λ e h=>?_) (rN h)
    obtain rfl:=Vf h;rw [dH.mp e];exact bY Zd PySem.F.slot_str_join PySem.F.type_str_join
 | list=>
  dsimp only at h
  cases e:sB name "append" with
  | true=>rw [e] at h;obtain rfl:=Vf h;rw [dH.mp e];exact bY PySem.F.plainAttrs_list YW PySem.F.type_list_append
  | false=>
   rw [e] at h
   refine qA (λ e h=>?_) (rN h)
   obtain rfl:=Vf h;rw [dH.mp e];exact bY PySem.F.plainAttrs_list PySem.F.slot_list_extend PySem.F.type_list_extend
 | tuple=>exact aV h
end
namespace rO
noncomputable def aq (st:St)(s:Vh)(C:Cx)(F:Fz)(ρ:Ky):Prop:=∀ (R:Rel C F ρ st s) {v:V}{t:Ty}{x:Vg} (h:Mi st v=some t) (hx:Den F ρ v x),s.TypeIs x t.nm/\∀ a,x=.ref a->∃ o,s.heap.get? a=some o/\o.dict=none
noncomputable def S0:=u5 aq
noncomputable def ε:=eu (by walk_at "ne") S0
theorem here:S0 ε:=by
 intro R v t x h hx
 induction v using V.casesOn with
 | str y=>obtain rfl:=Vf h;apply hx.bR;intro tk;exact ⟨gN ε.2.1 y tk,λ a e=>nomatch e⟩
 | tup l=>obtain rfl:=Vf h;apply hx.jb;intro a xs hf _;exact ⟨⟨_,R.kF _ _ hf,rfl⟩,λ a e=>Xb e▸(aC _ (R.kF _ _ hf) rfl)⟩
 | lst l=>obtain rfl:=Vf h;apply hx.jc;intro a xs ep hf _;exact ⟨⟨_,R.kF _ _ hf,rfl⟩,λ a e=>Xb e▸(aC _ (R.kF _ _ hf) rfl)⟩
 | loc n=>
  apply hx.eg;intro _ hn
  have h:(match J ε.1.heap n with | some (.lst _)=>some Ty.list | _=>none)=some t:=h
  cases hk:J ε.1.heap n with
  | none=>rw [hk] at h;exact aV h
  | some m=>
   rw [hk] at h
   induction m with
   | lst l=>
    obtain rfl:=Vf h
    refine ak (λ a ob h1 h2=>qA λ h3 _=>?_) (R.mt _ _ hk)
    obtain rfl:=Vf (hn.symm.trans h1)
    refine dM (λ _ _ e_ hl=>?_) h3.lst_inv;subst e_
    exact ⟨⟨_,h2,rfl⟩,λ a e=>Xb e▸(aC _ h2 rfl)⟩
   | _=>exact aV h
 | _=>exact aV h
end rO
theorem KS {C:Cx}{st:St}{F:Fz}{ρ:Ky}{s:Vh}(R:Rel C F ρ st s){v:V}{t:Ty}{x:Vg}(h:Mi st v=some t)(hx:Den F ρ v x):s.TypeIs x t.nm/\∀ a,x=.ref a->∃ o,s.heap.get? a=some o/\o.dict=none:=sk (S:=rO.S0) rO.here (st,s,C,F,ρ) R h hx
section
variable {C:Cx}{st:St}{X:XK}
noncomputable def j8 (K:Frag)(st:St)(o:V)(name:Str):Option Vg:=match Mi st o with
 | some t=>(AX t name).map ZF
 | none=>qm st o λ n cls _ kvs=>bif plainGet K cls name&&(az kvs name).isNone then (fnOf K (findIn K (.ref cls) name)).map Wv else none
end
namespace pT
noncomputable def aq (st:St)(C:Cx)(F:Fz)(ρ:Ky)(s:Vh)(Q:Vg×List Vg->Vh->Prop)(E:Vg->Vh->Prop):Prop:=∀ (R:Rel C F ρ st s) {o:V}{x f:Vg}{name:Str}{pl:Sem Bool} (h:j8 C.K st o name=some f) (hx:Den F ρ o x) (hQ:Q (f,[x]) s),wpAny (model C.prog C.w) C.A (getMethod x name pl) Q E s
noncomputable def S0:=u7 aq
noncomputable def ε:=eu (by walk_at "ne") S0
theorem here:S0 ε:=by
 intro R o x f name pl h hx hQ
 unfold j8 at h
 cases ht:Mi ε.1 o with
 | some t=>
  rw [ht] at h
  obtain ⟨id,h1,rfl⟩:=Xe.mp h
  obtain ⟨a,b,c⟩:=Em h1
  obtain ⟨d,e⟩:=KS R ht hx
  exact Ze d a b c e hQ
 | none=>
  rw [ht] at h
  obtain ⟨n,cls,dk,kvs,rfl,hk,hk2,h⟩:=lU h
  obtain ⟨hp,h⟩:=c8 h
  obtain ⟨f',hf',rfl⟩:=Xe.mp h
  obtain ⟨hf,hfn⟩:=uP hf'
  obtain ⟨hp,hv⟩:=VG.mp hp
  obtain ⟨a,d,od,es,ep,rfl,hn,_,I,DX,Mh,hm⟩:=oi R hx hk hk2
  refine method_fn (qT R) I (a6 hp).1 (a6 hp).2 hf (beq_iff_eq.mp hfn) ?_ hQ
  show (lookIn name od).map _=_
  rw [qn DX Mh ((hm name).2 (XU.mp hv))];rfl
end pT
theorem Ic {C:Cx}{st:St}{F:Fz}{ρ:Ky}{s:Vh}{Q:Vg×List Vg->Vh->Prop}{E:Vg->Vh->Prop}(R:Rel C F ρ st s){o:V}{x f:Vg}{name:Str}{pl:Sem Bool}(h:j8 C.K st o name=some f)(hx:Den F ρ o x)(hQ:Q (f,[x]) s):wpAny (model C.prog C.w) C.A (getMethod x name pl) Q E s:=sk (S:=pT.S0) pT.here (st,C,F,ρ,s,Q,E) R h hx hQ
section
variable {C:Cx}{st:St}{X:XK}
noncomputable def baseOk:Expr->Bool
 | .Call (.Name _ _) [] [] _=>false
 | _=>true
theorem oj {o:Expr}{name:Str}{env:Env}{whole:Sem Vg}(h:baseOk o=true):attributeBase o name env whole=whole:=by
 induction o using XG with
 | Call f args kws pos=>
  induction f using XG with
  | Name id p=>
   induction args using VY with
   | nil=>induction kws using VY with
    | nil=>exact lO h
    | cons _ _=>rfl
   | cons _ _=>rfl
  | _=>rfl
 | _=>rfl
theorem EV.attr {o:Expr}{name:Str}{pos:Pos}{Q:QV}(hb:baseOk o=true)(h:EV C (eval o C.env) st (λ a st1=>∃ v,m5 C.K st1 a name=some v/\Q v st1) X):EV C (eval (.Attribute o name pos) C.env) st Q X:=
 EV.attribute h (oj hb)
noncomputable def xF (args:List Expr)(kws:List Yl):Bool:=Xf (args.length+kws.length+1) 30
theorem EV.method {o:Expr}{name:Str}{apos pos:Pos}{args:List Expr}{kws:List Yl}{Q:QV}(hb:baseOk o=true)(hline:Vo apos.endLine pos.line=true)(hfew:xF args kws=true)
  (h:EV C (eval o C.env) st (λ a st1=>∃ f,j8 C.K st1 a name=some f/\f9 C pos (.con f) [a] args kws st1 Q X) X) :
  EV C (eval (.Call (.Attribute o name apos) args kws pos) C.env) st Q X:=λ F ρ s R Q' E hQ hE=>by
 rw [bi,oj hb]
 refine Vc (h F ρ s R _ E ?_ hE)
 rintro F1 bE x s1 l1 k1 hp0;apply hp0.elim;intro a st1;refine aI λ f hm h1=>?_;intro R1 d1
 refine Vc (Wb ?_)
 refine bQ (λ Pb hpa hpk hrest=>?_) (id h1)
 unfold methodCall
 rw [rt hpa hpk hfew]
 refine Vc (Vu (Ic R1 hm d1 ?_))
 refine Vc (Xn (vP hline) ?_)
 exact iX h1 R1 (.con f) (.cons d1 .nil) Q' E (λ F' ρ' e s' l k=>hQ F' ρ' e s' (l1.trans l) (k1.trans k)) λ F' ρ' e s' l k=>hE F' ρ' e s' (l1.trans l) (k1.trans k)
end
end
section
noncomputable def bK (st:St)(x:Str)(v:V):St:={st with vars:=n6 st.vars x v}
theorem Rel.En {C:Cx}{F:Fz}{ρ:Ky}{st:St}{s:Vh}{h':Heap}{d:Nat}(G:C.Good0 d)(R:Rel C F ρ st s){x:Str}{v:V}{y:Vg}{m:Str->Option Vg}(hk:C.env.kindOf x=some .local)(hc:C.env.cells.lookup x=none)
  (hm:s.heap.Ns C.env.locals m) (hx:∀ z w,az st.vars z=some w->C.env.kindOf z=some .local->∃ y,m z=some y/\Den F ρ w y)
  (hn:h'.Ns C.env.locals (λ z=>if z=x then some y else m z)) (hs:cq C.env.locals s.heap h') (hd:Den F ρ v y) (tk:Nat):Rel C F ρ (bK st x v) {s with heap:=h',toks:=tk}:=by
 have own:C.own C.env.locals:=.inl rfl
 have hk':∀ b o,b≠C.env.locals->s.heap.get? b=some o->h'.get? b=some o:=λ b o hb e=>(hs.2 b hb).trans e
 exact {
  gens:=R.gens
  os:=R.os
  drawn:=R.drawn
  kG:=λ b o e=>aI (λ o' p q=>(aC o' (hk' _ _ (by rintro rfl;rw [G.mS _ own] at e;exact aV e) p) q)) (R.kG b o e)
  kF:=λ b o e=>hk' _ _ (by rintro rfl;rw [R.c7 _ own] at e;exact aV e) (R.kF b o e)
  kK:=R.kK
  FG:=R.FG
  mt:=λ n o e=>ak (λ a ob h1 h2=>bQ λ h3 h4 h5 h6=>(ay a ob h1 (hk' _ _ (λ q=>h6 (.inl q)) h2) (dG h3 h4 h5 h6))) (R.mt n o e)
  dom:=R.dom
  inj:=R.inj
  ns:=⟨_,hn,λ z w e k=>by
   have e':az (n6 st.vars x v) z=some w:=e
   rw [fN] at e'
   by_cases hz:z=x
   ·rw [if_pos hz] at e';obtain rfl:=Vf e';exact aC y (if_pos hz) hd
   ·rw [if_neg hz] at e'
    refine aI (λ y' q1 q2=>?_) (hx z w e' k)
    exact aC y' ((if_neg hz).trans q1) q2⟩
  cells:=λ z c e=>by
   refine aI (λ u h1 h2=>?_) (R.cells z c e)
   refine aC u (h1.sameBut hs (G.j7 _ (mem_of_lookup e))) (λ w e'=>?_)
   have e2:az (n6 st.vars x v) z=some w:=e'
   rw [fN] at e2
   by_cases hz:z=x
   ·subst hz;rw [hc] at e;exact aV e
   ·rw [if_neg hz] at e2;exact h2 w e2
  c7:=R.c7}
theorem Rel.setCell {C:Cx}{F:Fz}{ρ:Ky}{st:St}{s:Vh}{h':Heap}{d:Nat}(G:C.Good0 d)(R:Rel C F ρ st s){x:Str}{v:V}{y:Vg}{c:Addr}(hk:C.env.kindOf x≠some .local)(hc:C.env.cells.lookup x=some c)
  (hn:h'.IsCell c (some y)) (hs:cq c s.heap h') (hd:Den F ρ v y) (tk:Nat):Rel C F ρ (bK st x v) {s with heap:=h',toks:=tk}:=by
 have own:C.own c:=.inr ⟨x,hc⟩
 have hk':∀ b o,b≠c->s.heap.get? b=some o->h'.get? b=some o:=λ b o hb e=>(hs.2 b hb).trans e
 have cl:c≠C.env.locals:=G.j7 _ (mem_of_lookup hc)
 exact {
  gens:=R.gens
  os:=R.os
  drawn:=R.drawn
  kG:=λ b o e=>aI (λ o' p q=>(aC o' (hk' _ _ (by rintro rfl;rw [G.mS _ own] at e;exact aV e) p) q)) (R.kG b o e)
  kF:=λ b o e=>hk' _ _ (by rintro rfl;rw [R.c7 _ own] at e;exact aV e) (R.kF b o e)
  kK:=R.kK
  FG:=R.FG
  mt:=λ n o e=>ak (λ a ob h1 h2=>bQ λ h3 h4 h5 h6=>(ay a ob h1 (hk' _ _ (λ q=>h6 (q▸own)) h2) (dG h3 h4 h5 h6))) (R.mt n o e)
  dom:=R.dom
  inj:=R.inj
  ns:=aI (λ m h1 h2=>⟨m,h1.sameBut hs (Ym cl),λ z w e k=>by
   have e':az (n6 st.vars x v) z=some w:=e
   rw [fN] at e'
   by_cases hz:z=x
   ·subst hz;exact absurd k hk
   ·rw [if_neg hz] at e';exact h2 z w e' k⟩) R.ns
  cells:=λ z c' e=>by
   by_cases hz:z=x
   ·subst hz
    rw [hc] at e;obtain rfl:=Vf e
    refine aC (some y) hn (λ w e'=>?_)
    have e2:az (n6 st.vars z v) z=some w:=e'
    rw [fN,if_pos rfl] at e2
    obtain rfl:=Vf e2;exact aC y rfl hd
   ·refine aI (λ u h1 h2=>?_) (R.cells z c' e)
    refine aC u (h1.sameBut hs (λ q=>hz (ib G.apart (mem_of_lookup e) (q▸mem_of_lookup hc)))) (λ w e'=>?_)
    have e2:az (n6 st.vars x v) z=some w:=e'
    rw [fN,if_neg hz] at e2
    exact h2 w e2
  c7:=R.c7}
noncomputable def d8 (names:List (Str×Vn))(x:Str):Bool:=az names x==some .local||az names x==some .cell
section
variable {C:Cx}{st:St}{X:XK}
theorem uQ {d:Nat}(G:C.Good0 d){F:Fz}{ρ:Ky}{s:Vh}(R:Rel C F ρ st s){x:Str}{v:V}{y:Vg}(h:d8 C.env.scope.names x=true)(hd:Den F ρ v y)
  {Q:Unit->Vh->Prop}{E:Vg->Vh->Prop} (hQ:∀ s',Rel C F ρ (bK st x v) s'->(∀ b,¬ C.own b->s'.heap.get? b=s.heap.get? b)->Q () s'):wpAny (model C.prog C.w) C.A (storeName C.env x y) Q E s:=by
 unfold d8 at h
 rw [bA] at h
 rcases YU.mp h with h | h
 ·have hk':C.env.kindOf x=some .local:=Wc h
  refine aI (λ m hm hx=>?_) R.ns
  refine wpAny_storeName_local hk' hm (λ h' hn hs=>hQ _ (R.En G hk' ?_ hm hx hn hs hd _) λ b hb=>hs.2 b λ e=>hb (e▸.inl rfl)) (by rw [G.fn];rfl)
  cases e:C.env.cells.lookup x with
  | none=>rfl
  | some c=>exact absurd hk' (G.fz _ _ e)
 ·have hk':C.env.kindOf x=some .cell:=Wc h
  refine qE (λ c hc=>?_) (G.bu x _ hk' (.inl rfl))
  refine aI (λ u hu _=>?_) (R.cells x c hc)
  exact wpAny_storeName_cell G.fn hk' hc hu λ h' hn hs=>hQ _ (R.setCell G (by rw [hk'];decide) hc hn hs hd s.toks) λ b hb=>hs.2 b λ e=>hb (e▸.inr ⟨x,hc⟩)
theorem rP {d:Nat}(G:C.Good0 d){F:Fz}{ρ:Ky}{s:Vh}(R:Rel C F ρ st s){x:Str}{v:V}{y:Vg}(h:d8 C.env.scope.names x=true)(hd:Den F ρ v y)
  {Q:Unit->Vh->Prop}{E:Vg->Vh->Prop} (hQ:∀ s',Rel C F ρ (bK st x v) s'->Q () s'):wpAny (model C.prog C.w) C.A (storeName C.env x y) Q E s:=
 uQ G R h hd λ s' R' _=>hQ s' R'
noncomputable def AS (C:Cx)(t:Vg->Sem Unit)(v:V)(st:St)(Q:St->Prop)(X:XK):Prop:=∀ F ρ s x,Rel C F ρ st s->Den F ρ v x->Go C F ρ s (t x) (jg C Q) (cC C X)
theorem AS.mono {t:Vg->Sem Unit}{v:V}{Q Q':St->Prop}(h:AS C t v st Q X)(hQ:∀ st,Q st->Q' st):AS C t v st Q' X:=λ F ρ s x R d=>
 (h F ρ s x R d).mono (λ _ _ _ _ _ _=>aI λ st a b=>⟨st,hQ _ a,b⟩) λ _ _ _ _ _ _ x=>x
theorem AS.name {d:Nat}(G:C.Good d){x:Str}{pos:Pos}{v:V}{Q:St->Prop}(hk:d8 C.env.scope.names x=true)(h:Q (bK st x v)):AS C (assign (.Name x pos) C.env) v st Q X:=λ F ρ s y R hd Q' E hQ hE=>
 wpAny_assign_Name (rP G.toGood0 R hk hd λ s' R'=>hQ F ρ _ s' (aZ.refl _) (bD.refl _) (jg.in (h) (R')))
theorem AS.bind {d:Nat}(G:C.Good d){x:Str}{v:V}{Q:St->Prop}(hk:d8 C.env.scope.names x=true)(h:Q (bK st x v)):AS C (λ y=>bindName C.env x y) v st Q X:=λ F ρ s y R hd Q' E hQ hE=>
 wpAny_bindName (rP G.toGood0 R hk hd λ s' R'=>hQ F ρ _ s' (aZ.refl _) (bD.refl _) (jg.in (h) (R')))
noncomputable def ASL (C:Cx)(ts:List (Vg->Sem Unit))(vs:List V)(st:St)(Q:St->Prop)(X:XK):Prop:=∀ F ρ s xs,Rel C F ρ st s->aF F ρ vs xs->Go C F ρ s (assignInOrder ts xs) (jg C Q) (cC C X)
theorem ASL.nil {Q:St->Prop}(h:Q st):ASL C [] [] st Q X:=λ F ρ s xs R hd Q' E hQ hE=>by
 cases hd;exact wpAny_assignInOrder_none (hQ F ρ _ _ (aZ.refl _) (bD.refl _) (jg.in (h) (R)))
theorem ASL.cons {t:Vg->Sem Unit}{ts:List (Vg->Sem Unit)}{v:V}{vs:List V}{Q:St->Prop}(h:AS C t v st (λ st1=>ASL C ts vs st1 Q X) X):ASL C (t::ts) (v::vs) st Q X:=λ F ρ s xs R hd Q' E hQ hE=>by
 apply hd.au;intro _ _ hv hl
 refine wpAny_assignInOrder_more (h F ρ s _ R hv _ E ?_ hE)
 rintro F1 bE _ s1 l1 k1 hp0;apply hp0.elim;rintro st1 h1 R1
 exact h1 F1 bE s1 _ R1 (hl.mono l1 k1) Q' E (λ F' ρ' e s' l k=>hQ F' ρ' e s' (l1.trans l) (k1.trans k)) λ F' ρ' e s' l k=>hE F' ρ' e s' (l1.trans l) (k1.trans k)
theorem ru (es:List Expr):bg es=true->(assignEach es C.env).findIdx? (·.1)=none/\(assignEach es C.env).length=es.length/\(assignEach es C.env).map (·.2)=es.map λ t=>assign t C.env:=by
 induction es with
 | nil=>exact λ _=>bY rfl rfl rfl
 | cons e es ih=>
  intro h
  have hs:=(gJ h).1
  refine fJ (λ h1 h2 h3=>?_) (ih (gJ h).2)
  rw [show assignEach (e::es) C.env=(false,assign e C.env)::assignEach es C.env by induction e using XG<;>first | rfl | exact lO hs]
  exact bY (by rw [List.findIdx?_cons,h1];rfl) (congrArg d6 h2) (congrArg (kn _) h3)
theorem AS.tuple {d:Nat}(G:C.Good d){es:List Expr}{k:Nat}{pos:Pos}{vs:List V}{Q:St->Prop}(hp:bg es=true)(hl:Vo es.length vs.length=true)(h:ASL C (es.map λ t=>assign t C.env) vs st Q X):
  AS C (assign (.Tuple es k pos) C.env) (.tup vs) st Q X:=λ F ρ s x R hd Q' E hQ hE=>by
 apply hd.jb;intro a xs hf hv
 refine fJ (λ h1 h2 h3=>?_) (ru (C:=C) es hp)
 refine wpAny_assign_Tuple G.handled (items:=xs.toArray) ⟨_,R.kF _ _ hf,rfl,_,rfl⟩ ?_ h1 λ h' he=>?_
 ·rw [h2,uq.mp hl,VM,hv.length]
 ·rw [h3]
  have hk:Keeps s.heap h':=λ b o e=>he b o (WE (V1 e)) e
  have R':=R.keeps hk s.toks
  exact h F ρ _ _ R' (by simpa using hv) Q' E hQ hE
theorem ry {F:Fz}{ρ:Ky}{s:Vh}(R:Rel C F ρ st s){n:Nat}{l l':List V}{a:Addr}{xs ys:List Vg}{ep:Nat}{f:Array Vg->Array Vg}(hn:J st.heap n=some (.lst l))(ha:ρ n=some a)(hg:s.heap.get? a=some (ao xs ep))
  (hf:f xs.toArray=ys.toArray) (hd:aF F ρ l' ys) (tk:Nat):Rel C F ρ {st with heap:=af st.heap n (.lst l')} {s with heap:=s.heap.update a (Wr f),toks:=tk}:=by
 have hnew:(s.heap.update a (Wr f)).get? a=some (Wr f (ao xs ep)):=V7 _ hg (by unfold ao Wr;rfl)
 have e:Wr f (ao xs ep)=ao ys (if ys.toArray.size==xs.toArray.size then ep else ep+1):=by
  unfold ao Wr
  simp only [hf]
 rw [e] at hnew
 exact R.upd hn ha (Wt ..) hnew (.lst hd) tk
end
end
section
noncomputable def nameOf {α:Type}(a:Str->Pos->α)(b:α):Expr->α
 | .Name id pos=>a id pos
 | _=>b
noncomputable def rQ (look:Str->Option Vn)(ts:List Expr):List Str:=
 ts.filterMap (nameOf (λ id pos=>if (look id==some .local&&pos.line==(ts.head?.map (·.pos.line)).getD 0)=true then some id else none) none)
noncomputable def gM:List Str->Bool
 | []=>true
 | x::r=>!(r.any (sB x))&&gM r
noncomputable def Ie:Expr->Bool
 | .Starred ..=>true
 | _=>false
noncomputable def MY {β:Type}(ts vs:List Expr)(bn:Bool)(ns:List Str)(no un yes:β):β:=
 if (!(ts.length==2||ts.length==3)||vs.length != ts.length||bn)=true then no
 else if vs.any Ie=true then no
 else if (ns.length != ts.length||ns.eraseDups.length != ns.length)=true then no
 else if vs.all (foldedForSure 8)=true then no
 else if vs.all (constantsAlone 8)=true then un
 else yes
noncomputable def J6 (targets:List Expr)(value:Expr):Option (List Expr×List Expr):=match targets,value with
 | [.Tuple ts _ _],.Tuple vs _ _ | [.List ts _],.Tuple vs _ _=>some (ts,vs)
 | _,_=>none
noncomputable def AY {β:Type}(look:Str->Option Vn)(bn:Bool)(no:β)(un yes:List Str->β)(targets:List Expr)(value:Expr):β:=match J6 targets value with
 | some (ts,vs)=>MY ts vs bn (rQ look ts) no (un (rQ look ts)) (yes (rQ look ts))
 | _=>no
noncomputable def j9 (names:List (Str×Vn)):List Expr->Expr->Option (Option (List Str)):=AY (az names) false (some none) (λ _=>none) (λ ns=>some (some ns))
theorem Ce {targets:List Expr}{value:Expr}{env:Env}:∃ un,swappedStores targets value env=AY (env.scope.names.lookup ·) (env.blockKind != .function) (pure none) un (λ ns=>pure (some ns)) targets value:=
 ⟨λ ns=>(do unsupported "assign.tuple-of-constant-expressions:order-of-the-stores";pure (some ns)),by kernel_rfl⟩
theorem kN {c:Prop}[Decidable c]{α:Type}{o p:Option α}{x y:Sem α}{r:α}(h1:o=some r->x=pure r)(h2:p=some r->y=pure r)(h:(if c then o else p)=some r):(if c then x else y)=pure r:=by
 by_cases q:c
 ·rw [if_pos q] at h ⊢;exact h1 h
 ·rw [if_neg q] at h ⊢;exact h2 h
theorem gF {α:Type}{r r':α}(h:some r'=some r):(pure r':Sem α)=pure r:=congrArg pure (Vf h)
theorem rz {env:Env}{targets:List Expr}{value:Expr}{r:Option (List Str)}(hf:env.scope.kind=.function)(h:j9 env.scope.names targets value=some r):swappedStores targets value env=pure r:=by
 refine qE (λ un e=>?_) (@Ce targets value env)
 have hb:(env.blockKind != .function)=false:=by unfold fb;rw [hf];rfl
 rw [e,hb]
 unfold j9 AY at h
 unfold AY
 rw [show az env.scope.names=(env.scope.names.lookup ·) from funext (bA _)] at h
 cases e:J6 targets value with
 | none=>rw [e] at h;exact gF h
 | some p=>rw [e] at h;exact kN gF (kN gF (kN gF (kN gF (kN aV gF)))) h
noncomputable def gO:Expr->Bool
 | .ListComp _ _ _ _=>true
 | .SetComp _ _ _ _=>true
 | .DictComp _ _ _ _ _=>true
 | _=>false
theorem Eo {value:Expr}{t:Option Expr}{line:Nat}{env:Env}(h:gO value=false):swapsWith value t line env=pure false:=by
 induction value using XG<;>first | rfl | exact HQ h
theorem rR {ts:List Expr}{value:Expr}{line:Nat}{env:Env}(h:gO value=false):swapsWithSole ts value line env=pure false:=match ts with
 | []=>rfl
 | [_]=>Eo h
 | _::_::_=>rfl
section
variable {C:Cx}{st:St}{X:XK}{kb:Nat}
theorem xG {F F1:Fz}{ρ bE:Ky}{E:Vg->Vh->Prop}{P:Fz->Ky->Vg->Vh->Prop}(hE:∀ F' ρ' e s',aZ F F'->fy kb ρ ρ'->P F' ρ' e s'->E e s')(l1:aZ F F1)(k1:bD ρ bE):
  ∀ F' ρ' e s',aZ F1 F'->bD bE ρ'->P F' ρ' e s'->E e s':=λ F' ρ' e s' l k=>hE F' ρ' e s' (l1.trans l) ((k1.trans k).b kb)
theorem ES.nil {Q:Fl->St->Prop}(h:Q .next st):ES C kb (execs [] C.env) st Q X:=λ F ρ s R Q' E hQ hE=>
 ZN (hQ F ρ _ _ (aZ.refl _) ((bD.refl _).b kb) (cy.in (h) (R) (.next)))
noncomputable def rS (p q:Prop):Fl->Prop
 | .next=>p
 | _=>q
theorem ES.cons {t:Stmt}{ts:List Stmt}{Q:Fl->St->Prop}(h:ES C kb (exec t C.env) st (λ f st1=>rS (ES C kb (execs ts C.env) st1 Q X) (Q f st1) f) X):ES C kb (execs (t::ts) C.env) st Q X:=λ F ρ s R Q' E hQ hE=>by
 refine wpAny_execs_cons (h F ρ s R _ E ?_ hE)
 rintro F1 bE f s1 l1 k1 hp0;apply hp0.elim;rintro fl st1 h1 R1 d1
 cases d1 with
 | next=>exact h1 F1 bE s1 R1 Q' E (λ F' ρ' e s' l k=>hQ F' ρ' e s' (l1.trans l) (k1.trans k)) λ F' ρ' e s' l k=>hE F' ρ' e s' (l1.trans l) (k1.trans k)
 | brk=>exact hQ F1 bE _ _ l1 k1 (cy.in (h1) (R1) (.brk))
 | cont=>exact hQ F1 bE _ _ l1 k1 (cy.in (h1) (R1) (.cont))
 | ret hd=>exact hQ F1 bE _ _ l1 k1 (cy.in (h1) (R1) (.ret hd))
theorem ES.ret {e:Expr}{pos:Pos}{Q:Fl->St->Prop}(h:EV C (eval e C.env) st (λ v st1=>Q (.ret v) st1) X):ES C kb (exec (.Return (some e) pos) C.env) st Q X:=λ F ρ s R Q' E hQ hE=>by
 refine wpAny_Return_some (h F ρ s R _ E ?_ (xG hE (aZ.refl _) (bD.refl _)))
 rintro F1 bE x s1 l1 k1 hp0;apply hp0.elim;rintro v st1 h1 R1 d1
 exact hQ F1 bE _ _ l1 (k1.b kb) (cy.in (h1) (R1) (.ret d1))
theorem ES.expr {d:Nat}(G:C.Good d){e:Expr}{pos:Pos}{Q:Fl->St->Prop}(hc:gO e=false)(h:EV C (eval e C.env) st (λ v st1=>Q .next st1) X):ES C kb (exec (.Expr e pos) C.env) st Q X:=λ F ρ s R Q' E hQ hE=>by
 refine wpAny_Expr_any (h F ρ s R _ E ?_ (xG hE (aZ.refl _) (bD.refl _))) ?_ (Eo hc)
 ·rintro F1 bE x s1 l1 k1 hp0;apply hp0.elim;rintro v st1 h1 R1 d1
  exact hQ F1 bE _ _ l1 (k1.b kb) (cy.in (h1) (R1) (.next))
 ·unfold interactive;rw [G.fn];rfl
theorem ES.iff {t:Expr}{b o:List Stmt}{pos:Pos}{Q:Fl->St->Prop}(h:EB C (isTrue t C.env (eval t C.env)) st (λ c st1=>br c (ES C kb (execs b C.env) st1 Q X) (ES C kb (execs o C.env) st1 Q X)) X):
  ES C kb (exec (.If t b o pos) C.env) st Q X:=λ F ρ s R Q' E hQ hE=>by
 refine wpAny_If (h F ρ s R _ E ?_ (xG hE (aZ.refl _) (bD.refl _)))
 rintro F1 bE c s1 l1 k1 hp0;apply hp0.elim;rintro st1 h1 R1
 induction c
 ·exact h1.2 rfl F1 bE s1 R1 Q' E (λ F' ρ' e s' l k=>hQ F' ρ' e s' (l1.trans l) ((k1.b kb).trans k)) λ F' ρ' e s' l k=>hE F' ρ' e s' (l1.trans l) ((k1.b kb).trans k)
 ·exact h1.1 rfl F1 bE s1 R1 Q' E (λ F' ρ' e s' l k=>hQ F' ρ' e s' (l1.trans l) ((k1.b kb).trans k)) λ F' ρ' e s' l k=>hE F' ρ' e s' (l1.trans l) ((k1.b kb).trans k)
theorem ES.assign {d:Nat}(G:C.Good d){t value:Expr}{pos:Pos}{Q:Fl->St->Prop}(hs:notStar t=true)(hc:gO value=false)(hw:j9 C.env.scope.names [t] value=some none)
  (h:EV C (eval value C.env) st (λ v st1=>AS C (VR t C.env) v st1 (λ st2=>Q .next st2) X) X):ES C kb (exec (.Assign [t] value pos) C.env) st Q X:=λ F ρ s R Q' E hQ hE=>by
 refine ZS (h F ρ s R _ E ?_ (xG hE (aZ.refl _) (bD.refl _))) (rR hc) (rz G.fn hw)
 rintro F1 bE x s1 l1 k1 hp0;apply hp0.elim;rintro v st1 h1 R1 d1
 have e0:(assignEach [t] C.env).map (·.2)=[VR t C.env]:=(ru [t] (fP hs)).2.2
 rw [e0]
 refine h1 F1 bE s1 x R1 d1 _ E ?_ (xG hE l1 k1)
 rintro F2 bZ _ s2 l2 k2 hp0;apply hp0.elim;rintro st2 h2 R2
 exact hQ F2 bZ _ _ (l1.trans l2) ((k1.trans k2).b kb) (cy.in (h2) (R2) (.next))
noncomputable def rT (env:Env)(ns:List Str):List (Vg->Sem Unit):=ns.reverse.map λ n=>bindName env n
theorem aF.reverse {F:Fz}{ρ:Ky}{l:List V}{xs:List Vg}(h:aF F ρ l xs):aF F ρ l.reverse xs.reverse:=by
 induction l generalizing xs with
 | nil=>cases h;exact .nil
 | cons v l ih=>
  apply h.au;intro _ _ hv hl
  rw [Zf,Zf]
  exact (ih hl).append (.cons hv .nil)
theorem ES.fC {d:Nat}(G:C.Good d){t value:Expr}{pos:Pos}{ns:List Str}{Q:Fl->St->Prop}(hc:gO value=false)(hw:j9 C.env.scope.names [t] value=some (some ns))
  (h:EV C (eval value C.env) st (λ v st1=>∃ vs,v=.tup vs/\Vo vs.length ns.length=true/\ASL C (rT C.env ns) vs.reverse st1 (λ st2=>Q .next st2) X) X):ES C kb (exec (.Assign [t] value pos) C.env) st Q X:=λ F ρ s R Q' E hQ hE=>by
 rw [exec_Assign_arm]
 refine Vc (Wb ?_)
 rw [rR hc]
 refine Vc (Vj ?_)
 rw [if_neg (by decide)]
 refine Vc (h F ρ s R _ E ?_ (xG hE (aZ.refl _) (bD.refl _)))
 rintro F1 bE x s1 l1 k1 hp0;apply hp0.elim;intro v st1;refine fq λ vs e_ hl h1=>?_;subst e_;intro R1 d1
 rw [rz G.fn hw]
 refine Vc (Vj ?_)
 apply d1.jb;intro a xs hf hv
 show wpAny _ _ (do rule "assign.swapped-stores";let items <-unpackItems (.ref a) ns.length none;assignInOrder (ns.reverse.map λ n=>bindName C.env n) items.reverse;pure .next) Q' E s1
 refine Vc (Yt (Vc ?_))
 have hn:ns.length=xs.toArray.size:=by rw [VM,<-hv.length];exact (uq.mp hl).symm
 rw [hn]
 refine wpAny_unpackItems_tuple G.handled ⟨_,R1.kF _ _ hf,rfl,_,rfl⟩ λ h' he=>?_
 have hk:Keeps s1.heap h':=λ b o e=>he b o (WE (V1 e)) e
 refine Vc (h1 F1 bE _ _ (R1.keeps hk s1.toks) (by simpa using hv.reverse) _ E ?_ (xG hE l1 k1))
 rintro F2 bZ _ s2 l2 k2 hp0;apply hp0.elim;rintro st2 h2 R2
 exact Vj (hQ F2 bZ _ _ (l1.trans l2) ((k1.trans k2).b kb) (cy.in (h2) (R2) (.next)))
noncomputable def MZ:X0->Int->Int->Option (Prop×V)
 | .Add,a,b=>some (True,.int (a+b))
 | .BitOr,a,b=>some (True,.int (YV a b))
 | .LShift,a,b=>some (0<=b/\b<=1000000/\a.natAbs<2^62,.int (a*2^b.toNat))
 | _,_,_=>none
noncomputable def KU (op:X0)(a b:V):Option (Prop×V):=match a with
 | .int a=>(match b with
  | .int b=>MZ op a b
  | _=>none)
 | _=>none
theorem KV {op:X0}{a b v:V}{p:Prop}{x y:Vg}{F:Fz}{ρ:Ky}{s:Vh}(h:KU op a b=some (p,v))(hp:p)(ha:Den F ρ a x)(hb:Den F ρ b y){Q E:Vg->Vh->Prop}
  (hQ:∀ z tk,Den F ρ v z->Q z {s with toks:=tk}):wpAny (model C.prog C.w) C.A (inplaceOp op x y) Q E s:=by
 induction a using V.casesOn with
 | int a=>induction b using V.casesOn with
  | int b=>
   have h:MZ op a b=some (p,v):=h
   apply ha.aM;intro t
   apply hb.aM;intro u
   induction op with
   | Add=>refine qV (λ e_ cg=>?_) h;subst e_ cg;exact PyProof.Rows.iadd_int (hQ _ _ (.int _ _))
   | LShift=>refine qV (λ e_ cg=>?_) h;subst e_ cg;exact PyProof.Rows.ilshift_int hp.1 (bits_add_le (Vx hp.2.2 (by decide)) hp.2.1) (hQ _ _ (.int _ _))
   | BitOr=>refine qV (λ e_ cg=>?_) h;subst e_ cg;exact PyProof.Rows.ior_int (hQ _ _ (.int _ _))
   | _=>exact aV h
  | _=>exact aV h
 | _=>exact aV h
theorem ES.aug_name {d:Nat}(G:C.Good d){x:Str}{p:Pos}{op:X0}{e:Expr}{pos:Pos}{o:V}{Q:Fl->St->Prop}(hk:d8 C.env.scope.names x=true)(ho:nameV C.env.scope.names C.K st.vars x=some o)
  (h:EV C (eval e C.env) st (λ b st2=>∃ pr v,KU op o b=some (pr,v)/\pr/\Q .next (bK st2 x v)) X):ES C kb (exec (.AugAssign (.Name x p) op e pos) C.env) st Q X:=λ F ρ s R Q' E hQ hE=>by
 refine wpAny_AugAssign_Name (lT G.toGood0 R ho λ y d0=>h F ρ s R _ E ?_ (xG hE (aZ.refl _) (bD.refl _)))
 rintro F1 bE b s1 l1 k1 hp0;apply hp0.elim;intro bv st1;refine ak λ pr v e1 hp hq=>?_;intro R1 d1
 refine KV e1 hp (d0.mono l1 k1) d1 λ z tk hz=>?_
 exact rP G.toGood0 (R1.toks tk) hk hz λ s' R'=>hQ F1 bE _ s' l1 (k1.b kb) (cy.in (hq) (R') (.next))
end
end
section
noncomputable def Ep:Obj:=⟨.none,none,.freed,#[]⟩
open Classical in
theorem xH (h:Heap)(p:Addr->Prop):∃ base:Heap,∀ b,base.get? b=if p b then none else h.get? b:=by
 refine ⟨⟨h.objs.mapIdx λ i o=>if p i then Ep else o,h.life⟩,λ b=>?_⟩
 unfold Heap.get?
 rw [Array.getElem?_mapIdx]
 cases h.objs[b]? with
 | none=>
  by_cases hp:p b
  ·rw [if_pos hp];rfl
  ·rw [if_neg hp];rfl
 | some o=>
  rw [ZO]
  by_cases hp:p b
  ·rw [if_pos hp,if_pos hp];rfl
  ·rw [if_neg hp,if_neg hp]
structure Cx.Top (C:Cx):Prop where
 frame:C.env.frame=some C.env.locals
 head:∃ outer,C.frs=C.env::outer
section
variable {C:Cx}{F:Fz}{ρ:Ky}{st:St}{s:Vh}{d:Nat}
noncomputable def hidden (C:Cx)(a:Addr)(T:Option Addr)(b:Addr):Prop:=b∈C.frs.filterMap (·.frame)\/b=a\/T=some b
structure Base (C:Cx)(a:Addr)(T:Option Addr)(h base:Heap):Prop where
 eq:∀ b,¬ hidden C a T b->base.get? b=h.get? b
 no:∀ b,hidden C a T b->base.get? b=none
theorem xJ (C:Cx)(a:Addr)(T:Option Addr)(h:Heap):∃ base,Base C a T h base:=by
 refine qE (λ base hb=>?_) (xH h (hidden C a T))
 exact ⟨base,λ b hn=>by rw [hb,if_neg hn],λ b hn=>by rw [hb,if_pos hn]⟩
theorem lV (G:C.Good d)(R:Rel C F ρ st s){b:Addr}(hb:b∈C.frs.filterMap (·.frame)):∃ o es n,s.heap.get? b=some o/\o.data=.dict es n/\(b=C.env.locals\/∃ o₀,C.G b=some o₀):=by
 refine aI (λ e he hf=>?_) (W0.mp hb)
 refine qA (λ _=>aI λ L hL h=>?_) (G.B9 e he)
 rw [hf] at hL;obtain rfl:=Vf hL
 rcases h with rfl | ⟨o,es,n,h1,h3⟩
 ·refine aI (λ m ef _=>?_) R.ns;refine aU (λ o es ep ho=>qA λ hd _=>?_) ef
  exact cu o es ep ho (⟨hd,.inl rfl⟩)
 ·refine aI (λ o' h4 h5=>?_) (R.kG _ _ h1)
  exact cu o' es n h4 (⟨by rw [h5.dat.1];exact h3,.inr ⟨o,h1⟩⟩)
theorem qU (G:C.Good d){a:Addr}(U:aP C F ρ a):a∉C.frs.filterMap (·.frame):=λ hb=>by
 refine aI (λ e he hf=>?_) (W0.mp hb)
 refine qA (λ _=>aI λ L hL h=>?_) (G.B9 e he)
 rw [hf] at hL;obtain rfl:=Vf hL
 rcases h with rfl | ⟨o,es,n,h1,_⟩
 ·exact U.2.2.2 (.inl rfl)
 ·rw [U.2.1] at h1;exact aV h1
theorem xK (G:C.Good d)(R:Rel C F ρ st s){a:Addr}{T:Option Addr}{base:Heap}(B:Base C a T s.heap base):s.heap.FunFrames base C.frs:=by
 have:∀ l:List Env,(∀ e∈l,e∈C.frs)->s.heap.FunFrames base l:=by
  intro l
  induction l with
  | nil=>intro _;exact trivial
  | cons e l ih=>
   intro hl
   have he:=hl e VC
   refine qA (λ hk=>aI λ L hL h=>?_) (G.B9 e he)
   have hm:L∈C.frs.filterMap (·.frame):=W0.mpr (aC e he hL)
   refine aU (λ o es n h1=>qA λ h2 _=>?_) (lV G R hm)
   exact ⟨hk,(ay L o hL (B.no _ (.inl hm)) (⟨h1,λ vs q=>by rw [h2] at q;cases q⟩)),ih λ e' h'=>hl e' (VH _ h')⟩
 exact this _ λ _ h=>h
end
namespace kO
noncomputable def aq (C:Cx)(s:Vh)(h':Heap)(a:Addr)(F:Fz)(ρ:Ky)(st:St)(d:Nat)(base:Heap):Prop:=∀ (G:C.Good d) (R:Rel C F ρ st s) {T:Option Addr} (U:aP C F ρ a) (UT:∀ t,T=some t->aP C F ρ t) (B:Base C a T s.heap base) (hs:base.StaysIn h') (hu:∀ b o,s.heap.get? b=some o->(∀ vs,o.data≠.fields vs)->∃ sl,h'.get? b=some {o with slots:=sl}) (tk:Nat),Rel C F ρ st {s with heap:=h',toks:=tk}
noncomputable def S0:=u9 aq
noncomputable def ε:=eu (by walk_at "ne") S0
theorem here:S0 ε:=by
 intro G R T U UT B hs hu tk
 have vis:∀ b o,ε.2.1.heap.get? b=some o->b≠ε.2.2.2.1->T≠some b->b∉ε.1.frs.filterMap (·.frame)->ε.2.2.1.get? b=some o:=λ b o e h1 h2 h3=>
  hs b o ((B.eq b λ q=>by rcases q with q | q | q<;>contradiction).trans e)
 have fr:∀ b,b∈ε.1.frs.filterMap (·.frame)->∃ o sl es n,ε.2.1.heap.get? b=some o/\o.data=.dict es n/\ε.2.2.1.get? b=some {o with slots:=sl}:=λ b hb=>by
  refine aU (λ o es n h1=>qA λ h2 _=>?_) (lV G R hb)
  obtain ⟨sl,h3⟩:=hu b o h1 λ vs q=>by rw [h2] at q;cases q
  exact d7 o sl es n (bY h1 h2 h3)
 have M0:∀ b,b∈ε.1.frs.filterMap (·.frame)->b=ε.1.env.locals\/∃ o₀,ε.1.G b=some o₀:=λ b hb=>aU (λ _ _ _ _=>qA λ _ h=>h) (lV G R hb)
 exact {
  gens:=R.gens
  os:=R.os
  drawn:=R.drawn
  kG:=λ b o e=>by
   refine aI (λ o' h1 h2=>?_) (R.kG b o e)
   by_cases hb:b∈ε.1.frs.filterMap (·.frame)
   ·refine bG (λ Mg sl es n=>fJ λ q1 q2 q3=>?_) (fr b hb)
    rw [h1] at q1;obtain rfl:=Vf q1
    exact aC _ q3 (h2.trans (.inr (bY hb rfl rfl)))
   ·exact aC o' (vis b o' h1 (by rintro rfl;rw [U.2.1] at e;exact aV e) (λ q=>by rw [(UT _ q).2.1] at e;exact aV e) hb) h2
  kF:=λ b o e=>by
   have nb:b∉ε.1.frs.filterMap (·.frame):=λ hb=>by
    rcases M0 b hb with rfl | ⟨o₀,q4⟩
    ·rw [R.c7 _ (.inl rfl)] at e;exact aV e
    ·rw [R.FG _ _ e] at q4;exact aV q4
   exact vis b o (R.kF b o e) (by rintro rfl;rw [U.1] at e;exact aV e) (λ q=>by rw [(UT _ q).1] at e;exact aV e) nb
  kK:=R.kK
  FG:=R.FG
  mt:=λ n o e=>by
   refine ak (λ b ob h1 h2=>bQ λ h3 h4 h5 h6=>?_) (R.mt n o e)
   refine ay b ob h1 (vis b ob h2 (by rintro rfl;exact U.2.2.1 n h1) (λ q=>(UT _ q).2.2.1 n h1) (λ hb=>?_)) (dG h3 h4 h5 h6)
   rcases M0 b hb with rfl | ⟨o₀,q4⟩
   ·exact h6 (.inl rfl)
   ·rw [h5] at q4;exact aV q4
  dom:=R.dom
  inj:=R.inj
  ns:=by
   refine aI (λ m hm h2=>?_) R.ns
   refine aC m ?_ h2
   refine aU (λ o es ep ho=>qA λ hd r=>?_) hm
   obtain ⟨sl,h3⟩:=hu _ o ho λ vs q=>by rw [hd] at q;cases q
   exact ⟨_,es,ep,h3,hd,r⟩
  cells:=λ x c e=>by
   refine aI (λ u ef h2=>?_) (R.cells x c e);refine aI (λ o ho hd=>?_) ef
   obtain ⟨sl,h3⟩:=hu _ o ho λ vs q=>by rw [hd] at q;cases q
   exact aC u ⟨_,h3,hd⟩ h2
  c7:=R.c7}
end kO
theorem Rel.noted {C:Cx}{F:Fz}{ρ:Ky}{st:St}{s:Vh}{d:Nat}{a:Addr}{base h':Heap}(G:C.Good d)(R:Rel C F ρ st s){T:Option Addr}(U:aP C F ρ a)(UT:∀ t,T=some t->aP C F ρ t)(B:Base C a T s.heap base)(hs:base.StaysIn h')(hu:∀ b o,s.heap.get? b=some o->(∀ vs,o.data≠.fields vs)->∃ sl,h'.get? b=some {o with slots:=sl})(tk:Nat):Rel C F ρ st {s with heap:=h',toks:=tk}:=sk (S:=kO.S0) kO.here (C,s,h',a,F,ρ,st,d,base) G R U UT B hs hu tk
end
section
section
variable {C:Cx}{F:Fz}{ρ:Ky}{st:St}{s:Vh}{d:Nat}
theorem Cf (G:C.Good d)(R:Rel C F ρ st s){a T':Addr}{T:Option Addr}{base h':Heap}{tk:Nat}(R':Rel C F ρ st {s with heap:=h',toks:=tk})(U:aP C F ρ a)(UT:∀ t,T=some t->aP C F ρ t)(B:Base C a T s.heap base)
  (hb:base.get? T'=none) (hne:T'≠a) {o:Obj}{vs:Array Vg} (ho:h'.get? T'=some o) (hd:o.data=.fields vs)
  (hu:∀ b o,s.heap.get? b=some o->(∀ vs,o.data≠.fields vs)->∃ sl,h'.get? b=some {o with slots:=sl}):aP C F ρ T':=by
 have hid:∀ o₁,s.heap.get? T'=some o₁->T'=a\/T=some T':=λ o₁ e=>by
  by_cases hh:hidden C a T T'
  ·rcases hh with q | q | q
   ·refine aU (λ o₂ es n h1=>qA λ h2 _=>?_) (lV G R q)
    obtain ⟨sl,h3⟩:=hu _ _ h1 λ vs q=>by rw [h2] at q;cases q
    rw [ho] at h3;obtain rfl:=Vf h3
    rw [h2] at hd;cases hd
   ·exact .inl q
   ·exact .inr q
  ·rw [B.eq _ hh,e] at hb;exact jB hb.symm
 have fin:∀ o₁,s.heap.get? T'=some o₁->aP C F ρ T':=λ o₁ e=>by
  rcases hid o₁ e with q | q
  ·exact absurd q hne
  ·exact UT _ q
 refine ⟨?_,?_,?_,?_⟩
 ·cases e:F T' with
  | none=>rfl
  | some o₁=>exact e▸(fin _ (R.kF _ _ e)).1
 ·cases e:C.G T' with
  | none=>rfl
  | some o₁=>refine aI (λ o' q _=>?_) (R.kG _ _ e);exact e▸(fin _ q).2.1
 ·intro n e
  refine qE (λ o₁ q=>?_) (R.vK e)
  exact (fin _ q).2.2.1 n e
 ·intro e
  rcases e with rfl | ⟨x,hx⟩
  ·refine aI (λ m ef _=>?_) R'.ns;refine aU (λ o₁ es ep h1=>qA λ h2 _=>?_) ef
   rw [show ({s with heap:=h',toks:=tk}:Vh).heap=h' from rfl,ho] at h1;obtain rfl:=Vf h1
   rw [h2] at hd;cases hd
  ·refine aI (λ u ef _=>?_) (R'.cells x _ hx);refine aI (λ o₁ h1 h2=>?_) ef
   rw [show ({s with heap:=h',toks:=tk}:Vh).heap=h' from rfl,ho] at h1;obtain rfl:=Vf h1
   rw [h2] at hd;cases hd
theorem xM (G:C.Good d)(Tp:C.Top)(R:Rel C F ρ st s){cls:String}{arg:List V}{a t:Addr}{x:List Vg}{oe:Obj}{vs:Array Vg}{T:Option Addr}{head:Vg}{hadNext:Bool}
  (he:s.heap.get? a=some oe) (hc:oe.cls=.type cls) (hd:oe.data=.fields vs) (h0:vs[0]?=some (.ref t)) (hsz:1<vs.size) (hF:F t=some (dN x)) (hx:aF F ρ arg x) (U:aP C F ρ a) (UT:∀ t,T=some t->aP C F ρ t)
  {Q:Unit->Vh->Prop}{E:Vg->Vh->Prop} (hQ:∀ s' T,Rel C F ρ st s'->J4 C F ρ cls arg (.ref a) s' (some (T,rawInt C.env.locals))->Q () s') :
  wpAny (model C.prog C.w) C.A (do let a₁ <-frameOf C.env;let pl <-entryPlaceOf C.env.locals hadNext;let b <-EntryCells.newEntry head a₁ .none (rawInt C.env.locals) .none pl;setField (.ref a) 1 b) Q E s:=by
 refine qE (λ outer ho=>?_) Tp.head
 refine qE (λ base B=>?_) (xJ C a T s.heap)
 have hkb:base.StaysIn s.heap:=λ b o e=>by
  by_cases hh:hidden C a T b
  ·rw [B.no _ hh] at e;exact aV e
  ·rw [<-B.eq _ hh];exact e
 refine wpAny_entryW (base:=base) (outer:=outer) (by rw [G.frames,ho]) (by rw [<-ho];exact xK G R B) Tp.frame he hkb (B.no _ (.inr (.inl rfl))) hd hsz h0 λ h' hN=>?_
 refine bQ (λ n1 n2 n3 n4=>?_) hN
 have R':Rel C F ρ st {s with heap:=h',toks:=s.toks}:=R.noted G U UT B n1 n4 s.toks
 refine bG (λ Sd vs' T' oT=>fZ λ ts g1 ef g4=>bB λ g5 g6 g7 g8=>qA λ g9 OL=>?_) n3;refine qA (λ g2 g3=>?_) ef
 have Se:=Cf G R R' U UT B g6 g7 g8 g9 n4
 exact hQ _ T' R' ⟨a,Sd,vs',t,x,rfl,g1,g2.trans hc,g4,g3,hF,hx,U,g5,Se,g7,oT,ts,g8,g9,OL⟩
end
namespace pU
noncomputable def aq (s:Vh)(C:Cx)(F:Fz)(ρ:Ky)(st:St)(d:Nat)(Q:Unit->Vh->Prop)(E:Vg->Vh->Prop):Prop:=∀ (G:C.Good d) (Tp:C.Top) (R:Rel C F ρ st s) {cls:String}{arg:List V}{e:Vg} (hX:Xd C F ρ cls arg e s) (hQ:∀ s' T fl,Rel C F ρ st s'->J4 C F ρ cls arg e s' (some (T,fl))->Q () s'),wpAny (model C.prog C.w) C.A (noteFrame e C.env) Q E s
noncomputable def S0:=u8 aq
noncomputable def ε:=eu (by walk_at "ne") S0
theorem here:S0 ε:=by
 intro G Tp R cls arg e hX hQ
 refine bG (λ tb a oe vs=>ak λ t x e_ he=>bB λ hc hd h0 hF=>fJ λ hx U h1=>?_) hX;subst e_
 unfold noteFrame
 simp only [Tp.frame]
 induction tb with
 | none=>
  have QT:vs[1]?=some .none:=h1
  refine Vc (WZ he hd QT ?_)
  rw [if_neg (by decide)]
  exact xM (T:=none) G Tp R he hc hd h0 (XM.mp QT).1 hF hx U (λ t q=>by exact jB q) λ s' T R' X'=>hQ s' T _ R' X'
 | some p=>
  obtain ⟨T,fl⟩:=p
  refine bQ (λ h1 UT hTa=>ak λ oT ts hT KW h3=>?_) h1
  refine Vc (WZ he hd h1 ?_)
  rw [if_pos (show (Wv T != WR)=true from by simp)]
  refine Vc (WZ hT KW h3 ?_)
  by_cases hfl:(fl==rawInt ε.2.1.env.locals)=true
  ·rw [if_pos hfl]
   exact Vj (hQ ε.1 T fl R ⟨a,oe,vs,t,x,rfl,he,hc,hd,h0,hF,hx,U,h1,UT,hTa,oT,ts,hT,KW,h3⟩)
  ·rw [if_neg hfl]
   refine Vc (Zg hT KW (XM.mp h3).1 ?_)
   have R1:=R.jf UT (Wt ε.1.heap T (Obj.mapFields (·.setIfInBounds 3 WR))) ε.1.toks
   have Sf:(ε.1.heap.update T (Obj.mapFields (·.setIfInBounds 3 WR))).get? a=some oe:=(V2 _ _ hTa).trans he
   exact xM (T:=some T) G Tp R1 Sf hc hd h0 (XM.mp h1).1 hF hx U (λ t q=>by obtain rfl:=Vf q;exact UT) λ s' T R' X'=>hQ s' T _ R' X'
end pU
theorem vQ {C:Cx}{F:Fz}{ρ:Ky}{st:St}{s:Vh}{d:Nat}{Q:Unit->Vh->Prop}{E:Vg->Vh->Prop}(G:C.Good d)(Tp:C.Top)(R:Rel C F ρ st s){cls:String}{arg:List V}{e:Vg}(hX:Xd C F ρ cls arg e s)(hQ:∀ s' T fl,Rel C F ρ st s'->J4 C F ρ cls arg e s' (some (T,fl))->Q () s'):wpAny (model C.prog C.w) C.A (noteFrame e C.env) Q E s:=sk (S:=pU.S0) pU.here (s,C,F,ρ,st,d,Q,E) G Tp R hX hQ
namespace kP
noncomputable def aq (s:Vh)(T:Addr)(C:Cx)(F:Fz)(ρ:Ky)(st:St)(Q:Unit->Vh->Prop)(E:Vg->Vh->Prop):Prop:=∀ (R:Rel C F ρ st s) {cls:String}{arg:List V}{e fl:Vg}{f:Option Addr} (hX:J4 C F ρ cls arg e s (some (T,fl))) (hQ:∀ s',Rel C F ρ st s'->J4 C F ρ cls arg e s' (some (T,f.elim .none λ f=>rawInt f))->Q () s'),wpAny (model C.prog C.w) C.A (setFlight e f) Q E s
noncomputable def S0:=u8 aq
noncomputable def ε:=eu (by walk_at "ne") S0
theorem here:S0 ε:=by
 intro R cls arg e fl f hX hQ
 refine bG (λ a oe vs t=>fZ λ x e_ he hc=>bB λ hd h0 hF hx=>bB λ U h1 UT hTa=>ak λ oT ts hT KW h3=>?_) hX;subst e_
 have hsz:=(XM.mp h3).1
 unfold setFlight
 refine Vc (WZ he hd h1 ?_)
 rw [if_pos (show (Wv ε.2.1 != WR)=true from by simp)]
 refine Zg hT KW hsz ?_
 have QU:=Y8 KW (·.setIfInBounds 3 (f.elim .none λ f=>rawInt f))
 refine hQ _ (R.jf UT (Wt ε.1.heap ε.2.1 _) ε.1.toks) ⟨a,oe,vs,t,x,rfl,(V2 _ _ hTa).trans he,hc,hd,h0,hF,hx,U,h1,UT,hTa,_,_,V7 _ hT (XT QU),QU,?_⟩
 simp [hsz]
end kP
theorem lX {C:Cx}{F:Fz}{ρ:Ky}{st:St}{s:Vh}{T:Addr}{Q:Unit->Vh->Prop}{E:Vg->Vh->Prop}(R:Rel C F ρ st s){cls:String}{arg:List V}{e fl:Vg}{f:Option Addr}(hX:J4 C F ρ cls arg e s (some (T,fl)))(hQ:∀ s',Rel C F ρ st s'->J4 C F ρ cls arg e s' (some (T,f.elim .none λ f=>rawInt f))->Q () s'):wpAny (model C.prog C.w) C.A (setFlight e f) Q E s:=sk (S:=kP.S0) kP.here (s,T,C,F,ρ,st,Q,E) R hX hQ
section
variable {C:Cx}{F:Fz}{ρ:Ky}{st:St}{s:Vh}{d:Nat}
theorem zx (G:C.Good d)(Tp:C.Top)(R:Rel C F ρ st s){cls:String}{arg:List V}{e:Vg}(hX:Xd C F ρ cls arg e s){Q:Unit->Vh->Prop}{E:Vg->Vh->Prop}
  (hQ:∀ s',Rel C F ρ st s'->Xd C F ρ cls arg e s'->Q () s'):wpAny (model C.prog C.w) C.A (leaving C.env e) Q E s:=by
 unfold leaving
 exact Vc (vQ G Tp R hX λ s' T fl R' X'=>lX R' X' λ s'' Pc Pd=>hQ s'' Pc ⟨_,Pd⟩)
theorem uR (G:C.Good d)(Tp:C.Top)(R:Rel C F ρ st s){cls:String}{arg:List V}{e:Vg}(hX:Xd C F ρ cls arg e s){E:Vg->Vh->Prop}
  (hQ:∀ s',Rel C F ρ st s'->Xd C F ρ cls arg e s'->E e s'):notedBy (model C.prog C.w) C.A C.env (cameBackBy (model C.prog C.w) C.A C.env E) e s:=by
 refine vQ G Tp R hX λ s' T fl R' X'=>?_
 show wpAny _ _ (do
  if (<-field e 1)==.none then unsupported "frame.own-activation:exception-without-traceback"
  setFlight e C.env.frame) _ _ _
 refine bG (λ a oe vs t=>fZ λ x e_ he hc=>bB λ hd h0 hF hx=>bB λ U h1 UT hTa=>ak λ oT ts hT KW h3=>?_) (id X');subst e_
 refine Vc (WZ he hd h1 ?_)
 rw [if_neg (show ¬ ((Wv T==WR)=true) from by simp)]
 refine lX R' X' λ s'' Pc Pd=>hQ s'' Pc ⟨_,Pd⟩
end
end
section
mutual
noncomputable def Mj (kb:Nat):V->Prop
 | .loc n=>n<kb
 | .tup l=>rU kb l
 | .lst l=>rU kb l
 | .bm _ u=>Mj kb u
 | .kwd _ u=>Mj kb u
 | _=>True
noncomputable def rU (kb:Nat):List V->Prop
 | []=>True
 | v::l=>Mj kb v/\rU kb l
end
theorem Ci {F F':Fz}{ρ ρ':Ky}{kb:Nat}(hF:aZ F F')(ig:fy kb ρ ρ'):(∀ {v:V}{x:Vg},Den F ρ v x->Mj kb v->Den F' ρ' v x)/\∀ {l:List V}{xs:List Vg},aF F ρ l xs->rU kb l->aF F' ρ' l xs:=
 lP (M1:=λ v x=>Mj kb v->Den F' ρ' v x) (M2:=λ l xs=>rU kb l->aF F' ρ' l xs) (λ _=>.none) (λ b _=>.bool b) (λ i t _=>.int i t) (λ i t _=>.str i t) (λ x _=>.con x) (λ h b=>.loc (ig _ _ b h)) (λ h _ ih b=>.tup (hF _ _ h) (ih b)) (λ h _ ih b=>.lst (hF _ _ h) (ih b)) (λ h _ ih b=>.bm (hF _ _ h) (ih b)) (λ h _=>.qQ (hF _ _ h)) (λ h _=>.ku (hF _ _ h)) (λ h hc hd _ ih b=>.kwd (hF _ _ h) hc hd (ih b)) (λ h hc _=>.lam (hF _ _ h) (hc.mono hF)) (λ _=>.nil) (λ _ _ h hl b=>.cons (h b.1) (hl b.2))
theorem aF.monoB {F F':Fz}{ρ ρ':Ky}{kb:Nat}(hF:aZ F F')(ig:fy kb ρ ρ'){l:List V}{xs:List Vg}(b:rU kb l)(h:aF F ρ l xs):aF F' ρ' l xs:=(Ci hF ig).2 h b
noncomputable def Cx.keep (C:Cx)(G₁:Fz):Cx:={C with G:=G₁}
noncomputable def Ext (C:Cx)(G₁:Fz):Prop:=aZ C.G G₁/\∀ a,C.own a->G₁ a=none
theorem Cx.Good.keep {C:Cx}{d:Nat}(G:C.Good d){G₁:Fz}(h:Ext C G₁):(C.keep G₁).Good d where
 handled:=G.handled
 units:=G.units
 depth:=G.depth
 fn:=G.fn
 glob:=G.glob
 blt:=G.blt
 apart:=G.apart
 j7:=G.j7
 frames:=G.frames
 B9:=λ e he=>qA (λ a=>aI λ L b c=>(⟨a,aC L b (c.imp id λ⟨o,es,n,q,r⟩=>cu o es n (h.1 _ _ q) r)⟩)) (G.B9 e he)
 lim:=G.lim
 mS:=h.2
 fz:=G.fz
 bu:=G.bu
theorem Cx.Top.keep {C:Cx}(T:C.Top)(G₁:Fz):(C.keep G₁).Top:=⟨T.frame,T.head⟩
theorem Rel.vR {C:Cx}{F:Fz}{ρ:Ky}{st:St}{s:Vh}{G₁:Fz}(h:aZ C.G G₁)(R:Rel (C.keep G₁) F ρ st s):Rel C F ρ st s:=by
 have no:∀ a,G₁ a=none->C.G a=none:=λ a e=>by
  cases q:C.G a with
  | none=>rfl
  | some o=>rw [h _ _ q] at e;exact jB e.symm
 exact {
  gens:=R.gens
  os:=R.os
  drawn:=R.drawn
  kG:=λ b o e=>R.kG b o (h _ _ e)
  kF:=R.kF
  kK:=R.kK
  FG:=λ b o e=>no _ (R.FG b o e)
  mt:=λ n o e=>ak (λ a ob h1 h2=>bQ λ h3 h4 h5 h6=>(ay a ob h1 h2 (dG h3 h4 (no _ h5) h6))) (R.mt n o e)
  dom:=R.dom
  inj:=R.inj
  ns:=R.ns
  cells:=R.cells
  c7:=R.c7}
namespace kQ
noncomputable def aq (C:Cx)(F:Fz)(ρ:Ky)(G₁:Fz)(s:Vh)(arg:List V)(e:Vg):Prop:=∀ {cls:String} (h:aZ C.G G₁) (X:Xd (C.keep G₁) F ρ cls arg e s),Xd C F ρ cls arg e s
noncomputable def S0:=u7 aq
noncomputable def ε:=eu (by walk_at "ne") S0
theorem here:S0 ε:=by
 intro cls h X
 have no:∀ a,aP (ε.1.keep ε.2.2.2.1) ε.2.1 ε.2.2.1 a->aP ε.1 ε.2.1 ε.2.2.1 a:=λ a U=>by
  refine ⟨U.1,?_,U.2.2.1,U.2.2.2⟩
  cases q:ε.1.G a with
  | none=>rfl
  | some o=>have:=U.2.1;rw [show (ε.1.keep ε.2.2.2.1).G a=some o from h _ _ q] at this;exact jB this.symm
 refine bG (λ tb a oe vs=>ak λ t x h1 h2=>bB λ h3 h4 h5 h6=>fJ λ h7 h8 h9=>?_) X
 refine ⟨tb,a,oe,vs,t,x,h1,h2,h3,h4,h5,h6,h7,no _ h8,?_⟩
 induction tb with
 | none=>exact h9
 | some p=>exact bY h9.1 (no _ h9.2.1) h9.2.2
end kQ
theorem Xd.vR {C:Cx}{F:Fz}{ρ:Ky}{s:Vh}{G₁:Fz}{arg:List V}{e:Vg}{cls:String}(h:aZ C.G G₁)(X:Xd (C.keep G₁) F ρ cls arg e s):Xd C F ρ cls arg e s:=sk (S:=kQ.S0) kQ.here (C,F,ρ,G₁,s,arg,e) h X
noncomputable def eE (q b:Prop)(r:V->Prop):Fl->Prop
 | .next=>q
 | .cont=>q
 | .brk=>b
 | .ret w=>r w
section
variable {C:Cx}{F:Fz}{ρ:Ky}{st:St}{s:Vh}{d:Nat}
theorem Rel.cV (R:Rel C F ρ st s){a:Addr}(h:s.heap.get? a=none):aP C F ρ a:=by
 refine ⟨?_,?_,?_,?_⟩
 ·cases e:F a with
  | none=>rfl
  | some o=>rw [R.kF _ _ e] at h;exact jB h.symm
 ·cases e:C.G a with
  | none=>rfl
  | some o=>refine aI (λ o' q _=>?_) (R.kG _ _ e);rw [q] at h;exact jB h.symm
 ·intro n e;refine qE (λ o q=>?_) (R.vK e);rw [q] at h;exact jB h.symm
 ·intro e;refine qE (λ o q=>?_) (R.jC e);rw [q] at h;exact jB h.symm
theorem Rel.zy {G₁:Fz}{a:Addr}{o:Obj}(R:Rel (C.keep G₁) F ρ st s)(ha:G₁ a=some o)(hG:C.G a=none)(hn:¬ C.own a):aP C F ρ a:=by
 refine ⟨?_,hG,?_,hn⟩
 ·cases e:F a with
  | none=>rfl
  | some o'=>have:=R.FG _ _ e;rw [show (C.keep G₁).G a=G₁ a from rfl,ha] at this;exact jB this.symm
 ·intro n e
  refine qS (λ ob hob=>?_) ((R.dom n _ e))
  refine ak (λ a' Pe h1 _=>bQ λ _ _ h5 _=>?_) (R.mt n ob hob)
  rw [e] at h1;obtain rfl:=Vf h1
  rw [show (C.keep G₁).G a=G₁ a from rfl,ha] at h5;exact jB h5.symm
end
namespace iA
noncomputable def aq (a:Addr)(o:Obj)(F:Fz)(C:Cx)(ρ:Ky)(st:St)(s:Vh):Prop:=∀ (R:Rel C F ρ st s) (U:aP C F ρ a) (ho:s.heap.get? a=some o),aZ F (je F a o)/\Rel C (je F a o) ρ st s
noncomputable def S0:=u7 aq
noncomputable def ε:=eu (by walk_at "ne") S0
theorem here:S0 ε:=by
 intro R U ho
 have hle:=rq (o:=ε.2.1) U.1
 refine ⟨hle,?_⟩
 have ne:∀ {b},b=ε.1->(b≠ε.1->False)->True:=λ _ _=>trivial
 exact {
  gens:=R.gens
  os:=R.os
  drawn:=R.drawn
  kG:=R.kG
  kF:=λ b o' e=>by
   unfold je at e
   by_cases hb:b=ε.1
   ·subst hb;rw [if_pos rfl] at e;obtain rfl:=Vf e;exact ho
   ·rw [if_neg hb] at e;exact R.kF b o' e
  kK:=λ b o9 e=>hle _ _ (R.kK b o9 e)
  FG:=λ b o' e=>by
   unfold je at e
   by_cases hb:b=ε.1
   ·rw [hb];exact U.2.1
   ·rw [if_neg hb] at e;exact R.FG b o' e
  mt:=λ n o' e=>by
   refine ak (λ b ob h1 h2=>bQ λ h3 h4 h5 h6=>?_) (R.mt n o' e)
   refine ay b ob h1 h2 (dG (h3.mono hle (bD.refl _)) ?_ h5 h6)
   show (if b=ε.1 then some ε.2.1 else ε.2.2.1 b)=none
   rw [if_neg (by rintro rfl;exact U.2.2.1 n h1)];exact h4
  dom:=R.dom
  inj:=R.inj
  ns:=aI (λ m h1 h2=>(aC m h1 (λ x v e k=>aI (λ y w b=>(aC y w (b.mono hle (bD.refl _)))) (h2 x v e k)))) R.ns
  cells:=λ x c e=>aI (λ u h1 h2=>(aC u h1 (λ v e=>aI (λ y w b=>(aC y w (b.mono hle (bD.refl _)))) (h2 v e)))) (R.cells x c e)
  c7:=λ b hb=>by
   show (if b=ε.1 then some ε.2.1 else ε.2.2.1 b)=none
   rw [if_neg (by rintro rfl;exact U.2.2.2 hb)];exact R.c7 b hb}
end iA
theorem Rel.adopt {C F ρ st s a o}:iA.aq a o F C ρ st s:=sk (S:=iA.S0) iA.here (a,o,F,C,ρ,st,s)
section
variable {C:Cx}{F:Fz}{ρ:Ky}{st:St}{s:Vh}{d:Nat}
noncomputable def cW (G:Fz)(fp:List Addr)(h:Heap):Fz:=λ b=>if b∈fp then h.get? b else G b
theorem kR {G:Fz}{fp:List Addr}{h:Heap}(hG:∀ b,b∈fp->G b=none):aZ G (cW G fp h):=λ b o e=>by
 unfold cW
 by_cases hb:b∈fp
 ·exact aV ((hG b hb).symm.trans e)
 ·rw [if_neg hb];exact e
theorem Rel.cW (R:Rel C F ρ st s){fp:List Addr}(U:∀ b,b∈fp->aP C F ρ b):Rel (C.keep (cW C.G fp s.heap)) F ρ st s:={
 gens:=R.gens
 os:=R.os
 drawn:=R.drawn
 kG:=λ b o e=>by
  have e:(if b∈fp then s.heap.get? b else C.G b)=some o:=e
  by_cases hb:b∈fp
  ·rw [if_pos hb] at e;exact aC o e (.inl rfl)
  ·rw [if_neg hb] at e;exact R.kG b o e
 kF:=R.kF
 kK:=R.kK
 FG:=λ b o e=>by
  show (if b∈fp then s.heap.get? b else C.G b)=none
  rw [if_neg λ hb=>aV ((U b hb).1.symm.trans e)];exact R.FG b o e
 mt:=λ n o e=>by
  refine ak (λ a ob h1 h2=>bQ λ h3 h4 h5 h6=>?_) (R.mt n o e)
  refine ay a ob h1 h2 (dG h3 h4 ?_ h6)
  show (if a∈fp then s.heap.get? a else C.G a)=none
  rw [if_neg λ hb=>(U a hb).2.2.1 n h1];exact h5
 dom:=R.dom
 inj:=R.inj
 ns:=R.ns
 cells:=R.cells
 c7:=R.c7}
theorem Rel.AZ (G:C.Good d){fp:List Addr}{h:Heap}(hG:∀ b,b∈fp->C.G b=none)(hn:∀ b,b∈fp->¬ C.own b)(hl:∀ b,b∈fp->∃ o,h.get? b=some o)(R:Rel (C.keep (Internal.cW C.G fp h)) F ρ st s):
  Rel C F ρ st s/\(∀ b,b∈fp->aP C F ρ b)/\∀ b,b∈fp->∀ o,h.get? b=some o->s.heap.get? b=some o:=by
 have at':∀ b,b∈fp->∀ o,h.get? b=some o->(C.keep (Internal.cW C.G fp h)).G b=some o:=λ b hb o e=>(if_pos hb).trans e
 have U:∀ b,b∈fp->aP C F ρ b:=λ b hb=>qE (λ o e=>R.zy (at' b hb o e) (hG b hb) (hn b hb)) (hl b hb)
 refine bY (R.vR (kR hG)) U (λ b hb o e=>?_)
 refine aI (λ o' q1 q2=>?_) (R.kG b o (at' b hb o e))
 rcases q2 with rfl | ⟨q3,_⟩
 ·exact q1
 ·exact absurd q3 (qU G (U b hb))
theorem dw (R:Rel C F ρ st s){src:V}{l:List V}{a:Addr}(hd:Den F ρ src (.ref a))(hl:aE st src=some l):∃ xs ep,s.heap.get? a=some (ao xs ep)/\aF F ρ l xs:=by
 refine aU (λ a' xs ep e=>qA λ h1 h2=>?_) (bH R hd hl)
 obtain rfl:=Xb e;exact nC xs ep h1 h2
end
noncomputable def aG:Expr->Bool
 | .Set _ _ _=>false
 | _=>true
theorem rV {e:Expr}{env:Env}(h:aG e=true)(x:Vg):foldedSetIterable e env x=pure x:=by induction e using XG<;>first | rfl | exact HQ h | exact lO h | cases h
end
section
noncomputable def DY (C:Cx)(kb:Nat)(test:Expr)(body:List Stmt)(Q:Fl->St->Prop)(X:XK):Nat->St->Prop
 | 0,_=>False
 | n+1,st=>EB C (isTrue test C.env (eval test C.env)) st (λ b st1=>br b (ES C kb (execs body C.env) st1 (λ f st2=>eE (DY C kb test body Q X n st2) (Q .next st2) (λ w=>Q (.ret w) st2) f) X) (Q .next st1)) X
theorem DY.more {C:Cx}{kb:Nat}{test:Expr}{body:List Stmt}{Q:Fl->St->Prop}{X:XK}{n:Nat}{st:St}(h:EB C (isTrue test C.env (eval test C.env)) st (λ b st1=>br b (ES C kb (execs body C.env) st1 (λ f st2=>eE (DY C kb test body Q X n st2) (Q .next st2) (λ w=>Q (.ret w) st2) f) X) (Q .next st1)) X):DY C kb test body Q X (n+1) st:=h
namespace nI
noncomputable def aq (C:Cx)(kb:Nat)(X:XK)(F:Fz)(ρ:Ky)(st:St)(test:Expr)(body:List Stmt)(Q:Fl->St->Prop)(E:Vg->Vh->Prop)(d:Nat)(pos:Pos)(s:Vh)(Q':Flow->Vh->Prop):Prop:=∀ (G:C.Good d) (Tp:C.Top) (n:Nat) (h:DY C kb test body Q X n st)  (R:Rel C F ρ st s) (hQ:∀ F' ρ' x s',aZ F F'->fy kb ρ ρ'->cy C Q F' ρ' x s'->Q' x s') (hE:∀ F' ρ' x s',aZ F F'->fy kb ρ ρ'->cC C X F' ρ' x s'->E x s'),wpAny (model C.prog C.w) C.A (exec (.While test body [] pos) C.env) Q' E s
noncomputable def S0:=HZ aq
noncomputable def ε:=eu (by walk_at "ne") S0
theorem here:S0 ε:=by
 intro G Tp n h R hQ hE
 refine wpAny_While (codeAny_whileLoop (λ m s'=>∃ F' ρ' st',aZ ε.2.2.2.1 F'/\fy ε.2.1 ε.2.2.2.2.1 ρ'/\Rel ε.1 F' ρ' st' s'/\DY ε.1 ε.2.1 ε.2.2.2.2.2.2.1 ε.2.2.2.2.2.2.2.1 ε.2.2.2.2.2.2.2.2.1 ε.2.2.1 m st') ?_ n (cu ε.2.2.2.1 ε.2.2.2.2.1 ε.2.2.2.2.2.1 (aZ.refl _) (bY ((bD.refl _).b _) R h)))
 intro m s';refine aU λ F' ρ' st' lF=>fJ λ lK R' hW=>?_
 have M3:∀ F2 bZ e s2,aZ F' F2->fy ε.2.1 ρ' bZ->cC ε.1 ε.2.2.1 F2 bZ e s2->notedBy (model ε.1.prog ε.1.w) ε.1.A ε.1.env (λ e s''=>cameBackBy (model ε.1.prog ε.1.w) ε.1.A ε.1.env ε.2.2.2.2.2.2.2.2.2.1 e s'') e s2:=by
  rintro F2 bZ e s2 l2 k2 hp0;apply hp0.elim;rintro cls arg st2 hx Rx Xx
  exact uR G Tp Rx Xx λ s3 R3 X3=>hE F2 bZ e s3 (lF.trans l2) (lK.trans k2) ⟨cls,arg,st2,hx,R3,X3⟩
 induction m using aw with
 | zero=>exact hW.elim
 | succ m=>
  refine hW F' ρ' s' R' _ _ ?_ λ F2 bZ e s2 l2 k2=>M3 F2 bZ e s2 l2 (k2.b _)
  rintro F2 bZ b s2 l2 k2 hp0;apply hp0.elim;rintro st1 hb R2
  induction b with
  | false=>
   rw [if_neg Vp]
   exact ZN (hQ F2 bZ _ _ (lF.trans l2) (lK.trans (k2.b _)) (cy.in (hb.2 rfl) (R2) (.next)))
  | true=>
   rw [if_pos rfl]
   refine hb.1 rfl F2 bZ s2 R2 _ _ ?_ λ F3 fO e s3 l3 k3=>M3 F3 fO e s3 (l2.trans l3) ((k2.b _).trans k3)
   rintro F3 fO f s3 l3 k3 hp0;apply hp0.elim;rintro fl st3 h3 R3 d3
   have rM:=lF.trans (l2.trans l3)
   have mT:=lK.trans ((k2.b ε.2.1).trans k3)
   cases d3 with
   | next=>exact aC m (Wf _) (cu F3 fO st3 rM (bY mT R3 h3))
   | cont=>exact aC m (Wf _) (cu F3 fO st3 rM (bY mT R3 h3))
   | brk=>exact hQ F3 fO _ _ rM mT (cy.in (h3) (R3) (.next))
   | ret hd=>exact hQ F3 fO _ _ rM mT (cy.in (h3) (R3) (.ret hd))
end nI
theorem ES.while {C:Cx}{st:St}{X:XK}{kb d:Nat}{test:Expr}{body:List Stmt}{pos:Pos}{Q:Fl->St->Prop}(G:C.Good d)(Tp:C.Top)(n:Nat)(h:DY C kb test body Q X n st):ES C kb (exec (.While test body [] pos) C.env) st Q X:=λ F ρ s R Q' E hQ hE=>sk (S:=nI.S0) nI.here (C,kb,X,F,ρ,st,test,body,Q,E,d,pos,s,Q') G Tp n h R hQ hE
end
section
theorem xN (h:List (Nat×MO))(n:Nat)(e:(J h n).isSome=true):n<=maxKey h:=
 cb λ q=>lO ((congrArg Option.isSome (uN h n q)).symm.trans e)
theorem fy.full {C:Cx}{F:Fz}{ρ ρ':Ky}{st:St}{s:Vh}(R:Rel C F ρ st s)(k:fy (fresh st.heap) ρ ρ'):bD ρ ρ':=λ n a e=>
 k n a (Wo (xN _ _ (R.dom n a e))) e
open Classical in
noncomputable def fL (F:Fz)(ρ:Ky)(h:Heap):Fz:=λ b=>if F b=none/\(∀ n,ρ n≠some b) then h.get? b else none
theorem rW {F:Fz}{ρ:Ky}{h:Heap}{b:Addr}{o:Obj}(h1:F b=none)(h2:∀ n,ρ n≠some b)(h3:h.get? b=some o):fL F ρ h b=some o:=by
 unfold fL;rw [if_pos ⟨h1,h2⟩];exact h3
theorem dU {F:Fz}{ρ:Ky}{h:Heap}{b:Addr}{o:Obj}(e:fL F ρ h b=some o):F b=none/\(∀ n,ρ n≠some b)/\h.get? b=some o:=by
 unfold fL at e
 by_cases q:F b=none/\(∀ n,ρ n≠some b)
 ·rw [if_pos q] at e;exact bY q.1 q.2 e
 ·rw [if_neg q] at e;exact aV e
section
variable {C:Cx}{F F2:Fz}{ρ bZ:Ky}{st:St}{s:Vh}
theorem Rel.nJ (R:Rel C F ρ st s){b:Addr}{o:Obj}(h:C.G b=some o):∃ o',fL F ρ s.heap b=some o'/\pN (C.fr b) o o':=by
 refine aI (λ o' h1 h2=>?_) (R.kG _ _ h)
 refine aC o' (rW ?_ ?_ h1) h2
 ·cases e:F b with
  | none=>rfl
  | some o1=>rw [R.FG _ _ e] at h;exact aV h
 ·intro n e
  refine qS (λ ob hob=>?_) ((R.dom n _ e))
  refine ak (λ a' Pe q1 _=>bQ λ _ _ q5 _=>?_) (R.mt n ob hob)
  rw [e] at q1;obtain rfl:=Vf q1
  rw [h] at q5;exact jB q5.symm
theorem Rel.eG (R:Rel C F ρ st s){b:Addr}(h:C.own b):∃ o,s.heap.get? b=some o/\fL F ρ s.heap b=some o:=by
 refine qE (λ o h1=>?_) (R.jC h)
 refine aC o h1 (rW (R.c7 _ h) ?_ h1)
 intro n e
 refine qS (λ ob hob=>?_) ((R.dom n _ e))
 refine ak (λ a' Pe q1 _=>bQ λ _ _ _ q6=>?_) (R.mt n ob hob)
 rw [e] at q1;obtain rfl:=Vf q1
 exact q6 h
end
namespace nK
noncomputable def aq (C:Cx)(s:Vh)(C':Cx)(F F2:Fz)(ρ:Ky)(s2:Vh)(bZ:Ky)(st st2:St):Prop:=∀ (R:Rel C F ρ st s) (R2:Rel C' F2 bZ st2 s2) (hF:aZ F F2) (ig:bD ρ bZ) (hG:C'.G=fL F ρ s.heap) (hK:C'.K=C.K) (hg:C'.gens=C.gens) (ho:C'.os=C.os) (hdr:C'.drawn=C.drawn) (hfr:∀ b o,s.heap.get? b=some o->C'.fr b->C.fr b),Rel C F2 bZ {vars:=st.vars,heap:=st2.heap} s2
noncomputable def S0:=KP aq
noncomputable def ε:=eu (by walk_at "ne") S0
theorem here:S0 ε:=by
 intro R R2 hF ig hG hK hg ho hdr hfr
 have up:∀ b o,ε.2.1.heap.get? b=some o->fL ε.2.2.2.1 ε.2.2.2.2.2.1 ε.2.1.heap b=some o->∃ o',ε.2.2.2.2.2.2.1.heap.get? b=some o'/\pN (ε.1.fr b) o o':=λ b o h1 h2=>by
  refine aI (λ o' q1 q2=>?_) (R2.kG b o (by rw [hG];exact h2))
  exact aC o' q1 (q2.imp (hfr b o h1))
 have Eg:∀ b,ε.2.2.1.G b=none->ε.1.G b=none:=λ b h=>by
  cases e:ε.1.G b with
  | none=>rfl
  | some o=>refine aI (λ o' q _=>?_) (R.nJ e);rw [hG,q] at h;exact jB h.symm
 have noOwn:∀ b,ε.2.2.1.G b=none->¬ ε.1.own b:=λ b h e=>by
  refine aI (λ o _ q=>?_) (R.eG e);rw [hG,q] at h;exact jB h.symm
 exact {
  gens:=R2.gens.trans hg
  os:=R2.os.trans ho
  drawn:=R2.drawn.trans hdr
  kG:=λ b o e=>by
   refine aI (λ o' q1 q2=>?_) (R.nJ e)
   refine aI (λ Mg q3 q4=>?_) (up b o' (dU q1).2.2 q1)
   exact aC Mg q3 (q2.trans q4)
  kF:=R2.kF
  kK:=λ b o e=>hF b o (R.kK b o e)
  FG:=λ b o e=>Eg b (R2.FG b o e)
  mt:=λ n o e=>by
   refine ak (λ a ob h1 h2=>bQ λ h3 h4 h5 h6=>?_) (R2.mt n o e)
   exact ay a ob h1 h2 (dG h3 h4 (Eg a h5) (noOwn a h5))
  dom:=R2.dom
  inj:=R2.inj
  ns:=by
   refine aI (λ m ef h2=>?_) R.ns;refine aU (λ o es ep q1=>qA λ q2 q3=>?_) ef
   refine aI (λ o1 q4 q5=>?_) (R.eG (.inl rfl:ε.1.own ε.1.env.locals))
   rw [q1] at q4;obtain rfl:=Vf q4
   refine aI (λ o' q6 q7=>?_) (up _ _ q1 q5)
   exact aC m ⟨o',es,ep,q6,q7.dat.1.trans q2,q3⟩ (λ x v e k=>aI (λ y a b=>(aC y a (b.mono hF ig))) (h2 x v e k))
  cells:=λ x c e=>by
   refine aI (λ u ef h2=>?_) (R.cells x c e);refine aI (λ o q1 q2=>?_) ef
   refine aI (λ o1 q4 q5=>?_) (R.eG (.inr ⟨x,e⟩:ε.1.own c))
   rw [q1] at q4;obtain rfl:=Vf q4
   refine aI (λ o' q6 q7=>?_) (up _ _ q1 q5)
   exact aC u ⟨o',q6,q7.dat.1.trans q2⟩ (λ v e=>aI (λ y a b=>(aC y a (b.mono hF ig))) (h2 v e))
  c7:=λ a h=>by
   cases e:ε.2.2.2.2.1 a with
   | none=>rfl
   | some o=>
    have:=R2.FG _ _ e
    refine aI (λ o' _ q=>?_) (R.eG h)
    rw [hG,q] at this;cases this}
end nK
theorem Rel.back {C:Cx}{F F2:Fz}{ρ bZ:Ky}{st:St}{s:Vh}{C':Cx}{st2:St}{s2:Vh}(R:Rel C F ρ st s)(R2:Rel C' F2 bZ st2 s2)(hF:aZ F F2)(ig:bD ρ bZ)(hG:C'.G=fL F ρ s.heap)(hK:C'.K=C.K)(hg:C'.gens=C.gens)(ho:C'.os=C.os)(hdr:C'.drawn=C.drawn)(hfr:∀ b o,s.heap.get? b=some o->C'.fr b->C.fr b):Rel C F2 bZ {vars:=st.vars,heap:=st2.heap} s2:=sk (S:=nK.S0) nK.here (C,s,C',F,F2,ρ,s2,bZ,st,st2) R R2 hF ig hG hK hg ho hdr hfr
section
variable {C:Cx}{F F2:Fz}{ρ bZ:Ky}{st:St}{s:Vh}
theorem Xd.back {C':Cx}{s2:Vh}{cls:String}{arg:List V}{e:Vg}(R:Rel C F ρ st s)(hG:C'.G=fL F ρ s.heap)(X:Xd C' F2 bZ cls arg e s2):Xd C F2 bZ cls arg e s2:=by
 have no:∀ a,aP C' F2 bZ a->aP C F2 bZ a:=λ a U=>by
  refine ⟨U.1,?_,U.2.2.1,?_⟩
  ·cases q:C.G a with
   | none=>rfl
   | some o=>refine aI (λ o' q _=>?_) (R.nJ q);have:=U.2.1;rw [hG,q] at this;exact jB this.symm
  ·intro h;refine aI (λ o _ q=>?_) (R.eG h);have:=U.2.1;rw [hG,q] at this;exact jB this.symm
 refine bG (λ tb a oe vs=>ak λ t x h1 h2=>bB λ h3 h4 h5 h6=>fJ λ h7 h8 h9=>?_) X
 refine ⟨tb,a,oe,vs,t,x,h1,h2,h3,h4,h5,h6,h7,no _ h8,?_⟩
 induction tb with
 | none=>exact h9
 | some p=>exact bY h9.1 (no _ h9.2.1) h9.2.2
noncomputable def pV (fd:WH):Bool:=!fd.scope.isCoroutine&&!fd.scope.isGenerator&&(fd.scope.kind==.function&&fd.globals==mainGlobals&&fd.builtins==builtinsNs)
theorem m6 {fd:WH}(h:pV fd=true):fd.scope.isCoroutine=false/\fd.scope.isGenerator=false/\fd.scope.kind=.function/\fd.globals=mainGlobals/\fd.builtins=builtinsNs:=
 qA (λ h1 h2=>qA (λ h3 h4=>qA (λ h5 h6=>qA (λ h7 h8=>(cO (X6 _ |>.mp h3) (X6 _ |>.mp h4) (Wc h7) (Wc h8) (Wc h6))) (VG.mp h5)) (VG.mp h2)) (VG.mp h1)) (VG.mp h)
theorem uS {α:Type}{n:Str}{r:List (Str×α)}(h:n∉r.map (·.1)):r.lookup n=none:=
 Yn.mpr λ p hp=>bne_iff_ne.mpr λ e=>h (WW.mpr (aC p hp e.symm))
theorem lookup_same {α:Type}{n:Str}{v:α}{r:List (Str×α)}:((n,v)::r).lookup n=some v:=by rw [bt,beq_self_eq_true]
theorem dW {α:Type}{x n:Str}{v:α}{r:List (Str×α)}(h:x≠n):((n,v)::r).lookup x=r.lookup x:=by rw [bt,beq_eq_false_iff_ne.mpr h]
theorem Cj {kindOf:Str->Option Vn}{x:Str}(hx:kindOf x=some .local)(binds:List (Str×Vg)):∀ (m:Str->Option Vg),(binds.map (·.1)).Nodup->bindL kindOf binds m x=(binds.lookup x).or (m x):=by
 induction binds with
 | nil=>exact λ _ _=>rfl
 | cons p r ih=>
  obtain ⟨n,v⟩:=p
  intro m hn
  have hn:=ZP.mp hn
  show bindL kindOf r _ x=_
  rw [ih _ hn.2]
  by_cases h:x=n
  ·subst h;rw [uS hn.1,lookup_same,if_pos hx,if_pos rfl];rfl
  ·rw [dW h]
   by_cases hk:kindOf n=some .local
   ·rw [if_pos hk,if_neg h]
   ·rw [if_neg hk]
theorem Ck {kindOf:Str->Option Vn}{x:Str}(hx:kindOf x≠some .local)(binds:List (Str×Vg)):∀ (m:Str->Option Vg),(binds.map (·.1)).Nodup->bindC kindOf binds m x=(binds.lookup x).or (m x):=by
 induction binds with
 | nil=>exact λ _ _=>rfl
 | cons p r ih=>
  obtain ⟨n,v⟩:=p
  intro m hn
  have hn:=ZP.mp hn
  show bindC kindOf r _ x=_
  rw [ih _ hn.2]
  by_cases h:x=n
  ·subst h;rw [uS hn.1,lookup_same,if_neg hx,if_pos rfl];rfl
  ·rw [dW h]
   by_cases hk:kindOf n=some .local
   ·rw [if_pos hk]
   ·rw [if_neg hk,if_neg h]
theorem uT {bv:List (Str×V)}{bs:List (Str×Vg)}(hn:bv.map (·.1)=bs.map (·.1))(hd:aF F ρ (bv.map (·.2)) (bs.map (·.2))){x:Str}{v:V}(h:az bv x=some v):∃ y,bs.lookup x=some y/\Den F ρ v y:=by
 rw [bA] at h
 induction bv generalizing bs with
 | nil=>exact aV h
 | cons p r ih=>
  induction bs using VY with
  | nil=>exact nomatch hn
  | cons q bs=>
   obtain ⟨n,u⟩:=p
   obtain ⟨m,y⟩:=q
   refine qA (λ e1 e2=>?_) (Wu hn)
   obtain rfl:n=m:=e1
   cases hd with
   | cons hu hr=>
    by_cases hx:x=n
    ·subst hx;rw [lookup_same] at h;obtain rfl:=Vf h;exact aC y lookup_same hu
    ·rw [dW hx] at h ⊢;exact ih e2 hr h
theorem Rel.into {d:Nat}(G:C.Good (d+1))(R:Rel C F ρ st s){fd:WH}{f:Addr}{bv:List (Str×V)}{bs:List (Str×Vg)}{s1:Vh}{env:Env}{A':Wk}(hfd:pV fd=true)
  (qW:env=newEnv fd.scope s.heap.objs.size fd.globals (cellsFrom (s.heap.objs.size+1) fd.scope.names []) (fd.qualname++".<locals>.") (some f) fd.code none fd.builtins)
  (hA:A'=(C.A.in1).deeper env\/A'=C.A.deeper env)
  (hin:InCallC s env.locals (bindL env.kindOf bs λ _=>none) env.cells (bindC env.kindOf bs λ _=>none) s1) (hnd:(bs.map (·.1)).Nodup) (hn:bv.map (·.1)=bs.map (·.1)) (hd:aF F ρ (bv.map (·.2)) (bs.map (·.2)))
  (vS:∀ x∈fd.scope.names,x.2=.cell->∃ c,(cellsFrom (s.heap.objs.size+1) fd.scope.names []).lookup x.1=some c) (Ig:∀ x∈fd.scope.names,x.2≠.free) (hck:∀ x c,(cellsFrom (s.heap.objs.size+1) fd.scope.names []).lookup x=some c->fd.scope.names.lookup x≠some .local) :
  let C':Cx:={C with A:=A',env:=env,G:=fL F ρ s.heap,frs:=env::C.frs,ext:=F}
  C'.Good d/\C'.Top/\Rel C' F ρ {vars:=bv,heap:=st.heap} s1:=by
 intro C'
 have Ih:=(m6 hfd).2.2
 have eL:env.locals=s.heap.objs.size:=by rw [qW];rfl
 have eC:env.cells=cellsFrom (s.heap.objs.size+1) fd.scope.names []:=by rw [qW];rfl
 have eS:env.scope=fd.scope:=by rw [qW];rfl
 have eF:env.frame=some env.locals:=by rw [qW];rfl
 have kp:=hin.toInCall.keep
 have lt:∀ b o,s.heap.get? b=some o->b<s.heap.objs.size:=λ b o e=>V1 e
 have M4:∀ a,C'.own a->s.heap.objs.size<=a:=λ a h=>by
  rcases h with rfl | ⟨x,hx⟩
  ·exact VK eL.symm
  ·have:=hin.above x a (mem_of_lookup hx)
   rw [eL] at this;exact Vv this
 have Er:∀ a,C'.own a->s.heap.get? a=none:=λ a h=>by
  cases e:s.heap.get? a with
  | none=>rfl
  | some o=>exact absurd (lt _ _ e) (ZZ.mpr (M4 _ h))
 have mS:∀ a,C'.own a->C'.G a=none:=λ a h=>by
  cases e:C'.G a with
  | none=>rfl
  | some o=>have:=(dU e).2.2;rw [Er _ h] at this;exact aV this
 refine bY ?_ ⟨eF,C.frs,rfl⟩ ?_
 ·exact {
   handled:=by rcases hA with e | e<;>(show A'.handled=none;rw [e];exact G.handled)
   units:=by
    have:=G.units
    rcases hA with e | e<;>(show A'.units+400+40*d<cLine;rw [e])<;>simp only [fo,kd]<;>lia
   depth:=by
    have:=G.depth
    rcases hA with e | e<;>(show A'.depth+120+4*d<recursionLimit;rw [e])<;>simp only [fo,kd]<;>lia
   fn:=by show env.scope.kind=.function;rw [eS];exact Ih.1
   glob:=by show env.globals=_;rw [qW];exact Ih.2.1
   blt:=by show env.builtins=_;rw [qW];exact Ih.2.2
   apart:=hin.apart
   j7:=λ x hx e=>by
    have:=hin.above x.1 x.2 hx
    have e':x.2=env.locals:=e
    rw [e'] at this;exact V8 _ this
   frames:=by
    have:=G.frames
    rcases hA with e | e<;>(show A'.frames=some (env::C.frs);rw [e])<;>simp only [fo,kd,this,ZO]
   B9:=λ e he=>by
    rcases Vm.mp he with rfl | he
    ·exact ⟨by rw [eS,Ih.1];decide,aC e.locals eF (.inl rfl)⟩
    ·refine qA (λ h1=>aI λ L h2 h3=>?_) (G.B9 e he)
     refine ⟨h1,aC L h2 (.inr ?_)⟩
     rcases h3 with rfl | ⟨o,es,n,h4,h5⟩
     ·refine aI (λ m ef _=>?_) R.ns;refine aU (λ o es ep q1=>qA λ q2 _=>?_) ef
      refine aI (λ o' q3 q4=>?_) (R.eG (.inl rfl:C.own C.env.locals))
      rw [q1] at q3;obtain rfl:=Vf q3
      exact cu o es ep q4 q2
     ·refine aI (λ o' q1 q2=>?_) (R.nJ h4)
      exact cu o' es n q1 (q2.dat.1.trans h5)
   lim:=G.lim
   mS:=mS
   fz:=λ x c e=>by
    show env.scope.names.lookup x≠some .local
    rw [eS];exact hck x c (by rw [<-eC];exact e)
   bu:=λ x k hk h=>by
    have hk':fd.scope.names.lookup x=some k:=by rw [<-eS];exact hk
    rcases h with rfl | rfl
    ·refine qE (λ c hc=>?_) (vS (x,.cell) (mem_of_lookup hk') rfl)
     exact ⟨c,by show env.cells.lookup x=some c;rw [eC];exact hc⟩
    ·exact absurd rfl (Ig (x,.free) (mem_of_lookup hk'))}
 ·refine D7 (λ h' tk e_=>?_) hin.toInCall.same;subst e_
  exact {
   gens:=R.gens
   os:=R.os
   drawn:=R.drawn
   kG:=λ b o e=>aC o (kp _ _ (dU e).2.2) (.inl rfl)
   kF:=λ b o e=>kp _ _ (R.kF b o e)
   kK:=λ b o h=>h.elim (λ h=>R.kK b o (.inl h)) id
   FG:=λ b o e=>by
    cases q:C'.G b with
    | none=>rfl
    | some o'=>rw [(dU q).1] at e;exact aV e
   mt:=λ n o e=>by
    refine ak (λ a ob h1 h2=>bQ λ h3 h4 h5 h6=>?_) (R.mt n o e)
    refine ay a ob h1 (kp _ _ h2) (dG h3 h4 ?_ (λ h=>by rw [Er _ h] at h2;exact jB h2))
    cases q:C'.G a with
    | none=>rfl
    | some o'=>exact absurd h1 ((dU q).2.1 n)
   dom:=R.dom
   inj:=R.inj
   ns:=⟨_,hin.toInCall.ns,λ x v e k=>by
    refine aI (λ y h1 h2=>?_) (uT hn hd e)
    refine aC y ?_ h2
    rw [Cj k bs _ hnd,h1];rfl⟩
   cells:=λ x c e=>⟨_,hin.cell x c e,λ v h=>by
    refine aI (λ y h1 h2=>?_) (uT hn hd h)
    refine aC y ?_ h2
    rw [Ck ?_ bs _ hnd,h1,Option.some_or]
    show env.scope.names.lookup x≠some .local
    rw [eS];exact hck x c (by rw [<-eC];exact e)⟩
   c7:=λ a h=>by
    cases e:F a with
    | none=>rfl
    | some o=>have:=R.kF _ _ e;rw [Er _ h] at this;cases this}
end
end
section
theorem uu (x:Str)(names:List (Str×Vn)):∀ (n:Nat) (acc:List (Str×Addr)),((x,Xs)∈names\/∃ c,acc.lookup x=some c)->∃ c,(cellsFrom n names acc).lookup x=some c:=by
 induction names with
 | nil=>exact λ n acc h=>h.elim (λ h=>nomatch h) id
 | cons p r ih=>
  obtain ⟨y,k⟩:=p
  intro n acc h
  show ∃ c,(if (k==.cell)=true then cellsFrom (n+1) r ((y,n)::acc) else cellsFrom n r acc).lookup x=some c
  by_cases hk:(k==.cell)=true
  ·rw [if_pos hk]
   by_cases hx:x=y
   ·subst hx;exact ih _ _ (.inr ⟨n,lookup_same⟩)
   ·exact ih _ _ (h.imp (λ h=>(Vm.mp h).resolve_left λ e=>hx (Wd e).1) λ⟨c,h⟩=>⟨c,(dW hx).trans h⟩)
  ·rw [if_neg hk]
   exact ih _ _ (h.imp_left λ h=>(Vm.mp h).resolve_left λ e=>hk (beq_iff_eq.mpr (Wd e).2.symm))
theorem rX (x:Str)(c:Addr)(names:List (Str×Vn)):∀ (n:Nat) (acc:List (Str×Addr)),(cellsFrom n names acc).lookup x=some c->(x,Xs)∈names\/acc.lookup x=some c:=by
 induction names with
 | nil=>exact λ n acc h=>.inr h
 | cons p r ih=>
  obtain ⟨y,k⟩:=p
  intro n acc h
  have h:(if (k==.cell)=true then cellsFrom (n+1) r ((y,n)::acc) else cellsFrom n r acc).lookup x=some c:=h
  by_cases hk:(k==.cell)=true
  ·rw [if_pos hk] at h
   rcases ih _ _ h with q | q
   ·exact .inl (VH _ q)
   ·by_cases hx:x=y
    ·subst hx;rw [Wc hk];exact .inl VC
    ·exact .inr ((dW hx).symm.trans q)
  ·rw [if_neg hk] at h
   exact (ih _ _ h).imp_left (VH _)
theorem kT {l:List Str}:gM l=true->l.Nodup:=by
 induction l with
 | nil=>exact λ _=>eb
 | cons x r ih=>
  intro h
  have h:=VG.mp h
  exact ZP.mpr ⟨λ hm=>HQ ((List.any_eq_true.mpr (aC x hm (dH.mpr rfl))).symm.trans (X6 _ |>.mp h.1)),ih h.2⟩
theorem aS {α:Type}{l:List (Str×α)}{x:Str}{v:α}:(l.map (·.1)).Nodup->(x,v)∈l->l.lookup x=some v:=by
 induction l with
 | nil=>exact λ _ h=>nomatch h
 | cons p r ih=>
  obtain ⟨y,w⟩:=p
  intro hn hm
  have hn:=ZP.mp hn
  rcases Vm.mp hm with e | hm
  ·rw [(Wd e).1,(Wd e).2];exact lookup_same
  ·exact (dW λ e=>hn.1 (WW.mpr (aC (x,v) hm e))).trans (ih hn.2 hm)
noncomputable def zA (l:List (Str×Vn)):Bool:=l.all (·.2 != .free)
theorem Cm {l:List (Str×Vn)}(h:zA l=true):∀ x∈l,x.2≠.free:=λ x hx=>bne_iff_ne.mp (Wg.mp h x hx)
structure FnAt (K:Frag)(f:Addr)(fd:WH)(body:List Stmt):Prop where
 here:∃ o,K.lookup f=some o/\o.data=.func fd
 body:fd.body=.stmts body
 ok:pV fd=true
 Sg:fd.closure=[]
 names:gM (fd.scope.names.map (·.1))=true
 free:zA fd.scope.names=true
 code:∀ h,K.In h->h.CodeRec fd.code fd.qualname
noncomputable def qo (C:Cx)(fd:WH)(args:List V)(ks:List Str)(kvs:List V)(st:St)(Q:List (Str×V)->St->Prop):Prop:=
 ∀ A' F ρ s xs ys,Rel C F ρ st s->aF F ρ args xs->aF F ρ kvs ys->∀ (Q':List (Str×Vg)->Vh->Prop) (E:Vg->Vh->Prop),
  (∀ F' ρ' bv bs st' s',aZ F F'->bD ρ ρ'->Q bv st'->Rel C F' ρ' st' s'->bv.map (·.1)=bs.map (·.1)->aF F' ρ' (bv.map (·.2)) (bs.map (·.2))->Q' bs s')->wpAny (model C.prog C.w) A' (bindArgs fd ⟨xs,ks.zip ys⟩) Q' E s
noncomputable def xO (C:Cx)(cell:Addr)(v:V):Prop:=∃ o u ρ,C.G cell=some o/\o.data=.cell (some u)/\Den C.ext ρ v u
noncomputable def CU (C:Cx)(f:Addr)(args:List V)(ks:List Str)(kvs:List V)(st:St)(Q:QV)(X:XK):Prop:=∀ F ρ s xs ys,Rel C F ρ st s->aF F ρ args xs->aF F ρ kvs ys->∀ (Q':Vg->Vh->Prop) (E:Vg->Vh->Prop),
 (∀ F' ρ' x s',aZ F F'->bD ρ ρ'->Post C Q F' ρ' x s'->Q' x s')->(∀ F' ρ' x s',aZ F F'->bD ρ ρ'->cC C X F' ρ' x s'->E x s')->
 codeAny (model C.prog C.w) C.A (.call (.ref f) ⟨xs,ks.zip ys⟩) (λ r s'=>match r with | .ok (.ret v)=>Q' v s' | .ok _=>False | .error e=>E e s') s
theorem CU.cj {C:Cx}{f:Addr}{args kvs:List V}{ks:List Str}{st:St}{Q:QV}{X:XK}(h:CU C f args ks kvs st Q X):CJ C (.con (.ref f)) args ks kvs st Q X:=λ F ρ s x xs ys R hx ha hk Q' E hQ hE=>by
 cases hx;exact Y6 (h F ρ s xs ys R ha hk Q' E hQ hE)
theorem CU.bound {C:Cx}{f:Addr}{u:V}{args kvs:List V}{ks:List Str}{st:St}{Q:QV}{X:XK}(h:CU C f (u::args) ks kvs st Q X):CJ C (.bm (.ref f) u) args ks kvs st Q X:=λ F ρ s x xs ys R hx ha hk Q' E hQ hE=>by
 cases hx with
 | bm hf hu=>exact Y6 (method_call (R.kF _ _ hf) (h F ρ s _ ys R (.cons hu ha) hk Q' E hQ hE))
noncomputable def vU (q:V->Prop):Fl->Prop
 | .ret v=>q v
 | _=>q .none
namespace pW
noncomputable def aq (C:Cx)(fd:WH)(f:Addr)(st:St)(X:XK)(d:Nat)(body:List Stmt)(args kvs:List V)(ks:List Str)(Q:QV):Prop:=∀ (G:C.Good (d+1)) (FA:FnAt C.K f fd body) (h:qo C fd args ks kvs st (λ bv st1=>gM (bv.map (·.1))=true/\(∀ x∈bv,fd.scope.names.lookup x.1=some .local\/fd.scope.names.lookup x.1=some .cell)/\
   ∀ C':Cx,C'.Good d->C'.Top->C'.K=C.K->C'.prog=C.prog->C'.w=C.w->C'.env.scope=fd.scope->C'.env.code=fd.code->(∀ x c v,C.env.cells.lookup x=some c->az st1.vars x=some v->xO C' c v)->
    ES C' (fresh st1.heap) (execs body C'.env) {vars:=bv,heap:=st1.heap} (λ fl st2=>vU (λ v=>Q v {vars:=st1.vars,heap:=st2.heap}) fl) (λ c a st2=>X c a {vars:=st1.vars,heap:=st2.heap}))),CU C f args ks kvs st Q X
noncomputable def S0:=Mf aq
noncomputable def ε:=eu (by walk_at "ne") S0
theorem here:S0 ε:=by
 intro G FA h
 intro F ρ s xs ys R ha hk Q' E hQ hE
 refine aI (λ o hl hd=>?_) FA.here
 have hfd:=m6 FA.ok
 have hroom:ε.1.A.depth<recursionLimit:=by have:=G.depth;lia
 refine codeAny_call_function hroom (qT R _ _ hl) hd hfd.1 hfd.2.1 FA.body (FA.code _ (qT R)) (h _ F ρ s xs ys R ha hk _ _ ?_)
 intro F1 bE bv bs st1 s1 l1 k1;refine fJ λ hap hkind Sh=>?_;intro R1 hn dO
 rw [FA.Sg]
 have vS:∀ x∈ε.2.1.scope.names,x.2=.cell->∃ c,(cellsFrom (s1.heap.objs.size+1) ε.2.1.scope.names []).lookup x.1=some c:=λ x hx e=>
  uu _ _ _ _ (.inl (by obtain ⟨a,b⟩:=x;cases e;exact hx))
 refine wpAny_newFunctionEnv_cells hfd.2.2.1 ?_ λ env qW s2 hin=>⟨(G.lim _ (qT R1)).keeps hin.toInCall.keep,codeAny_func ?_⟩
 ·intro x hx
  have:x.1∈bv.map (·.1):=by rw [hn];exact WW.mpr (aC x hx rfl)
  refine qL (λ p hp e=>?_) this
  rcases hkind p hp with q | q
  ·exact .inl (by rw [<-e];exact q)
  ·refine .inr ⟨by rw [<-e];exact q,?_⟩
   refine qE (λ c hc=>?_) (vS (p.1,.cell) (mem_of_lookup q) rfl)
   rw [<-e]
   exact Option.isSome_iff_exists.mpr ⟨c,hc⟩
 ·refine fJ (λ G' T' R'=>?_) (R1.into G (fd:=ε.2.1) (f:=ε.2.2.1) (bv:=bv) (bs:=bs) (s1:=s2) (env:=env) (A':=ε.1.A.deeper env) FA.ok qW (.inr rfl) hin (by rw [<-hn];exact kT hap) hn dO vS (Cm FA.free)
   (λ x c e=>by
    rcases rX _ _ _ _ _ e with q | q
    ·rw [aS (kT FA.names) q];decide
    ·exact jB q))
  have Pf:=Sh _ G' T' rfl rfl rfl (by rw [qW];rfl) (by rw [qW];rfl) λ x c v hc hv=>by
   refine aI (λ u=>aI λ oc q1 q2 q3=>?_) (R1.cells x c hc)
   refine aI (λ y e_ hy=>?_) (q3 v hv);subst e_
   refine aI (λ o2 q4 q5=>?_) (R1.eG (.inr ⟨x,hc⟩:ε.1.own c))
   rw [q1] at q4;obtain rfl:=Vf q4
   exact ⟨oc,y,bE,q5,q2,hy⟩
  refine Pf F1 bE s2 R' _ _ ?_ ?_
  ·rintro F2 bZ fl s3 l2 k2 hp0;apply hp0.elim;rintro f' st2 hq R2 d2
   have kf:=fy.full R1 k2
   have Rb:=R1.back (C':={ε.1 with A:=ε.1.A.deeper env,env:=env,G:=fL F1 bE s1.heap,frs:=env::ε.1.frs,ext:=F1}) R2 l2 kf rfl rfl rfl rfl rfl (λ b o e hb=>by
    have hb':b∈(env::ε.1.frs).filterMap (·.frame):=hb
    rw [ZR] at hb'
    rw [show env.frame=some env.locals from T'.frame] at hb'
    rcases Vm.mp hb' with q | q
    ·subst q
     have:=V1 e
     have e2:env.locals=s1.heap.objs.size:=by rw [qW];rfl
     rw [e2] at this;exact absurd this (V8 _)
    ·exact q)
   cases d2 with
   | ret hv=>exact hQ F2 bZ _ _ (l1.trans l2) (k1.trans kf) (Post.in (hq) (Rb) (hv))
   | next=>exact hQ F2 bZ _ _ (l1.trans l2) (k1.trans kf) (Post.in (hq) (Rb) (.none))
   | brk=>exact hQ F2 bZ _ _ (l1.trans l2) (k1.trans kf) (Post.in (hq) (Rb) (.none))
   | cont=>exact hQ F2 bZ _ _ (l1.trans l2) (k1.trans kf) (Post.in (hq) (Rb) (.none))
  ·rintro F2 bZ e s3 l2 k2 hp0;apply hp0.elim;rintro cls arg st2 hx R2 X2
   have kf:=fy.full R1 k2
   refine zx G' T' R2 X2 λ s4 R4 X4=>?_
   have Rb:=R1.back (C':={ε.1 with A:=ε.1.A.deeper env,env:=env,G:=fL F1 bE s1.heap,frs:=env::ε.1.frs,ext:=F1}) R4 l2 kf rfl rfl rfl rfl rfl (λ b o e hb=>by
    have hb':b∈(env::ε.1.frs).filterMap (·.frame):=hb
    rw [ZR] at hb'
    rw [show env.frame=some env.locals from T'.frame] at hb'
    rcases Vm.mp hb' with q | q
    ·subst q
     have:=V1 e
     have e2:env.locals=s1.heap.objs.size:=by rw [qW];rfl
     rw [e2] at this;exact absurd this (V8 _)
    ·exact q)
   exact hE F2 bZ _ _ (l1.trans l2) (k1.trans kf) ⟨cls,arg,_,hx,Rb,X4.back R1 rfl⟩
end pW
theorem CU.user {C:Cx}{st:St}{X:XK}{d:Nat}{f:Addr}{fd:WH}{body:List Stmt}{args kvs:List V}{ks:List Str}{Q:QV}(G:C.Good (d+1))(FA:FnAt C.K f fd body)(h:qo C fd args ks kvs st (λ bv st1=>gM (bv.map (·.1))=true/\(∀ x∈bv,fd.scope.names.lookup x.1=some .local\/fd.scope.names.lookup x.1=some .cell)/\
   ∀ C':Cx,C'.Good d->C'.Top->C'.K=C.K->C'.prog=C.prog->C'.w=C.w->C'.env.scope=fd.scope->C'.env.code=fd.code->(∀ x c v,C.env.cells.lookup x=some c->az st1.vars x=some v->xO C' c v)->
    ES C' (fresh st1.heap) (execs body C'.env) {vars:=bv,heap:=st1.heap} (λ fl st2=>vU (λ v=>Q v {vars:=st1.vars,heap:=st2.heap}) fl) (λ c a st2=>X c a {vars:=st1.vars,heap:=st2.heap}))):CU C f args ks kvs st Q X:=sk (S:=pW.S0) pW.here (C,fd,f,st,X,d,body,args,kvs,ks,Q) G FA h
section
variable {C:Cx}{st:St}{X:XK}{d:Nat}
theorem qo.Si {fd:WH}{args kvs kj:List V}{ks ns:List Str}{cs:List Vg}{Q:List (Str×V)->St->Prop}(hc:∀ F ρ,aF F ρ kj cs)(hlen:Vo ns.length (args.length+kvs.length+kj.length)=true)
  (hb:∀ xs ys:List Vg,xs.length=args.length->ys.length=kvs.length->peek C.K ⟨C.prog,C.w.params⟩ (bindArgs fd ⟨xs,ks.zip ys⟩)=some (ns.zip (xs++ys++cs)))
  (h:Q (ns.zip (args++kvs++kj)) st):qo C fd args ks kvs st Q:=λ A' F ρ s xs ys R ha hk Q' E hQ=>by
 have L:Looks (model C.prog C.w) s.heap (bindArgs fd ⟨xs,ks.zip ys⟩) (ns.zip (xs++ys++cs)):=Looks.of_peek (qT R) (hb xs ys ha.length.symm hk.length.symm)
 have dd:=(ha.append hk).append (hc F ρ)
 have hl:ns.length=(args++kvs++kj).length:=by rw [Vk,Vk];exact uq.mp hlen
 have hl2:ns.length=(xs++ys++cs).length:=by rw [hl,dd.length]
 refine L.here (hQ F ρ _ _ st s (aZ.refl _) (bD.refl _) h R ?_ ?_)
 ·rw [Zw (VK hl),Zw (VK hl2)]
 ·rw [Zx (VK hl.symm),Zx (VK hl2.symm)]
  exact dd
end
end
section
section
variable {C:Cx}{st:St}{X:XK}{kb d:Nat}
noncomputable def Cx.at (C:Cx)(A:Wk):Cx:={C with A:=A}
theorem Rel.at {F:Fz}{ρ:Ky}{s:Vh}(R:Rel C F ρ st s)(A:Wk):Rel (C.at A) F ρ st s:=⟨R.gens,R.os,R.drawn,R.kG,R.kF,R.kK,R.FG,R.mt,R.dom,R.inj,R.ns,R.cells,R.c7⟩
theorem Rel.Es {F:Fz}{ρ:Ky}{s:Vh}{A:Wk}(R:Rel (C.at A) F ρ st s):Rel C F ρ st s:=⟨R.gens,R.os,R.drawn,R.kG,R.kF,R.kK,R.FG,R.mt,R.dom,R.inj,R.ns,R.cells,R.c7⟩
theorem Cx.Good0.at (G:C.Good0 d)(v:Vg):(C.at (C.A.mark (some v))).Good0 d:=⟨G.units,G.depth,G.fn,G.glob,G.blt,G.apart,G.j7,G.frames,G.lim,G.mS,G.fz,G.bu,G.B9⟩
theorem ES.rY (G:C.Good d) (Tp:C.Top) {body:List Stmt}{T x:Str}{p1 p2 p3 hpos pos:Pos}{Q:Fl->St->Prop} (hT:az C.env.scope.names T=some .globalImplicit/\gl C.K T=some (.type "StopIteration")/\sB T "__debug__" = false) (hd:sB x "__debug__" = false)
  (h:ES C kb (execs body C.env) st Q (λ cls _ st1=>cls = "StopIteration"/\∃ v,nameV C.env.scope.names C.K st1.vars x=some v/\Q (.ret v) st1)) :
  ES C kb (exec (.Try body [.ExceptHandler (some (.Name T p1)) none [.Return (some (.Name x p2)) p3] hpos] [] [] pos) C.env) st Q X:=λ F ρ s R Q' E hQ hE=>by
 refine wpAny_Try_except (h F ρ s R _ _ ?_ ?_)
 ·rintro F1 bE f s1 l1 k1 hp0;apply hp0.elim;rintro fl st1 hq R1 d1
  cases d1 with
  | next=>exact ZN (hQ F1 bE _ _ l1 k1 (cy.in (hq) (R1) (.next)))
  | brk=>exact hQ F1 bE _ _ l1 k1 (cy.in (hq) (R1) (.brk))
  | cont=>exact hQ F1 bE _ _ l1 k1 (cy.in (hq) (R1) (.cont))
  | ret hv=>exact hQ F1 bE _ _ l1 k1 (cy.in (hq) (R1) (.ret hv))
 ·rintro F1 bE e s1 l1 k1 hp0;apply hp0.elim;intro cls arg st1;refine qA λ e_=>aI λ v hv hq=>?_;subst e_;intro R1 X1
  refine vQ G Tp R1 X1 λ s2 T2 UA R2 X2=>?_
  refine lX R2 X2 λ s3 R3 X3=>?_
  refine bG (λ a oe vs t=>fZ λ y e_ h1 h2 _=>?_) (id X3);subst e_
  have G':=G.toGood0.at (.ref a)
  have QW:=R3.at (C.A.mark (some (.ref a)))
  have nd:∀ {z:Str},sB z "__debug__" = false->(z==("__debug__" : Str))=false:=λ h=>beq_eq_false_iff_ne.mpr λ e=>HQ ((dH.mpr e).symm.trans h)
  refine wpAny_handleBy_builtin (X:="StopIteration") (T:="StopIteration") (b:=true) (by rw [YN];kernel_rfl) (by rw [YN];kernel_rfl) (by rw [YN];kernel_rfl) ?_
  refine Zu (lT (C:=C.at (C.A.mark (some (.ref a)))) G' QW (v:=.con (.type "StopIteration")) (by show nameV C.env.scope.names C.K st1.vars T=_;unfold nameV;rw [hT.1];show (gl C.K T).map V.con=_;rw [hT.2.1];rfl) λ z hz=>?_) (nd hT.2.2)
  apply hz.bL
  refine bY rfl ⟨oe,h1,h2⟩ ?_
  rw [if_pos rfl]
  refine lX (C:=C.at (C.A.mark (some (.ref a)))) (f:=none) QW (T:=T2) (cls:="StopIteration") (arg:=arg) (fl:=.none) X3 λ s4 R4 X4=>?_
  refine wpAny_execs_cons (wpAny_Return_some (Zu (lT (C:=C.at (C.A.mark (some (.ref a)))) G' R4 (v:=v) hv λ z hz=>?_) (nd hd)))
  exact hQ F1 bE _ _ l1 k1 (cy.in (hq) (R4.Es) (.ret hz))
end
end
section
section
variable {C:Cx}{st:St}{X:XK}{d:Nat}{Q:QV}
theorem CJ.eZ {f:Vg}{args:List V}{v:V}(h:Q v st)
  (hf:∀ F ρ s xs,Rel C F ρ st s->aF F ρ args xs->∀ (Q':Vg->Vh->Prop) (E:Vg->Vh->Prop),(∀ x h' tk,Keeps s.heap h'->Den F ρ v x->Q' x {s with heap:=h',toks:=tk})->wpAny (model C.prog C.w) C.A (call f xs) Q' E s) :
  CJ C (.con f) args [] [] st Q X:=λ F ρ s x xs ys R hx ha hk Q' E hQ hE=>by
 apply hx.bL;apply hk.aD
 exact hf F ρ s xs R ha Q' E λ x h' tk hk hd=>hQ F ρ x _ (aZ.refl _) (bD.refl _) (Post.in (h) (R.keeps hk tk) (hd))
theorem gu (h:Heap):Keeps h h:=λ _ _ e=>e
theorem CJ.len_list {v:V}{l:List V} (hl:aE st v=some l) (hz:l.length<2^62) (h:Q (.int l.length) st):CJ C (.con (.builtin "len")) [v] [] [] st Q X:=
 CJ.eZ h λ F ρ s xs R ha Q' E hQ=>by
  apply ha.au;intro _ _ hv hn
  apply hn.aD
  refine aU (λ a ys ep e_=>qA λ hg hd=>?_) (bH R hv hl);subst e_
  have e:ys.toArray.size=l.length:=by rw [VM,hd.length]
  refine PyProof.Rows.len_list ⟨_,hg,rfl,_,rfl⟩ (by rw [e];omega) ?_
  rw [e]
  exact hQ _ _ _ (gu _) (.int _ _)
theorem CJ.ord {c:Nat} (h:Q (.int c) st):CJ C (.con (.builtin "ord")) [.str ⟨#[c]⟩] [] [] st Q X:=
 CJ.eZ h λ F ρ s xs R ha Q' E hQ=>by
  apply ha.au;intro _ _ hv hn
  apply hn.aD;apply hv.bR;intro _;exact P.ord_of_char (hQ _ _ _ (gu _) (.int _ _))
theorem CJ.chr {i:Int} (h0:0<=i) (h1:i<=1114111) (h:Q (.str ⟨#[i.toNat]⟩) st):CJ C (.con (.builtin "chr")) [.int i] [] [] st Q X:=
 CJ.eZ h λ F ρ s xs R ha Q' E hQ=>by
  apply ha.au;intro _ _ hv hn
  apply hn.aD;apply hv.aM;intro _;exact PyProof.Rows.chr_of_range h0 h1 (hQ _ _ _ (gu _) (.str _ _))
theorem Ii {F:Fz}{ρ:Ky}{ns:List Int}:∀ {ys:List Vg},aF F ρ (ns.map V.int) ys->IntsAre ys ns:=by
 induction ns with
 | nil=>exact λ d=>d.aD (P:=λ ys=>IntsAre ys []) .nil
 | cons n ns ih=>exact λ d=>aF.au (P:=λ ys=>IntsAre ys (n::ns)) d λ y ys hv hl=>hv.aM (P:=λ y=>IntsAre (y::ys) (n::ns)) λ t=>.cons n t (ih hl)
theorem Ij {F:Fz}{ρ:Ky}{ns:List Str}:∀ {ys:List Vg},aF F ρ (ns.map V.str) ys->StrsAre ys ns:=by
 induction ns with
 | nil=>exact λ d=>d.aD (P:=λ ys=>StrsAre ys []) .nil
 | cons n ns ih=>exact λ d=>aF.au (P:=λ ys=>StrsAre ys (n::ns)) d λ y ys hv hl=>hv.bR (P:=λ y=>StrsAre (y::ys) (n::ns)) λ t=>.cons n t (ih hl)
theorem CJ.sum (G:C.Good d) {v:V}{ns:List Int} (hl:aE st v=some (ns.map V.int)) (h:Q (.int ns.sum) st):CJ C (.con (.builtin "sum")) [v] [] [] st Q X:=
 CJ.eZ h λ F ρ s xs R ha Q' E hQ=>by
  apply ha.au;intro _ _ hv hn
  apply hn.aD
  refine aU (λ a ys ep e_=>qA λ hg hd=>?_) (bH R hv hl);subst e_
  have hi:=Ii hd
  refine qE (λ zs e=>?_) hi.allInts.items
  have hns:ns=zs.toList.map (·.1):=by rw [<-hi.numsOf,<-nums_intItems,<-e]
  have qR:s.heap.IsList a (intItems zs):=by rw [<-e];exact ⟨_,hg,rfl,_,rfl⟩
  refine sum_intListG G.handled qR λ h' tk t' hk=>?_
  rw [preSum_eq,Xg (by simp),<-hns]
  exact hQ _ _ _ hk (.int _ _)
theorem CJ.int_bool {b:Bool} (h:Q (.int (if b then 1 else 0)) st):CJ C (.con (.type "int")) [.bool b] [] [] st Q X:=
 CJ.eZ h λ F ρ s xs R ha Q' E hQ=>by
  apply ha.au;intro _ _ hv hn
  apply hn.aD;apply hv.lR;exact call_int_bool (hQ _ _ _ (gu _) (.int _ _))
theorem CJ.type_str {x:Str} (h:Q (.con (.type "str")) st):CJ C (.con (.type "type")) [.str x] [] [] st Q X:=
 CJ.eZ h λ F ρ s xs R ha Q' E hQ=>by
  apply ha.au;intro _ _ hv hn
  apply hn.aD;apply hv.bR;intro t;exact call_type_of (gN s x t) (by decide) (hQ _ _ s.toks (gu _) (.con _))
theorem CJ.Cn {v:V}{l:List V} (hl:aE st v=some l) (h:Q (.con (.type "list")) st):CJ C (.con (.type "type")) [v] [] [] st Q X:=
 CJ.eZ h λ F ρ s xs R ha Q' E hQ=>by
  apply ha.au;intro _ _ hv hn
  apply hn.aD
  refine aU (λ a ys ep e_=>qA λ hg hd=>?_) (bH R hv hl);subst e_
  exact call_type_of ⟨_,hg,rfl⟩ (by decide) (hQ _ _ s.toks (gu _) (.con _))
theorem CJ.upper {x:Str} (hz:x.length<=5592405) (h:Q (.str (XY x)) st):CJ C (.con (.builtin "str.upper")) [.str x] [] [] st Q X:=
 CJ.eZ h λ F ρ s xs R ha Q' E hQ=>by
  apply ha.au;intro _ _ hv hn
  apply hn.aD;apply hv.bR;intro _;exact SCL.upper hz λ _=>hQ _ _ _ (gu _) (.str _ _)
theorem CJ.lower {x:Str} (hz:x.length<=5592405) (h:Q (.str (VX x)) st):CJ C (.con (.builtin "str.lower")) [.str x] [] [] st Q X:=
 CJ.eZ h λ F ρ s xs R ha Q' E hQ=>by
  apply ha.au;intro _ _ hv hn
  apply hn.aD;apply hv.bR;intro _;exact SCL.lower hz λ _=>hQ _ _ _ (gu _) (.str _ _)
theorem CJ.join {x:Str}{v:V}{ys:List Str}(hl:aE st v=some (ys.map V.str))(hsep:x.length<=16)(hw:(ys.map (·.length)).sum+ys.length<=1048576)(h:Q (.str (ke x ys)) st):
  CJ C (.con (.builtin "str.join")) [.str x,v] [] [] st Q X:=
 CJ.eZ h λ F ρ s xs R ha Q' E hQ=>by
  apply ha.au;intro _ _ hx hn
  apply hn.au;intro _ _ hv hn
  apply hn.aD;apply hx.bR;intro _
  refine aU (λ a zs ep e_=>qA λ hg hd=>?_) (bH R hv hl);subst e_
  exact join_listW ⟨_,hg,rfl,_,rfl⟩ (by simpa using Ij hd) hsep hw λ t' k=>hQ _ _ k (gu _) (.str _ _)
theorem CJ.append {n:Nat}{l:List V}{v:V}(hn:J st.heap n=some (.lst l))(hz:l.length<=sizeLine)(h:Q .none {st with heap:=af st.heap n (.lst (l++[v]))}):CJ C (.con (.builtin "list.append")) [.loc n,v] [] [] st Q X:=
 λ F ρ s x xs ys R hx ha hk Q' E hQ hE=>by
  apply hx.bL;apply hk.aD
  apply ha.au;intro _ _ hl hr
  apply hr.au;intro y _ hv hr
  apply hr.aD
  apply hl.eg;intro _ ig
  refine ak (λ a ob h1 h2=>qA λ h3 _=>?_) (R.mt _ _ hn)
  obtain rfl:=Vf (ig.symm.trans h1)
  cases h3 with
  | @lst _ vs ep hd=>
   refine cv YW ⟨_,h2,rfl⟩ PySem.F.entry_list_append (PySem.F.args_list_append_2 _ _) (PySem.list_append _ vs.toArray ep y (by rw [VM,<-hd.length];exact hz)) ⟨h2,?_⟩
   exact hQ F ρ _ _ (aZ.refl _) (bD.refl _) ⟨_,_,h,ry R hn ig h2 (ys:=vs++[y]) (by simp) (hd.append (.cons hv .nil)) s.toks,.none⟩
theorem CJ.range {n:Int} (h:Q (.qQ 0 n 1) st):CJ C (.con (.type "range")) [.int n] [] [] st Q X:=λ F ρ s x xs ys R hx ha hk Q' E hQ hE=>by
 apply hx.bL;apply hk.aD
 apply ha.au;intro _ _ hv hn
 apply hn.aD;apply hv.aM;intro _
 obtain ⟨l2,R2⟩:=R.gI (o:=pL 0 n 1 s.toks _ (s.toks+1)) rfl
 exact call_range_1 (hQ _ ρ _ _ l2 (bD.refl _) (Post.in (h) (R2.toks _) (.qQ (aX ..))))
theorem CJ.list_str (G:C.Good d) {x:Str} (hz:x.cps.size<=sizeLine) (h:Q (.lst (x.cps.toList.map λ c=>V.str ⟨#[c]⟩)) st):CJ C (.con (.type "list")) [.str x] [] [] st Q X:=λ F ρ s y xs ys R hx ha hk Q' E hQ hE=>by
 apply hx.bL;apply hk.aD
 apply ha.au;intro _ _ hv hn
 apply hn.aD;apply hv.bR;intro t
 refine call_list_str G.handled x t (λ h' tk acc' c' hk hS hit=>?_) hz
 refine qA (λ l2 R2=>?_) (R.newF (a:=s.heap.objs.size) (o:=ao acc'.toList c') hk (ez _) (by simpa [ao] using hS) tk)
 refine hQ _ ρ _ _ l2 (bD.refl _) (Post.in (h) (R2) (.lst (aX ..) ?_))
 refine qA (λ i1 i2=>?_) hit
 have gen:∀ (cs:List Nat) (vs:List Vg) (k:Nat),vs.length=cs.length->(∀ (j:Nat) (v:Vg),vs[j]?=some v->∃ (c:Nat) (u:Tok),cs[j]?=some c/\v=Za ⟨#[c]⟩ u)->aF (je F s.heap.objs.size (ao acc'.toList c')) ρ (cs.map λ c=>V.str ⟨#[c]⟩) vs:=by
  intro cs
  induction cs with
  | nil=>intro vs k hl _;induction vs using VY with | nil=>exact .nil | cons _ _=>exact nomatch hl
  | cons c cs ih=>
   intro vs k hl hall
   induction vs using VY with
   | nil=>exact nomatch hl
   | cons v vs=>
    refine dM (λ c' u e1 e2=>?_) (hall 0 v rfl)
    simp only [List.getElem?_cons_zero,Option.some.injEq] at e1
    subst e1;subst e2
    exact .cons (.str _ _) (ih vs k (by simpa using hl) λ j w e=>hall (j+1) w e)
 refine gen x.cps.toList acc'.toList 0 (by simpa using i1) λ j v e=>?_
 refine dM (λ c u e1 e2=>?_) (i2 j v (by simpa using e))
 exact nC c u (by simpa using e1) e2
end
section
variable {C:Cx}{st:St}{X:XK}{d:Nat}{Q:QV}
theorem CJ.iter {src:V}{l:List V}(hs:aE st src=some l)(h:Q (.loc (fresh st.heap)) {st with heap:=af st.heap (fresh st.heap) (.it src 0)}):CJ C (.con (.builtin "iter")) [src] [] [] st Q X:=λ F ρ s x xs ys R hx ha hk Q' E hQ hE=>by
 apply hx.bL;apply hk.aD
 apply ha.au;intro _ _ hv hn
 apply hn.aD
 refine aU (λ a zs ep e_=>qA λ hg hl=>?_) (bH R hv hs);subst e_
 have k2:=fW (a:=s.heap.objs.size) (kH R)
 refine qA (λ _ R2=>?_) (R.xD (o:={cls:=.type "list_iterator",data:=.fields #[.ref a,.int 0 0]}) (mo:=.it src 0) rfl (.it (hv.mono (aZ.refl _) k2) rfl rfl))
 refine YS (by decide +kernel) (by decide +kernel) kdk_entry_iter (kdk_args_iter _) ?_
 unfold fa.«iter»
 refine Vc (m:=someArgs "iter" 1 2 _) (Xn (a:=[Wv a]) (by first | rfl | kernel_rfl!) ?_)
 show wpAny _ _ (pyIter (.ref a) >>= _) _ _ _
 refine Vc (a8 ⟨_,hg,rfl,_,rfl⟩ ?_)
 exact Vj (aC _ rfl (hQ F _ _ _ (aZ.refl _) k2 (Post.in (h) (R2) (.loc (if_pos rfl)))))
theorem Et {F:Fz}{ρ:Ky}{s:Vh}(R:Rel C F ρ st s){n i:Nat}{src:V}{a:Addr}(hn:J st.heap n=some (.it src i))(ig:ρ n=some a){l:List V}(hs:aE st src=some l):
  ∃ o b zs ep,s.heap.get? a=some o/\o.cls=.type "list_iterator"/\o.data=.fields #[.ref b,.int i 0]/\s.heap.get? b=some (ao zs ep)/\aF F ρ l zs/\Den F ρ src (.ref b):=by
 refine ak (λ it ob h1 h2=>bQ λ h3 h4 h5 h6=>?_) (R.mt _ _ hn)
 obtain rfl:=Vf (ig.symm.trans h1)
 cases h3 with
 | it hd hc DX=>
  refine dM (λ zs ep hg hl=>?_) (dw R hd hs)
  exact d7 ob _ zs ep (cO h2 hc DX hg (⟨hl,hd⟩))
theorem CJ.next {n i:Nat}{src:V}{l:List V}{v:V}(hn:J st.heap n=some (.it src i))(hs:aE st src=some l)(hv:bq l i=some v)(h:Q v {st with heap:=af st.heap n (.it src (i+1))}):CJ C (.con (.builtin "next")) [.loc n] [] [] st Q X:=λ F ρ s x xs ys R hx ha hk Q' E hQ hE=>by
 apply hx.bL;apply hk.aD
 apply ha.au;intro _ _ ht hr
 apply hr.aD
 apply ht.eg;intro _ ig
 refine bG (λ o a zs ep=>bB λ h2 hc hd qR=>qA λ hl dO=>?_) (Et R hn ig hs)
 rw [bI] at hv
 refine aI (λ z hz dz=>?_) (hl.get hv)
 have hT:s.TypeIs (.ref _) "list_iterator":=⟨_,h2,hc⟩
 refine YS (by decide +kernel) (by decide +kernel) kdk_entry_next (kdk_args_next _) ?_
 unfold fa.«next»
 refine Vc (m:=someArgs "next" 1 2 _) (Xn (a:=[Wv _]) (by first | rfl | kernel_rfl!) ?_)
 dsimp only
 refine Vc (Xm (name:=Ve "__next__") hT W9.lookup ?_)
 refine wpAny_ite_split (λ hab=>absurd hab (by decide)) (λ _=>?_)
 refine Vc (XA (name:=Ve "__next__") hT W9 (XJ W9 hT ZT ?_ (Z0 _)))
 show wpAny _ _ (field (.ref _) 0 >>= _) _ _ s
 refine Vc (WZ h2 hd (x:=.ref a) rfl ?_)
 show wpAny _ _ (if (Wv a==WR)=true then _ else _) _ _ s
 rw [if_neg (show ¬ ((Wv a==WR)=true) from Vp)]
 show wpAny _ _ (field (.ref _) 1 >>= _) _ _ s
 refine Vc (WZ h2 hd (x:=.int i 0) rfl ?_)
 show wpAny _ _ (seqItems? (.ref a) >>= _) _ _ s
 refine Vc (XN qR rfl ?_)
 have hz':zs.toArray[i]?=some z:=by simpa using hz
 simp only [XC,hz']
 refine Vc (Zg h2 hd (by simp) (Vj (aC z rfl (Vj (aC z rfl ?_)))))
 have hd2:=Y8 hd (·.setIfInBounds 1 (rawInt ((i:Int)+1)))
 refine hQ F ρ z _ (aZ.refl _) (bD.refl _) (Post.in (h) (R.upd hn ig (Wt ..) (V7 _ h2 (XT hd2)) (.it dO ((Obj.cls_mapFields ..).trans hc) ?_) s.toks) (dz))
 rw [hd2];simp [rawInt]
theorem CJ.next_end (G:C.Good d) {n i:Nat}{src:V}{l:List V} (hn:J st.heap n=some (.it src i)) (hs:aE st src=some l) (hv:bq l i=none) (h:X "StopIteration" [] {st with heap:=af st.heap n .any}):CJ C (.con (.builtin "next")) [.loc n] [] [] st Q X:=λ F ρ s x xs ys R hx ha hk Q' E hQ hE=>by
 apply hx.bL;apply hk.aD
 apply ha.au;intro _ _ ht hr
 apply hr.aD
 apply ht.eg;intro it ig
 refine bG (λ o a zs ep=>bB λ h2 hc hd qR=>qA λ hl dO=>?_) (Et R hn ig hs)
 rw [bI] at hv
 have hT:s.TypeIs (.ref it) "list_iterator":=⟨_,h2,hc⟩
 refine YS (by decide +kernel) (by decide +kernel) kdk_entry_next (kdk_args_next _) ?_
 unfold fa.«next»
 refine Vc (m:=someArgs "next" 1 2 _) (Xn (a:=[Wv it]) (by first | rfl | kernel_rfl!) ?_)
 dsimp only
 refine Vc (Xm (name:=Ve "__next__") hT W9.lookup ?_)
 refine wpAny_ite_split (λ hab=>absurd hab (by decide)) (λ _=>?_)
 refine Vc (XA (name:=Ve "__next__") hT W9 (XJ W9 hT ZT ?_ (Z0 _)))
 show wpAny _ _ (field (.ref _) 0 >>= _) _ _ s
 refine Vc (WZ h2 hd (x:=.ref a) rfl ?_)
 show wpAny _ _ (if (Wv a==WR)=true then _ else _) _ _ s
 rw [if_neg (show ¬ ((Wv a==WR)=true) from Vp)]
 show wpAny _ _ (field (.ref _) 1 >>= _) _ _ s
 refine Vc (WZ h2 hd (x:=.int i 0) rfl ?_)
 show wpAny _ _ (seqItems? (.ref a) >>= _) _ _ s
 refine Vc (XN qR rfl ?_)
 have hz':zs.toArray[i]?=none:=by rw [Wq,VW,<-hl.length,<-VW];exact hv
 simp only [XC,hz']
 refine Vc (Yt (Vc (Zg h2 hd (by simp) ?_)))
 show wpAny _ _ (newExc (.type "StopIteration") [] >>= _) _ _ _
 refine Vc ?_
 simp only [newExc,newTuple]
 refine Vc (Xh ?_ (by size_fits))
 refine Vc (m:=firstArgMember _ _) (Xn (a:=WR) (by first | rfl | (simp only [firstArgMember];rfl)) ?_)
 refine Xh ?_ (by size_fits)
 simp only [raiseNew]
 refine Vc (wpAny_handled ?_)
 rw [show C.A.in1.in1.handled=none from G.handled]
 refine Vc (Vj (wpAny_throw ?_))
 have R1:=R.upd hn ig (Wt ..) (V7 _ h2 (XT (Y8 hd (·.setIfInBounds 0 WR)))) .any s.toks
 generalize hH:s.heap.update it _=H at R1 ⊢
 have KX:H.get? H.objs.size=none:=ez _
 have hX:(H.push (dN [])).objs.size=H.objs.size+1:=Xi ..
 have hg:H.get? (H.objs.size+1)=none:=WU (Xy _)
 refine qA (λ l2 R2=>?_) (R1.newF (o:=dN []) (h':=(H.push (dN [])).push {cls:=.type "StopIteration",data:=.fields (#[.ref H.objs.size,.none,.none,.none,.bool false,.none]++ownMembersOf (.type "StopIteration") [])}) (λ b o e=>VA _ (VA _ e)) KX (VA _ (VL _ rfl)) s.toks)
 have U:=R1.cV hg
 refine hE _ ρ _ _ l2 (bD.refl _) ⟨"StopIteration",[],_,h,R2,none,_,_,_,H.objs.size,[],rfl,VL _ rfl,rfl,rfl,rfl,aX ..,.nil,hX▸⟨?_,U.2⟩,rfl⟩
 show (if H.objs.size+1=H.objs.size then _ else F (H.objs.size+1))=none
 rw [if_neg (Nat.succ_ne_self _)];exact U.1
end
end
section
noncomputable def dg (a b c:Int):List V:=(Yk (WI a b c).toNat).map λ i=>.int (a+(i:Nat)*c)
noncomputable def itemsOf (st:St):V->Option (Prop×List V)
 | .str x=>some (True,x.cps.toList.map λ c=>.str ⟨#[c]⟩)
 | .qQ a b c=>some (VO a b c=true,dg a b c)
 | .tup l=>some (True,l)
 | v=>(aE st v).map λ l=>(True,l)
noncomputable def nM:List String:=["enumerate","zip","dict_itemiterator","dict_reverseitemiterator","odict_iterator","itertools.zip_longest","itertools.pairwise"]
theorem Co {prog:Wi}{w:WK}{A:Wk}{E:Vg->Vh->Prop}{s:Vh}{target:Expr}{I:Addr}{o:Obj}{n:String}{v:Vg}{Q:Unit->Vh->Prop}(ho:s.heap.get? I=some o)(hc:o.cls=.type n)(hn:nM.contains n=false)(hQ:Q () s):
  wpAny (model prog w) A (letOwnedTupleGo target (.ref I) v) Q E s:=by
 have key:∀ a:Addr,wpAny (model prog w) A (do
   let o <-load I
   match o.cls,o.data with
   | .type n,.fields vs=>
    if ["enumerate","zip","dict_itemiterator","dict_reverseitemiterator","odict_iterator","itertools.zip_longest","itertools.pairwise"].contains n&&vs[0]?==some (rawInt a) then
     rule "for.unpacks-the-owned-tuple"
     updateField I 0 .none
   | _,_=>pure ()) Q E s:=λ a=>by
  refine Vc (wpAny_load ho ?_)
  rw [hc]
  cases hd:o.data<;>dsimp only<;>first
   | exact Vj hQ
   | (rw [if_neg (by intro h;rw [show (["enumerate","zip","dict_itemiterator","dict_reverseitemiterator","odict_iterator","itertools.zip_longest","itertools.pairwise"].contains n)=false from hn,Bool.false_and] at h;exact lO h)];exact Vj hQ)
 induction target using XG with
 | Tuple _ _ _=>induction v with
  | ref a=>exact key a
  | _=>exact Vj hQ
 | List _ _=>induction v with
  | ref a=>exact key a
  | _=>exact Vj hQ
 | _=>exact Vj hQ
structure fR (prog:Wi)(w:WK)(bF:St->Prop)(bT:List V)(pX:List Vg)(I:Addr)(fp:List Addr)(l:List V)(tg:Expr->Prop)(fX:Nat->Heap->Prop):Prop where
 frame:∀ i h h',fX i h->(∀ b,b∈fp->∀ o,h.get? b=some o->h'.get? b=some o)->fX i h'
 live:∀ i h,fX i h->∀ b,b∈fp->∃ o,h.get? b=some o
 turn:∀ {C:Cx}{A':Wk}{F:Fz}{ρ:Ky}{st:St}{s:Vh}{i:Nat}{v:V}{target:Expr},C.prog=prog->C.w=w->A'.handled=none->Rel C F ρ st s->(∀ b,b∈fp->aP C F ρ b)->fX i s.heap->aF F ρ bT pX->bF st->l[i]?=some v->tg target->
  ∀ (Q:Vg->Vh->Prop) (E:Vg->Vh->Prop),(∀ F' z s',aZ F F'->Rel C F' ρ st s'->(∀ b,b∈fp->aP C F' ρ b)->Den F' ρ v z->fX (i+1) s'.heap->Q z s')->
  wpAny (model prog w) A' (pyNext (.ref I)) (λ r s1=>r.elim False λ z=>wpAny (model prog w) A' (letOwnedTupleGo target (.ref I) z) (λ _ s2=>Q z s2) E s1) E s
 done:∀ {C:Cx}{A':Wk}{F:Fz}{ρ:Ky}{st:St}{s:Vh},C.prog=prog->C.w=w->A'.handled=none->Rel C F ρ st s->(∀ b,b∈fp->aP C F ρ b)->fX l.length s.heap->aF F ρ bT pX->bF st->
  ∀ (Q:Vh->Prop) (E:Vg->Vh->Prop),(∀ s',Rel C F ρ st s'->Q s')->wpAny (model prog w) A' (pyNext (.ref I)) (λ r s1=>r=none/\Q s1) E s
 self:∀ (A':Wk) (i:Nat) (s:Vh) (Q:Vg->Vh->Prop) (E:Vg->Vh->Prop),fX i s.heap->Q (.ref I) s->wpAny (model prog w) A' (pyIter (.ref I)) Q E s
noncomputable def uv:Expr->Prop:=λ _=>True
noncomputable def rZ (t:Expr):Prop:=∃ es k p,t=.Tuple es k p
section
variable {C:Cx}{st:St}{F:Fz}{ρ:Ky}{s:Vh}{prog:Wi}{w:WK}{bF:St->Prop}{bT:List V}{pX:List Vg}{I:Addr}{l:List V}{fX:Nat->Heap->Prop}
theorem fR.plain (frame:∀ i h h',fX i h->(∀ o,h.get? I=some o->h'.get? I=some o)->fX i h')(live:∀ i h,fX i h->∃ o n,h.get? I=some o/\o.cls=.type n/\nM.contains n=false)
  (item:∀ {C:Cx}{A':Wk}{F:Fz}{ρ:Ky}{st:St}{s:Vh}{i:Nat}{v:V},A'.handled=none->Rel C F ρ st s->fX i s.heap->aF F ρ bT pX->bF st->l[i]?=some v->∀ (Q:Option Vg->Vh->Prop) (E:Vg->Vh->Prop),
   (∀ z h' tk,Den F ρ v z->fX (i+1) h'->ea I s.heap h'->Q (some z) {s with heap:=h',toks:=tk})->wpAny (model prog w) A' (pyNext (.ref I)) Q E s)
  (done:∀ {C:Cx}{A':Wk}{F:Fz}{ρ:Ky}{st:St}{s:Vh},A'.handled=none->Rel C F ρ st s->fX l.length s.heap->aF F ρ bT pX->bF st->∀ (Q:Option Vg->Vh->Prop) (E:Vg->Vh->Prop),
   (∀ h' tk,ea I s.heap h'->Q none {s with heap:=h',toks:=tk})->wpAny (model prog w) A' (pyNext (.ref I)) Q E s)
  (self:∀ (A':Wk) (i:Nat) (s:Vh) (Q:Vg->Vh->Prop) (E:Vg->Vh->Prop),fX i s.heap->Q (.ref I) s->wpAny (model prog w) A' (pyIter (.ref I)) Q E s):fR prog w bF bT pX I [I] l uv fX where
 frame:=λ i h h' st hk=>frame i h h' st (hk I (Vi.mpr rfl))
 live:=λ i h st b hb=>dM (λ o _ ho _=>⟨o,Vi.mp hb▸ho⟩) (live i h st)
 turn:=λ hp hw hh R U hst d ok hv _ Q E hQ=>item hh R hst d ok hv _ E λ z h' tk dz zB hE=>
  ak (λ o n ho hc hn=>Co ho hc hn (hQ _ z _ (aZ.refl _) (R.n8 (U I (Vi.mpr rfl)) hE tk) U dz zB)) (live _ _ zB)
 done:=λ hp hw hh R U hst d ok Q E hQ=>done hh R hst d ok _ E λ h' tk hE=>⟨rfl,hQ _ (R.n8 (U I (Vi.mpr rfl)) hE tk)⟩
 self:=self
theorem fR.walks {P:Nat->Vg->Prop}{n:Nat}(W:∀ A':Wk,A'.handled=none->Walks prog w A' I [I] [I] n P fX)(hn:l.length=n)(live:∀ i h,fX i h->∃ o n,h.get? I=some o/\o.cls=.type n/\nM.contains n=false)
  (hP:∀ F ρ i v z,l[i]?=some v->P i z->Den F ρ v z) (self:∀ (A':Wk) (i:Nat) (s:Vh) (Q:Vg->Vh->Prop) (E:Vg->Vh->Prop),fX i s.heap->Q (.ref I) s->wpAny (model prog w) A' (pyIter (.ref I)) Q E s):fR prog w bF bT pX I [I] l uv fX:=
 fR.plain (λ i h h' st hk=>(W {} rfl).frame i h h' st λ b hb o e=>by obtain rfl:=Vi.mp hb;exact hk o e) live
  (λ hh R hst _ _ hv Q E hQ=>(W _ hh).item _ _ Q E (hn▸(Xp.mp hv).1) hst λ z h' tk hz zB hk=>hQ z h' tk (hP _ _ _ _ z hv hz) zB λ b o hb e=>hk b o (λ q=>hb (Vi.mp q)) e)
  (λ hh R hst _ _ Q E hQ=>(W _ hh).done _ Q E (hn▸hst) λ h' tk hk=>hQ h' tk λ b o hb e=>hk b o (λ q=>hb (Vi.mp q)) e) self
theorem fR.list {src:V}{a:Addr}(hok:∀ st,bF st->aE st src=some l):fR prog w bF [src] [.ref a] I [I] l uv (λ i h=>h.IsListIter I a i):=
 fR.plain (λ i h h' st hk=>st.at λ o e=>hk o e) (λ i h st=>fq (λ o ho hc _=>(ay o _ ho hc (by decide))) st)
  (λ hh R hst d ok hv Q E hQ=>d.au (P:=λ xs=>xs=[Wv a]->_) (λ y ys dy _ e=>by
   obtain rfl:=(Wu e).1
   refine dM (λ ys vV hg' dl=>?_) (dw R dy (hok _ ok))
   refine aI (λ z hz dz=>?_) (dl.get hv)
   exact Yu hst ⟨_,hg',rfl,_,rfl⟩ (x:=z) (by rw [Wq];exact hz) λ h' kU hs'=>hQ z h' _ dz kU hs'.extBut) rfl)
  (λ hh R hst d ok Q E hQ=>d.au (P:=λ xs=>xs=[Wv a]->_) (λ y ys dy _ e=>by
   obtain rfl:=(Wu e).1
   refine dM (λ ys vV hg' dl=>?_) (dw R dy (hok _ ok))
   exact wpAny_pyNext_list_end hh hst ⟨_,hg',rfl,_,rfl⟩ (by rw [Wq,VW,dl.length];exact VD _) λ h' he=>hQ h' _ he) rfl)
  λ A' i s Q E hst hQ=>wpAny_pyIter_listiter hst hQ
theorem fR.tup {a:Addr}:fR prog w bF [.tup l] [.ref a] I [I] l uv (λ i h=>h.IsTupleIter I a i):=
 fR.plain (λ i h h' st hk=>by refine aI (λ o ho r=>?_) st;exact ⟨o,hk o ho,r⟩) (λ i h st=>fq (λ o ho hc _=>(ay o _ ho hc (by decide))) st)
  (λ hh R hst d ok hv Q E hQ=>d.au (P:=λ xs=>xs=[Wv a]->_) (λ y ys dy _ e=>by
   obtain rfl:=(Wu e).1
   refine ak (λ _ ys e2 hf dl=>?_) dy.lQ
   obtain rfl:=Xb e2
   refine aI (λ z hz dz=>?_) (dl.get hv)
   exact wpAny_pyNext_tuple_item hst ⟨_,R.kF _ _ hf,rfl,_,rfl⟩ (x:=z) (by rw [Wq];exact hz) λ h' kU hs'=>hQ z h' _ dz kU hs'.extBut) rfl)
  (λ hh R hst d ok Q E hQ=>d.au (P:=λ xs=>xs=[Wv a]->_) (λ y ys dy _ e=>by
   obtain rfl:=(Wu e).1
   refine ak (λ _ ys e2 hf dl=>?_) dy.lQ
   obtain rfl:=Xb e2
   exact wpAny_pyNext_tuple_end hh hst ⟨_,R.kF _ _ hf,rfl,_,rfl⟩ (by rw [Wq,VW,dl.length];exact VD _) λ h' he=>hQ h' _ he) rfl)
  λ A' i s Q E hst hQ=>wpAny_pyIter_tupleiter hst hQ
end
end
section
noncomputable def iB (C:Cx)(m:Sem Vg)(st:St)(tg:Expr->Prop)(Q:(St->Prop)->List V->List V->St->Prop)(X:XK):Prop:=∀ F ρ s,Rel C F ρ st s->∀ (Q':Vg->Vh->Prop) (E:Vg->Vh->Prop),
 (∀ F' ρ' bF bT pX l st1 I fp fX s0 h' tk,aZ F F'->bD ρ ρ'->Q bF bT l st1->aF F' ρ' bT pX->Rel C F' ρ' st1 s0->(∀ b,b∈fp->s0.heap.get? b=none)->s0.heap.objs.size<=h'.objs.size->Keeps s0.heap h'->fR C.prog C.w bF bT pX I fp l tg fX->fX 0 h'->bF st1->Q' (.ref I) {s0 with heap:=h',toks:=tk})->
 (∀ F' ρ' x s',aZ F F'->bD ρ ρ'->cC C X F' ρ' x s'->E x s')->wpAny (model C.prog C.w) C.A m (λ x s1=>wpAny (model C.prog C.w) C.A (pyIter x) Q' E s1) E s
section
variable {C:Cx}{st:St}{X:XK}{kb d:Nat}
theorem pY (a b c:Int):0<=WI a b c:=by
 unfold WI
 split
 ·split
  ·exact Int.le_add_one (Int.ediv_nonneg (by lia) (by lia))
  ·exact ed 0
 ·split
  ·exact Int.le_add_one (Int.ediv_nonneg (by lia) (by lia))
  ·exact ed 0
end
theorem Cp {P:Prop}{st:St}{src:V}{p:Prop}{l:List V}(h1:∀ x,src=.str x->(x.cps.toList.map λ c=>V.str ⟨#[c]⟩)=l->P)(h2:∀ a b c,src=.qQ a b c->(VO a b c=true)=p->dg a b c=l->P)(h3:∀ m,src=.tup m->m=l->P)
  (h4:(∀ st',itemsOf st' src=(aE st' src).map λ l=>(True,l))->P) (hl:itemsOf st src=some (p,l)):P:=by
 induction src using V.casesOn with
 | str x=>exact qV (λ _ e=>h1 _ rfl e) hl
 | qQ a b c=>exact qV (λ e1 e=>h2 _ _ _ rfl e1 e) hl
 | tup m=>exact qV (λ _ e=>h3 _ rfl e) hl
 | _=>exact h4 λ _=>rfl
namespace lY
noncomputable def aq (s:Vh)(C:Cx)(Q':Vg->Vh->Prop)(st:St)(E:Vg->Vh->Prop)(F:Fz)(ρ:Ky):Prop:=∀ {src:V}{xv:Vg}{l:List V}{p:Prop} (R:Rel C F ρ st s) (hd:Den F ρ src xv) (hl:itemsOf st src=some (p,l)) (hp:p) (fin:∀ I fX h',s.heap.get? I=none->s.heap.objs.size<=h'.objs.size->Keeps s.heap h'->fR C.prog C.w (λ st=>∃ p,itemsOf st src=some (p,l)) [src] [xv] I [I] l uv fX->fX 0 h'->Q' (.ref I) {s with heap:=h'}),wpAny (model C.prog C.w) C.A (pyIter xv) Q' E s
noncomputable def S0:=u7 aq
noncomputable def ε:=eu (by walk_at "ne") S0
theorem here:S0 ε:=by
 intro src xv l p R hd hl hp fin
 have on:∀ {o:Obj}{fX:Nat->Heap->Prop},fR ε.2.1.prog ε.2.1.w (λ KY=>∃ p,itemsOf KY src=some (p,l)) [src] [xv] ε.1.heap.objs.size [ε.1.heap.objs.size] l uv fX->fX 0 (ε.1.heap.push o)->ε.2.2.1 (.ref ε.1.heap.objs.size) {ε.1 with heap:=ε.1.heap.push o}:=λ G h=>
  fin _ _ _ (ez ε.1.heap) ((Xi ..).symm▸Xy _) (λ b o' e=>VA _ e) G h
 have seq:∀ {a:Addr},xv=.ref a->aE ε.2.2.2.1 src=some l->(∀ st',(∃ p,itemsOf st' src=some (p,l))->aE st' src=some l)->wpAny (model ε.2.1.prog ε.2.1.w) ε.2.1.A (pyIter xv) ε.2.2.1 ε.2.2.2.2.1 ε.1:=by
  rintro a rfl hs hok
  refine dM (λ xs ep hg _=>?_) (dw R hd hs)
  exact a8 ⟨_,hg,rfl,_,rfl⟩ (on (fR.list hok) ⟨_,VL _ rfl,rfl,rfl⟩)
 have un:(∀ st',itemsOf st' src=(aE st' src).map λ l=>(True,l))->wpAny (model ε.2.1.prog ε.2.1.w) ε.2.1.A (pyIter xv) ε.2.2.1 ε.2.2.2.2.1 ε.1:=λ hun=>by
  have key:∀ st',(∃ p,itemsOf st' src=some (p,l))->aE st' src=some l:=λ st'=>qE λ p' e=>by
   rw [hun] at e
   refine qM (λ l3 h3 h4=>?_) e
   exact (Wd h4).2▸h3
  have hs:=key ε.2.2.2.1 ⟨p,hl⟩
  refine aU (λ a xs ep e=>qA λ _ _=>?_) (bH R hd hs)
  exact seq e hs key
 refine Cp (λ x ex el=>?_) (λ a b c ex ep el=>?_) (λ l' ex el=>?_) un hl
 ·clear seq un;subst ex el
  refine qE (λ t e_=>?_) hd.str_inv;subst e_
  have it:∀ F9 Pg i v z,(x.cps.toList.map λ c=>V.str ⟨#[c]⟩)[i]?=some v->SignAt x i z->Den F9 Pg v z:=λ F9 Pg i v z hv hz=>by
   refine dM (λ c u h1 e_=>?_) hz;subst e_
   rw [Wy,Array.getElem?_toList,h1] at hv
   obtain rfl:=Vf hv;exact .str _ _
  have hz:(x.cps.toList.map λ c=>V.str ⟨#[c]⟩).length=x.cps.size:=by rw [Vl,XF]
  cases ha:x.cps.all (· < 128)
  ·exact wpAny_pyIter_wide ha (on (fX:=λ i h=>h.IsStrIter ε.1.heap.objs.size "str_iterator" x t i) (fR.walks (λ A' hh=>Walks.strWide hh _ x t) hz (λ i h KY=>fq (λ o ho hc _=>(ay o _ ho hc (by decide))) KY) it λ A' i s9 Q E9 hst hQ=>wpAny_pyIter_striter_wide hst hQ) ⟨_,VL _ rfl,rfl,rfl⟩)
  ·exact wpAny_pyIter_ascii ha (on (fX:=λ i h=>h.IsStrIter ε.1.heap.objs.size "str_ascii_iterator" x t i) (fR.walks (λ A' hh=>Walks.strAscii hh _ x t) hz (λ i h KY=>fq (λ o ho hc _=>(ay o _ ho hc (by decide))) KY) it λ A' i s9 Q E9 hst hQ=>wpAny_pyIter_striter_ascii hst hQ) ⟨_,VL _ rfl,rfl,rfl⟩)
 ·clear seq un;subst ex ep el
  refine bG (λ t0 u0 v0 dr=>qA λ e_ h=>?_) hd.HX;subst e_
  refine wpAny_pyIter_range (R.kF _ _ h) hp (on (fX:=λ i h=>IsRangeIter h ε.1.heap.objs.size (a+(i:Nat)*c) (((WI a b c).toNat:Int)-(i:Nat)) c) (fR.walks (n:=(WI a b c).toNat) (λ A' hh=>Walks.range hh _ a c _) (by unfold dg;rw [Vl,YJ]) (λ i h KY=>ay _ _ KY rfl (by decide)) (λ F9 Pg i v z hv hz=>?_) (λ A' i s9 Q E9 hst hQ=>wpAny_pyIter_rangeiter hst hQ)) ?_)
  ·refine qE (λ t e_=>?_) hz;subst e_
   unfold dg at hv
   rw [Wy] at hv
   refine qM (λ j hj e_=>?_) hv;subst e_
   refine qE (λ h1 h2=>?_) (Xp.mp hj)
   rw [List.getElem_range] at h2
   subst h2
   exact .int _ _
  ·show (ε.1.heap.push _).get? _=_
   rw [VL _ rfl,show ((WI a b c).toNat:Int)-((0:Nat):Int)=WI a b c from (Int.sub_zero _).trans (ZU (pY a b c)),show a+((0:Nat):Int)*c=a from (congrArg (a + ·) (XH c)).trans (Yv a)]
 ·clear seq un;subst ex el
  refine ak (λ ax xs e_ hf hl=>?_) hd.lQ;subst e_
  exact wpAny_pyIter_tuple (items:=xs.toArray) ⟨_,R.kF _ _ hf,rfl,_,rfl⟩ (on fR.tup ⟨_,VL _ rfl,rfl,rfl⟩)
end lY
theorem Ik {C st F ρ s Q' E}:lY.aq s C Q' st E F ρ:=sk (S:=lY.S0) lY.here (s,C,Q',st,E,F,ρ)
section
variable {C:Cx}{st:St}{X:XK}{kb d:Nat}
theorem iB.ev {m:Sem Vg}{Q:(St->Prop)->List V->List V->St->Prop}(h:EV C m st (λ src st1=>∃ p l,itemsOf st1 src=some (p,l)/\p/\Q (λ st=>∃ p,itemsOf st src=some (p,l)) [src] l st1) X):iB C m st uv Q X:=λ F ρ s R Q' E hQ hE=>by
 refine h F ρ s R _ E ?_ hE
 rintro F1 bE x s1 l1 k1 hp0;apply hp0.elim;intro src st1;refine ak λ p l hl hp hq=>?_;intro R1 d1
 exact Ik R1 d1 hl hp λ I fX h' U Z K G h0=>hQ F1 bE _ [src] [x] l st1 I [I] fX s1 h' s1.toks l1 k1 hq (.cons d1 .nil) R1 (λ b hb=>Vi.mp hb▸U) Z K G h0 ⟨p,hl⟩
noncomputable def xP (C:Cx)(kb:Nat)(target:Expr)(body:List Stmt)(bF:St->Prop)(Q:Fl->St->Prop)(X:XK):List V->St->Prop
 | [],st=>bF st/\Q .next st
 | v::r,st=>bF st/\∀ G₁,Ext C G₁->AS (C.keep G₁) (VR target C.env) v st (λ st1=>ES (C.keep G₁) kb (execs body C.env) st1
   (λ f st2=>eE (xP C kb target body bF Q X r st2) (Q .next st2) (λ w=>Q (.ret w) st2) f) X) X
theorem drop_cons {α:Type}{l r:List α}{i:Nat}{v:α}(h:l.drop i=v::r):i<l.length/\l[i]?=some v/\l.drop (i+1)=r:=
 bY (Nat.lt_of_not_le λ q=>(nomatch (X8.mpr q).symm.trans h)) ((ab (xs:=l) (i:=i) (j:=0)).symm.trans (congrArg (·[0]?) h)) (List.tail_drop.symm.trans (congrArg List.tail h))
end
namespace pZ
noncomputable def aq (C:Cx)(X:XK)(Q:Fl->St->Prop)(E:Vg->Vh->Prop)(kb:Nat)(F:Fz)(ρ:Ky)(s:Vh)(Q':Flow->Vh->Prop)(st:St)(d:Nat)(iter:Expr)(pos:Pos):Prop:=∀ (G:C.Good d) (Tp:C.Top) (target:Expr) (body:List Stmt) (tg:Expr->Prop) (hset:aG iter=true) (kq:tg target) (h:iB C (eval iter C.env) st tg (λ bF bT l st1=>∃ kb',kb<=kb'/\rU kb' bT/\xP C kb' target body bF Q X l st1) X)  (R:Rel C F ρ st s) (hQ:∀ F' ρ' x s',aZ F F'->fy kb ρ ρ'->cy C Q F' ρ' x s'->Q' x s') (hE:∀ F' ρ' x s',aZ F F'->fy kb ρ ρ'->cC C X F' ρ' x s'->E x s'),wpAny (model C.prog C.w) C.A (exec (.For target iter body [] pos) C.env) Q' E s
noncomputable def S0:=OH aq
noncomputable def ε:=eu (by walk_at "ne") S0
theorem here:S0 ε:=by
 intro G Tp target body tg hset kq h R hQ hE
 refine wpAny_For (h ε.2.2.2.2.2.1 ε.2.2.2.2.2.2.1 ε.2.2.2.2.2.2.2.1 R _ ε.2.2.2.1 ?_ (xG hE (aZ.refl _) (bD.refl _))) (rV hset)
 intro F1 bE bF bT pX l st1 I fp fX s1 h1 tk l1 k1 ⟨kb',hkb,Ph,hW⟩ hd R0 U0 _ K0 Go hst hok
 have U:∀ b,b∈fp->aP ε.1 F1 bE b:=λ b hb=>R0.cV (U0 b hb)
 have R1:=R0.keeps K0 tk
 have hG:∀ b,b∈fp->ε.1.G b=none:=λ b hb=>(U b hb).2.1
 have hn:∀ b,b∈fp->¬ ε.1.own b:=λ b hb=>(U b hb).2.2.2
 refine codeAny_forLoop_any (λ n s'=>∃ F' ρ' st' i,aZ F1 F'/\fy kb' bE ρ'/\Rel ε.1 F' ρ' st' s'/\(∀ b,b∈fp->aP ε.1 F' ρ' b)/\fX i s'.heap/\xP ε.1 kb' target body bF ε.2.2.1 ε.2.1 (l.drop i) st'/\i<=l.length/\n=l.length-i) ?_ l.length
  (d7 F1 bE st1 0 (cO (aZ.refl _) ((bD.refl _).b _) R1 U (dG hst hW (WC _) rfl)))
 intro n s';refine bG λ F' ρ' st' i=>bB λ lF lK R' U'=>bQ λ zB hW' hi e_=>?_;subst e_
 have Eu:aF F' ρ' bT pX:=hd.monoB lF lK Ph
 cases hdr:l.drop i with
 | nil=>
  rw [hdr] at hW'
  have hi':i=l.length:=YA hi (X8.mp hdr)
  refine V6 (Go.done rfl rfl G.handled R' U' (hi'▸zB) Eu hW'.1 (λ s''=>Rel ε.1 F' ρ' st' s'') _ λ s'' r=>r) (λ r s'' h2=>?_) λ _ _ e=>e
  refine qA (λ e_ Rn=>?_) h2;subst e_
  exact ZN (hQ F' ρ' _ _ (l1.trans lF) ((k1.b ε.2.2.2.2.1).trans (lK.le hkb)) (cy.in hW'.2 Rn .next))
 | cons v r=>
  rw [hdr] at hW'
  refine fJ (λ hlt hv hr=>?_) (drop_cons hdr)
  refine V6 (Go.turn (C:=ε.1) (target:=target) rfl rfl G.handled R' U' zB Eu hW'.1 hv kq (λ z s2=>∃ F2,aZ F' F2/\Rel ε.1 F2 ρ' st' s2/\(∀ b,b∈fp->aP ε.1 F2 ρ' b)/\Den F2 ρ' v z/\fX (i+1) s2.heap) _ λ F2 z s2 a b c q e=>ir F2 a b c (⟨q,e⟩)) (λ r0 s2 h2=>?_) λ _ _ e=>e
  induction r0 with
  | none=>exact h2.elim
  | some z=>
   refine V6 h2 (λ _ s2 h2=>?_) λ _ _ e=>e
   refine fZ (λ F2 l2 R2 U2=>qA λ dz zC=>?_) h2
   have KZ:Ext ε.1 (cW ε.1.G fp s2.heap):=⟨kR hG,λ b hb=>by
    show (if b∈fp then _ else ε.1.G b)=none
    rw [if_neg λ q=>hn b q hb];exact G.mS b hb⟩
   have M3:∀ F3 fO e s3,aZ F2 F3->fy kb' ρ' fO->cC (ε.1.keep (cW ε.1.G fp s2.heap)) ε.2.1 F3 fO e s3->notedBy (model ε.1.prog ε.1.w) ε.1.A ε.1.env (λ e s''=>cameBackBy (model ε.1.prog ε.1.w) ε.1.A ε.1.env ε.2.2.2.1 e s'') e s3:=by
    rintro F3 fO e s3 l3 k3 hp0;apply hp0.elim;rintro cls arg st3 hx Rx Xx
    refine uR G Tp (Rx.vR KZ.1) (Xx.vR KZ.1) λ s4 R4 X4=>?_
    exact hE F3 fO e s4 (l1.trans (lF.trans (l2.trans l3))) (((k1.b kb').trans (lK.trans k3)).le hkb) ⟨cls,arg,st3,hx,R4,X4⟩
   refine hW'.2 _ KZ F2 ρ' _ z (R2.cW U2) dz _ _ ?_ λ F3 fO e s3 l3 k3=>M3 F3 fO e s3 l3 (k3.b _)
   rintro F3 fO _ s3 l3 k3 hp0;apply hp0.elim;rintro st3 h3 R3
   refine h3 F3 fO s3 R3 _ _ ?_ λ F4 vO e s4 l4 k4=>M3 F4 vO e s4 (l3.trans l4) ((k3.b _).trans k4)
   rintro F4 vO f s4 l4 k4 hp0;apply hp0.elim;rintro fl xh h4 R4 d4
   refine fJ (λ R5 U5 same=>?_) (Rel.AZ G hG hn (Go.live _ _ zC) R4)
   have rM:=lF.trans (l2.trans (l3.trans l4))
   have mT:=lK.trans ((k3.b kb').trans k4)
   have fin:∀ {f':Flow}{QX:Fl},ε.2.2.1 QX xh->xC F4 vO QX f'->ε.2.2.2.2.2.2.2.2.1 f' s4:=λ q dd=>hQ F4 vO _ _ (l1.trans rM) (((k1.b kb').trans mT).le hkb) (cy.in q R5 dd)
   have more:xP ε.1 kb' target body bF ε.2.2.1 ε.2.1 r xh->∃ m,m<l.length-i/\∃ F' ρ' st' i,aZ F1 F'/\fy kb' bE ρ'/\Rel ε.1 F' ρ' st' s4/\(∀ b,b∈fp->aP ε.1 F' ρ' b)/\fX i s4.heap/\xP ε.1 kb' target body bF ε.2.2.1 ε.2.1 (l.drop i) st'/\i<=l.length/\m=l.length-i:=λ q=>
    aC (l.length-(i+1)) (Nat.sub_lt_sub_left hlt (Wf i)) (d7 F4 vO xh (i+1) (cO rM mT R5 U5 (dG (Go.frame _ _ _ zC same) (hr▸q) hlt rfl)))
   cases d4 with
   | next=>exact more h4
   | cont=>exact more h4
   | brk=>exact fin h4 .next
   | ret hd=>exact fin h4 (.ret hd)
end pZ
theorem ES.Ew {C:Cx}{st:St}{X:XK}{kb d:Nat}{iter:Expr}{pos:Pos}{Q:Fl->St->Prop}(G:C.Good d)(Tp:C.Top){target:Expr}{body:List Stmt}{tg:Expr->Prop}(hset:aG iter=true)(kq:tg target)(h:iB C (eval iter C.env) st tg (λ bF bT l st1=>∃ kb',kb<=kb'/\rU kb' bT/\xP C kb' target body bF Q X l st1) X):ES C kb (exec (.For target iter body [] pos) C.env) st Q X:=λ F ρ s R Q' E hQ hE=>sk (S:=pZ.S0) pZ.here (C,X,Q,E,kb,F,ρ,s,Q',st,d,iter,pos) G Tp target body tg hset kq h  R hQ hE
end
section
noncomputable def oq (l:List V):List V:=l.zipIdx.map λ p=>.tup [.int (p.2:Nat),p.1]
noncomputable def r9 (l m:List V):List V:=(l.zip m).map λ p=>.tup [p.1,p.2]
theorem Cq {l:List V}{i:Nat}{v:V}(h:(oq l)[i]?=some v):∃ w,l[i]?=some w/\v=.tup [.int (i:Nat),w]:=by
 unfold oq at h
 rw [Wy,List.getElem?_zipIdx,Option.map_map] at h
 refine qM (λ w h1 h2=>?_) h
 exact aC w h1 (by rw [<-h2];show V.tup [.int ((0+i:Nat):Int),w]=_;rw [Ws])
theorem Cr (l:List V):(oq l).length=l.length:=by unfold oq;rw [Vl,List.length_zipIdx]
theorem Ex {l m:List V}{i:Nat}{v:V}(h:(r9 l m)[i]?=some v):∃ a b,l[i]?=some a/\m[i]?=some b/\v=.tup [a,b]:=by
 unfold r9 at h
 rw [Wy] at h
 refine qM (λ ef h1 h2=>?_) h;obtain ⟨a,b⟩:=ef
 refine qA (λ h1 h3=>?_) (List.getElem?_zip_eq_some.mp h1)
 exact ay a b h1 h3 h2.symm
theorem Ey {l m:List V}:l[(r9 l m).length]?=none\/m[(r9 l m).length]?=none:=by
 unfold r9
 rw [Vl,List.length_zip]
 rcases de l.length m.length with h | h
 ·rw [YB h];exact .inl (VW.mpr (VD _))
 ·rw [Yo h];exact .inr (VW.mpr (VD _))
section
variable {C:Cx}{F:Fz}{ρ:Ky}{st:St}{s:Vh}{prog:Wi}{w:WK}
theorem aP.je {a T:Addr}{o:Obj}(U:aP C F ρ a)(h:a≠T):aP C (Internal.je F T o) ρ a:=⟨(if_neg h).trans U.1,U.2⟩
theorem Il {ys:List Vg}{i:Nat}{x z:Vg}(h:ys.toArray[i]?=some x)(h2:ys[i]?=some z):x=z:=by
 rw [Wq] at h
 exact Vf (h.symm.trans h2)
theorem fR.enum {src:V}{a e it:Addr}{l:List V}(hei:e≠it)(Sj:a≠e)(hai:a≠it):fR prog w (λ st=>aE st src=some l) [src] [.ref a] e [e,it] (oq l) rZ (λ i h=>(∃ old,IsEnum h e it (i:Nat) old)/\h.IsListIter it a i) where
 frame:=λ i h h' st hk=>⟨qE (λ old q=>⟨old,hk e (VC ..) _ q⟩) st.1,st.2.at λ o q=>hk it (VH _ (VC ..)) o q⟩
 live:=λ i h st b hb=>by
  rcases Vm.mp hb with rfl | hb
  ·refine qE (λ old q=>?_) st.1;exact ⟨_,q⟩
  ·obtain rfl:=Vi.mp hb;refine aI (λ o q _=>?_) st.2;exact ⟨o,q⟩
 turn:=by
  intro C A' F ρ st s i v target hp hw hh R U hst d ok hv ht Q E hQ
  refine MA (λ es k p e_=>?_) ht;subst e_
  refine qA (qE λ old he hit=>?_) hst
  refine ak (λ _ _ e1 dy _=>?_) d.cons_inv
  obtain rfl:=(Wu e1).1
  refine dM (λ ys vV hg' dl=>?_) (dw R dy ok)
  refine aI (λ w' Sk e_=>?_) (Cq hv);subst e_
  refine aI (λ z hz dz=>?_) (dl.get Sk)
  have hl:s.heap.IsList a ys.toArray:=⟨_,hg',rfl,_,rfl⟩
  refine wpAny_pyNext_enum_itemD (Draws.list (A:=A'.in1) hh it a hai ys.toArray) he ⟨hit,hl⟩ ((VM ..).symm▸(Xp.mp hz).1) hei (λ q=>?_) λ x h' tk hx ho hs' hT hsz hk=>?_
  ·rcases Vm.mp q with q | q
   ·exact hei q
   ·exact Sj (Vi.mp q).symm
  ·obtain rfl:=Il hx hz
   refine wpAny_letOwnedTupleGo_enum ho λ h2 Sl hs2=>?_
   have QY:s.heap.objs.size≠e:=λ q=>by have:=V1 he;rw [q] at this;exact V8 _ this
   have hti:s.heap.objs.size≠it:=λ q=>by refine aI (λ o h1 _=>?_) hit;have:=V1 h1;rw [q] at this;exact V8 _ this
   have R2:=R.moved (h':=h2) [e,it] U (λ b o hb q=>hs2.extBut b o (λ z=>hb (z▸VC ..)) (hk b o (λ z=>hb (z▸VC ..)) (λ z=>hb (z▸VH _ (VC ..))) q)) (tk+1)
   refine qA (λ l2 R3=>?_) (R2.adopt (o:=dN [.int (i:Nat) tk,x]) (R.cV (ez s.heap)) (hs2.extBut _ _ QY hT))
   refine hQ _ (.ref s.heap.objs.size) _ l2 R3 (λ b hb=>(U b hb).je ?_) (.tup (aX ..) (.cons (.int _ _) (.cons (dz.mono l2 (bD.refl _)) .nil))) ⟨⟨x,Sl⟩,hs'.1.extBut hs2.extBut hei.symm⟩
   rcases Vm.mp hb with rfl | hb
   ·exact QY.symm
   ·obtain rfl:=Vi.mp hb;exact hti.symm
 done:=by
  intro C A' F ρ st s hp hw hh R U hst d ok Q E hQ
  refine qA (qE λ old he hit=>?_) hst
  refine ak (λ _ _ e1 dy _=>?_) d.cons_inv
  obtain rfl:=(Wu e1).1
  refine dM (λ ys vV hg' dl=>?_) (dw R dy ok)
  have hl:s.heap.IsList a ys.toArray:=⟨_,hg',rfl,_,rfl⟩
  refine wpAny_pyNext_enum_endD (Draws.list (A:=A'.in1) hh it a hai ys.toArray) he ⟨(show ys.toArray.size=(oq l).length by rw [VM,Cr,dl.length])▸hit,hl⟩ λ h' hE=>⟨rfl,hQ _ (R.n8 (U it (VH _ (VC ..))) hE s.toks)⟩
 self:=λ A' i s Q E hst hQ=>qE (λ old he=>wpAny_pyIter_enum he hQ) hst.1
theorem QZ {P:Addr->Prop}{z a b c d x:Addr}(h:x∈[z,a,b,c,d])(h0:P z)(h1:P a)(h2:P b)(h3:P c)(h4:P d):P x:=
 (Vm.mp h).elim (λ e=>e▸h0) λ h=>(Vm.mp h).elim (λ e=>e▸h1) λ h=>(Vm.mp h).elim (λ e=>e▸h2) λ h=>(Vm.mp h).elim (λ e=>e▸h3) λ h=>Vi.mp h▸h4
theorem M5 {z a b c d x:Addr}(h:x∉[z,a,b,c,d]):x≠z/\x≠a/\x≠b/\x≠c/\x≠d:=by
 refine (cO ?_ ?_ ?_ ?_ ?_)<;>(rintro rfl;exact h (by simp))
theorem A0 {F:Fz}{ρ:Ky}{u v:V}{x y:Vg}(d:aF F ρ [u,v] [x,y]):Den F ρ u x/\Den F ρ v y:=by
 cases d with | cons d1 d=>cases d with | cons d2 _=>exact ⟨d1,d2⟩
theorem fR.zip {s1 s2:V}{a1 a2 z TI TO i1 i2:Addr}{l m:List V}(D:ZipApart z TI TO i1 i2 a1 a2):fR prog w (λ st=>aE st s1=some l/\aE st s2=some m) [s1,s2] [.ref a1,.ref a2] z [z,TI,TO,i1,i2] (r9 l m) rZ
  (λ i h=>IsZip h z TI TO .none/\IsPair h TI (.ref i1) (.ref i2)/\(∃ x y,IsPair h TO x y)/\h.IsListIter i1 a1 i/\h.IsListIter i2 a2 i) where
 frame:=λ i h h' st hk=>cO (hk z (by simp) _ st.1) (hk TI (by simp) _ st.2.1) (D7 (λ x y q=>(rD x y (hk TO (by simp) _ q))) st.2.2.1) (st.2.2.2.1.at λ o q=>hk i1 (by simp) o q) (st.2.2.2.2.at λ o q=>hk i2 (by simp) o q)
 live:=λ i h st b hb=>by
  exact QZ (P:=λ b=>∃ o,h.get? b=some o) hb ⟨_,st.1⟩ ⟨_,st.2.1⟩ (st.2.2.1.elim λ _ q=>q.elim λ _ q=>⟨_,q⟩) (st.2.2.2.1.elim λ o q=>⟨o,q.1⟩) (st.2.2.2.2.elim λ o q=>⟨o,q.1⟩)
 turn:=by
  intro C A' F ρ st s i v target hp hw hh R U hst d ok hv ht Q E hQ
  refine MA (λ es k p e_=>?_) ht;subst e_
  refine bB (λ hz hTI=>D7 λ x0 y0 hTO h1 h2=>?_) hst
  have dd:=A0 d
  refine dM (λ xs _ Pj Pk=>?_) (dw R dd.1 ok.1)
  refine dM (λ ys _ Mk Pn=>?_) (dw R dd.2 ok.2)
  refine ak (λ va vb Sm Sn e_=>?_) (Ex hv);subst e_
  refine aI (λ x hx dx=>?_) (Pk.get Sm)
  refine aI (λ y hy dy=>?_) (Pn.get Sn)
  refine wpAny_pyNext_zip_item D hz hTI hTO h1 h2 ⟨_,Pj,rfl,_,rfl⟩ ⟨_,Mk,rfl,_,rfl⟩ (x:=x) (y:=y) (by rw [Wq];exact hx) (by rw [Wq];exact hy) λ h' q1 q2 q3 q4 q5 q6 hk=>?_
  refine wpAny_letOwnedTupleGo_zip q1 λ h3 So M6=>?_
  have fr:∀ {b:Addr}{o:Obj},s.heap.get? b=some o->s.heap.objs.size≠b:=λ h q=>by have:=V1 h;rw [q] at this;exact V8 _ this
  have k2:∀ b o,b≠z->h'.get? b=some o->h3.get? b=some o:=λ b o hb q=>M6.extBut b o hb q
  have R2:=R.moved (h':=h3) [z,TI,TO,i1,i2] U (λ b o hb q=>by
   have hb:=M5 hb
   exact k2 b o hb.1 (hk b o hb.1 hb.2.2.1 hb.2.2.2.1 hb.2.2.2.2 q)) s.toks
  refine qA (λ l2 R3=>?_) (R2.adopt (o:=dN [x,y]) (R.cV (ez s.heap)) (k2 _ _ (fr hz) q5))
  refine hQ _ (.ref s.heap.objs.size) _ l2 R3 (λ b hb=>(U b hb).je ?_) (.tup (aX ..) (.cons (dx.mono l2 (bD.refl _)) (.cons (dy.mono l2 (bD.refl _)) .nil))) (cO So ?_ (rD x y (k2 _ _ D.TOz q2)) (q3.extBut M6.extBut D.i1z) (q4.extBut M6.extBut D.i2z))
  ·have live:=QZ (P:=λ b=>∃ o,s.heap.get? b=some o) hb ⟨_,hz⟩ ⟨_,hTI⟩ ⟨_,hTO⟩ (h1.elim λ o q=>⟨o,q.1⟩) (h2.elim λ o q=>⟨o,q.1⟩)
   refine qE (λ o q=>?_) live
   exact (fr q).symm
  ·exact k2 _ _ D.TIz (hk _ _ D.TIz D.TITO D.TIi1 D.TIi2 hTI)
 done:=by
  intro C A' F ρ st s hp hw hh R U hst d ok Q E hQ
  refine bB (λ hz hTI=>D7 λ x0 y0 hTO h1 h2=>?_) hst
  have dd:=A0 d
  refine dM (λ xs _ Pj Pk=>?_) (dw R dd.1 ok.1)
  refine dM (λ ys _ Mk Pn=>?_) (dw R dd.2 ok.2)
  refine wpAny_pyNext_zip_end hh D hz hTI hTO h1 h2 ⟨_,Pj,rfl,_,rfl⟩ ⟨_,Mk,rfl,_,rfl⟩ ?_ λ h' hk=>⟨rfl,hQ _ (R.moved (h':=h') [z,TI,TO,i1,i2] U (λ b o hb q=>by
   have hb:=M5 hb
   exact hk b o hb.1 hb.2.2.1 hb.2.2.2.1 hb.2.2.2.2 q) s.toks)⟩
  rw [Wq,Wq,VW,VW,<-Pk.length,<-Pn.length,<-VW,<-VW]
  exact Ey
 self:=λ A' i s Q E hst hQ=>wpAny_pyIter_zip hst.1 hQ
end
section
variable {C:Cx}{st:St}{X:XK}{d:Nat}
theorem sd (G:C.Good d) {id:Str}{f:V}{p:Pos}{F:Fz}{ρ:Ky}{s:Vh} (R:Rel C F ρ st s) (hv:nameV C.env.scope.names C.K st.vars id=some f) (hd:sB id "__debug__" = false) {Q E:Vg->Vh->Prop} (h:∀ y,Den F ρ f y->Q y s) :
  wpAny (model C.prog C.w) C.A (eval (.Name id p) C.env) Q E s:=Zu (lT G.toGood0 R hv h) (beq_eq_false_iff_ne.mpr λ e=>HQ ((dH.mpr e).symm.trans hd))
theorem iB.enum (G:C.Good d) {id:Str}{p pos:Pos}{e:Expr}{Q:(St->Prop)->List V->List V->St->Prop} (hv:nameV C.env.scope.names C.K st.vars id=some (.con (.type "enumerate"))) (hd:sB id "__debug__" = false) (hs:notStar e=true)
  (h:EV C (eval e C.env) st (λ src st1=>∃ l,aE st1 src=some l/\Q (λ st=>aE st src=some l) [src] (oq l) st1) X):iB C (eval (.Call (.Name id p) [e] [] pos) C.env) st rZ Q X:=λ F ρ s R Q' E hQ hE=>by
 refine Y7 (sd G R hv hd λ y hy=>?_)
 apply hy.bL
 have hk:=gK pos C.env [] rfl
 refine a7 (P:=λ _=>True) (by rw [(fQ pos C.env [e] (fP hs)).1,hk.2.2.2];rfl) (λ _ _=>aC .machine (.inr (.inl rfl)) (ZE rfl)) ?_
 refine fB (args:=[e]) (kws:=[]) (fP hs) rfl ?_
 refine Zv (h F ρ s R _ E ?_ hE) (cP hs)
 rintro F1 bE x s1 l1 k1 hp0;apply hp0.elim;intro src st1;refine aI λ l hl hq=>?_;intro R1 d1
 refine ZM (X7 ⟨trivial,?_⟩)
 refine aU (λ a xs ep e_=>qA λ hg dO=>?_) (bH R1 d1 hl);subst e_
 have ha:=V1 hg
 refine call_enumerate_list ⟨_,hg,rfl,_,rfl⟩ λ h' he hit hsz hk=>wpAny_pyIter_enum he ?_
 refine hQ F1 bE _ [src] [.ref a] (oq l) st1 _ [s1.heap.objs.size+1,s1.heap.objs.size] _ s1 h' s1.toks l1 k1 hq (.cons d1 .nil) R1 (λ b hb=>?_) (hsz.symm▸Vw _ _) hk (fR.enum (Xu (Wf _)) (WE (Zh ha)) (WE ha)) ⟨⟨_,he⟩,hit⟩ hl
 rcases Vm.mp hb with rfl | hb
 ·exact WU (Xy _)
 ·obtain rfl:=Vi.mp hb;exact ez _
theorem iB.zip (G:C.Good d) {id:Str}{p pos:Pos}{e f:Expr}{Q:(St->Prop)->List V->List V->St->Prop} (hv:nameV C.env.scope.names C.K st.vars id=some (.con (.type "zip"))) (hd:sB id "__debug__" = false) (hs:notStar e=true) (hs2:notStar f=true)
  (h:EV C (eval e C.env) st (λ s1 st1=>EV C (eval f C.env) st1 (λ s2 st2=>∃ l m,aE st2 s1=some l/\aE st2 s2=some m/\Q (λ st=>aE st s1=some l/\aE st s2=some m) [s1,s2] (r9 l m) st2) X) X):iB C (eval (.Call (.Name id p) [e,f] [] pos) C.env) st rZ Q X:=λ F ρ s R Q' E hQ hE=>by
 refine Y7 (sd G R hv hd λ y hy=>?_)
 apply hy.bL
 have hk:=gK pos C.env [] rfl
 refine a7 (P:=λ _=>True) (by rw [(fQ pos C.env [e,f] (VG.mpr ⟨hs,fP hs2⟩)).1,hk.2.2.2];rfl) (λ _ _=>aC .machine (.inr (.inl rfl)) (ZE rfl)) ?_
 refine fB (args:=[e,f]) (kws:=[]) (VG.mpr ⟨hs,fP hs2⟩) rfl ?_
 refine Zv (h F ρ s R _ E ?_ hE) (cP hs)
 rintro F1 bE x s1 l1 k1 hp0;apply hp0.elim;rintro Po st1 h1 R1 d1
 refine Zv (h1 F1 bE s1 R1 _ E ?_ λ F' ρ' e s' l k=>hE F' ρ' e s' (l1.trans l) (k1.trans k)) (cP hs2)
 rintro F2 bZ y s2 l2 k2 hp0;apply hp0.elim;intro Pp st2;refine ak λ l m hl hm hq=>?_;intro R2 d2
 refine ZM (X7 ⟨trivial,?_⟩)
 have d1:=d1.mono l2 k2
 refine aU (λ a xs ep e_=>qA λ hg dO=>?_) (bH R2 d1 hl);subst e_
 refine aU (λ b ys xu e_=>qA λ Mk Ez=>?_) (bH R2 d2 hm);subst e_
 refine call_zip_2 ⟨_,hg,rfl,_,rfl⟩ ⟨_,Mk,rfl,_,rfl⟩ λ h' q1 q2 q3 q4 q5 q6 hk=>wpAny_pyIter_zip q1 ?_
 refine hQ F2 bZ _ [Po,Pp] [.ref a,.ref b] (r9 l m) st2 _ [s2.heap.objs.size+4,s2.heap.objs.size+2,s2.heap.objs.size+3,s2.heap.objs.size,s2.heap.objs.size+1] _ s2 h' s2.toks (l1.trans l2) (k1.trans k2) hq (.cons d1 (.cons d2 .nil)) R2 (λ c hc=>WU ?_) (q6.symm▸Vw _ _) hk (fR.zip (zipApart_new (V1 hg) (V1 Mk))) (cO q1 q2 (rD _ _ q3) q4 q5) ⟨hl,hm⟩
 simp only [Vm,Vr,or_false] at hc
 rcases hc with rfl | rfl | rfl | rfl | rfl
 ·exact Vw _ _
 ·exact Vw _ _
 ·exact Vw _ _
 ·exact VD _
 ·exact Vw _ _
end
end
section
section
variable {prog:Wi}{w:WK}{A:Wk}{E:Vg->Vh->Prop}{s:Vh}{I ax S:Addr}{items:Array Vg}
theorem Cs {i:Nat}{Q:Option Vg->Vh->Prop}(hh:A.handled=none)(hit:s.heap.IsListIter I ax i)(hl:s.heap.IsList ax items)(hx:items[i]?=none)
  (hQ:∀ h',ea I s.heap h'->(∃ o,h'.get? I=some o)->Q none {s with heap:=h'}):wpAny (model prog w) A (pyNext (.ref I)) Q E s:=by
 refine fq (λ o ho hc hd=>?_) (id hit)
 refine fq (λ ol M7 _=>qE λ nl hdl=>?_) hl
 unfold pyNext
 refine Vc (wpAny_attempt (XA (name:=Ve "__next__") hit.typeIs W9 (XJ W9 hit.typeIs ZT ?_ (Z0 _))))
 show wpAny _ _ (field (.ref I) 0 >>= _) _ _ s
 refine Vc (WZ ho hd (x:=.ref ax) rfl ?_)
 show wpAny _ _ (if (Wv ax==WR)=true then _ else _) _ _ s
 rw [if_neg (show ¬ ((Wv ax==WR)=true) from Vp)]
 show wpAny _ _ (field (.ref I) 1 >>= _) _ _ s
 refine Vc (WZ ho hd (x:=.int i 0) rfl ?_)
 show wpAny _ _ (seqItems? (.ref ax) >>= _) _ _ s
 refine Vc (XN M7 hdl ?_)
 simp only [XC,hx]
 refine Vc (Yt (Vc (Zg ho hd (by simp) ?_)))
 show wpAny _ _ (newExc (.type "StopIteration") [] >>= _) _ _ _
 refine Vc ?_
 simp only [newExc,newTuple]
 refine Vc (Xh ?_ (by size_fits))
 refine Vc (m:=firstArgMember _ _) (Xn (a:=WR) (by first | rfl | (simp only [firstArgMember];rfl)) ?_)
 refine Xh ?_ (by size_fits)
 simp only [raiseNew]
 refine Vc (wpAny_handled ?_)
 rw [show A.in1.handled=none from hh]
 refine Vc (Vj (wpAny_throw ?_))
 refine Vc (YQ (T:="StopIteration") (b:=true) ⟨_,VL _ rfl,rfl⟩ isSubtype_stop ?_)
 exact Vj (hQ _ (((Wt ..).extBut.push _).push _) ⟨_,VA _ (VA _ (V7 _ ho (XT (Y8 hd _))))⟩)
noncomputable def M8 (S I:Addr)(items:List Vg)(i:Nat)(acc:List Vg)(s s':Vh):Prop:=
 (∃ h' tk,s'={s with heap:=h',toks:=tk})/\(∀ b o,b≠S->b≠I->s.heap.get? b=some o->s'.heap.get? b=some o)/\(∃ o,s'.heap.get? I=some o)/\∃ c,s'.heap.get? S=some (ao (acc++items.drop i) c)
theorem Im {R:bc->Vh->Prop}{res:Vg}(hh:A.handled=none)(hne:ax≠I)(hSI:S≠I)(OM:S≠ax)(hz:items.size<=sizeLine):∀ (k i:Nat) (s:Vh) (acc:List Vg) (c:Nat),items.size-i=k->i<=items.size->s.heap.IsListIter I ax i->s.heap.IsList ax items->
  s.heap.get? S=some (ao acc c)->acc.length<=i->(∀ s',M8 S I items.toList i acc s s'->R (.ok (.ret res)) s')->codeAny (model prog w) A (.builtin "list.extend.loop" ⟨[.ref S,.ref I,res],[]⟩) R s:=by
 intro k
 induction k with
 | zero=>
  intro i s acc c hk hi hit hl hS hacc hR
  obtain rfl:i=items.size:=YA hi (Yw.mp hk)
  refine Y4 PySem.F.entry_extend_loop ?_
  rw [Yb XW _]
  show wpAny _ A.in1 (pyNext (.ref I) >>= _) _ _ s
  refine Vc (Cs (A:=A.in1) hh hit hl (Array.getElem?_eq_none (VD _)) λ h' hE ha=>Vj (hR _ ⟨(rD h' s.toks rfl),λ b o _ hb e=>hE b o hb e,ha,c,?_⟩))
  rw [List.drop_of_length_le (VK (XF ..)),VT]
  exact hE S _ hSI hS
 | succ k ih=>
  intro i s acc c hk hi hit hl hS hacc hR
  have hlt:i<items.size:=Nat.lt_of_sub_eq_succ hk
  refine Y4 PySem.F.entry_extend_loop ?_
  rw [Yb XW _]
  show wpAny _ A.in1 (pyNext (.ref I) >>= _) _ _ s
  refine Vc (Yu hit hl (XX hlt) λ h' kU hs'=>?_)
  have hS':h'.get? S=some (ao acc c):=hs'.extBut S _ hSI hS
  show wpAny _ A.in1 (updateSeq S (·.push items[i]) >>= _) _ _ _
  have gn:=V7 (Wr λ x:Array Vg=>x.push items[i]) hS' (by unfold ao Wr;rfl)
  have K1:∀ b o,b≠S->h'.get? b=some o->(h'.update S (Wr λ x:Array Vg=>x.push items[i])).get? b=some o:=λ b o hb e=>(V2 _ _ (Ym hb)).trans e
  refine Vc (YC hS' rfl (Vj ⟨YX XW _,ih (i+1) _ (acc++[items[i]]) (if (acc++[items[i]]).toArray.size==acc.toArray.size then c else c+1) ?_ hlt (kU.at λ o e=>K1 I o hSI.symm e) (hl.at λ o e=>K1 ax o OM.symm (hs'.extBut ax o hne e)) ?_ ?_ λ s' q=>?_⟩) ?_)
  ·rw [Nat.sub_add_eq,hk];rfl
  ·rw [gn];unfold ao Wr;simp
  ·rw [Vk];exact WN hacc
  ·refine bQ (λ ef e2 e3=>qE λ c' e4=>?_) q;refine D7 (λ h2 tk e1=>?_) ef
   refine hR s' ⟨(rD h2 tk e1),λ b o h1 h2 e=>e2 b o h1 h2 (K1 b o h1 (hs'.extBut b o h2 e)),e3,c',?_⟩
   rw [e4,Vs,List.drop_eq_getElem_cons (l:=items.toList) (i:=i) (by rw [XF];exact hlt),Array.getElem_toList];rfl
  ·rw [VM];exact Vd hacc (Vd hi hz)
end
namespace fD
noncomputable def aq (s:Vh)(A:Wk)(E Q:Vg->Vh->Prop):Prop:=∀ {prog:Wi}{w:WK}{I ax:Addr}{items:Array Vg}{i:Nat} (hh:A.handled=none) (hne:ax≠I) (hz:items.size<=sizeLine) (hi:i<=items.size) (hit:s.heap.IsListIter I ax i) (hl:s.heap.IsList ax items) (hQ:∀ h' tk c,(∀ b o,b≠I->s.heap.get? b=some o->h'.get? b=some o)->(∃ o,h'.get? I=some o)->h'.get? s.heap.objs.size=some (ao (items.toList.drop i) c)->Q (.ref s.heap.objs.size) {s with heap:=h',toks:=tk}),wpAny (model prog w) A (call (.type "list") [.ref I]) Q E s
noncomputable def S0:=u4 aq
noncomputable def ε:=eu (by walk_at "ne") S0
theorem here:S0 ε:=by
 intro prog w I ax items i hh hne hz hi hit hl hQ
 have ne:∀ {b:Addr}{o:Obj},ε.1.heap.get? b=some o->ε.1.heap.objs.size≠b:=λ h e=>V8 _ (e▸V1 h)
 have hSI:ε.1.heap.objs.size≠I:=aI (λ _ h _=>ne h) hit
 have OM:ε.1.heap.objs.size≠ax:=aI (λ _ h _=>ne h) hl
 refine callType_codes (Q₁:=λ obj s₁=>obj=.ref ε.1.heap.objs.size/\s₁={ε.1 with heap:=ε.1.heap.push {cls:=.type "list",data:=.seq #[]}}) PySem.F.called_list (PySem.F.typeCall_list_1 _) PySem.F.entry_list_init
  (code_list_new _ ⟨rfl,rfl⟩) λ obj s₁ h₁=>?_
 refine qA (λ e_ cg=>?_) h₁;subst e_ cg
 generalize Pq:ε.1.heap.objs.size=S at *
 have hS:(ε.1.heap.push {cls:=.type "list",data:=.seq #[]}).get? S=some {cls:=.type "list",data:=.seq #[]}:=Pq▸VL _ rfl
 refine bY ⟨_,hS,rfl⟩ (PySem.F.args_list_init_2 _ _) ?_
 show wpAny _ ε.2.1.in1.in1 (do let old <-Builtin.List.listItems (.ref S);Builtin.List.listUpdate (.ref S) (λ _=>#[]);letGo old.toList.reverse;YK (.ref S) (.ref I) .none) _ _ _
 refine Vc ?_
 unfold Builtin.List.listItems
 refine Vc (XN hS rfl (Vj ?_))
 show wpAny _ ε.2.1.in1.in1 (updateSeq S (λ _=>#[]) >>= λ _=>letGo (#[]:Array Vg).toList.reverse >>= λ _=>YK (.ref S) (.ref I) .none) _ _ _
 refine Vc (YC hS rfl ?_)
 have M9:=V7 (Wr (λ _=>(#[]:Array Vg))) hS rfl
 have K1:∀ b o,b≠S->ε.1.heap.get? b=some o->((ε.1.heap.push {cls:=.type "list",data:=.seq #[]}).update S (Wr (λ _=>(#[]:Array Vg)))).get? b=some o:=
  λ b o hb e=>(V2 _ _ (Ym hb)).trans (VA _ e)
 refine Vc (ZH ?_)
 have kU:=hit.at λ o e=>K1 I o hSI.symm e
 have hl':=hl.at λ o e=>K1 ax o OM.symm e
 have h1:Builtin.List.listSameRef (.ref S) (.ref I)=false:=by simp [Builtin.List.listSameRef,hSI]
 unfold YK
 refine Vc (ii kU.typeIs ?_)
 rw [if_neg (by rw [h1];decide)]
 refine Vc (wpAny_pyIter_listiter kU ?_)
 refine Vc (Vu ?_)
 unfold Builtin.List.listLengthHint
 refine Vc (Xm kU.typeIs PySem.F.nolen_li ?_)
 show wpAny _ ε.2.1.in1.in1 (specialOf (Wv I) (Ve "__length_hint__") >>= _) _ _ _
 refine Vc (Xm kU.typeIs PySem.F.hint_li ?_)
 generalize hid:("list_iterator.__length_hint__" : String)=Q0
 (fail_if_success (clear hid Q0));wp_delta
 rw [show splitId Q0=some ("list_iterator","__length_hint__") from by subst hid;decide +kernel];subst hid
 refine Vc (YQ (b:=true) kU.typeIs (by rw [YN];kernel_rfl) ?_)
 refine Vj ?_
 rw [if_neg (by decide)]
 refine Vj ⟨YX XW _,Im (A:=ε.2.1.in1) hh hne hSI OM hz _ i _ [] 0 rfl hi kU hl' ?_ (WC _) λ s' q=>⟨rfl,?_⟩⟩
 ·exact M9.trans (by unfold ao Wr;rfl)
 ·refine bQ (λ ef e2 e3=>qE λ c' e4=>?_) q;refine D7 (λ h2 tk e_=>?_) ef;subst e_
  exact hQ h2 tk c' (λ b o hb e=>e2 b o (λ q=>V8 _ (by have:=V1 e;rwa [q,<-Pq] at this)) hb (K1 b o (λ q=>V8 _ (by have:=V1 e;rwa [q,<-Pq] at this)) e)) e3 e4
end fD
theorem vW {A E s Q}:fD.aq s A E Q:=sk (S:=fD.S0) fD.here (s,A,E,Q)
section
variable {C:Cx}{st:St}{X:XK}{d:Nat}{Q:QV}
theorem aF.drop {F:Fz}{ρ:Ky}:∀ {l:List V}{xs:List Vg} (i:Nat),aF F ρ l xs->aF F ρ (l.drop i) (xs.drop i)
 | _,_,0,h=>h
 | _,_,_+1,.nil=>.nil
 | _,_,i+1,.cons _ h=>h.drop i
theorem CJ.Io (G:C.Good d){n i:Nat}{src:V}{l:List V}(hn:J st.heap n=some (.it src i))(hs:aE st src=some l)(hi:i<=l.length)(hz:l.length<=sizeLine)(h:Q (.lst (l.drop i)) {st with heap:=af st.heap n .any}):CJ C (.con (.type "list")) [.loc n] [] [] st Q X:=λ F ρ s y xs ys R hx ha hk Q' E hQ hE=>by
 apply hx.bL;apply hk.aD
 apply ha.au;intro _ _ hv hr
 apply hr.aD;apply hv.eg;intro I ig
 refine bG (λ o a zs ep=>bB λ h2 hc hd hg=>qA λ hl dO=>?_) (Et R hn ig hs)
 have hne:a≠I:=λ e=>by
  rw [e,h2] at hg;obtain rfl:=Vf hg;exact absurd (Value.type.inj hc) (by decide)
 have Q3:zs.toArray.size=l.length:=(VM ..).trans hl.length.symm
 refine vW G.handled hne (items:=zs.toArray) (Q3.symm▸hz) (Q3.symm▸hi) ⟨o,h2,hc,hd⟩ ⟨_,hg,rfl,_,rfl⟩ λ h' tk c hk=>qE λ o' ho' hS=>?_
 have hu:=V7 (λ _=>o') h2 (Heap.get?_some_iff.mp ho').2
 have R1:=R.upd hn ig (Wt s.heap I λ _=>o') hu .any s.toks
 refine qA (λ l2 R2=>?_) (R1.newF (h':=h') (a:=s.heap.objs.size) (o:=ao (zs.drop i) c) (λ b o e=>(Decidable.em (b=I)).elim (λ q=>by
  rw [q] at e ⊢;exact ho'.trans (hu.symm.trans e)) λ q=>hk b o q ((V2 _ _ (Ym q)).symm.trans e)) ((V2 _ _ (λ q=>by have:=V1 h2;rw [q] at this;exact V8 _ this)).trans (ez _)) (by rw [hS]) tk)
 exact hQ _ ρ _ _ l2 (bD.refl _) (Post.in h R2 (.lst (aX ..) ((hl.drop i).mono l2 (bD.refl _))))
end
end
section
section
variable {C:Cx}{st:St}{X:XK}{d:Nat}
theorem EV.Ct {o:Expr}{p pos:Pos}{Q:QV}(h:EV C (eval o C.env) st (λ a st1=>∃ l,aE st1 a=some l/\l.length<=sizeLine/\Q (.loc (fresh st1.heap)) (pP st1 l)) X):
  EV C (eval (.Subscript o (.Slice We We We p) pos) C.env) st Q X:=λ F ρ s R Q' E hQ hE=>by
 refine cx (h F ρ s R _ E ?_ hE)
 rintro F1 bE x s1 l1 k1 hp0;apply hp0.elim;intro a st1;refine fq λ l hl hz hq=>?_;intro R1 d1
 refine jp ?_
 rw [iz]
 refine Vj ?_
 refine Vj ?_
 refine Vj ?_
 refine qA (λ l5 R5=>?_) (R1.gI (o:={cls:=.type "slice",data:=.fields #[.none,.none,.none]}) rfl)
 refine aU (λ ad xs ep e_=>qA λ hget dO=>?_) (bH R5 (d1.mono l5 (bD.refl _)) hl);subst e_
 refine jD ⟨_,hget,rfl⟩ Zc.lookup (wpAny_getItem_list_slice (lo:=We) (hi:=We) (st:=We) ⟨_,hget,rfl,_,rfl⟩ (ZY _ _ _ _) .none .none .none nofun ?_ (by rw [VM,<-dO.length];exact hz))
 rw [slicePick_all]
 have k2:=fW (a:=(s1.heap.push {cls:=.type "slice",data:=.fields #[.none,.none,.none]}).objs.size) (kH R5)
 refine qA (λ _ R6=>?_) (R5.xD (o:=ao xs 0) (mo:=.lst l) rfl (.lst (dO.mono (aZ.refl _) k2)))
 exact hQ _ _ _ _ (l1.trans l5) (k1.trans k2) (Post.in (hq) (R6) (.loc (if_pos rfl)))
end
end
section
theorem typeCall_range_3 (a b c:Vg):checkTypeCall "range" ⟨[a,b,c],[]⟩=pure ():=by kernel_rfl
theorem newCall_range_3 (a b c:Vg):checkBuiltinCall "range.__new__" ⟨[.type "range",a,b,c],[]⟩=pure ():=by kernel_rfl
theorem initArgs_range_3 (obj a b c:Vg):argsOk "object.__init__" ⟨[obj,a,b,c],[]⟩:=by
 unfold argsOk;rw [signature?_of (id:="object.__init__") (n:=['_','_','t','i','n','i','_','_']) (o:=['t','c','e','j','b','o']) (by kernel_rfl) PySem.F.owner_object];kernel_rfl
section
variable {C:Cx}{st:St}{X:XK}{d:Nat}{Q:QV}
theorem CJ.EA {a b:Int} (h:Q (.qQ a b 1) st):CJ C (.con (.type "range")) [.int a,.int b] [] [] st Q X:=λ F ρ s x xs ys R hx ha hk Q' E hQ hE=>by
 apply hx.bL;apply hk.aD
 apply ha.au;intro _ _ hv hn
 apply hn.au;intro _ _ hv2 hn
 apply hn.aD;apply hv.aM;intro t;apply hv2.aM;intro u
 refine qA (λ l2 R2=>?_) (R.gI (o:=pL a b 1 t u s.toks) rfl)
 exact call_range_2 (hQ _ ρ _ _ l2 (bD.refl _) (Post.in (h) (R2.toks _) (.qQ (aX ..))))
theorem CJ.EC {a b c:Int} (hc:c≠0) (Sp:YD (b-a) c=false) (h:Q (.qQ a b c) st):CJ C (.con (.type "range")) [.int a,.int b,.int c] [] [] st Q X:=λ F ρ s x xs ys R hx ha hk Q' E hQ hE=>by
 apply hx.bL;apply hk.aD
 apply ha.au;intro _ _ hv hn
 apply hn.au;intro _ _ hv2 hn
 apply hn.au;intro _ _ Sq hn
 apply hn.aD;apply hv.aM;intro t;apply hv2.aM;intro u;apply Sq.aM;intro v
 refine qA (λ l2 R2=>?_) (R.gI (o:=pL a b c t u v) rfl)
 exact callType_new PySem.F.called_range (by decide) (typeCall_range_3 _ _ _) (newCall_range_3 _ _ _) (λ obj=>initArgs_range_3 obj _ _ _) PySem.F.entry_range_new
  (AutoRange.range___new___type_int_int_int_1 a b c t u v PySem.F.called_range.sub (λ e=>hc (Vf (Wc e)))) (bY Sp ⟨_,VL _ rfl,rfl⟩ (hQ _ ρ _ _ l2 (bD.refl _) (Post.in (h) R2 (.qQ (aX ..)))))
theorem CJ.xQ {v:V}{l:List V} (hl:aE st v=some l) (hz:l.length<=sizeLine) (h:Q (.loc (fresh st.heap)) (pP st l)):CJ C (.con (.type "list")) [v] [] [] st Q X:=λ F ρ s x xs ys R hx ha hk Q' E hQ hE=>by
 apply hx.bL;apply hk.aD
 apply ha.au;intro _ _ hv hn
 apply hn.aD
 refine aU (λ a zs ep e_=>qA λ hg hd=>?_) (bH R hv hl);subst e_
 refine call_list_seq a (.inl rfl) hg rfl rfl (λ h' c' hk hS=>?_) (by rw [VM,<-hd.length];exact hz)
 have k2:=fW (a:=s.heap.objs.size) (kH R)
 refine qA (λ _ R2=>?_) (R.MJ (h':=h') (a:=s.heap.objs.size) (o:=ao zs c') (mo:=.lst l) hk (ez _) hS (aA _) (.lst (hd.mono (aZ.refl _) k2)) s.toks)
 exact hQ _ _ _ _ (aZ.refl _) k2 (Post.in h R2 (.loc (if_pos rfl)))
theorem CJ.extend {n:Nat}{l m:List V}{v:V}(hn:J st.heap n=some (.lst l))(hm:aE st v=some m)(hz:l.length+m.length<=sizeLine)(h:Q .none {st with heap:=af st.heap n (.lst (l++m))}):CJ C (.con (.builtin "list.extend")) [.loc n,v] [] [] st Q X:=
 λ F ρ s x xs ys R hx ha hk Q' E hQ hE=>by
  apply hx.bL;apply hk.aD
  apply ha.au;intro _ _ hl hr
  apply hr.au;intro y _ hv hr
  apply hr.aD
  apply hl.eg;intro _ ig
  refine ak (λ a ob h1 h2=>qA λ h3 _=>?_) (R.mt _ _ hn)
  obtain rfl:=Vf (ig.symm.trans h1)
  refine aU (λ b zs xu e_=>qA λ hg hd2=>?_) (bH R hv hm);subst e_
  cases h3 with
  | @lst _ vs ep hd=>
   have Pu:vs.toArray.size+zs.toArray.size<=sizeLine:=by rw [VM,VM,<-hd.length,<-hd2.length];exact hz
   refine cv PySem.F.slot_list_extend ⟨_,h2,rfl⟩ PySem.F.entry_list_extend (PySem.F.args_list_extend_2 _ _) (AutoSeq1.list_extend_list_list_0 _ vs.toArray ep _ zs.toArray xu ?_ (Vd (Vw _ _) Pu) (Nat.le_succ_of_le Pu)) (bY h2 hg ?_)
   ·intro e;exact absurd (of_decide_eq_true (VG.mp e).2) (ZZ.mpr Pu)
   exact hQ F ρ _ _ (aZ.refl _) (bD.refl _) ⟨_,_,h,ry R hn ig h2 (ys:=vs++zs) (by simp) (hd.append hd2) s.toks,.none⟩
noncomputable def aQ (n:Int):Str:=Ve (toString n)
theorem CJ.str_int {n:Int} (hz:n.natAbs.log2<1920) (h:Q (.str (aQ n)) st):CJ C (.con (.type "str")) [.int n] [] [] st Q X:=
 CJ.eZ h λ F ρ s xs R ha Q' E hQ=>by
  apply ha.au;intro _ _ hx hn
  apply hn.aD;apply hx.aM;intro _
  exact P.str_of_int hz (hQ _ _ _ (gu _) (.str _ _))
theorem CJ.lZ {n:Int} (h0:0<=n) (h1:n<10^10) (h:Q (.int n) st):CJ C (.con (.type "int")) [.str (aQ n)] [] [] st Q X:=
 CJ.eZ h λ F ρ s xs R ha Q' E hQ=>by
  apply ha.au;intro _ _ hx hn
  apply hn.aD;apply hx.bR;intro _
  exact PySem.W.KIN.call_num h0 h1 (hQ _ _ _ (gu _) (.int _ _))
theorem CJ.max2 (G:C.Good d) {a b:Int} (h:Q (.int (if b>a then b else a)) st):CJ C (.con (.builtin "max")) [.int a,.int b] [] [] st Q X:=
 CJ.eZ h λ F ρ s xs R ha Q' E hQ=>by
  apply ha.au;intro _ _ hx hn
  apply hn.au;intro _ _ hy hn
  apply hn.aD;apply hx.aM;intro _;apply hy.aM;intro _
  refine max_two_ints G.handled λ h' tk hk=>hQ _ _ _ hk ?_
  split<;>exact .int _ _
end
end
section
section
variable {C:Cx}{st:St}{X:XK}{d:Nat}
theorem EV.Ip {l r:Expr}{pos:Pos}{Q:QV}(h:EV C (eval l C.env) st (λ a st1=>EV C (eval r C.env) st1 (λ b st2=>∃ u v us vs,a=.tup (u::us)/\b=.tup (v::vs)/\(u::us).length+(v::vs).length<=sizeLine/\Q (.tup ((u::us)++(v::vs))) st2) X) X):
  EV C (eval (.BinOp l .Add r pos) C.env) st Q X:=λ F ρ s R Q' E hQ hE=>by
 refine wpAny_BinOp (h F ρ s R _ E ?_ hE)
 rintro F1 bE x s1 l1 k1 hp0;apply hp0.elim;rintro a st1 h1 R1 d1
 refine h1 F1 bE s1 R1 _ E ?_ λ F' ρ' e s' l k=>hE F' ρ' e s' (l1.trans l) (k1.trans k)
 rintro F2 bZ y s2 l2 k2 hp0;apply hp0.elim;intro b st2;refine bG λ u v us vs=>bQ λ e_ cg hz hq=>?_;subst e_ cg;intro R2 d2
 apply (d1.mono l2 k2).jb;intro a xs hf hl
 apply d2.jb;intro b ys hg hm
 refine qA (λ l3 R3=>?_) (R2.gI (o:=dN (xs++ys)) rfl)
 have ne:∀ {w:V}{ws:List V}{zs:List Vg},aF F2 bZ (w::ws) zs->¬ zs.toArray.isEmpty=true:=λ h=>by cases h with | cons _ _=>simp
 refine P.add_tuple (items:=xs.toArray) (items2:=ys.toArray) (R2.kF _ _ hf) (R2.kF _ _ hg) (ne hl) (ne hm) ?_ (by rw [VM,VM,<-hl.length,<-hm.length];exact hz)
 rw [show xs.toArray++ys.toArray=(xs++ys).toArray by simp]
 exact hQ _ bZ _ _ (l1.trans (l2.trans l3)) (k1.trans k2) (Post.in hq R3 (.tup (aX ..) ((hl.append hm).mono l3 (bD.refl _))))
theorem AS.tuple_list (G:C.Good d){es:List Expr}{k:Nat}{pos:Pos}{v:V}{vs:List V}{Q:St->Prop}(hs:aE st v=some vs)(hp:bg es=true)(hl:Vo es.length vs.length=true)(h:ASL C (es.map λ t=>assign t C.env) vs st Q X):
  AS C (assign (.Tuple es k pos) C.env) v st Q X:=λ F ρ s x R hd Q' E hQ hE=>by
 refine aU (λ a xs ep e_=>qA λ hg hv=>?_) (bH R hd hs);subst e_
 refine fJ (λ h1 h2 h3=>?_) (ru (C:=C) es hp)
 have hn:(assignEach es C.env).length=xs.toArray.size:=by rw [h2,uq.mp hl,VM,hv.length]
 rw [arm_assign_Tuple]
 refine Vc (Wb ?_)
 unfold unpack
 rw [hn,h1]
 refine Vc (Vu (PySem.W.kun_itemsOf (items:=xs.toArray) G.handled ⟨_,hg,rfl,_,rfl⟩ λ h' he=>?_))
 rw [h3]
 have hk:Keeps s.heap h':=λ b o e=>he b o (WE (V1 e)) e
 exact h F ρ _ _ (R.keeps hk s.toks) hv Q' E hQ hE
end
end
section
noncomputable def ED (l:List (Str×Vn)):Bool:=l.all (·.2 != .cell)
theorem Cu {l:List (Str×Vn)}(h:ED l=true):∀ x∈l,x.2≠.cell:=λ x hx=>bne_iff_ne.mp (Wg.mp h x hx)
noncomputable def Iq (look:Str->Option Vn)(fn:Bool)(p:Str×Vn):Str×Vn:=if (p.2==Wj&&fn&&look p.1==some .cell)=true then (p.1,.cell) else p
noncomputable def qX (outer l:List (Str×Vn)):List (Str×Vn):=l.map (Iq (az outer) true)
noncomputable def iY (vars:List (Str×V))(l:List (Str×Vn)):List (Str×V):=l.filterMap λ p=>bif p.2==.free then (az vars p.1).map (Prod.mk p.1) else none
noncomputable def freeOk (outer l:List (Str×Vn)):Bool:=l.all λ p=>p.2 != .free||(az outer p.1==some .cell||az outer p.1==some .free)
noncomputable def bX (outer:List (Str×Vn))(scope:WM):Bool:=scope.kind==.function&&gM (scope.names.map (·.1))&&freeOk outer scope.names
theorem vX {env:Env}(hf:env.scope.kind=.function)(l:List (Str×Vn)):(l.map λ(n,k)=>if (k==Wj&&env.scope.kind==.function&&env.kindOf n==some .cell) then (n,Xs) else (n,k))=qX env.scope.names l:=by
 show l.map (Iq (env.scope.names.lookup ·) (env.scope.kind==.function))=_
 unfold qX
 rw [hf,show az env.scope.names=(env.scope.names.lookup ·) from funext (bA _)];rfl
theorem zD {look:Str->Option Vn}{fn:Bool}{p:Str×Vn}{x:Str}{k:Vn}(h:Iq look fn p=(x,k)):p=(x,k)\/(p=(x,.free)/\k=.cell):=by
 unfold Iq at h
 by_cases c:(p.2==Wj&&fn&&look p.1==some .cell)=true
 ·rw [if_pos c] at h
  exact .inr ⟨congr (congrArg Prod.mk (Wd h).1) (Wc (VG.mp (VG.mp c).1).1),(Wd h).2.symm⟩
 ·rw [if_neg c] at h;exact .inl h
theorem se {outer l:List (Str×Vn)}{x:Str}{k:Vn}(h:(qX outer l).lookup x=some k):(x,k)∈l\/((x,Wj)∈l/\k=.cell):=by
 refine qL (λ p hp e=>?_) ((mem_of_lookup h))
 rcases zD e with rfl | ⟨rfl,rfl⟩
 ·exact .inl hp
 ·exact .inr ⟨hp,rfl⟩
theorem sf {outer l:List (Str×Vn)}{x:Str}(hn:(l.map (·.1)).Nodup)(h:(x,Wj)∈l):(qX outer l).lookup x≠some .local:=λ e=>by
 rcases se e with q | q
 ·exact nomatch (aS hn h).symm.trans (aS hn q)
 ·exact nomatch q.2
theorem Ir {outer l:List (Str×Vn)}{x:Str}{k:Vn}(h:(qX outer l).lookup x=some k)(hk:k=.cell\/k=.free):(x,Wj)∈l\/(x,Xs)∈l:=by
 rcases se h with q | q
 ·rcases hk with rfl | rfl
  ·exact .inr q
  ·exact .inl q
 ·exact .inl q.1
theorem Cv {outer l:List (Str×Vn)}{x:Str}(hn:(l.map (·.1)).Nodup)(h:(x,Xs)∈l):(qX outer l).lookup x≠some .local:=λ e=>by
 rcases se e with q | q
 ·exact nomatch (aS hn h).symm.trans (aS hn q)
 ·exact nomatch q.2
structure xR (h:Heap)(L:Addr)(names:List (Str×Vn))(cs:List (Str×Addr)):Prop where
 mem:∀ x c,(x,c)∈cs->(x,Xs)∈names
 has:∀ x,(x,Xs)∈names->∃ c,cs.lookup x=some c
 new:∀ x c,(x,c)∈cs->h.get? c=none/\L<c
 apart:cs.Pairwise λ x y=>x.2≠y.2
theorem dB:∀ (names:List (Str×Vn)) (n:Nat) (acc:List (Str×Addr)),cellsFrom n names acc=cellsFrom n names []++acc
 | [],_,_=>rfl
 | (name,kind)::r,n,acc=>by
  unfold cellsFrom
  split
  ·rw [dB r _ ((name,n)::acc),dB r _ [(name,n)],Vs];rfl
  ·exact dB r n acc
theorem iZ:∀ (names:List (Str×Vn)) (n:Nat) (x:Str) (c:Addr),(x,c)∈cellsFrom n names []->(x,Xs)∈names
 | [],_,_,_,h=>nomatch h
 | (name,kind)::r,n,x,c,h=>by
  unfold cellsFrom at h
  split at h
  ·rename_i hk
   rw [dB] at h
   rcases Wa.mp h with h | h
   ·exact VH _ (iZ r _ x c h)
   ·refine qP (λ e_ cg=>?_) ((Vi.mp h));subst e_ cg
    obtain rfl:kind=.cell:=Wc hk
    exact VC ..
  ·exact VH _ (iZ r _ x c h)
theorem jF:∀ (names:List (Str×Vn)) (n:Nat) (x:Str),(x,Xs)∈names->∃ c,(x,c)∈cellsFrom n names []
 | [],_,_,h=>nomatch h
 | (name,kind)::r,n,x,h=>by
  unfold cellsFrom
  split
  ·rename_i hk
   rw [dB]
   rcases Vm.mp h with h | h
   ·refine qP (λ e_ cg=>?_) h;subst e_ cg
    exact ⟨n,Wa.mpr (.inr (Vi.mpr rfl))⟩
   ·refine qE (λ c hc=>?_) (jF r (n+1) x h)
    exact ⟨c,Wa.mpr (.inl hc)⟩
  ·rename_i hk
   rcases Vm.mp h with h | h
   ·refine qP (λ e_ cg=>?_) h;subst e_ cg
    exact absurd rfl hk
   ·exact jF r n x h
theorem nN {l:List (Str×Addr)}{x:Str}{c:Addr}(h:(x,c)∈l):∃ c,l.lookup x=some c:=by
 cases e:l.lookup x with
 | some c=>exact ⟨c,rfl⟩
 | none=>exact absurd rfl (bne_iff_ne.mp (Yn.mp e (x,c) h))
noncomputable def Na (env:Env)(p:Str×Vn):Option (Str×Addr):=bif p.2==.free then some (p.1,(env.cells.lookup p.1).getD 0) else none
noncomputable def cM (env:Env)(l:List (Str×Vn)):List (Str×Addr):=(l.filterMap (Na env)).reverse
theorem l0 {α:Type}{p:Str×Vn}{o:Option α}{x:α}(h:(bif p.2==.free then o else none)=some x):p.2=.free/\o=some x:=by
 cases e:(p.2==Wj) with
 | true=>rw [e] at h;exact ⟨Wc e,h⟩
 | false=>rw [e] at h;exact aV h
theorem xS {env:Env}(f:Str×Vn->List (Str×Addr)->Sem (ForInStep (List (Str×Addr))))(h1:∀ n c cs,env.cells.lookup n=some c->f (n,.free) cs=pure (.yield ((n,c)::cs)))(h2:∀ n k cs,k≠.free->f (n,k) cs=pure (.yield cs))
  (l:List (Str×Vn)):∀ acc:List (Str×Addr),(∀ x∈l,x.2=.free->∃ c,env.cells.lookup x.1=some c)->forIn l acc f=pure ((l.filterMap (Na env)).reverse++acc):=by
 induction l with
 | nil=>exact λ _ _=>rfl
 | cons p r ih=>
  obtain ⟨n,k⟩:=p
  intro acc hl
  have hr:=λ x hx=>hl x (VH _ hx)
  rw [Ww]
  by_cases hk:k=.free
  ·subst hk
   refine qE (λ c hc=>?_) (hl (n,.free) VC rfl)
   rw [h1 n c acc hc,ce,show (((n,Wj)::r).filterMap (Na env))=(n,c)::r.filterMap (Na env) from Yj (congrArg (λ o:Option Addr=>some (n,o.getD 0)) hc),Zf,Vs]
   exact ih _ hr
  ·rw [h2 n k acc hk,ce,Yi (by unfold Na;rw [beq_eq_false_iff_ne.mpr hk];rfl)]
   exact ih _ hr
theorem jG {env:Env}{scope:WM}(h:∀ x∈scope.names,x.2=.free->∃ c,env.cells.lookup x.1=some c):closureFor scope env=pure (cM env scope.names):=by
 unfold closureFor
 show (forIn scope.names [] _ >>= λ s=>pure s)=_
 rw [xS (env:=env) _ (λ n c cs hc=>?_) (λ n k cs hk=>?_) scope.names [] h,ce,VT];rfl
 ·have e:cellOf env n=pure c:=by unfold cellOf;rw [hc]
  show (if (Wj==Wj)=true then _ else _)=_
  rw [if_pos (by rfl),e,ce]
 ·show (if (k==Wj)=true then _ else _)=_
  rw [if_neg λ q=>hk (Wc q)]
theorem xT {env:Env}{l:List (Str×Vn)}{p:Str×Addr}(h:p∈cM env l):(p.1,Wj)∈l/\p.2=(env.cells.lookup p.1).getD 0:=by
 refine aI (λ q hq e=>?_) (W0.mp (List.mem_reverse.mp h))
 refine qA (λ e1 e2=>?_) (l0 e)
 obtain rfl:=Vf e2
 exact ⟨e1▸hq,rfl⟩
theorem xU {env:Env}{l:List (Str×Vn)}{x:Str}(h:(x,Wj)∈l):∃ c,(cM env l).lookup x=some c:=by
 cases e:(cM env l).lookup x with
 | some c=>exact ⟨c,rfl⟩
 | none=>exact absurd rfl (bne_iff_ne.mp (Yn.mp e (x,(env.cells.lookup x).getD 0) (List.mem_reverse.mpr (W0.mpr (aC _ h rfl)))))
theorem zE {env:Env}(hap:env.cells.Pairwise λ x y=>x.2≠y.2){l:List (Str×Vn)}(hl:∀ x∈l,x.2=.free->∃ c,env.cells.lookup x.1=some c)(hn:(l.map (·.1)).Nodup):(cM env l).Pairwise λ x y=>x.2≠y.2:=by
 refine List.pairwise_reverse.mpr (List.pairwise_filterMap.mpr (List.Pairwise.imp_of_mem ?_ (List.pairwise_map.mp hn)))
 intro a b ha hb hne x hx y hy e
 refine qA (λ a1 a2=>?_) (l0 hx)
 refine qA (λ b1 b2=>?_) (l0 hy)
 refine qE (λ c hc=>?_) (hl a ha a1)
 refine qE (λ c' hc'=>?_) (hl b hb b1)
 obtain rfl:=Vf a2
 obtain rfl:=Vf b2
 rw [hc,hc'] at e
 have e:c'=c:=e
 subst e
 exact hne (ib hap (mem_of_lookup hc) (mem_of_lookup hc'))
theorem l7 {vars:List (Str×V)}{l:List (Str×Vn)}{x:Str}{v:V}(h:az (iY vars l) x=some v):(x,Wj)∈l/\az vars x=some v:=by
 rw [bA] at h
 refine aI (λ q hq e=>?_) (W0.mp (mem_of_lookup h))
 refine qA (λ e1 e2=>?_) (l0 e)
 refine qM (λ w hw e3=>?_) e2
 obtain rfl:q=(x,.free):=congr (congrArg Prod.mk (Wd e3).1) e1
 exact ⟨hq,(Wd e3).2▸hw⟩
theorem EE {vars:List (Str×V)}{l:List (Str×Vn)}{x:Str}{v:V}(hm:(x,Wj)∈l)(hv:az vars x=some v):az (iY vars l) x=some v:=by
 cases e:az (iY vars l) x with
 | some w=>exact (l7 e).2.symm.trans hv
 | none=>
  rw [bA] at e
  exact absurd rfl (bne_iff_ne.mp (Yn.mp e (x,v) (W0.mpr (aC _ hm (congrArg (XE _) hv)))))
theorem uU {env:Env}{l:List (Str×Vn)}(h:freeOk env.scope.names l=true)(x:Str×Vn)(hx:x∈l)(hf:x.2=.free):env.kindOf x.1=some .cell\/env.kindOf x.1=some .free:=by
 have h:=(YU.mp (Wg.mp h x hx)).resolve_left λ e=>absurd hf (bne_iff_ne.mp e)
 rw [bA] at h
 exact (YU.mp h).imp Wc Wc
end
section
open Classical in
noncomputable def iD (cl:List (Str×Addr))(F:Fz)(ρ:Ky)(h:Heap):Fz:=λ b=>if b∈cl.map (·.2) then none else fL F ρ h b
theorem gQ {cl:List (Str×Addr)}{F:Fz}{ρ:Ky}{h:Heap}{b:Addr}{o:Obj}(h1:b∉cl.map (·.2))(h2:fL F ρ h b=some o):iD cl F ρ h b=some o:=by unfold iD;rw [if_neg h1];exact h2
theorem l8 {cl:List (Str×Addr)}{F:Fz}{ρ:Ky}{h:Heap}{b:Addr}{o:Obj}(e:iD cl F ρ h b=some o):b∉cl.map (·.2)/\fL F ρ h b=some o:=by
 unfold iD at e
 split at e
 ·exact aV e
 ·rename_i q;exact ⟨q,e⟩
noncomputable def Cx.comp (C:Cx)(scope:WM)(L:Addr)(cs:List (Str×Addr))(G₁:Fz):Cx:={C with env:=compEnvC scope (cs++cM C.env scope.names) L C.env,G:=G₁}
section
variable {C:Cx}{F F2:Fz}{ρ bZ:Ky}{st:St}{s:Vh}{d:Nat}{scope:WM}
theorem bM (h:bX C.env.scope.names scope=true):scope.kind=.function/\(scope.names.map (·.1)).Nodup/\True/\freeOk C.env.scope.names scope.names=true:=by
 unfold bX at h
 simp only [VZ,beq_iff_eq] at h
 exact dG h.1.1 (kT h.1.2) trivial h.2
theorem gR (G:C.Good0 d)(h:bX C.env.scope.names scope=true):∀ x∈scope.names,x.2=.free->∃ c,C.env.cells.lookup x.1=some c:=λ x hx hf=>by
 rcases uU (env:=C.env) (bM h).2.2.2 x hx hf with q | q
 ·exact G.bu _ _ q (.inl rfl)
 ·exact G.bu _ _ q (.inr rfl)
theorem sj (G:C.Good0 d)(h:bX C.env.scope.names scope=true){p:Str×Addr}(hp:p∈cM C.env scope.names):(p.1,Wj)∈scope.names/\C.env.cells.lookup p.1=some p.2:=by
 refine qA (λ q1 q2=>?_) (xT hp)
 refine qE (λ c hc=>?_) (gR G h (p.1,.free) q1 rfl)
 have hc:C.env.cells.lookup p.1=some c:=hc
 rw [hc] at q2 ⊢
 exact ⟨q1,congrArg some q2.symm⟩
theorem EF (G:C.Good0 d)(h:bX C.env.scope.names scope=true){x:Str}(hm:(x,Wj)∈scope.names):∃ c,C.env.cells.lookup x=some c/\(cM C.env scope.names).lookup x=some c:=by
 refine qE (λ c hc=>?_) (xU (env:=C.env) hm)
 exact aC c ((sj G h (mem_of_lookup hc)).2) hc
theorem K2 (h:bX C.env.scope.names scope=true){hp:Heap}{L:Addr}{cs:List (Str×Addr)}(N:xR hp L scope.names cs){x:Str}(hm:(x,Wj)∈scope.names):cs.lookup x=none:=by
 cases e:cs.lookup x with
 | none=>rfl
 | some c=>exact nomatch (aS (bM h).2.1 hm).symm.trans (aS (bM h).2.1 (N.mem _ _ (mem_of_lookup e)))
theorem zF (h:bX C.env.scope.names scope=true){hp:Heap}{L:Addr}{cs:List (Str×Addr)}(N:xR hp L scope.names cs){x:Str}(hm:(x,Wj)∈scope.names):(cs++cM C.env scope.names).lookup x=(cM C.env scope.names).lookup x:=by
 rw [ac,K2 h N hm];rfl
theorem ji {cs cl:List (Str×Addr)}{x:Str}{c:Addr}(h:(cs++cl).lookup x=some c):(x,c)∈cs\/cl.lookup x=some c:=by
 rw [ac] at h
 cases e:cs.lookup x with
 | none=>rw [e] at h;exact .inr h
 | some c'=>rw [e] at h;exact .inl (Vf h▸mem_of_lookup e)
theorem kW (G:C.Good0 d)(h:bX C.env.scope.names scope=true){c:Addr}(hc:c∈(cM C.env scope.names).map (·.2)):∃ x,(x,Wj)∈scope.names/\C.env.cells.lookup x=some c:=by
 apply iu (h:=hc);intro p hp
 exact ⟨p.1,sj G h hp⟩
end
namespace kX
noncomputable def aq (C:Cx)(scope:WM)(L:Addr)(G₁ F:Fz)(ρ:Ky)(st:St)(s:Vh)(d:Nat):Prop:=∀ (cs:List (Str×Addr)) (N:xR s.heap L scope.names cs) (G:C.Good d) (R:Rel C F ρ st s) (h:bX C.env.scope.names scope=true) (hL:s.heap.get? L=none) (h1:aZ (iD (cM C.env scope.names) F ρ s.heap) G₁) (h2:∀ a,a=L\/a∈(cs++cM C.env scope.names).map (·.2)->G₁ a=none),(C.comp scope L cs G₁).Good d
noncomputable def S0:=u9 aq
noncomputable def ε:=eu (by walk_at "ne") S0
theorem here:S0 ε:=by
 intro cs N G R h hL h1 h2
 refine bQ (λ p1 p2 p3 p4=>?_) (bM h)
 have hcl:=gR G.toGood0 h
 have names:(ε.1.comp ε.2.1 ε.2.2.1 cs ε.2.2.2.1).env.scope.names=qX ε.1.env.scope.names ε.2.1.names:=vX G.fn _
 exact {
  handled:=G.handled
  units:=G.units
  depth:=G.depth
  fn:=p1
  glob:=G.glob
  blt:=G.blt
  apart:=List.pairwise_append.mpr ⟨N.apart,zE G.apart hcl p2,λ a ha b hb e=>by
   refine aI (λ y _ hy=>?_) (kW G.toGood0 h (WW.mpr (aC b hb rfl)))
   refine qE (λ o ho=>?_) (R.jC (.inr ⟨y,hy⟩:ε.1.own b.2))
   rw [<-e,(N.new a.1 a.2 ha).1] at ho;exact aV ho⟩
  j7:=λ x hx e=>by
   have e':x.2=ε.2.2.1:=e
   rcases Wa.mp hx with hx | hx
   ·have:=(N.new x.1 x.2 hx).2
    rw [e'] at this;exact absurd this (V8 _)
   refine aI (λ y _ hy=>?_) (kW G.toGood0 h (WW.mpr (aC x hx rfl)))
   refine qE (λ o ho=>?_) (R.jC (.inr ⟨y,hy⟩:ε.1.own x.2))
   rw [e',hL] at ho;exact aV ho
  frames:=G.frames
  lim:=G.lim
  mS:=λ a ha=>by
   rcases ha with rfl | ⟨x,hx⟩
   ·exact h2 _ (.inl rfl)
   ·exact h2 _ (.inr (WW.mpr (aC (x,a) (mem_of_lookup hx) rfl)))
  fz:=λ x c e=>by
   show (ε.1.comp ε.2.1 ε.2.2.1 cs ε.2.2.2.1).env.scope.names.lookup x≠some .local
   rw [names]
   intro q
   rcases ji e with e | e
   ·exact Cv p2 (N.mem _ _ e) q
   ·exact sf p2 (xT (mem_of_lookup e)).1 q
  bu:=λ x k hk hkk=>by
   have hk':(qX ε.1.env.scope.names ε.2.1.names).lookup x=some k:=by rw [<-names];exact hk
   rcases Ir hk' hkk with q | q
   ·show ∃ c,(cs++cM ε.1.env ε.2.1.names).lookup x=some c
    rw [zF h N q];exact xU q
   ·refine qE (λ c hc=>?_) (N.has x q)
    exact ⟨c,by show (cs++cM ε.1.env ε.2.1.names).lookup x=some c;rw [ac,hc];rfl⟩
  B9:=λ e he=>by
   refine qA (λ q1=>aI λ L' q2 q3=>?_) (G.B9 e he)
   refine ⟨q1,aC L' q2 (.inr ?_)⟩
   have xV:L'∉(cM ε.1.env ε.2.1.names).map (·.2):=λ hm=>by
    refine aI (λ y _ hy=>?_) (kW G.toGood0 h hm)
    rcases q3 with rfl | ⟨o,es,n,q4,_⟩
    ·exact G.j7 _ (mem_of_lookup hy) rfl
    ·rw [G.mS _ (.inr ⟨y,hy⟩)] at q4;exact aV q4
   rcases q3 with rfl | ⟨o,es,n,q4,q5⟩
   ·refine aI (λ m ef _=>?_) R.ns;refine aU (λ o es ep r1=>qA λ r2 _=>?_) ef
    refine aI (λ o' r3 r4=>?_) (R.eG (.inl rfl:ε.1.own ε.1.env.locals))
    rw [r1] at r3;obtain rfl:=Vf r3
    exact cu o es ep (h1 _ _ (gQ xV r4)) r2
   ·refine aI (λ o' r1 r2=>?_) (R.nJ q4)
    exact (cu o' es n (h1 _ _ (gQ xV r1)) (r2.dat.1.trans q5))}
end kX
theorem Good.comp {cs:List (Str×Addr)}{C:Cx}{F:Fz}{ρ:Ky}{st:St}{s:Vh}{d:Nat}{scope:WM}{L:Addr}{G₁:Fz}(N:xR s.heap L scope.names cs)(G:C.Good d)(R:Rel C F ρ st s)(h:bX C.env.scope.names scope=true)(hL:s.heap.get? L=none)(h1:aZ (iD (cM C.env scope.names) F ρ s.heap) G₁)(h2:∀ a,a=L\/a∈(cs++cM C.env scope.names).map (·.2)->G₁ a=none):(C.comp scope L cs G₁).Good d:=sk (S:=kX.S0) kX.here (C,scope,L,G₁,F,ρ,st,s,d) cs N G R h hL h1 h2
section
variable {C:Cx}{F F2:Fz}{ρ bZ:Ky}{st:St}{s:Vh}{d:Nat}{scope:WM}
theorem Rel.EG (G:C.Good d)(R:Rel C F ρ st s)(h:bX C.env.scope.names scope=true){L:Addr}{cs:List (Str×Addr)}(N:xR s.heap L scope.names cs)(hL:s.heap.get? L=none){s':Vh}{h':Heap}{tk:Nat}(hs:s'={s with heap:=h',toks:=tk})(hk:Keeps s.heap h')(hns:h'.Ns L λ _=>none)(hce:∀ x c,(x,c)∈cs->h'.IsCell c none):
  Rel (C.comp scope L cs (iD (cM C.env scope.names) F ρ s.heap)) F ρ {vars:=iY st.vars scope.names,heap:=st.heap} s':=by
 subst hs
 have FL:F L=none:=by
  cases e:F L with
  | none=>rfl
  | some o=>rw [R.kF _ _ e] at hL;exact jB hL.symm
 exact {
  gens:=R.gens
  os:=R.os
  drawn:=R.drawn
  kG:=λ b o e=>aC o (hk _ _ (dU (l8 e).2).2.2) (.inl rfl)
  kF:=λ b o e=>hk _ _ (R.kF b o e)
  kK:=R.kK
  FG:=λ b o e=>by
   cases q:iD (cM C.env scope.names) F ρ s.heap b with
   | none=>exact q
   | some o'=>rw [(dU (l8 q).2).1] at e;exact aV e
  mt:=λ n o e=>by
   refine ak (λ a ob h1 h2=>bQ λ h3 h4 h5 h6=>?_) (R.mt n o e)
   refine ay a ob h1 (hk _ _ h2) (dG h3 h4 ?_ ?_)
   ·cases q:iD (cM C.env scope.names) F ρ s.heap a with
    | none=>exact q
    | some o'=>exact absurd h1 ((dU (l8 q).2).2.1 n)
   ·rintro (e | ⟨x,hx⟩)
    ·have e':a=L:=e
     rw [e',hL] at h2;exact aV h2
    ·rcases ji hx with hx | hx
     ·rw [(N.new _ _ hx).1] at h2;exact aV h2
     refine aI (λ y _ hy=>?_) (kW G.toGood0 h (WW.mpr (aC (x,a) (mem_of_lookup hx) rfl)))
     exact h6 (.inr ⟨y,hy⟩)
  dom:=R.dom
  inj:=R.inj
  ns:=⟨_,hns,λ x v e k=>by
   exact absurd (by rw [<-vX G.fn];exact k) (sf (bM h).2.1 (l7 e).1)⟩
  cells:=λ x c e=>by
   rcases ji e with e | e
   ·exact aC none (hce _ _ e) (λ v q=>nomatch (aS (bM h).2.1 (l7 q).1).symm.trans (aS (bM h).2.1 (N.mem _ _ e)))
   refine aI (λ u h1 h2=>?_) (R.cells x c (sj G.toGood0 h (mem_of_lookup e)).2)
   exact aC u (h1.keeps hk) (λ v e=>h2 v (l7 e).2)
  c7:=λ a ha=>by
   rcases ha with rfl | ⟨x,hx⟩
   ·exact FL
   ·rcases ji hx with hx | hx
    ·cases e:F a with
     | none=>rfl
     | some o=>have:=R.kF _ _ e;rw [(N.new _ _ hx).1] at this;exact aV this
    refine aI (λ y _ hy=>?_) (kW G.toGood0 h (WW.mpr (aC (x,a) (mem_of_lookup hx) rfl)))
    exact R.c7 _ (.inr ⟨y,hy⟩)}
end
namespace i0
noncomputable def aq (C:Cx)(scope:WM)(G₁:Fz)(s:Vh)(L:Addr)(F:Fz)(ρ:Ky)(F2:Fz)(s2:Vh)(bZ:Ky)(st:St)(d:Nat)(vars:List (Str×V))(h2:List (Nat×MO)):Prop:=∀ (cs:List (Str×Addr)) (hp:Heap) (N:xR hp L scope.names cs) (G:C.Good d) (R:Rel C F ρ st s) (h:bX C.env.scope.names scope=true) (h1:aZ (iD (cM C.env scope.names) F ρ s.heap) G₁) (R2:Rel (C.comp scope L cs G₁) F2 bZ {vars:=vars,heap:=h2} s2) (hF:aZ F F2) (ig:bD ρ bZ) (hv:∀ x v,az (iY st.vars scope.names) x=some v->az vars x=some v),Rel C F2 bZ {vars:=st.vars,heap:=h2} s2
noncomputable def S0:=HZ aq
noncomputable def ε:=eu (by walk_at "ne") S0
theorem here:S0 ε:=by
 intro cs hp N G R h h1 R2 hF ig hv
 have xV:∀ b,ε.1.G b≠none->b∉(cM ε.1.env ε.2.1.names).map (·.2):=λ b hb hm=>by
  refine aI (λ y _ hy=>?_) (kW G.toGood0 h hm)
  exact hb (G.mS _ (.inr ⟨y,hy⟩))
 have up:∀ b o,fL ε.2.2.2.2.2.1 ε.2.2.2.2.2.2.1 ε.2.2.2.1.heap b=some o->b∉(cM ε.1.env ε.2.1.names).map (·.2)->∃ o',ε.2.2.2.2.2.2.2.2.1.heap.get? b=some o'/\pN (ε.1.fr b) o o':=λ b o e hn=>R2.kG b o (h1 _ _ (gQ hn e))
 have Eg:∀ b,ε.2.2.1 b=none->ε.1.G b=none:=λ b hb=>by
  cases e:ε.1.G b with
  | none=>rfl
  | some o=>
   refine aI (λ o' q _=>?_) (R.nJ e)
   rw [h1 _ _ (gQ (xV b (by rw [e];exact λ q=>by exact jB q.symm)) q)] at hb;exact jB hb.symm
 have vY:∀ b,ε.1.own b->(b∈(cM ε.1.env ε.2.1.names).map (·.2)/\(ε.1.comp ε.2.1 ε.2.2.2.2.1 cs ε.2.2.1).own b)\/(∃ o,ε.2.2.2.1.heap.get? b=some o/\fL ε.2.2.2.2.2.1 ε.2.2.2.2.2.2.1 ε.2.2.2.1.heap b=some o/\ε.2.2.1 b=some o/\b∉(cM ε.1.env ε.2.1.names).map (·.2)):=λ b hb=>by
  by_cases hm:b∈(cM ε.1.env ε.2.1.names).map (·.2)
  ·refine .inl ⟨hm,.inr ?_⟩
   apply iu (h:=hm);intro p hp
   refine qA (λ q1 q2=>?_) (sj G.toGood0 h hp)
   refine aI (λ c hc hc'=>?_) (EF G.toGood0 h q1)
   exact ⟨p.1,(zF h N q1).trans (hc'.trans (hc.symm.trans q2))⟩
  ·refine aI (λ o q1 q2=>?_) (R.eG hb)
   exact .inr (ir o q1 q2 (h1 _ _ (gQ hm q2)) hm)
 exact {
  gens:=R2.gens
  os:=R2.os
  drawn:=R2.drawn
  kG:=λ b o e=>by
   refine aI (λ o' q1 q2=>?_) (R.nJ e)
   refine aI (λ Mg q3 q4=>?_) (up b o' q1 (xV b (by rw [e];exact λ q=>by exact jB q.symm)))
   exact aC Mg q3 (q2.trans q4)
  kF:=R2.kF
  kK:=R2.kK
  FG:=λ b o e=>Eg b (R2.FG b o e)
  mt:=λ n o e=>by
   refine ak (λ a ob q1 q2=>bQ λ q3 q4 q5 q6=>?_) (R2.mt n o e)
   refine ay a ob q1 q2 (dG q3 q4 (Eg a q5) (λ hb=>?_))
   rcases vY a hb with ⟨_,q⟩ | ⟨o',_,_,q,_⟩
   ·exact q6 q
   ·rw [show (ε.1.comp ε.2.1 ε.2.2.2.2.1 cs ε.2.2.1).G a=ε.2.2.1 a from rfl,q] at q5;exact jB q5.symm
  dom:=R2.dom
  inj:=R2.inj
  ns:=by
   refine aI (λ m ef q4=>?_) R.ns;refine aU (λ o es ep q1=>qA λ q2 q3=>?_) ef
   refine aI (λ o1 r1 r2=>?_) (R.eG (.inl rfl:ε.1.own ε.1.env.locals))
   rw [q1] at r1;obtain rfl:=Vf r1
   have hn:ε.1.env.locals∉(cM ε.1.env ε.2.1.names).map (·.2):=λ hm=>by
    refine aI (λ y _ hy=>?_) (kW G.toGood0 h hm)
    exact G.j7 _ (mem_of_lookup hy) rfl
   refine aI (λ o' r3 r4=>?_) (up _ _ r2 hn)
   exact aC m ⟨o',es,ep,r3,r4.dat.1.trans q2,q3⟩ (λ x v e k=>aI (λ y a b=>(aC y a (b.mono hF ig))) (q4 x v e k))
  cells:=λ x c e=>by
   rcases vY c (.inr ⟨x,e⟩) with ⟨hm,_⟩ | ⟨o,q1,q2,_,q3⟩
   ·refine qL (λ p hp Ml=>?_) hm
    refine qA (λ r1 r2=>?_) (sj G.toGood0 h hp)
    rw [Ml] at r2
    obtain rfl:p.1=x:=ib G.apart (mem_of_lookup r2) (mem_of_lookup e)
    refine aI (λ c3 hc3 hc4=>?_) (EF G.toGood0 h r1)
    obtain rfl:=Vf (hc3.symm.trans r2)
    refine aI (λ u h5 h6=>?_) (R2.cells p.1 _ ((zF h N r1).trans hc4))
    exact aC u h5 (λ v hv'=>h6 v (hv _ _ (EE r1 hv')))
   ·refine aI (λ u ef q6=>?_) (R.cells x c e);refine aI (λ oc q4 q5=>?_) ef
    rw [q1] at q4;obtain rfl:=Vf q4
    refine aI (λ o' r1 r2=>?_) (up _ _ q2 q3)
    exact aC u ⟨o',r1,r2.dat.1.trans q5⟩ (λ v hv'=>aI (λ y a b=>(aC y a (b.mono hF ig))) (q6 v hv'))
  c7:=λ a ha=>by
   rcases vY a ha with ⟨_,q⟩ | ⟨o,_,_,q,_⟩
   ·exact R2.c7 a q
   ·cases e:ε.2.2.2.2.2.2.2.1 a with
    | none=>rfl
    | some o'=>have:=R2.FG _ _ e;rw [show (ε.1.comp ε.2.1 ε.2.2.2.2.1 cs ε.2.2.1).G a=ε.2.2.1 a from rfl,q] at this;cases this}
end i0
theorem Rel.Iu {cs:List (Str×Addr)}{hp:Heap}{C:Cx}{F F2:Fz}{ρ bZ:Ky}{st:St}{s:Vh}{d:Nat}{scope:WM}{L:Addr}{G₁:Fz}{vars:List (Str×V)}{h2:List (Nat×MO)}{s2:Vh}(N:xR hp L scope.names cs)(G:C.Good d)(R:Rel C F ρ st s)(h:bX C.env.scope.names scope=true)(h1:aZ (iD (cM C.env scope.names) F ρ s.heap) G₁)(R2:Rel (C.comp scope L cs G₁) F2 bZ {vars:=vars,heap:=h2} s2)(hF:aZ F F2)(ig:bD ρ bZ)(hv:∀ x v,az (iY st.vars scope.names) x=some v->az vars x=some v):Rel C F2 bZ {vars:=st.vars,heap:=h2} s2:=sk (S:=i0.S0) i0.here (C,scope,G₁,s,L,F,ρ,F2,s2,bZ,st,d,vars,h2) cs hp N G R h h1 R2 hF ig hv
end
section
noncomputable def sq (env:Env)(ifs:List Expr)(b:Bool):Sem Bool:=forIn ifs b λ c r=>if r=true then do let ok <-isTrue c env (eval c env);pure (YE ok) else pure (YE r)
noncomputable def nO (e:Expr)(depth:Nat)(target iter:Expr)(ifs:List Expr)(body:Sem Unit)(it acc:Vg)(env:Env):Sem Fin:=do
 standAt iter.pos
 match <-pyNext it with
 | none=>pure (.done .next)
 | some v=>do
  letOwnedTupleGo target it v
  VR target env v
  let ok <-sq env ifs true
  if ok=true then do
   body
   again (.compLoop e depth it acc env)
  else again (.compLoop e depth it acc env)
theorem vZ {prog:Wi}{w:WK}{A:Wk}{s:Vh}{elt target iter:Expr}{ifs:List Expr}{gens:List Xv}{scope:WM}{pos:Pos}{depth:Nat}{body:Sem Unit}{it acc:Vg}{env:Env}{R:bc->Vh->Prop}
  (he:compTurn (.ListComp elt gens scope pos) depth it acc env=nO (.ListComp elt gens scope pos) depth target iter ifs body it acc env) (I:Nat->Vh->Prop)
  (turn:∀ n s,I n s->wpAny (model prog w) A (pyNext it) (λ r s₁=>match r with
   | none=>R (.ok .next) s₁
   | some v=>wpAny (model prog w) A (letOwnedTupleGo target it v) (λ _ s₁'=>wpAny (model prog w) A (VR target env v) (λ _ s₂=>
     wpAny (model prog w) A (sq env ifs true) (λ ok s₃=>
      if ok=true then wpAny (model prog w) A body (λ _ s₅=>∃ m,m<n/\I m s₅) (notedBy (model prog w) A env λ e s'=>R (.error e) s') s₃
      else ∃ m,m<n/\I m s₃) (notedBy (model prog w) A env λ e s'=>R (.error e) s') s₂) (notedBy (model prog w) A env λ e s'=>R (.error e) s') s₁') (notedBy (model prog w) A env λ e s'=>R (.error e) s') s₁) (notedBy (model prog w) A env λ e s'=>R (.error e) s') s)
  (n:Nat) (h:I n s):codeAny (model prog w) A (.compLoop (.ListComp elt gens scope pos) depth it acc env) R s:=by
 refine codeAny_loop rfl I (λ n s hI=>?_) n h
 show wpAny _ A ((compTurn (.ListComp elt gens scope pos) depth it acc env).onRaise (λ x=>do noteFrame x env;theTreesLotGoes x)) _ _ s
 refine wpAny_noted ?_
 rw [he]
 unfold nO
 refine Vc (Wb (Vc (V6 (turn n s hI) (λ r s₁ h₁=>?_) λ _ _ h'=>h')))
 induction r with
 | none=>exact Vj h₁
 | some v=>
  refine Vc (V6 h₁ (λ _ s₁' h₁'=>?_) λ _ _ h'=>h')
  refine Vc (V6 h₁' (λ _ s₂ h₂=>Vc (V6 h₂ (λ ok s₃ h₃=>?_) λ _ _ h'=>h')) λ _ _ h'=>h')
  induction ok with
  | false=>exact Vj ⟨rfl,h₃⟩
  | true=>exact Vc (V6 h₃ (λ _ s₄ h₄=>Vj ⟨rfl,h₄⟩) λ _ _ h'=>h')
noncomputable def zG:XK:=λ _ _ _=>False
noncomputable def gf (base vars:List (Str×V)):Prop:=∀ x v,az base x=some v->az vars x=some v
structure EH (C C':Cx)(scope:WM)(d:Nat):Prop where
 good:C'.Good d
 K:C'.K=C.K
 prog:C'.prog=C.prog
 w:C'.w=C.w
 names:C'.env.scope.names=qX C.env.scope.names scope.names
noncomputable def TW (C:Cx):List Expr->St->(Bool->St->Prop)->Prop
 | [],st,Q=>Q true st
 | c::r,st,Q=>EB C (isTrue c C.env (eval c C.env)) st (λ b st1=>br b (TW C r st1 Q) (Q false st1)) zG
noncomputable def EM (Ca Cb:Cx)(body:Sem Unit)(D:Addr)(st:St)(acc:List V)(Q:List V->St->Prop):Prop:=∀ F ρ s ys ep,Rel Ca F ρ st s->(∀ {F3:Fz}{fO:Ky}{st3:St}{s3:Vh},Rel Ca F3 fO st3 s3->Rel Cb F3 fO st3 s3/\aP Cb F3 fO D/\s3.heap.get? D=some (ao ys ep))->aF F ρ acc ys->∀ (Q':Unit->Vh->Prop) (E:Vg->Vh->Prop),
 (∀ F' ρ' s' st' ys' vV acc',aZ F F'->bD ρ ρ'->Q acc' st'->Rel Cb F' ρ' st' s'->aP Cb F' ρ' D->s'.heap.get? D=some (ao ys' vV)->aF F' ρ' acc' ys'->Q' () s')->wpAny (model Cb.prog Cb.w) Cb.A body Q' E s
noncomputable def HR (C:Cx)(target:Expr)(ifs:List Expr)(body:Addr->Sem Unit)(bF:St->Prop)(K:List V->St->Prop):List V->List V->St->Prop
 | [],acc,st=>bF st/\K acc st
 | v::r,acc,st=>bF st/\∀ G₁,Ext C G₁->AS (C.keep G₁) (VR target C.env) v st (λ st1=>TW (C.keep G₁) ifs st1 (λ ok st2=>
   br ok (∀ D uw,Ext C uw->EM (C.keep G₁) (C.keep uw) (body D) D st2 acc (λ acc' st3=>∃ vs,gf vs st3.vars/\HR C target ifs body bF K r acc' ⟨vs,st3.heap⟩)) (∃ vs,gf vs st2.vars/\HR C target ifs body bF K r acc ⟨vs,st2.heap⟩))) zG
noncomputable def sr (C:Cx)(scope:WM)(d:Nat)(target elt:Expr)(ifs:List Expr)(bF:St->Prop)(base:List (Str×V))(Q:List V->List (Nat×MO)->Prop):List V->List V->List (Nat×MO)->Prop
 | [],acc,h=>bF ⟨base,h⟩/\Q acc h
 | v::r,acc,h=>bF ⟨base,h⟩/\∀ C',EH C C' scope d->AS C' (VR target C'.env) v ⟨base,h⟩ (λ st1=>TW C' ifs st1 (λ ok st2=>
   br ok (EV C' (eval elt C'.env) st2 (λ y st3=>gf base st3.vars/\sr C scope d target elt ifs bF base Q r (acc++[y]) st3.heap) zG) (gf base st2.vars/\sr C scope d target elt ifs bF base Q r acc st2.heap))) zG
noncomputable def LW (C:Cx)(scope:WM)(d:Nat)(target elt:Expr)(ifs:List Expr)(src:V)(base:List (Str×V))(l:List V)(Q:List V->List (Nat×MO)->Prop):List V->List V->List (Nat×MO)->Prop:=
 sr C scope d target elt ifs (λ st=>∃ p,itemsOf st src=some (p,l)) base Q
section
variable {C:Cx}{F:Fz}{ρ:Ky}{st:St}{s:Vh}{d:Nat}
theorem Rel.Iv (R:Rel C F ρ st s){base:List (Str×V)}(h:gf base st.vars):Rel C F ρ ⟨base,st.heap⟩ s where
 gens:=R.gens
 os:=R.os
 drawn:=R.drawn
 kG:=R.kG
 kF:=R.kF
 kK:=R.kK
 FG:=R.FG
 mt:=R.mt
 dom:=R.dom
 inj:=R.inj
 ns:=aI (λ m a b=>(aC m a (λ x v e=>b x v (h x v e)))) R.ns
 cells:=λ x c e=>aI (λ u a b=>(aC u a (λ v e=>b v (h x v e)))) (R.cells x c e)
 c7:=R.c7
theorem Rel.EI (R:Rel C F ρ st s){a:Addr}{o:Obj}{mo:MO}{n:Nat}(U:aP C F ρ a)(ho:s.heap.get? a=some o)(hn:J st.heap n=none)(hm:mR F (kD ρ n a) mo o):
  bD ρ (kD ρ n a)/\Rel C F (kD ρ n a) {st with heap:=af st.heap n mo} s:=by
 have ig:ρ n=none:=by
  cases e:ρ n with
  | none=>rfl
  | some b=>have:=R.dom n b e;rw [hn] at this;exact lO this
 have hle:=fW (a:=a) ig
 refine ⟨hle,?_⟩
 exact {
  gens:=R.gens
  os:=R.os
  drawn:=R.drawn
  kG:=R.kG
  kF:=R.kF
  kK:=R.kK
  FG:=R.FG
  mt:=λ m o' e=>by
   dsimp only at e
   rw [dj] at e
   by_cases hmn:m=n
   ·subst hmn
    rw [if_pos rfl] at e
    obtain rfl:=Vf e
    exact ay a o (if_pos rfl) ho (dG hm U.1 U.2.1 U.2.2.2)
   ·rw [if_neg hmn] at e
    refine ak (λ b ob h1 h2=>bQ λ h3 h4 h5 h6=>?_) (R.mt m o' e)
    exact ay b ob (hle _ _ h1) h2 (dG (h3.mono (aZ.refl _) hle) h4 h5 h6)
  dom:=λ m b e=>by
   dsimp only
   rw [dj]
   by_cases hmn:m=n
   ·rw [if_pos hmn];rfl
   ·rw [if_neg hmn]
    have e':(if m=n then some a else ρ m)=some b:=e
    rw [if_neg hmn] at e'
    exact R.dom m b e'
  inj:=λ m m' b e e'=>by
   have e1:(if m=n then some a else ρ m)=some b:=e
   have e2:(if m'=n then some a else ρ m')=some b:=e'
   by_cases hm1:m=n<;>by_cases hm2:m'=n
   ·rw [hm1,hm2]
   ·rw [if_pos hm1] at e1;rw [if_neg hm2] at e2;obtain rfl:=Vf e1;exact absurd e2 (U.2.2.1 _)
   ·rw [if_neg hm1] at e1;rw [if_pos hm2] at e2;obtain rfl:=Vf e2;exact absurd e1 (U.2.2.1 _)
   ·rw [if_neg hm1] at e1;rw [if_neg hm2] at e2;exact R.inj _ _ _ e1 e2
  ns:=aI (λ m h1 h2=>(aC m h1 (λ x v e k=>aI (λ y a b=>(aC y a (b.mono (aZ.refl _) hle))) (h2 x v e k)))) R.ns
  cells:=λ x c e=>aI (λ u h1 h2=>(aC u h1 (λ v e=>aI (λ y a b=>(aC y a (b.mono (aZ.refl _) hle))) (h2 v e)))) (R.cells x c e)
  c7:=R.c7}
theorem xW:∀ {ifs:List Expr}{F:Fz}{ρ:Ky}{st:St}{s:Vh}{Q:Bool->St->Prop},TW C ifs st Q->Rel C F ρ st s->Go C F ρ s (sq C.env ifs true) (fK C Q) (cC C zG)
 | [],F,ρ,st,s,Q,h,R=>λ Q' E hQ hE=>by
  unfold sq
  rw [Xj]
  exact Vj (hQ F ρ _ _ (aZ.refl _) (bD.refl _) (fK.in (h) (R)))
 | c::r,F,ρ,st,s,Q,h,R=>λ Q' E hQ hE=>by
  unfold sq
  rw [Ww,if_pos rfl]
  refine Vc (Vc (h F ρ s R _ E ?_ hE))
  rintro F1 bE b s1 l1 k1 hp0;apply hp0.elim;rintro st1 hb R1
  refine Vj ?_
  dsimp only
  induction b with
  | true=>
   exact xW (hb.1 rfl) R1 Q' E (λ F' ρ' e s' l k=>hQ F' ρ' e s' (l1.trans l) (k1.trans k)) λ F' ρ' e s' l k=>hE F' ρ' e s' (l1.trans l) (k1.trans k)
  | false=>
   have stop:∀ (r:List Expr),wpAny (model C.prog C.w) C.A (forIn r false λ c r=>if r=true then do let ok <-isTrue c C.env (eval c C.env);pure (YE ok) else pure (YE r)) Q' E s1:=by
    intro r
    induction r with
    | nil=>
     rw [Xj]
     exact Vj (hQ F1 bE _ _ l1 k1 (fK.in (hb.2 rfl) (R1)))
    | cons x r ih=>
     rw [Ww,if_neg Vp]
     exact Vc (Vj ih)
   exact stop r
end
end
section
theorem Iw {F:Fz}{ρ:Ky}{E:Vg->Vh->Prop}{C':Cx}:∀ F' ρ' e s',aZ F F'->bD ρ ρ'->cC C' zG F' ρ' e s'->E e s':=λ _ _ _ _ _ _=>aU λ _ _ _ h _=>h.elim
section
variable {C:Cx}{d:Nat}{F:Fz}{ρ:Ky}{st:St}{s:Vh}
theorem beside (G:C.Good d){D:Addr}{o:Obj}(R:Rel C F ρ st s)(U:aP C F ρ D)(hD:s.heap.get? D=some o):Ext C (cW C.G [D] s.heap)/\Rel (C.keep (cW C.G [D] s.heap)) F ρ st s/\
  ∀ {F3:Fz}{fO:Ky}{st3:St}{s3:Vh},Rel (C.keep (cW C.G [D] s.heap)) F3 fO st3 s3->Rel C F3 fO st3 s3/\aP C F3 fO D/\s3.heap.get? D=some o:=by
 have memD:∀ {b},b∈[D]->b=D:=λ h=>Vi.mp h
 have hG:∀ b,b∈[D]->C.G b=none:=λ b hb=>memD hb▸U.2.1
 have hn:∀ b,b∈[D]->¬ C.own b:=λ b hb=>memD hb▸U.2.2.2
 refine bY ⟨kR hG,λ b hb=>?_⟩ (R.cW λ b hb=>memD hb▸U) (λ R3=>?_)
 ·show (if b∈[D] then _ else C.G b)=none
  rw [if_neg λ q=>hn b q hb];exact G.mS b hb
 ·refine fJ (λ a b c=>?_) (Rel.AZ G hG hn (λ b hb=>⟨_,memD hb▸hD⟩) R3)
  exact bY a (b D (Vi.mpr rfl)) (c D (Vi.mpr rfl) _ hD)
end
namespace iE
noncomputable def aq (C:Cx)(fp:List Addr)(D:Addr)(l:List V)(F:Fz)(ρ:Ky)(ifs:List Expr)(K:List V->St->Prop)(d:Nat)(st:St)(acc:List V)(ys:List Vg)(ep:Nat)(s:Vh)(iter:Expr)(pos:Pos)(depth:Nat)(bT:List V)(pX:List Vg)(I:Addr):Prop:=∀ (G:C.Good d) {elt target:Expr}{gens:List Xv}{scope:WM}{body:Addr->Sem Unit}{bF:St->Prop}{tg:Expr->Prop}{fX:Nat->Heap->Prop}{RR:bc->Vh->Prop} (he:compTurn (.ListComp elt gens scope pos) depth (.ref I) (.ref D) C.env=nO (.ListComp elt gens scope pos) depth target iter ifs (body D) (.ref I) (.ref D) C.env) (Go:fR C.prog C.w bF bT pX I fp l tg fX) (kq:tg target) (hd:aF F ρ bT pX) (R:Rel C F ρ st s) (UD:aP C F ρ D) (UF:∀ b,b∈fp->aP C F ρ b) (hne:D∉fp) (hSt:fX 0 s.heap) (EJ:s.heap.get? D=some (ao ys ep)) (nP:aF F ρ acc ys) (hW:HR C target ifs body bF K l acc st) (hR:∀ F' ρ' st' s' acc' ys' vV,aZ F F'->bD ρ ρ'->K acc' st'->Rel C F' ρ' st' s'->aP C F' ρ' D->s'.heap.get? D=some (ao ys' vV)->aF F' ρ' acc' ys'->RR (.ok .next) s'),codeAny (model C.prog C.w) C.A (.compLoop (.ListComp elt gens scope pos) depth (.ref I) (.ref D) C.env) RR s
noncomputable def S0:=O6 aq
noncomputable def ε:=eu (by walk_at "ne") S0
theorem here:S0 ε:=by
 intro G elt target gens scope body bF tg fX RR he Go kq hd R UD UF hne hSt EJ nP hW hR
 let Inv:Nat->Vh->Prop:=λ n s'=>∃ F' ρ' st' i Mm Nb Iz,aZ ε.2.2.2.2.1 F'/\bD ε.2.2.2.2.2.1 ρ'/\Rel ε.1 F' ρ' st' s'/\aP ε.1 F' ρ' ε.2.2.1/\(∀ b,b∈ε.2.1->aP ε.1 F' ρ' b)/\fX i s'.heap/\s'.heap.get? ε.2.2.1=some (ao Mm Nb)/\aF F' ρ' Iz Mm/\
  HR ε.1 target ε.2.2.2.2.2.2.1 body bF ε.2.2.2.2.2.2.2.1 (ε.2.2.2.1.drop i) Iz st'/\i<=ε.2.2.2.1.length/\n=ε.2.2.2.1.length-i
 refine vZ he Inv ?_ ε.2.2.2.1.length (d7 ε.2.2.2.2.1 ε.2.2.2.2.2.1 ε.2.2.2.2.2.2.2.2.2.1 0 (cu ε.2.2.2.2.2.2.2.2.2.2.2.1 ε.2.2.2.2.2.2.2.2.2.2.2.2.1 ε.2.2.2.2.2.2.2.2.2.2.1 (aZ.refl _) (cO (bD.refl _) R UD UF (cO hSt EJ nP hW (⟨WC _,rfl⟩)))))
 intro n s';refine bG λ F' ρ' st' i=>aU λ Mm Nb Iz lF=>bB λ lK R' Ss Nc=>bB λ hSt EJ nP Mn=>qA λ hi e_=>?_;subst e_
 have Eu:=hd.mono lF lK
 refine fJ (λ X1 R1 back=>?_) (beside G R' Ss EJ)
 generalize Mp:ε.1.keep (cW ε.1.G [ε.2.2.1] s'.heap)=i6 at R1 back
 have Su:i6.Good ε.2.2.2.2.2.2.2.2.1:=Mp▸G.keep X1
 have Mq:∀ b,b∈ε.2.1->b≠ε.2.2.1:=λ b hb e=>hne (e▸hb)
 have up:∀ {F3 fO b},b∈ε.2.1->aP ε.1 F3 fO b->aP i6 F3 fO b:=λ hb U=>Mp▸⟨U.1,(if_neg λ q=>Mq _ hb (Vi.mp q)).trans U.2.1,U.2.2.1,U.2.2.2⟩
 have down:∀ {F3 fO b},aP i6 F3 fO b->b∈ε.2.1->aP ε.1 F3 fO b:=λ {F3 fO b} U hb=>⟨U.1,(Nc b hb).2.1,U.2.2.1,(Nc b hb).2.2.2⟩
 have p1:i6.prog=ε.1.prog:=Mp▸rfl
 have w1:i6.w=ε.1.w:=Mp▸rfl
 cases hdr:ε.2.2.2.1.drop i with
 | nil=>
  rw [hdr] at Mn
  have hi':i=ε.2.2.2.1.length:=YA hi (X8.mp hdr)
  refine V6 (Go.done (C:=i6) p1 w1 G.handled R1 (λ b hb=>up hb (Nc b hb)) (hi'▸hSt) Eu Mn.1 (λ s''=>Rel i6 F' ρ' st' s'') _ λ s'' r=>r) (λ r s'' h2=>?_) λ _ _ e=>e
  refine qA (λ e_ Rn=>?_) h2;subst e_
  refine fJ (λ Rn U2 gn=>?_) (back Rn)
  exact hR F' ρ' st' _ Iz Mm Nb lF lK Mn.2 Rn U2 gn nP
 | cons v r=>
  rw [hdr] at Mn
  refine fJ (λ hlt hv hr=>?_) (drop_cons hdr)
  refine V6 (Go.turn (C:=i6) (target:=target) p1 w1 G.handled R1 (λ b hb=>up hb (Nc b hb)) hSt Eu Mn.1 hv kq (λ z s2=>∃ F2,aZ F' F2/\Rel i6 F2 ρ' st' s2/\(∀ b,b∈ε.2.1->aP i6 F2 ρ' b)/\Den F2 ρ' v z/\fX (i+1) s2.heap) _ λ F2 z s2 a b c q e=>ir F2 a b c (⟨q,e⟩)) (λ r0 s2 h2=>?_) λ _ _ e=>e
  induction r0 with
  | none=>exact h2.elim
  | some z=>
   refine V6 h2 (λ _ s2 h2=>?_) λ _ _ e=>e
   refine fZ (λ F2 l2 R2 U2=>qA λ dz zC=>?_) h2
   refine fJ (λ UB UC UE=>?_) (back R2)
   have Nd:∀ b,b∈ε.2.1->i6.G b=none:=λ b hb=>(U2 b hb).2.1
   have hn2:∀ b,b∈ε.2.1->¬ i6.own b:=λ b hb=>(U2 b hb).2.2.2
   have g1:cW ε.1.G [ε.2.2.1] s'.heap=i6.G:=Mp▸rfl
   have X2:Ext ε.1 (cW i6.G ε.2.1 s2.heap):=⟨aZ.trans (g1▸X1.1) (kR Nd),λ a ha=>by
    show (if a∈ε.2.1 then _ else i6.G a)=none
    rw [if_neg λ q=>(Nc a q).2.2.2 ha,<-g1]
    exact X1.2 a ha⟩
   have e2:ε.1.keep (cW i6.G ε.2.1 s2.heap)=i6.keep (cW i6.G ε.2.1 s2.heap):=Mp▸rfl
   have out:∀ {F3 fO st3 s3},Rel (ε.1.keep (cW i6.G ε.2.1 s2.heap)) F3 fO st3 s3->Rel ε.1 F3 fO st3 s3/\aP ε.1 F3 fO ε.2.2.1/\(∀ b,b∈ε.2.1->aP ε.1 F3 fO b)/\s3.heap.get? ε.2.2.1=some (ao Mm Nb)/\∀ b,b∈ε.2.1->∀ o,s2.heap.get? b=some o->s3.heap.get? b=some o:=λ R3=>by
    rw [e2] at R3
    refine fJ (λ a b c=>?_) (Rel.AZ (C:=i6) (fp:=ε.2.1) Su Nd hn2 (Go.live _ _ zC) R3)
    refine fJ (λ a' b' c'=>?_) (back a)
    exact cO a' b' (λ x hx=>down (b x hx) hx) c' c
   have after:∀ {F4 vO xh s4 ys' vV acc'},aZ F' F4->bD ρ' vO->Rel ε.1 F4 vO xh s4->aP ε.1 F4 vO ε.2.2.1->(∀ b,b∈ε.2.1->aP ε.1 F4 vO b)->s4.heap.get? ε.2.2.1=some (ao ys' vV)->(∀ b,b∈ε.2.1->∀ o,s2.heap.get? b=some o->s4.heap.get? b=some o)->aF F4 vO acc' ys'->
     (∃ vs,gf vs xh.vars/\HR ε.1 target ε.2.2.2.2.2.2.1 body bF ε.2.2.2.2.2.2.2.1 r acc' ⟨vs,xh.heap⟩)->∃ m,m<ε.2.2.2.1.length-i/\Inv m s4:=λ {F4 vO xh s4 ys' vV acc'} lf kf R4 Sv U4 Sw sm da Pw=>by
    refine aI (λ vs hsub Pw=>?_) Pw
    exact aC (ε.2.2.2.1.length-(i+1)) (Nat.sub_lt_sub_left hlt (Wf i)) (d7 F4 vO ⟨vs,xh.heap⟩ (i+1) (cu ys' vV acc' (lF.trans lf) (cO (lK.trans kf) (R4.Iv hsub) Sv U4 (cO (Go.frame _ _ _ zC sm) Sw da (hr▸Pw) (⟨hlt,rfl⟩)))))
   refine Mn.2 _ X2 F2 ρ' _ z (e2▸R2.cW U2) dz _ _ ?_ Iw
   rintro F3 fO _ s3 l3 k3 hp0;apply hp0.elim;rintro st3 h3 R3
   refine xW (C:=ε.1.keep (cW i6.G ε.2.1 s2.heap)) h3 R3 _ _ ?_ Iw
   rintro F4 vO ok s4 l4 k4 hp0;apply hp0.elim;rintro xh h4 R4
   refine bB (λ Ra Ua Uf ga sm=>?_) (out R4)
   induction ok with
   | false=>
    rw [if_neg Vp]
    exact after (l2.trans (l3.trans l4)) (k3.trans k4) Ra Ua Uf ga sm (nP.mono (l2.trans (l3.trans l4)) (k3.trans k4)) (h4.2 rfl)
   | true=>
    rw [if_pos rfl]
    have Q4:∀ b,b∈ε.2.1->ε.1.G b=none:=λ b hb=>(Uf b hb).2.1
    have Q5:∀ b,b∈ε.2.1->¬ ε.1.own b:=λ b hb=>(Uf b hb).2.2.2
    have X3:Ext ε.1 (cW ε.1.G ε.2.1 s2.heap):=⟨kR Q4,λ a ha=>by
     show (if a∈ε.2.1 then _ else ε.1.G a)=none
     rw [if_neg λ q=>Q5 a q ha];exact G.mS a ha⟩
    refine h4.1 rfl ε.2.2.1 _ X3 F4 vO s4 Mm Nb R4 (λ {F6 UG UH s6} R6=>?_) (nP.mono (l2.trans (l3.trans l4)) (k3.trans k4)) _ _ ?_
    ·refine bB (λ Rb Ub Sx gb sb=>?_) (out R6)
     have e6:cW ε.1.G ε.2.1 s6.heap=cW ε.1.G ε.2.1 s2.heap:=funext λ b=>by
      unfold cW
      by_cases hb:b∈ε.2.1
      ·rw [if_pos hb,if_pos hb]
       refine qE (λ o ho=>?_) (Go.live _ _ zC b hb)
       rw [ho,sb b hb o ho]
      ·rw [if_neg hb,if_neg hb]
     exact bY (e6▸Rb.cW Sx) ⟨Ub.1,(if_neg hne).trans Ub.2.1,Ub.2.2.1,Ub.2.2.2⟩ gb
    intro F5 Q6 s5 Q7 UI UJ Sy l5 k5 Sz R5 U5 g5 d5
    refine fJ (λ Rb Ub sb=>?_) (Rel.AZ G Q4 Q5 (Go.live _ _ zC) R5)
    exact after (l2.trans (l3.trans (l4.trans l5))) (k3.trans (k4.trans k5)) Rb ⟨U5.1,Ua.2.1,U5.2.2.1,Ua.2.2.2⟩ Ub g5 sb d5 Sz
end iE
theorem uV {C d F ρ st s iter ifs pos depth bT pX I D fp l K acc ys ep}:iE.aq C fp D l F ρ ifs K d st acc ys ep s iter pos depth bT pX I:=sk (S:=iE.S0) iE.here (C,fp,D,l,F,ρ,ifs,K,d,st,acc,ys,ep,s,iter,pos,depth,bT,pX,I)
section
variable {C:Cx}{d:Nat}{F:Fz}{ρ:Ky}{st:St}{s:Vh}
noncomputable def xX (elt:Expr)(D:Addr)(env:Env):Sem Unit:=do let _ <-call (.builtin "list.append") [.ref D,<-eval elt env]
theorem EM.emit {Ca Cb:Cx}(hp:Ca.prog=Cb.prog/\Ca.w=Cb.w/\Ca.A=Cb.A){elt:Expr}{env:Env}{D:Addr}{acc:List V}{Q:List V->St->Prop}(hz:acc.length<=sizeLine)(h:EV Ca (eval elt env) st (λ y st3=>Q (acc++[y]) st3) zG):EM Ca Cb (xX elt D env) D st acc Q:=λ F ρ s ys ep R back da Q' E hQ=>by
 have h':=h F ρ s R
 unfold Go at h'
 rw [hp.1,hp.2.1,hp.2.2] at h'
 refine Vc (h' _ _ ?_ Iw)
 rintro F5 Q6 y s5 l5 k5 hp0;apply hp0.elim;rintro yv Q7 hq R5 dy
 refine fJ (λ Ra Ua ga=>?_) (back R5)
 refine Vc (cv YW ⟨_,ga,rfl⟩ PySem.F.entry_list_append (PySem.F.args_list_append_2 _ _) (PySem.list_append D ys.toArray ep y (by rw [VM,<-da.length];exact hz)) ⟨ga,?_⟩)
 have R6:=Ra.jf Ua (Wt s5.heap D (Wr λ x=>x.push y)) s5.toks
 have Px:(s5.heap.update D (Wr λ x=>x.push y)).get? D=some (ao (ys++[y]) (if ((ys++[y]).toArray.size==ys.toArray.size) then ep else ep+1)):=by
  have:=V7 (Wr λ x=>x.push y) ga (by unfold ao Wr;rfl)
  rw [this]
  unfold ao Wr
  simp
 exact Vj (hQ F5 Q6 _ Q7 _ _ _ l5 k5 hq R6 Ua Px ((da.mono l5 k5).append (.cons dy .nil)))
noncomputable def sy (e iter:Expr)(depth:Nat)(D:Addr)(env:Env):Sem Unit:=do
 let x <-eval iter env
 standAt iter.pos
 let x <-foldedSetIterable iter env x
 let _ <-runOwn (.compStart e depth (<-holding [x] (pyIter x)) (.ref D) env) env
theorem ux {prog:Wi}{w:WK}{A:Wk}{elt:Expr}{gens:List Xv}{scope:WM}{pos:Pos}{g:Xv}{depth:Nat}{it acc:Vg}{env:Env}{R:bc->Vh->Prop}(hg:gens[depth]?=some g)(ha:(g.is_async != 0)=false)
  (h0:codeAny (model prog w) A (.compLoop (.ListComp elt gens scope pos) depth it acc env) R s)
  (h:wpAny (model prog w) A (pyIter it) (λ it' s'=>codeAny (model prog w) A (.compLoop (.ListComp elt gens scope pos) depth it' acc env) R s') (notedBy (model prog w) A env λ x s'=>R (.error x) s') s) :
  codeAny (model prog w) A (.compStart (.ListComp elt gens scope pos) depth it acc env) R s:=by
 refine dq ?_
 show wpAny _ _ ((compStart (.ListComp elt gens scope pos) depth it acc env).onRaise (λ x=>do noteFrame x env;standAt theWindowsPlace)) _ _ s
 refine wpAny_notedAt ?_
 unfold compStart
 have e1:(clausesOf (.ListComp elt gens scope pos))[depth]?=some g:=hg
 rw [e1,show (some g:Option Xv).elim false (λ x=>x.is_async != 0)=false from ha,if_neg Vp]
 show wpAny _ _ (ask >>= _) _ _ s
 refine Vc (wpAny_askSetting (wpAny_ite ?_))
 split
 ·exact Vj ⟨rfl,h0⟩
 ·exact Vc (Yt (Vc (Wb (Vc (V6 h (λ it' s' h'=>Vj ⟨rfl,h'⟩) λ _ _ x=>x)))))
theorem EM.inner {Ca Cb:Cx}(G:Cb.Good d)(hp:Ca.prog=Cb.prog/\Ca.w=Cb.w/\Ca.A=Cb.A){elt target iter:Expr}{ifs:List Expr}{gens:List Xv}{scope:WM}{pos:Pos}{depth:Nat}{body:Addr->Sem Unit}{D:Addr}{acc:List V}{Q:List V->St->Prop}{tg:Expr->Prop}(hset:aG iter=true)(kq:tg target)
  (hg:gens[depth]?=some ⟨target,iter,ifs,0⟩) (he:∀ I,compTurn (.ListComp elt gens scope pos) depth (.ref I) (.ref D) Cb.env=nO (.ListComp elt gens scope pos) depth target iter ifs (body D) (.ref I) (.ref D) Cb.env)
  (h:iB Ca (eval iter Cb.env) st tg (λ bF bT m st2=>HR Cb target ifs body bF Q m acc st2) zG):EM Ca Cb (sy (.ListComp elt gens scope pos) iter depth D Cb.env) D st acc Q:=λ F ρ s ys ep R back da Q' E hQ=>by
 have h':=h F ρ s R
 rw [hp.1,hp.2.1,hp.2.2] at h'
 refine Vc (V6 (h' (λ it s2=>wpAny (model Cb.prog Cb.w) Cb.A (runOwn (.compStart (.ListComp elt gens scope pos) depth it (.ref D) Cb.env) Cb.env) (λ _ s3=>Q' () s3) E s2) E ?_ Iw) (λ x s1 h1=>?_) λ _ _ e=>e)
 ·intro F1 bE bF bT pX m st1 I fp fX s0 h' tk l1 k1 hq hd R0 U0 IA K0 Go hst ok
  refine fJ (λ R0 UD gD=>?_) (back R0)
  have loop:=uV (RR:=λ r s'=>match r with | .ok f=>Q' () s' | .error e=>cameBackBy (model Cb.prog Cb.w) Cb.A Cb.env E e s') G (he I) Go kq hd (R0.keeps K0 tk) UD (λ b hb=>R0.cV (U0 b hb)) (λ q=>by rw [U0 D q] at gD;exact aV gD) hst (K0 _ _ gD) (da.mono l1 k1) hq
   λ F' ρ' st' s' acc' ys' vV lf kf hk R' U' g' d'=>hQ F' ρ' s' st' ys' vV acc' (l1.trans lf) (k1.trans kf) hk R' U' g' d'
  refine wpAny_runOwn (h:=none) ?_
  rw [Around.mark_none]
  exact ux hg rfl loop (Go.self Cb.A 0 _ _ _ hst loop)
 ·exact Vc (Wb (Vc (Xn (rV hset x) (Vc (Vu (V6 h1 (λ it s2 h2=>Vc (V6 h2 (λ _ s3 h3=>Vj h3) λ _ _ e=>e)) λ _ _ e=>e))))))
end
noncomputable def CW (C:Cx)(scope:WM)(d:Nat)(e target iter:Expr)(ifs:List Expr)(bF:St->Prop)(K:List V->List (Nat×MO)->Prop)(l:List V)(st:St):Prop:=∃ body:Addr->Env->Sem Unit,
 (∀ I D env,compTurn e 0 (.ref I) (.ref D) env=nO e 0 target iter ifs (body D env) (.ref I) (.ref D) env)/\
 ∀ eK,EH C eK scope d->HR eK target ifs (λ D=>body D eK.env) bF (λ acc st1=>gf (iY st.vars scope.names) st1.vars/\K acc st1.heap) l [] ⟨iY st.vars scope.names,st.heap⟩
theorem EK {M:Zn}{A:Wk}{E:Vg->Vh->Prop}{s:Vh}{scope:WM}{globals:Addr}{closure:List (Str×Addr)}{qual:Str}{func:Option Addr}{code:Vg}{outer:Env}{builtins:Addr}{Q:Env->Vh->Prop}
  (h:Q (newEnv scope s.heap.objs.size globals (cellsFrom (s.heap.objs.size+1) scope.names closure) qual func code (some outer) builtins) {s with heap:=pushCells (s.heap.push {cls:=.type "dict",data:=.dict #[]}) scope.names}) :
  wpAny M A (newFunctionEnv scope globals closure [] qual func code (some outer) builtins) Q E s:=by
 simp only [newFunctionEnv,Option.isSome_some,if_true]
 refine Vc (ZI ?_)
 refine Vc (wpAny_layCells _ (λ name kind cells=>by cases hkc:kind==Xs<;>simp [hkc]) _ _ _ _ ?_)
 rw [show ({s with heap:=s.heap.push {cls:=.type "dict",data:=.dict #[]}}:Vh).heap.objs.size=s.heap.objs.size+1 from Xi ..]
 rw [Xj]
 exact Vc (Vj (Vj h))
section
variable {C:Cx}{d:Nat}{F:Fz}{ρ:Ky}{st:St}{s:Vh}
theorem p6 {elt target iter:Expr}{ifs:List Expr}{rest:List Xv}{scope:WM}{pos:Pos}{bF:St->Prop}{bT:List V}{pX:List Vg}{I:Addr}{fp:List Addr}{l:List V}{tg:Expr->Prop}{fX:Nat->Heap->Prop}{h0:Heap}{tk:Nat}{E:Vg->Vh->Prop}
  (G:C.Good d) {Q:List V->List (Nat×MO)->Prop}{RR:Vg->Addr->bc->Vh->Prop} (hok:bX C.env.scope.names scope=true) (R:Rel C F ρ st s) (hfr:∀ b,b∈fp->s.heap.get? b=none) (IA:s.heap.objs.size<=h0.objs.size) (IB:Keeps s.heap h0) (hd:aF F ρ bT pX) (Go:fR C.prog C.w bF bT pX I fp l tg fX) (kq:tg target) (Nf:fX 0 h0)
  (hW:CW C scope d (.ListComp elt (⟨target,iter,ifs,0⟩::rest) scope pos) target iter ifs bF Q l st)
  (hRR:∀ D L F2 bZ acc h2 s2 ys n,aZ F F2->bD ρ bZ->Q acc h2->Rel C F2 bZ ⟨st.vars,h2⟩ s2->aP C F2 bZ D->aP C F2 bZ L->D≠L->(∃ m,s2.heap.Ns L m)->s2.heap.get? D=some (ao ys n)->aF F2 bZ acc ys->RR (.ref D) L (.ok .next) s2) :
  wpAny (model C.prog C.w) C.A (newList []) (λ acc s₃=>wpAny (model C.prog C.w) C.A (newFunctionEnv scope C.env.globals (cM C.env scope.names) [] C.env.qual none .none (some C.env)) (λ cenv s₄=>
   codeAny (model C.prog C.w) C.A (.compStart (.ListComp elt (⟨target,iter,ifs,0⟩::rest) scope pos) 0 (.ref I) acc {cenv with scope:=relabel scope C.env}) (RR acc cenv.locals) s₄) E s₃) E {s with heap:=h0,toks:=tk}:=by
 refine bQ (λ pk pn pc pf=>?_) (bM hok)
 refine aI (λ body hturn hW=>?_) hW
 have Mq:∀ b,b∈fp->b<h0.objs.size:=λ b hb=>qE (λ o ho=>V1 ho) (Go.live _ _ Nf b hb)
 refine Xh (EK ?_)
 dsimp only
 generalize Py:h0.push {cls:=.type "list",dict:=none,data:=.seq ([]:List Vg).toArray}=H2
 have eL:H2.objs.size=h0.objs.size+1:=by rw [<-Py,Xi]
 have SA:H2.objs.size≠h0.objs.size:=by rw [eL];exact Xu (Wf _)
 have Ng:=cellsFrom_ok scope.names (H2.push {cls:=.type "dict",data:=.dict #[]}) (H2.objs.size+1) [] ⟨λ _ _ hm=>(nomatch hm),List.Pairwise.nil⟩ (by rw [Xi];exact VD _)
 rw [Xi] at Ng
 rw [dB scope.names (H2.objs.size+1) (cM C.env scope.names)]
 have Q8:=iZ scope.names (H2.objs.size+1)
 have Rc:=jF scope.names (H2.objs.size+1)
 generalize cellsFrom (H2.objs.size+1) scope.names []=cs at Ng Q8 Rc ⊢
 have EN:(pushCells (H2.push {cls:=.type "dict",data:=.dict #[]}) scope.names).Ns H2.objs.size λ _=>none:=(Heap.Ns.new H2 (.type "dict")).keeps (pushCells_keeps _ _)
 have EO:∀ b o,H2.get? b=some o->(pushCells (H2.push {cls:=.type "dict",data:=.dict #[]}) scope.names).get? b=some o:=λ b o e=>pushCells_keeps _ _ b o (VA _ e)
 have hce:∀ x c,(x,c)∈cs->(pushCells (H2.push {cls:=.type "dict",data:=.dict #[]}) scope.names).IsCell c none:=λ x c hm=>(Ng.empty x c hm).1
 have hgt:∀ x c,(x,c)∈cs->H2.objs.size<c:=λ x c hm=>(Ng.empty x c hm).2
 generalize pushCells (H2.push {cls:=.type "dict",data:=.dict #[]}) scope.names=h₁ at EN EO hce ⊢
 have J7:∀ b o,h0.get? b=some o->h₁.get? b=some o:=λ b o e=>EO b o (Py▸VA _ e)
 have hK:Keeps s.heap h₁:=λ b o e=>J7 b o (IB b o e)
 have gD:h₁.get? h0.objs.size=some (ao [] 0):=EO _ _ (Py▸VL _ rfl)
 have nD:s.heap.get? h0.objs.size=none:=WU IA
 have nL:s.heap.get? H2.objs.size=none:=by
  rw [eL];exact WU (Vd IA (Xy _))
 have SD:∀ b,b∈fp->b<H2.objs.size:=λ b hb=>by rw [eL];exact Zh (Mq b hb)
 have hDL:h0.objs.size<H2.objs.size:=by rw [eL];exact Wf _
 have NC:xR s.heap H2.objs.size scope.names cs:={
  mem:=Q8
  has:=λ x hx=>qE (λ c hc=>nN hc) (Rc x hx)
  new:=λ x c hm=>⟨WU (by have:=hgt x c hm;rw [eL] at this;exact Vv (VB IA (Nat.lt_of_succ_lt this))),hgt x c hm⟩
  apart:=Ng.apart}
 have Mq:h0.objs.size∉fp:=λ hb=>by have:=Mq _ hb;exact V8 _ this
 have UD:=R.cV nD
 have UL:=R.cV nL
 generalize UK:h0.objs.size=D at *
 generalize hLe:H2.objs.size=L at *
 have K3:∀ a,a∈(cM C.env scope.names).map (·.2)->∃ o,s.heap.get? a=some o:=λ a ha=>by
  refine aI (λ y _ hy=>?_) (kW G.toGood0 hok ha)
  exact R.jC (.inr ⟨y,hy⟩)
 let G₀:=iD (cM C.env scope.names) F ρ s.heap
 have sD:∀ a,s.heap.get? a=none->G₀ a=none:=λ a ha=>by
  cases e:G₀ a with
  | none=>rfl
  | some o=>have:=(dU (l8 e).2).2.2;rw [ha] at this;exact aV this
 have IC:∀ a,a=L\/a∈(cs++cM C.env scope.names).map (·.2)->G₀ a=none:=λ a h=>by
  rcases h with rfl | h
  ·exact sD _ nL
  ·rw [VI] at h
   rcases Wa.mp h with h | h
   ·apply iu (h:=h);intro q hq
    exact sD _ (NC.new q.1 q.2 hq).1
   show iD _ _ _ _ a=none
   unfold iD;rw [if_pos h]
 let eK:=C.comp scope L cs G₀
 have GC:eK.Good d:=Good.comp NC G R hok nL (aZ.refl _) IC
 have Pz:∀ {a},eK.own a->a=L\/L<a\/a∈(cM C.env scope.names).map (·.2):=λ {a} h=>by
  rcases h with q | ⟨x,hx⟩
  ·exact .inl q
  ·rcases ji hx with hx | hx
   ·exact .inr (.inl (NC.new _ _ hx).2)
   exact .inr <| .inr (WW.mpr (aC (x,a) (mem_of_lookup hx) rfl))
 have K4:∀ {a},s.heap.get? a=none->a<L->¬ eK.own a:=λ {a} h1 h2 h=>by
  rcases Pz h with q | q | q
  ·exact WE h2 q
  ·exact V8 _ (VJ h2 q)
  ·refine qE (λ o ho=>?_) (K3 a q);rw [h1] at ho;exact aV ho
 have R0:Rel eK F ρ ⟨iY st.vars scope.names,st.heap⟩ {s with heap:=h₁,toks:=tk}:=R.EG G hok NC nL rfl hK EN hce
 have Nh:fX 0 h₁:=Go.frame 0 _ _ Nf λ b hb o e=>J7 b o e
 have U0:∀ b,s.heap.get? b=none->b<L->aP eK F ρ b:=λ b h1 h2=>let U:=R.cV h1;⟨U.1,sD b h1,U.2.2.1,K4 h1 h2⟩
 have loop:=uV (C:=eK) (RR:=RR (.ref D) L) (pos:=pos) (gens:=⟨target,iter,ifs,0⟩::rest) (elt:=elt) (scope:=scope) GC (hturn I D eK.env) Go kq hd R0 (U0 D nD hDL) (λ b hb=>U0 b (hfr b hb) (SD b hb)) Mq Nh gD .nil (hW eK ⟨GC,rfl,rfl,rfl,vX G.fn _⟩)
  λ F' ρ' st' s' acc' ys' vV lF lK hq Rn U2 gn nP=>by
   have Rb:=R.Iu NC G hok (aZ.refl _) (Rn.Iv hq.1) lF lK λ x v e=>e
   have ID:∃ m,s'.heap.Ns L m:=by refine aI (λ m q _=>?_) Rn.ns;exact ⟨m,q⟩
   refine hRR D L F' ρ' acc' _ s' ys' vV lF lK hq.2 Rb ⟨U2.1,UD.2.1,U2.2.2.1,UD.2.2.2⟩ ⟨Rn.c7 L (.inl rfl),UL.2.1,λ n e=>?_,UL.2.2.2⟩ SA.symm ID gn nP
   refine qS (λ ob hob=>?_) ((Rn.dom n _ e))
   refine ak (λ a' Pe q1 _=>bQ λ _ _ _ q6=>?_) (Rn.mt n ob hob)
   rw [e] at q1;obtain rfl:=Vf q1
   exact q6 (.inl rfl)
 exact codeAny_compStart_list loop (Go.self C.A 0 _ _ _ Nh loop)
end
section
variable {C:Cx}{d:Nat}
theorem EH.keep {C eK:Cx}{scope:WM}{d:Nat}(I:EH C eK scope d){G₁:Fz}(h:Ext eK G₁):EH C (eK.keep G₁) scope d:=⟨I.good.keep h,I.K,I.prog,I.w,I.names⟩
theorem TW.imp {C:Cx}:∀ {ifs:List Expr}{st:St}{Q Q':Bool->St->Prop},TW C ifs st Q->(∀ b st,Q b st->Q' b st)->TW C ifs st Q'
 | [],st,Q,Q',h,k=>k _ _ h
 | c::r,st,Q,Q',h,k=>EB.mono h λ b st1 q=>⟨λ e=>TW.imp (q.1 e) k,λ e=>k _ _ (q.2 e)⟩
theorem p7 {acc r:List V}{v:V}{n:Nat}(h:acc.length+(v::r).length<=n):acc.length<=n/\acc.length+r.length<=n/\∀ y:V,(acc++[y]).length+r.length<=n:=by
 rw [V3] at h
 refine bY (by lia) (by lia) (λ y=>?_)
 rw [Vk,V3,du];lia
theorem sr.k {eK:Cx}{scope:WM}{elt target:Expr}{ifs:List Expr}{bF:St->Prop}{base:List (Str×V)}{Q:List V->List (Nat×MO)->Prop}(I:EH C eK scope d):∀ {r acc:List V}{h:List (Nat×MO)},acc.length+r.length<=sizeLine->sr C scope d target elt ifs bF base Q r acc h->
  HR eK target ifs (λ D=>xX elt D eK.env) bF (λ acc st1=>gf base st1.vars/\Q acc st1.heap) r acc ⟨base,h⟩
 | [],acc,h,_,w=>⟨w.1,λ x v e=>e,w.2⟩
 | v::r,acc,h,hz,w=>⟨w.1,λ G₁ EP=>AS.mono (w.2 _ (I.keep EP)) λ st1 t=>t.imp λ ok st2 z=>
  ⟨λ e D uw IE=>EM.emit (Ca:=eK.keep G₁) (Cb:=eK.keep uw) (env:=eK.env) (bY rfl rfl rfl) (p7 hz).1 ((z.1 e).mono λ y st3 q=>aC base q.1 (sr.k I ((p7 hz).2.2 y) q.2)),λ e=>aC base ((z.2 e).1) (sr.k I (p7 hz).2.1 (z.2 e).2)⟩⟩
theorem sr.cw {st:St}{scope:WM}{pos:Pos}{elt target iter:Expr}{ifs:List Expr}{bF:St->Prop}{Q:List V->List (Nat×MO)->Prop}{l:List V}(hz:l.length<=sizeLine)(h:sr C scope d target elt ifs bF (iY st.vars scope.names) Q l [] st.heap):
  CW C scope d (.ListComp elt [⟨target,iter,ifs,0⟩] scope pos) target iter ifs bF Q l st:=⟨λ D env=>xX elt D env,λ I D env=>rfl,λ eK I=>h.k I (by rw [du,Ws];exact hz)⟩
theorem EV.Cw (G:C.Good d){elt target iter:Expr}{ifs:List Expr}{rest:List Xv}{scope:WM}{pos:Pos}{st:St}{Q:QV}{X:XK}{tg:Expr->Prop}(hok:bX C.env.scope.names scope=true)(hset:aG iter=true)(kq:tg target)
  (h:iB C (eval iter C.env) st tg (λ bF bT l st1=>CW C scope d (.ListComp elt (⟨target,iter,ifs,0⟩::rest) scope pos) target iter ifs bF (λ acc h=>Q (.lst acc) ⟨st1.vars,h⟩) l st1) X) :
  EV C (eval (.ListComp elt (⟨target,iter,ifs,0⟩::rest) scope pos) C.env) st Q X:=λ F ρ s R Q' E hQ hE=>by
 rw [eval_ListComp]
 refine bQ (λ pk pn pc pf=>?_) (bM hok)
 refine YY (use:=We) (e:=.ListComp elt (⟨target,iter,ifs,0⟩::rest) scope pos) (g:=⟨target,iter,ifs,0⟩) (gs:=rest) rfl (rV (e:=iter) hset) (jG (gR G.toGood0 hok)) pk (λ x hx hl=>aS pn (by obtain ⟨a,b⟩:=x;cases hl;exact hx)) (h F ρ s R _ E ?_ hE)
 intro F1 bE bF bT pX l st1 I fp fX s1 h' tk l1 k1 hW d1 R1 hfr hsz hk Go hst _
 refine p6 (RR:=λ acc L=>compPost (model C.prog C.w) C.A E We Q' acc L) G hok R1 hfr hsz hk d1 Go kq hst hW ?_
 intro D L F2 bZ acc h2 s2 ys n lF kF hq R2 UD UL hDL ID EJ nP
 refine qE (λ m hm=>?_) ID
 refine ⟨m,hm,λ h' hs'=>?_⟩
 have R3:=R2.jf UL hs' s2.toks
 have K5:h'.get? D=some (ao ys n):=(hs'.2 D hDL).trans EJ
 refine qA (λ l3 R4=>?_) (R3.adopt (o:=ao ys n) UD K5)
 exact hQ _ bZ _ _ (l1.trans (lF.trans l3)) (k1.trans kF) (Post.in (hq) (R4) (.lst (aX ..) (nP.mono l3 (bD.refl _))))
noncomputable def Ni (C:Cx)(scope:WM)(d:Nat)(target elt:Expr)(bF:St->Prop)(K:List V->St->Prop):List V->List V->St->Prop
 | [],acc,st=>bF st/\K acc st
 | v::r,acc,st=>(bF st/\acc.length<=sizeLine)/\∀ C',EH C C' scope d->AS C' (VR target C'.env) v st (λ st1=>EV C' (eval elt C'.env) st1 (λ y st2=>∃ vs,gf vs st2.vars/\Ni C scope d target elt bF K r (acc++[y]) ⟨vs,st2.heap⟩) zG) zG
noncomputable def v5 (C:Cx)(scope:WM)(d:Nat)(t1 t2 m7 elt:Expr)(tg:Expr->Prop)(bF:St->Prop)(base:List (Str×V))(Q:List V->List (Nat×MO)->Prop):List V->List V->List (Nat×MO)->Prop
 | [],acc,h=>bF ⟨base,h⟩/\Q acc h
 | v::r,acc,h=>bF ⟨base,h⟩/\∀ C',EH C C' scope d->AS C' (VR t1 C'.env) v ⟨base,h⟩ (λ st1=>iB C' (eval m7 C'.env) st1 tg (λ Nj bT m st2=>
   Ni C scope d t2 elt Nj (λ acc' st3=>gf base st3.vars/\v5 C scope d t1 t2 m7 elt tg bF base Q r acc' st3.heap) m acc st2) zG) zG
theorem iB.imp {st:St}{X:XK}{m:Sem Vg}{tg:Expr->Prop}{Q Q':(St->Prop)->List V->List V->St->Prop}(h:iB C m st tg Q X)(hi:∀ bF bT l st1,Q bF bT l st1->Q' bF bT l st1):iB C m st tg Q' X:=λ F ρ s R Q2 E hQ hE=>
 h F ρ s R Q2 E (λ F' ρ' bF bT pX l st1 I fp fX s0 h' tk a1 a2 c=>hQ F' ρ' bF bT pX l st1 I fp fX s0 h' tk a1 a2 (hi _ _ _ _ c)) hE
theorem Ni.k {Cb:Cx}{scope:WM}{elt target:Expr}{bF:St->Prop}{K K':List V->St->Prop}(I:EH C Cb scope d)(hK:∀ acc st,K acc st->K' acc st):∀ {r acc:List V}{st:St},Ni C scope d target elt bF K r acc st->HR Cb target [] (λ D=>xX elt D Cb.env) bF K' r acc st
 | [],acc,st,w=>⟨w.1,hK _ _ w.2⟩
 | v::r,acc,st,w=>⟨w.1.1,λ G₁ EP=>AS.mono (w.2 _ (I.keep EP)) λ st1 z=>⟨λ _ D uw IE=>EM.emit (Ca:=Cb.keep G₁) (Cb:=Cb.keep uw) (env:=Cb.env) (bY rfl rfl rfl) w.1.2 (z.mono λ y st3=>aI λ vs a b=>aC vs a (Ni.k I hK b)),nofun⟩⟩
theorem v5.k {eK:Cx}{scope:WM}{pos:Pos}{elt t1 uW t2 m7:Expr}{tg:Expr->Prop}{bF:St->Prop}{base:List (Str×V)}{Q:List V->List (Nat×MO)->Prop}(I:EH C eK scope d)(hset:aG m7=true)(kq:tg t2):∀ {r acc:List V}{h:List (Nat×MO)},v5 C scope d t1 t2 m7 elt tg bF base Q r acc h->
  HR eK t1 [] (λ D=>sy (.ListComp elt [⟨t1,uW,[],0⟩,⟨t2,m7,[],0⟩] scope pos) m7 1 D eK.env) bF (λ acc st1=>gf base st1.vars/\Q acc st1.heap) r acc ⟨base,h⟩
 | [],acc,h,w=>⟨w.1,λ x v e=>e,w.2⟩
 | v::r,acc,h,w=>⟨w.1,λ G₁ EP=>AS.mono (w.2 _ (I.keep EP)) λ st1 z=>⟨λ _ D uw IE=>EM.inner (Ca:=eK.keep G₁) (Cb:=eK.keep uw) (body:=λ D=>xX elt D eK.env) (I.good.keep IE) (bY rfl rfl rfl) hset kq rfl (λ _=>rfl)
   (z.imp λ Nj bT m st2 q=>q.k (I.keep IE) λ acc' st3 q2=>aC base q2.1 (v5.k I hset kq q2.2)),nofun⟩⟩
theorem ER {scope:WM}{pos:Pos}{elt t1 uW t2 m7:Expr}{I D:Addr}{env:Env}:compTurn (.ListComp elt [⟨t1,uW,[],0⟩,⟨t2,m7,[],0⟩] scope pos) 0 (.ref I) (.ref D) env =
  nO (.ListComp elt [⟨t1,uW,[],0⟩,⟨t2,m7,[],0⟩] scope pos) 0 t1 uW [] (sy (.ListComp elt [⟨t1,uW,[],0⟩,⟨t2,m7,[],0⟩] scope pos) m7 1 D env) (.ref I) (.ref D) env:=by
 unfold nO sy
 simp only [hJ,ce]
 rfl
theorem v5.cw {st:St}{scope:WM}{pos:Pos}{elt t1 uW t2 m7:Expr}{tg:Expr->Prop}{bF:St->Prop}{Q:List V->List (Nat×MO)->Prop}{l:List V}(hset:aG m7=true)(kq:tg t2)(h:v5 C scope d t1 t2 m7 elt tg bF (iY st.vars scope.names) Q l [] st.heap):
  CW C scope d (.ListComp elt [⟨t1,uW,[],0⟩,⟨t2,m7,[],0⟩] scope pos) t1 uW [] bF Q l st:=⟨λ D env=>sy (.ListComp elt [⟨t1,uW,[],0⟩,⟨t2,m7,[],0⟩] scope pos) m7 1 D env,λ I D env=>ER,λ eK I=>h.k I hset kq⟩
end
end
section
noncomputable def zH:Expr->Option WM
 | .ListComp _ _ s _ | .SetComp _ _ s _ | .DictComp _ _ _ s _=>some s
 | _=>none
noncomputable def ET (fn:Bool)(look:Str->Option Vn)(t value:Expr):Bool:=match zH value with
 | some s=>nameOf (λ x p=>fn&&look x==some .local&&p.line==value.pos.line&&!(s.names.any λ(n,k)=>n==x&&(k==.local||k==.cell))) false t
 | _=>false
noncomputable def ou (names:List (Str×Vn)):Expr->Expr->Bool:=ET true (az names)
theorem xY {α:Type}{a:Str->Pos->α}{b:α}{t:Expr}:(pure (nameOf a b t):Sem α)=nameOf (λ x p=>pure (a x p)) (pure b) t:=by induction t using XG<;>rfl
theorem xZ {env:Env}{t value:Expr}{line:Nat}(hf:env.scope.kind=.function):swapsWithSole [t] value line env=pure (ou env.scope.names t value):=by
 have hb:(env.blockKind==.function)=true:=by unfold fb;rw [hf];rfl
 have e:swapsWithSole [t] value line env=pure (ET (env.blockKind==.function) (env.scope.names.lookup ·) t value):=by
  have e:swapsWithSole [t] value line env=(match zH value with | some s=>nameOf (λ x p=>pure (env.blockKind==.function&&env.kindOf x==some .local&&p.line==value.pos.line&&!(s.names.any λ(n,k)=>n==x&&(k==.local||k==.cell)))) (pure false) t | _=>pure false):=by kernel_rfl
  rw [e]
  unfold ET
  cases zH value with
  | none=>rfl
  | some s=>rw [xY];rfl
 rw [e,hb,<-show az env.scope.names=(env.scope.names.lookup ·) from funext (bA _)];rfl
section
variable {C:Cx}{st:St}{X:XK}{kb d:Nat}
theorem ES.assignQ (G:C.Good d){t value:Expr}{pos:Pos}{Q:Fl->St->Prop}(hs:notStar t=true)(hc:ou C.env.scope.names t value=false)(hw:j9 C.env.scope.names [t] value=some none)
  (h:EV C (eval value C.env) st (λ v st1=>AS C (VR t C.env) v st1 (λ st2=>Q .next st2) X) X):ES C kb (exec (.Assign [t] value pos) C.env) st Q X:=λ F ρ s R Q' E hQ hE=>by
 refine ZS (h F ρ s R _ E ?_ (xG hE (aZ.refl _) (bD.refl _))) ((xZ G.fn).trans (congrArg pure hc)) (rz G.fn hw)
 intro F1 bE x s1 l1 k1;refine ak λ v st1 h1 R1 d1=>?_
 have e0:(assignEach [t] C.env).map (·.2)=[VR t C.env]:=(ru [t] (fP hs)).2.2
 rw [e0]
 refine h1 F1 bE s1 x R1 d1 _ E ?_ (xG hE l1 k1)
 intro F2 bZ _ s2 l2 k2;refine aI λ st2 h2 R2=>?_
 exact hQ F2 bZ _ _ (l1.trans l2) ((k1.trans k2).b kb) (cy.in (h2) (R2) (.next))
end
section
variable {C:Cx}{st:St}{X:XK}{kb d:Nat}
theorem ES.ow (G:C.Good d)(own:Bool){elt target iter:Expr}{ifs:List Expr}{rest:List Xv}{scope:WM}{y:Str}{py pos spos:Pos}{Q:Fl->St->Prop}{tg:Expr->Prop}(hok:bX C.env.scope.names scope=true)(hset:aG iter=true)(kq:tg target)(hsw:ou C.env.scope.names (.Name y py) (.ListComp elt (⟨target,iter,ifs,0⟩::rest) scope pos)=true)
  (h:iB C (eval iter C.env) st tg (λ bF bT l st1=>CW C scope d (.ListComp elt (⟨target,iter,ifs,0⟩::rest) scope pos) target iter ifs bF (λ acc h=>
   br own (Q .next (bK (pP ⟨st1.vars,h⟩ acc) y (.loc (fresh h)))) (Q .next (bK ⟨st1.vars,h⟩ y (.lst acc)))) l st1) X):ES C kb (exec (.Assign [.Name y py] (.ListComp elt (⟨target,iter,ifs,0⟩::rest) scope pos) spos) C.env) st Q X:=λ F ρ s R Q' E hQ hE=>by
 have PA:swapsWith (.ListComp elt (⟨target,iter,ifs,0⟩::rest) scope pos) (some (.Name y py)) spos.line C.env=pure true:=(xZ (line:=spos.line) G.fn).trans (congrArg pure hsw)
 have hk:d8 C.env.scope.names y=true:=YU.mpr (.inl (VG.mp (VG.mp hsw).1).1)
 refine bQ (λ pk pn pc pf=>?_) (bM hok)
 rw [exec_Assign_Name_used _ _ _ _ PA]
 refine Vc (Wb (Vc ?_))
 show wpAny _ C.A (do let _ <-comprehension (.ListComp elt (⟨target,iter,ifs,0⟩::rest) scope pos) scope C.env _ (newList []) false (eval iter C.env) (some (VR (.Name y py) C.env))) _ _ s
 refine Vc (V6 (YY (e:=.ListComp elt (⟨target,iter,ifs,0⟩::rest) scope pos) (g:=⟨target,iter,ifs,0⟩) (gs:=rest) (use:=some (VR (.Name y py) C.env)) (Q:=λ _ s'=>Q' .next s') rfl (rV (e:=iter) hset)
  (jG (gR G.toGood0 hok)) pk (λ x hx hl=>aS pn (by obtain ⟨a,b⟩:=x;cases hl;exact hx)) (h F ρ s R _ E ?_ (xG hE (aZ.refl _) (bD.refl _)))) (λ _ s' hq=>Vj (Vj hq)) λ _ _ e=>e)
 intro F1 bE bF bT pX l st1 I fp fX s1 h' tk l1 k1 hW d1 R1 hfr hsz hk' Go hst _
 refine p6 (RR:=λ acc L=>compPost (model C.prog C.w) C.A E (some (VR (.Name y py) C.env)) (λ _ s'=>Q' .next s') acc L) G hok R1 hfr hsz hk' d1 Go kq hst hW ?_
 intro D L F2 bZ acc h2 s2 ys n lF kF hq R2 UD UL hDL ID EJ nP
 refine qE (λ m hm=>?_) ID
 have store:∀ {F3 fO st3 v},aZ F2 F3->bD bZ fO->Rel C F3 fO st3 s2->Den F3 fO v (.ref D)->aP C F3 fO L->Q .next (bK st3 y v)->compPost (model C.prog C.w) C.A E (some (VR (.Name y py) C.env)) (λ _ s'=>Q' .next s') (.ref D) L (.ok .next) s2:=λ {F3 fO st3 v} lf kf R3 dv Rd Nk=>by
  show wpAny _ C.A (VR (.Name y py) C.env (.ref D)) _ _ _
  refine wpAny_assign_Name (uQ G.toGood0 R3 hk dv λ s4 R4 SE=>?_)
  refine aU (λ o es ep ho hr=>?_) hm
  refine aC m ⟨o,es,ep,(SE L Rd.2.2.2).trans ho,hr⟩ (λ h' hs'=>?_)
  have R5:=R4.jf Rd hs' s4.toks
  exact hQ F3 fO _ _ (l1.trans (lF.trans lf)) ((k1.trans (kF.trans kf)).b kb) (cy.in (Nk) (R5) (.next))
 induction own with
 | false=>
  refine qA (λ l3 R4=>?_) (R2.adopt (o:=ao ys n) UD EJ)
  refine store l3 (bD.refl _) R4 (.lst (aX ..) (nP.mono l3 (bD.refl _))) ⟨?_,UL.2⟩ (hq.2 rfl)
  show (if L=D then _ else F2 L)=none
  rw [if_neg hDL.symm];exact UL.1
 | true=>
  have kk:=fW (a:=D) (kH R2)
  refine qA (λ _ R4=>?_) (R2.EI (mo:=.lst acc) (n:=Internal.fresh h2) UD EJ (aA _) (.lst (nP.mono (aZ.refl _) kk)))
  refine store (aZ.refl _) kk R4 (.loc (if_pos rfl)) ⟨UL.1,UL.2.1,λ q e=>?_,UL.2.2.2⟩ (hq.1 rfl)
  have e':(if q=Internal.fresh h2 then some D else bZ q)=some L:=e
  by_cases hq':q=Internal.fresh h2
  ·rw [if_pos hq'] at e';obtain rfl:=Vf e';exact hDL rfl
  ·rw [if_neg hq'] at e';exact UL.2.2.1 q e'
theorem ES.assign_comp (G:C.Good d)(own:Bool){elt target iter:Expr}{ifs:List Expr}{scope:WM}{y:Str}{py pos spos:Pos}{Q:Fl->St->Prop}{tg:Expr->Prop}(hok:bX C.env.scope.names scope=true)(hset:aG iter=true)(kq:tg target)(hsw:ou C.env.scope.names (.Name y py) (.ListComp elt [⟨target,iter,ifs,0⟩] scope pos)=true)
  (h:iB C (eval iter C.env) st tg (λ bF bT l st1=>l.length<=sizeLine/\sr C scope d target elt ifs bF (iY st1.vars scope.names) (λ acc h=>
   br own (Q .next (bK (pP ⟨st1.vars,h⟩ acc) y (.loc (fresh h)))) (Q .next (bK ⟨st1.vars,h⟩ y (.lst acc)))) l [] st1.heap) X):ES C kb (exec (.Assign [.Name y py] (.ListComp elt [⟨target,iter,ifs,0⟩] scope pos) spos) C.env) st Q X:=
 ES.ow G own hok hset kq hsw (h.imp λ bF bT l st1 q=>sr.cw q.1 q.2)
theorem EV.Cy (G:C.Good d){elt target iter:Expr}{ifs:List Expr}{scope:WM}{pos:Pos}{Q:QV}{tg:Expr->Prop}(hok:bX C.env.scope.names scope=true)(hset:aG iter=true)(kq:tg target)
  (h:iB C (eval iter C.env) st tg (λ bF bT l st1=>l.length<=sizeLine/\sr C scope d target elt ifs bF (iY st1.vars scope.names) (λ acc h=>Q (.lst acc) ⟨st1.vars,h⟩) l [] st1.heap) X) :
  EV C (eval (.ListComp elt [⟨target,iter,ifs,0⟩] scope pos) C.env) st Q X:=EV.Cw G hok hset kq (h.imp λ bF bT l st1 q=>sr.cw q.1 q.2)
theorem ES.jH (G:C.Good d)(own:Bool){elt t1 uW t2 m7:Expr}{scope:WM}{y:Str}{py pos spos:Pos}{Q:Fl->St->Prop}{tg Mr:Expr->Prop}(hok:bX C.env.scope.names scope=true)(hset:aG uW=true)(EW:aG m7=true)(kq:tg t1)(K6:Mr t2)
  (hsw:ou C.env.scope.names (.Name y py) (.ListComp elt [⟨t1,uW,[],0⟩,⟨t2,m7,[],0⟩] scope pos)=true)
  (h:iB C (eval uW C.env) st tg (λ bF bT l st1=>v5 C scope d t1 t2 m7 elt Mr bF (iY st1.vars scope.names) (λ acc h=>
   br own (Q .next (bK (pP ⟨st1.vars,h⟩ acc) y (.loc (fresh h)))) (Q .next (bK ⟨st1.vars,h⟩ y (.lst acc)))) l [] st1.heap) X):ES C kb (exec (.Assign [.Name y py] (.ListComp elt [⟨t1,uW,[],0⟩,⟨t2,m7,[],0⟩] scope pos) spos) C.env) st Q X:=
 ES.ow G own hok hset kq hsw (h.imp λ bF bT l st1 q=>q.cw EW K6)
theorem EV.listcomp (G:C.Good d){elt target iter:Expr}{ifs:List Expr}{scope:WM}{pos:Pos}{Q:QV}(hok:bX C.env.scope.names scope=true)(hset:aG iter=true)
  (h:EV C (eval iter C.env) st (λ src st1=>∃ p l,itemsOf st1 src=some (p,l)/\p/\l.length<=sizeLine/\LW C scope d target elt ifs src (iY st1.vars scope.names) l (λ acc h=>Q (.lst acc) ⟨st1.vars,h⟩) l [] st1.heap) X) :
  EV C (eval (.ListComp elt [⟨target,iter,ifs,0⟩] scope pos) C.env) st Q X:=EV.Cy G hok hset trivial (iB.ev h)
end
end
section
noncomputable def EX (K:Frag):Prop:=(∀ (M:Zn) (h:Heap),K.In h->Looks M h (builtinsFor mainGlobals builtinsNs) builtinsNs)/\∃ v,nsIn K mainGlobals "__name__" = some v
theorem fS {h:List (Nat×MO)}{k:Nat}{m:MO}(e:J h k=some m):af h k m=h:=by
 induction h with
 | nil=>exact aV e
 | cons p l ih=>
  have e:(bif Vo k p.1 then some p.2 else J l k)=some m:=e
  show (bif Vo k p.1 then (p.1,m)::l else p::af l k m)=_
  cases c:Vo k p.1 with
  | true=>rw [c] at e;obtain rfl:=Vf e;rfl
  | false=>rw [c] at e;exact congrArg (p::·) (ih e)
theorem jI {h:List (Nat×MO)}{k:Nat}{a b:MO}:af (af h k a) k b=af h k b:=by
 induction h with
 | nil=>
  show (bif Vo k k then [(k,b)] else _)=_
  rw [WL];rfl
 | cons p l ih=>
  show af (bif Vo k p.1 then (p.1,a)::l else p::af l k a) k b=bif Vo k p.1 then (p.1,b)::l else p::af l k b
  cases c:Vo k p.1 with
  | true=>show (bif Vo k p.1 then (p.1,b)::l else _)=_;rw [c];rfl
  | false=>show (bif Vo k p.1 then _ else p::af (af l k a) k b)=_;rw [c];exact congrArg (p::·) ih
theorem sE {pos:Pos}{a b:Int}{c v:Vg}(l:List Vg)(h:i4 l)(e:codeAmong pos (l++[rawInt a,rawInt b,c])=some v):codeAmong pos l=some v\/v=c:=by
 fun_induction i4 l with
 | case1=>
  simp only [Vz,codeAmong,rawInt] at e
  split at e
  ·exact .inr (Vf e).symm
  ·exact jB e
 | case2 a' t b' u x rest ih=>
  simp only [ci,codeAmong] at e ⊢
  split at e
  ·rename_i hc;rw [if_pos hc];exact .inl e
  ·rename_i hc;rw [if_neg hc];exact ih h e
 | case3 l h1 h2=>exact h.elim
theorem uX {h h1:Heap}{c P:Addr}{ps:Array Vg}{oc ob:Obj}(x:h.IsCode c P ps)(e1:h.get? c=some oc)(e2:h.get? P=some ob)(f1:h1.get? c=some oc)(f2:h1.get? P=some ob):h1.IsCode c P ps:=by
 unfold Heap.IsCode at x ⊢
 rw [e1,e2] at x
 rw [f1,f2]
 exact x
theorem x6 {h:Heap}{c P:Addr}{ps:Array Vg}(x:h.IsCode c P ps):∃ op,h.get? P=some op/\op.data=.fields ps/\i4 ps.toList:=by
 refine cps λ G0 qY=>?_
 refine bG (λ o vs file tf=>bG λ flags tg UM text=>D7 λ tt op x=>?_) x
 exact qY (fu op x.2.2.2.2.2.2.2.1 x.2.2.2.2.2.2.2.2.1 x.2.2.2.2.2.2.2.2.2.1)
theorem x7 {h h1:Heap}{c P:Addr}{ps:Array Vg}{oc ob:Obj}(x:h.TableAt c P ps)(e1:h.get? c=some oc)(e2:h.get? P=some ob)(f1:h1.get? c=some oc)(f2:h1.get? P=some ob):h1.TableAt c P ps:=by
 unfold Heap.TableAt at x ⊢
 rw [e1,e2] at x
 rw [f1,f2]
 exact x
namespace iF
noncomputable def aq (pos:Pos)(kp:Nat)(s:Vh)(st:St)(c:Nat)(F:Fz)(C:Cx)(ρ:Ky)(line:Nat)(name qual:Str)(Q E:Vg->Vh->Prop):Prop:=∀ (R:Rel C F ρ st s) {params:i5}{scope:WM}{body:FuncBody} (hcode:C.env.code=.ref c) (hk:J st.heap kp=some (.qj c kp)) (h:∀ F' v s',aZ F F'->Rel C F' ρ st s'->n5 F' v->Q v s'),wpAny (model C.prog C.w) C.A (functionCode C.env pos line name qual params scope body) Q E s
noncomputable def S0:=OH aq
noncomputable def ε:=eu (by walk_at "ne") S0
theorem here:S0 ε:=by
 intro R params scope body hcode hk h
 refine ak (λ P ob h1 h2=>bQ λ h3 h4 h5 h6=>?_) (R.mt _ _ hk)
 cases h3 with
 | @qj _ P' _ _ oc ps hc Rf hi hg=>
  obtain rfl:=Vf (h1.symm.trans Rf)
  have hco:=R.kF _ _ hc
  refine qA (λ hok htab=>?_) (hi ε.2.2.1.heap hco h2)
  cases hf:codeAmong ε.1 ps.toList with
  | some v=>exact wpAny_functionCode_hit hcode hok hf (h ε.2.2.2.2.2.1 v ε.2.2.1 (aZ.refl _) R (hg _ _ hf))
  | none=>
   refine wpAny_functionCodeX hcode hok htab hf λ c' h' tk hx hge hlt Nl hrec Nm _=>?_
   refine bG (λ c2 PB SG tq=>bQ λ e2 g2 d2 q2=>?_) hrec
   obtain rfl:=Xb e2
   have Rg:ε.2.2.2.2.1≠P:=λ e=>by rw [e,h4] at hc;exact aV hc
   refine fq (λ op' IF r7 _=>?_) (x6 Nl)
   have frz:op'.isFreed=false:=XT r7
   have hu:=V7 (λ _=>op') h2 frz
   have R1:=R.upd hk h1 (Wt ε.2.2.1.heap P λ _=>op') hu .any ε.2.2.1.toks
   have hs2:ε.2.2.1.heap.get? c'=none:=WU hge
   refine qA (λ l2 R2=>?_) (R1.newF (h':=h') (a:=c') (o:=PB) (λ b o e=>(Decidable.em (b=P)).elim (λ q=>by
    rw [q] at e ⊢;exact IF.trans (hu.symm.trans e)) λ q=>hx b o q ((V2 _ _ (Ym q)).symm.trans e))
    ((V2 _ _ (λ q=>by have:=V1 h2;rw [q] at this;exact absurd hge (hM.mpr this))).trans hs2) g2 tk)
   have hk2:J (af ε.2.2.2.1.heap ε.2.1 .any) ε.2.1=some .any:=by rw [dj,if_pos rfl]
   have cF:n5 (je ε.2.2.2.2.2.1 c' PB) (.ref c'):=⟨c',PB,SG,_,tq,rfl,aX ..,d2,q2⟩
   have R3:=R2.upd (h':=h') (mo:=.qj ε.2.2.2.2.1 ε.2.1) hk2 h1 ⟨rfl,λ b hb=>rfl⟩ IF (.qj (ps:=ps++#[rawInt ε.1.line,rawInt ε.1.col,.ref c']) (l2 _ _ hc) Rf (λ h1 f1 f2=>⟨uX Nl (hx _ _ Rg hco) IF f1 f2,x7 Nm (hx _ _ Rg hco) IF f1 f2⟩) λ pos' v e=>by
    rw [show (ps++#[rawInt ε.1.line,rawInt ε.1.col,Wv c']).toList=ps.toList++[rawInt ε.1.line,rawInt ε.1.col,.ref c'] by simp] at e
    have tr:i4 ps.toList:=(x6 hok).elim λ _ q=>q.2.2
    rcases sE _ tr e with q | rfl
    ·exact (hg _ _ q).mono l2
    ·exact cF) tk
   have e3:({vars:=ε.2.2.2.1.vars,heap:=af (af ε.2.2.2.1.heap ε.2.1 .any) ε.2.1 (.qj ε.2.2.2.2.1 ε.2.1)}:St)=ε.2.2.2.1:=by rw [jI,fS hk]
   exact h _ _ _ l2 (e3▸R3) cF
end iF
theorem Cz {C st F ρ s c kp pos line name qual Q E}:iF.aq pos kp s st c F C ρ line name qual Q E:=sk (S:=iF.S0) iF.here (pos,kp,s,st,c,F,C,ρ,line,name,qual,Q,E)
section
variable {C:Cx}{st:St}{X:XK}{d:Nat}
theorem EV.lam (G:C.Good d)(B:EX C.K){c kp:Nat}{params:i5}{body:Expr}{scope:WM}{pos:Pos}{Q:QV}(hcode:C.env.code=.ref c)(hk:J st.heap kp=some (.qj c kp))
  (hd:PySem.defaultsOf params C.env=([],[])) (hfr:freeOk C.env.scope.names scope.names=true)
  (h:∀ fd:WH,fd.params=params->fd.body=.expr body->fd.scope=scope->fd.globals=mainGlobals->fd.builtins=builtinsNs->fd.closure=cM C.env scope.names->fd.defaults=.none->fd.kwdefaults=.none->Q (.lam fd) st) :
  EV C (eval (.Lambda params body scope pos) C.env) st Q X:=λ F ρ s R Q' E hQ hE=>by
 rw [arm_eval_Lambda,hd]
 refine Vc (X7 ?_)
 refine Vc (Vu (Vj ?_))
 have hc:closureFor scope C.env=pure (cM C.env scope.names):=jG λ x hx hf=>by
  rcases uU (env:=C.env) hfr x hx hf with q | q
  ·exact G.bu _ _ q (.inl rfl)
  ·exact G.bu _ _ q (.inr rfl)
 have tail:∀ F1 s1,aZ F F1->Rel C F1 ρ st s1->∀ ct:Vg,wpAny (model C.prog C.w) C.A (do
   let code <-functionCode C.env pos pos.line "<lambda>" (C.env.qual++"<lambda>") params scope (.expr body)
   let b <-builtinsFor C.env.globals C.env.builtins
   let n <-nsGet C.env.globals "__name__"
   let doc <-(pure .none:Sem Vg)
   newObj (.type "function") (.func {name:="<lambda>",qualname:=C.env.qual++"<lambda>",params,body:=.expr body,scope,globals:=C.env.globals,closure:=cM C.env scope.names,closureTuple:=ct,code:=code,builtins:=b,defaults:=.none,kwdefaults:=.none,annotations:=We,pyModule:=n.getD .none,doc:=doc})) Q' E s1:=by
  intro F1 s1 l1 R1 ct
  refine Vc (Cz R1 hcode hk λ F2 v s2 l2 R2 cF=>?_)
  rw [G.glob,G.blt]
  refine Vc ((B.1 _ _ (qT R2)).here ?_)
  refine qE (λ nv SH=>?_) B.2
  refine Vc ((gL (qT R2) SH).here ?_)
  refine Vc (Vj ?_)
  refine Xh ?_ (by size_fits)
  refine qA (λ l3 R3=>?_) (R2.gI (o:=rG {name:="<lambda>",qualname:=C.env.qual++"<lambda>",params,body:=.expr body,scope,globals:=mainGlobals,closure:=cM C.env scope.names,closureTuple:=ct,code:=v,builtins:=builtinsNs,defaults:=.none,kwdefaults:=.none,annotations:=We,pyModule:=nv.getD .none,doc:=.none}) rfl)
  exact hQ _ ρ _ _ (l1.trans (l2.trans l3)) (bD.refl _) (Post.in (h _ rfl rfl rfl rfl rfl rfl rfl rfl) R3 (.lam (aX ..) (cF.mono l3)))
 unfold makeFunction
 rw [show params.kwonlyargs.zip ([]:List (Option Vg))=[] from List.zip_nil_right]
 refine Vc (Vj ?_)
 refine Vc (Vj ?_)
 refine Vc (Vj ?_)
 refine Vc (Xn hc ?_)
 cases he:(cM C.env scope.names).isEmpty with
 | true=>exact Vc (Vj (tail F s (aZ.refl _) R .none))
 | false=>
  refine Vc (wpAny_newTextTuple ?_)
  refine qA (λ l1 R1=>?_) (R.gI (o:=dN (((cM C.env scope.names).mergeSort λ a b=>a.1.cps.toList<=b.1.cps.toList).map (Wv ·.2))) rfl)
  exact tail _ _ l1 R1 _
end
structure A5 (fd:WH):Prop where
 body:∃ p1 kk p2 p3 p4 p5,fd.body=.expr (.Subscript (.Subscript (.Name "kit" p1) (.Constant (.int 0) kk p2) p3) (.Name "k" p4) p5)
 co:fd.scope.isCoroutine=false
 gen:fd.scope.isGenerator=false
 kind:fd.scope.kind=.function
 cell:ED fd.scope.names=true
 hx:fd.scope.names.lookup ("kit" : Str)=some .free
 hy:fd.scope.names.lookup ("k" : Str)=some .local
 bind:∀ v,bindArgs fd ⟨[v],[]⟩=pure [(("k" : Str),v)]
theorem v7 {prog:Wi}{w:WK}{A:Wk}{s:Vh}{e:Expr}{env:Env}{R:bc->Vh->Prop}(h:wpAny (model prog w) (A.deeper env) (eval e env) (λ v s'=>R (.ok (.ret v)) s') (λ _ _=>False) s):codeAny (model prog w) A (.expr e env) R s:=by
 refine dq ?_
 show wpAny _ (A.deeper env) (do point;ret (<-(eval e env).onRaise (leaving env))) _ _ s
 exact Vc (wpAny_point (Vc (bj (V6 h (λ f s' h'=>Vj h') λ _ _ h'=>h'.elim))))
theorem sF {F:Fz}{ρ:Ky}:∀ xs:List Vg,aF F ρ (xs.map V.con) xs
 | []=>.nil
 | x::xs=>.cons (.con x) (sF xs)
namespace sG
noncomputable def aq (C:Cx)(F:Fz)(ρ:Ky)(s:Vh)(st:St)(X:XK)(d:Nat)(Q:QV)(Q' E:Vg->Vh->Prop):Prop:=∀ (G:C.Good d) (fd:WH) (L:A5 fd) (cell:Addr) (hcl:fd.closure.lookup ("kit" : Str)=some cell) (names rest:List V) (hcap:xO C cell (.tup (.lst names::rest))) (k:Nat) (hk:k<=1000) (nm:Str) (hn:bq names k=some (.str nm)) (h:Q (.str nm) st) (x:Vg) (xs:List Vg) (ys:List Vg) (R:Rel C F ρ st s) (hx:Den F ρ (.lam fd) x) (ha:aF F ρ [.int (k:Nat)] xs) (hkw:aF F ρ [] ys) (hQ:∀ F' ρ' x s',aZ F F'->bD ρ ρ'->Post C Q F' ρ' x s'->Q' x s') (hE:∀ F' ρ' x s',aZ F F'->bD ρ ρ'->cC C X F' ρ' x s'->E x s'),wpAny (model C.prog C.w) C.A (call x (xs) (([]).zip ys)) Q' E s
noncomputable def S0:=KP aq
noncomputable def ε:=eu (by walk_at "ne") S0
theorem here:S0 ε:=by
 intro G fd L cell hcl names rest hcap k hk nm hn h x xs ys R hx ha hkw hQ hE
 apply hkw.aD
 refine fq (λ a e_ hF=>bG λ c oc vs q=>fZ λ tq hcode hc hcd hq=>?_) hx.AQ;subst e_
 apply ha.au;intro _ _ hv hr
 apply hr.aD;apply hv.aM;intro tk
 refine aU (λ o u UN hG=>qA λ hod dO=>?_) hcap
 refine ak (λ t us e_ ht hds=>?_) dO.lQ;subst e_
 refine ak (λ y0 yr e_ hd0 _=>?_) hds.cons_inv;subst e_
 refine aU (λ l zs ep e_=>qA λ hl hz=>?_) hd0.lst_inv;subst e_
 rw [bI] at hn
 refine aI (λ z SI SJ=>?_) (hz.get hn)
 refine qE (λ tz e_=>?_) SJ.str_inv;subst e_
 have SK:=R.kK _ _ (.inr ht)
 have SM:=R.kK _ _ (.inr hl)
 refine aI (λ o' ho' hsame=>?_) (R.kG _ _ hG)
 refine bG (λ p1 kk p2 p3=>D7 λ p4 p5 hbody=>?_) L.body
 have hroom:ε.1.A.depth<recursionLimit:=by have:=G.depth;lia
 refine Y6 (dq ?_)
 show wpAny _ ε.1.A.in1 (callAny (.ref a) _) _ _ ε.2.2.2.1
 simp only [callAny]
 refine Vc (wpAny_load (R.kF _ _ hF) ?_)
 simp only [rG,callFunction,L.co,L.gen,hbody,hcode]
 refine Vc (m:=field (.ref c) 1) (WZ (R.kF _ _ hc) hcd hq (Vc (Vj ?_)))
 have hb:bindArgs fd ⟨[Zy (k:Nat) tk],[]⟩=pure [(("k" : Str),Zy (k:Nat) tk)]:=L.bind _
 refine Vc (m:=bindArgs fd _) (Xn hb ?_)
 refine Vc (wpAny_newFunctionEnv (Cu L.cell) (λ x hx=>by rw [Vi.mp hx];exact L.hy) (λ h' hns ON=>?_) L.kind)
 have kp:Keeps ε.2.2.2.1.heap h':=λ b ob e=>(ON.2 b (WE (V1 e))).trans (VA _ e)
 have R1:=R.keeps kp (ε.2.2.2.1.toks+1)
 refine Vc (wpAny_enterFrame ((G.lim _ (qT R)).keeps kp) hroom (Vj ⟨rfl,v7 ?_⟩))
 refine cx (cx ?_)
 refine Zu (wpAny_loadName_free L.kind L.hx hcl (v:=.ref t) ?_ ?_) (by decide)
 ·exact ⟨o',kp _ _ ho',hsame.dat.1.trans hod⟩
 have d0:Den ε.2.1 ε.2.2.1 (.tup (.lst (zs.map V.con)::yr.map V.con)) (.ref t):=.tup SK (.cons (.lst SM (sF zs)) (sF yr))
 refine ZW ?_
 refine zw (C:={ε.1 with A:=ε.1.A.deeper _}) (ρ:=ε.2.2.1) (F:=ε.2.1) (st:=ε.2.2.2.2.1) (o:=.tup (.lst (zs.map V.con)::yr.map V.con)) (i:=.int 0) (v:=.lst (zs.map V.con)) ?_ rfl d0 (.int _ _) ?_
 ·exact (R1.toks (ε.2.2.2.1.toks+1+1)).at _
 intro z1 SN SO
 refine aU (λ l1 UO UP e_=>qA λ hl1 hz1=>?_) SO.lst_inv;subst e_
 refine Zu (wpAny_loadName_local L.kind L.hy (m:=λ x=>[(("k" : Str),Zy (k:Nat) tk)].reverse.lookup x) hns rfl ?_) (by decide)
 refine zw (C:={ε.1 with A:=ε.1.A.deeper _}) (ρ:=ε.2.2.1) (F:=ε.2.1) (st:=ε.2.2.2.2.1) (o:=.lst (zs.map V.con)) (i:=.int (k:Nat)) (v:=.con (.str nm tz)) ?_ ?_ (.lst hl1 hz1) (.int _ _) ?_
 ·exact (R1.toks SN).at _
 ·show (match Wn k 9223372036854775807 with | true=>bq (zs.map V.con) k | false=>none)=_
  rw [VS (Vd hk (by decide)),bI]
  show (zs.map V.con)[k]?=_
  rw [Wy,SI];rfl
 intro z2 SP SQ
 apply SQ.bL
 exact hQ ε.2.1 ε.2.2.1 _ _ (aZ.refl _) (bD.refl _) (Post.in h (R1.toks SP) (.str _ _))
end sG
theorem CJ.lam {C:Cx}{st:St}{X:XK}{d:Nat}{Q:QV} (G:C.Good d) {fd:WH} (L:A5 fd) {cell:Addr} (hcl:fd.closure.lookup ("kit" : Str)=some cell) {names rest:List V} (hcap:xO C cell (.tup (.lst names::rest))) {k:Nat} (hk:k<=1000) {nm:Str} (hn:bq names k=some (.str nm)) (h:Q (.str nm) st):CJ C (.lam fd) [.int (k:Nat)] [] [] st Q X:=λ F ρ s x xs ys R hd1 hd2 K7 Q' E hQ hE=>sk (S:=sG.S0) sG.here (C,F,ρ,s,st,X,d,Q,Q',E) G fd L cell hcl names rest hcap k hk nm hn h x xs ys R hd1 hd2 K7 hQ hE
end
section
section
variable {C:Cx}{st:St}{X:XK}{d:Nat}{Q:QV}
theorem Cx.Good.make (G:C.Good (d+1)) (cls:Addr) (rest:List Vg) (kw:List (Str×Vg)):(C.at (C.A.under (.builtin "type.__call__" ⟨.ref cls::rest,kw⟩))).Good d:=by
 have hu:(C.A.under (.builtin "type.__call__" ⟨.ref cls::rest,kw⟩)).units=C.A.units+(ij "type.__call__" ⟨.ref cls::rest,kw⟩).cUnits:=rfl
 have UQ:(ij "type.__call__" ⟨.ref cls::rest,kw⟩).cUnits<=8:=by
  have:(ij "type.__call__" ⟨.ref cls::rest,kw⟩).cUnits=1:=by kernel_rfl
  lia
 exact {
  units:=by have:=G.units;show (C.A.under _).units+400+40*d<cLine;rw [hu];lia
  depth:=by have:=G.depth;show C.A.depth+1+120+4*d<recursionLimit;lia
  fn:=G.fn
  glob:=G.glob
  blt:=G.blt
  apart:=G.apart
  j7:=G.j7
  frames:=G.frames
  lim:=G.lim
  mS:=G.mS
  fz:=G.fz
  bu:=G.bu
  B9:=G.B9
  handled:=G.handled}
noncomputable def v8 (st:St)(cls:Addr):St:={st with heap:=af (af st.heap (fresh st.heap) (.dict [])) (fresh (af st.heap (fresh st.heap) (.dict []))) (.inst cls (fresh st.heap))}
noncomputable def cB (st:St):Nat:=fresh (af st.heap (fresh st.heap) (.dict []))
theorem CJ.make (G:C.Good (d+1)) {cls fI:Addr}{args kvs:List V}{ks:List Str} (hm:makesIn C.K cls=true) (hi:findIn C.K (.ref cls) "__init__" = some (some (.ref fI))) (hf:isFn C.K (.ref fI)=true)
  (h:∀ A',(C.at A').Good d->CU (C.at A') fI (.loc (cB st)::args) ks kvs (v8 st cls) (λ v st1=>v=.none/\Q (.loc (cB st)) st1) X):CJ C (.con (.ref cls)) args ks kvs st Q X:=λ F ρ s x xs ys R hx ha hk Q' E hQ hE=>by
 cases hx
 refine Y6 ?_
 have k1:=fW (a:=s.heap.objs.size) (kH R)
 refine qA (λ _ R1=>?_) (R.xD (o:=emptyDict) (mo:=.dict []) rfl (.dict rfl (VD _) rfl (λ e he=>by simp at he) λ x=>⟨λ v e=>(aV e),λ _=>(by unfold nsFind findBy;simp)⟩))
 have eS:(s.heap.push emptyDict).objs.size=s.heap.objs.size+1:=Xi ..
 have k2:=fW (a:=(s.heap.push emptyDict).objs.size) (kH R1)
 have hne:fresh st.heap≠cB st:=by
  intro e
  have h1:=aA (af st.heap (fresh st.heap) (.dict []))
  have h2:J (af st.heap (fresh st.heap) (.dict [])) (fresh st.heap)=some (.dict []):=by rw [dj,if_pos rfl]
  rw [show fresh (af st.heap (fresh st.heap) (.dict []))=cB st from rfl,<-e,h2] at h1;exact jB h1.symm
 refine qA (λ _ R2=>?_) (R1.xD (o:=instObj cls s.heap.objs.size) (mo:=.inst cls (fresh st.heap)) rfl (.inst (by
  show (if fresh st.heap=cB st then _ else (if fresh st.heap=fresh st.heap then some s.heap.objs.size else ρ _))=_
  rw [if_neg hne,if_pos rfl])))
 have Rm:Rel C F (kD (kD ρ (fresh st.heap) s.heap.objs.size) (cB st) (s.heap.objs.size+1)) (v8 st cls) {s with heap:=(s.heap.push emptyDict).push (instObj cls s.heap.objs.size)}:=by
  have:=R2
  rw [show ({s with heap:=s.heap.push emptyDict}:Vh).heap.objs.size=s.heap.objs.size+1 from eS] at this
  exact this
 have mT:bD ρ (kD (kD ρ (fresh st.heap) s.heap.objs.size) (cB st) (s.heap.objs.size+1)):=by
  refine k1.trans ?_
  rw [<-eS];exact k2
 have hnew:Den F (kD (kD ρ (fresh st.heap) s.heap.objs.size) (cB st) (s.heap.objs.size+1)) (.loc (cB st)) (.ref (s.heap.objs.size+1)):=.loc (if_pos rfl)
 obtain ⟨hh,g,dd,t,os⟩:=s
 refine make_core (makes_of (qT R) hm) (looks_findIn (qT R) hi) (λ self=>bind_fn (qT R) self (beq_iff_eq.mp hf)) (.inl rfl) ?_
 have:=h _ (G.make cls xs (ks.zip ys)) F _ _ (.ref (hh.objs.size+1)::xs) ys (Rm.at _) (.cons hnew (ha.mono (aZ.refl _) mT)) (hk.mono (aZ.refl _) mT) (λ v s'=>v=.none/\Q' (.ref (hh.objs.size+1)) s') E ?_ ?_
 ·refine codeAny_mono this λ r s' z=>?_
  rcases r with e | (v | _ | _ | _)<;>exact z
 ·rintro F' ρ' v s' l k hp0;apply hp0.elim;intro w st1;refine qA λ e_ hq=>?_;subst e_;intro R' dv
  cases dv
  exact ⟨rfl,hQ F' ρ' _ s' l (mT.trans k) (Post.in (hq) (R'.Es) (hnew.mono l k))⟩
 ·rintro F' ρ' e s' l k hp0;apply hp0.elim;rintro c a st1 hx R' X'
  exact hE F' ρ' e s' l (mT.trans k) ⟨c,a,st1,hx,R'.Es,X'⟩
theorem x8 (name:Str)(hsh:Int)(key v:Vg)(es:List Vt):(putL name hsh key v es).length=bif es.any (·.key.isStr name) then es.length else es.length+1:=by
 induction es with
 | nil=>rfl
 | cons e r ih=>
  show (if e.key.isStr name=true then _ else _:List Vt).length=bif e.key.isStr name||r.any (·.key.isStr name) then r.length+1 else r.length+1+1
  by_cases h:e.key.isStr name=true
  ·rw [if_pos h,h];rfl
  ·rw [if_neg h,Wm.mpr h]
   show (putL name hsh key v r).length+1=_
   rw [ih]
   show _=bif r.any (·.key.isStr name) then r.length+1 else r.length+1+1
   cases r.any (·.key.isStr name)<;>rfl
theorem EY {α:Type}(l:List (Str×α))(x:Str)(v:α):(n6 l x v).length=bif (az l x).isSome then l.length else l.length+1:=by
 induction l with
 | nil=>rfl
 | cons p l ih=>
  show (bif sB x p.1 then (p.1,v)::l else p::n6 l x v).length=bif (bif sB x p.1 then some p.2 else az l x).isSome then l.length+1 else l.length+1+1
  cases sB x p.1 with
  | true=>rfl
  | false=>
   show (n6 l x v).length+1=bif (az l x).isSome then l.length+1 else l.length+1+1
   rw [ih]
   cases (az l x).isSome<;>rfl
theorem K8 {b:Bool}{n:Nat}:(bif b then n else n+1)<=n+1:=by induction b;exact VD _;exact Xy n
theorem EZ (name:Str)(hsh:Int)(key v:Vg){e:Vt}{es:List Vt}:e∈putL name hsh key v es->(∃ e',e'∈es/\e.key=e'.key)\/e.key=key:=by
 induction es with
 | nil=>exact λ h=>.inr (congrArg DictEntry.key (Vi.mp h))
 | cons a r ih=>
  intro (h:e∈(if a.key.isStr name=true then _ else _:List Vt))
  by_cases ha:a.key.isStr name=true
  ·rw [if_pos ha] at h
   rcases Vm.mp h with q | q
   ·rw [q];exact .inl (aC a VC rfl)
   ·exact .inl (aC e (VH _ q) rfl)
  ·rw [if_neg ha] at h
   rcases Vm.mp h with q | q
   ·rw [q];exact .inl (aC a VC rfl)
   ·exact (ih q).imp_left λ⟨e',h1,h2⟩=>aC e' (VH _ h1) h2
noncomputable def IG (es:List Vt)(z:Str):Option Vg:=(es.find? (·.key.isStr z)).map (·.val)
theorem zI (es:List Vt)(z:Str):nsFind es.toArray z=IG es z:=by unfold nsFind findBy IG;rw [List.find?_toArray]
theorem gS (e:Vt)(r:List Vt)(z:Str):IG (e::r) z=bif e.key.isStr z then some e.val else IG r z:=by
 unfold IG;rw [List.find?_cons];cases e.key.isStr z<;>rfl
theorem zJ {k:Vg}{a:Str}(h:k.isStr a=true)(z:Str):k.isStr z=(a==z):=by
 induction k with
 | str s t=>rw [show s=a from Wc h];rfl
 | _=>exact lO h
theorem II (name:Str)(hsh:Int)(tk:Tok)(v:Vg)(z:Str)(es:List Vt):IG (putL name hsh (.str name tk) v es) z=if z=name then some v else IG es z:=by
 by_cases h:z=name
 ·subst h
  rw [if_pos rfl]
  induction es with
  | nil=>rw [show putL z hsh (.str z tk) v []=[⟨hsh,.str z tk,v⟩] from rfl,gS,show (Za z tk).isStr z=(z==z) from rfl,beq_self_eq_true];rfl
  | cons a r ih=>
   show IG (if a.key.isStr z=true then _ else _) z=_
   by_cases ha:a.key.isStr z=true
   ·rw [if_pos ha,gS];show (bif a.key.isStr z then some v else _)=_;rw [ha];rfl
   ·rw [if_neg ha,gS,Wm.mpr ha];exact ih
 ·rw [if_neg h]
  induction es with
  | nil=>rw [show putL name hsh (.str name tk) v []=[⟨hsh,.str name tk,v⟩] from rfl,gS,show (Za name tk).isStr z=(name==z) from rfl,beq_eq_false_iff_ne.mpr (Ym h)];rfl
  | cons a r ih=>
   show IG (if a.key.isStr name=true then _ else _) z=_
   rw [gS]
   by_cases ha:a.key.isStr name=true
   ·rw [if_pos ha,gS];show (bif a.key.isStr z then some v else _)=_;rw [zJ ha,beq_eq_false_iff_ne.mpr (Ym h)];rfl
   ·rw [if_neg ha,gS,ih]
noncomputable def jj (K:Frag)(st:St)(o:V)(name:Str)(v:V):Option St:=qm st o λ _ cls dk kvs=>
 bif plainOver K cls&&(clsIn K cls).any (·.hasDict)&&(takerIn K cls name==some none)&&(findIn K (.ref cls) "__setattr__"==some (some (.builtin "object.__setattr__")))&&Wn kvs.length 900 then some {st with heap:=af st.heap dk (.dict (n6 kvs name v))} else none
end
namespace jJ
noncomputable def aq (s:Vh)(C:Cx)(st:St)(F:Fz)(ρ:Ky)(Q':Unit->Vh->Prop)(E:Vg->Vh->Prop):Prop:=∀ (R:Rel C F ρ st s) {o v:V}{x y:Vg}{name:Str}{st':St} (h:jj C.K st o name v=some st') (hx:Den F ρ o x) (hy:Den F ρ v y) (hQ:∀ s',Rel C F ρ st' s'->Q' () s'),wpAny (model C.prog C.w) C.A (setAttr x name y) Q' E s
noncomputable def S0:=u7 aq
noncomputable def ε:=eu (by walk_at "ne") S0
theorem here:S0 ε:=by
 intro R o v x y name st' h hx hy hQ
 obtain ⟨n,cls,dk,kvs,rfl,hk,hk2,h⟩:=lU h
 obtain ⟨hc,h⟩:=c8 h
 obtain rfl:=Vf h
 simp only [VZ,beq_iff_eq] at hc
 obtain ⟨⟨⟨⟨c1,c2⟩,c3⟩,c4⟩,c5⟩:=hc
 have c5:=VQ c5
 obtain ⟨a,dx,x9,Rh,Ri,rfl,hn,hdx,I,_⟩:=oi R hx hk hk2
 obtain ⟨UR,od,r1,r2,r3,_⟩:=R.mt _ _ hk2
 rw [hdx] at r1;obtain rfl:=Vf r1
 obtain ⟨hat,hcl,hno,hdict⟩:=id I
 have e0:x9=od:=by
  have E0:ε.1.heap.get? dx=some x9:=hdict
  rw [r2] at E0;obtain rfl:=Vf E0;rfl
 subst e0
 cases r3 with
 | @dict _ _ es ep hex hz DX Mh hm=>
 have Xk:=qT R
 refine set_plain Xk I c4 ?_
 have R1:=R.toks (ε.1.toks+1)
 refine osa_open (s:={ε.1 with toks:=ε.1.toks+1}) Xk I c1 c3 λ b=>?_
 obtain ⟨cd,hcd,SR⟩:=any_some c2
 refine Vc (Vj (Vc (Vc (wpAny_loadPart hat (Vc ((looks_clsIn Xk hcd) _ _ _ _ (λ _ _ e=>e) ?_))))))
 rw [SR]
 refine Vj (a:=some dx) (Vc (Vj (Vc ?_)))
 unfold nsSet
 refine Vc (Vc (wpAny_askSetting (Vj (Vc (wpAny_mkText (Vc (wpAny_loadPart r2 ?_)))))))
 rw [DX]
 dsimp only
 have hany:es.any (·.refKey)=false:=by
  rw [Array.any_eq_false'];intro e he;obtain ⟨n,t,h⟩:=Mh e he;simp [DictEntry.refKey,h]
 rw [aRefKeyMayBeTheName_at,hany,ei]
 have hod:x9=dictOf es.toList ep:=by rw [hex]
 have K9:∀ hsh,js name hsh (.str name (ε.1.toks+1)) y x9=dictOf (putL name hsh (.str name (ε.1.toks+1)) y es.toList) (putN name es.toList ep):=λ hsh=>by rw [hod];exact putName_dict ..
 have Nn:∀ hsh,(js name hsh (.str name (ε.1.toks+1)) y x9).isFreed=false:=λ hsh=>by rw [K9];rfl
 refine wpAny_updatePart r2 ?_
 have D':=V7 (js name (ej ε.2.1.w.params name) (.str name (ε.1.toks+1)) y) r2 (Nn _)
 have hz':es.toList.length<=900:=by
  exact Vd (Vd (VK (XF ..)) hz) c5
 refine Vc (wpAny_lookBehind D' (by rw [K9];exact pastItsLine_dict (Vd (VK ((VM ..).trans (x8 ..))) (Vd K8 (Vd (WN hz') (by decide))))) ?_)
 refine Vj (hQ _ (R1.upd hk2 hdx (Wt ..) (D'.trans (by rw [K9])) (mo:=.dict (n6 kvs name v)) (.dict rfl ?_ rfl ?_ λ z=>?_) (ε.1.toks+1+1)))
 ·rw [VM]
  rw [x8,EY]
  cases hb:es.toList.any (·.key.isStr name) with
  | true=>
   refine Vd (Vd (VK (XF ..)) hz) ?_
   cases (az kvs name).isSome with
   | true=>exact VD _
   | false=>exact Xy _
  | false=>
   have hv:az kvs name=none:=by
    cases hv:az kvs name with
    | none=>rfl
    | some w=>
     obtain ⟨zz,hz2,_⟩:=(hm name).1 w hv
     rw [zI es.toList] at hz2
     obtain ⟨e,he,_⟩:=Xe.mp hz2
     exact lO (hb.symm.trans (List.any_eq_true.mpr (aC e (List.mem_of_find?_eq_some he) (List.find?_some (p:=λ e:Vt=>e.key.isStr name) he))))
   rw [hv]
   exact VN hz 1
 ·intro e he
  rcases EZ name (ej ε.2.1.w.params name) (.str name (ε.1.toks+1)) y (List.mem_toArray.mp he) with ⟨e',h1,h2⟩ | h1
  ·obtain ⟨n,t,h3⟩:=Mh e' (Array.mem_toList_iff.mp h1)
   exact rD n t (by rw [h2];exact h3)
  ·exact rD name _ h1
 ·have hf:=II name (ej ε.2.1.w.params name) (ε.1.toks+1) y z es.toList
  rw [zI,hf,fN]
  by_cases hz:z=name
  ·rw [if_pos hz,if_pos hz]
   exact ⟨λ w e=>by obtain rfl:=Vf e;exact aC y rfl hy,λ e=>by cases e⟩
  ·rw [if_neg hz,if_neg hz,<-zI]
   exact hm z
end jJ
theorem zK {C:Cx}{st:St}{F:Fz}{ρ:Ky}{s:Vh}{Q':Unit->Vh->Prop}{E:Vg->Vh->Prop}(R:Rel C F ρ st s){o v:V}{x y:Vg}{name:Str}{st':St}(h:jj C.K st o name v=some st')(hx:Den F ρ o x)(hy:Den F ρ v y)(hQ:∀ s',Rel C F ρ st' s'->Q' () s'):wpAny (model C.prog C.w) C.A (setAttr x name y) Q' E s:=sk (S:=jJ.S0) jJ.here (s,C,st,F,ρ,Q',E) R h hx hy hQ
section
variable {C:Cx}{st:St}{X:XK}{d:Nat}{Q:QV}
theorem AS.attr {o:Expr}{name:Str}{pos:Pos}{v:V}{Q:St->Prop}
  (h:EV C (eval o C.env) st (λ ov st1=>∃ st2,jj C.K st1 ov name v=some st2/\Q st2) X):AS C (VR (.Attribute o name pos) C.env) v st Q X:=λ F ρ s x R hd Q' E hQ hE=>by
 rw [assign_Attribute]
 refine Vc (Vu (h F ρ s R _ E ?_ hE))
 rintro F1 bE ox s1 l1 k1 hp0;apply hp0.elim;intro ov st1;refine aI λ st2 hset hq=>?_;intro R1 d1
 refine Vc (Wb (Vc (Vu (zK R1 hset d1 (hd.mono l1 k1) λ s' R'=>?_))))
 exact ZG (hQ F1 bE _ s' l1 k1 (jg.in (hq) (R')))
noncomputable def m8 (K:Frag)(st:St)(o:V)(name:Str):Option Addr:=qm st o λ _ cls _ _=>bif noSeq K cls then fnOf K (findIn K (.ref cls) name) else none
end
namespace nQ
noncomputable def aq (C:Cx)(st:St)(F:Fz)(ρ:Ky)(s:Vh):Prop:=∀ (R:Rel C F ρ st s) {o:V}{x:Vg}{name:Str}{f:Addr} (h:m8 C.K st o name=some f) (hx:Den F ρ o x),∃ a ox od cls,x=.ref a/\InstAt s.heap a ox cls od/\noSeq C.K cls=true/\findIn C.K (.ref cls) name=some (some (.ref f))/\isFn C.K (.ref f)=true
noncomputable def S0:=u5 aq
noncomputable def ε:=eu (by walk_at "ne") S0
theorem here:S0 ε:=by
 intro R o x name f h hx
 obtain ⟨n,cls,dk,kvs,rfl,hk,hk2,h⟩:=lU h
 obtain ⟨h1,h⟩:=c8 h
 obtain ⟨h2,h3⟩:=uP h
 obtain ⟨a,dx,od,es,ep,rfl,hn,hdx,I,_⟩:=oi R hx hk hk2
 exact d7 a _ _ cls (cO rfl I h1 h2 h3)
end nQ
theorem ya {C:Cx}{st:St}{F:Fz}{ρ:Ky}{s:Vh}(R:Rel C F ρ st s){o:V}{x:Vg}{name:Str}{f:Addr}(h:m8 C.K st o name=some f)(hx:Den F ρ o x):∃ a ox od cls,x=.ref a/\InstAt s.heap a ox cls od/\noSeq C.K cls=true/\findIn C.K (.ref cls) name=some (some (.ref f))/\isFn C.K (.ref f)=true:=sk (S:=nQ.S0) nQ.here (C,st,F,ρ,s) R h hx
section
variable {C:Cx}{st:St}{X:XK}{d:Nat}{Q:QV}
theorem AS.setitem {o i:Expr}{pos:Pos}{v:V}{Q:St->Prop}
  (h:EV C (eval o C.env) st (λ ov st1=>EV C (eval i C.env) st1 (λ iv st2=>∃ f,m8 C.K st2 ov "__setitem__" = some f/\CU C f [ov,iv,v] [] [] st2 (λ _ st3=>Q st3) X) X) X):AS C (VR (.Subscript o i pos) C.env) v st Q X:=λ F ρ s x R hd Q' E hQ hE=>by
 rw [cm]
 refine Vc (Vu (h F ρ s R _ E ?_ hE))
 rintro F1 bE ox s1 l1 k1 hp0;apply hp0.elim;rintro ov st1 h1 R1 d1
 refine Vc (Vu (h1 F1 bE s1 R1 _ E ?_ λ F' ρ' e s' l k=>hE F' ρ' e s' (l1.trans l) (k1.trans k)))
 rintro F2 bZ iy s2 l2 k2 hp0;apply hp0.elim;intro iv st2;refine aI λ f hf hcu=>?_;intro R2 d2
 refine bG (λ a ob od cls=>bB λ e_ I q1 q2 q3=>?_) (ya R2 hf (d1.mono l2 k2));subst e_
 refine Vc (Wb (Vc (Vu ?_)))
 unfold setItem sequenceKey
 refine Vu (Vc (Vc (I.type.here ?_)))
 refine Vc ((anyM_none (qT R2) q1).here ?_)
 rw [if_pos (show (!false)=true from rfl)]
 refine Vj (Vc (special_fn (qT R2) I q2 (beq_iff_eq.mp q3) (Y6 ?_)))
 refine hcu F2 bZ s2 [.ref a,iy,x] [] R2 (.cons (d1.mono l2 k2) (.cons d2 (.cons (hd.mono (l1.trans l2) (k1.trans k2)) .nil))) .nil _ _ ?_ ?_
 ·rintro F3 fO z s3 l3 k3 hp0;apply hp0.elim;rintro w st3 hq R3 _
  exact Vj (ZG (hQ F3 fO _ s3 (l1.trans (l2.trans l3)) (k1.trans (k2.trans k3)) (jg.in (hq) (R3))))
 ·rintro F3 fO z s3 l3 k3 hx
  exact hE F3 fO z s3 (l1.trans (l2.trans l3)) (k1.trans (k2.trans k3)) hx
end
namespace jK
noncomputable def aq (E:Vg->Vh->Prop)(C:Cx)(s:Vh)(kb:Nat)(o i:Expr)(p:Pos)(F:Fz)(ρ:Ky)(st:St)(X:XK)(pos:Pos)(Q:Fl->St->Prop)(Q':Flow->Vh->Prop):Prop:=∀ (h:EV C (eval o C.env) st (λ ov st1=>EV C (eval i C.env) st1 (λ iv st2=>∃ f,m8 C.K st2 ov "__delitem__" = some f/\CU C f [ov,iv] [] [] st2 (λ _ st3=>Q .next st3) X) X) X)  (R:Rel C F ρ st s) (hQ:∀ F' ρ' x s',aZ F F'->fy kb ρ ρ'->cy C Q F' ρ' x s'->Q' x s') (hE:∀ F' ρ' x s',aZ F F'->fy kb ρ ρ'->cC C X F' ρ' x s'->E x s'),wpAny (model C.prog C.w) C.A (exec (.Delete [.Subscript o i p] pos) C.env) Q' E s
noncomputable def S0:=HZ aq
noncomputable def ε:=eu (by walk_at "ne") S0
theorem here:S0 ε:=by
 intro h R hQ hE
 refine wpAny_Delete (wpAny_deleteEach_cons ?_)
 show wpAny _ _ (do
  let ov <-eval ε.2.2.2.2.1 ε.2.1.env
  let iv <-holding [ov] (eval ε.2.2.2.2.2.1 ε.2.1.env)
  standAt ε.2.2.2.2.2.2.1
  holding [ov,iv] (delItem ov iv)
  release [ov,iv] []) _ ε.1 ε.2.2.1
 refine Vc (h ε.2.2.2.2.2.2.2.1 ε.2.2.2.2.2.2.2.2.1 ε.2.2.1 R _ ε.1 ?_ (xG hE (aZ.refl _) (bD.refl _)))
 rintro F1 bE ox s1 l1 k1 hp0;apply hp0.elim;rintro ov st1 h1 R1 d1
 refine Vc (Vu (h1 F1 bE s1 R1 _ ε.1 ?_ (xG hE l1 k1)))
 rintro F2 bZ iy s2 l2 k2 hp0;apply hp0.elim;intro iv st2;refine aI λ f hf hcu=>?_;intro R2 d2
 refine bG (λ a ob od cls=>bB λ e_ I q1 q2 q3=>?_) (ya R2 hf (d1.mono l2 k2));subst e_
 refine Vc (Wb (Vc (Vu ?_)))
 unfold delItem sequenceKey
 refine Vu (Vc (Vc (I.type.here ?_)))
 refine Vc ((anyM_none (qT R2) q1).here ?_)
 rw [if_pos (show (!false)=true from rfl)]
 refine Vj (Vc (special_fn (qT R2) I q2 (beq_iff_eq.mp q3) (Y6 ?_)))
 refine hcu F2 bZ s2 [.ref a,iy] [] R2 (.cons (d1.mono l2 k2) (.cons d2 .nil)) .nil _ _ ?_ ?_
 ·rintro F3 fO z s3 l3 k3 hp0;apply hp0.elim;rintro w st3 hq R3 _
  exact Vj (ZG (wpAny_deleteEach_nil (hQ F3 fO _ s3 (l1.trans (l2.trans l3)) ((k1.trans (k2.trans k3)).b ε.2.2.2.1) (cy.in (hq) (R3) (.next)))))
 ·rintro F3 fO z s3 l3 k3 hx
  exact xG hE (l1.trans l2) (k1.trans k2) F3 fO z s3 l3 k3 hx
end jK
theorem ES.delitem {C:Cx}{st:St}{X:XK}{kb:Nat}{o i:Expr}{p pos:Pos}{Q:Fl->St->Prop} (h:EV C (eval o C.env) st (λ ov st1=>EV C (eval i C.env) st1 (λ iv st2=>∃ f,m8 C.K st2 ov "__delitem__" = some f/\CU C f [ov,iv] [] [] st2 (λ _ st3=>Q .next st3) X) X) X):ES C kb (exec (.Delete [.Subscript o i p] pos) C.env) st Q X:=λ F ρ s R Q' E hQ hE=>sk (S:=jK.S0) jK.here (E,C,s,kb,o,i,p,F,ρ,st,X,pos,Q,Q') h R hQ hE
end
section
section
variable {C:Cx}{st:St}{X:XK}{d:Nat}{Q:QV}
noncomputable def wc (C:Cx)(st:St)(a:V)(name:Str)(f:Vg):Prop:=∀ F ρ s x,Rel C F ρ st s->Den F ρ a x->∀ (pl:Sem Bool) (Q:Vg×List Vg->Vh->Prop) (E:Vg->Vh->Prop),Q (f,[x]) s->wpAny (model C.prog C.w) C.A (getMethod x name pl) Q E s
theorem EV.IJ {o:Expr}{name:Str}{apos pos:Pos}{args:List Expr}{kws:List Yl}(hb:baseOk o=true)(hline:Vo apos.endLine pos.line=true)(hfew:xF args kws=true)
  (h:EV C (eval o C.env) st (λ a st1=>∃ f,wc C st1 a name f/\f9 C pos (.con f) [a] args kws st1 Q X) X) :
  EV C (eval (.Call (.Attribute o name apos) args kws pos) C.env) st Q X:=λ F ρ s R Q' E hQ hE=>by
 rw [bi,oj hb]
 refine Vc (h F ρ s R _ E ?_ hE)
 rintro F1 bE x s1 l1 k1 hp0;apply hp0.elim;intro a st1;refine aI λ f hm h1=>?_;intro R1 d1
 refine Vc (Wb ?_)
 refine bQ (λ Pb hpa hpk hrest=>?_) (id h1)
 unfold methodCall
 rw [rt hpa hpk hfew]
 refine Vc (Vu (hm F1 bE s1 x R1 d1 _ _ _ ?_))
 refine Vc (Xn (vP hline) ?_)
 exact iX h1 R1 (.con f) (.cons d1 .nil) Q' E (λ F' ρ' e s' l k=>hQ F' ρ' e s' (l1.trans l) (k1.trans k)) λ F' ρ' e s' l k=>hE F' ρ' e s' (l1.trans l) (k1.trans k)
noncomputable def IntTab (C:Cx)(a:Addr)(f:Int->Option Vg):Prop:=(a==sysModules)=false/\∀ h,C.K.In h->h.MapOf (intKind C.prog C.w) a f
noncomputable def zL (C:Cx)(a:Addr)(f:Int->Bool):Prop:=∃ n,∀ h,C.K.In h->h.SetOf (intKind C.prog C.w) a f n
theorem EV.La {l r:Expr}{pos:Pos}(hm:behindInMarks .In r=false)
  (h:EV C (eval l C.env) st (λ av st1=>EV C (eval r C.env) st1 (λ b st2=>∃ i a f,av=.int i/\b=.con (.ref a)/\zL C a f/\Q (.bool (f i)) st2) X) X) :
  EV C (eval (.Compare l [.In] [r] pos) C.env) st Q X:=λ F ρ s R Q' E hQ hE=>by
 refine wpAny_Compare1 (h F ρ s R _ E ?_ hE) hm
 rintro F1 bE x s1 l1 k1 hp0;apply hp0.elim;rintro av st1 h1 R1 d1
 refine h1 F1 bE s1 R1 _ E ?_ λ F' ρ' e s' l k=>hE F' ρ' e s' (l1.trans l) (k1.trans k)
 rintro F2 bZ y s2 l2 k2 hp0;apply hp0.elim;intro b st2;refine aU λ i a f e_=>fJ λ cg SS hq=>?_;subst e_ cg;obtain ⟨n,hs⟩:=SS;intro R2 d2
 cases d1;cases d2
 refine wpAny_inSet_of (knd:=intKind C.prog C.w) (k:=i) (by simp [intKind,Xo]) rfl (hs _ (qT R2)) ?_
 exact hQ F2 bZ _ _ (l1.trans l2) (k1.trans k2) (Post.in (hq) (R2.toks _) (.bool _))
theorem wc.oA {a:Addr}{f:Int->Option Vg} (h:IntTab C a f):wc C st (.con (.ref a)) "get" (.builtin "dict.get"):=λ F ρ s x R hx pl Q' E hQ=>by
 cases hx
 have hm:=h.2 _ (qT R)
 exact Ze hm.typeIs PySem.F.plainAttrs_dict PySem.F.slot_dict_get PySem.F.type_dict_get hm.noDict hQ
theorem CJ.oA {a:Addr}{f:Int->Option Vg}{i:Int}{v:V}(h:IntTab C a f)(hv:∀ F ρ s,Rel C F ρ st s->Den F ρ v ((f i).getD .none))(hq:Q v st):
  CJ C (.con (.builtin "dict.get")) [.con (.ref a),.int i] [] [] st Q X:=
 CJ.eZ hq λ F ρ s xs R ha Q' E hQ=>by
  apply ha.au;intro _ _ h1 hn
  apply hn.au;intro _ _ h2 hn2
  cases hn2;cases h1;cases h2
  have hm:=h.2 _ (qT R)
  exact ik PySem.F.slot_dict_get hm.typeIs PySem.F.entry_dict_get (PySem.F.args_dict_get_2 _ _) (meets_dict_get (intKind C.prog C.w) (k:=i) a (by simp [intKind,Xo]) h.1) (aC f hm (hQ _ s.heap _ (gu _) (hv F ρ s R)))
end
end
section
section
open PySem.Sre
noncomputable def A6 (code:Array Nat)(i:Nat)(bad:Nat->Bool):Prop:=∀ c seen,∃ seen',inSet code c code.size i true seen=.ok (bad c,seen')
structure iG (code:Array Nat)(bad:Nat->Bool)(pc:Nat):Prop where
 info:ops[code.getD 0 0]?=some .INFO
 Ml:(header code)=(1,pc)
 hint:code.getD 2 0=4
 first:A6 code 5 bad
 E1:ops[code.getD pc 0]?=some .IN
 body:A6 code (pc+2) bad
 lt:pc<code.size
 Lb:ops[code.getD (pc+(1+code.getD (pc+1) 0)) 0]?=some .SUCCESS
 PC:pc+(1+code.getD (pc+1) 0)<code.size
theorem m9 {code text:Array Nat}{bad:Nat->Bool}{pc:Nat}(P:iG code bad pc)(m:M)(hc:m.code=code)(ht:m.text=text)(hl:m.lim=text.size):
  ∀ (fuel s:Nat) (seen:PySem.Sre.Seen),text.size+1-s<=fuel->∃ seen',(∃ j,s<=j/\j<text.size/\bad (text.getD j 0)=true/\M.admitted m fuel s seen=.ok (some j,seen'))\/((∀ j,s<=j->j<text.size->bad (text.getD j 0)=false)/\M.admitted m fuel s seen=.ok (none,seen'))
 | 0,s,seen,h=>⟨seen,.inr ⟨λ j h1 h2=>by lia,rfl⟩⟩
 | fuel+1,s,seen,h=>by
  unfold M.admitted
  rw [hl]
  by_cases hs:s>=text.size
  ·rw [if_pos hs];exact ⟨seen,.inr ⟨λ j h1 h2=>by lia,rfl⟩⟩
  ·rw [if_neg hs]
   refine qE (λ J8 e=>?_) (P.first (text.getD s 0) seen)
   rw [hc,ht,e]
   cases hb:bad (text.getD s 0) with
   | true=>exact ⟨J8,.inl (ir s (VD _) (by lia) hb rfl)⟩
   | false=>
    obtain ⟨J9,h2 | h2⟩:=m9 P m hc ht hl fuel (s+1) J8 (by lia)
    ·refine fZ (λ j h3 h4 h5 h6=>?_) h2
     exact ⟨J9,.inl (ir j (by lia) h4 h5 h6)⟩
    ·refine ⟨J9,.inr ⟨λ j h3 h4=>?_,h2.2⟩⟩
     by_cases hj:j=s
     ·rw [hj];exact hb
     ·exact h2.1 j (by lia) h4
structure A7 (code text:Array Nat)(pc:Nat)(m:M):Prop where
 nc:m.code=code
 yb:m.text=text
 CA:m.lim=text.size
 Ka:m.pc=pc
 A8:m.weight=0
 l9:m.frames=[]
 oE:m.answer=none
 gh:m.outcome=none
 we:m.wholeText=false
 E3:m.mustAdvance=false
noncomputable def zM (m:M):Prop:=m.outcome=none/\m.answer=some false/\m.frames=[]
structure PD (code text:Array Nat)(bad:Nat->Bool)(pc:Nat)(m:M):Prop where
 gh:m.outcome=none
 oE:m.answer=none
 nc:m.code=code
 yb:m.text=text
 CA:m.lim=text.size
 Ka:m.pc=pc
 PE:m.pos<text.size
 PF:bad (text.getD m.pos 0)=true
 Lc:m.outermost=true
 we:m.wholeText=false
 E3:m.mustAdvance=false
 l9:∃ f:PySem.Sre.Frame,f.wait=.nextStart/\m.frames=[f]
theorem zN {m:M}(hw:m.weight=0){f:PySem.Sre.Frame}(hf:f.kept.marks.size=0)(t s:Nat)(o:Bool):m.attempt f t s o={m with frames:=f::m.frames,weight:=m.weight+1+f.kept.marks.size,pc:=t,pos:=s,handed:=s,outermost:=o}:=by
 unfold M.attempt
 rw [if_neg (by rw [hw,hf];decide)]
theorem oF {code text:Array Nat}{bad:Nat->Bool}{pc:Nat}(P:iG code bad pc){m:M}(A:A7 code text pc m):
  (text.any bad=false/\zM (m.attemptFrom 0 true))\/(text.any bad=true/\PD code text bad pc (m.attemptFrom 0 true)):=by
 have hany:(∀ j,0<=j->j<text.size->bad (text.getD j 0)=false)->text.any bad=false:=λ h=>by
  rw [Array.any_eq_false]
  intro i hi
  have:=h i (WC _) hi
  rw [Array.getD_eq_getD_getElem?,XX hi] at this
  simpa using this
 have hfs:m.hasFirstSet=true:=by
  unfold M.hasFirstSet
  rw [A.nc,P.info,P.hint];rfl
 unfold M.attemptFrom
 rw [hfs,if_neg (by decide)]
 obtain ⟨seen',h | h⟩:=m9 P m A.nc A.yb A.CA (m.lim+1-0) 0 m.seen (by rw [A.CA];exact VD _)
 ·refine fZ (λ j _ h2 h3 h4=>?_) h
  rw [h4]
  right
  refine ⟨?_,?_⟩
  ·rw [Array.any_eq_true]
   refine ⟨_,h2,?_⟩
   rw [Array.getD_eq_getD_getElem?,XX h2] at h3
   simpa using h3
  ·dsimp only
   unfold M.attemptAt
   rw [zN (by exact A.A8) (by rfl)]
   exact ⟨A.gh,A.oE,A.nc,A.yb,A.CA,A.Ka,h2,h3,rfl,A.we,rfl,_,rfl,(show _::m.frames=_ by rw [A.l9])⟩
 ·rw [h.2]
  exact .inl ⟨hany h.1,A.gh,rfl,A.l9⟩
theorem wg {code text:Array Nat}{bad:Nat->Bool}{pc:Nat}(P:iG code bad pc):
  (text.any bad=false/\zM (forSearch code text 0 0 text.size false))\/(text.any bad=true/\PD code text bad pc (forSearch code text 0 0 text.size false)):=by
 have hf:∃ m0:M,A7 code text (header code).2 m0/\forSearch code text 0 0 text.size false=(if (decide (0>text.size)||decide (text.size-0<(header code).1))=true then m0.say false else
   {m0 with lastStart:=if (decide ((header code).1>1)&&!((header code).2 != 0&&code.getD 2 0&&& 5 != 0))=true then max 0 (text.size-((header code).1-1)) else text.size}.attemptFrom 0 true):=
  aC _ ⟨rfl,rfl,rfl,rfl,rfl,rfl,rfl,rfl,rfl,rfl⟩ rfl
 refine aI (λ m0 A e=>?_) hf
 rw [e]
 by_cases hz:(decide (0>text.size)||decide (text.size-0<(header code).1))=true
 ·rw [if_pos hz]
  left
  rw [P.Ml] at hz
  have hz2:text.size=0:=by simpa using hz
  exact ⟨by rw [Array.any_eq_false];intro i hi;lia,A.gh,rfl,A.l9⟩
 ·rw [if_neg hz]
  exact oF P ⟨A.nc,A.yb,A.CA,A.Ka.trans (by rw [P.Ml]),A.A8,A.l9,A.oE,A.gh,A.we,A.E3⟩
theorem CB {m:M}(h:zM m):(m.runFor Builtin.Re.reTurnSteps).outcome=some .failed:=by
 refine fJ (λ h1 h2 h3=>?_) h
 have e:m.step={m with outcome:=some .failed}:=by
  unfold M.step
  rw [h1,h2,h3];rfl
 show (M.runFor 4 m).outcome=_
 unfold M.runFor
 rw [h1]
 show (M.runFor 3 m.step).outcome=_
 rw [e];rfl
theorem E4 {code text:Array Nat}{bad:Nat->Bool}{pc:Nat}(P:iG code bad pc){m:M}(H:PD code text bad pc m):(m.runFor Builtin.Re.reTurnSteps).outcome=some .matched:=by
 refine qE (λ seen' hacc=>?_) (P.body (text.getD m.pos 0) (m.seen.add (m.word 0)))
 refine aI (λ f hw hfr=>?_) H.l9
 have hw0:m.word 0=code.getD pc 0:=by unfold M.word;rw [H.nc,H.Ka];rfl
 have e1:∃ m1:M,m.step=m1/\m1.outcome=none/\m1.answer=none/\m1.code=code/\m1.pc=pc+(1+code.getD (pc+1) 0)/\m1.frames=[f]/\m1.wholeText=false/\m1.mustAdvance=false:=by
  refine aC _ rfl ?_
  have hx:m.step=m.exec:=by
   unfold M.step
   rw [H.gh,H.oE]
   show (if m.pc<m.code.size then m.exec else _)=_
   rw [if_pos (by rw [H.Ka,H.nc];exact P.lt)]
  rw [hx]
  unfold M.exec
  rw [hw0,P.E1]
  dsimp only
  rw [if_neg (by rw [H.CA];exact hM.mpr H.PE)]
  have ha:accepts m.code m.pc (m.text.getD m.pos 0) (m.seen.add (code.getD pc 0))=.ok (bad (text.getD m.pos 0),seen'):=by
   unfold accepts
   rw [H.nc,H.Ka,P.E1,H.yb,<-hw0]
   exact hacc
  rw [ha,H.PF]
  dsimp only
  have hi:itemWidth m.code m.pc=1+code.getD (pc+1) 0:=by
   unfold itemWidth
   rw [H.nc,H.Ka,P.E1]
  rw [hi,H.Ka]
  exact cO H.gh H.oE H.nc rfl (bY hfr H.we H.E3)
 refine fZ (λ m1 e1 g1 g2=>bB λ g3 g4 g5 g6 g7=>?_) e1
 have e2:∃ m2:M,m1.step=m2/\m2.outcome=none/\m2.answer=some true/\m2.frames=[f]:=by
  refine aC _ rfl ?_
  have hx:m1.step=m1.exec:=by
   unfold M.step
   rw [g1,g2]
   show (if m1.pc<m1.code.size then m1.exec else _)=_
   rw [if_pos (by rw [g3,g4];exact P.PC)]
  rw [hx]
  have hw1:m1.word 0=code.getD (pc+(1+code.getD (pc+1) 0)) 0:=by unfold M.word;rw [g3,g4];rfl
  unfold M.exec
  rw [hw1,P.Lb]
  dsimp only
  rw [if_neg (by rw [g6,g7];simp)]
  exact bY g1 rfl g5
 refine fZ (λ m2 e2 k1 k2 k5=>?_) e2
 have e3:∃ m3:M,m2.step=m3/\m3.outcome=none/\m3.answer=some true/\m3.frames=[]:=by
  refine aC _ rfl ?_
  unfold M.step
  rw [k1,k2,k5]
  show (M.resume _ f true).outcome=none/\(M.resume _ f true).answer=some true/\(M.resume _ f true).frames=[]
  unfold M.resume
  rw [hw]
  exact bY rfl rfl rfl
 refine fZ (λ m3 e3 q1 q2 q3=>?_) e3
 show (M.runFor 4 m).outcome=_
 unfold M.runFor
 rw [H.gh]
 show (M.runFor 3 m.step).outcome=_
 rw [e1]
 unfold M.runFor
 rw [g1]
 show (M.runFor 2 m1.step).outcome=_
 rw [e2]
 unfold M.runFor
 rw [k1]
 show (M.runFor 1 m2.step).outcome=_
 rw [e3]
 unfold M.runFor
 rw [q1]
 show (M.runFor 0 m3.step).outcome=_
 unfold M.runFor M.step
 rw [q1,q2,q3]
 rfl
end
end
section
theorem sH:PlainAttrs "re.Pattern":=
 ⟨(aC ("object.__getattribute__") (by rw [YF,Xq];kernel_rfl) (by decide +kernel)),by rw [YF,Xq];kernel_rfl⟩
theorem qp:Slot "re.Pattern" "search" "re.Pattern.search":=
 .of (owner:="re.Pattern") (n:="search") (by rw [YF,Xq];kernel_rfl) (by decide +kernel) (by decide +kernel) (by decide +kernel)
  (by first | exact .inl (by decide +kernel) | exact .inr (by decide +kernel)) (by rw [YN];kernel_rfl)
theorem yc:typeOf (.builtin "re.Pattern.search")=pure (.type "method_descriptor"):=by show builtinType _=_;rw [builtinType_eq_fast];kernel_rfl
theorem wj:entryFor table "re.Pattern.search" = some fa.«re.Pattern.search»:=entryFor_of_fast (by kernel_rfl)
theorem uy:typeLookup (.type "re.Match") "__bool__" = pure none:=by rw [YF,Xq];kernel_rfl
theorem wm:typeLookup (.type "re.Match") "__len__" = pure none:=by rw [YF,Xq];kernel_rfl
theorem CC:Manifest.owners.lookup (String.ofList ['n','r','e','t','t','a','P','.','e','r'].reverse)=some («Manifest».owners.lookup "re.Pattern" |>.getD []):=by kernel_rfl
theorem yd (a b:Vg):argsOk "re.Pattern.search" ⟨[a,b],[]⟩:=by
 unfold argsOk;rw [signature?_of (id:="re.Pattern.search") (n:=['h','c','r','a','e','s']) (o:=['n','r','e','t','t','a','P','.','e','r']) (by kernel_rfl) CC];kernel_rfl
section
open PySem.Builtin.Re
variable {prog:Wi}{w:WK}{A:Wk}{E:Vg->Vh->Prop}{s:Vh}
structure sI (h:Heap)(a:Addr)(code:Array Nat):Prop where
 ex:∃ o fs b ob items ep,h.get? a=some o/\o.cls=.type "re.Pattern"/\o.dict=none/\o.data=.fields fs/\reRawNat (fs.getD 6 .none)=0/\reRawNat (fs.getD 2 .none)=0/\fs.getD 5 .none=.ref b/\h.get? b=some ob/\ob.data=.seq items ep/\(items.map reRawOf).map (·.toNat)=code
theorem jk {m m2:PySem.Sre.M}{Q:Option PySem.Sre.M->Vh->Prop}{b:Bool}(hm:m.runFor reTurnSteps=m2)(ho:m2.outcome=some (if b then .matched else .failed))(h:Q (if b then some m2 else none) s):wpAny (model prog w) A (reRunToEnd m) Q E s:=by
 unfold reRunToEnd
 have hd:reDrive (2^64) m=pure m2:=by
  rw [show (2:Nat)^64=(2^64-1)+1 from rfl]
  unfold reDrive
  rw [hm]
  dsimp only
  rw [ho];rfl
 rw [hd]
 refine Vc (Vj ?_)
 have hl:∀ (f:Nat->PUnit->Sem (ForInStep PUnit)) (_:∀ i Q,Q (YE XO) s->wpAny (model prog w) A (f i XO) Q E s) (l:List Nat) (Q:PUnit->Vh->Prop),Q ⟨⟩ s->wpAny (model prog w) A (forIn l XO f) Q E s:=by
  intro f hf l
  induction l with
  | nil=>intro Q hq;exact Vj hq
  | cons i l ih=>
   intro Q hq
   rw [Ww]
   exact Vc (hf i _ (ih Q hq))
 refine Vc (hl _ (λ i Q hq=>?_) _ _ ?_)
 ·by_cases hi:m2.seen.has i=true
  ·rw [if_pos hi];exact Vc (Yt (Vj hq))
  ·rw [if_neg hi];exact Vj hq
 rw [ho]
 induction b with
 | true=>exact Vj h
 | false=>exact Vj h
theorem sJ (v:Vg):reNamed "re.Pattern.search" "search" ["string","pos","endpos"] 1 [v] []=pure [some v,none,none]:=rfl
theorem wo {a:Addr}{code:Array Nat}{bad:Nat->Bool}{pc:Nat}{x:Str}{t:Tok}{Q:Vg->Vh->Prop}(P:iG code bad pc)(O:sI s.heap a code)(hlen:x.cps.size<=2^62)
  (h0:x.cps.any bad=false->Q .none s)
  (h1:∀ xs ys,x.cps.any bad=true->Q (.ref (s.heap.push {cls:=.type "tuple",data:=.seq xs}).objs.size) {s with heap:=(s.heap.push {cls:=.type "tuple",data:=.seq xs}).push {cls:=.type "re.Match",data:=.fields ys}}) :
  wpAny (model prog w) A (fa.«re.Pattern.search» ⟨[.ref a,.str x t],[]⟩) (λ fin s'=>∃ v,fin=.done (.ret v)/\Q v s') E s:=by
 refine cps λ G0 qY=>?_;refine bG (λ o fs b ob=>ak λ items ep g1 g2=>bB λ g3 g4 g5 g6=>bQ λ g7 g8 g9 OL=>?_) O.ex;refine qY ?_;clear qY
 unfold fa.«re.Pattern.search» reTarget
 dsimp only
 rw [sJ]
 refine Vc (Vc (Vj ?_))
 refine Vc (Vj ?_)
 refine Vc (Vj ?_)
 refine Vc (wpAny_fieldsOf g1 g4 ?_)
 refine Vc (m:=reTextOf (.str x t)) (Vj ?_)
 dsimp only
 rw [g5,g6,g7]
 refine Vc (Vj ?_)
 refine Vc (m:=reRawItems (.ref b)) (Vc (XN g8 g9 (Vj ?_)))
 refine Vj ?_
 dsimp only [Option.getD_some]
 rw [OL]
 have e1:min (0:Int).toNat x.cps.size=0:=Nat.zero_min _
 have e2:min (2^63-1:Int).toNat x.cps.size=x.cps.size:=by
  apply Yo
  have:(2^63-1:Int).toNat=2^63-1:=by rfl
  rw [this];lia
 rw [e1,e2]
 unfold reAnswer
 dsimp only
 rcases wg (text:=x.cps) P with ⟨hb,M⟩ | ⟨hb,M⟩
 ·refine Vc (jk (b:=false) rfl (CB M) ?_)
  exact Vj (aC _ rfl (h0 hb))
 ·refine Vc (jk (b:=true) rfl (E4 P M) ?_)
  refine Vc ?_
  unfold reNewMatch
  dsimp only
  rw [List.range_zero,List.any_nil,if_neg Vp]
  refine Vc (wpAny_newTuple ?_ (by show 2<=sizeLine;decide))
  refine Xh ?_ (by show (6:Nat)<=sizeLine+2;decide)
  exact Vj (aC _ rfl (h1 _ _ hb))
end
end
section
section
variable {C:Cx}{st:St}{X:XK}{d:Nat}
noncomputable def A9 (C:Cx)(a:Addr)(bad:Nat->Bool):Prop:=∃ code pc,iG code bad pc/\∀ h,C.K.In h->sI h a code
theorem sI.typeIs {s:Vh}{a:Addr}{code:Array Nat} (O:sI s.heap a code):s.TypeIs (.ref a) "re.Pattern"/\∃ o,s.heap.get? a=some o/\o.dict=none:=by
 refine cps λ G0 qY=>?_;refine bG (λ o fs b ob=>ak λ items ep g1 g2=>bB λ g3 g4 g5 g6=>bQ λ g7 g8 g9 OL=>?_) O.ex;refine qY ?_;clear qY
 exact ⟨⟨o,g1,g2⟩,aC o g1 g3⟩
theorem wu {s:Vh}{M:Zn}{A:Wk}{E:Vg->Vh->Prop}{a:Addr}{Q:Bool->Vh->Prop} (hT:s.TypeIs (.ref a) "re.Match") (h:Q true s):wpAny M A (truthy (.ref a)) Q E s:=by
 unfold truthy
 refine Vc (wpAny_callSpecial?_none hT uy ?_)
 refine Vc (Xm hT wm ?_)
 exact Vj h
end
namespace kY
noncomputable def aq (C:Cx)(pos:Pos)(e:Expr)(E:Vg->Vh->Prop)(X:XK)(Q:Bool->St->Prop)(F:Fz)(ρ:Ky)(s:Vh)(st:St)(o:Expr)(apos:Pos)(Q':Bool->Vh->Prop):Prop:=∀ (hb:baseOk o=true) (hline:Vo apos.endLine pos.line=true) (hs:notStar e=true) (h:EV C (eval o C.env) st (λ a st1=>∃ ad bad,a=.con (.ref ad)/\A9 C ad bad/\EV C (eval e C.env) st1 (λ v st2=>∃ x,v=.str x/\x.cps.size<=2^62/\Q (x.cps.any bad) st2) X) X)  (R:Rel C F ρ st s) (hQ:∀ F' ρ' x s',aZ F F'->bD ρ ρ'->fK C Q F' ρ' x s'->Q' x s') (hE:∀ F' ρ' x s',aZ F F'->bD ρ ρ'->cC C X F' ρ' x s'->E x s'),wpAny (model C.prog C.w) C.A (isTrue (.Call (.Attribute o "search" apos) [e] [] pos) C.env (eval (.Call (.Attribute o "search" apos) [e] [] pos) C.env)) Q' E s
noncomputable def S0:=OH aq
noncomputable def ε:=eu (by walk_at "ne") S0
theorem here:S0 ε:=by
 intro hb hline hs h R hQ hE
 refine wpAny_isTrue_value ?_ rfl
 rw [bi,oj hb]
 refine Vc (h ε.2.2.2.2.2.2.1 ε.2.2.2.2.2.2.2.1 ε.2.2.2.2.2.2.2.2.1 R _ ε.2.2.2.1 ?_ hE)
 rintro F1 bE x s1 l1 k1 hp0;apply hp0.elim;intro a st1;refine ak λ ad bad e_ cg h1=>?_;subst e_;refine dM (λ code pc P hO=>?_) cg;intro R1 d1
 cases d1
 refine Vc (Wb ?_)
 have hp:=fP hs
 unfold methodCall
 rw [rt hp (kws:=[]) rfl rfl]
 have hT1:=(hO _ (qT R1)).typeIs
 refine Vc (Vu (Ze hT1.1 sH qp yc (λ a' e'=>by obtain rfl:=Xb e';exact hT1.2) ?_))
 refine Vc (Xn (vP hline) ?_)
 have hk:=gK ε.2.1 ε.1.env [] rfl
 refine a7 (P:=λ hp=>∃ F' ρ',J5 F' hp/\(∀ b o9,ε.1.K.lookup b=some o9->F' b=some o9)/\Den F' ρ' (.con (.builtin "re.Pattern.search")) (.builtin "re.Pattern.search")) ?_ (λ hp=>ak λ F' ρ' a b c=>nH (K:=ε.1.K) rfl c b a) ?_
 ·rw [(fQ ε.2.1 ε.1.env [ε.2.2.1] hp).1,hk.2.2.2];rfl
 ·have hl:EL ε.1 (spliced (backTo ε.2.1 (starEach [ε.2.2.1] ε.1.env))) st1 (λ vs st2=>∃ x,vs=[.str x]/\x.cps.size<=2^62/\ε.2.2.2.2.2.1 (x.cps.any bad) st2) ε.2.2.2.2.1:=
   EL.cons hs (h1.mono λ v st2=>fq λ x e1 e2 e3=>EL.nil (fu x (by rw [e1]) e2 e3))
  refine fB hp rfl (hl F1 bE s1 R1 _ ε.2.2.2.1 ?_ λ F' ρ' e9 s' l k=>hE F' ρ' e9 s' (l1.trans l) (k1.trans k))
  rintro F2 bZ vs s2 l2 k2 hp0;apply hp0.elim;intro ws st2;refine fq λ x e_ hsz hq=>?_;subst e_;intro R2 d2
  apply d2.au;intro _ _ dx dn
  cases dn
  cases dx with
  | str _ t=>
  refine X7 ⟨(ay F2 bZ R2.kF (λ b o9 e9=>R2.kK b o9 (.inl e9)) (.con _)),?_⟩
  have Rj:=hO _ (qT R2)
  refine ik qp Rj.typeIs.1 wj (yd _ _) (S:=λ A R s9=>s9=s2/\∀ v s',(∃ h',Keeps s2.heap h'/\s'={s2 with heap:=h'}/\((v=WR/\x.cps.any bad=false)\/(x.cps.any bad=true/\∃ b,v=Wv b/\s'.TypeIs v "re.Match")))->R (.ok (.ret v)) s') (.of_wp ?_) ⟨rfl,?_⟩
  ·intro A' R' s';refine qA λ e_ hR=>?_;subst e_
   refine wo (Q:=λ v s'=>R' (.ok (.ret v)) s') P Rj hsz (λ hb=>hR _ _ (fu _ (λ _ _ h=>h) rfl (.inl ⟨rfl,hb⟩))) λ xs ys hb=>hR _ _ (fu _ (λ b o9 h=>VA _ (VA _ h)) rfl (.inr (⟨hb,aC _ rfl ⟨_,VL _ rfl,rfl⟩⟩)))
  ·intro v s';refine fq λ h' hk' e_ hv=>?_;subst e_
   have R3:=R2.keeps hk' s2.toks
   rcases hv with ⟨rfl,hb⟩ | ⟨hb,b,rfl,hT⟩
   ·rw [hb] at hq
    exact Vj (hQ F2 bZ _ _ (l1.trans l2) (k1.trans k2) (fK.in (hq) (R3)))
   ·rw [hb] at hq
    exact wu hT (hQ F2 bZ _ _ (l1.trans l2) (k1.trans k2) (fK.in (hq) (R3)))
end kY
theorem EB.search {C:Cx}{st:St}{X:XK}{o e:Expr}{apos pos:Pos}{Q:Bool->St->Prop} (hb:baseOk o=true) (hline:Vo apos.endLine pos.line=true) (hs:notStar e=true) (h:EV C (eval o C.env) st (λ a st1=>∃ ad bad,a=.con (.ref ad)/\A9 C ad bad/\EV C (eval e C.env) st1 (λ v st2=>∃ x,v=.str x/\x.cps.size<=2^62/\Q (x.cps.any bad) st2) X) X):EB C (isTrue (.Call (.Attribute o "search" apos) [e] [] pos) C.env (eval (.Call (.Attribute o "search" apos) [e] [] pos) C.env)) st Q X:=λ F ρ s R Q' E hQ hE=>sk (S:=kY.S0) kY.here (C,pos,e,E,X,Q,F,ρ,s,st,o,apos,Q') hb hline hs h R hQ hE
end
section
section
variable {C:Cx}{st:St}{X:XK}{d:Nat}
theorem sL:typeLookup (.type "slice") "__index__" = pure none:=by rw [YF,Xq];kernel_rfl
theorem Ld {M:Zn}{A:Wk}{α:Type}{E:Vg->Vh->Prop}{s:Vh}{c:Prop}[Decidable c]{x y:Sem α}{Q:α->Vh->Prop}(h1:wpAny M A x Q E s)(h2:wpAny M A y Q E s):wpAny M A (if c then x else y) Q E s:=by split<;>assumption
end
namespace i7
noncomputable def aq (xs:List Vg)(s:Vh)(C:Cx)(I:Addr)(ys:List Vg)(b:Addr)(A:Wk)(E:Vg->Vh->Prop)(l:Addr)(ep xu:Nat)(Q:Unit->Vh->Prop):Prop:=∀ (hl:s.heap.get? l=some (ao xs ep)) (hI:s.heap.IsSliceOf I .none .none .none) (hb:s.heap.get? b=some (ao ys xu)) (hz:xs.length+ys.length<=sizeLine) (hQ:∀ f:Array Vg->Array Vg,f xs.toArray=ys.toArray->Q () {s with heap:=s.heap.update l (Wr f)}),wpAny (model C.prog C.w) A (setItem (.ref l) (.ref I) (.ref b)) Q E s
noncomputable def S0:=OG aq
noncomputable def ε:=eu (by walk_at "ne") S0
theorem here:S0 ε:=by
 intro hl hI hb hz hQ
 have hT:ε.2.1.TypeIs (.ref ε.2.2.2.2.2.2.2.2.1) "list":=⟨_,hl,rfl⟩
 refine fq (λ oI Le SV PG=>?_) (id hI)
 have hTI:ε.2.1.TypeIs (.ref ε.2.2.2.1) "slice":=⟨_,Le,SV⟩
 have hTb:ε.2.1.TypeIs (.ref ε.2.2.2.2.2.1) "list":=⟨_,hb,rfl⟩
 unfold setItem
 refine Vu ?_
 refine Vc (wpAny_sequenceKey hT (by decide) ?_)
 refine Vc (XA (name:=Ve "__setitem__") hT PySem.slot_list_setitem (XJ PySem.slot_list_setitem hT PySem.entry_list_setitem ?_ (PySem.args_list_setitem _ _ _)))
 show wpAny _ _ (YL (.ref ε.2.2.2.1) >>= _) _ _ ε.2.1
 unfold YL
 refine Vc (Vc (Xm hTI sL (Vj ?_)))
 refine Vc (ii hTI ?_)
 rw [if_neg (by decide)]
 have Lg:∀ (Q9:Vg×Vg×Vg->Vh->Prop),Q9 (.none,.none,.none) ε.2.1->wpAny (model ε.2.2.1.prog ε.2.2.1.w) ε.2.2.2.2.2.2.1.in1 (Builtin.List.listSliceParts (.ref ε.2.2.2.1)) Q9 ε.2.2.2.2.2.2.2.1 ε.2.1:=λ Q9 hq=>by
  unfold Builtin.List.listSliceParts
  refine Vc (WZ Le PG rfl ?_)
  refine Vc (Vj ?_)
  rw [if_neg (by decide)]
  refine Vc (WZ Le PG rfl ?_)
  refine Vc (Vj ?_)
  refine Vc (WZ Le PG rfl ?_)
  refine Vc (Vj ?_)
  exact Vj hq
 refine Vc (Lg _ ?_)
 have PI:∀ (Q9:Array Vg->Vh->Prop),Q9 ε.2.2.2.2.1.toArray ε.2.1->wpAny (model ε.2.2.1.prog ε.2.2.1.w) ε.2.2.2.2.2.2.1.in1 (Builtin.List.listAllItems (.ref ε.2.2.2.2.2.1) "must assign iterable to extended slice") Q9 ε.2.2.2.2.2.2.2.1 ε.2.1:=λ Q9 hq=>by
  unfold Builtin.List.listAllItems
  refine Vc (ii hTb ?_)
  rw [if_pos (by decide)]
  exact dA hb rfl hq
 have hf:ε.1.toArray.extract 0 (0:Int).toNat++ε.2.2.2.2.1.toArray++ε.1.toArray.extract (max (0:Int) (ε.1.toArray.size:Int)).toNat ε.1.toArray.size=ε.2.2.2.2.1.toArray:=by
  have h0:(max (0:Int) (ε.1.toArray.size:Int)).toNat=ε.1.toArray.size:=by lia
  rw [h0]
  simp
 dsimp only
 refine Ld ?_ ?_
 refine Vc (dA hb rfl ?_)
 rotate_left
 refine Vc (PI _ ?_)
 all_goals (
  refine Vc (dA hl rfl ?_)
  have hsi:sliceIndices .none .none .none ε.1.toArray.size=pure (0,(ε.1.toArray.size:Int),1):=rfl
  rw [hsi]
  refine Vc (Vj ?_)
  dsimp only
  rw [if_pos (by decide)]
  refine Vc (Yt ?_)
  rw [if_neg (by unfold Builtin.List.listTooLong;simp only [VM,decide_eq_true_eq];lia)]
  refine Vc (YC hl rfl ?_ (by rw [VM];lia) ?_)
  ·refine Vc (ZH (Vj (aC .none rfl (Vj (hQ _ ?_)))))
   exact hf
  ·rw [hf,VM];lia)
end i7
theorem ye {C:Cx}{l I b:Addr}{xs ys:List Vg}{ep xu:Nat}{A:Wk}{s:Vh}{Q:Unit->Vh->Prop}{E:Vg->Vh->Prop}(hl:s.heap.get? l=some (ao xs ep))(hI:s.heap.IsSliceOf I .none .none .none)(hb:s.heap.get? b=some (ao ys xu))(hz:xs.length+ys.length<=sizeLine)(hQ:∀ f:Array Vg->Array Vg,f xs.toArray=ys.toArray->Q () {s with heap:=s.heap.update l (Wr f)}):wpAny (model C.prog C.w) A (setItem (.ref l) (.ref I) (.ref b)) Q E s:=sk (S:=i7.S0) i7.here (xs,s,C,I,ys,b,A,E,l,ep,xu,Q) hl hI hb hz hQ
namespace gT
noncomputable def aq (F:Fz)(ρ:Ky)(s:Vh)(E:Vg->Vh->Prop)(C:Cx)(st:St)(X:XK)(p pos:Pos)(Q:St->Prop)(Q':Unit->Vh->Prop):Prop:=∀ {o:Expr}{v:V} (h:EV C (eval o C.env) st (λ ov st1=>∃ n l l',ov=.loc n/\J st1.heap n=some (.lst l)/\v=.lst l'/\l.length+l'.length<=sizeLine/\Q {st1 with heap:=af st1.heap n (.lst l')}) X) {x:Vg} (R:Rel C F ρ st s) (hd:Den F ρ v x) (hQ:∀ F' ρ' x s',aZ F F'->bD ρ ρ'->jg C Q F' ρ' x s'->Q' x s') (hE:∀ F' ρ' x s',aZ F F'->bD ρ ρ'->cC C X F' ρ' x s'->E x s'),wpAny (model C.prog C.w) C.A (((VR (.Subscript o (.Slice We We We p) pos) C.env)) x) Q' E s
noncomputable def S0:=Mf aq
noncomputable def ε:=eu (by walk_at "ne") S0
theorem here:S0 ε:=by
 intro o v h x R hd hQ hE
 rw [cm]
 refine Vc (Vu (h ε.1 ε.2.1 ε.2.2.1 R _ ε.2.2.2.1 ?_ hE))
 rintro F1 bE ox s1 l1 k1 hp0;apply hp0.elim;intro ov st1;refine aU λ n l l' e_=>bQ λ hk cg hsz hq=>?_;subst e_ cg;intro R1 d1
 refine Vc (Vu (jp ?_))
 refine Vj (Vj (Vj ?_))
 refine qA (λ l5 R5=>?_) (R1.gI (o:={cls:=.type "slice",data:=.fields #[.none,.none,.none]}) rfl)
 have hsl:({s1 with heap:=s1.heap.push {cls:=.type "slice",data:=.fields #[.none,.none,.none]}}:Vh).heap.IsSliceOf s1.heap.objs.size .none .none .none:=ZY _ _ _ _
 refine Vc (Wb (Vc (Vu ?_)))
 apply d1.eg;intro _ hn
 refine ak (λ a ob h1 h2=>qA λ h3 _=>?_) (R5.mt _ _ hk)
 rw [hn] at h1;obtain rfl:=Vf h1
 refine dM (λ _ _ e_ dO=>?_) h3.lst_inv;subst e_
 have hv:=hd.mono (l1.trans l5) k1
 apply hv.jc;intro _ _ _ hf Ez
 refine ye h2 hsl (R5.kF _ _ hf) (by rw [<-dO.length,<-Ez.length];exact hsz) λ f SW=>?_
 refine ZG (hQ _ bE _ _ (l1.trans l5) k1 ⟨_,hq,?_⟩)
 exact ry R5 hk hn h2 SW Ez s1.toks
end gT
theorem AS.slice_all {C:Cx}{st:St}{X:XK}{p pos:Pos}{Q:St->Prop}{o:Expr}{v:V}(h:EV C (eval o C.env) st (λ ov st1=>∃ n l l',ov=.loc n/\J st1.heap n=some (.lst l)/\v=.lst l'/\l.length+l'.length<=sizeLine/\Q {st1 with heap:=af st1.heap n (.lst l')}) X):AS C (VR (.Subscript o (.Slice We We We p) pos) C.env) v st Q X:=λ F ρ s x R hd Q' E hQ hE=>sk (S:=gT.S0) gT.here (F,ρ,s,E,C,st,X,p,pos,Q,Q') h R hd hQ hE
end
section
section
variable {C:Cx}{st:St}{X:XK}{d:Nat}
theorem E5:isSubtype (.type "dict") (.type "dict")=pure true:=by rw [YN];kernel_rfl
noncomputable def kwEs (kws:List (Str×Vg))(es:Array Vt):Prop:=(kws=[]/\es = #[])\/∃ hs n t y,kws=[(n,y)]/\es = #[⟨hs,.str n t,y⟩]
noncomputable def sM (h:Heap)(m:Addr)(kws:List (Str×Vg)):Prop:=∃ om es ep,h.get? m=some om/\om.cls=.type "dict"/\om.data=.dict es ep/\kwEs kws es
noncomputable abbrev D0:Obj:={cls:=.type "dict",data:=.dict #[]}
theorem yf {h:Heap}{o:Obj}{g:Obj->Obj}:(h.push o).update h.objs.size g=h.push (g o):=by
 obtain ⟨objs,l⟩:=h
 show (⟨(objs.push o).modify objs.size g,l⟩:Heap)=⟨objs.push (g o),l⟩
 congr 1
 apply kt
 ·simp
 ·intro i h1 h2
  have hs:i<objs.size+1:=by simpa using h2
  rw [YO]
  by_cases e:objs.size=i
  ·subst e;rw [if_pos rfl];simp
  ·rw [if_neg e]
   have hi:i<objs.size:=by lia
   rw [Xr hi,Xr hi]
section
variable {M:Zn}{A:Wk}{E:Vg->Vh->Prop}{s:Vh}
theorem oG {d:Addr}{od:Obj}{ep:Nat}{n:Str}{t:Tok}{hs:Int}{Q:Option Nat->Vh->Prop}(hd:s.heap.get? d=some od)(DX:od.data=.dict #[] ep)(h:Q none s):wpAny M A (dictFind d (.str n t) hs) Q E s:=by
 unfold dictFind
 try with_reducible refine Vu ?_
 refine Vc (WS hd DX ?_)
 dsimp only
 rw [if_pos (by simp)]
 unfold foundByValue
 rw [show (#[]:Array Vt).findIdx? (·.key.isStr n)=none from by simp]
 exact Vj h
end
end
namespace dJ
noncomputable def aq (H:Heap)(m:Addr)(A:Wk)(s:Vh)(E:Vg->Vh->Prop)(Q:Unit->Vh->Prop):Prop:=∀ {M:Zn}{kws:List (Str×Vg)} (hK:sM (H.push D0) m kws) (hne:(m==sysModules)=false) (h:∀ od,sM (H.push od) H.objs.size kws->(od.isFreed=false)->Q () {s with heap:=H.push od}),wpAny M A (mergeMapping H.objs.size (.ref m) true) Q E {s with heap:=H.push D0}
noncomputable def S0:=u6 aq
noncomputable def ε:=eu (by walk_at "ne") S0
theorem here:S0 ε:=by
 intro M kws hK hne h
 refine aU (λ om es ep hm=>fJ λ Rk hmd hk=>?_) hK
 have hT:({ε.2.2.2.1 with heap:=ε.1.push D0}:Vh).TypeIs (.ref ε.2.1) "dict":=⟨om,hm,Rk⟩
 have hd:(ε.1.push D0).get? ε.1.objs.size=some D0:=VL _ rfl
 unfold mergeMapping
 refine Vc (YQ hT E5 ?_)
 rw [if_pos rfl]
 refine Vc (Xm hT PySem.F.slot_dict_iter.lookup ?_)
 have e1:(some (ZF "dict.__iter__")==some (ZF "dict.__iter__"))=true:=by decide +kernel
 rw [e1]
 refine Vc (Vj ?_)
 dsimp only
 rw [if_neg (by rw [hne];decide)]
 refine Vc (WS hd rfl ?_)
 rw [if_pos (show (#[]:Array Vt).isEmpty=true from rfl)]
 refine Vc (WS hm hmd ?_)
 rcases hk with ⟨rfl,rfl⟩ | ⟨hs,n,t,y,rfl,rfl⟩
 ·refine Vc (Vj ?_)
  refine Vc (WS hm hmd ?_)
  refine Vc (Y5 hm hmd ?_)
  exact Vj (h D0 ⟨_,_,_,hd,rfl,rfl,.inl ⟨rfl,rfl⟩⟩ rfl)
 ·refine Vc (Vj ?_)
  refine Vc (WS hm hmd ?_)
  refine Vc (Y5 hm hmd ?_)
  show wpAny M ε.2.2.1 (forIn [0] XO _ >>= _) ε.2.2.2.2.2 ε.2.2.2.2.1 _
  rw [Ww]
  refine Vc (Vc ?_)
  refine Vc (WS hm hmd ?_)
  show wpAny M ε.2.2.1 (do
   holding [Za n t,y] do
    if true=true then
     if (<-dictFind ε.1.objs.size (Za n t) hs).isSome then rule "dict.merge.duplicate-key";raiseNew (<-newExc (.type "KeyError") [Za n t])
    dictPut ε.1.objs.size hs (Za n t) y
   if (<-dictEpoch ε.2.1) != ep then unsupported "dict.changed-during-merge"
   pure (YE XO)) _ _ _
  have PJ:ε.2.1≠ε.1.objs.size:=λ q=>by
   rw [q,hd] at hm;obtain rfl:=Vf hm
   injection hmd with q2;exact absurd (congrArg Array.size q2) (by simp)
  refine Vc (Vu ?_)
  rw [if_pos rfl]
  refine Vc (oG hd rfl ?_)
  rw [if_neg (show ¬ ((none:Option Nat).isSome=true) from Vp)]
  show wpAny M ε.2.2.1 (dictPut ε.1.objs.size hs (Za n t) y) _ _ _
  unfold dictPut
  refine Vc (oG hd rfl ?_)
  refine ZJ (s:={ε.2.2.2.1 with heap:=ε.1.push D0}) (hz:=by simp) hd rfl ?_
  have e2:(ε.1.push D0).update ε.1.objs.size (YG (·.push ⟨hs,.str n t,y⟩))=ε.1.push {cls:=.type "dict",data:=.dict #[⟨hs,.str n t,y⟩] 1}:=yf
  rw [e2]
  have hm':(ε.1.push {cls:=.type "dict",data:=.dict #[⟨hs,.str n t,y⟩] 1}).get? ε.2.1=some om:=e2▸(V2 _ _ (Ym PJ)).trans hm
  refine Vc (Y5 hm' hmd ?_)
  rw [if_neg (by simp)]
  refine Vj ?_
  dsimp only
  rw [Xj]
  exact Vj (Vj (h {cls:=.type "dict",data:=.dict #[⟨hs,.str n t,y⟩] 1} ⟨_,_,_,VL _ rfl,rfl,rfl,.inr (d7 hs n t y (⟨rfl,rfl⟩))⟩ rfl))
end dJ
theorem qZ {A E s m H Q}:dJ.aq H m A s E Q:=sk (S:=dJ.S0) dJ.here (H,m,A,s,E,Q)
namespace eX
noncomputable def aq (A:Wk)(E:Vg->Vh->Prop)(s:Vh)(d:Addr)(f:Vg):Prop:=∀ {M:Zn}{kws:List (Str×Vg)}{Q:List (Str×Vg)->Vh->Prop} (hK:sM s.heap d kws) (h:Q kws s),wpAny M A (keywordsIn f d) Q E s
noncomputable def S0:=u5 aq
noncomputable def ε:=eu (by walk_at "ne") S0
theorem here:S0 ε:=by
 intro M kws Q hK h
 refine aU (λ om es ep hm=>fJ λ Rk hmd hk=>?_) hK
 unfold keywordsIn
 refine Vc (WS hm hmd ?_)
 rcases hk with ⟨rfl,rfl⟩ | ⟨hs,n,t,y,rfl,rfl⟩
 ·exact Vj h
 ·exact Vj h
end eX
theorem uz {A E s d f}:eX.aq A E s d f:=sk (S:=eX.S0) eX.here (A,E,s,d,f)
namespace d9
noncomputable def aq (s:Vh)(A:Wk)(E:Vg->Vh->Prop)(f:Vg)(x:Sem Vg):Prop:=∀ (M:Zn) (Q:Addr->Vh->Prop) (h:wpAny M A x (λ v s'=>∃ m kws tk,v=.ref m/\(m==sysModules)=false/\s'={s with heap:=s.heap.push D0,toks:=tk}/\sM (s.heap.push D0) m kws/\
   ∀ od,sM (s.heap.push od) s.heap.objs.size kws->od.isFreed=false->Q s.heap.objs.size {s with heap:=s.heap.push od,toks:=tk}) E {s with heap:=s.heap.push D0}),wpAny M A (mergedKeywords f [(none,x)]) Q E s
noncomputable def S0:=u5 aq
noncomputable def ε:=eu (by walk_at "ne") S0
theorem here:S0 ε:=by
 intro M Q h
 unfold mergedKeywords
 refine Vc (ZI ?_)
 refine Vc (Vu ?_)
 dsimp only
 rw [Ww]
 refine Vc (Vc ?_)
 refine Vc (Vj ?_)
 refine Vc (V6 h (λ v s' h'=>?_) λ _ _ e=>e)
 refine aU (λ m kws tk e_=>bQ λ h1 cg h3 h4=>?_) h';subst e_ cg
 refine Vc (bj (Vu (Zi (bj (qZ (s:={ε.1 with toks:=tk}) h3 h1 λ od k1 k2=>?_)))))
 refine Vj (Vj ?_)
 rw [if_pos (show ([]:List (Str×Sem Vg)).isEmpty=true from rfl)]
 exact Vj (Vj (h4 od k1 k2))
end d9
theorem oH {A:Wk}{E:Vg->Vh->Prop}{s:Vh}{f:Vg}{x:Sem Vg}{M:Zn}{Q:Addr->Vh->Prop}(h:wpAny M A x (λ v s'=>∃ m kws tk,v=.ref m/\(m==sysModules)=false/\s'={s with heap:=s.heap.push D0,toks:=tk}/\sM (s.heap.push D0) m kws/\
   ∀ od,sM (s.heap.push od) s.heap.objs.size kws->od.isFreed=false->Q s.heap.objs.size {s with heap:=s.heap.push od,toks:=tk}) E {s with heap:=s.heap.push D0}):wpAny M A (mergedKeywords f [(none,x)]) Q E s:=sk (S:=d9.S0) d9.here (s,A,E,f,x) M Q h
section
variable {C:Cx}{st:St}{X:XK}{d:Nat}
section
variable {C:Cx}{st:St}{X:XK}{d:Nat}
theorem uA {M:Zn}{A:Wk}{E:Vg->Vh->Prop}{s:Vh}{pos:Pos}{f:Vg}{first:List Vg}{Q:Vg->Vh->Prop}{P:Heap->Prop}{args:List (Bool×Sem Vg)}{keywords:List (Option Str×Sem Vg)}(hplain:(args.any (·.1)||keywords.any (·.1.isNone))=true)
  (hk:∀ h,P h->∃ k,(k=Keeper.frame\/k=Keeper.machine\/k=Keeper.boundFrame)/\Looks M h (keeperOf f) k)
  (h:wpAny M A (evalArgs f true args keywords) (λ a s₁=>P s₁.heap/\wpAny M A (call f (first++a.pos) a.kw) Q E s₁) E s):wpAny M A (callWith pos f first args keywords) Q E s:=by
 unfold callWith
 refine Vc (Vu (V6 h (λ a s₁ h₁=>Vc (Wb ?_)) λ _ _ x=>x))
 refine aI (λ k hk' L=>?_) (hk _ h₁.1)
 rw [hplain]
 refine Vc (L.here ?_)
 have tail:∀ {t:Sem Vg},wpAny M A t Q E s₁->wpAny M A (t >>= λ r=>holding [r] point >>= λ _=>pure r) Q E s₁:=
  λ ht=>Vc (V6 ht (λ r s₂ hr=>Vc (Vu (wpAny_point (Vj hr)))) λ _ _ x=>x)
 have marked (mk:Vg):wpAny M A (callMarked mk f (first++a.pos) a.kw) Q E s₁:=by unfold callMarked;exact Calls.wpAny_keep h₁.2
 rcases hk' with rfl | rfl | rfl<;>dsimp only<;>first | exact tail (marked _) | exact tail (wpAny_operating h₁.2) | exact tail h₁.2
theorem uB {M:Zn}{A:Wk}{E:Vg->Vh->Prop}{s:Vh}{f:Vg}{env:Env}{pos:Pos}{args:List Expr}{x:Sem Vg}{Q:Args->Vh->Prop}(ha:bg args=true)
  (h:wpAny M A (spliced (backTo pos (starEach args env))) (λ vs s₁=>wpAny M A x (λ v s'=>∃ m kws tk,v=.ref m/\(m==sysModules)=false/\s'={s₁ with heap:=s₁.heap.push D0,toks:=tk}/\sM (s₁.heap.push D0) m kws/\
   ∀ od,sM (s₁.heap.push od) s₁.heap.objs.size kws->od.isFreed=false->Q ⟨vs,kws⟩ {s₁ with heap:=s₁.heap.push od,toks:=tk}) E {s₁ with heap:=s₁.heap.push D0}) E s) :
  wpAny M A (evalArgs f true (backTo pos (starEach args env)) [(none,x)]) Q E s:=by
 have key:∀ l:List (Bool×Sem Vg),l.any (·.1)=false->wpAny M A (spliced l) (λ vs s₁=>wpAny M A x (λ v s'=>∃ m kws tk,v=.ref m/\(m==sysModules)=false/\s'={s₁ with heap:=s₁.heap.push D0,toks:=tk}/\sM (s₁.heap.push D0) m kws/\
   ∀ od,sM (s₁.heap.push od) s₁.heap.objs.size kws->od.isFreed=false->Q ⟨vs,kws⟩ {s₁ with heap:=s₁.heap.push od,toks:=tk}) E {s₁ with heap:=s₁.heap.push D0}) E s->
   wpAny M A (evalArgs f true l [(none,x)]) Q E s:=λ l hl hs=>by
  have e:evalArgs f true l [(none,x)]=(do
    let vs <-spliced l
    holding (vs++(none:Option Vg).toList) do
     let d <-mergedKeywords f [(none,x)]
     let pos <-pure vs
     return ⟨pos,<-holding (.ref d::pos) (keywordsIn f d)⟩):=by
   rcases l with _ | ⟨⟨b,y⟩,_ | ⟨z,r⟩⟩
   ·rfl
   ·induction b with
    | true=>simp at hl
    | false=>rfl
   ·induction b<;>rfl
  rw [e]
  refine Vc (V6 hs (λ vs s₁ h₁=>?_) λ _ _ e=>e)
  refine Vu ?_
  refine Vc (oH (V6 h₁ (λ v s' h'=>?_) λ _ _ e=>e))
  refine aU (λ m kws tk e1=>bQ λ e2 e3 e4 hq=>?_) h'
  refine cu m kws tk e1 (dG e2 e3 e4 (λ od k1 k2=>?_))
  refine Vc (Vj ?_)
  exact Vc (Vu (uz (s:={s₁ with heap:=s₁.heap.push od,toks:=tk}) k1 (Vj (hq od k1 k2))))
 exact key _ (fQ pos env args ha).1 h
noncomputable def Kc:Option (Str×V)->V
 | some p=>.kwd p.1 p.2
 | none=>.ku
theorem IK {F:Fz}{ρ:Ky}{x:Vg}{one:Option (Str×V)} (h:Den F ρ (Kc one) x):∃ m o es ep kws,x=.ref m/\F m=some o/\o.cls=.type "dict"/\o.data=.dict es ep/\kwEs kws es/\es.size<=1/\∃ ys,kws=(one.toList.map (·.1)).zip ys/\aF F ρ (one.toList.map (·.2)) ys:=by
 induction one with
 | none=>
  refine aI (λ m e hf=>?_) (Den.rH h)
  exact d7 m _ _ 0 (ir [] e hf rfl (dG rfl (.inl ⟨rfl,rfl⟩) (by simp) (aC [] rfl .nil)))
 | some p=>
  refine bG (λ m o hs t=>ak λ y ep e hf=>fJ λ hc hd hy=>?_) (Den.kwd_inv h)
  exact d7 m o _ ep (ir [(p.1,y)] e hf hc (dG hd (.inr (d7 hs p.1 t y (⟨rfl,rfl⟩))) (by simp) (aC [y] rfl (.cons hy .nil))))
noncomputable def iH (K:Frag):Bool:=match K.lookup sysModules with
 | some o=>match o.data with
  | .dict es _=>Xf 1 es.size
  | _=>false
 | none=>false
theorem EV.zO (G:C.Good d) {id y:Str}{p yp pos kp:Pos}{args:List Expr}{Q:QV} (ha:bg args=true) (hsys:iH C.K=true) (hdb:sB y "__debug__" = false)
  (h:EV C (eval (.Name id p) C.env) st (λ f st1=>cX C.K f=true/\EL C (spliced (backTo pos (starEach args C.env))) st1 (λ vs st2=>∃ one,nameV C.env.scope.names C.K st2.vars y=some (Kc one)/\CJ C f vs (one.toList.map (·.1)) (one.toList.map (·.2)) st2 Q X) X) X) :
  EV C (eval (.Call (.Name id p) args [⟨We,.Name y yp,kp⟩] pos) C.env) st Q X:=λ F ρ s R Q' E hQ hE=>by
 refine Y7 (h F ρ s R _ E ?_ hE)
 rintro F1 bE x s1 l1 k1 hp0;apply hp0.elim;intro f st1;refine qA λ hc hl=>?_;intro R1 d1
 refine uA (P:=λ hp=>∃ F' ρ',aZ F1 F'/\J5 F' hp/\(∀ b o,C.K.lookup b=some o->F' b=some o)/\Den F' ρ' f x) (by rw [(fQ pos C.env args ha).1];rfl) (λ hp=>ak λ F' ρ' _ a=>qA λ b c=>nH hc c b a) ?_
 refine uB ha (hl F1 bE s1 R1 _ E ?_ λ F' ρ' e s' l k=>hE F' ρ' e s' (l1.trans l) (k1.trans k))
 rintro F2 bZ vs s2 l2 k2 hp0;apply hp0.elim;intro ws st2;refine aI λ one hv SX=>?_;intro R2 d2
 have R3:Rel C F2 bZ st2 {s2 with heap:=s2.heap.push D0}:=R2.keeps (λ b o e=>VA _ e) s2.toks
 refine Vc (Zu (lT G.toGood0 R3 hv λ z dz=>?_) (beq_eq_false_iff_ne.mpr λ e=>HQ ((dH.mpr e).symm.trans hdb)))
 refine Vc (Wb (Vj ?_))
 refine bG (λ m o es ep=>fZ λ kws e_ hf hcl=>bQ λ hd hkw hsz=>aI λ ys cg hys=>?_) (IK dz);subst e_ cg
 have hne:(m==sysModules)=false:=by
  rw [beq_eq_false_iff_ne]
  rintro rfl
  unfold iH at hsys
  cases ho:C.K.lookup sysModules with
  | none=>rw [ho] at hsys;exact lO hsys
  | some o'=>
   rw [ho] at hsys
   obtain rfl:=Vf (hf.symm.trans (R3.kK _ _ (.inl ho)))
   have hsys:(match o.data with | .dict es _=>Xf 1 es.size | _=>false)=true:=hsys
   rw [hd] at hsys
   exact absurd (VQ hsys) (hM.mpr (Wo hsz))
 refine cu m _ s2.toks rfl (dG hne rfl ⟨o,es,ep,R3.kF _ _ hf,hcl,hd,hkw⟩ (λ od hk hfr=>?_))
 have R4:Rel C F2 bZ st2 {s2 with heap:=s2.heap.push od}:=R2.keeps (λ b o e=>VA _ e) s2.toks
 have dx:=d1.mono l2 k2
 refine ⟨(ay F2 bZ l2 R4.kF (⟨λ b o e=>R4.kK b o (.inl e),dx⟩)),?_⟩
 exact SX F2 bZ _ x vs ys R4 dx d2 hys Q' E (λ F' ρ' e s' l k=>hQ F' ρ' e s' (l1.trans (l2.trans l)) (k1.trans (k2.trans k))) λ F' ρ' e s' l k=>hE F' ρ' e s' (l1.trans (l2.trans l)) (k1.trans (k2.trans k))
end
end
end
section
section
variable {C:Cx}{st:St}
theorem CD {M:Zn}{A:Wk}{E:Vg->Vh->Prop}{s:Vh}{H:Heap}{n:Str}{y:Vg}{Q:Unit->Vh->Prop}
  (h:∀ od tk,od.isFreed=false->od.cls=.type "dict"->(∃ hs t,od.data=.dict #[⟨hs,.str n t,y⟩] 1)->Q () {s with heap:=H.push od,toks:=tk}):wpAny M A (nsSet H.objs.size n y) Q E {s with heap:=H.push D0}:=λ Γ p _=>by
 have hd:(H.push D0).get? H.objs.size=some D0:=VL _ rfl
 simp only [nsSet,strHash,Sem.wp_bind',Sem.wp_cmd_ask,Sem.wp_pure',Sem.wp_cmd_mkText]
 rw [Sem.wp_loadPart_of M Γ (λ e _ s'=>E e s') p _ (o:=D0) _ hd]
 show WT M Γ (updatePart _ _ _) _ _ _ _
 rw [Sem.wp_cmd_updatePart]
 refine ⟨by rw [hd];rfl,?_⟩
 rw [yf]
 exact h _ _ rfl rfl (rD _ _ rfl)
theorem qo.kw {fd:WH}{args:List V}{ns:List Str}{kw:Str}{one:Option (Str×V)}{Q:List (Str×V)->St->Prop}(hlen:Vo ns.length args.length=true)
  (hb:∀ xs:List Vg,xs.length=args.length->∀ oy:Option (Str×Vg),oy.map (·.1)=one.map (·.1)->bindArgs fd ⟨xs,oy.toList⟩=(do
   let d <-alloc {cls:=.type "dict",data:=.dict #[]}
   for p in oy.toList do nsSet d p.1 p.2
   pure (ns.zip xs++[(kw,.ref d)])))
  (h:Q (ns.zip args++[(kw,Kc one)]) st):qo C fd args (one.toList.map (·.1)) (one.toList.map (·.2)) st Q:=λ A' F ρ s xs ys R ha hk Q' E hQ=>by
 have hl:ns.length=args.length:=uq.mp hlen
 have hl2:ns.length=xs.length:=by rw [hl,ha.length]
 have fin:∀ {F1:Fz}{d:Addr}{s1:Vh},aZ F F1->Rel C F1 ρ st s1->Den F1 ρ (Kc one) (.ref d)->Q' (ns.zip xs++[(kw,.ref d)]) s1:=λ l1 R1 hd=>by
  refine hQ _ ρ _ _ st _ l1 (bD.refl _) h R1 ?_ ?_
  ·rw [VI,VI,Zw (VK hl),Zw (VK hl2)];rfl
  ·rw [VI,VI,Zx (VK hl.symm),Zx (VK hl2.symm)]
   exact (ha.mono l1 (bD.refl _)).append (.cons hd .nil)
 induction one with
 | none=>
  cases hk
  have hb':=hb xs ha.length.symm none rfl
  show wpAny _ _ (bindArgs fd ⟨xs,[]⟩) _ _ _
  rw [show bindArgs fd ⟨xs,[]⟩=_ from hb']
  refine qA (λ l1 R1=>?_) (R.gI (o:=D0) rfl)
  exact Vc (ZI (Vc (Vj (Vj (fin l1 R1 (.ku (aX ..)))))))
 | some p=>
  refine ak (λ y zs e_ hy hz=>?_) hk.cons_inv;subst e_
  cases hz
  have hb':=hb xs ha.length.symm (some (p.1,y)) rfl
  show wpAny _ _ (bindArgs fd ⟨xs,[(p.1,y)]⟩) _ _ _
  rw [show bindArgs fd ⟨xs,[(p.1,y)]⟩=_ from hb']
  refine Vc (ZI (Vc ?_))
  show wpAny _ _ (forIn [(p.1,y)] XO _) _ _ _
  rw [Ww]
  refine Vc (Vc (CD λ od tk hfr hc hd=>Vj ?_))
  dsimp only
  rw [Xj]
  refine Vj (Vj ?_)
  refine D7 (λ hs t hd=>?_) hd
  refine qA (λ l1 R1=>?_) (R.gI (o:=od) hfr)
  exact fin l1 (R1.toks tk) (.kwd (aX ..) hc hd (hy.mono l1 (bD.refl _)))
end
end
section
theorem sN:entryFor table "dict_itemiterator.__iter__" = some fa.«dict_keyiterator.__iter__»:=
 entryFor_alias (id':="dict_keyiterator.__iter__") (by kernel_rfl) (by first | rfl | decide +kernel) (by decide +kernel) (by kernel_rfl)
theorem q8 {prog:Wi}{w:WK}{A:Wk}{E:Vg->Vh->Prop}{s:Vh}{it d:Addr}{i n ep:Nat}{ok ov:Vg}{Q:Vg->Vh->Prop}(he:IsItemIter s.heap it d i n ep ok ov)(h:Q (.ref it) s):wpAny (model prog w) A (pyIter (.ref it)) Q E s:=by
 have hT:s.TypeIs (.ref it) "dict_itemiterator":=⟨_,he,rfl⟩
 refine wpAny_pyIter_slot hT F.slot_dict_itemiterator_iter (XJ F.slot_dict_itemiterator_iter hT sN ?_ (F.args_dict_itemiterator_iter_1 _))
 show wpAny _ _ (ret (.ref it)) _ _ s
 exact Vj (aC _ rfl (ay ("dict_itemiterator") _ hT F.slot_dict_itemiterator_next.lookup h))
section
variable {C:Cx}{st:St}{X:XK}{d:Nat}
theorem yg {h:Heap}{m:Addr}{prog:Wi}{w:WK}(e:h.get? m=some {cls:=.type "dict",data:=.dict #[]}):h.DictAt (bp prog w) m [] 0:=
 ⟨_,_,e,⟨rfl,rfl,rfl⟩,rfl,λ e he=>by simp at he,.nil,eb⟩
theorem iB.zP (G:C.Good d) {y:Str}{yp apos pos:Pos}{tg:Expr->Prop}{Q:(St->Prop)->List V->List V->St->Prop} (hline:Vo apos.endLine pos.line=true) (hv:nameV C.env.scope.names C.K st.vars y=some .ku) (hdb:sB y "__debug__" = false)
  (hsys:iH C.K=true) (h:Q (λ _=>True) [.ku] [] st):iB C (eval (.Call (.Attribute (.Name y yp) "items" apos) [] [] pos) C.env) st tg Q X:=λ F ρ s R Q' E hQ hE=>by
 rw [bi,oj (o:=.Name y yp) rfl]
 refine Vc (sd G R hv hdb λ z hz=>?_)
 refine aI (λ m e_ hf=>?_) hz.rH;subst e_
 have hm:=R.kF _ _ hf
 have hT:s.TypeIs (.ref m) "dict":=⟨_,hm,rfl⟩
 have hne:(m==sysModules)=false:=by
  rw [beq_eq_false_iff_ne]
  rintro rfl
  unfold iH at hsys
  cases ho:C.K.lookup sysModules with
  | none=>rw [ho] at hsys;exact lO hsys
  | some o'=>
   rw [ho] at hsys
   obtain rfl:=Vf (hf.symm.trans (R.kK _ _ (.inl ho)))
   exact lO hsys
 refine Vc (Wb ?_)
 unfold methodCall
 rw [rt (args:=[]) (kws:=[]) rfl rfl rfl]
 refine Vc (Vu (Ze hT PySem.F.plainAttrs_dict PySem.F.slot_dict_items PySem.F.type_dict_items (λ a e=>Xb e▸(aC _ hm rfl)) ?_))
 refine Vc (Xn (vP hline) ?_)
 refine a7 (P:=λ _=>True) rfl (λ _ _=>aC .machine (.inr (.inl rfl)) (ZE rfl)) ?_
 refine fB (args:=[]) (kws:=[]) rfl rfl ?_
 refine ZM (X7 ⟨trivial,?_⟩)
 refine ik PySem.F.slot_dict_items hT PySem.F.entry_dict_items (PySem.F.args_dict_items_1 _) (meets_dict_items (bp C.prog C.w) m hne) ⟨⟨[],_,_,_,hm,⟨rfl,rfl,rfl⟩,rfl,λ e he=>by simp at he,.nil,eb⟩,?_⟩
 have hd1:=yg (prog:=C.prog) (w:=C.w) (VA {cls:=.type "dict_items",data:=.fields #[.ref m]} hm)
 refine wpAny_pyIter_items (knd:=bp C.prog C.w) (kvs:=[]) ⟨_,VL _ rfl,rfl,rfl⟩ hd1 ?_
 generalize hI:(s.heap.push {cls:=.type "dict_items",data:=.fields #[.ref m]}).objs.size=I
 have hlt:s.heap.objs.size<I:=by rw [<-hI,Xi];exact Wf _
 refine hQ F ρ _ [.ku] [.ref m] [] st I [I] (λ i h=>IsItemIter h I m 0 0 0 .none .none) s _ s.toks (aZ.refl _) (bD.refl _) h (.cons hz .nil) R ?_ ?_ (λ b o e=>VA _ (VA _ e)) ?_ ?_ trivial
 ·intro b hb
  obtain rfl:=Vi.mp hb
  exact WU (Vv hlt)
 ·simp only [Xi];exact Nat.le_succ_of_le (Xy _)
 ·exact {
   frame:=λ i h h' st hk=>hk I (Vi.mpr rfl) _ st
   live:=λ i h st b hb=>⟨_,Vi.mp hb▸st⟩
   turn:=λ _ _ _ _ _ _ _ _ hv=>aV hv
   done:=λ {C'} {A'} {F'} {ρ'} {st'} {s'} hp hw hh R' U hst dO ok Q2 E2 SY=>by
    refine ak (λ x1 _ e1 dx _=>?_) dO.cons_inv
    obtain rfl:=(Wu e1).1
    refine aI (λ m' e2 hf2=>?_) dx.rH
    obtain rfl:=Xb e2
    refine wpAny_pyNext_items_end (knd:=bp C.prog C.w) (kvs:=[]) hh hst (yg (R'.kF _ _ hf2)) rfl λ h' hk=>⟨rfl,SY _ ?_⟩
    exact R'.n8 (U I (Vi.mpr rfl)) hk s'.toks
   self:=λ A' i s' Q2 E2 hst h2=>q8 hst h2}
 ·rw [<-hI];exact VL _ rfl
end
end
section
noncomputable def kc (p:Int×Int):V:=.tup [.int p.1,.int p.2]
noncomputable def Np (p q:Int×Int):Bool:=bif p.1==q.1 then decide (p.2<q.2) else decide (p.1<q.1)
noncomputable def CE (b:Int×Int):List (Int×Int)->Int×Int
 | []=>b
 | p::r=>CE (bif Np p b then p else b) r
section
variable {prog:Wi}{w:WK}{A:Wk}{E:Vg->Vh->Prop}{s:Vh}{F:Fz}{ρ:Ky}
theorem sO {a b:Int}{t u:Tok}{Q:Bool->Vh->Prop}(h:Q (decide (a=b)) s):wpAny (model prog w) A (eqBool (.int a t) (.int b u)) Q E s:=
 (intKind prog w).eqBool (a:=a) (b:=b) (by simp [intKind,Xo]) (by simp [intKind,Xo]) h
theorem sP {a b:Int}{t u:Tok}{Q:Vg->Vh->Prop}(h:Q (.bool (decide (a<b))) s):wpAny (model prog w) A (richCompare .Lt (.int a t) (.int b u)) Q E s:=
 richCompare_gives (op:=.Lt) (gd s _ t) (gd s _ u) F.slot_int_lt F.entry_int_lt (F.args_int_lt_2 _ _) (gives_int_lt _ _ t u) (λ x=>nomatch x) h
theorem yh {a b:Addr}{p q:Int×Int}{t u t' u':Tok}{Q:Vg->Vh->Prop}(ha:s.heap.get? a=some (dN [.int p.1 t,.int p.2 u]))(hb:s.heap.get? b=some (dN [.int q.1 t',.int q.2 u']))(hu:A.units<cLine)
  (h:Q (.bool (Np p q)) s):wpAny (model prog w) A (richCompare .Lt (.ref a) (.ref b)) Q E s:=by
 have hTa:s.TypeIs (.ref a) "tuple":=⟨_,ha,rfl⟩
 have hTb:s.TypeIs (.ref b) "tuple":=⟨_,hb,rfl⟩
 refine wpAny_richCompare_same_room (op:=.Lt) hTa hTb F.slot_tuple_lt (XJ F.slot_tuple_lt hTa F.entry_tuple_lt ?_ (F.args_tuple_lt_2 _ _)) hu
 show wpAny _ _ (isInstance (.ref b) (.type "tuple") >>= _) _ _ s
 refine Vc (YQ hTb isSubtype_tuple_tuple ?_)
 rw [if_neg (show ¬ ((!true)=true) from Vp)]
 refine Vc (wpAny_tupleItemsOf ha rfl ?_)
 refine Vc (wpAny_tupleItemsOf hb rfl ?_)
 refine Vc ?_
 show wpAny _ _ (forIn [(Zy p.1 t,Zy q.1 t'),(Zy p.2 u,Zy q.2 u')] (none,()) _) _ _ _
 unfold Np at h
 rw [Ww]
 refine Vc (Vc (sO ?_))
 by_cases h1:p.1=q.1
 ·rw [beq_iff_eq.mpr h1] at h
  rw [decide_eq_true h1,if_neg (show ¬ ((!true)=true) from Vp)]
  refine Vj ?_
  dsimp only
  rw [Ww]
  refine Vc (Vc (sO ?_))
  by_cases h2:p.2=q.2
  ·rw [decide_eq_true h2,if_neg (show ¬ ((!true)=true) from Vp)]
   refine Vj ?_
   dsimp only
   rw [Xj]
   refine Vj (Vj (fu _ rfl (λ e=>(nomatch e)) ?_))
   rw [show decide (p.2<q.2)=false from decide_eq_false (by lia)] at h
   exact h
  ·rw [decide_eq_false h2,if_pos (show (!false)=true from rfl)]
   refine Vc (Yt (Vc (sP ?_)))
   exact Vc (Vj (Vj (Vj (Vj (fu _ rfl (λ e=>(nomatch e)) h)))))
 ·rw [beq_eq_false_iff_ne.mpr h1] at h
  rw [decide_eq_false h1,if_pos (show (!false)=true from rfl)]
  refine Vc (Yt (Vc (sP ?_)))
  exact Vc (Vj (Vj (Vj (Vj (fu _ rfl (λ e=>(nomatch e)) h)))))
theorem yi {p:Int×Int}{v:Vg}(h:Den F ρ (kc p) v):∃ a t u,v=.ref a/\F a=some (dN [.int p.1 t,.int p.2 u]):=by
 obtain ⟨a,xs,rfl,hf,hl⟩:=h.lQ
 obtain ⟨x,xr,rfl,hx,hr⟩:=hl.cons_inv
 obtain ⟨y,yr,rfl,hy,hr⟩:=hr.cons_inv
 obtain rfl:=hr.nil_inv
 obtain ⟨t,rfl⟩:=hx.int_inv
 obtain ⟨u,rfl⟩:=hy.int_inv
 exact cu a t u rfl hf
noncomputable abbrev Nq (v:Vg)(c:Nat):Obj:={cls:=.type "list",dict:=none,data:=.seq #[v,v] c,slots:=#[]}
theorem Ba {h h':Heap}{I:Addr}(hF:J5 F h)(hI:F I=none)(hk:∀ b o,b≠I->h.get? b=some o->h'.get? b=some o):J5 F h':=λ a o e=>hk a o (λ q=>by rw [q,hI] at e;exact aV e) (hF a o e)
theorem E6 {items:Array Vg}{I S l:Addr}(hh:A.handled=none)(hu:A.units+1<cLine)(S2:l≠I)(PK:l≠S)(hIS:I≠S)(S3:F I=none)(S4:F S=none){R:bc->Vh->Prop}:
  ∀ (ps:List (Int×Int)) (zs:List Vg) (i:Nat) (s:Vh) (best:Int×Int) (vb:Vg) (c:Nat),aF F ρ (ps.map kc) zs->items.toList.drop i=zs->s.heap.IsListIter I l i->s.heap.IsList l items->J5 F s.heap->
   Den F ρ (kc best) vb->s.heap.get? S=some (Nq vb c)->
   (∀ v h' tk,Den F ρ (kc (CE best ps)) v->(∀ b o,b≠I->b≠S->s.heap.get? b=some o->h'.get? b=some o)->R (.ok (.ret v)) {s with heap:=h',toks:=tk})->
   codeAny (model prog w) A (.builtin "min.loop" ⟨[.ref I,.none,.ref S],[]⟩) R s:=by
 have hname:(toString "min"++toString ".loop" : String) = "min.loop":=by decide
 intro ps
 induction ps with
 | nil=>
  intro zs i s best vb c hz hd hit hl hF hb hS hR
  have hz:=hz.nil_inv
  refine Y4 Zj ?_
  rw [Yb WY _]
  show wpAny _ A.in1 (seqItems? (.ref S) >>= _) _ _ s
  refine Vc (XN hS rfl ?_)
  show wpAny _ A.in1 (tryCatch (pyNext (.ref I)) _ >>= _) _ _ s
  refine Vc (Zi (wpAny_pyNext_list_end hh hit hl (by
   rw [hz] at hd
   have:=X8.mp hd
   rw [Array.getElem?_eq_none_iff];simpa using this) λ h' hk=>?_))
  have hS':=hk S _ (Ym hIS) hS
  show wpAny _ A.in1 (updateSeq S (λ _=>#[]) >>= _) _ _ _
  refine Vc ?_
  refine YC hS' rfl (Vc (ZH (Vj ?_)))
  exact hR vb _ _ hb λ b o h1 h2 e=>(V2 _ _ (Ym h2)).trans (hk b o h1 e)
 | cons p r ih=>
  intro zs i s best vb c hz hd hit hl hF hb hS hR
  refine ak (λ z zr e_ hp hr=>?_) (aF.cons_inv hz);subst e_
  refine fJ (λ hlt hv hd2=>?_) (drop_cons hd)
  refine Y4 Zj ?_
  rw [Yb WY _]
  show wpAny _ A.in1 (seqItems? (.ref S) >>= _) _ _ s
  refine Vc (XN hS rfl ?_)
  show wpAny _ A.in1 (tryCatch (pyNext (.ref I)) _ >>= _) _ _ s
  refine Vc (Zi (Yu hit hl (x:=z) (by simpa using hv) λ h' kU hs'=>?_))
  have hS':h'.get? S=some (Nq vb c):=(hs'.2 S (Ym hIS)).trans hS
  have OO:J5 F h':=Ba hF S3 λ b o hb e=>(hs'.2 b hb).trans e
  refine aU (λ a1 t1 u1 e1 f1=>?_) (yi hp)
  refine aU (λ a2 t2 u2 e2 f2=>?_) (yi hb)
  have hl':h'.IsList l items:=hl.at λ o e=>(hs'.2 l S2).trans e
  show wpAny _ A.in1 (tryCatch (holding [z,z] (richCompare .Lt z vb >>= _)) _ >>= _) _ _ _
  refine Vc (Zi (Vu (Vc ?_)))
  rw [e1,e2]
  refine yh (OO _ _ f1) (OO _ _ f2) hu ?_
  rw [<-e1,<-e2]
  refine Vc (Vu (a0 ?_))
  refine Vc (ZH (Vj ?_))
  have e3:CE best (p::r)=CE (bif Np p best then p else best) r:=rfl
  rw [e3] at hR
  cases Nr:Np p best with
  | true=>
   rw [Nr] at hR
   rw [if_pos rfl]
   refine Vc ?_
   refine YC hS' rfl (Vc (ZH ?_))
   rw [hname]
   refine Vj ⟨YX WY _,ih zr (i+1) _ p z _ hr hd2 (kU.at λ o e=>(V2 _ _ (Ym hIS)).trans e) (hl'.at λ o e=>(V2 _ _ (Ym PK)).trans e) (Ba OO S4 λ b o hb e=>(V2 _ _ (Ym hb)).trans e) hp (V7 _ hS' rfl) λ v h2 tk K7 hk=>?_⟩
   exact hR v h2 tk K7 λ b o h1 h3 e=>hk b o h1 h3 ((V2 _ _ (Ym h3)).trans ((hs'.2 b h1).trans e))
  | false=>
   rw [Nr] at hR
   rw [if_neg (by decide)]
   refine Vc (ZH ?_)
   rw [hname]
   refine Vj ⟨YX WY _,ih zr (i+1) _ best vb c hr hd2 kU hl' OO hb hS' λ v h2 tk K7 hk=>?_⟩
   exact hR v h2 tk K7 λ b o h1 h3 e=>hk b o h1 h3 ((hs'.2 b h1).trans e)
end
section
variable {C:Cx}{st:St}{X:XK}{d:Nat}
theorem CJ.CF (G:C.Good d) {v:V}{p:Int×Int}{ps:List (Int×Int)}{Q:QV} (hl:aE st v=some ((p::ps).map kc)) (h:Q (kc (CE p ps)) st):CJ C (.con (.builtin "min")) [v] [] [] st Q X:=
 CJ.eZ h λ F ρ s xs R ha Q' E hQ=>by
  apply ha.au;intro _ _ hv hn
  apply hn.aD
  refine aU (λ l ys ep e_=>qA λ hg hd=>?_) (bH R hv hl);subst e_
  refine ak (λ z zr e_ hp hr=>?_) (aF.cons_inv hd);subst e_
  have hu:C.A.units+1<cLine:=by have:=G.units;lia
  have hname:(toString "min"++toString ".loop" : String) = "min.loop":=by decide
  refine call_function_tree PySem.F.kind_min PySem.F.plain_min PySem.F.entry_min (PySem.F.args_min1 _) ?_
  show wpAny _ C.A.in1 (Builtin.Builtins.bindParams "min" ["key","default"] 0 ⟨[],[]⟩ >>= _) _ _ s
  refine Vc (Xn (show Builtin.Builtins.bindParams "min" ["key","default"] 0 ⟨[],[]⟩=pure [none,none] from rfl) ?_)
  refine Vc (Vj ?_)
  refine Vc (a8 ⟨_,hg,rfl,_,rfl⟩ ?_)
  refine Vc (Xh ?_)
  rw [hname]
  generalize hI:s.heap.objs.size=I
  generalize hH:(s.heap.push {cls:=.type "list_iterator",data:=.fields #[.ref l,.int 0 0]})=H
  have hS:H.objs.size=I+1:=by rw [<-hH,Xi,hI]
  generalize S5:H.objs.size=S at hS ⊢
  have wz:∀ a,I<=a->F a=none:=λ a ha=>by
   cases e:F a with
   | none=>rfl
   | some o=>have:=V1 (R.kF _ _ e);rw [hI] at this;exact absurd ha (hM.mpr this)
  have hlI:l<I:=hI▸V1 hg
  have keep:∀ o1 b o,s.heap.get? b=some o->(H.push o1).get? b=some o:=λ o1 b o e=>VA _ (hH▸VA _ e)
  have hit:∀ o1,(H.push o1).IsListIter I l 0:=λ o1=>⟨_,VA _ (by rw [<-hH,<-hI];exact VL _ rfl),rfl,rfl⟩
  refine Vj ⟨YX WY _,?_⟩
  refine Y4 Zj ?_
  rw [Yb WY _]
  have Nf:(H.push {cls:=.type "list",data:=.seq #[]}).get? S=some {cls:=.type "list",data:=.seq #[]}:=S5▸VL _ rfl
  show wpAny _ C.A.in1 (seqItems? (.ref S) >>= _) _ _ _
  refine Vc (XN Nf rfl ?_)
  show wpAny _ C.A.in1 (tryCatch (pyNext (.ref I)) _ >>= _) _ _ _
  refine Vc (Zi (Yu (hit _) ⟨_,keep _ _ _ hg,rfl,_,rfl⟩ (x:=z) rfl λ h' kU hs'=>?_))
  have hIS:I≠S:=λ e=>by rw [e] at hS;exact absurd hS (WE (Wf _))
  have hS':=(hs'.2 S (Ym hIS)).trans Nf
  show wpAny _ C.A.in1 (updateSeq S (λ _=>#[z,z]) >>= _) _ _ _
  refine Vc ?_
  refine YC hS' rfl ?_
  rw [hname]
  have ON:=Wt h' S (Wr λ _=>(#[z,z]:Array Vg))
  have kp:∀ b o,b≠I->b≠S->s.heap.get? b=some o->(h'.update S (Wr λ _=>(#[z,z]:Array Vg))).get? b=some o:=λ b o h1 h2 e=>(ON.2 b h2).trans ((hs'.2 b h1).trans (keep _ _ _ e))
  have hlS:l≠S:=λ e=>by rw [e,hS] at hlI;exact absurd hlI (ZZ.mpr (Xy _))
  refine Vj ⟨YX WY _,E6 (F:=F) (ρ:=ρ) (items:=(z::zr).toArray) (I:=I) (S:=S) (l:=l) G.handled hu (WE hlI) hlS hIS (wz I (VD _)) (wz S (hS▸Xy _)) ps zr 1 _ p z _ hr rfl (kU.at λ o e=>(ON.2 I hIS).trans e)
   ⟨_,kp _ _ (WE hlI) hlS hg,rfl,_,rfl⟩ (λ a o e=>kp a o (λ q=>by rw [q,wz I (VD _)] at e;exact aV e) (λ q=>by rw [q,wz S (hS▸Xy _)] at e;exact aV e) (R.kF _ _ e)) hp (V7 _ hS' rfl) λ v h2 tk K7 hk=>?_⟩
  refine hQ v h2 tk (λ b o e=>?_) K7
  have hb:=V1 e
  rw [hI] at hb
  have b1:=WE hb
  have b2:b≠S:=λ q=>by rw [q,hS] at hb;exact absurd hb (ZZ.mpr (Xy _))
  exact hk b o b1 b2 (kp b o b1 b2 e)
end
end
section
structure Th where
 K:Frag
 prog:Wi
 w:WK
structure On (C:Cx)(T:Th)(d:Nat)(N:List (Str×Vn)):Prop extends C.Good d where
 K:C.K=T.K
 prog:C.prog=T.prog
 w:C.w=T.w
 names:C.env.scope.names=N
section
variable {C:Cx}{T:Th}{d:Nat}{N:List (Str×Vn)}{st:St}{X:XK}{kb:Nat}
theorem On.keep (O:On C T d N){G₁:Fz}(h:Ext C G₁):On (C.keep G₁) T d N:={toGood:=O.toGood.keep h,K:=O.K,prog:=O.prog,w:=O.w,names:=O.names}
theorem On.comp (O:On C T d N){C':Cx}{scope:WM}(h:EH C C' scope d):On C' T d (qX N scope.names):=
 {toGood:=h.good,K:=h.K.trans O.K,prog:=h.prog.trans O.prog,w:=h.w.trans O.w,names:=by rw [h.names,O.names]}
theorem nameV_gl {K:Frag}{vars:List (Str×V)}{x:Str}{v:Vg}(hk:az N x=some .globalImplicit)(hg:gl K x=some v):nameV N K vars x=some (.con v):=by
 unfold nameV;rw [hk];show XE _ _=_;rw [hg];rfl
theorem On.name (O:On C T d N) {x:Str}{pos:Pos}{v:V}{Q:QV} (hv:nameV N T.K st.vars x=some v) (hd:sB x "__debug__" = false) (h:Q v st):EV C (eval (.Name x pos) C.env) st Q X:=
 EV.name O.toGood (by rw [O.names,O.K];exact hv) hd h
theorem On.call (O:On C T d N) {id:Str}{p pos:Pos}{args:List Expr}{kws:List Yl}{Q:QV}{f:V} (hv:nameV N T.K st.vars id=some f) (hd:sB id "__debug__" = false) (h:f9 C pos f [] args kws st Q X) :
  EV C (eval (.Call (.Name id p) args kws pos) C.env) st Q X:=EV.call (O.name hv hd h)
theorem On.compare (O:On C T d N){l r:Expr}{op:ka}{pos:Pos}{Q:QV}(hm:behindInMarks op r=false)
  (h:EV C (eval l C.env) st (λ a st1=>EV C (eval r C.env) st1 (λ b st2=>∃ p v,pO st2 op a b=some (p,v)/\p/\Q (.bool v) st2) X) X) :
  EV C (eval (.Compare l [op] [r] pos) C.env) st Q X:=EV.compare O.toGood hm h
theorem On.bcompare (O:On C T d N){l r:Expr}{op:ka}{pos:Pos}{Q:Bool->St->Prop}{whole:Sem Vg}(hm:behindInMarks op r=false)
  (h:EV C (eval l C.env) st (λ a st1=>EV C (eval r C.env) st1 (λ b st2=>∃ p v,pO st2 op a b=some (p,v)/\p/\Q v st2) X) X) :
  EB C (isTrue (.Compare l [op] [r] pos) C.env whole) st Q X:=EB.compare O.toGood hm h
theorem On.method (O:On C T d N){o:Expr}{name:Str}{apos pos:Pos}{args:List Expr}{kws:List Yl}{Q:QV}(hb:baseOk o=true)(hline:Vo apos.endLine pos.line=true)(hfew:xF args kws=true)
  (h:EV C (eval o C.env) st (λ a st1=>∃ f,j8 T.K st1 a name=some f/\f9 C pos (.con f) [a] args kws st1 Q X) X) :
  EV C (eval (.Call (.Attribute o name apos) args kws pos) C.env) st Q X:=EV.method hb hline hfew (h.mono λ v st1=>aI λ f a b=>aC f (by rw [O.K];exact a) b)
theorem On.attr (O:On C T d N){o:Expr}{name:Str}{pos:Pos}{Q:QV}(hb:baseOk o=true)(h:EV C (eval o C.env) st (λ a st1=>∃ v,m5 T.K st1 a name=some v/\Q v st1) X):EV C (eval (.Attribute o name pos) C.env) st Q X:=
 EV.attr hb (h.mono λ v st1=>aI λ f a b=>aC f (by rw [O.K];exact a) b)
theorem On.args (O:On C T d N){pos:Pos}{f:V}{first:List V}{args:List Expr}{kws:List Yl}{Q:QV}(hf:cX T.K f=true)(ha:bg args=true)(hk:jh kws=true)
  (h:EL C (spliced (backTo pos (starEach args C.env))) st (λ vs st1=>EL C (evalAll (f7 pos (pS kws) C.env)) st1 (λ ks st2=>CJ C f (first++vs) (jE kws) ks st2 Q X) X) X):f9 C pos f first args kws st Q X:=
 ⟨by rw [O.K];exact hf,ha,hk,h⟩
theorem On.aname (O:On C T d N){x:Str}{pos:Pos}{v:V}{Q:St->Prop}(hk:d8 N x=true)(h:Q (bK st x v)):AS C (VR (.Name x pos) C.env) v st Q X:=AS.name O.toGood (by rw [O.names];exact hk) h
theorem On.atuple (O:On C T d N){es:List Expr}{k:Nat}{pos:Pos}{vs:List V}{Q:St->Prop}(hp:bg es=true)(hl:Vo es.length vs.length=true)(h:ASL C (es.map λ t=>VR t C.env) vs st Q X):
  AS C (VR (.Tuple es k pos) C.env) (.tup vs) st Q X:=AS.tuple O.toGood hp hl h
theorem On.bind (O:On C T d N){x:Str}{v:V}{Q:St->Prop}(hk:d8 N x=true)(h:Q (bK st x v)):AS C (λ y=>bindName C.env x y) v st Q X:=AS.bind O.toGood (by rw [O.names];exact hk) h
theorem On.aattr (O:On C T d N){o:Expr}{name:Str}{pos:Pos}{v:V}{Q:St->Prop}
  (h:EV C (eval o C.env) st (λ ov st1=>∃ st2,jj T.K st1 ov name v=some st2/\Q st2) X):AS C (VR (.Attribute o name pos) C.env) v st Q X:=
 AS.attr (h.mono λ v st1=>aI λ f a b=>aC f (by rw [O.K];exact a) b)
theorem On.setitem (O:On C T d N){o i:Expr}{pos:Pos}{v:V}{Q:St->Prop}
  (h:EV C (eval o C.env) st (λ ov st1=>EV C (eval i C.env) st1 (λ iv st2=>∃ f,m8 T.K st2 ov "__setitem__" = some f/\CU C f [ov,iv,v] [] [] st2 (λ _ st3=>Q st3) X) X) X):AS C (VR (.Subscript o i pos) C.env) v st Q X:=
 AS.setitem (h.mono λ v st1 q=>q.mono λ v st1=>aI λ f a b=>aC f (by rw [O.K];exact a) b)
theorem On.delitem (O:On C T d N){o i:Expr}{p pos:Pos}{Q:Fl->St->Prop}
  (h:EV C (eval o C.env) st (λ ov st1=>EV C (eval i C.env) st1 (λ iv st2=>∃ f,m8 T.K st2 ov "__delitem__" = some f/\CU C f [ov,iv] [] [] st2 (λ _ st3=>Q .next st3) X) X) X):ES C kb (exec (.Delete [.Subscript o i p] pos) C.env) st Q X:=
 ES.delitem (h.mono λ v st1 q=>q.mono λ v st1=>aI λ f a b=>aC f (by rw [O.K];exact a) b)
theorem On.expr (O:On C T d N){e:Expr}{pos:Pos}{Q:Fl->St->Prop}(hc:gO e=false)(h:EV C (eval e C.env) st (λ v st1=>Q .next st1) X):ES C kb (exec (.Expr e pos) C.env) st Q X:=ES.expr O.toGood hc h
theorem On.assign (O:On C T d N){t value:Expr}{pos:Pos}{Q:Fl->St->Prop}(hs:notStar t=true)(hc:gO value=false)(hw:j9 N [t] value=some none)
  (h:EV C (eval value C.env) st (λ v st1=>AS C (VR t C.env) v st1 (λ st2=>Q .next st2) X) X):ES C kb (exec (.Assign [t] value pos) C.env) st Q X:=ES.assign O.toGood hs hc (by rw [O.names];exact hw) h
theorem On.fC (O:On C T d N){t value:Expr}{pos:Pos}{ns:List Str}{Q:Fl->St->Prop}(hc:gO value=false)(hw:j9 N [t] value=some (some ns))
  (h:EV C (eval value C.env) st (λ v st1=>∃ vs,v=.tup vs/\Vo vs.length ns.length=true/\ASL C (rT C.env ns) vs.reverse st1 (λ st2=>Q .next st2) X) X):ES C kb (exec (.Assign [t] value pos) C.env) st Q X:=
 ES.fC O.toGood hc (by rw [O.names];exact hw) h
theorem On.aug_name (O:On C T d N){x:Str}{p:Pos}{op:X0}{e:Expr}{pos:Pos}{o:V}{Q:Fl->St->Prop}(hk:d8 N x=true)(ho:nameV N T.K st.vars x=some o)
  (h:EV C (eval e C.env) st (λ b st2=>∃ pr v,KU op o b=some (pr,v)/\pr/\Q .next (bK st2 x v)) X):ES C kb (exec (.AugAssign (.Name x p) op e pos) C.env) st Q X:=
 ES.aug_name O.toGood (by rw [O.names];exact hk) (by rw [O.names,O.K];exact ho) h
theorem On.assignQ (O:On C T d N){t value:Expr}{pos:Pos}{Q:Fl->St->Prop}(hs:notStar t=true)(hc:ou N t value=false)(hw:j9 N [t] value=some none)
  (h:EV C (eval value C.env) st (λ v st1=>AS C (VR t C.env) v st1 (λ st2=>Q .next st2) X) X):ES C kb (exec (.Assign [t] value pos) C.env) st Q X:=
 ES.assignQ O.toGood hs (by rw [O.names];exact hc) (by rw [O.names];exact hw) h
theorem On.listcomp (O:On C T d N){elt target iter:Expr}{ifs:List Expr}{scope:WM}{pos:Pos}{Q:QV}(hok:bX N scope=true)(hset:aG iter=true)
  (h:EV C (eval iter C.env) st (λ src st1=>∃ p l,itemsOf st1 src=some (p,l)/\p/\l.length<=sizeLine/\LW C scope d target elt ifs src (iY st1.vars scope.names) l (λ acc h=>Q (.lst acc) ⟨st1.vars,h⟩) l [] st1.heap) X) :
  EV C (eval (.ListComp elt [⟨target,iter,ifs,0⟩] scope pos) C.env) st Q X:=EV.listcomp O.toGood (by rw [O.names];exact hok) hset h
theorem On.oJ (O:On C T d N)(own:Bool){elt target iter:Expr}{ifs:List Expr}{scope:WM}{y:Str}{py pos spos:Pos}{Q:Fl->St->Prop}{tg:Expr->Prop}(hok:bX N scope=true)(hset:aG iter=true)(kq:tg target)
  (hsw:ou N (.Name y py) (.ListComp elt [⟨target,iter,ifs,0⟩] scope pos)=true)
  (h:iB C (eval iter C.env) st tg (λ bF bT l st1=>l.length<=sizeLine/\sr C scope d target elt ifs bF (iY st1.vars scope.names) (λ acc h=>
   br own (Q .next (bK (pP ⟨st1.vars,h⟩ acc) y (.loc (fresh h)))) (Q .next (bK ⟨st1.vars,h⟩ y (.lst acc)))) l [] st1.heap) X) :
  ES C kb (exec (.Assign [.Name y py] (.ListComp elt [⟨target,iter,ifs,0⟩] scope pos) spos) C.env) st Q X:=
 ES.assign_comp O.toGood own (by rw [O.names];exact hok) hset kq (by rw [O.names];exact hsw) h
theorem On.assign_comp (O:On C T d N)(own:Bool){elt target iter:Expr}{ifs:List Expr}{scope:WM}{y:Str}{py pos spos:Pos}{Q:Fl->St->Prop}(hok:bX N scope=true)(hset:aG iter=true)
  (hsw:ou N (.Name y py) (.ListComp elt [⟨target,iter,ifs,0⟩] scope pos)=true)
  (h:EV C (eval iter C.env) st (λ src st1=>∃ p l,itemsOf st1 src=some (p,l)/\p/\l.length<=sizeLine/\LW C scope d target elt ifs src (iY st1.vars scope.names) l (λ acc h=>
   br own (Q .next (bK (pP ⟨st1.vars,h⟩ acc) y (.loc (fresh h)))) (Q .next (bK ⟨st1.vars,h⟩ y (.lst acc)))) l [] st1.heap) X) :
  ES C kb (exec (.Assign [.Name y py] (.ListComp elt [⟨target,iter,ifs,0⟩] scope pos) spos) C.env) st Q X:=O.oJ own hok hset trivial hsw (iB.ev h)
theorem On.jH (O:On C T d N)(own:Bool){elt t1 uW t2 m7:Expr}{scope:WM}{y:Str}{py pos spos:Pos}{Q:Fl->St->Prop}{tg Mr:Expr->Prop}(hok:bX N scope=true)(hset:aG uW=true)(EW:aG m7=true)(kq:tg t1)(K6:Mr t2)
  (hsw:ou N (.Name y py) (.ListComp elt [⟨t1,uW,[],0⟩,⟨t2,m7,[],0⟩] scope pos)=true)
  (h:iB C (eval uW C.env) st tg (λ bF bT l st1=>v5 C scope d t1 t2 m7 elt Mr bF (iY st1.vars scope.names) (λ acc h=>
   br own (Q .next (bK (pP ⟨st1.vars,h⟩ acc) y (.loc (fresh h)))) (Q .next (bK ⟨st1.vars,h⟩ y (.lst acc)))) l [] st1.heap) X):ES C kb (exec (.Assign [.Name y py] (.ListComp elt [⟨t1,uW,[],0⟩,⟨t2,m7,[],0⟩] scope pos) spos) C.env) st Q X:=
 ES.jH O.toGood own (by rw [O.names];exact hok) hset EW kq K6 (by rw [O.names];exact hsw) h
theorem On.zP (O:On C T d N) {y:Str}{yp apos pos:Pos}{tg:Expr->Prop}{Q:(St->Prop)->List V->List V->St->Prop} (hline:Vo apos.endLine pos.line=true) (hv:nameV N T.K st.vars y=some .ku) (hdb:sB y "__debug__" = false)
  (hsys:iH T.K=true) (h:Q (λ _=>True) [.ku] [] st):iB C (eval (.Call (.Attribute (.Name y yp) "items" apos) [] [] pos) C.env) st tg Q X:=iB.zP O.toGood hline (by rw [O.names,O.K];exact hv) hdb (by rw [O.K];exact hsys) h
theorem On.Kd (O:On C T d N) {id y:Str}{p yp pos kp:Pos}{args:List Expr}{Q:QV} (ha:bg args=true) (hsys:iH T.K=true) (hdb:sB y "__debug__" = false) {f:V} (hf:nameV N T.K st.vars id=some f) (hfd:sB id "__debug__" = false) (hc:cX T.K f=true)
  (h:EL C (spliced (backTo pos (starEach args C.env))) st (λ vs st2=>∃ one,nameV N T.K st2.vars y=some (Kc one)/\CJ C f vs (one.toList.map (·.1)) (one.toList.map (·.2)) st2 Q X) X) :
  EV C (eval (.Call (.Name id p) args [⟨We,.Name y yp,kp⟩] pos) C.env) st Q X:=
 EV.zO O.toGood ha (by rw [O.K];exact hsys) hdb (O.name hf hfd ⟨by rw [O.K];exact hc,h.mono λ vs st2=>aI λ one a b=>aC one (by rw [O.names,O.K];exact a) b⟩)
theorem On.lam (O:On C T d N)(B:EX T.K){c kp:Nat}{params:i5}{body:Expr}{scope:WM}{pos:Pos}{Q:QV}(hcode:C.env.code=.ref c)(hk:J st.heap kp=some (.qj c kp))
  (hd:PySem.defaultsOf params C.env=([],[])) (hfr:freeOk N scope.names=true)
  (h:∀ fd:WH,fd.params=params->fd.body=.expr body->fd.scope=scope->fd.globals=mainGlobals->fd.builtins=builtinsNs->fd.closure=cM C.env scope.names->fd.defaults=.none->fd.kwdefaults=.none->Q (.lam fd) st) :
  EV C (eval (.Lambda params body scope pos) C.env) st Q X:=EV.lam O.toGood (by rw [O.K];exact B) hcode hk hd (by rw [O.names];exact hfr) h
theorem On.tuple_list (O:On C T d N){es:List Expr}{k:Nat}{pos:Pos}{v:V}{vs:List V}{Q:St->Prop}(hs:aE st v=some vs)(hp:bg es=true)(hl:Vo es.length vs.length=true)(h:ASL C (es.map λ t=>VR t C.env) vs st Q X):
  AS C (VR (.Tuple es k pos) C.env) v st Q X:=AS.tuple_list O.toGood hs hp hl h
theorem On.enum (O:On C T d N) {id:Str}{p pos:Pos}{e:Expr}{Q:(St->Prop)->List V->List V->St->Prop} (hv:nameV N T.K st.vars id=some (.con (.type "enumerate"))) (hd:sB id "__debug__" = false) (hs:notStar e=true)
  (h:EV C (eval e C.env) st (λ src st1=>∃ l,aE st1 src=some l/\Q (λ st=>aE st src=some l) [src] (oq l) st1) X):iB C (eval (.Call (.Name id p) [e] [] pos) C.env) st rZ Q X:=iB.enum O.toGood (by rw [O.names,O.K];exact hv) hd hs h
theorem On.zip (O:On C T d N) {id:Str}{p pos:Pos}{e f:Expr}{Q:(St->Prop)->List V->List V->St->Prop} (hv:nameV N T.K st.vars id=some (.con (.type "zip"))) (hd:sB id "__debug__" = false) (hs:notStar e=true) (hs2:notStar f=true)
  (h:EV C (eval e C.env) st (λ s1 st1=>EV C (eval f C.env) st1 (λ s2 st2=>∃ l m,aE st2 s1=some l/\aE st2 s2=some m/\Q (λ st=>aE st s1=some l/\aE st s2=some m) [s1,s2] (r9 l m) st2) X) X):iB C (eval (.Call (.Name id p) [e,f] [] pos) C.env) st rZ Q X:=iB.zip O.toGood (by rw [O.names,O.K];exact hv) hd hs hs2 h
theorem On.rY (O:On C T d N) (Tp:C.Top) {body:List Stmt}{E x:Str}{p1 p2 p3 hpos pos:Pos}{Q:Fl->St->Prop} (hT:az N E=some .globalImplicit/\gl T.K E=some (.type "StopIteration")/\sB E "__debug__" = false) (hd:sB x "__debug__" = false)
  (h:ES C kb (execs body C.env) st Q (λ cls _ st1=>cls = "StopIteration"/\∃ v,nameV N T.K st1.vars x=some v/\Q (.ret v) st1)) :
  ES C kb (exec (.Try body [.ExceptHandler (some (.Name E p1)) none [.Return (some (.Name x p2)) p3] hpos] [] [] pos) C.env) st Q X:=
 ES.rY O.toGood Tp (by rw [O.names,O.K];exact hT) hd (by rw [O.names,O.K];exact h)
theorem On.Ew (O:On C T d N)(Tp:C.Top){target iter:Expr}{body:List Stmt}{pos:Pos}{Q:Fl->St->Prop}{tg:Expr->Prop}(hset:aG iter=true)(kq:tg target)
  (h:iB C (eval iter C.env) st tg (λ bF bT l st1=>∃ kb',kb<=kb'/\rU kb' bT/\xP C kb' target body bF Q X l st1) X):ES C kb (exec (.For target iter body [] pos) C.env) st Q X:=ES.Ew O.toGood Tp hset kq h
theorem On.while (O:On C T d N)(Tp:C.Top)(n:Nat){test:Expr}{body:List Stmt}{pos:Pos}{Q:Fl->St->Prop}(h:DY C kb test body Q X n st):ES C kb (exec (.While test body [] pos) C.env) st Q X:=ES.while O.toGood Tp n h
theorem br_t {b:Bool}{p q:Prop}(hb:b=true)(h:p):br b p q:=⟨λ _=>h,λ e=>absurd (hb.symm.trans e) (by decide)⟩
theorem br_f {b:Bool}{p q:Prop}(hb:b=false)(h:q):br b p q:=⟨λ e=>absurd (hb.symm.trans e) (by decide),λ _=>h⟩
end
noncomputable def fdOf (S:Stmt)(q:Str)(pm cd doc ct dV kV:Vg):WH:=match S with
 | .FunctionDef n a b _ _ _ s _ _ _=>{name:=n,qualname:=q,params:=a,body:=.stmts b,scope:=s,globals:=mainGlobals,closure:=[],defaults:=dV,kwdefaults:=kV,doc:=doc,pyModule:=pm,code:=cd,closureTuple:=ct,builtins:=builtinsNs}
 | _=>default
noncomputable def bodyOf:Stmt->List Stmt
 | .FunctionDef _ _ b _ _ _ _ _ _ _=>b
 | _=>[]
noncomputable def aO:Stmt->WM
 | .FunctionDef _ _ _ _ _ _ s _ _ _=>s
 | _=>default
structure oK (K:Frag)(f:Addr)(S:Stmt)(dV kV:Vg):Prop where
 ex:∃ q pm cd doc ct,FnAt K f (fdOf S q pm cd doc ct dV kV) (bodyOf S)/\(fdOf S q pm cd doc ct dV kV).scope=aO S
noncomputable def CG (N:List (Str×Vn))(x:Str):Bool:=match az N x with
 | some .local=>true
 | some .cell=>true
 | _=>false
theorem Bb {N:List (Str×Vn)}{x:Str}(h:CG N x=true):N.lookup x=some .local\/N.lookup x=some .cell:=by
 unfold CG at h
 rw [bA] at h
 cases e:N.lookup x with
 | none=>rw [e] at h;exact lO h
 | some k=>
  rw [e] at h
  induction k with
  | «local»=>exact .inl rfl
  | cell=>exact .inr rfl
  | _=>exact lO h
section
variable {C:Cx}{T:Th}{d:Nat}{N:List (Str×Vn)}{st:St}{X:XK}{kb:Nat}
noncomputable def codeIn (K:Frag)(f:Addr):Option Vg:=(K.lookup f).bind λ o=>match o.data with
 | .func fd=>some fd.code
 | _=>none
noncomputable def zQ (C C':Cx)(vars:List (Str×V)):Prop:=∀ x c v,C.env.cells.lookup x=some c->az vars x=some v->xO C' c v
theorem On.Ke (O:On C T (d+1) N){f:Addr}{S:Stmt}{dV kV:Vg}(H:oK T.K f S dV kV){args kvs kj:List V}{ks:List Str}{cs:List Vg}(bv:List (Str×V)){Q:QV}
  (hc:∀ F ρ,aF F ρ kj cs) (hlen:Vo bv.length (args.length+kvs.length+kj.length)=true) (hbv:(bv.map (·.1)).zip (args++kvs++kj)=bv)
  (hb:∀ q pm cd doc ct,∀ xs ys:List Vg,xs.length=args.length->ys.length=kvs.length->peek T.K ⟨T.prog,T.w.params⟩ (bindArgs (fdOf S q pm cd doc ct dV kV) ⟨xs,ks.zip ys⟩)=some ((bv.map (·.1)).zip (xs++ys++cs)))
  (ha:gM (bv.map (·.1))=true) (hk:(bv.map (·.1)).all (CG (aO S).names)=true)
  (h:∀ C':Cx,On C' T d (aO S).names->C'.Top->(∀ cd,codeIn T.K f=some cd->C'.env.code=cd)->zQ C C' st.vars->ES C' (fresh st.heap) (execs (bodyOf S) C'.env) ⟨bv,st.heap⟩ (λ fl st2=>vU (λ v=>Q v ⟨st.vars,st2.heap⟩) fl) (λ c a st2=>X c a ⟨st.vars,st2.heap⟩)) :
  CU C f args ks kvs st Q X:=by
 refine bG (λ q pm cd doc=>aI λ ct FA hsc=>?_) H.ex
 refine CU.user O.toGood (by rw [O.K];exact FA) (qo.Si (kj:=kj) (cs:=cs) (ns:=bv.map (·.1)) hc (by rw [Vl];exact hlen) (λ xs ys h1 h2=>by rw [O.K,O.prog,O.w];exact hb q pm cd doc ct xs ys h1 h2) ?_)
 rw [hbv]
 refine bY ha (λ x hx=>?_) (λ C' G' T' k1 k2 k3 k4 k5 k6=>?_)
 ·rw [hsc]
  exact Bb (Wg.mp hk _ (WW.mpr (aC x hx rfl)))
 ·refine h C' {toGood:=G',K:=k1.trans O.K,prog:=k2.trans O.prog,w:=k3.trans O.w,names:=by rw [k4,hsc]} T' (λ US e=>?_) k6
  refine aI (λ o h1 h2=>?_) FA.here
  unfold codeIn at e
  rw [h1,Option.bind_some,h2] at e
  exact k5.trans (Vf e)
theorem On.func (O:On C T (d+1) N){f:Addr}{S:Stmt}{dV kV:Vg}(H:oK T.K f S dV kV){args kvs kj:List V}{ks:List Str}{cs:List Vg}(bv:List (Str×V)){Q:QV}
  (hc:∀ F ρ,aF F ρ kj cs) (hlen:Vo bv.length (args.length+kvs.length+kj.length)=true) (hbv:(bv.map (·.1)).zip (args++kvs++kj)=bv)
  (hb:∀ q pm cd doc ct,∀ xs ys:List Vg,xs.length=args.length->ys.length=kvs.length->peek T.K ⟨T.prog,T.w.params⟩ (bindArgs (fdOf S q pm cd doc ct dV kV) ⟨xs,ks.zip ys⟩)=some ((bv.map (·.1)).zip (xs++ys++cs)))
  (ha:gM (bv.map (·.1))=true) (hk:(bv.map (·.1)).all (CG (aO S).names)=true)
  (h:∀ C':Cx,On C' T d (aO S).names->C'.Top->ES C' (fresh st.heap) (execs (bodyOf S) C'.env) ⟨bv,st.heap⟩ (λ fl st2=>vU (λ v=>Q v ⟨st.vars,st2.heap⟩) fl) (λ c a st2=>X c a ⟨st.vars,st2.heap⟩)) :
  CU C f args ks kvs st Q X:=O.Ke H bv hc hlen hbv hb ha hk λ C' O' T' _ _=>h C' O' T'
theorem On.swap2 (O:On C T d N){t value:Expr}{pos:Pos}{a b:Str}{Q:Fl->St->Prop}(hc:gO value=false)(hw:j9 N [t] value=some (some [a,b]))(ha:d8 N a=true)(hb:d8 N b=true)
  (h:EV C (eval value C.env) st (λ v st1=>∃ x y,v=.tup [x,y]/\Q .next (bK (bK st1 b y) a x)) X):ES C kb (exec (.Assign [t] value pos) C.env) st Q X:=
 O.fC hc hw (h.mono λ v st1=>dM λ x y e q=>fu [x,y] e rfl (ASL.cons (O.bind hb (ASL.cons (O.bind ha (ASL.nil q))))))
theorem On.Kf (O:On C T (d+1) N){f:Addr}{S:Stmt}{dV kV:Vg}(H:oK T.K f S dV kV){args:List V}(bv:List (Str×V))(kw:Str)(one:Option (Str×V)){Q:QV}
  (hlen:Vo bv.length args.length=true) (hbv:(bv.map (·.1)).zip args=bv)
  (hb:∀ q pm cd doc ct,∀ xs:List Vg,xs.length=args.length->∀ oy:Option (Str×Vg),oy.map (·.1)=one.map (·.1)->bindArgs (fdOf S q pm cd doc ct dV kV) ⟨xs,oy.toList⟩=(do
   let d <-alloc {cls:=.type "dict",data:=.dict #[]}
   for p in oy.toList do nsSet d p.1 p.2
   pure ((bv.map (·.1)).zip xs++[(kw,.ref d)])))
  (ha:gM (bv.map (·.1)++[kw])=true) (hk:(bv.map (·.1)++[kw]).all (CG (aO S).names)=true)
  (h:∀ C':Cx,On C' T d (aO S).names->C'.Top->zQ C C' st.vars->ES C' (fresh st.heap) (execs (bodyOf S) C'.env) ⟨bv++[(kw,Kc one)],st.heap⟩ (λ fl st2=>vU (λ v=>Q v ⟨st.vars,st2.heap⟩) fl) (λ c a st2=>X c a ⟨st.vars,st2.heap⟩)) :
  CU C f args (one.toList.map (·.1)) (one.toList.map (·.2)) st Q X:=by
 refine bG (λ q pm cd doc=>aI λ ct FA hsc=>?_) H.ex
 refine CU.user O.toGood (by rw [O.K];exact FA) (qo.kw (ns:=bv.map (·.1)) (kw:=kw) (by rw [Vl];exact hlen) (λ xs h1=>hb q pm cd doc ct xs h1) ?_)
 rw [hbv]
 have hm:(bv++[(kw,Kc one)]).map (·.1)=bv.map (·.1)++[kw]:=by rw [VI];rfl
 refine bY (by rw [hm];exact ha) (λ x hx=>?_) (λ C' G' T' k1 k2 k3 k4 _ k6=>?_)
 ·rw [hsc]
  have:x.1∈(bv++[(kw,Kc one)]).map (·.1):=WW.mpr (aC x hx rfl)
  rw [hm] at this
  exact Bb (Wg.mp hk _ this)
 ·exact h C' {toGood:=G',K:=k1.trans O.K,prog:=k2.trans O.prog,w:=k3.trans O.w,names:=by rw [k4,hsc]} T' k6
theorem On.Nt (O:On C T (d+1) N){f:Addr}{S:Stmt}{dV kV:Vg}(H:oK T.K f S dV kV){args:List V}(bv:List (Str×V))(kw:Str){Q:QV}
  (hlen:Vo bv.length args.length=true) (hbv:(bv.map (·.1)).zip args=bv)
  (hb:∀ q pm cd doc ct,∀ xs:List Vg,xs.length=args.length->bindArgs (fdOf S q pm cd doc ct dV kV) ⟨xs,[]⟩=(do let d <-alloc {cls:=.type "dict",data:=.dict #[]};pure ((bv.map (·.1)).zip xs++[(kw,.ref d)])))
  (ha:gM (bv.map (·.1)++[kw])=true) (hk:(bv.map (·.1)++[kw]).all (CG (aO S).names)=true)
  (h:∀ C':Cx,On C' T d (aO S).names->C'.Top->zQ C C' st.vars->ES C' (fresh st.heap) (execs (bodyOf S) C'.env) ⟨bv++[(kw,.ku)],st.heap⟩ (λ fl st2=>vU (λ v=>Q v ⟨st.vars,st2.heap⟩) fl) (λ c a st2=>X c a ⟨st.vars,st2.heap⟩)) :
  CU C f args [] [] st Q X:=O.Kf H bv kw none hlen hbv (λ q pm cd doc ct xs h1 oy ho=>by
   induction oy with
   | none=>exact hb q pm cd doc ct xs h1
   | some p=>exact nomatch ho) ha hk h
theorem EL.Rl {pos:Pos}{vs:List V}{f:V}{Q:QV}(h:CJ C f vs [] [] st Q X):EL C (evalAll (f7 pos (pS []) C.env)) st (λ ks st2=>CJ C f vs (jE []) ks st2 Q X) X:=EL.vals_nil h
theorem On.call0 (O:On C T d N) {id:Str}{p pos:Pos}{args:List Expr}{Q:QV}{f:V} (hv:nameV N T.K st.vars id=some f) (hd:sB id "__debug__" = false) (hf:cX T.K f=true) (ha:bg args=true)
  (h:EL C (spliced (backTo pos (starEach args C.env))) st (λ vs st1=>CJ C f vs [] [] st1 Q X) X) :
  EV C (eval (.Call (.Name id p) args [] pos) C.env) st Q X:=O.call hv hd (O.args hf ha rfl (h.mono λ vs st1 q=>EL.vals_nil q))
theorem On.call1 (O:On C T d N) {id n:Str}{p pos kp:Pos}{args:List Expr}{e:Expr}{Q:QV}{f:V} (hv:nameV N T.K st.vars id=some f) (hd:sB id "__debug__" = false) (hf:cX T.K f=true) (ha:bg args=true)
  (h:EL C (spliced (backTo pos (starEach args C.env))) st (λ vs st1=>EV C (eval e C.env) st1 (λ k st2=>CJ C f vs [n] [k] st2 Q X) X) X) :
  EV C (eval (.Call (.Name id p) args [⟨some n,e,kp⟩] pos) C.env) st Q X:=O.call hv hd (O.args hf ha rfl (h.mono λ vs st1 q=>EL.vals_cons (q.mono λ k st2 r=>EL.vals_nil r)))
theorem On.method0 (O:On C T d N){o:Expr}{name:Str}{apos pos:Pos}{args:List Expr}{Q:QV}(hb:baseOk o=true)(hline:Vo apos.endLine pos.line=true)(hfew:xF args []=true)(ha:bg args=true)
  (h:EV C (eval o C.env) st (λ a st1=>∃ f,j8 T.K st1 a name=some f/\cX T.K (.con f)=true/\EL C (spliced (backTo pos (starEach args C.env))) st1 (λ vs st1=>CJ C (.con f) (a::vs) [] [] st1 Q X) X) X) :
  EV C (eval (.Call (.Attribute o name apos) args [] pos) C.env) st Q X:=O.method hb hline hfew (h.mono λ v st1=>fq λ f a b c=>aC f a (O.args b ha rfl (c.mono λ vs st1 q=>EL.vals_nil q)))
theorem On.method1 (O:On C T d N){o e:Expr}{name n:Str}{apos pos kp:Pos}{args:List Expr}{Q:QV}(hb:baseOk o=true)(hline:Vo apos.endLine pos.line=true)(hfew:xF args [⟨some n,e,kp⟩]=true)(ha:bg args=true)
  (h:EV C (eval o C.env) st (λ a st1=>∃ f,j8 T.K st1 a name=some f/\cX T.K (.con f)=true/\EL C (spliced (backTo pos (starEach args C.env))) st1 (λ vs st1=>EV C (eval e C.env) st1 (λ k st2=>CJ C (.con f) (a::vs) [n] [k] st2 Q X) X) X) X) :
  EV C (eval (.Call (.Attribute o name apos) args [⟨some n,e,kp⟩] pos) C.env) st Q X:=O.method hb hline hfew (h.mono λ v st1=>fq λ f a b c=>aC f a (O.args b ha rfl (c.mono λ vs st1 q=>EL.vals_cons (q.mono λ k st2 r=>EL.vals_nil r))))
theorem nextThen {p q:Prop}(h:p):rS p q .next:=h
theorem nextThen_ret {p q:Prop}{v:V}(h:q):rS p q (.ret v):=h
theorem retQ {q:V->Prop}{v:V}(h:q v):vU q (.ret v):=h
theorem retQ_next {q:V->Prop}(h:q .none):vU q .next:=h
theorem loop_next {q b:Prop}{r:V->Prop}(h:q):eE q b r .next:=h
theorem loop_ret {q b:Prop}{r:V->Prop}{v:V}(h:r v):eE q b r (.ret v):=h
end
theorem len0 {xs:List Vg}{P:List Vg->Prop}(e:xs.length=0)(k:P []):P xs:=List.eq_nil_of_length_eq_zero e▸k
theorem zR {xs:List Vg}{n:Nat}{P:List Vg->Prop}(e:xs.length=n+1)(k:∀ a l,l.length=n->P (a::l)):P xs:=by
 induction xs using VY with
 | nil=>exact nomatch e
 | cons a l=>exact k a l (il e)
theorem p8 {P:List Vg->Prop}(h:∀ a b,P [a,b])(xs:List Vg)(e:xs.length=2):P xs:=zR e λ a _ e=>zR (P:=λ l=>P (a::l)) e λ b _ e=>len0 (P:=λ l=>P (a::b::l)) e (h a b)
theorem args1 {P:List Vg->List Vg->Prop}(h:∀ a,P [a] [])(xs ys:List Vg)(e:xs.length=1)(q:ys.length=0):P xs ys:=len0 q (zR (P:=λ xs=>P xs []) e λ a _ e=>len0 (P:=λ l=>P (a::l) []) e (h a))
theorem args2 {P:List Vg->List Vg->Prop}(h:∀ a b,P [a,b] [])(xs ys:List Vg)(e:xs.length=2)(q:ys.length=0):P xs ys:=len0 q (p8 (P:=λ xs=>P xs []) h xs e)
theorem E7 {P:List Vg->List Vg->Prop}(h:∀ a b c,P [a,b] [c])(xs ys:List Vg)(e:xs.length=2)(q:ys.length=1):P xs ys:=zR q λ c _ q=>len0 (P:=λ l=>P xs (c::l)) q (p8 (P:=λ xs=>P xs [c]) (λ a b=>h a b c) xs e)
theorem Bc {P:List Vg->List Vg->Prop}(h:∀ a b c,P [a,b,c] [])(xs ys:List Vg)(e:xs.length=3)(q:ys.length=0):P xs ys:=len0 q (zR (P:=λ xs=>P xs []) e λ a l e=>p8 (P:=λ l=>P (a::l) []) (h a) l e)
end
section
noncomputable def jl (T:Th)(d:Nat)(N:List (Str×Vn))(kb:Nat)(target:Expr)(body:List Stmt)(bF:St->Prop)(Q:Fl->St->Prop)(X:XK):List V->St->Prop
 | [],st=>bF st/\Q .next st
 | v::r,st=>bF st/\∀ C',On C' T d N->C'.Top->AS C' (VR target C'.env) v st (λ st1=>ES C' kb (execs body C'.env) st1
   (λ f st2=>eE (jl T d N kb target body bF Q X r st2) (Q .next st2) (λ w=>Q (.ret w) st2) f) X) X
noncomputable def PL (T:Th)(d:Nat)(N:List (Str×Vn))(kb:Nat)(target:Expr)(body:List Stmt)(src:V)(l:List V)(Q:Fl->St->Prop)(X:XK):List V->St->Prop:=jl T d N kb target body (λ st=>aE st src=some l) Q X
section
variable {C:Cx}{T:Th}{d:Nat}{N:List (Str×Vn)}{st:St}{X:XK}{kb:Nat}
theorem eE.imp {q q' b:Prop}{r:V->Prop}(h:q->q'){f:Fl}:eE q b r f->eE q' b r f:=by
 induction f<;>first | exact h | exact id
theorem jl.w (O:On C T d N)(Tp:C.Top){kb:Nat}{target:Expr}{body:List Stmt}{bF Nu:St->Prop}{Q:Fl->St->Prop}(hi:∀ st,bF st->Nu st):∀ {r:List V}{st:St},jl T d N kb target body bF Q X r st->xP C kb target body Nu Q X r st
 | [],st,h=>⟨hi _ h.1,h.2⟩
 | v::r,st,h=>⟨hi _ h.1,λ G₁ hG=>(h.2 (C.keep G₁) (O.keep hG) (Tp.keep G₁)).mono λ st1 q=>q.mono λ f st2 z=>z.imp (jl.w O Tp hi)⟩
theorem On.wA (O:On C T d N)(Tp:C.Top){target iter:Expr}{body:List Stmt}{pos:Pos}{Q:Fl->St->Prop}{tg:Expr->Prop}(hset:aG iter=true)(kq:tg target)
  (h:iB C (eval iter C.env) st tg (λ bF bT l st1=>∃ kb',kb<=kb'/\rU kb' bT/\jl T d N kb' target body bF Q X l st1) X):ES C kb (exec (.For target iter body [] pos) C.env) st Q X:=
 O.Ew Tp hset kq (h.imp λ bF bT l st1=>fq λ kb' a b c=>fu kb' a b (c.w O Tp λ _ h=>h))
theorem uY {src:V}{l:List V}(h:aE st src=some l):∃ p,itemsOf st src=some (p,l):=by
 induction src using V.casesOn with
 | str x=>exact jB h
 | qQ a b c=>exact jB h
 | tup l'=>exact jB h
 | _=>exact ⟨True,(congrArg (XE λ l=>(True,l)) h)⟩
theorem E8 {src:V}{l:List V}{p:Prop}(h:aE st src=some l)(h2:itemsOf st src=some (p,l)):p:=by
 induction src using V.casesOn with
 | str x=>exact jB h
 | qQ a b c=>exact jB h
 | tup l'=>exact jB h
 | _=>exact (Wd (Vf ((congrArg (XE λ l=>(True,l)) h).symm.trans h2))).1▸trivial
theorem On.Nv (O:On C T d N)(Tp:C.Top){target iter:Expr}{body:List Stmt}{pos:Pos}{Q:Fl->St->Prop}(hset:aG iter=true)
  (h:EV C (eval iter C.env) st (λ src st1=>∃ l kb',kb<=kb'/\Mj kb' src/\aE st1 src=some l/\PL T d N kb' target body src l Q X l st1) X):ES C kb (exec (.For target iter body [] pos) C.env) st Q X:=
 O.Ew Tp hset trivial (iB.ev (h.mono λ v st1=>ak λ l kb' a b=>qA λ c e=>qE (λ p q=>(ay p l q (E8 c q) (fu kb' a ⟨b,trivial⟩ (jl.w O Tp (λ _=>uY) e)))) (uY c)))
theorem aT {n:Nat}{l:List V}(h:J st.heap n=some (.lst l)):aE st (.loc n)=some l:=by unfold aE;simp only [h]
theorem yj {n:Nat}{o:MO}{h:List (Nat×MO)}(e:J h n=some o):n<fresh h:=Wo (xN h n (by rw [e];rfl))
theorem cz {h:List (Nat×MO)}{n m:Nat}{o:MO}(e:n≠m):J (af h m o) n=J h n:=by rw [dj,if_neg e]
theorem aj {h:List (Nat×MO)}{m:Nat}{o:MO}:J (af h m o) m=some o:=by rw [dj,if_pos rfl]
noncomputable def Kg (T:Th)(d:Nat)(N:List (Str×Vn))(target elt:Expr)(ifs:List Expr)(base:List (Str×V))(h:List (Nat×MO))(v:V)(b:Bool)(y:V):Prop:=
 ∀ C',On C' T d N->AS C' (VR target C'.env) v ⟨base,h⟩ (λ st1=>TW C' ifs st1 (λ ok st2=>ok=b/\br ok (EV C' (eval elt C'.env) st2 (λ z st3=>gf base st3.vars/\st3.heap=h/\z=y) zG) (gf base st2.vars/\st2.heap=h))) zG
theorem sr.pure (O:On C T d N){scope:WM}{target elt:Expr}{ifs:List Expr}{bF:St->Prop}{base:List (Str×V)}{Q:List V->List (Nat×MO)->Prop}{h:List (Nat×MO)}(sel:V->Bool)(f:V->V)
  (hl:bF ⟨base,h⟩):∀ {r acc:List V},(∀ v∈r,Kg T d (qX N scope.names) target elt ifs base h v (sel v) (f v))->Q (acc++(r.filter sel).map f) h->sr C scope d target elt ifs bF base Q r acc h
 | [],acc,_,q=>⟨hl,by rw [List.filter_nil,List.map_nil,VT] at q;exact q⟩
 | v::r,acc,ht,q=>⟨hl,λ C' hC=>(ht v (VC ..) C' (O.comp hC)).mono λ st1 t=>t.imp λ ok st2=>qA λ e z=>by
   subst e
   refine ⟨λ e=>?_,λ e=>?_⟩
   ·refine (z.1 e).mono λ y st3=>fJ λ a b c=>⟨a,?_⟩
    subst c;rw [b]
    refine sr.pure O sel f hl (λ u hu=>ht u (VH _ hu)) ?_
    rw [WJ,if_pos e] at q
    rw [Vs];exact q
   ·have ⟨a,b⟩:=z.2 e
    refine ⟨a,?_⟩
    rw [b]
    refine sr.pure O sel f hl (λ u hu=>ht u (VH _ hu)) ?_
    rw [WJ,if_neg (by rw [e];decide)] at q
    exact q⟩
theorem LW.pure (O:On C T d N){scope:WM}{target elt:Expr}{ifs:List Expr}{src:V}{base:List (Str×V)}{l:List V}{Q:List V->List (Nat×MO)->Prop}{h:List (Nat×MO)}(sel:V->Bool)(f:V->V)
  (hl:∃ p,itemsOf ⟨base,h⟩ src=some (p,l)) {r acc:List V} (ht:∀ v∈r,Kg T d (qX N scope.names) target elt ifs base h v (sel v) (f v)) (q:Q (acc++(r.filter sel).map f) h):LW C scope d target elt ifs src base l Q r acc h:=sr.pure O sel f hl ht q
theorem Fb {base:List (Str×V)}{x:Str}{v:V}(h:az base x=none):gf base (n6 base x v):=λ y w e=>by
 rw [fN,if_neg (λ q=>by rw [q,h] at e;exact aV e)];exact e
theorem noTests {C:Cx}{st:St}{Q:Bool->St->Prop}(h:Q true st):TW C [] st Q:=h
theorem oneTest {C:Cx}{c:Expr}{st:St}{Q:Bool->St->Prop}(h:EB C (isTrue c C.env (eval c C.env)) st (λ b st1=>br b (Q true st1) (Q false st1)) zG):TW C [c] st Q:=h
theorem meth_list {K:Frag}{n:Nat}{l:List V}{name:Str}{id:String}(h:J st.heap n=some (.lst l))(hb:AX .list name=some id):j8 K st (.loc n) name=some (.builtin id):=by
 unfold j8 Mi;dsimp only;rw [h];dsimp only;rw [hb];rfl
theorem CH {K:Frag}{n dk:Nat}{cls f:Addr}{kvs:List (Str×V)}{name:Str}(h:J st.heap n=some (.inst cls dk))(h2:J st.heap dk=some (.dict kvs))(h3:plainGet K cls name=true)
  (h4:findIn K (.ref cls) name=some (some (.ref f))) (h5:isFn K (.ref f)=true) (h6:az kvs name=none):j8 K st (.loc n) name=some (.ref f):=by
 unfold j8 Mi;dsimp only;rw [h];dsimp only;rw [kM h h2,h3,h4,h6];show XE _ (bif isFn K (.ref f) then some f else none)=_;rw [h5];rfl
theorem Fc {K:Frag}{n dk:Nat}{cls:Addr}{kvs:List (Str×V)}{name:Str}{v:V}(h:J st.heap n=some (.inst cls dk))(h2:J st.heap dk=some (.dict kvs))(h3:kL K cls kvs name=some (.own v)):m5 K st (.loc n) name=some v:=by
 unfold m5;rw [kM h h2,h3]
theorem zS {K:Frag}{n dk:Nat}{cls f:Addr}{kvs:List (Str×V)}{name:Str}(h:J st.heap n=some (.inst cls dk))(h2:J st.heap dk=some (.dict kvs))(h3:kL K cls kvs name=some (.bound f)):m5 K st (.loc n) name=some (.bm (.ref f) (.loc n)):=by
 unfold m5;rw [kM h h2,h3]
theorem CI {K:Frag}{n dk:Nat}{cls f:Addr}{kvs:List (Str×V)}{name:Str}(h:J st.heap n=some (.inst cls dk))(h2:J st.heap dk=some (.dict kvs))(h3:noSeq K cls=true)
  (h4:findIn K (.ref cls) name=some (some (.ref f))) (h5:isFn K (.ref f)=true):m8 K st (.loc n) name=some f:=by
 unfold m8;rw [kM h h2,h3,h4];show (bif isFn K (.ref f) then some f else none)=_;rw [h5];rfl
theorem wB {K:Frag}{n dk:Nat}{cls:Addr}{kvs:List (Str×V)}{name:Str}{v:V}(h:J st.heap n=some (.inst cls dk))(h2:J st.heap dk=some (.dict kvs))
  (h3:(plainOver K cls&&(clsIn K cls).any (·.hasDict)&&(takerIn K cls name==some none)&&(findIn K (.ref cls) "__setattr__"==some (some (.builtin "object.__setattr__"))))=true) (h4:Wn kvs.length 900=true) :
  jj K st (.loc n) name v=some {st with heap:=af st.heap dk (.dict (n6 kvs name v))}:=by
 unfold jj;rw [kM h h2,h3,h4];rfl
end
theorem jl.ind {T:Th}{d:Nat}{N:List (Str×Vn)}{kb:Nat}{target:Expr}{body:List Stmt}{bF:St->Prop}{Q:Fl->St->Prop}{X:XK}{I:List V->St->Prop}
  (h0:∀ st,I [] st->bF st/\Q .next st)
  (hs:∀ v r st,I (v::r) st->bF st/\∀ C',On C' T d N->C'.Top->AS C' (VR target C'.env) v st (λ st1=>ES C' kb (execs body C'.env) st1 (λ f st2=>eE (I r st2) (Q .next st2) (λ w=>Q (.ret w) st2) f) X) X) :
  ∀ r st,I r st->jl T d N kb target body bF Q X r st
 | [],st,h=>h0 st h
 | v::r,st,h=>⟨(hs v r st h).1,λ C' O T'=>((hs v r st h).2 C' O T').mono λ st1 q=>q.mono λ f st2 z=>z.imp (jl.ind h0 hs r st2)⟩
theorem ASL.mcons {C:Cx}{st:St}{X:XK}{e:Expr}{es:List Expr}{v:V}{vs:List V}{Q:St->Prop}(h:AS C (VR e C.env) v st (λ st1=>ASL C (es.map λ t=>VR t C.env) vs st1 Q X) X):
  ASL C ((e::es).map λ t=>VR t C.env) (v::vs) st Q X:=ASL.cons h
theorem ASL.mnil {C:Cx}{st:St}{X:XK}{Q:St->Prop}(h:Q st):ASL C (([]:List Expr).map λ t=>VR t C.env) [] st Q X:=ASL.nil h
end
section
section
variable {C:Cx}{T:Th}{d:Nat}{N:List (Str×Vn)}{st:St}{X:XK}{kb:Nat}
theorem CK {o i:Expr}{p:Pos}{value:Expr}{line:Nat}{env:Env}:swapsWithSole [.Subscript o i p] value line env=pure false:=by induction value using XG<;>rfl
theorem On.assignSub (O:On C T d N){o i:Expr}{p:Pos}{value:Expr}{pos:Pos}{Q:Fl->St->Prop}(hw:j9 N [.Subscript o i p] value=some none)
  (h:EV C (eval value C.env) st (λ v st1=>AS C (VR (.Subscript o i p) C.env) v st1 (λ st2=>Q .next st2) X) X):ES C kb (exec (.Assign [.Subscript o i p] value pos) C.env) st Q X:=λ F ρ s R Q' E hQ hE=>by
 refine ZS (h F ρ s R _ E ?_ (xG hE (aZ.refl _) (bD.refl _))) CK (rz O.fn (by rw [O.names];exact hw))
 rintro F1 bE x s1 l1 k1 hp0;apply hp0.elim;rintro v st1 h1 R1 d1
 refine h1 F1 bE s1 x R1 d1 _ E ?_ (xG hE l1 k1)
 rintro F2 bZ _ s2 l2 k2 hp0;apply hp0.elim;rintro st2 h2 R2
 exact hQ F2 bZ _ _ (l1.trans l2) ((k1.trans k2).b kb) (cy.in (h2) (R2) (.next))
theorem ff {n:Nat}{l:List V}(h:J st.heap n=some (.lst l)):itemsOf st (.loc n)=some (True,l):=by
 unfold itemsOf;show XE _ (aE st (.loc n))=_;rw [aT h];rfl
theorem On.slice_all (O:On C T d N){o:Expr}{p pos:Pos}{v:V}{Q:St->Prop}
  (h:EV C (eval o C.env) st (λ ov st1=>∃ n l l',ov=.loc n/\J st1.heap n=some (.lst l)/\v=.lst l'/\l.length+l'.length<=sizeLine/\Q {st1 with heap:=af st1.heap n (.lst l')}) X) :
  AS C (VR (.Subscript o (.Slice We We We p) pos) C.env) v st Q X:=AS.slice_all h
theorem sQ {α:Type}(l:List α)(a n:Nat):((Yk n).map (a + ·)).filterMap (bq l)=(l.drop a).take n:=by
 induction n with
 | zero=>rfl
 | succ n ih=>
  rw [List.range_succ,VI,List.filterMap_append,ih,List.take_add_one,ab]
  cases e:l[a+n]? with
  | none=>exact congrArg (_++·) (Yi e)
  | some x=>exact congrArg (_++·) (Yj e)
theorem rA {α:Type}{l:List α}{lo hi:Option Int}{a b:Nat}(e:sliceBounds lo hi none l.length=((a:Int),(b:Int),1)):pick l lo hi none=(l.drop a).take (b-a):=by
 unfold pick;rw [e,ae];exact sQ l a (b-a)
theorem Fd {α:Type}(l:List α):pick l none none none=l:=by
 rw [rA (a:=0) (b:=l.length) rfl];simp
theorem uZ {α:Type}(l:List α)(k:Nat):pick l none (some (k:Int)) none=l.take k:=by
 rw [rA (a:=0) (b:=min k l.length)]
 ·rw [List.drop_zero,Nat.sub_zero]
  by_cases h:k<=l.length
  ·rw [YB h]
  ·rw [Yo (by lia),List.take_length,Xg (by lia)]
 ·show (((0:Int),(if (1:Int)>0 then max 0 (min (if (k:Int)<0 then (k:Int)+(l.length:Int) else (k:Int)) (l.length:Int)) else _),(1:Int)):Int×Int×Int)=_
  rw [if_pos (by decide),if_neg (by lia)]
  congr 2
  lia
theorem CJ.Nx (O:On C T (d+1) N) {cls fI:Addr}{args kvs:List V}{ks:List Str}{Q:QV} (hm:makesIn T.K cls=true) (hi:findIn T.K (.ref cls) "__init__" = some (some (.ref fI))) (hf:isFn T.K (.ref fI)=true)
  (h:∀ C',On C' T d N->CU C' fI (.loc (cB st)::args) ks kvs (v8 st cls) (λ v st1=>v=.none/\Q (.loc (cB st)) st1) X):CJ C (.con (.ref cls)) args ks kvs st Q X:=
 CJ.make O.toGood (by rw [O.K];exact hm) (by rw [O.K];exact hi) (by rw [O.K];exact hf) λ A' G'=>h (C.at A') {toGood:=G',K:=O.K,prog:=O.prog,w:=O.w,names:=O.names}
theorem CL {n:Nat}{l:List V}{lo hi sp:V}{a b c:Option Int}(h:J st.heap n=some (.lst l))(h1:mZ lo=some a)(h2:mZ hi=some b)(h3:mZ sp=some c):
  rL st (.loc n) lo hi sp=some (c≠some 0/\l.length<=sizeLine,.lst (pick l a b c)):=by
 unfold rL;rw [h1,h2,h3];simp only [];rw [aT h];rfl
theorem eN {base:List (Str×V)}{hp:List (Nat×MO)}{x:Str}{v:V}(h:az base x=none):gf base (bK ⟨base,hp⟩ x v).vars:=Fb h
theorem EV.part_some {e:Expr}{Q:QV}(h:EV C (eval e C.env) st Q X):EV C (cH C (some e)) st Q X:=h
end
end
section
theorem neT:Nonempty Th:=neW.elim λ w=>⟨⟨default,default,w⟩⟩
noncomputable def bnd {α β:Type}{p:α->Prop}(o:Option (Subtype p))(f:∀ v,p v->Option β):Option β:=match o with
 | some ⟨v,h⟩=>f v h
 | none=>none
noncomputable def val {α:Type}{p:α->Prop}(o:Option (Subtype p)):Option α:=bnd o λ v _=>some v
theorem wC {α:Type}{p:α->Prop}{v:α}:∀ {o:Option (Subtype p)},val o=some v->p v
 | some ⟨w,h⟩,e=>Vf e▸h
noncomputable def Kh (b:Bool):Option {u:Unit // b=true}:=match b with
 | true=>some ⟨(),rfl⟩
 | false=>none
theorem nt:∀ {b:Bool},(!b)=true->b=false
 | false,_=>rfl
noncomputable def look {α:Type}(o:Option α):Option {v:α // o=some v}:=match o with
 | some v=>some ⟨v,rfl⟩
 | none=>none
noncomputable def IL:Int->Bool
 | .ofNat n=>Xf 0 n&&Xf n 1073741824
 | .negSucc _=>false
theorem wD {i:Int}(h:IL i=true):i≠0/\i.natAbs<1073741824:=by
 induction i with
 | negSucc _=>exact lO h
 | ofNat n=>
  have h':=VG.mp (show (Xf 0 n&&Xf n 1073741824)=true from h)
  exact ⟨λ e=>by cases e;exact absurd h'.1 (by decide),VQ h'.2⟩
noncomputable def Ny (op:X0)(i j:Int):Option {v:V // ∃ p,H6 op (.int i) (.int j)=some (p,v)/\p}:=match op with
 | .Add=>some ⟨.int (i+j),True,rfl,trivial⟩
 | .Sub=>some ⟨.int (i-j),True,rfl,trivial⟩
 | .Mult=>bnd (Kh (IL i)) λ _ h=>some ⟨.int (i*j),_,rfl,.inl (VJ (wD h).2 (by decide))⟩
 | .FloorDiv=>bnd (Kh (IL j)) λ _ h=>some ⟨.int (i.fdiv j),_,rfl,wD h⟩
 | .Mod=>bnd (Kh (IL j)) λ _ h=>some ⟨.int (i.fmod j),_,rfl,(wD h).1⟩
 | .BitAnd=>some ⟨.int (Xw i j),True,rfl,trivial⟩
 | .BitOr=>some ⟨.int (YV i j),True,rfl,trivial⟩
 | _=>none
noncomputable def PM (op:X0)(a b:V):Option {v:V // ∃ p,H6 op a b=some (p,v)/\p}:=match a with
 | .int i=>(match b with
  | .int j=>Ny op i j
  | _=>none)
 | _=>none
noncomputable def Ro (a b:V)(f:Bool->Bool)(st:St)(op:ka)(hf:∀ r,MS a b=some r->pO st op a b=some (True,f r)):Option {r:Bool // pO st op a b=some (True,r)}:=bnd (look (MS a b)) λ r h=>some ⟨f r,hf r h⟩
noncomputable def Nz (st:St)(op:ka)(a b:V):Option {r:Bool // pO st op a b=some (True,r)}:=match op with
 | .Is=>Ro a b id st .Is λ r h=>congrArg (XE λ r=>(True,r)) h
 | .IsNot=>Ro a b (!·) st .IsNot λ r h=>congrArg (XE λ r=>(True,!r)) h
 | op=>(match a with
  | .int i=>(match b with
   | .int j=>(match op with
    | .Eq=>some ⟨i==j,rfl⟩
    | .NotEq=>some ⟨!(i==j),rfl⟩
    | .Lt=>some ⟨decide (i<j),rfl⟩
    | .LtE=>some ⟨decide (i<=j),rfl⟩
    | .Gt=>some ⟨decide (j<i),rfl⟩
    | .GtE=>some ⟨decide (j<=i),rfl⟩
    | _=>none)
   | _=>none)
  | .str x=>(match b with
   | .str y=>(match op with
    | .Eq=>some ⟨x.cps.toList==y.cps.toList,rfl⟩
    | .NotEq=>some ⟨!(x.cps.toList==y.cps.toList),rfl⟩
    | _=>none)
   | _=>none)
  | _=>none)
noncomputable def NB (st:St)(v:V):Option {b:Bool // vN st v=some (True,b)}:=match v with
 | .none=>some ⟨false,rfl⟩
 | .bool b=>some ⟨b,rfl⟩
 | .int i=>some ⟨i != 0,rfl⟩
 | _=>none
section
variable {C:Cx}{T:Th}{d:Nat}{N:List (Str×Vn)}{st:St}{X:XK}{kb:Nat}{G:List (Str×Vg)}
noncomputable def Pl (C:Cx)(st:St)(X:XK)(e:Expr)(v:V):Prop:=∀ {Q:QV},Q v st->EV C (eval e C.env) st Q X
noncomputable def S6 (C:Cx)(st:St)(X:XK)(e:Expr)(v:Bool):Prop:=∀ {Q:Bool->St->Prop},Q v st->EB C (isTrue e C.env (eval e C.env)) st Q X
noncomputable def ND (N:List (Str×Vn))(K:Frag)(HG:∀ x v,az G x=some v->gl K x=some v)(vars:List (Str×V))(x:Str):Option {v:V // nameV N K vars x=some v}:=bnd (look (az N x)) λ k hk=>match k,hk with
 | .local,hk=>bnd (look (az vars x)) λ v h=>some ⟨v,by unfold nameV;rw [hk];exact h⟩
 | .cell,hk=>bnd (look (az vars x)) λ v h=>some ⟨v,by unfold nameV;rw [hk];exact h⟩
 | .globalImplicit,hk=>bnd (look (az G x)) λ v h=>some ⟨.con v,nameV_gl hk (HG x v h)⟩
 | _,_=>none
noncomputable def Rp (ev:∀ e,Option (Subtype (Pl C st X e))):∀ es:List Expr,Option {vs:List V // (∀ {pos}{Q:List V->St->Prop},Q vs st->EL C (spliced (backTo pos (starEach es C.env))) st Q X)/\vs.length=es.length}
 | []=>some ⟨[],λ q=>EL.nil q,rfl⟩
 | e::es=>bnd (Kh (notStar e)) λ _ hs=>bnd (ev e) λ v hv=>bnd (Rp ev es) λ vs hvs=>some ⟨v::vs,λ q=>EL.cons hs (hv (hvs.1 q)),congrArg d6 hvs.2⟩
noncomputable def CM (O:On C T d N)(HG:∀ x v,az G x=some v->gl T.K x=some v):Nat->∀ e:Expr,Option (Subtype (Pl C st X e))
 | 0,_=>none
 | n+1,e=>match e with
  | .Constant (.int i) _ _=>some ⟨.int i,λ q=>EV.int q⟩
  | .Constant (.str i) _ _=>some ⟨.str i,λ q=>EV.str q⟩
  | .Constant (.bool i) _ _=>some ⟨.bool i,λ q=>EV.bool q⟩
  | .Constant .none _ _=>some ⟨.none,λ q=>EV.none q⟩
  | .Name x _=>bnd (Kh (!sB x "__debug__")) λ _ hd=>bnd (ND N T.K HG st.vars x) λ v h=>some ⟨v,λ q=>O.name h (nt hd) q⟩
  | .BinOp l op r _=>bnd (CM O HG n l) λ a ha=>bnd (CM O HG n r) λ b hb=>bnd (PM op a b) λ v hv=>some ⟨v,λ q=>EV.binop (ha (hb (aI (λ p e hp=>(ay p v e hp q)) hv)))⟩
  | .Compare l [op] [r] _=>bnd (Kh (!behindInMarks op r)) λ _ hm=>bnd (CM O HG n l) λ a ha=>bnd (CM O HG n r) λ b hb=>bnd (Nz st op a b) λ v hv=>some ⟨.bool v,λ q=>O.compare (nt hm) (ha (hb (ay True v hv trivial q)))⟩
  | .Subscript o i _=>bnd (CM O HG n o) λ a ha=>bnd (CM O HG n i) λ b hb=>bnd (look (gq st a b)) λ v hv=>some ⟨v,λ q=>EV.subscript (ha (hb (aC v hv q)))⟩
  | .Tuple es _ _=>bnd (Kh (Wn es.length sizeLine)) λ _ hl=>bnd (Rp (CM O HG n) es) λ vs hv=>some ⟨.tup vs,λ q=>EV.tuple (hv.1 ⟨hv.2▸VQ hl,q⟩)⟩
  | _=>none
noncomputable def PN (O:On C T d N)(HG:∀ x v,az G x=some v->gl T.K x=some v):Nat->∀ e:Expr,Option (Subtype (S6 C st X e))
 | 0,_=>none
 | n+1,e=>match e with
  | .UnaryOp .Not x _=>bnd (PN O HG n x) λ b hb=>some ⟨!b,λ q=>EB.not (hb q)⟩
  | .Compare l [op] [r] _=>bnd (Kh (!behindInMarks op r)) λ _ hm=>bnd (CM O HG n l) λ a ha=>bnd (CM O HG n r) λ b hb=>bnd (Nz st op a b) λ v hv=>some ⟨v,λ q=>O.bcompare (nt hm) (ha (hb (ay True v hv trivial q)))⟩
  | .Name x p=>bnd (CM O HG 1 (.Name x p)) λ v hv=>bnd (NB st v) λ b hb=>some ⟨b,λ q=>EB.value (λ _=>rfl) (hv (ay True b hb trivial q))⟩
  | .Subscript x i p=>bnd (CM O HG (n+1) (.Subscript x i p)) λ v hv=>bnd (NB st v) λ b hb=>some ⟨b,λ q=>EB.value (λ _=>rfl) (hv (ay True b hb trivial q))⟩
  | _=>none
theorem On.pv (O:On C T d N)(HG:∀ x v,az G x=some v->gl T.K x=some v){e:Expr}{v:V}{Q:QV}(h:val (CM (st:=st) (X:=X) O HG 12 e)=some v)(q:Q v st):EV C (eval e C.env) st Q X:=wC h q
theorem On.pb (O:On C T d N)(HG:∀ x v,az G x=some v->gl T.K x=some v){e:Expr}{b:Bool}{Q:Bool->St->Prop}(h:val (PN (st:=st) (X:=X) O HG 12 e)=some b)(q:Q b st):EB C (isTrue e C.env (eval e C.env)) st Q X:=wC h q
theorem On.set (O:On C T d N)(HG:∀ x v,az G x=some v->gl T.K x=some v){x:Str}{e:Expr}{p pos:Pos}{ts:List Stmt}{v:V}{Q:Fl->St->Prop}(hc:gO e=false)(hw:j9 N [.Name x p] e=some none)(hk:d8 N x=true)
  (h:val (CM (st:=st) (X:=X) O HG 12 e)=some v) (q:ES C kb (execs ts C.env) (bK st x v) Q X):ES C kb (execs (.Assign [.Name x p] e pos::ts) C.env) st Q X:=
 ES.cons (O.assign rfl hc hw (wC h (O.aname hk q)))
theorem On.ifs (O:On C T d N)(HG:∀ x v,az G x=some v->gl T.K x=some v){e:Expr}{b o:List Stmt}{pos:Pos}{c:Bool}{Q:Fl->St->Prop}(h:val (PN (st:=st) (X:=X) O HG 12 e)=some c)(q:br c (ES C kb (execs b C.env) st Q X) (ES C kb (execs o C.env) st Q X)):
  ES C kb (exec (.If e b o pos) C.env) st Q X:=ES.iff (wC h q)
end
end
noncomputable abbrev pw:Wi:=PySem.Challenge.pw_kl0126_01
noncomputable def aJ (i:Nat):Stmt:=(pw.main.body[i]?).getD (.Pass default)
noncomputable def cI (i:Nat):Stmt:=match aJ 7 with
 | .ClassDef _ _ _ b _ _ _ _ _ _ _=>(b[i]?).getD (.Pass default)
 | s=>s
structure cN where
 hdr:Addr
 Rq:Addr
 Rr:Addr
 S7:Addr
 b1:Addr
 b3:Addr
 sR:Addr
 wF:Addr
 mh:Addr
 mj:Addr
 mq:Addr
 jm:Addr
 oM:Addr
 oN:Addr
 Bd:Addr
 yk:Addr
 CN:Addr
 Be:Addr
 Bf:Addr
 wG:Addr
 wH:Addr
 iI:Addr
 Bg:Addr
 wI:Addr
 sU:Addr
 wJ:Addr
 Bh:Addr
 eY:Addr
noncomputable def yl (A:cN):List (Str×Vg):=([("chr",.builtin "chr"),("ord",.builtin "ord"),("len",.builtin "len"),("max",.builtin "max"),("sum",.builtin "sum"),("iter",.builtin "iter"),("next",.builtin "next"),("repr",.builtin "repr"),("min",.builtin "min"),
 ("str",.type "str"),("int",.type "int"),("list",.type "list"),("range",.type "range"),("type",.type "type"),("ValueError",.type "ValueError"),("TypeError",.type "TypeError"),("AssertionError",.type "AssertionError"),("StopIteration",.type "StopIteration"),("zip",.type "zip"),("enumerate",.type "enumerate")  ]:List (Str×Vg))++([("Headers",.ref A.hdr),("_name_disallowed_re",.ref A.Rq),("_value_disallowed_re",.ref A.Rr),("UNKNOWN",.ref A.S7),("b1_set",.ref A.b1),("b3_exceptions",.ref A.b3),
 ("_get_name_info",.ref A.yk),("_parse_varint",.ref A.CN),("in_table_b1",.ref A.Be),("map_table_b3",.ref A.Bf),("_law_prepared",.ref A.wG),("_law_size",.ref A.wH),("_law_texts",.ref A.iI),("_law_forward",.ref A.Bg),("_law_turn",.ref A.wI),("_law_back",.ref A.sU),("_law_cuts",.ref A.wJ),("_law_due",.ref A.Bh)]:List (Str×Vg))
noncomputable def jL (A:cN):List (Str×Addr):=[("__init__",A.sR),("_convert_string_type",A.wF),("__setitem__",A.mh),("__delitem__",A.mj),("get_all",A.mq),("get",A.jm),("values",A.oM),("items",A.oN),("add_header",A.Bd)]
noncomputable def wK (A:cN):List Addr:=[A.sR,A.wF,A.mh,A.mj,A.mq,A.jm,A.oM,A.oN,A.Bd,A.yk,A.CN,A.Be,A.Bf,A.wG,A.wH,A.iI,A.Bg,A.wI,A.sU,A.wJ,A.Bh]
noncomputable def p9:Bool->Nat->Bool
 | true,c=>Wn c 31||Vo c 127
 | false,c=>(Wn c 31&&!(Vo c 9))||Vo c 127
noncomputable def fT (i:Int):Bool:=[173,847,6150,6155,6156,6157,8203,8204,8205,8288,65279].contains i||(65024<=i&&i<=65039)
noncomputable def Lh:Option Expr->Option Int
 | some (.Constant (.int i) _ _)=>some i
 | _=>none
noncomputable def Li:Expr->Str
 | .Constant (.str s) _ _=>s
 | _=>Str.empty
noncomputable def Fe:List (Option Expr)->List Expr->List (Int×Str)
 | k::ks,v::vs=>match Lh k with
  | some i=>(i,Li v)::Fe ks vs
  | none=>Fe ks vs
 | _,_=>[]
noncomputable def cA:List (Int×Str):=match aJ 16 with
 | .Assign _ (.Dict ks vs _) _=>Fe ks vs
 | _=>[]
noncomputable def qq:List (Int×Str)->Int->Option Str
 | [],_=>none
 | (k,v)::l,i=>bif k==i then some v else qq l i
noncomputable def B3 (i:Int):Option Str:=qq cA i
structure Fx (T:Th)(A:cN):Prop where
 gl:∀ x v,az (yl A) x=some v->gl T.K x=some v
 keep:∀ f,f∈wK A->keepIn T.K (.ref f)=true/\fnIn T.K f=true
 hkeep:keepIn T.K (.ref A.hdr)=true
 meth:∀ x f,az (jL A) x=some f->plainGet T.K A.hdr x=true/\findIn T.K (.ref A.hdr) x=some (some (.ref f))/\isFn T.K (.ref f)=true
 own:∀ kvs v,az kvs "_headers" = some v->ql v=true->kL T.K A.hdr kvs "_headers" = some (.own v)
 Ff:∀ kvs,az kvs "get" = none->kL T.K A.hdr kvs "get" = some (.bound A.jm)
 Kl:(plainOver T.K A.hdr&&(clsIn T.K A.hdr).any (·.hasDict)&&(takerIn T.K A.hdr "_headers"==some none)&&(findIn T.K (.ref A.hdr) "__setattr__"==some (some (.builtin "object.__setattr__"))))=true
 Km:noSeq T.K A.hdr=true
 makes:makesIn T.K A.hdr=true
 sys:iH T.K=true
 blt:EX T.K
 code:codeIn T.K A.iI=some (.ref A.eY)
 pat:∀ C:Cx,C.K=T.K->A9 C A.Rq (p9 true)/\A9 C A.Rr (p9 false)
 b1:∀ C:Cx,C.K=T.K->C.prog=T.prog->C.w=T.w->zL C A.b1 fT
 b3:∀ C:Cx,C.K=T.K->C.prog=T.prog->C.w=T.w->∃ f,IntTab C A.b3 f/\(∀ i s,B3 i=some s->∃ t,f i=some (.str s t))/\∀ i,B3 i=none->f i=none
 Bj:∃ dV,oK T.K A.sR (cI 0) dV .none/\∀ p P q pm cd doc ct a b,peek T.K ⟨p,P⟩ (bindArgs (fdOf (cI 0) q pm cd doc ct dV .none) ⟨[a,b],[]⟩)=some [((Ve "self"),a),("headers",b)]
 Bk:oK T.K A.wF (cI 1) .none .none
 sV:oK T.K A.mh (cI 3) .none .none
 sW:oK T.K A.mj (cI 4) .none .none
 sX:oK T.K A.mq (cI 7) .none .none
 fn_get:∃ dV,oK T.K A.jm (cI 8) dV .none/\∀ p P q pm cd doc ct a b,peek T.K ⟨p,P⟩ (bindArgs (fdOf (cI 8) q pm cd doc ct dV .none) ⟨[a,b],[]⟩)=some [((Ve "self"),a),("name",b),("default",.none)]/\
  ∀ c,peek T.K ⟨p,P⟩ (bindArgs (fdOf (cI 8) q pm cd doc ct dV .none) ⟨[a,b],[(Ve "default",c)]⟩)=some [((Ve "self"),a),("name",b),("default",c)]
 vc:oK T.K A.oM (cI 10) .none .none
 sY:oK T.K A.oN (cI 11) .none .none
 Fg:oK T.K A.Bd (cI 16) .none .none
 zT:oK T.K A.yk (aJ 11) .none .none
 Fi:oK T.K A.CN (aJ 12) .none .none
 Fj:oK T.K A.Be (aJ 15) .none .none
 Fo:oK T.K A.Bf (aJ 17) .none .none
 Bl:oK T.K A.wG (aJ 19) .none .none
 Bm:oK T.K A.wH (aJ 20) .none .none
 ym:oK T.K A.iI (aJ 21) .none .none
 Fp:oK T.K A.Bg (aJ 22) .none .none
 Bo:oK T.K A.wI (aJ 23) .none .none
 Bp:oK T.K A.sU (aJ 24) .none .none
 Bq:oK T.K A.wJ (aJ 25) .none .none
 Fq:oK T.K A.Bh (aJ 26) .none .none
section
variable {T:Th}{A:cN}{st:St}
theorem Fx.m (H:Fx T A){n dk:Nat}{kvs:List (Str×V)}{name:Str}{f:Addr}(h:J st.heap n=some (.inst A.hdr dk))(h2:J st.heap dk=some (.dict kvs))(h3:az (jL A) name=some f)(h4:az kvs name=none):
  j8 T.K st (.loc n) name=some (.ref f):=fJ (λ a b c=>CH h h2 a b c h4) (H.meth _ _ h3)
theorem Fx.a (H:Fx T A) {n dk:Nat}{kvs:List (Str×V)}{v:V} (h:J st.heap n=some (.inst A.hdr dk)) (h2:J st.heap dk=some (.dict kvs)) (h3:az kvs "_headers" = some v) (h4:ql v=true) :
  m5 T.K st (.loc n) "_headers" = some v:=Fc h h2 (H.own _ _ h3 h4)
theorem Fx.sp (H:Fx T A){n dk:Nat}{kvs:List (Str×V)}{name:Str}{f:Addr}(h:J st.heap n=some (.inst A.hdr dk))(h2:J st.heap dk=some (.dict kvs))(h3:az (jL A) name=some f):
  m8 T.K st (.loc n) name=some f:=fJ (λ a b c=>CI h h2 H.Km b c) (H.meth _ _ h3)
theorem Fx.kp (H:Fx T A){f:Addr}(h:f∈wK A):cX T.K (.con (.ref f))=true:=(H.keep f h).1
theorem Fx.kpb (H:Fx T A){f:Addr}{u:V}(h:f∈wK A):cX T.K (.bm (.ref f) u)=true:=(H.keep f h).2
theorem kpBuiltin {K:Frag}{n:String}:cX K (.con (.builtin n))=true:=rfl
theorem kpType {K:Frag}{n:String}:cX K (.con (.type n))=true:=rfl
end
theorem neA:Nonempty cN:=⟨⟨0,0,0,0,0,0,0,0,0,0,0,0,0,0,0,0,0,0,0,0,0,0,0,0,0,0,0,0⟩⟩
local macro_rules | `(tactic| walk_at "ne1") => Ef "neA neT"
theorem ex_pv {α:Type}{o:Option (Prop×α)}{Q:α->Prop}{p:Prop}{v:α}(e:o=some (p,v))(hp:p)(h:Q v):∃ p v,o=some (p,v)/\p/\Q v:=ay p v e hp h
theorem ex_m {K:Frag}{o:Option Vg}{Q:Vg->Prop}{f:Vg}(hm:o=some f)(hc:cX K (.con f)=true)(h:Q f):∃ f,o=some f/\cX K (.con f)=true/\Q f:=fu f hm hc h
theorem ex_v {α:Type}{o:Option α}{Q:α->Prop}{v:α}(e:o=some v)(h:Q v):∃ v,o=some v/\Q v:=aC v e h
theorem ex_1 {α:Type}{P Q:α->Prop}{v:α}(e:P v)(h:Q v):∃ v,P v/\Q v:=aC v e h
theorem ex_b {α β:Type}{P:α->Prop}{R Q:α->β->Prop}{a:α}{b:β}(e:P a)(hp:R a b)(h:Q a b):∃ a b,P a/\R a b/\Q a b:=ay a b e hp h
theorem ex_2 {α β:Type}{P Q:α->β->Prop}{a:α}{b:β}(e:P a b)(h:Q a b):∃ a b,P a b/\Q a b:=nC a b e h
def sideTac (k:String):Lean.MacroM (Lean.TSyntax `tactic):=
 if k=="a" then `(tactic| with_reducible assumption) else if k=="r" then `(tactic| rfl) else if k=="o" then `(tactic| omega) else if k=="d" then `(tactic| decide) else if k=="A" then `(tactic| assumption)
 else if k=="iv" then `(tactic| (intro whole;rfl)) else if k=="dr" then `(tactic| exact of_decide_eq_true (by rfl)) else `(tactic| walk_at $(Lean.Syntax.mkStrLit k))
def ruleTac (s : String) : Lean.MacroM (Lean.TSyntax ``Lean.Parser.Tactic.tacticSeq) := do
 if s.startsWith "!" then return ← `(Lean.Parser.Tactic.tacticSeq| $(← sideTac (s.drop 1).toString):tactic)
 let mut args : Array Lean.Term := #[]
 let mut cs : Array (Lean.TSyntax `tactic) := #[]
 let mut fin := false
 for w in (s.splitOn " ").drop 1 do
  if w == "." then fin := true
  else if w == "_" then args := args.push (← `(_))
  else if w == "R" then args := args.push (← `(rfl))
  else match w.splitOn "=" with
  | [h, k] =>
   let i := Lean.mkIdent (← Lean.Macro.addMacroScope (Lean.Name.mkSimple h))
   args := args.push (← `(?$i:ident))
   cs := cs.push (← `(tactic| case $i:ident => $(← sideTac k):tactic))
  | _ => args := args.push (Lean.mkIdent w.toName)
 unless fin do args := args.push (← `(?_))
 let n := (s.splitOn " ").headD ""
 if n.startsWith "~" then return ← `(Lean.Parser.Tactic.tacticSeq| refine' $(Lean.mkIdent (n.drop 1).toString.toName) $args*; $[$(cs.push (← `(tactic| done))):tactic];*)
 if n.startsWith "%" then return ← `(Lean.Parser.Tactic.tacticSeq| refine $(Lean.mkIdent (n.drop 1).toString.toName) $args*)
 let f := Lean.mkIdent n.toName
 `(Lean.Parser.Tactic.tacticSeq| (with_reducible refine' $f $args*); $[$cs:tactic];*)
def ruleTacs (s : String) : Lean.MacroM (Lean.TSyntax `tactic) := do
 let rs ← (s.splitOn "\n").toArray.mapM ruleTac
 `(tactic| first $[| $rs:tacticSeq]*)
local macro_rules | `(tactic| walk_at $s:str) => match s.getString with
 | "side" => ruleTacs "!a\n~True.intro .\n!d\n~And.intro l=d r=a .\n~trivial .\n!o\n!A"
 | "nm" => ruleTacs "!r\n~nameV_gl e=r g=gl ."
 | "gl" => ruleTacs "~Fx.gl H=a _ _ e=r ."
 | "G" => ruleTacs "Fx.gl H=a ."
 | "size" => ruleTacs "!a\n!dr\n!o\n!A"
 | "mem" => ruleTacs "~List.Mem.head _ .\n~List.Mem.tail _ h=mem ."
 | "callee" => ruleTacs "~kpBuiltin .\n~kpType .\n~Fx.hkeep H=a .\n~Fx.kp H=a m=mem .\n~Fx.kpb H=a m=mem ."
 | "kl" => ruleTacs "!a\n!r\n!A"
 | "meth" => ruleTacs "!r\n~Fx.m H=a a=kl b=kl e=r c=r .\n~meth_list a=kl e=r ."
 | "attr" => ruleTacs "~Fx.a H=a a=kl b=kl c=r e=r ."
 | "ra" => ruleTacs "!r\n!a"
 | "py" => ruleTacs "EV.int\n\
EV.str\n\
EV.none\n\
EV.bool\n\
On.name O=a hv=nm hd=r\n\
On.pv O=a HG=G h=r\n\
EV.binop\n\
On.compare O=a hm=r\n\
On.pb O=a HG=G h=r\n\
On.bcompare O=a hm=r\n\
EB.not\n\
EB.boolop\n\
EB.all_nil\n\
EB.all_cons\n\
EB.ifexp\n\
EB.search hb=r hl=r hs=r\n\
EB.value he=iv\n\
EV.part_none\n\
EV.part_some\n\
On.assign_comp O=a false hok=r hset=r hsw=r\n\
EV.slice\n\
EV.subscript\n\
oneTest\n\
noTests\n\
On.listcomp O=a hok=r hset=r\n\
On.assignSub O=a hw=r\n\
On.slice_all O=a\n\
On.aattr O=a\n\
On.setitem O=a\n\
On.delitem O=a\n\
EV.ifexp\n\
EV.tuple\n\
EV.boolop\n\
EV.andor1\n\
EV.andor2\n\
EL.nil\n\
EL.cons hs=r\n\
EL.vals_nil\n\
EL.vals_cons\n\
On.attr O=a hb=r\n\
On.call0 O=a hv=nm hd=r hf=callee ha=r\n\
On.call1 O=a hv=nm hd=r hf=callee ha=r\n\
On.method0 O=a hb=r hl=r hf=r ha=r\n\
On.method1 O=a hb=r hl=r hf=r ha=r\n\
nextThen\n\
nextThen_ret\n\
retQ\n\
retQ_next\n\
br_t hb=ra\n\
br_f hb=ra\n\
loop_next\n\
loop_ret\n\
CJ.chr h0=side h1=side\n\
CJ.ord\n\
CJ.type_str\n\
CJ.lower hz=side\n\
CJ.upper hz=side\n\
CJ.append hn=kl hz=side\n\
ES.nil\n\
ES.pass\n\
ES.ret\n\
ES.ret_none\n\
On.ifs O=a HG=G h=r\n\
ES.iff\n\
On.assign O=a hs=r hc=r hw=r\n\
On.assignQ O=a hs=r hc=r hw=r\n\
On.swap2 O=a hc=r hw=r ha=r hb=r\n\
On.swap3 O=a hc=r hw=r ha=r hb=r hcc=r\n\
On.aug_name O=a hk=r ho=nm\n\
On.expr O=a hc=r\n\
On.aname O=a hk=r\n\
On.bind O=a hk=r\n\
On.atuple O=a hp=r hl=r\n\
ASL.mnil\n\
ASL.mcons\n\
ASL.nil\n\
ASL.cons\n\
ex_b e=r hp=a\n\
ex_pv e=r hp=side\n\
ex_m hm=meth hc=callee\n\
ex_v e=r\n\
ex_v e=attr\n\
%ex_1 R\n\
%ex_2 R\n\
And.intro hz=size\n\
%ex_3 R"
 | "own"=>`(tactic| ((with_reducible refine' EV.mlist ?_);repeat walk_at "py"))
 | "frz"=>`(tactic| ((with_reducible refine' EV.flist ?_);repeat walk_at "py"))
 | "st0"=>ruleTacs "On.set O=a HG=G hc=r hw=r hk=r h=r\nES.cons"
 | _=>Lean.Macro.throwUnsupported
local macro_rules | `(tactic| walk_at "st") => `(tactic| (walk_at "st0"; repeat walk_at "py"))
section
section
variable {C:Cx}{T:Th}{A:cN}{d:Nat}{N:List (Str×Vn)}{st:St}{X:XK}{kb:Nat}
theorem kZ (a b:Nat):(a:Int).fdiv (b:Int)=((a/b:Nat):Int):=by
 rw [Int.fdiv_eq_ediv_of_nonneg _ (V0 b)];rfl
theorem fh (a b:Nat):(a:Int).fmod (b:Int)=((a%b:Nat):Int):=by
 rw [XQ _ (V0 b)];rfl
end
end
section
section
variable {C:Cx}{T:Th}{A:cN}{d:Nat}{N:List (Str×Vn)}{st:St}{X:XK}{kb:Nat}
theorem fE (O:On C T (d+1) N)(H:Fx T A){u:V}{x:Str}{b:Bool}{Q:QV}(hx:x.cps.size<=2^62)(hb:x.cps.any (p9 b)=false)(h2:Q (.str x) st):
  CU C A.wF [u,.str x] ["name"] [.bool b] st Q X:=by
 refine O.func (kj:=[]) H.Bk [("self",u),("value",.str x),("name",.bool b)] (λ _ _=>.nil) rfl rfl ?_ rfl rfl λ C' O' T'=>?_
 ·intro q pm cd doc ct
  exact E7 λ a  b  c=>rfl
 ·have hp:=H.pat C' O'.K
  conv=>arg 3;arg 1;whnf
  refine qA (λ hp1 hp2=>?_) hp
  induction b
  ·walk_at "st"
   walk_at "st"
   walk_at "st"
   walk_at "st"
   exact h2
  ·walk_at "st"
   walk_at "st"
   walk_at "st"
   walk_at "st"
   exact h2
end
end
section
section
variable {C:Cx}{T:Th}{A:cN}{d:Nat}{N:List (Str×Vn)}{st:St}{X:XK}{kb:Nat}
noncomputable def tab (l:List (Str×Str)):List V:=l.map λ p=>V.tup [.str p.1,.str p.2]
noncomputable def ko (dv:V):Option Str->V
 | some v=>.str v
 | none=>dv
noncomputable def sEq (y k:Str):Bool:=(VX k).cps.toList==y.cps.toList
noncomputable def mU (l:List (Str×Str))(y:Str):Option Str:=match l with
 | []=>none
 | p::r=>bif sEq y p.1 then some p.2 else mU r y
structure q9 (x:Str):Prop where
 len:x.length<=5592405
 sz:x.cps.size<=2^62
 low:(VX x).cps.size<=2^62
 p9:x.cps.any (p9 true)=false
 S8:(VX x).cps.any (Internal.p9 true)=false
structure DZ (x:Str):Prop where
 sz:x.cps.size<=2^62
 p9:x.cps.any (p9 false)=false
structure aB (A:cN)(st:St)(n dk hk:Nat)(l:List (Str×Str)):Prop where
 hi:J st.heap n=some (.inst A.hdr dk)
 hd:J st.heap dk=some (.dict [("_headers",.loc hk)])
 hl:J st.heap hk=some (.lst (tab l))
 fit:∀ p∈l,q9 p.1/\DZ p.2
noncomputable abbrev getSt (n:Nat)(y:Str)(dv:V)(h:List (Nat×MO))(ex:List (Str×V)):St:=⟨[((Ve "self"),V.loc n),("name",V.str y),("default",dv)]++ex,h⟩
noncomputable def NF (n:Nat)(y:Str)(dv:V)(h:List (Nat×MO))(l:List (Str×Str))(rv:List V)(s:St):Prop:=∃ r ex,rv=tab r/\s=getSt n y dv h ex/\(ex=[]\/∃ a b,ex=[((Ve "k"),a),("v",b)])/\(∀ p∈r,q9 p.1/\DZ p.2)/\mU l y=mU r y
end
namespace jM
noncomputable def aq (x:Str)(l:List (Str×Str))(hp:List (Nat×MO))(n:Nat)(dv:V)(C:Cx)(T:Th)(A:cN)(d:Nat)(X:XK)(dk hk:Nat)(vs:List (Str×V))(Q:QV):Prop:=∀ (O':On C T (d+1) (aO (cI 8)).names) (T':C.Top) (H:Fx T A) (HT:aB A ⟨vs,hp⟩ n dk hk l) (hx:q9 x) (h2:Q (ko dv (mU l (VX x))) ⟨vs,hp⟩),ES C (fresh hp) (execs (bodyOf (cI 8)) C.env) ⟨[("self",.loc n),("name",.str x),("default",dv)],hp⟩ (λ fl st2=>vU (λ v=>Q v ⟨vs,st2.heap⟩) fl) X
noncomputable def S0:=HZ aq
noncomputable def ε:=eu (by walk_at "ne") S0
theorem here:S0 ε:=by
 intro O' T' H HT hx h2
 obtain ⟨H1,H2,H3,H4⟩:=HT
 obtain ⟨Rt,MX,NG,Ru,NH⟩:=hx
 conv=>arg 3;arg 1;whnf
 walk_at "st"
 refine CU.cj (fE O' H NG NH ?_)
 repeat walk_at "py"
 (with_reducible refine' ES.cons ?_)
 refine O'.Nv T' rfl ?_
 repeat walk_at "py"
 refine ay _ (fresh ε.2.2.1) (VD _) (yj H3) (⟨aT H3,?_⟩)
 refine jl.ind (I:=NF ε.2.2.2.1 (VX ε.1) ε.2.2.2.2.1 ε.2.2.1 ε.2.1) ?_ ?_ _ _ ⟨ε.2.1,[],rfl,rfl,.inl rfl,H4,rfl⟩
 ·intro s;refine ak λ r ex hr e_=>fJ λ hex hfit hg=>?_;subst e_
  have:r=[]:=by induction r using VY;rfl;cases hr
  subst this
  refine ⟨aT H3,?_⟩
  rw [hg] at h2
  rcases hex with rfl | ⟨a,b,rfl⟩
  ·repeat walk_at "py"
   walk_at "st"
   exact h2
  ·repeat walk_at "py"
   walk_at "st"
   exact h2
 ·intro v rv s;refine ak λ r ex hr e_=>fJ λ hex hfit hg=>?_;subst e_
  obtain ⟨p,r,rfl⟩:∃ p r',r=p::r':=by induction r using VY with | nil=>cases hr | cons p r=>exact rD p r rfl
  cases hr
  refine ⟨aT H3,λ C2 O2 T2=>?_⟩
  have hp1:=(hfit p (VC ..)).1.len
  have hg':mU ε.2.1 (VX ε.1)=bif sEq (VX ε.1) p.1 then some p.2 else mU r (VX ε.1):=hg
  have fin:∀ ex' s',(∃ a b,ex'=[((Ve "k"),a),("v",b)])->s'=getSt ε.2.2.2.1 (VX ε.1) ε.2.2.2.2.1 ε.2.2.1 ex'->sEq (VX ε.1) p.1=false->NF ε.2.2.2.1 (VX ε.1) ε.2.2.2.2.1 ε.2.2.1 ε.2.1 (tab r) s':=
   λ ex' s' h3 h4 h5=>⟨r,ex',rfl,h4,.inr h3,λ q hq=>hfit q (VH _ hq),by rw [hg',h5];rfl⟩
  rcases hex with rfl | ⟨a,b,rfl⟩
  ·repeat walk_at "py"
   walk_at "st"
   refine ⟨λ hc=>?_,λ hc=>?_⟩
   ·walk_at "st"
    have:sEq (VX ε.1) p.1=true:=hc
    rw [hg',this] at h2
    exact h2
   ·repeat walk_at "py"
    exact fin _ _ (rD _ _ rfl) rfl hc
  ·repeat walk_at "py"
   walk_at "st"
   refine ⟨λ hc=>?_,λ hc=>?_⟩
   ·walk_at "st"
    have:sEq (VX ε.1) p.1=true:=hc
    rw [hg',this] at h2
    exact h2
   ·repeat walk_at "py"
    exact fin _ _ (rD _ _ rfl) rfl hc
end jM
theorem yo {C T A d X n dk hk l hp vs x dv Q}:jM.aq x l hp n dv C T A d X dk hk vs Q:=sk (S:=jM.S0) jM.here (x,l,hp,n,dv,C,T,A,d,X,dk,hk,vs,Q)
section
variable {C:Cx}{T:Th}{A:cN}{d:Nat}{N:List (Str×Vn)}{st:St}{X:XK}{kb:Nat}
theorem aB.vars {n dk hk:Nat}{l:List (Str×Str)}(HT:aB A st n dk hk l){vars:List (Str×V)}:aB A ⟨vars,st.heap⟩ n dk hk l:=⟨HT.hi,HT.hd,HT.hl,HT.fit⟩
theorem Lj (O:On C T (d+2) N)(H:Fx T A){n dk hk:Nat}{l:List (Str×Str)}{x:Str}{Q:QV}(HT:aB A st n dk hk l)(hx:q9 x)(h:Q (ko .none (mU l (VX x))) st):CU C A.jm [.loc n,.str x] [] [] st Q X:=by
 refine aI (λ dV hf hb=>?_) H.fn_get
 refine O.func (kj:=[.none]) (cs:=[.none]) hf [("self",.loc n),("name",.str x),("default",.none)] (λ _ _=>.cons .none .nil) rfl rfl ?_ rfl rfl λ C' O' T'=>?_
 ·intro q pm cd doc ct
  exact args2 λ a  b=>(hb _ _ _ _ _ _ _ _ _).1
 ·exact yo O' T' H HT.vars hx h
theorem IM (O:On C T (d+2) N) (H:Fx T A) {n dk hk:Nat}{l:List (Str×Str)}{x:Str}{dv:V}{Q:QV} (HT:aB A st n dk hk l) (hx:q9 x) (h:Q (ko dv (mU l (VX x))) st):CU C A.jm [.loc n,.str x] [Ve "default"] [dv] st Q X:=by
 refine aI (λ dV hf hb=>?_) H.fn_get
 refine O.func (kj:=[]) (cs:=[]) hf [("self",.loc n),("name",.str x),("default",dv)] (λ _ _=>.nil) rfl rfl ?_ rfl rfl λ C' O' T'=>?_
 ·intro q pm cd doc ct
  exact E7 λ a b c=>(hb _ _ _ _ _ _ _ _ _).2 c
 ·exact yo O' T' H HT.vars hx h
end
end
section
section
variable {C:Cx}{T:Th}{A:cN}{d:Nat}{N:List (Str×Vn)}{st:St}{X:XK}{kb:Nat}
noncomputable def CO (y:Str):V->Bool
 | .tup [.str k,.str _]=>sEq y k
 | _=>false
noncomputable def zU:V->V
 | .tup [_,v]=>v
 | v=>v
noncomputable def getAll (l:List (Str×Str))(y:Str):List Str:=(l.filter λ p=>sEq y p.1).map (·.2)
theorem zV (l:List (Str×Str))(y:Str):((tab l).filter (CO y)).map zU=(getAll l y).map V.str:=by
 induction l with
 | nil=>rfl
 | cons p r ih=>
  show ((V.tup [.str p.1,.str p.2]::tab r).filter (CO y)).map zU=_
  unfold getAll at ih ⊢
  rw [WJ,WJ]
  have:CO y (V.tup [.str p.1,.str p.2])=sEq y p.1:=rfl
  rw [this]
  cases sEq y p.1
  ·exact ih
  ·show zU _::((tab r).filter (CO y)).map zU=_
   rw [ih];rfl
theorem wL (l:List (Str×Str)):(tab l).length=l.length:=Vl ..
theorem gU {l:List (Str×Str)}(h:l.length<=1000):(tab l).length<=sizeLine:=by
 rw [wL];exact Vd h (by decide)
theorem sZ (O:On C T (d+2) N)(H:Fx T A){n dk hk:Nat}{l:List (Str×Str)}(HT:aB A st n dk hk l)(hl:l.length<=1000){x:Str}{Q:QV}(hx:q9 x)(h2:Q (.lst ((getAll l (VX x)).map V.str)) st):
  CU C A.mq [.loc n,.str x] [] [] st Q X:=by
 refine O.func (kj:=[]) H.sX [("self",.loc n),("name",.str x)] (λ _ _=>.nil) rfl rfl ?_ rfl rfl λ C' O' T'=>?_
 ·intro q pm cd doc ct
  exact args2 λ a  b=>rfl
 ·obtain ⟨H1,H2,H3,H4⟩:=HT
  obtain ⟨Rt,MX,NG,Ru,NH⟩:=hx
  conv=>arg 3;arg 1;whnf
  walk_at "st"
  refine CU.cj (fE O' H NG NH ?_)
  repeat walk_at "py"
  walk_at "st"
  refine ay True _ (ff H3) trivial (⟨gU hl,?_⟩)
  show LW _ _ _ _ _ _ _ [((Ve "name"),V.str (VX x))] _ _ _ _ _
  refine LW.pure O' (CO (VX x)) zU ?hl (λ v hv=>?_) ?_
  ·exact ⟨_,ff H3⟩
  ·apply iu (h:=hv);intro p hp
   intro C2 O2
   have hp:=(H4 p hp).1.len
   repeat walk_at "py"
   refine ⟨λ hc=>?_,λ hc=>?_⟩
   ·refine ⟨hc.symm,?_⟩
    repeat walk_at "py"
    exact bY (eN rfl) rfl rfl
   ·refine ⟨hc.symm,?_⟩
    repeat walk_at "py"
    exact ⟨eN rfl,rfl⟩
  ·rw [Vz,zV]
   repeat walk_at "py"
   exact h2
noncomputable def Ft (y:Str)(v:V):Bool:=!(CO y v)
noncomputable def gj (l:List (Str×Str))(y:Str):List (Str×Str):=l.filter λ p=>!(sEq y p.1)
theorem CP (l:List (Str×Str))(y:Str):((tab l).filter (Ft y)).map id=tab (gj l y):=by
 induction l with
 | nil=>rfl
 | cons p r ih=>
  show ((V.tup [.str p.1,.str p.2]::tab r).filter (Ft y)).map id=_
  unfold gj at ih ⊢
  rw [WJ,WJ]
  have:Ft y (V.tup [.str p.1,.str p.2]) = !(sEq y p.1):=rfl
  rw [this]
  cases sEq y p.1
  ·show _::((tab r).filter (Ft y)).map id=_
   rw [ih];rfl
  ·exact ih
theorem vd (l:List (Str×Str))(y:Str):(gj l y).length<=l.length:=WD ..
theorem jN (O:On C T (d+2) N)(H:Fx T A){n dk hk:Nat}{l:List (Str×Str)}(HT:aB A st n dk hk l)(hl:l.length<=1000){x:Str}{Q:QV}(hx:q9 x)(h2:Q .none ⟨st.vars,af st.heap hk (.lst (tab (gj l (VX x))))⟩):
  CU C A.mj [.loc n,.str x] [] [] st Q X:=by
 refine O.func (kj:=[]) H.sW [("self",.loc n),("name",.str x)] (λ _ _=>.nil) rfl rfl ?_ rfl rfl λ C' O' T'=>?_
 ·intro q pm cd doc ct
  exact args2 λ a  b=>rfl
 ·obtain ⟨H1,H2,H3,H4⟩:=HT
  obtain ⟨Rt,MX,NG,Ru,NH⟩:=hx
  conv=>arg 3;arg 1;whnf
  walk_at "st"
  refine CU.cj (fE O' H NG NH ?_)
  repeat walk_at "py"
  walk_at "st"
  refine ay True _ (ff H3) trivial (⟨gU hl,?_⟩)
  show LW _ _ _ _ _ _ _ [((Ve "name"),V.str (VX x))] _ _ _ _ _
  refine LW.pure O' (Ft (VX x)) id ?hl (λ v hv=>?_) ?_
  ·exact ⟨_,ff H3⟩
  ·apply iu (h:=hv);intro p hp
   intro C2 O2
   have hp:=(H4 p hp).1.len
   repeat walk_at "py"
   refine ⟨λ hc=>?_,λ hc=>?_⟩
   ·refine ⟨hc.symm,?_⟩
    repeat walk_at "py"
    exact bY (eN rfl) rfl rfl
   ·refine ⟨hc.symm,?_⟩
    repeat walk_at "py"
    exact ⟨eN rfl,rfl⟩
  ·rw [Vz,CP]
   repeat walk_at "py"
   refine cu hk _ _ rfl (dG H3 rfl ?_ ?_)
   ·rw [wL,wL]
    exact Vd (V9 hl (Vd (vd l (VX x)) hl)) (by decide)
   repeat walk_at "py"
   exact h2
end
end
section
section
variable {C:Cx}{T:Th}{A:cN}{d:Nat}{N:List (Str×Vn)}{st:St}{X:XK}{kb:Nat}
theorem aB.ne {n dk hk:Nat}{l:List (Str×Str)}(HT:aB A st n dk hk l):n≠hk/\dk≠hk:=by
 constructor
 ·intro e;have:=HT.hi;rw [e,HT.hl] at this;cases this
 ·intro e;have:=HT.hd;rw [e,HT.hl] at this;cases this
theorem aB.put {n dk hk:Nat}{l l':List (Str×Str)}(HT:aB A st n dk hk l)(hf:∀ p∈l',q9 p.1/\DZ p.2){vars:List (Str×V)}:aB A ⟨vars,af st.heap hk (.lst (tab l'))⟩ n dk hk l' where
 hi:=by show J (af _ _ _) _=_;rw [cz HT.ne.1];exact HT.hi
 hd:=by show J (af _ _ _) _=_;rw [cz HT.ne.2];exact HT.hd
 hl:=aj
 fit:=hf
theorem yq (l:List (Str×Str))(p:Str×Str):tab l++[V.tup [.str p.1,.str p.2]]=tab (l++[p]):=by unfold tab;rw [VI];rfl
theorem Fv {l:List (Str×Str)}{y:Str}(h:∀ p∈l,q9 p.1/\DZ p.2):∀ p∈gj l y,q9 p.1/\DZ p.2:=λ p hp=>h p (dC.mp hp).1
end
namespace gz
noncomputable def aq (l:List (Str×Str))(x:Str)(st:St)(n hk:Nat)(v:Str)(C:Cx)(T:Th)(A:cN)(d:Nat)(N:List (Str×Vn))(X:XK)(dk:Nat)(Q:QV):Prop:=∀ (O:On C T (d+3) N) (H:Fx T A) (HT:aB A st n dk hk l) (hl:l.length<=1000) (hx:q9 x) (hv:DZ v) (h2:Q .none ⟨st.vars,af st.heap hk (.lst (tab (gj l (VX x)++[(x,v)])))⟩),CU C A.mh [.loc n,.str x,.str v] [] [] st Q X
noncomputable def S0:=HZ aq
noncomputable def ε:=eu (by walk_at "ne") S0
theorem here:S0 ε:=by
 intro O H HT hl hx hv h2
 refine O.func (kj:=[]) H.sV [("self",.loc ε.2.2.2.1),("name",.str ε.2.1),("val",.str ε.2.2.2.2.2.1)] (λ _ _=>.nil) rfl rfl ?_ rfl rfl (sk (ne:=neC) ?_)
 ·intro q pm cd doc ct
  exact Bc λ a  b  c=>rfl
 ·intro O' T'
  have D3:=HT
  obtain ⟨H1,H2,H3,H4⟩:=HT
  conv=>arg 3;arg 1;whnf
  walk_at "st"
  refine aC _ (H.sp H1 H2 rfl) (jN O' H D3.vars hl hx ?_)
  repeat walk_at "py"
  obtain ⟨G1,G2,G3,G4⟩:=D3.put (vars:=ε.2.2.1.vars) (l':=gj ε.1 (VX ε.2.1)) (Fv D3.fit)
  walk_at "st"
  refine CU.cj (fE O' H hx.sz hx.p9 ?_)
  repeat walk_at "py"
  refine CU.cj (fE O' H hv.sz hv.p9 ?_)
  have hz:(tab (gj ε.1 (VX ε.2.1))).length<=sizeLine:=gU (Vd (vd ε.1 _) hl)
  repeat walk_at "py"
  have q:=h2
  rw [<-yq,<-jI (h:=ε.2.2.1.heap) (k:=ε.2.2.2.2.1) (a:=.lst (tab (gj ε.1 (VX ε.2.1))))] at q
  exact q
end gz
theorem zW {C T A d N st X n dk hk l x v Q}:gz.aq l x st n hk v C T A d N X dk Q:=sk (S:=gz.S0) gz.here (l,x,st,n,hk,v,C,T,A,d,N,X,dk,Q)
section
variable {C:Cx}{T:Th}{A:cN}{d:Nat}{N:List (Str×Vn)}{st:St}{X:XK}{kb:Nat}
theorem yt (O:On C T (d+1) N)(H:Fx T A){n dk hk:Nat}{l:List (Str×Str)}(HT:aB A st n dk hk l)(hl:l.length<=1000){Q:QV}(h:Q (.lst (tab l)) st):CU C A.oN [.loc n] [] [] st Q X:=by
 refine O.func (kj:=[]) H.sY [("self",.loc n)] (λ _ _=>.nil) rfl rfl ?_ rfl rfl λ C' O' T'=>?_
 ·intro q pm cd doc ct
  exact args1 λ a=>rfl
 ·obtain ⟨H1,H2,H3,H4⟩:=HT
  conv=>arg 3;arg 1;whnf
  walk_at "st"
  refine ay _ _ (CL H3 rfl rfl rfl) ⟨λ e=>(aV e),gU hl⟩ ?_
  rw [Fd]
  repeat walk_at "py"
  exact h
theorem CQ (O:On C T (d+1) N)(H:Fx T A){n dk hk:Nat}{l:List (Str×Str)}(HT:aB A st n dk hk l)(hl:l.length<=1000){Q:QV}(h:Q (.loc (fresh st.heap)) (pP st (tab l))):CU C A.oN [.loc n] [] [] st Q X:=by
 refine O.func (kj:=[]) H.sY [("self",.loc n)] (λ _ _=>.nil) rfl rfl ?_ rfl rfl λ C' O' T'=>?_
 ·intro q pm cd doc ct
  exact args1 λ a=>rfl
 ·obtain ⟨H1,H2,H3,H4⟩:=HT
  conv=>arg 3;arg 1;whnf
  (with_reducible refine' ES.cons ?_)
  (with_reducible refine' ES.ret ?_)
  refine EV.Ct ?_
  repeat walk_at "py"
  refine fu _ (aT H3) (gU hl) ?_
  exact h
theorem Fw (l:List (Str×Str)):((tab l).filter (λ _=>true)).map zU=(l.map (·.2)).map V.str:=by
 rw [VU.mpr λ _ _=>rfl]
 unfold tab
 rw [VF,VF];rfl
theorem CR (O:On C T (d+1) N)(H:Fx T A){n dk hk:Nat}{l:List (Str×Str)}(HT:aB A st n dk hk l)(hl:l.length<=1000){Q:QV}(h:Q (.lst ((l.map (·.2)).map V.str)) st):CU C A.oM [.loc n] [] [] st Q X:=by
 refine O.func (kj:=[]) H.vc [("self",.loc n)] (λ _ _=>.nil) rfl rfl ?_ rfl rfl λ C' O' T'=>?_
 ·intro q pm cd doc ct
  exact args1 λ a=>rfl
 ·obtain ⟨H1,H2,H3,H4⟩:=HT
  conv=>arg 3;arg 1;whnf
  walk_at "st"
  refine ay True _ (ff H3) trivial (⟨gU hl,?_⟩)
  show LW _ _ _ _ _ _ _ [] _ _ _ _ _
  refine LW.pure O' (λ _=>true) zU ?hl (λ v hv=>?_) ?_
  ·exact ⟨_,ff H3⟩
  ·apply iu (h:=hv);intro p hp
   intro C2 O2
   repeat walk_at "py"
   exact bY (λ _ _ e=>aV e) rfl rfl
  ·rw [Vz,Fw]
   repeat walk_at "py"
   exact h
theorem NI {x:Str}:ke "; " [x]=x:=by
 obtain ⟨⟨l⟩⟩:=x;rfl
theorem ES.cut {C:Cx}{kb:Nat}{m:Sem Flow}{st st':St}{Q:Fl->St->Prop}{X:XK}(e:st=st')(h:ES C kb m st' Q X):ES C kb m st Q X:=e▸h
theorem Fy {P:List Vg->Prop}(h:∀ a b c,P [a,b,c])(xs:List Vg)(e:xs.length=3):P xs:=zR e λ a _ e=>p8 (P:=λ l=>P (a::l)) (h a) _ e
noncomputable def ai (ks:List Nat)(h h':List (Nat×MO)):Prop:=∀ k o,k∉ks->J h k=some o->J h' k=some o
theorem ai.refl {ks:List Nat}{h:List (Nat×MO)}:ai ks h h:=λ _ _ _ e=>e
theorem ai.trans {ks:List Nat}{h h' h'':List (Nat×MO)}(a:ai ks h h')(b:ai ks h' h''):ai ks h h'':=λ k o n e=>b k o n (a k o n e)
theorem ai.sub {ks ks':List Nat}{h h':List (Nat×MO)}(a:ai ks h h')(b:∀ k,k∈ks->k∈ks'):ai ks' h h':=λ k o n e=>a k o (λ q=>n (b k q)) e
theorem ai.new {ks:List Nat}{h h':List (Nat×MO)}{n:Nat}{o:MO}(a:ai ks h h')(e:J h n=none):ai ks h (af h' n o):=λ k o n e'=>(cz (λ q=>by rw [q,e] at e';exact aV e')).trans (a k o n e')
theorem ai.put {ks:List Nat}{h h':List (Nat×MO)}{n:Nat}{o:MO}(a:ai ks h h')(e:n∈ks):ai ks h (af h' n o):=λ k o n' e'=>(cz (λ q:k=n=>n' (by rw [q];exact e))).trans (a k o n' e')
theorem ai.at {ks:List Nat}{h h':List (Nat×MO)}{k:Nat}{o:MO}(a:ai ks h h')(e:J h k=some o)(n:k∉ks):J h' k=some o:=a k o n e
theorem aB.grow {ks:List Nat}{h':List (Nat×MO)}{vs:List (Str×V)}{n dk hk:Nat}{l:List (Str×Str)}(HT:aB A st n dk hk l)(g:ai ks st.heap h')(a:n∉ks)(b:dk∉ks)(c:hk∉ks):aB A ⟨vs,h'⟩ n dk hk l:=⟨g.at HT.hi a,g.at HT.hd b,g.at HT.hl c,HT.fit⟩
theorem aB.lg {h':List (Nat×MO)}{n dk hk:Nat}{l:List (Str×Str)}(HT:aB A st n dk hk l)(g:ai [] st.heap h'):aB A ⟨[],h'⟩ n dk hk l:=HT.grow g (Vr) (Vr) (Vr)
end
namespace oO
noncomputable def aq (v:Str)(st:St)(x:Str)(n:Nat)(l:List (Str×Str))(C:Cx)(T:Th)(A:cN)(d:Nat)(N:List (Str×Vn))(X:XK)(dk hk:Nat)(Q:QV):Prop:=∀ (O:On C T (d+2) N) (H:Fx T A) (HT:aB A st n dk hk l) (hl:l.length<=1000) (hx:q9 x) (hv:DZ v) (hvl:v.length<=1000) (h2:∀ h',ai [hk] st.heap h'->aB A ⟨st.vars,h'⟩ n dk hk (l++[(x,v)])->Q .none ⟨st.vars,h'⟩),CU C A.Bd [.loc n,.str x,.str v] [] [] st Q X
noncomputable def S0:=HZ aq
noncomputable def ε:=eu (by walk_at "ne") S0
theorem here:S0 ε:=by
 intro O H HT hl hx hv hvl h2
 refine O.Nt H.Fg [("self",.loc ε.2.2.2.1),("_name",.str ε.2.2.1),("_value",.str ε.1)] "_params" rfl rfl ?_ rfl rfl λ C' O' T' _=>?_
 ·intro q pm cd doc ct
  exact Fy λ a b c=>rfl
 ·have D3:=HT
  obtain ⟨H1,H2,H3,H4⟩:=HT
  conv=>arg 3;arg 1;whnf
  walk_at "st"
  walk_at "own"
  generalize hf:fresh ε.2.1.heap=f
  have fn:J ε.2.1.heap f=none:=hf▸aA _
  have g1:ai [] ε.2.1.heap (af ε.2.1.heap f (.lst [])):=ai.refl.new fn
  have k1:J (af ε.2.1.heap f (.lst [])) f=some (.lst []):=aj
  refine ES.cut (st':=⟨[("self",.loc ε.2.2.2.1),("_name",.str ε.2.2.1),("_value",.str ε.1),("_params",.ku),("parts",.loc f)],af ε.2.1.heap f (.lst [])⟩) (by subst hf;rfl) ?_
  generalize af ε.2.1.heap f (.lst [])=h1 at *
  obtain ⟨A1,A2,A3,A4⟩:=D3.lg g1
  walk_at "st"
  walk_at "st"
  refine CU.cj (fE O' H hv.sz hv.p9 ?_)
  repeat walk_at "py"
  walk_at "st"
  have g2:ai [] ε.2.1.heap (af h1 f (.lst [.str ε.1])):=g1.new fn
  have k2:J (af h1 f (.lst [.str ε.1])) f=some (.lst [.str ε.1]):=aj
  refine ES.cut (st':=⟨[("self",.loc ε.2.2.2.1),("_name",.str ε.2.2.1),("_value",.str ε.1),("_params",.ku),("parts",.loc f)],af h1 f (.lst [.str ε.1])⟩) rfl ?_
  generalize af h1 f (.lst [.str ε.1])=h3 at *
  obtain ⟨B1,B2,B3,B4⟩:=D3.lg g2
  (with_reducible refine' ES.cons ?_)
  refine O'.wA T' rfl (tg:=rZ) ⟨_,_,_,rfl⟩ (O'.zP rfl rfl rfl H.sys ?_)
  refine ⟨f,VD _,⟨trivial,trivial⟩,trivial,?_⟩
  repeat walk_at "py"
  walk_at "st"
  refine CU.cj (fE O' H hx.sz hx.p9 ?_)
  repeat walk_at "py"
  refine CJ.join (ys:=[ε.1]) (aT k2) (by decide) ?_ ?_
  ·show ε.1.length+0+1<=_
   exact Vd (WN hvl) (by decide)
  rw [NI]
  have hz:=gU hl
  repeat walk_at "py"
  refine h2 _ ((g2.sub λ k e=>nomatch e).put (Vi.mpr rfl)) ?_
  have q:=(D3.grow g2 Vr Vr Vr (vs:=ε.2.1.vars)).put (vars:=ε.2.1.vars) (l':=ε.2.2.2.2.1++[(ε.2.2.1,ε.1)]) λ p hp=>(Wa.mp hp).elim (D3.fit p) λ e=>by
   obtain rfl:=Vi.mp e;exact ⟨hx,hv⟩
  rw [<-yq] at q
  exact q
end oO
theorem s7 {C T A d N st X n dk hk l x v Q}:oO.aq v st x n l C T A d N X dk hk Q:=sk (S:=oO.S0) oO.here (v,st,x,n,l,C,T,A,d,N,X,dk,hk,Q)
end
section
section
variable {C:Cx}{T:Th}{A:cN}{d:Nat}{N:List (Str×Vn)}{st:St}{X:XK}{kb:Nat}
noncomputable def Kn (n hk:Nat)(h:List (Nat×MO))(rv:List V)(s:St):Prop:=∃ r ex,rv=tab r/\s=⟨[((Ve "self"),V.loc n),("headers",V.loc hk)]++ex,h⟩/\(ex=[]\/∃ a b,ex=[((Ve "k"),a),("v",b)])/\(∀ p∈r,q9 p.1/\DZ p.2)
end
namespace mu
noncomputable def aq (hk dk:Nat)(st:St)(n:Nat)(l:List (Str×Str))(A:cN)(C:Cx)(T:Th)(d:Nat)(N:List (Str×Vn))(X:XK)(Q:QV):Prop:=∀ (O:On C T (d+2) N) (H:Fx T A) (h1:J st.heap n=some (.inst A.hdr dk)) (h2:J st.heap dk=some (.dict [])) (h3:J st.heap hk=some (.lst (tab l))) (hf:∀ p∈l,q9 p.1/\DZ p.2) (hne:dk≠hk) (hnd:n≠dk) (h:Q .none ⟨st.vars,af st.heap dk (.dict [("_headers",.loc hk)])⟩),CU C A.sR [.loc n,.loc hk] [] [] st Q X
noncomputable def S0:=OG aq
noncomputable def ε:=eu (by walk_at "ne") S0
theorem here:S0 ε:=by
 intro O H h1 h2 h3 hf hne hnd h
 refine aI (λ dV hfn hb=>?_) H.Bj
 refine O.func (kj:=[]) hfn [("self",.loc ε.2.2.2.1),("headers",.loc ε.1)] (λ _ _=>.nil) rfl rfl ?_ rfl rfl (sk (ne:=neC) ?_)
 ·intro q pm cd doc ct
  exact args2 λ a  b=>hb _ _ _ _ _ _ _ _ _
 ·intro O' T'
  conv=>arg 3;arg 1;whnf
  walk_at "st"
  walk_at "st"
  refine CJ.Cn (aT h3) ?_
  repeat walk_at "py"
  walk_at "st"
  refine aC _ (wB h1 h2 H.Kl rfl) ?_
  repeat walk_at "py"
  walk_at "st"
  have e1:J (af ε.2.2.1.heap ε.2.1 (.dict [(Ve "_headers",.loc ε.1)])) ε.1=some (.lst (tab ε.2.2.2.2.1)):=(cz hne.symm).trans h3
  have e2:J (af ε.2.2.1.heap ε.2.1 (.dict [(Ve "_headers",.loc ε.1)])) ε.2.2.2.1=some (.inst ε.2.2.2.2.2.1.hdr ε.2.1):=(cz hnd).trans h1
  have e3:J (af ε.2.2.1.heap ε.2.1 (.dict [(Ve "_headers",.loc ε.1)])) ε.2.1=some (.dict [(Ve "_headers",.loc ε.1)]):=aj
  have hlt:=yj h3
  refine ES.cut (st':=⟨[("self",.loc ε.2.2.2.1),("headers",.loc ε.1)],af ε.2.2.1.heap ε.2.1 (.dict [(Ve "_headers",.loc ε.1)])⟩) rfl ?_
  generalize af ε.2.2.1.heap ε.2.1 (.dict [(Ve "_headers",.loc ε.1)])=hp at *
  (with_reducible refine' ES.cons ?_)
  refine O'.Nv T' rfl ?_
  repeat walk_at "py"
  refine ay _ (fresh ε.2.2.1.heap) (VD _) hlt (⟨aT e1,?_⟩)
  refine jl.ind (I:=Kn ε.2.2.2.1 ε.1 hp) ?_ ?_ _ _ ⟨ε.2.2.2.2.1,[],rfl,rfl,.inl rfl,hf⟩
  ·intro s;refine ak λ r ex hr e_=>qA λ hex hfit=>?_;subst e_
   refine ⟨aT e1,?_⟩
   rcases hex with rfl | ⟨a,b,rfl⟩
   ·repeat walk_at "py"
    exact h
   ·repeat walk_at "py"
    exact h
  ·intro v rv s;refine ak λ r ex hr e_=>qA λ hex hfit=>?_;subst e_
   obtain ⟨p,r,rfl⟩:∃ p r',r=p::r':=by induction r using VY with | nil=>cases hr | cons p r=>exact rD p r rfl
   cases hr
   refine ⟨aT e1,λ C2 O2 T2=>?_⟩
   refine qA (λ hx hv=>?_) (hfit p (VC ..))
   have fin:∀ ex' s',(∃ a b,ex'=[((Ve "k"),a),("v",b)])->s'=(⟨[((Ve "self"),V.loc ε.2.2.2.1),("headers",V.loc ε.1)]++ex',hp⟩:St)->Kn ε.2.2.2.1 ε.1 hp (tab r) s':=
    λ ex' s' h3 h4=>⟨r,ex',rfl,h4,.inr h3,λ q hq=>hfit q (VH _ hq)⟩
   rcases hex with rfl | ⟨a,b,rfl⟩
   ·repeat walk_at "py"
    walk_at "st"
    refine CU.cj (fE O2 H hx.sz hx.p9 ?_)
    repeat walk_at "py"
    walk_at "st"
    refine CU.cj (fE O2 H hv.sz hv.p9 ?_)
    repeat walk_at "py"
    exact fin _ _ (rD _ _ rfl) rfl
   ·repeat walk_at "py"
    walk_at "st"
    refine CU.cj (fE O2 H hx.sz hx.p9 ?_)
    repeat walk_at "py"
    walk_at "st"
    refine CU.cj (fE O2 H hv.sz hv.p9 ?_)
    repeat walk_at "py"
    exact fin _ _ (rD _ _ rfl) rfl
end mu
theorem IP {C T A d N st X n dk hk l Q}:mu.aq hk dk st n l A C T d N X Q:=sk (S:=mu.S0) mu.here (hk,dk,st,n,l,A,C,T,d,N,X,Q)
section
variable {C:Cx}{T:Th}{A:cN}{d:Nat}{N:List (Str×Vn)}{st:St}{X:XK}{kb:Nat}
theorem aY {h:List (Nat×MO)}{n m:Nat}{o:MO}(e:J h n=some o)(e2:J h m=none):n≠m:=by rintro rfl;rw [e] at e2;exact jB e2.symm
theorem rB (O:On C T (d+3) N)(H:Fx T A){hk:Nat}{l:List (Str×Str)}{Q:QV}(h3:J st.heap hk=some (.lst (tab l)))(hf:∀ p∈l,q9 p.1/\DZ p.2)
  (h:∀ n dk h',ai [] st.heap h'->aB A ⟨st.vars,h'⟩ n dk hk l->J st.heap n=none->J st.heap dk=none->Q (.loc n) ⟨st.vars,h'⟩):CJ C (.con (.ref A.hdr)) [.loc hk] [] [] st Q X:=by
 refine fJ (λ m1 m2 m3=>?_) (H.meth "__init__" A.sR rfl)
 refine CJ.Nx O H.makes m2 m3 λ C' O'=>?_
 have n1:hk≠fresh st.heap:=aY h3 (aA _)
 have k1:J (af st.heap (fresh st.heap) (.dict [])) (fresh st.heap)=some (.dict []):=aj
 have k2:J (af st.heap (fresh st.heap) (.dict [])) hk=some (.lst (tab l)):=by rw [cz n1];exact h3
 have n2:hk≠cB st:=aY k2 (aA _)
 have n3:fresh st.heap≠cB st:=aY k1 (aA _)
 have f1:J st.heap (fresh st.heap)=none:=aA _
 have f2:J st.heap (cB st)=none:=by
  cases e:J st.heap (cB st) with
  | none=>rfl
  | some o=>
   have e0:J (af st.heap (fresh st.heap) (.dict [])) (cB st)=none:=aA _
   rw [cz n3.symm,e] at e0;exact aV e0.symm
 refine IP O' H (st:=v8 st A.hdr) (n:=cB st) (dk:=fresh st.heap) (hk:=hk) (l:=l) aj ((cz n3).trans k1) ((cz n2).trans k2) hf n1.symm n3.symm ⟨rfl,?_⟩
 refine h (cB st) (fresh st.heap) _ (((ai.refl.new f1).new f2).new f1) ⟨(cz n3.symm).trans aj,aj,(cz n1).trans ((cz n2).trans k2),hf⟩ f2 f1
theorem zX (O:On C T (d+2) N) (H:Fx T A) {fd:WH} (L:A5 fd) {cell:Addr} (hcl:fd.closure.lookup ("kit" : Str)=some cell) (hcell:C.env.cells.lookup ("kit" : Str)=some cell) {names rest:List V} (hv:az st.vars "kit" = some (.tup (.lst names::rest)))
  {k:Nat} (hk:k<=1000) {nm:Str} (hn:bq names k=some (.str nm)) {Q:QV} (h:Q (.tup [.str nm,.str nm]) st):CU C A.yk [.int (k:Nat),.lam fd] [] [] st Q X:=by
 refine O.Nt H.zT [("name_index",.int (k:Nat)),("get_name",.lam fd)] "extrainfo" rfl rfl ?_ rfl rfl λ C' O' T' hcap=>?_
 ·intro q pm cd doc ct
  exact p8 λ a b=>rfl
 ·have cap:=hcap _ _ _ hcell hv
  conv=>arg 3;arg 1;whnf
  walk_at "st"
  walk_at "st"
  refine O'.Kd rfl H.sys rfl rfl rfl rfl ?_
  repeat walk_at "py"
  refine aC none rfl (CJ.lam O'.toGood L hcl cap hk hn ?_)
  repeat walk_at "py"
  walk_at "st"
  exact h
theorem zY (O:On C T (d+3) N)(H:Fx T A){n dk hk:Nat}{l:List (Str×Str)}(HT:aB A st n dk hk l){x:Str}{dv:V}{Q:QV}(hx:q9 x)
  (h2:Q (.tup [ko dv (mU l (VX x)),ko dv (mU l (VX x))]) st) :
  CU C A.yk [.str x,.bm (.ref A.jm) (.loc n)] [Ve "default"] [dv] st Q X:=by
 refine O.Kf H.zT [("name_index",.str x),("get_name",.bm (.ref A.jm) (.loc n))] "extrainfo" (some ("default",dv)) rfl rfl ?_ rfl rfl λ C' O' T' _=>?_
 ·intro q pm cd doc ct xs hl oy ho
  induction oy with
  | none=>exact nomatch ho
  | some p=>
   obtain ⟨n,y⟩:=p
   obtain rfl:n=Ve "default":=Vf ho
   revert xs
   exact p8 λ a b=>rfl
 ·conv=>arg 3;arg 1;whnf
  walk_at "st"
  walk_at "st"
  refine O'.Kd rfl H.sys rfl rfl rfl (H.kpb (by walk_at "mem")) ?_
  repeat walk_at "py"
  refine aC (some ("default",dv)) rfl (CU.bound (IM O' H HT.vars hx ?_))
  repeat walk_at "py"
  walk_at "st"
  exact h2
theorem FD (O:On C T (d+1) N)(H:Fx T A){c:Nat}{Q:QV}(h:Q (.bool (fT c)) st):CU C A.Be [.str ⟨#[c]⟩] [] [] st Q X:=by
 refine O.func (kj:=[]) H.Fj [("code",.str ⟨#[c]⟩)] (λ _ _=>.nil) rfl rfl ?_ rfl rfl λ C' O' T'=>?_
 ·intro q pm cd doc ct
  exact args1 λ a=>rfl
 ·conv=>arg 3;arg 1;whnf
  (with_reducible refine' ES.cons ?_)
  (with_reducible refine' ES.ret ?_)
  refine EV.La rfl ?_
  repeat walk_at "py"
  refine cu _ _ _ rfl (bY rfl (H.b1 C' O'.K O'.prog O'.w) ?_)
  repeat walk_at "py"
  exact h
theorem Br (a b:Nat):Xw (a:Int) (b:Int)=((a&&& b:Nat):Int):=by
 unfold Xw
 rw [decide_eq_true (V0 a),decide_eq_true (V0 b)];rfl
theorem Lk (a b:Nat):YV (a:Int) (b:Int)=((a||| b:Nat):Int):=by
 have e:∀ n:Nat,XR (n:Int)=en n:=λ n=>by unfold XR;lia
 have e2:∀ n:Nat,XR (en n)=(n:Int):=λ n=>by unfold XR;lia
 unfold YV
 rw [e,e]
 unfold Xw
 rw [decide_eq_false (by lia),decide_eq_false (by lia)]
 show XR (XR (((XR (en a)).toNat||| (XR (en b)).toNat:Nat):Int))=_
 rw [e2,e2,e,e2];rfl
theorem IQ (m y:Nat)(h:y<64):YV ((m:Int)*2^(6:Int).toNat) (y:Int)=((m*64+y:Nat):Int):=by
 have:((m:Int)*2^(6:Int).toNat)=((m*64:Nat):Int):=by show (m:Int)*2^6=_;lia
 rw [this,Lk]
 have q:=Nat.two_pow_add_eq_or_of_lt (i:=6) h m
 rw [Nat.mul_comm m 64]
 show (((64*m)||| y:Nat):Int)=_
 rw [<-q]
theorem NJ (n:Nat):n&&& 63=n%64:=Nat.and_two_pow_sub_one_eq_mod n 6
end
end
section
section
variable {C:Cx}{T:Th}{A:cN}{d:Nat}{N:List (Str×Vn)}{st:St}{X:XK}{kb:Nat}
noncomputable def ng (c:Nat):Str:=(B3 c).getD (VX ⟨#[c]⟩)
end
namespace oQ
noncomputable def aq (c:Nat)(C:Cx)(T:Th)(A:cN)(d:Nat)(N:List (Str×Vn))(st:St)(X:XK)(Q:QV):Prop:=∀ (O:On C T (d+1) N) (H:Fx T A) (h:Q (.str (ng c)) st),CU C A.Bf [.str ⟨#[c]⟩] [] [] st Q X
noncomputable def S0:=u9 aq
noncomputable def ε:=eu (by walk_at "ne") S0
theorem here:S0 ε:=by
 intro O H h
 refine O.func (kj:=[]) H.Fo [("code",.str ⟨#[ε.1]⟩)] (λ _ _=>.nil) rfl rfl ?_ rfl rfl (sk (ne:=neC) ?_)
 ·intro q pm cd doc ct
  exact args1 λ a=>rfl
 ·intro O' T'
  refine fq (λ f hI f1 f2=>?_) (H.b3 _ O'.K O'.prog O'.w)
  conv=>arg 3;arg 1;whnf
  (with_reducible refine' ES.cons ?_)
  walk_at "py"
  refine EV.IJ rfl rfl rfl ?_
  repeat walk_at "py"
  refine aC _ (wc.oA hI) (O'.args rfl rfl rfl ?_)
  repeat walk_at "py"
  unfold ng at h
  cases hb:B3 ε.1 with
  | some s=>
   rw [hb] at h
   refine qE (λ t ht=>?_) (f1 _ _ hb)
   refine EL.Rl (CJ.oA hI (v:=.str s) (λ F ρ s' R=>by rw [ht];exact .str _ _) ?_)
   repeat walk_at "py"
   repeat walk_at "st"
   exact h
  | none=>
   rw [hb] at h
   have hsz:(⟨#[ε.1]⟩:Str).length<=5592405:=by show 1<=5592405;decide
   refine EL.Rl (CJ.oA hI (v:=.none) (λ F ρ s' R=>by rw [f2 _ hb];exact .none) ?_)
   repeat walk_at "py"
   walk_at "st"
   walk_at "st"
   exact h
end oQ
theorem Ll {C T A d N st X c Q}:oQ.aq c C T A d N st X Q:=sk (S:=oQ.S0) oQ.here (c,C,T,A,d,N,st,X,Q)
end
noncomputable def bW (v:Nat)(u:Bool):Str:=match v,u with
 | 0,false=>"fi"
 | 0,true=>"FI"
 | 1,false=>"st"
 | 1,true=>"ST"
 | _,false=>"ss"
 | _,true=>"SS"
structure Row where
 v:Nat
 u:Bool
 n:Int
noncomputable def Row.s (r:Row):Str×Str:=(bW r.v r.u,aQ r.n)
noncomputable def Row.ok (r:Row):Prop:=r.v<3/\0<=r.n/\r.n<9973
theorem nR {α:Type}{ne:Nonempty α}{S:α->Prop}(h:S (eu ne S))(a:α):S a:=sk h a
theorem neLR:Nonempty (List Row):=⟨[]⟩
local macro_rules | `(tactic| walk_at "ne1") => Ef "neLR"
noncomputable def tabS (l:List Row):List (Str×Str):=l.map Row.s
noncomputable def jn:List Row->Nat->Option Int
 | [],_=>none
 | r::l,v=>bif Vo r.v v then some r.n else jn l v
noncomputable def cK (l:List Row)(v:Nat):List Row:=l.filter λ r=>!(Vo r.v v)
noncomputable def allR (l:List Row)(v:Nat):List Int:=(l.filter λ r=>Vo r.v v).map (·.n)
noncomputable def Lm (P:Nat->Prop):Nat->Prop:=Nat.rec True λ n a=>a/\P n
theorem fF {P:Nat->Prop}{n:Nat}:Lm P n->∀ v,v<n->P v:=by
 induction n with
 | zero=>exact λ _ _ h=>absurd h (Nat.not_lt_zero _)
 | succ n ih=>exact λ q v h=>(Nat.lt_succ_iff_lt_or_eq.mp h).elim (ih q.1 v) λ e=>e▸q.2
theorem yu {P:Nat->Prop}(h0:P 0)(h1:P 1)(h2:P 2)(v:Nat)(hv:v<3):P v:=fF (n:=3) ⟨⟨⟨trivial,h0⟩,h1⟩,h2⟩ v hv
theorem qa (v:Nat)(hv:v<3)(u:Bool):VX (bW v u)=bW v false:=by
 induction u
 ·exact yu (P:=λ v=>VX (bW v false)=bW v false) (by decide +kernel) (by decide +kernel) (by decide +kernel) v hv
 ·exact yu (P:=λ v=>VX (bW v true)=bW v false) (by decide +kernel) (by decide +kernel) (by decide +kernel) v hv
theorem FE (v:Nat)(hv:v<3):XY (bW v false)=bW v true:=yu (P:=λ v=>XY (bW v false)=bW v true) (by decide +kernel) (by decide +kernel) (by decide +kernel) v hv
theorem jo (v:Nat)(hv:v<3)(u:Bool):q9 (bW v u):=by
 induction u
 ·exact yu (P:=λ v=>q9 (bW v false)) ⟨by decide +kernel,by decide +kernel,by decide +kernel,by decide +kernel,by decide +kernel⟩ ⟨by decide +kernel,by decide +kernel,by decide +kernel,by decide +kernel,by decide +kernel⟩ ⟨by decide +kernel,by decide +kernel,by decide +kernel,by decide +kernel,by decide +kernel⟩ v hv
 ·exact yu (P:=λ v=>q9 (bW v true)) ⟨by decide +kernel,by decide +kernel,by decide +kernel,by decide +kernel,by decide +kernel⟩ ⟨by decide +kernel,by decide +kernel,by decide +kernel,by decide +kernel,by decide +kernel⟩ ⟨by decide +kernel,by decide +kernel,by decide +kernel,by decide +kernel,by decide +kernel⟩ v hv
theorem FF (v:Nat)(hv:v<3)(v':Nat)(hv':v'<3)(u:Bool):sEq (bW v false) (bW v' u)=Vo v' v:=by
 unfold sEq
 rw [qa v' hv' u]
 exact yu (P:=λ v=>((bW v' false).cps.toList==(bW v false).cps.toList)=Vo v' v)
  (yu (P:=λ v'=>((bW v' false).cps.toList==(bW 0 false).cps.toList)=Vo v' 0) (by decide +kernel) (by decide +kernel) (by decide +kernel) v' hv')
  (yu (P:=λ v'=>((bW v' false).cps.toList==(bW 1 false).cps.toList)=Vo v' 1) (by decide +kernel) (by decide +kernel) (by decide +kernel) v' hv')
  (yu (P:=λ v'=>((bW v' false).cps.toList==(bW 2 false).cps.toList)=Vo v' 2) (by decide +kernel) (by decide +kernel) (by decide +kernel) v' hv') v hv
noncomputable def uC (y:Str):Prop:=∀ v u,v<3->sEq y (bW v u)=false
theorem iJ {y:Str}(h:(sB (bW 0 false) y||sB (bW 1 false) y||sB (bW 2 false) y)=false):uC y:=λ v u hv=>by
 unfold sEq
 rw [qa v hv u]
 have h':=ZK.mp h
 have h'':=ZK.mp h'.1
 have go:∀ {a:Str},sB a y=false->(a.cps.toList==y.cps.toList)=false:=λ {a} q=>by
  rw [beq_eq_false_iff_ne]
  intro e
  exact lO (q.symm.trans (show B6 _ _=true from xm.mpr e))
 exact yu (P:=λ v=>((bW v false).cps.toList==y.cps.toList)=false) (go h''.1) (go h''.2) (go h'.2) v hv
theorem s8 {n:Int}(h0:0<=n):∀ c∈(aQ n).cps.toList,48<=c/\c<=57:=by
 refine qE (λ m e_=>?_) (Zb h0);subst e_
 intro c hc
 unfold aQ at hc
 rw [PySem.W.KIN.signs_num] at hc
 refine qL (λ ch hch e=>?_) hc
 rw [<-e]
 exact digit_range (Nat.isDigit_of_mem_toDigits (by decide) (by decide) hch)
theorem mw {n:Int}(h0:0<=n)(h1:n<9973):(aQ n).length<=10:=PySem.W.KT.len_num h0 (Yc h1 (by decide))
theorem nS {n:Int}(h0:0<=n)(h1:n<9973):DZ (aQ n):=by
 refine ⟨Vd (mw h0 h1) (by decide),?_⟩
 rw [Array.any_eq_false']
 intro c hc
 refine qA (λ a b=>?_) (s8 h0 c (by simpa using hc))
 show ¬ (((Wn c 31&&!(Vo c 9))||Vo c 127)=true)
 have e1:Wn c 31=false:=Wm.mpr λ q=>absurd (Vd a (VQ q)) (by decide)
 have e2:Vo c 127=false:=Wm.mpr λ q=>absurd (Vd (VK (uq.mp q).symm) b) (by decide)
 rw [e1,e2];exact Vp
theorem oR {l:List Row}(h:∀ r∈l,r.ok):∀ p∈tabS l,q9 p.1/\DZ p.2:=λ p hp=>by
 apply iu (h:=hp);intro r hr
 refine fJ (λ a b c=>?_) (h r hr)
 exact ⟨jo _ a _,nS b c⟩
theorem oS {l:List Row}(h:∀ r∈l,r.ok){v:Nat}(hv:v<3):mU (tabS l) (bW v false)=(jn l v).map aQ:=by
 induction l with
 | nil=>rfl
 | cons r l ih=>
  have hr:=h r (VC ..)
  show (bif sEq (bW v false) (bW r.v r.u) then some (aQ r.n) else mU (tabS l) (bW v false))=(bif Vo r.v v then some r.n else jn l v).map aQ
  rw [FF v hv r.v hr.1,ih λ q hq=>h q (VH _ hq)]
  cases Vo r.v v<;>rfl
theorem tn {l:List Row}(h:∀ r∈l,r.ok){v:Nat}(hv:v<3):gj (tabS l) (bW v false)=tabS (cK l v):=by
 unfold gj tabS cK
 rw [XZ]
 exact congrArg (XS Row.s) (XD λ r hr=>congrArg (!·) (FF v hv r.v (h r hr).1 r.u))
theorem iK {l:List Row}(h:∀ r∈l,r.ok){v:Nat}(hv:v<3):getAll (tabS l) (bW v false)=(allR l v).map aQ:=by
 unfold getAll tabS allR
 rw [XZ,VF,VF]
 exact congrArg (XS (aQ∘(·.n))) (XD λ r hr=>FF v hv r.v (h r hr).1 r.u)
theorem yw {l:List Row}(h:∀ r∈l,r.ok){y:Str}(hy:uC y):gj (tabS l) y=tabS l:=VU.mpr λ p hp=>by
 apply iu (h:=hp);intro r hr
 show (!(sEq y (bW r.v r.u)))=true
 rw [hy r.v r.u (h r hr).1];rfl
theorem Bs {l:List Row}(h:∀ r∈l,r.ok){y:Str}(hy:uC y):mU (tabS l) y=none:=by
 induction l with
 | nil=>rfl
 | cons r l ih=>
  show (bif sEq y (bW r.v r.u) then some (aQ r.n) else mU (tabS l) y)=_
  rw [hy r.v r.u (h r (VC ..)).1]
  exact ih λ q hq=>h q (VH _ hq)
theorem ve {l:List Row}(h:∀ r∈l,r.ok){y:Str}(hy:uC y):getAll (tabS l) y=[]:=by
 unfold getAll
 rw [Yx.mpr λ p hp=>?_]
 ·rfl
 ·apply iu (h:=hp);intro r hr
  show ¬ (sEq y (bW r.v r.u)=true)
  rw [hy r.v r.u (h r hr).1];decide
theorem tu {l:List Row}(h:∀ r∈l,r.ok)(v:Nat):∀ r∈cK l v,r.ok:=λ r hr=>h r (dC.mp hr).1
theorem rC {l:List Row}(h:∀ r∈l,r.ok){a:Row}(ha:a.ok):∀ r∈l++[a],r.ok:=λ r hr=>(Wa.mp hr).elim (h r) λ q=>by rw [Vi.mp q];exact ha
theorem qb {l:List Row}{a:Row}:tabS l++[a.s]=tabS (l++[a]):=by unfold tabS;rw [VI];rfl
section
noncomputable def bz (l:List Nat):List V:=l.map λ n=>V.int (n:Nat)
noncomputable def nh (a:Nat)(p:List Nat):Nat:=p.foldl (λ v b=>v*64+b%64) a
noncomputable def wM (b:Nat):List Nat->Prop
 | []=>b/64%2=0
 | c::r=>b/64%2=1/\wM c r
theorem IS (r:List Nat):∀ val:Nat,val<=nh val r:=by
 induction r with
 | nil=>exact λ _=>VD _
 | cons c r ih=>exact λ val=>Vd (Vd (Nat.le_mul_of_pos_right val (by decide)) (Vw _ _)) (ih (val*64+c%64))
theorem NK (b:Nat)(h:b<256):b&&& 64=if b/64%2=1 then 64 else 0:=by
 have q:∀ b:Fin 256,b.val&&& 64=if b.val/64%2=1 then 64 else 0:=by decide +kernel
 exact q ⟨b,h⟩
theorem Ko {b:Nat}(h:b<256):(b/64%2=1->Xw (b:Int) 64=64)/\(b/64%2=0->Xw (b:Int) 64=0):=by
 have e:Xw (b:Int) 64=((b&&& 64:Nat):Int):=Br b 64
 rw [e,NK b h]
 refine ⟨λ q=>?_,λ q=>?_⟩
 ·rw [if_pos q];rfl
 ·rw [if_neg (by rw [q];decide)];rfl
theorem FH (b:Nat):Xw (b:Int) 63=((b%64:Nat):Int):=(Br b 63).trans (congrArg ZV (NJ b))
theorem eO {vs vs':List (Str×V)}{h:List (Nat×MO)}{k j:Nat}{src:V}{m:MO}{L:List V}(hk:J h k=some (.it src j))(hs:aE ⟨vs,h⟩ src=some L):aE ⟨vs',af h k m⟩ src=some L:=by
 induction src using V.casesOn with
 | loc n=>
  have e:=dm hs
  have hne:n≠k:=λ q=>by rw [q] at e;exact nomatch (show some (MO.it (V.loc n) j)=some (MO.lst L) from hk.symm.trans e)
  exact aT ((cz hne).trans e)
 | _=>exact hs
section
variable {C:Cx}{T:Th}{A:cN}{d:Nat}{N:List (Str×Vn)}{st:St}{X:XK}{kb:Nat}
noncomputable def IT (l:List Stmt)(i:Nat):Expr×List Stmt:=match l[i]? with
 | some (Stmt.While t b _ _)=>(t,b)
 | _=>(default,[])
noncomputable abbrev NL (k b val:Nat)(h:List (Nat×MO)):St:=⟨[((Ve "iterator"),V.loc k),("b",V.int (b:Nat)),("val",V.int (val:Nat))],h⟩
theorem IU (O:On C T (d+1) N)(H:Fx T A)(hN:N=(aO (aJ 12)).names){k:Nat}{src:V}{L rest:List V}{Q:Fl->St->Prop}{test:Expr}{body:List Stmt}(hw:IT (bodyOf (aJ 12)) 2=(test,body)):
  ∀ (r:List Nat) (b val j:Nat) (h:List (Nat×MO)),nh val r<2^62->wM b r->b<256->(∀ c∈r,c<256)->J h k=some (.it src j)->aE ⟨[],h⟩ src=some L->L.drop j=bz r++rest->
   (∀ b',Q .next (NL k b' (nh val r) (af h k (.it src (j+r.length)))))->DY C kb test body Q X (r.length+1) (NL k b val h):=by
 subst hN
 refine qP (λ e_ cg=>?_) hw;subst e_ cg
 intro r
 induction r with
 | nil=>
  intro b val j h hv0 ht hb hr hk hs hd q
  refine DY.more ?_
  conv=>arg 2;arg 1;whnf
  repeat walk_at "py"
  rw [(Ko hb).2 ht]
  repeat walk_at "py"
  have:=q b
  rw [show j+([]:List Nat).length=j from rfl,fS hk] at this
  exact this
 | cons c r ih=>
  intro b val j h hv0 ht hb hr hk hs hd q
  refine DY.more ?_
  conv=>arg 2;arg 1;whnf
  repeat walk_at "py"
  rw [(Ko hb).1 ht.1]
  repeat walk_at "py"
  refine fJ (λ hlt hv hd2=>?_) (drop_cons (l:=L) (i:=j) (v:=V.int (c:Nat)) (r:=bz r++rest) hd)
  have S9:(val:Int).natAbs<2^62:=VB (IS (c::r) val) hv0
  walk_at "st"
  walk_at "st"
  refine CJ.next hk (eO (m:=.it src j) hk hs |> λ q=>by rw [fS hk] at q;exact q) ((bI ..).trans hv) ?_
  repeat walk_at "py"
  walk_at "st"
  rw [FH,IQ val (c%64) (Vy _ (by decide))]
  repeat walk_at "py"
  have nk:J (af h k (.it src (j+1))) k=some (.it src (j+1)):=aj
  refine ih c (val*64+c%64) (j+1) (af h k (.it src (j+1))) hv0 ht.2 (hr c (VC ..)) (λ x hx=>hr x (VH _ hx)) nk (eO hk hs) hd2 λ b'=>?_
  have:=q b'
  rw [jI,show j+1+r.length=j+(c::r).length from Wh j 1 _]
  exact this
theorem NN (O:On C T (d+2) N)(H:Fx T A){k i:Nat}{src:V}{L rest:List V}{c:Nat}{r:List Nat}{Q:QV}(hk:J st.heap k=some (.it src i))(hs:aE st src=some L)(hd:L.drop i=bz (c::r)++rest)(ht:wM c r)(hb:∀ x∈c::r,x<256)(hm:nh 0 (c::r)<2^62)
  (h:Q (.int (nh 0 (c::r):Nat)) ⟨st.vars,af st.heap k (.it src (i+(c::r).length))⟩):CU C A.CN [.loc k] [] [] st Q X:=by
 refine O.func (kj:=[]) H.Fi [("iterator",.loc k)] (λ _ _=>.nil) rfl rfl ?_ rfl rfl λ C' O' T'=>?_
 ·intro q pm cd doc ct
  exact args1 λ a=>rfl
 ·refine fJ (λ hlt hv hd2=>?_) (drop_cons (l:=L) (i:=i) (v:=V.int (c:Nat)) (r:=bz r++rest) hd)
  have e:nh 0 (c::r)=nh (c%64) r:=by
   show nh (0*64+c%64) r=_
   rw [im,Ws]
  rw [e] at hm
  have key:=λ Q test body hw=>IU (kb:=fresh st.heap) (X:=λ c a st2=>X c a ⟨st.vars,st2.heap⟩) (Q:=Q) (test:=test) (body:=body) O' H rfl hw r c (c%64) (i+1) (af st.heap k (.it src (i+1))) hm ht (hb c (VC ..)) (λ x hx=>hb x (VH _ hx)) aj (eO hk (vs:=[]) (L:=L) hs) hd2
  conv=>arg 3;arg 1;whnf
  walk_at "st"
  refine CJ.next (src:=src) (l:=L) hk ?_ ((bI ..).trans hv) ?_
  ·have:=eO (vs':=[((Ve "iterator"),V.loc k)]) (m:=.it src i) hk hs
   rw [fS hk] at this
   exact this
  repeat walk_at "py"
  walk_at "st"
  rw [FH]
  repeat walk_at "py"
  (with_reducible refine' ES.cons ?_)
  refine O'.while T' _ (key _ _ _ rfl λ b'=>?_)
  repeat walk_at "py"
  walk_at "st"
  rw [jI,show i+1+r.length=i+(c::r).length from Wh i 1 _]
  rw [e] at h
  exact h
theorem CS (O:On C T (d+2) N)(H:Fx T A){k i:Nat}{src:V}{L:List V}{Q:QV}(hk:J st.heap k=some (.it src i))(hs:aE st src=some L)(hd:L.drop i=[V.int (70:Nat)])
  (h:∀ h',ai [k] st.heap h'->X "StopIteration" [] ⟨st.vars,h'⟩):CU C A.CN [.loc k] [] [] st Q X:=by
 refine O.func (kj:=[]) H.Fi [("iterator",.loc k)] (λ _ _=>.nil) rfl rfl ?_ rfl rfl λ C' O' T'=>?_
 ·intro q pm cd doc ct
  exact args1 λ a=>rfl
 ·refine fJ (λ hlt hv hd2=>?_) (drop_cons (l:=L) (i:=i) (v:=V.int (70:Nat)) (r:=[]) hd)
  have hend:L[i+1]?=none:=VW.mpr (X8.mp hd2)
  conv=>arg 3;arg 1;whnf
  walk_at "st"
  refine CJ.next (src:=src) (l:=L) hk ?_ ((bI ..).trans hv) ?_
  ·have:=eO (vs':=[((Ve "iterator"),V.loc k)]) (m:=.it src i) hk hs
   rw [fS hk] at this
   exact this
  repeat walk_at "py"
  walk_at "st"
  rw [FH]
  repeat walk_at "py"
  (with_reducible refine' ES.cons ?_)
  refine O'.while T' 1 ?_
  refine DY.more ?_
  repeat walk_at "py"
  walk_at "st"
  walk_at "st"
  refine CJ.next_end (src:=src) (l:=L) (i:=i+1) O'.toGood aj (eO hk hs) ((bI ..).trans hend) ?_
  exact h _ ((ai.refl.put (Vi.mpr rfl)).put (Vi.mpr rfl))
end
end
section
noncomputable def enc (w i n:Nat):List Nat:=(Wx w 64++(bif (Xf 63 n||Vo (i%2) 1) then [64+n/64] else [])++[n%64]).map (· + 128*(i%2))
noncomputable def Chunk (n:Nat)(l:List Nat):Prop:=∃ c r,l=c::r/\wM c r/\(∀ x∈l,x<256)/\nh 0 l=n
theorem Chunk.one {z n:Nat}(h:z%64=n)(h2:z/64%2=0)(h3:z<256):Chunk n [z]:=⟨z,[],rfl,h2,λ x hx=>by rw [Vi.mp hx];exact h3,by
 show 0*64+z%64=n
 rw [h,im,Ws]⟩
theorem Chunk.two {y z n:Nat}(h:y%64*64+z%64=n)(h1:y/64%2=1)(h2:z/64%2=0)(h3:y<256)(h4:z<256):Chunk n [y,z]:=⟨y,[z],rfl,⟨h1,h2⟩,λ x hx=>by
 rcases Vm.mp hx with rfl | hx
 ·exact h3
 ·rw [Vi.mp hx];exact h4,by
 show (0*64+y%64)*64+z%64=n
 rw [im,Ws];exact h⟩
theorem Chunk.zero {a n:Nat}{l:List Nat}(h:Chunk n l)(h1:a/64%2=1)(h2:a%64=0)(h3:a<256):Chunk n (a::l):=by
 refine ak (λ c r e_ ht=>qA λ hb hf=>?_) h;subst e_
 refine ⟨a,c::r,rfl,⟨h1,ht⟩,λ x hx=>?_,?_⟩
 ·rcases Vm.mp hx with rfl | hx
  ·exact h3
  ·exact hb x hx
 ·show nh (0*64+a%64) (c::r)=n
  rw [h2];exact hf
theorem CT:∀ (n:Fin 648) (b:Fin 2),((64+n.val/64+128*b.val)%64*64+(n.val%64+128*b.val)%64==n.val&&((64+n.val/64+128*b.val)/64%2==1&&((n.val%64+128*b.val)/64%2==0&&(Wn (64+n.val/64+128*b.val+1) 256&&Wn (n.val%64+128*b.val+1) 256))))=true:=by decide +kernel
theorem CV:∀ (n:Fin 64) (b:Fin 2),((n.val%64+128*b.val)%64==n.val&&((n.val%64+128*b.val)/64%2==0&&Wn (n.val%64+128*b.val+1) 256))=true:=by decide +kernel
theorem zZ:∀ b:Fin 2,((64+128*b.val)/64%2==1&&((64+128*b.val)%64==0&&Wn (64+128*b.val+1) 256))=true:=by decide +kernel
theorem CX {w i n:Nat}(hn:n<648):Chunk n (enc w i n):=by
 unfold enc
 have hi:i%2<2:=Vy _ (by decide)
 generalize i%2=b at *
 rw [Vs,VI,List.map_replicate]
 have base:Chunk n (((bif (Xf 63 n||Vo b 1) then [64+n/64] else [])++[n%64]).map (· + 128*b)):=by
  cases e:(Xf 63 n||Vo b 1) with
  | true=>
   refine qB (λ h1 h=>?_) ((CT ⟨n,hn⟩ ⟨b,hi⟩))
   refine qB (λ h2 h=>?_) h
   refine qB (λ h3 h=>?_) h
   refine qB (λ h4 h5=>?_) h
   show Chunk n [64+n/64+128*b,n%64+128*b]
   exact Chunk.two (Wc h1) (Wc h2) (Wc h3) (VQ h4) (VQ h5)
  | false=>
   refine qA (λ e1 e2=>?_) (ZK.mp e)
   have e3:¬ 63<n:=λ q=>lO (e1.symm.trans (VS q))
   refine qB (λ h1 h=>?_) ((CV ⟨n,Wo (cb e3)⟩ ⟨b,hi⟩))
   refine qB (λ h2 h3=>?_) h
   show Chunk n [n%64+128*b]
   exact Chunk.one (Wc h1) (Wc h2) (VQ h3)
 refine qB (λ h1 h=>?_) ((zZ ⟨b,hi⟩))
 refine qB (λ h2 h3=>?_) h
 induction w with
 | zero=>exact base
 | succ w ih=>exact Chunk.zero ih (Wc h1) (Wc h2) (VQ h3)
noncomputable def bw (w:Nat)(l:List (Nat×Nat)):List Nat:=(l.map λ p=>enc w p.1 p.2).flatten++[70]
theorem lq (a b:List Nat):bz (a++b)=bz a++bz b:=VI ..
theorem z0 {w:Nat}{p:Nat×Nat}{l:List (Nat×Nat)}:bz (bw w (p::l))=bz (enc w p.1 p.2)++bz (bw w l):=by
 unfold bw
 rw [XI,Xz,Vs,lq]
theorem FI {α:Type}{L a b:List α}{i:Nat}(h:L.drop i=a++b):L.drop (i+a.length)=b:=by
 rw [<-List.drop_drop,h,et]
section
variable {C:Cx}{T:Th}{A:cN}{d:Nat}{N:List (Str×Vn)}{st:St}{X:XK}{kb:Nat}
theorem z3 (O:On C T (d+2) N)(H:Fx T A){k i w:Nat}{src:V}{L:List V}{p:Nat×Nat}{l:List (Nat×Nat)}{Q:QV}(hk:J st.heap k=some (.it src i))(hs:aE st src=some L)(hd:L.drop i=bz (bw w (p::l)))(hn:p.2<648)
  (h:∀ i',L.drop i'=bz (bw w l)->Q (.int (p.2:Nat)) ⟨st.vars,af st.heap k (.it src i')⟩):CU C A.CN [.loc k] [] [] st Q X:=by
 rw [z0] at hd
 refine ak (λ c r e ht=>qA λ hb hf=>?_) (CX (w:=w) (i:=p.1) hn)
 rw [e] at hd hb hf
 refine NN O H hk hs hd ht hb (by rw [hf];exact VJ hn (by decide)) ?_
 rw [hf]
 refine h _ ?_
 rw [show (c::r).length=(bz (c::r)).length from (Vl ..).symm]
 exact FI hd
noncomputable def sizeV (j:Nat):List (Str×V):=match j with
 | 0=>[]
 | j+1=>[((Ve "size"),V.int (0+(j:Nat)*1))]
noncomputable def NO (w f:Nat)(src:V)(L:List V)(n:Nat)(h:List (Nat×MO))(rv:List V)(s:St):Prop:=∃ j l' i h',rv=(VV j (9-j)).map (λ i=>V.int (0+(i:Nat)*1))/\s=⟨[((Ve "tape"),src),("reader",V.loc f)]++sizeV j,h'⟩/\
 n=j+l'.length/\J h' f=some (.it src i)/\aE ⟨[],h'⟩ src=some L/\L.drop i=bz (bw w l')/\ai [] h h'/\∀ p∈l',p.2<648
theorem yx {src:V}{L:List V}{f:Nat}{m:MO}(hs:aE st src=some L)(fn:J st.heap f=none):aE ⟨[],af st.heap f m⟩ src=some L:=by
 induction src using V.casesOn with
 | loc n=>
  have e:=dm hs
  exact aT ((cz (aY e fn)).trans e)
 | _=>exact hs
end
namespace mz
noncomputable def aq (st:St)(src:V)(l:List (Nat×Nat))(w:Nat)(C:Cx)(T:Th)(A:cN)(d:Nat)(N:List (Str×Vn))(X:XK)(Q:QV):Prop:=∀ (O:On C T (d+3) N) (H:Fx T A) (hs:aE st src=some (bz (bw w l))) (hl:l.length<=8) (hn:∀ p∈l,p.2<648) (h:∀ h',ai [] st.heap h'->Q (.int (l.length:Nat)) ⟨st.vars,h'⟩),CU C A.wH [src] [] [] st Q X
noncomputable def S0:=Mf aq
noncomputable def ε:=eu (by walk_at "ne") S0
theorem here:S0 ε:=by
 intro O H hs hl hn h
 refine O.func (kj:=[]) H.Bm [("tape",ε.2.1)] (λ _ _=>.nil) rfl rfl ?_ rfl rfl ?_
 ·intro q pm cd doc ct
  exact args1 λ a=>rfl
 ·refine nR (ne:=neC) ?_
  intro O' T'
  conv=>arg 3;arg 1;whnf
  walk_at "st"
  refine CJ.iter (l:=bz (bw ε.2.2.2.1 ε.2.2.1)) hs ?_
  repeat walk_at "py"
  have fn:J ε.1.heap (fresh ε.1.heap)=none:=aA _
  refine ES.cut (st':=⟨[("tape",ε.2.1),("reader",.loc (fresh ε.1.heap))],af ε.1.heap (fresh ε.1.heap) (.it ε.2.1 0)⟩) (by rfl) ?_
  (with_reducible refine' ES.cons ?_)
  refine O'.rY T' (bY rfl (H.gl _ _ rfl) rfl) rfl ?_
  (with_reducible refine' ES.cons ?_)
  refine O'.wA T' rfl trivial (iB.ev ?_)
  repeat walk_at "py"
  refine CJ.range ?_
  refine ay _ _ rfl (by decide +kernel) (fu (fresh ε.1.heap) (VD _) ⟨trivial,trivial⟩ ?_)
  have nk:J (af ε.1.heap (fresh ε.1.heap) (.it ε.2.1 0)) (fresh ε.1.heap)=some (.it ε.2.1 0):=aj
  refine jl.ind (I:=NO ε.2.2.2.1 (fresh ε.1.heap) ε.2.1 (bz (bw ε.2.2.2.1 ε.2.2.1)) ε.2.2.1.length ε.1.heap) ?_ ?_ _ _ ⟨0,ε.2.2.1,0,_,by kernel_rfl,rfl,(Ws _).symm,nk,?_,rfl,ai.refl.new fn,hn⟩
  ·intro s;refine bG λ j l' i h'=>bB λ hr e_ hl2 h1=>bQ λ h2 h3 g hn'=>?_;subst e_
   exfalso
   have:(VV j (9-j)).length=0:=by rw [List.map_eq_nil_iff.mp hr.symm];rfl
   rw [V4] at this
   exact absurd (Vd (Yw.mp this) (Vd (Vd (Vw _ _) (VK hl2.symm)) hl)) (by decide)
  ·intro v rv s;refine bG λ j l' i h'=>bB λ hr e_ hl2 h1=>bQ λ h2 h3 g hn'=>?_;subst e_
   have hj:j<9:=Wo (Vd (Vd (Vw _ _) (VK hl2.symm)) hl)
   rw [show 9-j=(8-j)+1 from Nat.succ_sub (V5 hj),WO,XI] at hr
   refine qA (λ e_ cg=>?_) (Wu hr);subst e_ cg
   refine ⟨⟨_,rfl⟩,λ C2 O2 T2=>?_⟩
   repeat walk_at "py"
   refine ES.cut (st':=⟨[((Ve "tape"),ε.2.1),("reader",V.loc (fresh ε.1.heap))]++sizeV (j+1),h'⟩) (by induction j using aw<;>rfl) ?_
   have hs2:∀ vs,aE ⟨vs,h'⟩ ε.2.1=some (bz (bw ε.2.2.2.1 ε.2.2.1)):=λ vs=>by
    have:=eO (vs':=vs) (m:=.it ε.2.1 i) h1 h2
    rw [fS h1] at this;exact this
   induction l' using VY with
   | nil=>
    walk_at "st"
    refine CU.cj (CS O2 H h1 (hs2 _) h3 λ h2' g2=>⟨rfl,aC (V.int (0+(j:Nat)*1)) rfl ?_⟩)
    repeat walk_at "py"
    have e:(0:Int)+(j:Nat)*1=(ε.2.2.1.length:Nat):=by rw [hl2,ew,Yd];rfl
    rw [e]
    refine h _ λ k o _ ek=>?_
    have:=g.at ek Vr
    exact g2 k o (λ q=>by rw [Vi.mp q,fn] at ek;exact aV ek) this
   | cons p l'=>
    walk_at "st"
    refine CU.cj (z3 O2 H h1 (hs2 _) h3 (hn' p (VC ..)) λ i' h4=>?_)
    repeat walk_at "py"
    exact ⟨j+1,l',i',_,by rw [show 9-(j+1)=8-j from Nat.succ_sub_succ 8 j],rfl,by rw [hl2,V3];exact (Wh j 1 _).symm,aj,eO h1 h2,h4,g.new fn,λ q hq=>hn' q (VH _ hq)⟩
  ·exact yx hs fn
end mz
theorem IV {C T A d N st X w src l Q}:mz.aq st src l w C T A d N X Q:=nR (S:=mz.S0) mz.here (st,src,l,w,C,T,A,d,N,X,Q)
end
section
noncomputable def jO:List V:=[V.str (bW 0 false),V.str (bW 1 false),V.str (bW 2 false),V.str (bW 0 false),V.str (bW 1 false),V.str (bW 2 false)]
noncomputable def gv (f:Nat->Int):List V:=[V.str (aQ (f 0)),V.str (aQ (f 1)),V.str (aQ (f 2))]
theorem lu {i:Nat}(h:i<6):bq jO i=some (.str (bW (i%3) false)):=fF (P:=λ i=>bq jO i=some (.str (bW (i%3) false))) (n:=6) ⟨⟨⟨⟨⟨⟨trivial,rfl⟩,rfl⟩,rfl⟩,rfl⟩,rfl⟩,rfl⟩ i h
theorem FJ {f:Nat->Int}{i:Nat}(h:i<3):bq (gv f) i=some (.str (aQ (f i))):=fF (P:=λ i=>bq (gv f) i=some (.str (aQ (f i)))) (n:=3) ⟨⟨⟨trivial,rfl⟩,rfl⟩,rfl⟩ i h
noncomputable def cJ (f:Nat->Int)(pl:V)(sk lk ek:Nat):V:=.tup [.lst jO,.lst (gv f),pl,.loc sk,.loc lk,.loc ek]
noncomputable def worth (rows:List Row)(f:Nat->Int)(v:Nat):Int:=(jn rows v).getD (f v)
noncomputable def dP (n:Int):V:=.tup [.str (aQ n),.str (aQ n)]
theorem dX {st:St}{l:List V}{i:Nat}{v:V}(h:bq l i=some v)(hi:i<=1000):gq st (.lst l) (.int (i:Nat))=some v:=by
 show (match Wn i 9223372036854775807 with | true=>bq l i | false=>none)=some v
 rw [VS (Vd hi (by decide))];exact h
theorem bN {st:St}{l:List V}{n i:Nat}{v:V}(hk:J st.heap n=some (.lst l))(h:bq l i=some v)(hi:Wn i 1000=true):gq st (.loc n) (.int (i:Nat))=some v:=by
 show (match Wn i 9223372036854775807 with | true=>(match J st.heap n with | some (.lst l)=>bq l i | _=>none) | false=>none)=some v
 rw [VS (Vd (VQ hi) (by decide)),hk];exact h
theorem z4 {rows:List Row}{f:Nat->Int}{v:Nat}:ko (.str (aQ (f v))) ((jn rows v).map aQ)=.str (aQ (worth rows f v)):=by
 unfold worth
 cases jn rows v<;>rfl
section
variable {C:Cx}{T:Th}{A:cN}{d:Nat}{N:List (Str×Vn)}{st:St}{X:XK}{kb:Nat}
noncomputable def yy (l:List Stmt)(i:Nat):Expr×List Stmt:=match l[i]? with
 | some (Stmt.For t _ b _ _)=>(t,b)
 | _=>(default,[])
end
namespace gA
noncomputable def aq (C:Cx)(pl:Nat)(f:Nat->Int)(rows:List Row)(acc:List V)(T:Th)(A:cN)(d:Nat)(X:XK)(kb num n dk hk kp fk sk lk ek:Nat)(qc:V)(h:List (Nat×MO))(Q:Fl->St->Prop):Prop:=∀ (O:On C T (d+4) (aO (aJ 21)).names) (H:Fx T A) (hcode:C.env.code=.ref A.eY) {target:Expr}{body:List Stmt} (hw:yy (bodyOf (aJ 21)) 1=(target,body)) (HT:aB A ⟨[],h⟩ n dk hk (tabS rows)) (hr:∀ r∈rows,r.ok) (hkp:J h kp=some (.qj A.eY kp)) (Tc:J h fk=some (.lst acc)) (hacc:acc.length<=10) (hpl:pl<6) (q:Q .next ⟨[("number",.int (num:Nat)),("table",.loc n),("kit",cJ f qc sk lk ek),("found",.loc fk),("place",.int (pl:Nat))],af h fk (.lst (acc++[dP (worth rows f (pl%3))]))⟩),ES C kb (execs body C.env) ⟨[("number",.int (num:Nat)),("table",.loc n),("kit",cJ f qc sk lk ek),("found",.loc fk),("place",.int (pl:Nat))],h⟩ Q X
noncomputable def S0:=Qz aq
noncomputable def ε:=eu (by walk_at "ne") S0
theorem here:S0 ε:=by
 intro O H hcode target body hw HT hr hkp Tc hacc hpl q
 refine qP (λ e_ cg=>?_) hw;subst e_ cg
 refine qE (λ cell hcell=>?_) (O.toGood0.bu "kit" .cell (by show ε.1.env.scope.names.lookup _=_;rw [O.names];rfl) (.inl rfl))
 have D3:=HT
 obtain ⟨H1,H2,H3,H4⟩:=HT
 conv=>arg 3;arg 1;whnf
 walk_at "st"
 refine O.lam H.blt hcode hkp rfl rfl λ fd e1 e2 e3 e4 e5 e6 e7 e8=>?_
 have L:A5 fd:=by
  obtain ⟨⟩:=fd
  simp only at e1 e2 e3 e4 e5 e6 e7 e8
  subst e1 e2 e3 e4 e5 e6 e7 e8
  exact ⟨(d7 _ _ _ _ (rD _ _ rfl)),rfl,rfl,rfl,rfl,rfl,rfl,λ v=>rfl⟩
 have hcl:fd.closure.lookup ("kit" : Str)=some cell:=by
  rw [e6]
  show some ((ε.1.env.cells.lookup ("kit" : Str)).getD 0)=some cell
  rw [hcell];rfl
 repeat walk_at "py"
 refine CU.cj (zX O H L hcl hcell rfl (Vv (VJ hpl (by decide))) (lu hpl) ?_)
 repeat walk_at "py"
 refine aC _ (zS H1 H2 (H.Ff _ rfl)) ?_
 repeat walk_at "py"
 have m3:ε.2.1%3<3:=Vy _ (by decide)
 refine aC _ ((congrArg (λ x=>gq _ (V.lst (gv ε.2.2.1)) (V.int x)) (fh ε.2.1 3)).trans (dX (FJ m3) (Vv (VJ m3 (by decide))))) ?_
 refine CU.cj (zY O H (l:=tabS ε.2.2.2.1) D3.vars (jo _ m3 false) ?_)
 rw [qa _ m3 false,oS hr m3,z4]
 have hz:ε.2.2.2.2.1.length<=sizeLine:=Vd hacc (by decide)
 repeat walk_at "py"
 exact q
end gA
theorem z5 {C T A d X kb num n dk hk kp fk sk lk ek pl qc f rows acc h Q}:gA.aq C pl f rows acc T A d X kb num n dk hk kp fk sk lk ek qc h Q:=nR (S:=gA.S0) gA.here (C,pl,f,rows,acc,T,A,d,X,kb,num,n,dk,hk,kp,fk,sk,lk,ek,qc,h,Q)
section
variable {C:Cx}{T:Th}{A:cN}{d:Nat}{N:List (Str×Vn)}{st:St}{X:XK}{kb:Nat}
noncomputable def FN (a b:Int):V:=.tup [.str (aQ a),.str (aQ b)]
theorem FO (n k:Nat):((n:Int).fdiv (k:Int)).fmod 6=((n/k%6:Nat):Int):=(congrArg (ag · 6) (kZ n k)).trans (fh _ 6)
end
namespace jP
noncomputable def aq (f:Nat->Int)(num:Nat)(rows:List Row)(st:St)(n sk lk ek:Nat)(qc:V)(X:XK)(dk hk kp:Nat)(C:Cx)(T:Th)(A:cN)(d:Nat)(N:List (Str×Vn))(Q:QV):Prop:=∀ (O:On C T (d+5) N) (H:Fx T A) (HT:aB A st n dk hk (tabS rows)) (hr:∀ r∈rows,r.ok) (hkp:J st.heap kp=some (.qj A.eY kp)) (h:∀ h',ai [] st.heap h'->Q (FN (worth rows f (num/18%3)) (worth rows f (num/108%3))) ⟨st.vars,h'⟩),CU C A.iI [.int (num:Nat),.loc n,cJ f qc sk lk ek] [] [] st Q X
noncomputable def S0:=O5 aq
noncomputable def ε:=eu (by walk_at "ne") S0
theorem here:S0 ε:=by
 intro O H HT hr hkp h
 refine O.Ke (kj:=[]) H.ym [("number",.int (ε.2.1:Nat)),("table",.loc ε.2.2.2.2.1),("kit",cJ ε.1 ε.2.2.2.2.2.2.2.2.1 ε.2.2.2.2.2.1 ε.2.2.2.2.2.2.1 ε.2.2.2.2.2.2.2.1)] (λ _ _=>.nil) rfl rfl ?_ rfl rfl λ C' O' T' hcd _=>?_
 ·intro q pm cd doc ct
  exact Bc λ a b c=>rfl
 ·have hcode:=hcd _ H.code
  have key:=λ G₁ (hG:Ext C' G₁) kb acc h Q9 target body hw a1 a2 a3 a4 pl a5 q=>z5 (kb:=kb) (X:=λ c a st2=>ε.2.2.2.2.2.2.2.2.2.1 c a ⟨ε.2.2.2.1.vars,st2.heap⟩) (O'.keep hG) H hcode (num:=ε.2.1) (n:=ε.2.2.2.2.1) (dk:=ε.2.2.2.2.2.2.2.2.2.2.1) (hk:=ε.2.2.2.2.2.2.2.2.2.2.2.1) (kp:=ε.2.2.2.2.2.2.2.2.2.2.2.2.1) (fk:=fresh ε.2.2.2.1.heap) (sk:=ε.2.2.2.2.2.1) (lk:=ε.2.2.2.2.2.2.1) (ek:=ε.2.2.2.2.2.2.2.1) (qc:=ε.2.2.2.2.2.2.2.2.1) (f:=ε.1) (rows:=ε.2.2.1) (acc:=acc) (h:=h) (Q:=Q9) (target:=target) (body:=body) hw a1 hr a2 a3 a4 (pl:=pl) a5 q
  conv=>arg 3;arg 1;whnf
  walk_at "st"
  walk_at "own"
  generalize hf:fresh ε.2.2.2.1.heap=fk at *
  have fn:J ε.2.2.2.1.heap fk=none:=hf▸aA _
  have k1:J (af ε.2.2.2.1.heap fk (.lst [])) fk=some (.lst []):=aj
  have g1:ai [] ε.2.2.2.1.heap (af ε.2.2.2.1.heap fk (.lst [])):=ai.refl.new fn
  refine ES.cut (st':=⟨[("number",.int (ε.2.1:Nat)),("table",.loc ε.2.2.2.2.1),("kit",cJ ε.1 ε.2.2.2.2.2.2.2.2.1 ε.2.2.2.2.2.1 ε.2.2.2.2.2.2.1 ε.2.2.2.2.2.2.2.1),("found",.loc fk)],af ε.2.2.2.1.heap fk (.lst [])⟩) (by subst hf;rfl) ?_
  generalize af ε.2.2.2.1.heap fk (.lst [])=h1 at *
  (with_reducible refine' ES.cons ?_)
  refine O'.Ew T' rfl trivial (iB.ev ?_)
  repeat walk_at "py"
  rw [show ((ε.2.1:Int).fdiv 18).fmod 6=((ε.2.1/18%6:Nat):Int) from FO ε.2.1 18,show ((ε.2.1:Int).fdiv 108).fmod 6=((ε.2.1/108%6:Nat):Int) from FO ε.2.1 108]
  have b1:ε.2.1/18%6<6:=Vy _ (by decide)
  have b2:ε.2.1/108%6<6:=Vy _ (by decide)
  have c1:ε.2.1/18%6%3=ε.2.1/18%3:=Yy _ (by decide)
  have c2:ε.2.1/108%6%3=ε.2.1/108%3:=Yy _ (by decide)
  generalize ε.2.1/18%6=p1 at *
  generalize ε.2.1/108%6=p2 at *
  refine ⟨fk,VD _,⟨⟨trivial,trivial,trivial⟩,trivial⟩,⟨_,rfl⟩,λ G₁ hG=>(O'.keep hG).aname rfl ?_⟩
  have k2:J (af h1 fk (.lst [dP (worth ε.2.2.1 ε.1 (p1%3))])) fk=some (.lst [dP (worth ε.2.2.1 ε.1 (p1%3))]):=aj
  have g2:ai [] ε.2.2.2.1.heap (af h1 fk (.lst [dP (worth ε.2.2.1 ε.1 (p1%3))])):=g1.new fn
  refine ES.mono (key G₁ hG fk [] h1 (λ fl st2=>fl=.next/\st2=⟨[("number",.int (ε.2.1:Nat)),("table",.loc ε.2.2.2.2.1),("kit",cJ ε.1 ε.2.2.2.2.2.2.2.2.1 ε.2.2.2.2.2.1 ε.2.2.2.2.2.2.1 ε.2.2.2.2.2.2.2.1),("found",.loc fk),("place",.int (p1:Nat))],af h1 fk (.lst [dP (worth ε.2.2.1 ε.1 (p1%3))])⟩) _ _ rfl (HT.lg g1) (g1.at hkp Vr) k1 (by decide) p1 b1 ⟨rfl,rfl⟩) ?_
  intro _ _;refine qA λ e_ cg=>?_;subst e_ cg
  generalize af h1 fk (.lst [dP (worth ε.2.2.1 ε.1 (p1%3))])=h2 at *
  refine ⟨⟨_,rfl⟩,λ uw Nd=>(O'.keep Nd).aname rfl ?_⟩
  have k3:J (af h2 fk (.lst [dP (worth ε.2.2.1 ε.1 (p1%3)),dP (worth ε.2.2.1 ε.1 (p2%3))])) fk=some (.lst [dP (worth ε.2.2.1 ε.1 (p1%3)),dP (worth ε.2.2.1 ε.1 (p2%3))]):=aj
  have g3:ai [] ε.2.2.2.1.heap (af h2 fk (.lst [dP (worth ε.2.2.1 ε.1 (p1%3)),dP (worth ε.2.2.1 ε.1 (p2%3))])):=g2.new fn
  refine ES.mono (key uw Nd fk [dP (worth ε.2.2.1 ε.1 (p1%3))] h2 (λ fl st2=>fl=.next/\st2=⟨[("number",.int (ε.2.1:Nat)),("table",.loc ε.2.2.2.2.1),("kit",cJ ε.1 ε.2.2.2.2.2.2.2.2.1 ε.2.2.2.2.2.1 ε.2.2.2.2.2.2.1 ε.2.2.2.2.2.2.2.1),("found",.loc fk),("place",.int (p2:Nat))],af h2 fk (.lst [dP (worth ε.2.2.1 ε.1 (p1%3)),dP (worth ε.2.2.1 ε.1 (p2%3))])⟩) _ _ rfl (HT.lg g2) (g2.at hkp Vr) k2 (by show 1<=10;decide) p2 b2 ⟨rfl,rfl⟩) ?_
  intro _ _;refine qA λ e_ cg=>?_;subst e_ cg
  generalize af h2 fk (.lst [dP (worth ε.2.2.1 ε.1 (p1%3)),dP (worth ε.2.2.1 ε.1 (p2%3))])=h3 at *
  refine ⟨⟨_,rfl⟩,?_⟩
  repeat walk_at "py"
  walk_at "st"
  refine aC _ (bN (i:=0) k3 rfl rfl) ?_
  repeat walk_at "py"
  refine aC _ (bN (i:=1) k3 rfl rfl) ?_
  repeat walk_at "py"
  rw [c1,c2]
  exact h h3 g3
end jP
theorem yz {C T A d N st X num n dk hk kp sk lk ek qc f rows Q}:jP.aq f num rows st n sk lk ek qc X dk hk kp C T A d N Q:=nR (S:=jP.S0) jP.here (f,num,rows,st,n,sk,lk,ek,qc,X,dk,hk,kp,C,T,A,d,N,Q)
end
section
noncomputable def oU (n:Nat)(a b c:Int):Int:=match n%3 with
 | 0=>a
 | 1=>b
 | _=>c
theorem tw {n:Nat}{a b c:Int}:bq [V.int a,V.int b,V.int c] (n%3)=some (.int (oU n a b c)):=by
 unfold oU
 have h:n%3<3:=Vy _ (by decide)
 generalize n%3=m at *
 match m,h with
 | 0,_=>rfl
 | 1,_=>rfl
 | 2,_=>rfl
noncomputable def yC (rows:List Row)(f:Nat->Int)(n:Nat):Int:=
 (oU n (worth rows f (n/18%3)+worth rows f (n/108%3)) (worth rows f (n/18%3)-worth rows f (n/108%3)) (worth rows f (n/18%3)*worth rows f (n/108%3))).fmod 9973
noncomputable def ah (n:Nat):Nat:=n/3%3
noncomputable def bh (f:Nat->Int)(rows:List Row)(n:Nat):List Row:=cK rows (ah n)++[⟨ah n,false,yC rows f n⟩]
noncomputable def cU (f:Nat->Int)(rows:List Row)(ns:List Nat):List Row:=ns.foldl (bh f) rows
noncomputable def ck (f:Nat->Int):Prop:=∀ v,v<3->0<=f v/\f v<9973
theorem cE (x:Int):0<=x.fmod 9973/\x.fmod 9973<9973:=by
 rw [XQ _ (by decide)]
 exact ⟨Int.emod_nonneg _ (by decide),Int.emod_lt_of_pos _ (by decide)⟩
theorem IW {rows:List Row}(h:∀ r∈rows,r.ok){v:Nat}{x:Int}(e:jn rows v=some x):0<=x/\x<9973:=by
 induction rows with
 | nil=>exact aV e
 | cons r l ih=>
  have e:(bif Vo r.v v then some r.n else jn l v)=some x:=e
  cases q:Vo r.v v with
  | true=>rw [q] at e;exact Vf e▸(h r (VC ..)).2
  | false=>rw [q] at e;exact ih (λ r hr=>h r (VH _ hr)) e
theorem eT {rows:List Row}{f:Nat->Int}(h:∀ r∈rows,r.ok)(hf:ck f){v:Nat}(hv:v<3):0<=worth rows f v/\worth rows f v<9973:=by
 unfold worth
 cases e:jn rows v with
 | none=>exact hf v hv
 | some x=>exact IW h e
theorem gB (n:Nat):ah n<3:=Vy _ (by decide)
theorem wN {f:Nat->Int}{rows:List Row}(h:∀ r∈rows,r.ok)(n:Nat):∀ r∈bh f rows n,r.ok:=rC (tu h _) ⟨gB n,cE _⟩
theorem tB {f:Nat->Int}:∀ {ns:List Nat}{rows:List Row},(∀ r∈rows,r.ok)->∀ r∈cU f rows ns,r.ok
 | [],_,h=>h
 | n::ns,_,h=>tB (ns:=ns) (wN h n)
theorem yD {f:Nat->Int}{rows:List Row}(n:Nat):(bh f rows n).length<=rows.length+1:=by
 unfold bh cK
 rw [Vk]
 exact VN (WD ..) 1
theorem oV {f:Nat->Int}:∀ {ns:List Nat}{rows:List Row},(cU f rows ns).length<=rows.length+ns.length
 | [],_=>VD _
 | n::ns,rows=>Vd (oV (ns:=ns)) (by rw [V3,<-Xc,Wh];exact VN (yD n) _)
theorem CY {n:Int}{k:Nat}(h:0<=n/\n<9973)(hk:9973<=k):n.natAbs<k:=by
 refine qE (λ m e_=>?_) (Zb h.1);subst e_
 exact Vx (Wz.mp h.2) hk
theorem log2_small {n:Int}(h:0<=n/\n<9973):n.natAbs.log2<1920:=by
 have h2:n.natAbs<2^14:=CY h (by decide)
 rcases Nat.eq_zero_or_pos n.natAbs with e | e
 ·rw [e];decide
 ·exact Vx ((Nat.log2_lt (Xu e)).mpr h2) (by decide)
theorem aW (a b:List (Str×V)):gf a (a++b):=λ x v h=>by
 induction a with
 | nil=>exact aV h
 | cons p a ih=>
  have h:(bif sB x p.1 then some p.2 else az a x)=some v:=h
  show (bif sB x p.1 then some p.2 else az (a++b) x)=some v
  cases e:sB x p.1 with
  | true=>rw [e] at h;exact h
  | false=>rw [e] at h;exact ih h
theorem ES.drop {C:Cx}{kb:Nat}{m:Sem Flow}{st:St}{base:List (Str×V)}{Q:Fl->St->Prop}{X:XK}(hs:gf base st.vars)(h:ES C kb m ⟨base,st.heap⟩ Q X):ES C kb m st Q X:=λ F ρ s R=>h F ρ s (R.Iv hs)
theorem AS.drop {C:Cx}{t:Vg->Sem Unit}{v:V}{st:St}{base:List (Str×V)}{Q:St->Prop}{X:XK}(hs:gf base st.vars)(h:AS C t v ⟨base,st.heap⟩ Q X):AS C t v st Q X:=λ F ρ s x R d=>h F ρ s x (R.Iv hs) d
theorem IX:∀ (a:Fin 3) (n:Fin 20),(VO (a.val:Int) (n.val:Int) 1&&(((Yk (WI (a.val:Int) (n.val:Int) 1).toNat).map λ i=>(a.val:Int)+(i:Nat)*1)==(VV a.val (n.val-a.val)).map λ i:Nat=>(i:Int)))=true:=by decide +kernel
theorem IY {a n:Nat}(ha:a<3)(h:n<20):VO (a:Int) (n:Int) 1=true/\dg (a:Int) (n:Int) 1=(VV a (n-a)).map λ i=>V.int (i:Nat):=by
 refine qB (λ h1 h2=>?_) ((IX ⟨a,ha⟩ ⟨n,h⟩))
 refine ⟨h1,?_⟩
 have h3:=congrArg (XS V.int) (Wc h2)
 rw [VF,VF] at h3
 exact h3
theorem CZ {n:Nat}(h:n<10):VO 0 (n:Nat) 1=true/\dg 0 (n:Nat) 1=(VV 0 n).map λ i=>V.int (i:Nat):=IY (a:=0) (by decide) (VJ h (by decide))
theorem FP {f:Nat->Int}{rows:List Row}{n:Nat}(hr:∀ r∈rows,r.ok):gj (tabS rows) (VX (bW (ah n) false))++[(bW (ah n) false,aQ (yC rows f n))]=tabS (bh f rows n):=by
 rw [qa _ (gB n),tn hr (gB n)]
 exact qb (a:=⟨ah n,false,yC rows f n⟩)
theorem tC {st:St}{n:Nat}:gq st (.lst jO) (.int (((n:Int).fdiv 3).fmod 6))=some (.str (bW (ah n) false)):=by
 have h6:n/3%6<6:=Vy _ (by decide)
 have e:=dX (st:=st) (lu h6) (Vv (VJ h6 (by decide)))
 rw [show ((n:Int).fdiv 3).fmod 6=((n/3%6:Nat):Int) from FO n 3,e,show n/3%6%3=ah n from Yy _ (by decide)]
theorem dK {st:St}{l:List V}{i:Nat}{v:V}(h:bq l i=some v)(hi:i<=1000):gq st (.tup l) (.int (i:Nat))=some v:=by
 show (match Wn i 9223372036854775807 with | true=>bq l i | false=>none)=some v
 rw [VS (Vd hi (by decide))];exact h
section
variable {C:Cx}{T:Th}{A:cN}{d:Nat}{N:List (Str×Vn)}{st:St}{X:XK}{kb:Nat}
noncomputable def gV (A:cN)(h:List (Nat×MO))(n dk hk m:Nat):Prop:=∃ l,l.length=m/\aB A ⟨[],h⟩ n dk hk l
theorem aB.at {h:List (Nat×MO)}{vs vs':List (Str×V)}{n dk hk:Nat}{l:List (Str×Str)}(HT:aB A ⟨vs,h⟩ n dk hk l):aB A ⟨vs',h⟩ n dk hk l:=⟨HT.hi,HT.hd,HT.hl,HT.fit⟩
theorem gV.grow {ks:List Nat}{h h':List (Nat×MO)}{n dk hk m:Nat}(HL:gV A h n dk hk m)(g:ai ks h h')(a:n∉ks)(b:dk∉ks)(c:hk∉ks):gV A h' n dk hk m:=aI (λ l e HT=>⟨l,e,HT.grow g a b c⟩) HL
noncomputable def qs (src:V)(ks:List Nat):Prop:=∀ k,src=.loc k->k∉ks
theorem cY {ks:List Nat}{vs vs':List (Str×V)}{h h':List (Nat×MO)}{src:V}{L:List V}(hs:aE ⟨vs,h⟩ src=some L)(g:ai ks h h')(a:qs src ks):aE ⟨vs',h'⟩ src=some L:=by
 induction src using V.casesOn with
 | loc n=>exact aT (g.at (dm hs) (a n rfl))
 | _=>exact hs
theorem jQ {h:List (Nat×MO)}{a b:Nat}{x y:MO}(e1:J h a=some x)(e2:J h b=some y)(hxy:x≠y):a≠b:=by
 rintro rfl;rw [e1] at e2;exact hxy (Vf e2)
theorem bf {a b:Nat}(h:a≠b):a∉[b]:=λ q=>h (Vi.mp q)
theorem PO {a b c:Nat}(h:a≠b)(h':a≠c):a∉[b,c]:=λ q=>(Vm.mp q).elim h λ q=>h' (Vi.mp q)
theorem FQ {a b c e:Nat}(h:a≠b)(h':a≠c)(h'':a≠e):a∉[b,c,e]:=λ q=>(Vm.mp q).elim h λ q=>(PO h' h'') q
noncomputable def ni:V->V
 | .str x=>.int ((ey x).getD 0)
 | v=>v
theorem fj {n:Int}(h:0<=n/\n<9973):ni (.str (aQ n))=.int n:=by
 show V.int ((ey (aQ n)).getD 0)=_
 rw [show ey (aQ n)=some n from PySem.W.KIN.num_reads h.1 (Yc h.2 (by decide))];rfl
noncomputable abbrev iL (src:V)(n a:Nat)(kit:V)(fk n':Nat):List (Str×V):=[((Ve "state"),V.tup [src,.loc n]),("ahead",V.int (a:Nat)),("kit",kit),("copy",V.loc n'),("reader",V.loc fk)]
end
namespace jR
noncomputable def aq (f:Nat->Int)(rows:List Row)(src:V)(fk:Nat)(h:List (Nat×MO))(hk' n a n' sk lk ek:Nat)(qc tv:V)(i:Nat)(C:Cx)(kb:Nat)(L:List V)(T:Th)(A:cN)(d:Nat)(X:XK)(w xj kp cD bx m:Nat)(l:List (Nat×Nat))(Q:Fl->St->Prop):Prop:=∀ (O:On C T (d+6) (aO (aJ 22)).names) (H:Fx T A) {p:Nat×Nat}{target:Expr}{body:List Stmt} (hw:yy (bodyOf (aJ 22)) 1=(target,body)) (hk:J h fk=some (.it src i)) (hs:aE ⟨[],h⟩ src=some L) (hd:L.drop i=bz (bw w (p::l))) (hn:p.2<648) (HT:aB A ⟨[],h⟩ n' xj hk' (tabS rows)) (hr:∀ r∈rows,r.ok) (hrl:rows.length<=900) (hf:ck f) (HL:gV A h lk cD bx m) (hm:m<=900) (hkp:J h kp=some (.qj A.eY kp)) (n1:n'≠bx/\xj≠bx/\hk'≠bx/\lk≠hk'/\cD≠hk') (jq:qs src [hk',bx]) (q:∀ h' i' ex,ai [fk,hk',bx] h h'->J h' fk=some (.it src i')->aE ⟨[],h'⟩ src=some L->L.drop i'=bz (bw w l)->aB A ⟨[],h'⟩ n' xj hk' (tabS (bh f rows p.2))->gV A h' lk cD bx (m+1)->Q .next ⟨iL src n a (cJ f qc sk lk ek) fk n'++ex,h'⟩),ES C kb (execs body C.env) ⟨iL src n a (cJ f qc sk lk ek) fk n'++[((Ve "turn"),tv)],h⟩ Q X
noncomputable def S0:=QC aq
noncomputable def ε:=eu (by walk_at "ne") S0
theorem here:S0 ε:=by
 intro O H p target body hw hk hs hd hn HT hr hrl hf HL hm hkp n1 jq q
 refine qP (λ e_ cg=>?_) hw;subst e_ cg
 have D3:=HT
 obtain ⟨H1,H2,H3,H4⟩:=HT
 conv=>arg 3;arg 1;whnf
 walk_at "st"
 refine CU.cj (z3 O H hk ?_ hd hn λ i' hd'=>?_)
 ·have:=eO (vs':=iL ε.2.2.1 ε.2.2.2.2.2.2.1 ε.2.2.2.2.2.2.2.1 (cJ ε.1 ε.2.2.2.2.2.2.2.2.2.2.2.2.1 ε.2.2.2.2.2.2.2.2.2.1 ε.2.2.2.2.2.2.2.2.2.2.1 ε.2.2.2.2.2.2.2.2.2.2.2.1) ε.2.2.2.1 ε.2.2.2.2.2.2.2.2.1++[((Ve "turn"),ε.2.2.2.2.2.2.2.2.2.2.2.2.2.1)]) (m:=.it ε.2.2.1 ε.2.2.2.2.2.2.2.2.2.2.2.2.2.2.1) hk hs
  rw [fS hk] at this
  exact this
 repeat walk_at "py"
 have w1:worth ε.2.1 ε.1 (p.2/18%3)=worth ε.2.1 ε.1 (p.2/18%3):=rfl
 have g1:ai [ε.2.2.2.1] ε.2.2.2.2.1 (af ε.2.2.2.2.1 ε.2.2.2.1 (.it ε.2.2.1 i')):=ai.refl.put (Vi.mpr rfl)
 have k1:J (af ε.2.2.2.2.1 ε.2.2.2.1 (.it ε.2.2.1 i')) ε.2.2.2.1=some (.it ε.2.2.1 i'):=aj
 have s1:aE ⟨[],af ε.2.2.2.2.1 ε.2.2.2.1 (.it ε.2.2.1 i')⟩ ε.2.2.1=some ε.2.2.2.2.2.2.2.2.2.2.2.2.2.2.2.2.2.1:=eO hk hs
 have ne1:∀ {a9:Nat}{x:MO},J ε.2.2.2.2.1 a9=some x->(∀ j,x≠.it ε.2.2.1 j)->a9∉[ε.2.2.2.1]:=λ e q=>bf (jQ e hk (q ε.2.2.2.2.2.2.2.2.2.2.2.2.2.2.1))
 have Ln:=D3.grow (vs:=[]) g1 (ne1 H1 nofun) (ne1 H2 nofun) (ne1 H3 nofun)
 refine aI (λ ll FT LT=>?_) HL
 have Td:=LT.grow (vs:=[]) g1 (ne1 LT.hi nofun) (ne1 LT.hd nofun) (ne1 LT.hl nofun)
 have Rv:=g1.at hkp (ne1 hkp nofun)
 refine ES.cut (st':=⟨iL ε.2.2.1 ε.2.2.2.2.2.2.1 ε.2.2.2.2.2.2.2.1 (cJ ε.1 ε.2.2.2.2.2.2.2.2.2.2.2.2.1 ε.2.2.2.2.2.2.2.2.2.1 ε.2.2.2.2.2.2.2.2.2.2.1 ε.2.2.2.2.2.2.2.2.2.2.2.1) ε.2.2.2.1 ε.2.2.2.2.2.2.2.2.1++[((Ve "turn"),ε.2.2.2.2.2.2.2.2.2.2.2.2.2.1),("number",.int (p.2:Nat))],af ε.2.2.2.2.1 ε.2.2.2.1 (.it ε.2.2.1 i')⟩) (by rfl) ?_
 generalize af ε.2.2.2.2.1 ε.2.2.2.1 (.it ε.2.2.1 i')=h1 at *
 walk_at "st"
 refine CU.cj (yz O H Ln.at hr Rv λ h2 g2=>?_)
 have m1:p.2/18%3<3:=Vy _ (by decide)
 have m2:p.2/108%3<3:=Vy _ (by decide)
 have v1:=eT hr hf m1
 have v2:=eT hr hf m2
 refine ay _ _ rfl trivial (⟨by show 2<=sizeLine;decide,?_⟩)
 show LW _ _ _ _ _ _ _ [] _ _ _ _ _
 refine LW.pure O (λ _=>true) ni ⟨_,rfl⟩ (λ v hv=>?_) ?_
 ·obtain ⟨x,hx,rfl⟩:∃ x:Int,(0<=x/\x<9973)/\v=V.str (aQ x):=by
   rcases Vm.mp hv with e | e
   ·exact aC _ v1 e
   ·exact aC _ v2 (Vi.mp e)
  intro C2 O2
  rw [fj hx]
  repeat walk_at "py"
  refine CJ.lZ hx.1 (Yc hx.2 (by decide)) ?_
  exact bY (λ _ _ e=>aV e) rfl rfl
 have e2:[]++([V.str (aQ (worth ε.2.1 ε.1 (p.2/18%3))),V.str (aQ (worth ε.2.1 ε.1 (p.2/108%3)))].filter λ _=>true).map ni=[V.int (worth ε.2.1 ε.1 (p.2/18%3)),V.int (worth ε.2.1 ε.1 (p.2/108%3))]:=by
  show [ni _,ni _]=_
  rw [fj v1,fj v2]
 rw [e2]
 repeat walk_at "py"
 refine O.tuple_list rfl rfl rfl ?_
 repeat walk_at "py"
 have IZ:∀ {a9:Nat},a9∉([]:List Nat):=Vr
 have k2:=g2.at k1 IZ
 have s2:=cY (vs':=[]) s1 g2 λ k _=>IZ
 have z6:=Ln.grow (vs:=[]) g2 IZ IZ IZ
 have Ms:=Td.grow (vs:=[]) g2 IZ IZ IZ
 have Te:=g2.at Rv IZ
 refine ES.cut (st':=⟨iL ε.2.2.1 ε.2.2.2.2.2.2.1 ε.2.2.2.2.2.2.2.1 (cJ ε.1 ε.2.2.2.2.2.2.2.2.2.2.2.2.1 ε.2.2.2.2.2.2.2.2.2.1 ε.2.2.2.2.2.2.2.2.2.2.1 ε.2.2.2.2.2.2.2.2.2.2.2.1) ε.2.2.2.1 ε.2.2.2.2.2.2.2.2.1++[((Ve "turn"),ε.2.2.2.2.2.2.2.2.2.2.2.2.2.1),("number",.int (p.2:Nat)),("one",.int (worth ε.2.1 ε.1 (p.2/18%3))),("other",.int (worth ε.2.1 ε.1 (p.2/108%3)))],h2⟩) (by rfl) ?_
 have hmul:(worth ε.2.1 ε.1 (p.2/18%3)).natAbs<2^62\/(worth ε.2.1 ε.1 (p.2/108%3)).natAbs<2^62:=.inl (CY (eT hr hf (Vy _ (by decide))) (by decide))
 walk_at "st"
 refine aC _ ((congrArg (λ x=>gq _ (V.tup _) (V.int x)) (fh p.2 3)).trans (dK tw (Vv (VJ (Vy _ (by decide)) (by decide))))) ?_
 repeat walk_at "py"
 refine CJ.str_int (log2_small (cE _)) ?_
 repeat walk_at "py"
 have gl:=gB p.2
 have hlen:(tabS ε.2.1).length<=1000:=by unfold tabS;rw [Vl];exact Vd hrl (by decide)
 refine aC _ tC (aC _ (H.sp z6.hi z6.hd rfl) (zW O H z6.at hlen (jo _ gl _) (nS (cE _).1 (cE _).2) ?_))
 show ES ε.2.2.2.2.2.2.2.2.2.2.2.2.2.2.2.1 ε.2.2.2.2.2.2.2.2.2.2.2.2.2.2.2.2.1 _ ⟨_,af h2 ε.2.2.2.2.2.1 (.lst (tab (gj (tabS ε.2.1) (VX (bW (ah p.2) false))++[(bW (ah p.2) false,aQ (yC ε.2.1 ε.1 p.2))])))⟩ _ _
 rw [FP hr]
 have Lo:=z6.put (vars:=[]) (l':=tabS (bh ε.1 ε.2.1 p.2)) (oR (wN hr p.2))
 have g3:ai [ε.2.2.2.2.2.1] h2 (af h2 ε.2.2.2.2.2.1 (.lst (tab (tabS (bh ε.1 ε.2.1 p.2))))):=ai.refl.put (Vi.mpr rfl)
 have s3:=cY (vs':=[]) s2 g3 λ k e q=>jq k e (Vm.mpr (.inl (Vi.mp q)))
 have k3:=g3.at k2 (bf (jQ k2 z6.hl nofun))
 have PR:=Ms.grow (vs:=[]) g3 (bf n1.2.2.2.1) (bf n1.2.2.2.2) (bf (Ym n1.2.2.1))
 refine ES.cut (st':=⟨iL ε.2.2.1 ε.2.2.2.2.2.2.1 ε.2.2.2.2.2.2.2.1 (cJ ε.1 ε.2.2.2.2.2.2.2.2.2.2.2.2.1 ε.2.2.2.2.2.2.2.2.2.1 ε.2.2.2.2.2.2.2.2.2.2.1 ε.2.2.2.2.2.2.2.2.2.2.2.1) ε.2.2.2.1 ε.2.2.2.2.2.2.2.2.1++[((Ve "turn"),ε.2.2.2.2.2.2.2.2.2.2.2.2.2.1),("number",.int (p.2:Nat)),("one",.int (worth ε.2.1 ε.1 (p.2/18%3))),("other",.int (worth ε.2.1 ε.1 (p.2/108%3)))],af h2 ε.2.2.2.2.2.1 (.lst (tab (tabS (bh ε.1 ε.2.1 p.2))))⟩) (by rfl) ?_
 generalize af h2 ε.2.2.2.2.2.1 (.lst (tab (tabS (bh ε.1 ε.2.1 p.2))))=h3 at *
 obtain ⟨L1,L2,L3,L4⟩:=id PR
 have hnl:0<=((p.2:Nat):Int)/\((p.2:Nat):Int)<9973:=⟨V0 _,Wz.mpr (VJ hn (by decide))⟩
 have Tf:=(jo _ gl false).len
 walk_at "st"
 refine aC _ tC ?_
 repeat walk_at "py"
 rw [FE _ gl]
 refine CJ.str_int (log2_small hnl) ?_
 repeat walk_at "py"
 refine CU.cj (s7 O H PR.at (by rw [FT];exact Vd hm (by decide)) (jo _ gl true) (nS hnl.1 hnl.2) (Vd (mw hnl.1 hnl.2) (by decide)) λ h4 g4 Tg=>?_)
 repeat walk_at "py"
 have s4:=cY (vs':=[]) s3 g4 λ k e q=>jq k e (Vm.mpr (.inr q))
 refine q h4 i' _ ?_ (g4.at k3 (bf (jQ k3 PR.hl nofun))) s4 hd' (Lo.grow g4 (bf n1.1) (bf n1.2.1) (bf n1.2.2.1)) ⟨_,?_,Tg.at⟩
 ·refine ((g1.sub ?_).trans (g2.sub ?_)).trans ((g3.sub ?_).trans (g4.sub ?_))<;>intro k hk
  ·exact Vm.mpr (.inl (Vi.mp hk))
  ·exact nomatch hk
  ·exact Vm.mpr (.inr (Vm.mpr (.inl (Vi.mp hk))))
  ·exact Vm.mpr (.inr (Vm.mpr (.inr hk)))
 ·rw [Vk,FT];rfl
end jR
theorem FU {C T A d X kb w src L n a fk n' xj hk' kp sk lk cD bx ek i m qc tv f rows l h Q}:jR.aq f rows src fk h hk' n a n' sk lk ek qc tv i C kb L T A d X w xj kp cD bx m l Q:=nR (S:=jR.S0) jR.here (f,rows,src,fk,h,hk',n,a,n',sk,lk,ek,qc,tv,i,C,kb,L,T,A,d,X,w,xj,kp,cD,bx,m,l,Q)
end
section
section
variable {C:Cx}{T:Th}{A:cN}{d:Nat}{N:List (Str×Vn)}{st:St}{X:XK}{kb:Nat}
noncomputable def numsOf (l:List (Nat×Nat)):List Nat:=l.map (·.2)
noncomputable def PS (A:cN)(src:V)(L:List V)(n a fk n' xj hk' lk cD bx w m:Nat)(kit:V)(f:Nat->Int)(rows:List Row)(post:List (Nat×Nat))(h0:List (Nat×MO))(rv:List V)(s:St):Prop:=
 ∃ j pre i m' rows' h',rv=(VV j pre.length).map (λ i=>V.int (i:Nat))/\gf (iL src n a kit fk n') s.vars/\s.heap=h'/\J h' fk=some (.it src i)/\aE ⟨[],h'⟩ src=some L/\L.drop i=bz (bw w (pre++post))/\(∀ p∈pre++post,p.2<648)/\
  aB A ⟨[],h'⟩ n' xj hk' (tabS rows')/\(∀ r∈rows',r.ok)/\rows'.length+pre.length<=900/\gV A h' lk cD bx m'/\m'+pre.length=m/\cU f rows' (numsOf pre)=rows/\ai [bx] h0 h'
theorem ai.gW {h h':List (Nat×MO)}{n:Nat}(g:ai [] h h')(e:J h' n=none):J h n=none:=by
 cases q:J h n with
 | none=>rfl
 | some o=>have:=g.at q Vr;rw [e] at this;exact aV this
theorem ai.keys {ks ks':List Nat}{h h' h'':List (Nat×MO)}(a:ai ks h h')(b:ai ks' h' h'')(c:∀ k∈ks',k∈ks\/J h k=none):ai ks h h'':=λ k o n e=>
 b k o (λ q=>(c k q).elim n λ q=>by rw [q] at e;exact aV e) (a k o n e)
theorem gX {a b:Nat}{h:List (Nat×MO)}{o:MO}(e:J h a=none)(e2:J h b=some o):a≠b:=λ q=>aY e2 e q.symm
theorem C0 {w:Nat}{l:List (Nat×Nat)}:0<(bw w l).length:=by
 unfold bw;rw [Vk];exact Zk _
theorem I0 {L:List V}{i w:Nat}{l:List (Nat×Nat)}(h:L.drop i=bz (bw w l)):i<=L.length:=by
 rcases df L.length i with q | q
 ·rw [Zl (Vv q)] at h
  have h:=congrArg eD h
  rw [bz,Vl] at h
  exact absurd h.symm (Xu C0)
 ·exact q
theorem jS {vs vs':List (Str×V)}{h:List (Nat×MO)}{src:V}{L:List V}(hs:aE ⟨vs,h⟩ src=some L):aE ⟨vs',h⟩ src=some L:=cY (ks:=[]) hs ai.refl λ k _=>Vr
end
namespace gC
noncomputable def aq (st:St)(pre:List (Nat×Nat))(rows:List Row)(f:Nat->Int)(bx w lk:Nat)(post:List (Nat×Nat))(n:Nat)(A:cN)(kp sk ek m:Nat)(qc:V)(cD dk hk:Nat)(C:Cx)(T:Th)(d:Nat)(N:List (Str×Vn))(X:XK)(Q:QV):Prop:=∀ (O:On C T (d+7) N) (H:Fx T A) {src:V} (hs:aE st src=some (bz (bw w (pre++post)))) (hn:∀ p∈pre++post,p.2<648) (hpl:pre.length<10) (HT:aB A st n dk hk (tabS rows)) (hr:∀ r∈rows,r.ok) (hrl:rows.length<=100) (hf:ck f) (HL:gV A st.heap lk cD bx m) (hm:m<=800) (hkp:J st.heap kp=some (.qj A.eY kp)) (jq:qs src [bx]) (hz:(bw w (pre++post)).length<=1000) (h:∀ h' n' xj hk',ai [bx] st.heap h'->J st.heap n'=none->J st.heap xj=none->J st.heap hk'=none->aB A ⟨st.vars,h'⟩ n' xj hk' (tabS (cU f rows (numsOf pre)))->gV A h' lk cD bx (m+pre.length)->Q (.tup [.lst (bz (bw w post)),.loc n']) ⟨st.vars,h'⟩),CU C A.Bg [.tup [src,.loc n],.int (pre.length:Nat),cJ f qc sk lk ek] [] [] st Q X
noncomputable def S0:=QA aq
noncomputable def ε:=eu (by walk_at "ne") S0
theorem here:S0 ε:=by
 intro O H src hs hn hpl HT hr hrl hf HL hm hkp jq hz h
 refine O.func (kj:=[]) H.Fp [("state",.tup [src,.loc ε.2.2.2.2.2.2.2.2.1]),("ahead",.int (ε.2.1.length:Nat)),("kit",cJ ε.2.2.2.1 ε.2.2.2.2.2.2.2.2.2.2.2.2.2.2.1 ε.2.2.2.2.2.2.2.2.2.2.2.1 ε.2.2.2.2.2.2.1 ε.2.2.2.2.2.2.2.2.2.2.2.2.1)] (λ _ _=>.nil) rfl rfl ?_ rfl rfl (nR (ne:=neC) ?_)
 ·intro q pm cd doc ct
  exact Bc λ a b c=>rfl
 ·intro O' T'
  have hlen:(tabS ε.2.2.1).length<=1000:=by unfold tabS;rw [Vl];exact Vd hrl (by decide)
  have key:=@FU
  conv=>arg 3;arg 1;whnf
  (with_reducible refine' ES.cons ?_)
  walk_at "py"
  repeat walk_at "py"
  refine CJ.iter (l:=bz (bw ε.2.2.2.2.2.1 (ε.2.1++ε.2.2.2.2.2.2.2.1))) hs ?_
  have I1:J ε.1.heap (fresh ε.1.heap)=none:=aA _
  have g1:ai [ε.2.2.2.2.1] ε.1.heap (af ε.1.heap (fresh ε.1.heap) (.it src 0)):=ai.refl.new I1
  have Kp:ai [] ε.1.heap (af ε.1.heap (fresh ε.1.heap) (.it src 0)):=ai.refl.new I1
  have k1:J (af ε.1.heap (fresh ε.1.heap) (.it src 0)) (fresh ε.1.heap)=some (.it src 0):=aj
  have s1:aE ⟨[],af ε.1.heap (fresh ε.1.heap) (.it src 0)⟩ src=some (bz (bw ε.2.2.2.2.2.1 (ε.2.1++ε.2.2.2.2.2.2.2.1))):=cY (vs:=ε.1.vars) hs Kp λ k e=>Vr
  obtain ⟨H1,H2,H3,H4⟩:=HT.lg Kp
  repeat walk_at "py"
  show CJ _ _ _ _ _ ⟨_,af ε.1.heap (fresh ε.1.heap) (.it src 0)⟩ _ _
  generalize af ε.1.heap (fresh ε.1.heap) (.it src 0)=h1 at *
  have Ln:aB ε.2.2.2.2.2.2.2.2.2.1 ⟨[],h1⟩ ε.2.2.2.2.2.2.2.2.1 ε.2.2.2.2.2.2.2.2.2.2.2.2.2.2.2.2.1 ε.2.2.2.2.2.2.2.2.2.2.2.2.2.2.2.2.2.1 (tabS ε.2.2.1):=⟨H1,H2,H3,H4⟩
  refine CU.cj (CQ O' H Ln.at hlen ?_)
  repeat walk_at "py"
  refine rB O' H (l:=tabS ε.2.2.1) aj H4 λ n' xj h2 g2 z6 e1 e2=>?_
  have f1:J h1 (fresh h1)=none:=aA _
  have g0:ai [] h1 (af h1 (fresh h1) (.lst (tab (tabS ε.2.2.1)))):=ai.refl.new f1
  have OP:ai [] (af h1 (fresh h1) (.lst (tab (tabS ε.2.2.1)))) h2:=g2
  have PT:aB ε.2.2.2.2.2.2.2.2.2.1 ⟨[],h2⟩ n' xj (fresh h1) (tabS ε.2.2.1):=z6.at
  have f2:J h1 n'=none:=g0.gW e1
  have f3:J h1 xj=none:=g0.gW e2
  have fr:J ε.1.heap (fresh h1)=none:=Kp.gW f1
  have fn':J ε.1.heap n'=none:=Kp.gW f2
  have fd':J ε.1.heap xj=none:=Kp.gW f3
  generalize fresh h1=hk' at *
  have g3:ai [] h1 h2:=g0.trans OP
  have k2:=g3.at k1 Vr
  have s2:=cY (vs':=[]) s1 g3 λ k _=>Vr
  have gg:ai [ε.2.2.2.2.1] ε.1.heap h2:=(Kp.trans g3).sub λ k q=>nomatch q
  have NP:=HL.grow (Kp.trans g3) Vr Vr Vr
  have Te:=(Kp.trans g3).at hkp Vr
  refine aI (λ ll FT LT=>?_) HL
  have n1:n'≠ε.2.2.2.2.1/\xj≠ε.2.2.2.2.1/\hk'≠ε.2.2.2.2.1/\ε.2.2.2.2.2.2.1≠hk'/\ε.2.2.2.2.2.2.2.2.2.2.2.2.2.2.2.1≠hk':=cO (gX fn' LT.hl) (gX fd' LT.hl) (gX fr LT.hl) ((gX fr LT.hi).symm) ((gX fr LT.hd).symm)
  have Ti:qs src [hk',ε.2.2.2.2.1]:=λ k e q=>(Vm.mp q).elim (λ q=>by
   subst e;rw [q] at hs;have:=dm hs;rw [fr] at this;exact aV this) (jq k e)
  have hpk:ε.2.2.2.2.2.2.2.2.2.2.1≠ε.2.2.2.2.1/\ε.2.2.2.2.2.2.2.2.2.2.1≠(fresh ε.1.heap)/\ε.2.2.2.2.2.2.2.2.2.2.1≠hk':=bY (jQ hkp LT.hl nofun) ((gX I1 hkp).symm) ((gX fr hkp).symm)
  repeat walk_at "py"
  refine ES.cut (st':=⟨iL src ε.2.2.2.2.2.2.2.2.1 ε.2.1.length (cJ ε.2.2.2.1 ε.2.2.2.2.2.2.2.2.2.2.2.2.2.2.1 ε.2.2.2.2.2.2.2.2.2.2.2.1 ε.2.2.2.2.2.2.1 ε.2.2.2.2.2.2.2.2.2.2.2.2.1) (fresh ε.1.heap) n',h2⟩) (by rfl) ?_
  (with_reducible refine' ES.cons ?_)
  refine O'.wA T' rfl trivial (iB.ev ?_)
  repeat walk_at "py"
  have rn:=CZ hpl
  refine CJ.range (ay _ _ rfl rn.1 (fu (fresh ε.1.heap) (VD _) ⟨trivial,trivial⟩ ?_))
  refine jl.ind (I:=PS ε.2.2.2.2.2.2.2.2.2.1 src (bz (bw ε.2.2.2.2.2.1 (ε.2.1++ε.2.2.2.2.2.2.2.1))) ε.2.2.2.2.2.2.2.2.1 ε.2.1.length (fresh ε.1.heap) n' xj hk' ε.2.2.2.2.2.2.1 ε.2.2.2.2.2.2.2.2.2.2.2.2.2.2.2.1 ε.2.2.2.2.1 ε.2.2.2.2.2.1 (ε.2.2.2.2.2.2.2.2.2.2.2.2.2.1+ε.2.1.length) (cJ ε.2.2.2.1 ε.2.2.2.2.2.2.2.2.2.2.2.2.2.2.1 ε.2.2.2.2.2.2.2.2.2.2.2.1 ε.2.2.2.2.2.2.1 ε.2.2.2.2.2.2.2.2.2.2.2.2.1) ε.2.2.2.1 (cU ε.2.2.2.1 ε.2.2.1 (numsOf ε.2.1)) ε.2.2.2.2.2.2.2.1 ε.1.heap) ?_ ?_ _ _ ⟨0,ε.2.1,0,ε.2.2.2.2.2.2.2.2.2.2.2.2.2.1,ε.2.2.1,h2,?_,λ _ _ e=>e,rfl,k2,s2,rfl,hn,PT,hr,?_,NP,rfl,rfl,gg⟩
  ·intro s;refine bG λ j pre' i m'=>ak λ rows' h' nX hsv=>bB λ e_ hi hs' hd=>bB λ hn' Kq hr' hl'=>bQ λ PU hm' z7 g'=>?_;subst e_
   refine ⟨⟨_,rfl⟩,ES.drop hsv ?_⟩
   obtain rfl:pre'=[]:=by
    induction pre' using VY with
    | nil=>rfl
    | cons p l=>exact nomatch nX
   have hL:=I0 hd
   have hz:(bz (bw ε.2.2.2.2.2.1 (ε.2.1++ε.2.2.2.2.2.2.2.1))).length<=sizeLine:=by
    unfold bz;rw [Vl];exact Vd hz (by decide)
   walk_at "st"
   refine CJ.Io O'.toGood hi (jS hs') hL hz ?_
   repeat walk_at "py"
   rw [hd]
   have gp:ai [(fresh ε.1.heap)] s.heap (af s.heap (fresh ε.1.heap) .any):=ai.refl.put (Vi.mpr rfl)
   obtain rfl:rows'=cU ε.2.2.2.1 ε.2.2.1 (numsOf ε.2.1):=z7
   obtain rfl:m'=ε.2.2.2.2.2.2.2.2.2.2.2.2.2.1+ε.2.1.length:=hm'
   refine aI (λ l2 hl2 Ms=>?_) PU
   exact h _ n' xj hk' (g'.keys gp λ k q=>.inr (Vi.mp q▸I1)) fn' fd' fr (Kq.grow (vs:=ε.1.vars) gp (bf (jQ Kq.hi hi nofun)) (bf (jQ Kq.hd hi nofun)) (bf (jQ Kq.hl hi nofun)))
    ⟨l2,hl2,Ms.grow gp (bf (jQ Ms.hi hi nofun)) (bf (jQ Ms.hd hi nofun)) (bf (jQ Ms.hl hi nofun))⟩
  ·intro v rv s;refine bG λ j pre' i m'=>ak λ rows' h' nX hsv=>bB λ e_ hi hs' hd=>bB λ hn' Kq hr' hl'=>bQ λ PU hm' z7 g'=>?_;subst e_
   refine ⟨⟨_,rfl⟩,λ C2 O2 T2=>AS.drop hsv ?_⟩
   obtain ⟨p,pre',rfl⟩:∃ p l,pre'=p::l:=by
    induction pre' using VY with
    | nil=>exact nomatch nX
    | cons p l=>exact rD _ _ rfl
   walk_at "py"
   repeat walk_at "py"
   refine key O2 H rfl hi hs' hd (hn' p (VC ..)) Kq hr' (Vd (Vw _ _) hl') hf PU ?_ (g'.at hkp (bf hpk.1)) n1 Ti λ h3 i3 ex g4 b1 b2 b3 b4 b5=>?_
   ·exact Vd (Vd (Vw _ _) (VK hm')) (Vd (V9 hm (Vv hpl)) (by decide))
   ·have el:(p::pre').length=pre'.length+1:=rfl
    rw [el] at hl' hm' nX
    have Rw:=yD (f:=ε.2.2.2.1) (rows:=rows') p.2
    refine ⟨j+1,pre',i3,m'+1,bh ε.2.2.2.1 rows' p.2,h3,?_,aW _ _,rfl,b1,b2,b3,λ q hq=>hn' q (VH _ hq),b4,wN hr' _,?_,b5,?_,z7,?_⟩
    ·rw [WO] at nX
     exact (Wu nX).2
    ·exact Vd (VN Rw _) (Vd (VK (Wh rows'.length 1 pre'.length)) hl')
    ·exact (Wh m' 1 pre'.length).trans hm'
    ·refine g'.keys g4 λ k q=>?_
     rcases Vm.mp q with rfl | q
     ·exact .inr I1
     rcases Vm.mp q with rfl | q
     ·exact .inr fr
     ·exact .inl q
  ·exact rn.2
  ·have:=oV (f:=ε.2.2.2.1) (ns:=numsOf ε.2.1) (rows:=ε.2.2.1);exact Vd (V9 hrl (Vv hpl)) (by decide)
end gC
theorem tD {C T A d N st X w n dk hk kp sk lk cD bx ek m qc f rows pre post Q}:gC.aq st pre rows f bx w lk post n A kp sk ek m qc cD dk hk C T d N X Q:=nR (S:=gC.S0) gC.here (st,pre,rows,f,bx,w,lk,post,n,A,kp,sk,ek,m,qc,cD,dk,hk,C,T,d,N,X,Q)
end
theorem EV.neg {C:Cx}{st:St}{X:XK}{e:Expr}{pos:Pos}{Q:QV}(h:EV C (eval e C.env) st (λ v st1=>∃ i,v=.int i/\Q (.int (-i)) st1) X):EV C (eval (.UnaryOp .USub e pos) C.env) st Q X:=λ F ρ s R Q' E hQ hE=>by
 refine wpAny_UnaryOp (h F ρ s R _ E ?_ hE)
 rintro F1 bE x s1 l1 k1 hp0;apply hp0.elim;intro a st1;refine aI λ i e_ hq=>?_;subst e_;intro R1 d1
 apply d1.aM;intro t
 exact neg_int (hQ F1 bE _ _ l1 k1 (Post.in hq (R1.toks _) (.int _ _)))
theorem ex_neg {i:Int}{P:Int->Prop}(h:P i):∃ j,V.int i=.int j/\P j:=aC i rfl h
local macro_rules | `(tactic| walk_at "py") => ruleTacs "EV.neg\nex_neg"
noncomputable def gY (aK:List Row)(v:Nat):Int:=(allR aK v).sum
noncomputable def yE (f:Nat->Int)(rows aK:List Row)(n:Nat):Int:=(gY aK (ah n)*oU n 1 1 (worth rows f (n/108%3))).fmod 9973
noncomputable def FW (f:Nat->Int)(rows aK:List Row)(n:Nat):Int:=(gY aK (ah n)*oU n 1 (-1) (worth rows f (n/18%3))).fmod 9973
noncomputable def iM (f:Nat->Int)(rows aK:List Row)(n:Nat):List Row:=(cK aK (ah n)++[⟨n/18%3,false,yE f rows aK n⟩])++[⟨n/108%3,true,FW f rows aK n⟩]
noncomputable def vf (f:Nat->Int)(rows aK:List Row)(n:Nat):V:=.tup [.int (n:Nat),.str (aQ (worth rows f (n/18%3))),.str (aQ (worth rows f (n/108%3))),.lst (tab (tabS rows)),.lst (((allR aK (ah n)).map aQ).map V.str)]
theorem Bt {f:Nat->Int}{rows aK:List Row}(h:∀ r∈aK,r.ok)(n:Nat):∀ r∈iM f rows aK n,r.ok:=
 rC (rC (tu h _) ⟨Vy _ (by decide),cE _⟩) ⟨Vy _ (by decide),cE _⟩
theorem FY {f:Nat->Int}{rows aK:List Row}(n:Nat):(iM f rows aK n).length<=aK.length+2:=by
 unfold iM cK
 rw [Vk,Vk]
 exact VN (VN (WD ..) 1) 1
noncomputable abbrev oX (src:V)(n:Nat)(kit:V)(f:Nat->Int)(rows aK:List Row)(num:Nat):List (Str×V):=
 [((Ve "state"),V.tup [src,.loc n]),("kit",kit),("number",V.int (num:Nat)),("one",V.str (aQ (worth rows f (num/18%3)))),("other",V.str (aQ (worth rows f (num/108%3)))),("goal",V.str (bW (ah num) false)),
  ((Ve "shares"),V.lst (((allR aK (ah num)).map aQ).map V.str)),("due",V.int (gY aK (ah num)))]
theorem z8 {st:St}{n:Nat}:gq st (.lst jO) (.int (((n:Int).fdiv 18).fmod 6))=some (.str (bW (n/18%3) false)):=by
 have h6:n/18%6<6:=Vy _ (by decide)
 have e:=dX (st:=st) (lu h6) (Vv (VJ h6 (by decide)))
 rw [show ((n:Int).fdiv 18).fmod 6=((n/18%6:Nat):Int) from FO n 18,e,show n/18%6%3=n/18%3 from Yy _ (by decide)]
theorem yF {st:St}{n:Nat}:gq st (.lst jO) (.int (((n:Int).fdiv 108).fmod 6))=some (.str (bW (n/108%3) false)):=by
 have h6:n/108%6<6:=Vy _ (by decide)
 have e:=dX (st:=st) (lu h6) (Vv (VJ h6 (by decide)))
 rw [show ((n:Int).fdiv 108).fmod 6=((n/108%6:Nat):Int) from FO n 108,e,show n/108%6%3=n/108%3 from Yy _ (by decide)]
theorem Bu {n:Nat}{a b c:Int}(ha:a.natAbs<=9973)(hb:b.natAbs<=9973)(hc:0<=c/\c<9973):(oU n a b c).natAbs<=9973:=by
 unfold oU
 split
 ·exact ha
 ·exact hb
 ·exact V5 (CY hc (by decide))
theorem tE {l:List Row}(v:Nat):(allR l v).length<=l.length:=by unfold allR;rw [Vl];exact WD ..
theorem mC {l:List Row}(h:∀ r∈l,r.ok){v:Nat}{x:Int}(hx:x∈allR l v):0<=x/\x<9973:=by
 refine qL (λ r hr e_=>?_) hx;subst e_
 exact (h r (dC.mp hr).1).2
theorem z9 {l:List Row}(h:∀ r∈l,r.ok){v:Nat}:[]++((((allR l v).map aQ).map V.str).filter λ _=>true).map ni=(allR l v).map V.int:=by
 rw [Vz,VU.mpr λ _ _=>rfl,VF,VF]
 exact WQ λ x hx=>fj (mC h hx)
section
variable {C:Cx}{T:Th}{A:cN}{d:Nat}{N:List (Str×Vn)}{st:St}{X:XK}{kb:Nat}
structure nj (A:cN)(h:List (Nat×MO))(sk dD bV lk cD bx ek kp:Nat)(aK:List Row)(m:Nat)(seen:List V):Prop where
 S:aB A ⟨[],h⟩ sk dD bV (tabS aK)
 vg:∀ r∈aK,r.ok
 L:gV A h lk cD bx m
 E:J h ek=some (.lst seen)
 P:J h kp=some (.qj A.eY kp)
 d1:bV≠bx
 d2:bV≠ek
 d3:bx≠ek
theorem nj.grow {h h':List (Nat×MO)}{sk dD bV lk cD bx ek kp m:Nat}{aK:List Row}{seen:List V}(w:nj A h sk dD bV lk cD bx ek kp aK m seen)(g:ai [] h h'):nj A h' sk dD bV lk cD bx ek kp aK m seen where
 S:=w.S.lg g
 vg:=w.vg
 L:=w.L.grow g Vr Vr Vr
 E:=g.at w.E Vr
 P:=g.at w.P Vr
 d1:=w.d1
 d2:=w.d2
 d3:=w.d3
theorem nj.log {h h':List (Nat×MO)}{sk dD bV lk cD bx ek kp m m':Nat}{aK:List Row}{seen:List V}(w:nj A h sk dD bV lk cD bx ek kp aK m seen)(g:ai [bx] h h')(HL:gV A h' lk cD bx m'):nj A h' sk dD bV lk cD bx ek kp aK m' seen:=
 let ⟨_,_,LT⟩:=w.L
 {S:=w.S.grow g (bf (jQ w.S.hi LT.hl nofun)) (bf (jQ w.S.hd LT.hl nofun)) (bf w.d1)
  vg:=w.vg
  L:=HL
  E:=g.at w.E (bf w.d3.symm)
  P:=g.at w.P (bf (jQ w.P LT.hl nofun))
  d1:=w.d1
  d2:=w.d2
  d3:=w.d3}
theorem nj.tF {h h':List (Nat×MO)}{sk dD bV lk cD bx ek kp m:Nat}{aK Aa:List Row}{seen:List V}(w:nj A h sk dD bV lk cD bx ek kp aK m seen)(g:ai [bV] h h')(HS:aB A ⟨[],h'⟩ sk dD bV (tabS Aa))(ok:∀ r∈Aa,r.ok):nj A h' sk dD bV lk cD bx ek kp Aa m seen:=
 let ⟨l,e,LT⟩:=w.L
 {S:=HS
  vg:=ok
  L:=⟨l,e,LT.grow g (bf (jQ LT.hi w.S.hl nofun)) (bf (jQ LT.hd w.S.hl nofun)) (bf w.d1.symm)⟩
  E:=g.at w.E (bf w.d2.symm)
  P:=g.at w.P (bf (jQ w.P w.S.hl nofun))
  d1:=w.d1
  d2:=w.d2
  d3:=w.d3}
theorem C1 (v:Nat) (hv:v<3):q9 (eW (bW v false) none (some 1) none)/\uC (VX (eW (bW v false) none (some 1) none))/\q9 (bW v false++("st" : Str))/\uC (VX (bW v false++("st" : Str))):=
 yu (P:=λ v=>q9 (eW (bW v false) none (some 1) none)/\uC (VX (eW (bW v false) none (some 1) none))/\q9 (bW v false++("st" : Str))/\uC (VX (bW v false++("st" : Str))))
  (dG ⟨by decide +kernel,by decide +kernel,by decide +kernel,by decide +kernel,by decide +kernel⟩ (iJ (by decide +kernel)) ⟨by decide +kernel,by decide +kernel,by decide +kernel,by decide +kernel,by decide +kernel⟩ (iJ (by decide +kernel))) (dG ⟨by decide +kernel,by decide +kernel,by decide +kernel,by decide +kernel,by decide +kernel⟩ (iJ (by decide +kernel)) ⟨by decide +kernel,by decide +kernel,by decide +kernel,by decide +kernel,by decide +kernel⟩ (iJ (by decide +kernel))) (dG ⟨by decide +kernel,by decide +kernel,by decide +kernel,by decide +kernel,by decide +kernel⟩ (iJ (by decide +kernel)) ⟨by decide +kernel,by decide +kernel,by decide +kernel,by decide +kernel,by decide +kernel⟩ (iJ (by decide +kernel))) v hv
theorem nj.Tj {h h':List (Nat×MO)}{sk dD bV lk cD bx ek kp m:Nat}{aK:List Row}{seen seen':List V}(w:nj A h sk dD bV lk cD bx ek kp aK m seen)(g:ai [ek] h h')(e:J h' ek=some (.lst seen')):nj A h' sk dD bV lk cD bx ek kp aK m seen':=
 let ⟨l,el,LT⟩:=w.L
 {S:=w.S.grow g (bf (jQ w.S.hi w.E nofun)) (bf (jQ w.S.hd w.E nofun)) (bf w.d2)
  vg:=w.vg
  L:=⟨l,el,LT.grow g (bf (jQ LT.hi w.E nofun)) (bf (jQ LT.hd w.E nofun)) (bf w.d3)⟩
  E:=e
  P:=g.at w.P (bf (jQ w.P w.E nofun))
  d1:=w.d1
  d2:=w.d2
  d3:=w.d3}
end
namespace mD
noncomputable def aq (aK:List Row)(f:Nat->Int)(bV:Nat)(rows:List Row)(st:St)(src:V)(n sk ek:Nat)(A:cN)(lk:Nat)(qc:V)(dk hk w dD:Nat)(seen:List V)(l:List (Nat×Nat))(bx cD kp m:Nat)(C:Cx)(T:Th)(d:Nat)(N:List (Str×Vn))(X:XK)(Q:QV):Prop:=∀ (O:On C T (d+6) N) (H:Fx T A) {p:Nat×Nat} (hs:aE st src=some (bz (bw w (p::l)))) (hn:p.2<648) (HT:aB A st n dk hk (tabS rows)) (hr:∀ r∈rows,r.ok) (hrl:rows.length<=900) (hf:ck f) (W:nj A st.heap sk dD bV lk cD bx ek kp aK m seen) (hm:m<=900) (hsl:aK.length<=900) (hel:seen.length<=900) (hnt:hk≠bV/\hk≠bx/\hk≠ek) (h:∀ h',ai [bV,bx,ek] st.heap h'->nj A h' sk dD bV lk cD bx ek kp (iM f rows aK p.2) (m+1) (seen++[vf f rows aK p.2])->Q .none ⟨st.vars,h'⟩),CU C A.wI [.tup [src,.loc n],cJ f qc sk lk ek] [] [] st Q X
noncomputable def S0:=QB aq
noncomputable def ε:=eu (by walk_at "ne") S0
theorem here:S0 ε:=by
 intro O H p hs hn HT hr hrl hf W hm hsl hel hnt h
 refine O.func (kj:=[]) H.Bo [("state",.tup [ε.2.2.2.2.2.1,.loc ε.2.2.2.2.2.2.1]),("kit",cJ ε.2.1 ε.2.2.2.2.2.2.2.2.2.2.2.1 ε.2.2.2.2.2.2.2.1 ε.2.2.2.2.2.2.2.2.2.2.1 ε.2.2.2.2.2.2.2.2.1)] (λ _ _=>.nil) rfl rfl ?_ rfl rfl (nR (ne:=neC) ?_)
 ·intro q pm cd doc ct
  exact args2 λ a b=>rfl
 ·intro O' T'
  conv=>arg 3;arg 1;whnf
  (with_reducible refine' ES.cons ?_)
  walk_at "py"
  repeat walk_at "py"
  refine CJ.iter (l:=bz (bw ε.2.2.2.2.2.2.2.2.2.2.2.2.2.2.1 (p::ε.2.2.2.2.2.2.2.2.2.2.2.2.2.2.2.2.2.1))) hs ?_
  have I1:J ε.2.2.2.2.1.heap (fresh ε.2.2.2.2.1.heap)=none:=aA _
  repeat walk_at "py"
  refine CU.cj (z3 O' H (w:=ε.2.2.2.2.2.2.2.2.2.2.2.2.2.2.1) (l:=ε.2.2.2.2.2.2.2.2.2.2.2.2.2.2.2.2.2.1) (L:=bz (bw ε.2.2.2.2.2.2.2.2.2.2.2.2.2.2.1 (p::ε.2.2.2.2.2.2.2.2.2.2.2.2.2.2.2.2.2.1))) (i:=0) aj ?_ rfl hn λ i' hd'=>?_)
  ·have g0:ai [] ε.2.2.2.2.1.heap (af ε.2.2.2.2.1.heap (fresh ε.2.2.2.2.1.heap) (.it ε.2.2.2.2.2.1 0)):=ai.refl.new I1
   exact cY (vs:=ε.2.2.2.2.1.vars) hs g0 λ k _=>Vr
  repeat walk_at "py"
  have g1:ai [] ε.2.2.2.2.1.heap (af (af ε.2.2.2.2.1.heap (fresh ε.2.2.2.2.1.heap) (.it ε.2.2.2.2.2.1 0)) (fresh ε.2.2.2.2.1.heap) (.it ε.2.2.2.2.2.1 i')):=(ai.refl.new I1).new I1
  have W1:=W.grow g1
  have Ln:aB ε.2.2.2.2.2.2.2.2.2.1 ⟨[],af (af ε.2.2.2.2.1.heap (fresh ε.2.2.2.2.1.heap) (.it ε.2.2.2.2.2.1 0)) (fresh ε.2.2.2.2.1.heap) (.it ε.2.2.2.2.2.1 i')⟩ ε.2.2.2.2.2.2.1 ε.2.2.2.2.2.2.2.2.2.2.2.2.1 ε.2.2.2.2.2.2.2.2.2.2.2.2.2.1 (tabS ε.2.2.2.1):=HT.lg g1
  refine ES.cut (st':=⟨[("state",.tup [ε.2.2.2.2.2.1,.loc ε.2.2.2.2.2.2.1]),("kit",cJ ε.2.1 ε.2.2.2.2.2.2.2.2.2.2.2.1 ε.2.2.2.2.2.2.2.1 ε.2.2.2.2.2.2.2.2.2.2.1 ε.2.2.2.2.2.2.2.2.1),("number",.int (p.2:Nat))],af (af ε.2.2.2.2.1.heap (fresh ε.2.2.2.2.1.heap) (.it ε.2.2.2.2.2.1 0)) (fresh ε.2.2.2.2.1.heap) (.it ε.2.2.2.2.2.1 i')⟩) (by rfl) ?_
  generalize af (af ε.2.2.2.2.1.heap (fresh ε.2.2.2.2.1.heap) (.it ε.2.2.2.2.2.1 0)) (fresh ε.2.2.2.2.1.heap) (.it ε.2.2.2.2.2.1 i')=h1 at *
  walk_at "st"
  refine CU.cj (yz O' H Ln.at hr W1.P λ h2 g2=>?_)
  repeat walk_at "py"
  have W2:=W1.grow g2
  have z6:aB ε.2.2.2.2.2.2.2.2.2.1 ⟨[],h2⟩ ε.2.2.2.2.2.2.1 ε.2.2.2.2.2.2.2.2.2.2.2.2.1 ε.2.2.2.2.2.2.2.2.2.2.2.2.2.1 (tabS ε.2.2.2.1):=Ln.lg g2
  have NQ:ai [] ε.2.2.2.2.1.heap h2:=g1.trans g2
  unfold FN
  repeat walk_at "py"
  walk_at "st"
  refine aC _ tC ?_
  repeat walk_at "py"
  have gl:=gB p.2
  refine ES.cut (st':=⟨[("state",.tup [ε.2.2.2.2.2.1,.loc ε.2.2.2.2.2.2.1]),("kit",cJ ε.2.1 ε.2.2.2.2.2.2.2.2.2.2.2.1 ε.2.2.2.2.2.2.2.1 ε.2.2.2.2.2.2.2.2.2.2.1 ε.2.2.2.2.2.2.2.2.1),("number",.int (p.2:Nat)),("one",.str (aQ (worth ε.2.2.2.1 ε.2.1 (p.2/18%3)))),("other",.str (aQ (worth ε.2.2.2.1 ε.2.1 (p.2/108%3)))),("goal",.str (bW (ah p.2) false))],h2⟩) (by rfl) ?_
  refine bQ (λ Tn To Tq Tr=>?_) (C1 _ gl)
  have Tt:(bW (ah p.2) false).length<=sizeLine:=yu (P:=λ v=>(bW v false).length<=sizeLine) (by decide +kernel) (by decide +kernel) (by decide +kernel) _ gl
  have Tu:(bW (ah p.2) false).length+(Ve "st").length<=sizeLine:=yu (P:=λ v=>(bW v false).length+(Ve "st").length<=sizeLine) (by decide +kernel) (by decide +kernel) (by decide +kernel) _ gl
  have I4:(tabS ε.1).length<=1000:=by unfold tabS;rw [Vl];exact Vd hsl (by decide)
  walk_at "st"
  refine aC _ (H.sp W2.S.hi W2.S.hd rfl) (jN O' H W2.S.at I4 Tn ?_)
  show ES _ _ _ ⟨_,af h2 ε.2.2.1 (.lst (tab (gj (tabS ε.1) _)))⟩ _ _
  rw [yw W2.vg To]
  have g3:ai [ε.2.2.1] h2 (af h2 ε.2.2.1 (.lst (tab (tabS ε.1)))):=ai.refl.put (Vi.mpr rfl)
  have W3:=W2.tF g3 (W2.S.put (oR W2.vg)) W2.vg
  have Lo:aB ε.2.2.2.2.2.2.2.2.2.1 ⟨[],af h2 ε.2.2.1 (.lst (tab (tabS ε.1)))⟩ ε.2.2.2.2.2.2.1 ε.2.2.2.2.2.2.2.2.2.2.2.2.1 ε.2.2.2.2.2.2.2.2.2.2.2.2.2.1 (tabS ε.2.2.2.1):=z6.grow g3 (bf (jQ z6.hi W2.S.hl nofun)) (bf (jQ z6.hd W2.S.hl nofun)) (bf hnt.1)
  have Mt:ai [ε.2.2.1] ε.2.2.2.2.1.heap (af h2 ε.2.2.1 (.lst (tab (tabS ε.1)))):=(NQ.sub λ k q=>nomatch q).trans g3
  refine ES.cut (st':=⟨[("state",.tup [ε.2.2.2.2.2.1,.loc ε.2.2.2.2.2.2.1]),("kit",cJ ε.2.1 ε.2.2.2.2.2.2.2.2.2.2.2.1 ε.2.2.2.2.2.2.2.1 ε.2.2.2.2.2.2.2.2.2.2.1 ε.2.2.2.2.2.2.2.2.1),("number",.int (p.2:Nat)),("one",.str (aQ (worth ε.2.2.2.1 ε.2.1 (p.2/18%3)))),("other",.str (aQ (worth ε.2.2.2.1 ε.2.1 (p.2/108%3)))),("goal",.str (bW (ah p.2) false))],af h2 ε.2.2.1 (.lst (tab (tabS ε.1)))⟩) (by rfl) ?_
  generalize af h2 ε.2.2.1 (.lst (tab (tabS ε.1)))=h3 at *
  walk_at "st"
  refine aC _ (H.sp W3.S.hi W3.S.hd rfl) (jN O' H W3.S.at I4 Tq ?_)
  show ES _ _ _ ⟨_,af h3 ε.2.2.1 (.lst (tab (gj (tabS ε.1) _)))⟩ _ _
  rw [yw W3.vg Tr]
  have g4:ai [ε.2.2.1] h3 (af h3 ε.2.2.1 (.lst (tab (tabS ε.1)))):=ai.refl.put (Vi.mpr rfl)
  have W4:=W3.tF g4 (W3.S.put (oR W3.vg)) W3.vg
  have PV:aB ε.2.2.2.2.2.2.2.2.2.1 ⟨[],af h3 ε.2.2.1 (.lst (tab (tabS ε.1)))⟩ ε.2.2.2.2.2.2.1 ε.2.2.2.2.2.2.2.2.2.2.2.2.1 ε.2.2.2.2.2.2.2.2.2.2.2.2.2.1 (tabS ε.2.2.2.1):=Lo.grow g4 (bf (jQ Lo.hi W3.S.hl nofun)) (bf (jQ Lo.hd W3.S.hl nofun)) (bf hnt.1)
  have Tv:ai [ε.2.2.1] ε.2.2.2.2.1.heap (af h3 ε.2.2.1 (.lst (tab (tabS ε.1)))):=Mt.trans g4
  refine ES.cut (st':=⟨[("state",.tup [ε.2.2.2.2.2.1,.loc ε.2.2.2.2.2.2.1]),("kit",cJ ε.2.1 ε.2.2.2.2.2.2.2.2.2.2.2.1 ε.2.2.2.2.2.2.2.1 ε.2.2.2.2.2.2.2.2.2.2.1 ε.2.2.2.2.2.2.2.2.1),("number",.int (p.2:Nat)),("one",.str (aQ (worth ε.2.2.2.1 ε.2.1 (p.2/18%3)))),("other",.str (aQ (worth ε.2.2.2.1 ε.2.1 (p.2/108%3)))),("goal",.str (bW (ah p.2) false))],af h3 ε.2.2.1 (.lst (tab (tabS ε.1)))⟩) (by rfl) ?_
  generalize af h3 ε.2.2.1 (.lst (tab (tabS ε.1)))=h4 at *
  have a1:=W4.S.hi
  have a2:=W4.S.hd
  walk_at "st"
  refine CU.cj (sZ O' H W4.S.at I4 (jo _ gl false) ?_)
  rw [qa _ gl,iK W4.vg gl]
  repeat walk_at "py"
  walk_at "st"
  have hal:(XS V.str (XS aQ (allR ε.1 (ah p.2)))).length<=sizeLine:=by
   rw [Vl,Vl];exact Vd (tE _) (Vd hsl (by decide))
  refine ⟨hal,?_⟩
  show LW _ _ _ _ _ _ _ [] _ _ _ _ _
  refine LW.pure O' (λ _=>true) ni ⟨_,rfl⟩ (λ v hv=>?_) ?_
  ·obtain ⟨x,hx,rfl⟩:∃ x:Int,(0<=x/\x<9973)/\v=V.str (aQ x):=by
    apply iu (h:=hv);intro y hy
    apply iu (h:=hy);intro x hx
    exact aC x (mC W4.vg hx) rfl
   intro C2 O2
   rw [fj hx]
   repeat walk_at "py"
   refine CJ.lZ hx.1 (Yc hx.2 (by decide)) ?_
   exact bY (λ _ _ e=>aV e) rfl rfl
  rw [z9 W4.vg]
  repeat walk_at "py"
  refine CJ.sum O'.toGood (ns:=allR ε.1 (ah p.2)) rfl ?_
  repeat walk_at "py"
  refine ES.cut (st':=⟨[("state",.tup [ε.2.2.2.2.2.1,.loc ε.2.2.2.2.2.2.1]),("kit",cJ ε.2.1 ε.2.2.2.2.2.2.2.2.2.2.2.1 ε.2.2.2.2.2.2.2.1 ε.2.2.2.2.2.2.2.2.2.2.1 ε.2.2.2.2.2.2.2.2.1),("number",.int (p.2:Nat)),("one",.str (aQ (worth ε.2.2.2.1 ε.2.1 (p.2/18%3)))),("other",.str (aQ (worth ε.2.2.2.1 ε.2.1 (p.2/108%3)))),("goal",.str (bW (ah p.2) false)),("shares",.lst (((allR ε.1 (ah p.2)).map aQ).map V.str)),("due",.int (gY ε.1 (ah p.2)))],h4⟩) (by rfl) ?_
  have Tf:=(jo _ gl false).len
  walk_at "st"
  refine aC _ (H.sp W4.S.hi W4.S.hd rfl) ?_
  rw [FE _ gl]
  refine jN O' H W4.S.at I4 (jo _ gl true) ?_
  show ES _ _ _ ⟨_,af h4 ε.2.2.1 (.lst (tab (gj (tabS ε.1) _)))⟩ _ _
  rw [qa _ gl,tn W4.vg gl]
  have PW:=tu W4.vg (ah p.2)
  have NR:(cK ε.1 (ah p.2)).length<=900:=Vd (WD ..) hsl
  have g5:ai [ε.2.2.1] h4 (af h4 ε.2.2.1 (.lst (tab (tabS (cK ε.1 (ah p.2)))))):=ai.refl.put (Vi.mpr rfl)
  have W5:=W4.tF g5 (W4.S.put (oR PW)) PW
  have PX:aB ε.2.2.2.2.2.2.2.2.2.1 ⟨[],af h4 ε.2.2.1 (.lst (tab (tabS (cK ε.1 (ah p.2)))))⟩ ε.2.2.2.2.2.2.1 ε.2.2.2.2.2.2.2.2.2.2.2.2.1 ε.2.2.2.2.2.2.2.2.2.2.2.2.2.1 (tabS ε.2.2.2.1):=PV.grow g5 (bf (jQ PV.hi W4.S.hl nofun)) (bf (jQ PV.hd W4.S.hl nofun)) (bf hnt.1)
  have OQ:ai [ε.2.2.1] ε.2.2.2.2.1.heap (af h4 ε.2.2.1 (.lst (tab (tabS (cK ε.1 (ah p.2)))))):=Tv.trans g5
  refine ES.cut (st':=⟨oX ε.2.2.2.2.2.1 ε.2.2.2.2.2.2.1 (cJ ε.2.1 ε.2.2.2.2.2.2.2.2.2.2.2.1 ε.2.2.2.2.2.2.2.1 ε.2.2.2.2.2.2.2.2.2.2.1 ε.2.2.2.2.2.2.2.2.1) ε.2.1 ε.2.2.2.1 ε.1 p.2,af h4 ε.2.2.1 (.lst (tab (tabS (cK ε.1 (ah p.2)))))⟩) (by rfl) ?_
  generalize af h4 ε.2.2.1 (.lst (tab (tabS (cK ε.1 (ah p.2)))))=h5 at *
  have m1:p.2/18%3<3:=Vy _ (by decide)
  have m2:p.2/108%3<3:=Vy _ (by decide)
  have v1:=eT hr hf m1
  have v2:=eT hr hf m2
  have b1:=W5.S.hi
  have b2:=W5.S.hd
  have hmul:(gY ε.1 (ah p.2)).natAbs<2^62\/(oU p.2 1 1 (worth ε.2.2.2.1 ε.2.1 (p.2/108%3))).natAbs<2^62:=.inr (VB (Bu (by decide) (by decide) v2) (by decide))
  have Ry:(gY ε.1 (ah p.2)).natAbs<2^62\/(oU p.2 1 (-1) (worth ε.2.2.2.1 ε.2.1 (p.2/18%3))).natAbs<2^62:=.inr (VB (Bu (by decide) (by decide) v1) (by decide))
  walk_at "st"
  refine aC _ z8 ?_
  repeat walk_at "py"
  refine CJ.lZ v2.1 (Yc v2.2 (by decide)) ?_
  repeat walk_at "py"
  refine aC _ ((congrArg (λ x=>gq _ (V.tup _) (V.int x)) (fh p.2 3)).trans (dK tw (Vv (VJ (Vy _ (by decide)) (by decide))))) ?_
  repeat walk_at "py"
  refine CJ.str_int (log2_small (cE _)) ?_
  repeat walk_at "py"
  have NS:(tabS (cK ε.1 (ah p.2))).length<=1000:=by unfold tabS;rw [Vl];exact Vd NR (by decide)
  refine CU.cj (s7 O' H W5.S.at NS (jo _ m1 false) (nS (cE _).1 (cE _).2) (Vd (mw (cE _).1 (cE _).2) (by decide)) λ h6 g6 Tw=>?_)
  repeat walk_at "py"
  have Tz:∀ r∈cK ε.1 (ah p.2)++[(⟨p.2/18%3,false,yE ε.2.1 ε.2.2.2.1 ε.1 p.2⟩:Row)],r.ok:=rC PW ⟨m1,cE _⟩
  have PY:aB ε.2.2.2.2.2.2.2.2.2.1 ⟨[],h6⟩ ε.2.2.2.2.2.2.2.1 ε.2.2.2.2.2.2.2.2.2.2.2.2.2.2.2.1 ε.2.2.1 (tabS (cK ε.1 (ah p.2)++[⟨p.2/18%3,false,yE ε.2.1 ε.2.2.2.1 ε.1 p.2⟩])):=by
   rw [<-qb];exact Tw.at
  have W6:=W5.tF g6 PY Tz
  have Lp:aB ε.2.2.2.2.2.2.2.2.2.1 ⟨[],h6⟩ ε.2.2.2.2.2.2.1 ε.2.2.2.2.2.2.2.2.2.2.2.2.1 ε.2.2.2.2.2.2.2.2.2.2.2.2.2.1 (tabS ε.2.2.2.1):=PX.grow g6 (bf (jQ PX.hi W5.S.hl nofun)) (bf (jQ PX.hd W5.S.hl nofun)) (bf hnt.1)
  have TA:ai [ε.2.2.1] ε.2.2.2.2.1.heap h6:=OQ.trans g6
  have c1:=W6.S.hi
  have c2:=W6.S.hd
  refine ES.cut (st':=⟨oX ε.2.2.2.2.2.1 ε.2.2.2.2.2.2.1 (cJ ε.2.1 ε.2.2.2.2.2.2.2.2.2.2.2.1 ε.2.2.2.2.2.2.2.1 ε.2.2.2.2.2.2.2.2.2.2.1 ε.2.2.2.2.2.2.2.2.1) ε.2.1 ε.2.2.2.1 ε.1 p.2,h6⟩) (by rfl) ?_
  have hm2:=(jo _ m2 false).len
  walk_at "st"
  refine aC _ yF ?_
  repeat walk_at "py"
  rw [FE _ m2]
  refine CJ.lZ v1.1 (Yc v1.2 (by decide)) ?_
  repeat walk_at "py"
  refine aC _ ((congrArg (λ x=>gq _ (V.tup _) (V.int x)) (fh p.2 3)).trans (dK tw (Vv (VJ (Vy _ (by decide)) (by decide))))) ?_
  repeat walk_at "py"
  refine CJ.str_int (log2_small (cE _)) ?_
  repeat walk_at "py"
  have NT:(tabS (cK ε.1 (ah p.2)++[(⟨p.2/18%3,false,yE ε.2.1 ε.2.2.2.1 ε.1 p.2⟩:Row)])).length<=1000:=by unfold tabS;rw [Vl,Vk];exact Vd (VN NR 1) (by decide)
  refine CU.cj (s7 O' H W6.S.at NT (jo _ m2 true) (nS (cE _).1 (cE _).2) (Vd (mw (cE _).1 (cE _).2) (by decide)) λ h7 g7 TF=>?_)
  repeat walk_at "py"
  have TG:=Bt (f:=ε.2.1) (rows:=ε.2.2.2.1) W.vg p.2
  have PZ:aB ε.2.2.2.2.2.2.2.2.2.1 ⟨[],h7⟩ ε.2.2.2.2.2.2.2.1 ε.2.2.2.2.2.2.2.2.2.2.2.2.2.2.2.1 ε.2.2.1 (tabS (iM ε.2.1 ε.2.2.2.1 ε.1 p.2)):=by
   unfold iM;rw [<-qb];exact TF.at
  have W7:=W6.tF g7 PZ TG
  have Lq:aB ε.2.2.2.2.2.2.2.2.2.1 ⟨[],h7⟩ ε.2.2.2.2.2.2.1 ε.2.2.2.2.2.2.2.2.2.2.2.2.1 ε.2.2.2.2.2.2.2.2.2.2.2.2.2.1 (tabS ε.2.2.2.1):=Lp.grow g7 (bf (jQ Lp.hi W6.S.hl nofun)) (bf (jQ Lp.hd W6.S.hl nofun)) (bf hnt.1)
  have TH:ai [ε.2.2.1] ε.2.2.2.2.1.heap h7:=TA.trans g7
  refine ES.cut (st':=⟨oX ε.2.2.2.2.2.1 ε.2.2.2.2.2.2.1 (cJ ε.2.1 ε.2.2.2.2.2.2.2.2.2.2.2.1 ε.2.2.2.2.2.2.2.1 ε.2.2.2.2.2.2.2.2.2.2.1 ε.2.2.2.2.2.2.2.2.1) ε.2.1 ε.2.2.2.1 ε.1 p.2,h7⟩) (by rfl) ?_
  refine aI (λ ll FT LT=>?_) W7.L
  have d1:=LT.hi
  have d2:=LT.hd
  have hnl:0<=((p.2:Nat):Int)/\((p.2:Nat):Int)<9973:=⟨V0 _,Wz.mpr (VJ hn (by decide))⟩
  walk_at "st"
  refine CJ.str_int (log2_small hnl) ?_
  repeat walk_at "py"
  refine CU.cj (s7 O' H LT.at (by rw [FT];exact Vd hm (by decide)) (jo _ gl false) (nS hnl.1 hnl.2) (Vd (mw hnl.1 hnl.2) (by decide)) λ h8 g8 TJ=>?_)
  repeat walk_at "py"
  have W8:nj ε.2.2.2.2.2.2.2.2.2.1 h8 ε.2.2.2.2.2.2.2.1 ε.2.2.2.2.2.2.2.2.2.2.2.2.2.2.2.1 ε.2.2.1 ε.2.2.2.2.2.2.2.2.2.2.1 ε.2.2.2.2.2.2.2.2.2.2.2.2.2.2.2.2.2.2.2.1 ε.2.2.2.2.2.2.2.2.2.2.2.2.2.2.2.2.2.2.1 ε.2.2.2.2.2.2.2.2.1 ε.2.2.2.2.2.2.2.2.2.2.2.2.2.2.2.2.2.2.2.2.1 (iM ε.2.1 ε.2.2.2.1 ε.1 p.2) (ε.2.2.2.2.2.2.2.2.2.2.2.2.2.2.2.2.2.2.2.2.2.1+1) ε.2.2.2.2.2.2.2.2.2.2.2.2.2.2.2.2.1:=W7.log g8 ⟨_,by rw [Vk,FT];rfl,TJ.at⟩
  have P0:aB ε.2.2.2.2.2.2.2.2.2.1 ⟨[],h8⟩ ε.2.2.2.2.2.2.1 ε.2.2.2.2.2.2.2.2.2.2.2.2.1 ε.2.2.2.2.2.2.2.2.2.2.2.2.2.1 (tabS ε.2.2.2.1):=Lq.grow g8 (bf (jQ Lq.hi LT.hl nofun)) (bf (jQ Lq.hd LT.hl nofun)) (bf hnt.2.1)
  have TL:ai [ε.2.2.1,ε.2.2.2.2.2.2.2.2.2.2.2.2.2.2.2.2.2.2.1] ε.2.2.2.2.1.heap h8:=(TH.sub λ k q=>Vm.mpr (.inl (Vi.mp q))).trans (g8.sub λ k q=>Vm.mpr (.inr q))
  refine ES.cut (st':=⟨oX ε.2.2.2.2.2.1 ε.2.2.2.2.2.2.1 (cJ ε.2.1 ε.2.2.2.2.2.2.2.2.2.2.2.1 ε.2.2.2.2.2.2.2.1 ε.2.2.2.2.2.2.2.2.2.2.1 ε.2.2.2.2.2.2.2.2.1) ε.2.1 ε.2.2.2.1 ε.1 p.2,h8⟩) (by rfl) ?_
  have e1:=W8.E
  have UU:=P0.hi
  have UW:=P0.hd
  have UX:ε.2.2.2.2.2.2.2.2.2.2.2.2.2.2.2.2.1.length<=sizeLine:=Vd hel (by decide)
  have hlen:(tabS ε.2.2.2.1).length<=1000:=by unfold tabS;rw [Vl];exact Vd hrl (by decide)
  walk_at "st"
  refine CU.cj (yt O' H P0.at hlen ?_)
  repeat walk_at "py"
  have g9:ai [ε.2.2.2.2.2.2.2.2.1] h8 (af h8 ε.2.2.2.2.2.2.2.2.1 (.lst (ε.2.2.2.2.2.2.2.2.2.2.2.2.2.2.2.2.1++[vf ε.2.1 ε.2.2.2.1 ε.1 p.2]))):=ai.refl.put (Vi.mpr rfl)
  refine h _ ((TL.sub λ k q=>?_).trans (g9.sub λ k q=>?_)) (W8.Tj g9 aj)
  ·exact (Vm.mp q).elim (λ q=>Vm.mpr (.inl q)) λ q=>Vm.mpr (.inr (Vm.mpr (.inl (Vi.mp q))))
  ·exact Vm.mpr (.inr (Vm.mpr (.inr q)))
end mD
theorem I5 {C T A d N st X w src n dk hk sk dD bV lk cD bx ek kp m qc f rows aK seen l Q}:mD.aq aK f bV rows st src n sk ek A lk qc dk hk w dD seen l bx cD kp m C T d N X Q:=nR (S:=mD.S0) mD.here (aK,f,bV,rows,st,src,n,sk,ek,A,lk,qc,dk,hk,w,dD,seen,l,bx,cD,kp,m,C,T,d,N,X,Q)
section
noncomputable def bS (f:Nat->Int):List Row->List Row->List Nat->List Row
 | _,s,[]=>s
 | rows,s,n::ns=>iM f rows (bS f (bh f rows n) s ns) n
noncomputable def sS (f:Nat->Int):List Row->List Row->List Nat->List V
 | _,_,[]=>[]
 | rows,s,n::ns=>sS f (bh f rows n) s ns++[vf f rows (bS f (bh f rows n) s ns) n]
theorem NU {P:List Vg->List Vg->Prop}(h:∀ a b c d,P [a,b,c,d] [])(xs ys:List Vg)(e:xs.length=4)(q:ys.length=0):P xs ys:=len0 q (zR (P:=λ xs=>P xs []) e λ a l e=>Fy (P:=λ l=>P (a::l) []) (h a) l e)
theorem Ab {f:Nat->Int}:∀ {a b:List Nat}{rows s:List Row},bS f rows s (a++b)=bS f rows (bS f (cU f rows a) s b) a
 | [],_,_,_=>rfl
 | n::a,b,rows,s=>by
  show iM f rows (bS f (bh f rows n) s (a++b)) n=iM f rows (bS f (bh f rows n) (bS f (cU f (bh f rows n) a) s b) a) n
  rw [Ab (a:=a)]
theorem FZ {f:Nat->Int}:∀ {a b:List Nat}{rows s:List Row},sS f rows s (a++b)=sS f (cU f rows a) s b++sS f rows (bS f (cU f rows a) s b) a
 | [],_,_,_=>(VT _).symm
 | n::a,b,rows,s=>by
  show sS f (bh f rows n) s (a++b)++[vf f rows (bS f (bh f rows n) s (a++b)) n]=_
  rw [FZ (a:=a),Ab (a:=a),Vs];rfl
theorem F0 {f:Nat->Int}{s:List Row}(h:∀ r∈s,r.ok):∀ {ns:List Nat}{rows:List Row},∀ r∈bS f rows s ns,r.ok
 | [],_=>h
 | n::ns,rows=>Bt (F0 h) n
theorem wO {f:Nat->Int}{s:List Row}:∀ {ns:List Nat}{rows:List Row},(bS f rows s ns).length<=s.length+2*ns.length
 | [],_=>VD _
 | n::ns,rows=>Vd (FY n) (Vd (VN (wO (ns:=ns)) 2) (VD _))
theorem Ac {f:Nat->Int}{s:List Row}:∀ {ns:List Nat}{rows:List Row},(sS f rows s ns).length=ns.length
 | [],_=>rfl
 | n::ns,rows=>by
  show (sS f (bh f rows n) s ns++[_]).length=_
  rw [Vk,Ac (ns:=ns)];rfl
noncomputable def ri (n:Nat):Nat:=n*(n+1)/2
theorem F7 (n:Nat):ri (n+1)=ri n+(n+1):=by
 unfold ri
 rw [show (n+1)*(n+1+1)=n*(n+1)+2*(n+1) from (Nat.mul_comm _ _).trans (Nat.add_mul n 2 (n+1)),Nat.add_mul_div_left _ _ (by decide)]
def nq (cf:Nat->Nat->Nat):Nat->Nat->Nat->Option Nat
 | 0,_,_=>none
 | k+1,free,size=>bif Xf size 2||Vo free 0 then some (size*(size+1)/2) else bif Wn (cf free size) size then
   (nq cf k (free-1) (size-cf free size)).bind λ a=>(nq cf k free (cf free size)).map λ b=>cf free size+a+b else none
noncomputable def qt (n:Nat):List V:=((Yk n).map λ i=>V.int (i:Nat)).reverse
theorem qd (n:Nat):qt (n+1)=V.int (n:Nat)::qt n:=by
 unfold qt;rw [List.range_succ,VI,List.reverse_append];rfl
theorem NV {n:Nat}(h:n<10):VO ((n:Nat)-1) (-1) (-1)=true/\dg ((n:Nat)-1) (-1) (-1)=qt n/\YD (-1-((n:Nat)-1)) (-1)=false:=fF (P:=λ n=>VO ((n:Nat)-1) (-1) (-1)=true/\dg ((n:Nat)-1) (-1) (-1)=qt n/\YD (-1-((n:Nat)-1)) (-1)=false) (n:=10) ⟨⟨⟨⟨⟨⟨⟨⟨⟨⟨trivial,(bY (by decide +kernel) (by kernel_rfl) (by decide +kernel))⟩,(bY (by decide +kernel) (by kernel_rfl) (by decide +kernel))⟩,(bY (by decide +kernel) (by kernel_rfl) (by decide +kernel))⟩,(bY (by decide +kernel) (by kernel_rfl) (by decide +kernel))⟩,(bY (by decide +kernel) (by kernel_rfl) (by decide +kernel))⟩,(bY (by decide +kernel) (by kernel_rfl) (by decide +kernel))⟩,(bY (by decide +kernel) (by kernel_rfl) (by decide +kernel))⟩,(bY (by decide +kernel) (by kernel_rfl) (by decide +kernel))⟩,(bY (by decide +kernel) (by kernel_rfl) (by decide +kernel))⟩,(bY (by decide +kernel) (by kernel_rfl) (by decide +kernel))⟩ n h
section
variable {C:Cx}{T:Th}{A:cN}{d:Nat}{N:List (Str×Vn)}{st:St}{X:XK}{kb:Nat}
noncomputable def Lr (h:List (Nat×MO))(pl:V)(free size cut:Nat):Prop:=
 ∃ k eU rv cells c,pl=.loc k/\J h k=some (.lst eU)/\bq eU free=some rv/\aE ⟨[],h⟩ rv=some cells/\bq cells size=some (.tup [c,.int (cut:Nat)])
noncomputable def oY (ks:List Nat)(h:List (Nat×MO))(pl:V)(cf:Nat->Nat->Nat)(B S:Nat):Prop:=∀ h',ai ks h h'->∀ free size,1<=free->free<=B->2<=size->size<=S->Lr h' pl free size (cf free size)
theorem oY.grow {ks:List Nat}{h h':List (Nat×MO)}{pl:V}{cf:Nat->Nat->Nat}{B S:Nat}(p:oY ks h pl cf B S)(g:ai ks h h'):oY ks h' pl cf B S:=λ h2 g2=>p h2 (g.trans g2)
def qe (A:cN)(T:Th)(f:Nat->Int)(cf:Nat->Nat->Nat)(w sk dD bV lk cD bx ek kp:Nat)(pl:V)(B S k:Nat):Prop:=
 ∀ ⦃C:Cx⦄ ⦃N:List (Str×Vn)⦄ ⦃d:Nat⦄ ⦃st:St⦄ ⦃X:XK⦄ ⦃Q:QV⦄ ⦃src:V⦄ ⦃n dk hk:Nat⦄ ⦃rows aK:List Row⦄ ⦃seen:List V⦄ ⦃m c free:Nat⦄ ⦃pre post:List (Nat×Nat)⦄,On C T (d+k+8) N->nq cf k free pre.length=some c->free<=B->pre.length<=S->
  aE st src=some (bz (bw w (pre++post)))->(∀ p∈pre++post,p.2<648)->(bw w (pre++post)).length<=1000->aB A st n dk hk (tabS rows)->(∀ r∈rows,r.ok)->rows.length+pre.length<=100->nj A st.heap sk dD bV lk cD bx ek kp aK m seen->
  m+c<=800->aK.length+2*pre.length<=900->seen.length+pre.length<=900->(hk≠bV/\hk≠bx/\hk≠ek)->qs src [bV,bx,ek]->oY [bV,bx,ek] st.heap pl cf B S->
  (∀ h',ai [bV,bx,ek] st.heap h'->nj A h' sk dD bV lk cD bx ek kp (bS f rows aK (numsOf pre)) (m+c) (seen++sS f rows aK (numsOf pre))->Q .none ⟨st.vars,h'⟩)->
  CU C A.sU [.tup [src,.loc n],.int (pre.length:Nat),.int (free:Nat),cJ f pl sk lk ek] [] [] st Q X
theorem nj.away {h:List (Nat×MO)}{sk dD bV lk cD bx ek kp m:Nat}{aK:List Row}{seen:List V}(w:nj A h sk dD bV lk cD bx ek kp aK m seen){k:Nat}{o:MO}(e:J h k=some o)(ho:∀ l,o≠.lst l):k∉[bV,bx,ek]:=
 aI (λ _ _ LT=>FQ (jQ e w.S.hl (ho _)) (jQ e LT.hl (ho _)) (jQ e w.E (ho _))) w.L
theorem C5 {f:Nat->Int}{rows:List Row}{a:List (Nat×Nat)}{p:Nat×Nat}:cU f rows (numsOf (a++[p]))=bh f (cU f rows (numsOf a)) p.2:=by
 unfold cU numsOf
 rw [VI,List.foldl_append];rfl
theorem numsOf_len {a:List (Nat×Nat)}:(numsOf a).length=a.length:=Vl ..
theorem Ad {a b:List (Nat×Nat)}:numsOf (a++b)=numsOf a++numsOf b:=VI ..
noncomputable def NW:List Stmt->List Stmt×List Stmt
 | .If _ b e _::_=>(b,e)
 | _=>([],[])
noncomputable abbrev F8 (l:List Stmt):List Stmt:=(NW l).1
noncomputable abbrev dQ (src:V)(n size free:Nat)(kit:V):List (Str×V):=[((Ve "state"),V.tup [src,.loc n]),("size",V.int (size:Nat)),("free",V.int (free:Nat)),("kit",kit)]
noncomputable def NX (A:cN)(f:Nat->Int)(base:List (Str×V))(h:List (Nat×MO))(sk dD bV lk cD bx ek kp:Nat)(rows aK:List Row)(seen:List V)(m:Nat)(pre:List (Nat×Nat))(rv:List V)(s:St):Prop:=
 ∃ p1 p2 c,rv=qt p1.length/\p1++p2=pre/\gf base s.vars/\ai [bV,bx,ek] h s.heap/\nj A s.heap sk dD bV lk cD bx ek kp (bS f (cU f rows (numsOf p1)) aK (numsOf p2)) c (seen++sS f (cU f rows (numsOf p1)) aK (numsOf p2))/\c+ri p1.length=m+ri pre.length
end
namespace iN
noncomputable def aq (A:cN)(kb:Nat)(h:List (Nat×MO))(C:Cx)(T:Th)(d:Nat)(X:XK)(Q:Fl->St->Prop):Prop:=∀ (O:On C T (d+8) (aO (aJ 24)).names) (Tp:C.Top) (H:Fx T A) {w:Nat}{src:V}{n dk hk sk dD bV lk cD bx ek kp m free:Nat}{pl:V}{f:Nat->Int} (hf:ck f) {rows aK:List Row}{seen:List V}{pre post:List (Nat×Nat)}{stmts:List Stmt} (hw:F8 (bodyOf (aJ 24))=stmts) (hpl:pre.length<=9) (hs:aE ⟨[],h⟩ src=some (bz (bw w (pre++post)))) (hn:∀ p∈pre++post,p.2<648) (hz:(bw w (pre++post)).length<=1000) (HT:aB A ⟨[],h⟩ n dk hk (tabS rows)) (hr:∀ r∈rows,r.ok) (hrl:rows.length+pre.length<=100) (W:nj A h sk dD bV lk cD bx ek kp aK m seen) (hm:m+ri pre.length<=800) (hsl:aK.length+2*pre.length<=900) (hel:seen.length+pre.length<=900) (hnt:hk≠bV/\hk≠bx/\hk≠ek) (jq:qs src [bV,bx,ek]) (q:∀ s,ai [bV,bx,ek] h s.heap->nj A s.heap sk dD bV lk cD bx ek kp (bS f rows aK (numsOf pre)) (m+ri pre.length) (seen++sS f rows aK (numsOf pre))->Q .next s),ES C kb (execs stmts C.env) ⟨dQ src n pre.length free (cJ f pl sk lk ek),h⟩ Q X
noncomputable def S0:=u8 aq
noncomputable def ε:=eu (by walk_at "ne") S0
theorem here:S0 ε:=by
 intro O Tp H w src n dk hk sk dD bV lk cD bx ek kp m free pl f hf rows aK seen pre post stmts hw hpl hs hn hz HT hr hrl W hm hsl hel hnt jq q
 subst hw
 conv=>arg 3;arg 1;whnf
 (with_reducible refine' ES.cons ?_)
 refine O.wA Tp rfl trivial (iB.ev ?_)
 repeat walk_at "py"
 have rn:=NV (Wo hpl)
 refine CJ.EC (by decide) rn.2.2 (ay _ _ rfl rn.1 (fu ε.2.1 (VD _) ⟨trivial,trivial⟩ ?_))
 refine jl.ind (I:=NX ε.1 f (dQ src n pre.length free (cJ f pl sk lk ek)) ε.2.2.1 sk dD bV lk cD bx ek kp rows aK seen m pre) ?_ ?_ _ _ ⟨pre,[],m,rn.2.1,VT _,λ _ _ e=>e,ai.refl,(VT seen).symm▸W,rfl⟩
 ·intro s;refine aU λ p1 p2 c nX=>bB λ hpp hsv g W' hc=>?_
  refine ⟨⟨_,rfl⟩,?_⟩
  obtain rfl:p1=[]:=by
   induction p1 using VY with
   | nil=>rfl
   | cons p l=>rw [V3,qd] at nX;exact nomatch nX
  obtain rfl:p2=pre:=hpp
  obtain rfl:c=m+ri p2.length:=hc
  repeat walk_at "py"
  exact q s g W'
 ·intro v rv s;refine aU λ p1 p2 c nX=>bB λ hpp hsv g W' hc=>?_
  refine ⟨⟨_,rfl⟩,λ C2 O2 T2=>AS.drop hsv ?_⟩
  obtain ⟨p0,p,rfl⟩:∃ l p,p1=l++[p]:=by
   rcases List.eq_nil_or_concat p1 with rfl | ⟨l,p,rfl⟩
   ·exact nomatch nX
   ·exact rD l p (List.concat_eq_append ..)
  rw [Vk,YI,qd] at nX
  rw [Vk,YI,F7] at hc
  refine qA (λ e_ cg=>?_) (Wu nX);subst e_ cg
  have hL:pre++post=p0++(p::(p2++post)):=by rw [<-hpp];simp only [Vs,ci,Vz]
  have NY:p0.length+1+p2.length=pre.length:=by rw [<-hpp,Vk,Vk];rfl
  have hp0:p0.length+1<=pre.length:=Vd (Vw _ p2.length) (VK NY)
  have hp2:p2.length<=pre.length:=Vd (YH _ _) (VK NY)
  have Rz:=Vd (VK hc) hm
  refine aI (λ ll FT LT=>?_) W'.L
  have hs':=cY (vs':=dQ src n pre.length free (cJ f pl sk lk ek)++[((Ve "ahead"),V.int (p0.length:Nat))]) hs g jq
  rw [hL] at hs' hn hz
  have Kq:=HT.grow (vs:=[]) g (W.away HT.hi nofun) (W.away HT.hd nofun) (FQ hnt.1 hnt.2.1 hnt.2.2)
  walk_at "py"
  repeat walk_at "py"
  refine ES.cut (st':=⟨dQ src n pre.length free (cJ f pl sk lk ek)++[((Ve "ahead"),V.int (p0.length:Nat))],s.heap⟩) (by rfl) ?_
  walk_at "st"
  refine CU.cj (tD O2 H (w:=w) hs' hn (Vx hp0 (Vd hpl (by decide))) Kq.at hr (Vd (Vw _ _) hrl) hf W'.L (Vd (Vw _ _) Rz) W'.P (λ k e=>λ q=>jq k e (Vm.mpr (.inr (Vm.mpr (.inl (Vi.mp q)))))) hz λ h2 n2 TM hk2 g2 e1 e2 e3 z6 NP=>?_)
  repeat walk_at "py"
  have W2:=W'.log g2 NP
  have NZ:=oV (f:=f) (ns:=numsOf p0) (rows:=rows)
  rw [numsOf_len] at NZ
  have sl2:=wO (f:=f) (s:=aK) (ns:=numsOf p2) (rows:=cU f rows (numsOf (p0++[p])))
  rw [numsOf_len] at sl2
  have RB:=Ac (f:=f) (s:=aK) (ns:=numsOf p2) (rows:=cU f rows (numsOf (p0++[p])))
  rw [numsOf_len] at RB
  refine CU.cj (I5 O2 H (w:=w) (src:=.lst (bz (bw w (p::(p2++post))))) (l:=p2++post) rfl (hn p (Wa.mpr (.inr (VC ..)))) z6.at (tB hr) (Vd NZ (Vd (Vq (Ye hp0) _) (Vd hrl (by decide)))) hf W2 (Vd (Vq (Vd (Xy _) (YH _ _)) c) (Vd Rz (by decide))) (Vd sl2 (Vd (Vq (VP 2 hp2) _) hsl)) (by rw [Vk,RB];exact Vd (Vq hp2 _) hel) (bY (gX e3 W'.S.hl) (gX e3 LT.hl) (gX e3 W'.E)) λ h3 g3 W3=>?_)
  repeat walk_at "py"
  rw [C5,Vs] at W3
  refine ⟨p0,p::p2,c+p0.length+1,rfl,by rw [<-hpp,Vs];rfl,aW _ _,(g.trans (g2.sub λ k q=>Vm.mpr (.inr (Vm.mpr (.inl (Vi.mp q)))))).trans g3,W3,(Xc c (p0.length+1) (ri p0.length)).trans ((congrArg (c + ·) (WG (p0.length+1) (ri p0.length))).trans hc)⟩
end iN
theorem C6 {C T A d X kb h Q}:iN.aq A kb h C T d X Q:=nR (S:=iN.S0) iN.here (A,kb,h,C,T,d,X,Q)
section
variable {C:Cx}{T:Th}{A:cN}{d:Nat}{N:List (Str×Vn)}{st:St}{X:XK}{kb:Nat}
theorem Bv {v x:V}{l:List V}{i:Nat}(hs:aE st v=some l)(h:bq l i=some x)(hi:i<=1000):gq st v (.int (i:Nat))=some x:=by
 induction v using V.casesOn with
 | loc n=>exact bN (dm hs) h (VS hi)
 | lst l2=>obtain rfl:=Vf hs;exact dX h hi
 | _=>exact aV hs
theorem C7 {w:Nat}{a b:List (Nat×Nat)}:(bw w b).length<=(bw w (a++b)).length:=by
 unfold bw
 rw [VI,List.flatten_append,Vs]
 rw [Vk (as:=(a.map _).flatten)]
 exact YH _ _
end
namespace jT
noncomputable def aq (a b:List (Nat×Nat))(f:Nat->Int)(m fr ek x sk lk pk:Nat)(src:V)(n d k y:Nat)(rows:List Row)(T:Th)(w bx:Nat)(aK:List Row)(bV:Nat)(post:List (Nat×Nat))(h:List (Nat×MO))(C:Cx)(A:cN)(X:XK)(kb dD cD kp B S:Nat)(rv cc:V)(eU cells:List V)(dk hk:Nat)(seen:List V)(Q:Fl->St->Prop):Prop:=∀ (H:Fx T A) (hf:ck f) {cf:Nat->Nat->Nat} (hS:S<=9) (hB:B<=9) (ih:qe A T f cf w sk dD bV lk cD bx ek kp (.loc pk) B S k) (O:On C T (d+k+8) (aO (aJ 24)).names) {stmts:List Stmt} (hw:(NW (bodyOf (aJ 24))).2=stmts) (p1:J h pk=some (.lst eU)) (p2:bq eU (fr+1)=some rv) (p3:aE ⟨[],h⟩ rv=some cells) (p4:bq cells (a++b).length=some (.tup [cc,.int (a.length:Nat)])) (hab:(a++b).length=a.length+b.length) (ha:a.length<=(a++b).length) (hb':b.length<=(a++b).length) (hx:nq cf k fr b.length=some x) (hy:nq cf k (fr+1) a.length=some y) (hfr:fr+1<=B) (hpl:(a++b).length<=S) (hs0:aE ⟨[],h⟩ src=some (bz (bw w (a++(b++post))))) (hn:∀ p∈a++(b++post),p.2<648) (hz:(bw w (a++(b++post))).length<=1000) (HT:aB A ⟨[],h⟩ n dk hk (tabS rows)) (hr:∀ r∈rows,r.ok) (hrl:rows.length+(a++b).length<=100) (W:nj A h sk dD bV lk cD bx ek kp aK m seen) (hm:m+(a.length+x+y)<=800) (hsl:aK.length+2*(a++b).length<=900) (hel:seen.length+(a++b).length<=900) (hnt:hk≠bV/\hk≠bx/\hk≠ek) (jq:qs src [bV,bx,ek]) (hp:oY [bV,bx,ek] h (.loc pk) cf B S) (q:∀ h',ai [bV,bx,ek] h h'->nj A h' sk dD bV lk cD bx ek kp (bS f rows aK (numsOf (a++b))) (m+(a.length+x+y)) (seen++sS f rows aK (numsOf (a++b)))->Q .next ⟨dQ src n (a++b).length (fr+1) (cJ f (.loc pk) sk lk ek)++[((Ve "cut"),V.int (a.length:Nat))],h'⟩),ES C kb (execs stmts C.env) ⟨dQ src n (a++b).length (fr+1) (cJ f (.loc pk) sk lk ek),h⟩ Q X
noncomputable def S0:=Sb aq
noncomputable def ε:=eu (by walk_at "ne") S0
theorem here:S0 ε:=by
 intro H hf cf hS hB ih O stmts hw p1 p2 p3 p4 hab ha hb' hx hy hfr hpl hs0 hn hz HT hr hrl W hm hsl hel hnt jq hp q
 subst hw
 conv=>arg 3;arg 1;whnf
 have sb:∀ kk,kk∈[ε.2.2.2.2.2.2.2.2.2.2.2.2.2.2.2.2.2.2.1]->kk∈[ε.2.2.2.2.2.2.2.2.2.2.2.2.2.2.2.2.2.2.2.2.1,ε.2.2.2.2.2.2.2.2.2.2.2.2.2.2.2.2.2.2.1,ε.2.2.2.2.2.1]:=λ kk q=>Vm.mpr (.inr (Vm.mpr (.inl (Vi.mp q))))
 walk_at "st"
 refine aC _ (bN p1 p2 (VS (Vd hfr (Vd hB (by decide))))) ?_
 repeat walk_at "py"
 refine aC _ (Bv (jS p3) p4 (Vd (Vd hpl hS) (by decide))) ?_
 repeat walk_at "py"
 refine ES.cut (st':=⟨dQ ε.2.2.2.2.2.2.2.2.2.2.1 ε.2.2.2.2.2.2.2.2.2.2.2.1 (ε.1++ε.2.1).length (ε.2.2.2.2.1+1) (cJ ε.2.2.1 (.loc ε.2.2.2.2.2.2.2.2.2.1) ε.2.2.2.2.2.2.2.1 ε.2.2.2.2.2.2.2.2.1 ε.2.2.2.2.2.1)++[((Ve "cut"),V.int (ε.1.length:Nat))],ε.2.2.2.2.2.2.2.2.2.2.2.2.2.2.2.2.2.2.2.2.2.2.1⟩) (by rfl) ?_
 walk_at "st"
 refine CU.cj (tD (d:=ε.2.2.2.2.2.2.2.2.2.2.2.2.1+ε.2.2.2.2.2.2.2.2.2.2.2.2.2.1+1) O H (w:=ε.2.2.2.2.2.2.2.2.2.2.2.2.2.2.2.2.2.1) (jS hs0) hn (VB (Vd ha (Vd hpl hS)) (by decide)) HT.at hr (Vd (Vw _ _) hrl) hf W.L (Vd (Vw _ _) hm) W.P (λ kk e q=>jq kk e (sb kk q)) hz λ h2 n2 TM hk2 g2 e4 e5 e6 z6 NP=>?_)
 repeat walk_at "py"
 rw [show (((ε.1++ε.2.1).length:Nat):Int)-((ε.1.length:Nat):Int)=((ε.2.1.length:Nat):Int) from by rw [hab,Int.natCast_add,io,Int.add_sub_cancel],show ((ε.2.2.2.2.1+1:Nat):Int)-1=((ε.2.2.2.2.1:Nat):Int) from Int.add_sub_cancel (ε.2.2.2.2.1:Int) 1]
 have OP:=g2.sub sb
 refine aI (λ ll FT LT=>?_) W.L
 have W2:=W.log g2 NP
 have NZ:=oV (f:=ε.2.2.1) (ns:=numsOf ε.1) (rows:=ε.2.2.2.2.2.2.2.2.2.2.2.2.2.2.2.1)
 rw [numsOf_len] at NZ
 have TN:=C7 (w:=ε.2.2.2.2.2.2.2.2.2.2.2.2.2.2.2.2.2.1) (a:=ε.1) (b:=ε.2.1++ε.2.2.2.2.2.2.2.2.2.2.2.2.2.2.2.2.2.2.2.2.2.1)
 refine CU.cj (ih (show On _ ε.2.2.2.2.2.2.2.2.2.2.2.2.2.2.2.2.1 (ε.2.2.2.2.2.2.2.2.2.2.2.2.1+ε.2.2.2.2.2.2.2.2.2.2.2.2.2.1+8) _ from O) hx (Ye hfr) (Vd hb' hpl) rfl (λ p q=>hn p (Wa.mpr (.inr q))) (Vd TN hz) z6.at (tB hr) (Vd (VN NZ _) (by rw [Xc,<-hab];exact hrl)) W2 (Vd (VK (Xc ε.2.2.2.1 ε.1.length ε.2.2.2.2.2.2.1)) (Vd (Vq (Vw _ _) ε.2.2.2.1) hm)) (Vd (Vq (VP 2 hb') _) hsl) (Vd (Vq hb' _) hel) (bY (gX e6 W.S.hl) (gX e6 LT.hl) (gX e6 W.E)) nofun (hp.grow OP) λ h3 g3 W3=>?_)
 repeat walk_at "py"
 have Mt:=OP.trans g3
 have Lo:=HT.grow (vs:=dQ ε.2.2.2.2.2.2.2.2.2.2.1 ε.2.2.2.2.2.2.2.2.2.2.2.1 (ε.1++ε.2.1).length (ε.2.2.2.2.1+1) (cJ ε.2.2.1 (.loc ε.2.2.2.2.2.2.2.2.2.1) ε.2.2.2.2.2.2.2.1 ε.2.2.2.2.2.2.2.2.1 ε.2.2.2.2.2.1)++[((Ve "cut"),V.int (ε.1.length:Nat))]) Mt (W.away HT.hi nofun) (W.away HT.hd nofun) (FQ hnt.1 hnt.2.1 hnt.2.2)
 have M6:=cY (vs':=dQ ε.2.2.2.2.2.2.2.2.2.2.1 ε.2.2.2.2.2.2.2.2.2.2.2.1 (ε.1++ε.2.1).length (ε.2.2.2.2.1+1) (cJ ε.2.2.1 (.loc ε.2.2.2.2.2.2.2.2.2.1) ε.2.2.2.2.2.2.2.1 ε.2.2.2.2.2.2.2.2.1 ε.2.2.2.2.2.1)++[((Ve "cut"),V.int (ε.1.length:Nat))]) hs0 Mt jq
 have RC:=wO (f:=ε.2.2.1) (s:=ε.2.2.2.2.2.2.2.2.2.2.2.2.2.2.2.2.2.2.2.1) (ns:=numsOf ε.2.1) (rows:=cU ε.2.2.1 ε.2.2.2.2.2.2.2.2.2.2.2.2.2.2.2.1 (numsOf ε.1))
 have RD:=Ac (f:=ε.2.2.1) (s:=ε.2.2.2.2.2.2.2.2.2.2.2.2.2.2.2.2.2.2.2.1) (ns:=numsOf ε.2.1) (rows:=cU ε.2.2.1 ε.2.2.2.2.2.2.2.2.2.2.2.2.2.2.2.1 (numsOf ε.1))
 rw [numsOf_len] at RC RD
 refine ES.cut (st':=⟨dQ ε.2.2.2.2.2.2.2.2.2.2.1 ε.2.2.2.2.2.2.2.2.2.2.2.1 (ε.1++ε.2.1).length (ε.2.2.2.2.1+1) (cJ ε.2.2.1 (.loc ε.2.2.2.2.2.2.2.2.2.1) ε.2.2.2.2.2.2.2.1 ε.2.2.2.2.2.2.2.2.1 ε.2.2.2.2.2.1)++[((Ve "cut"),V.int (ε.1.length:Nat))],h3⟩) (by rfl) ?_
 walk_at "st"
 refine CU.cj (ih (show On _ ε.2.2.2.2.2.2.2.2.2.2.2.2.2.2.2.2.1 (ε.2.2.2.2.2.2.2.2.2.2.2.2.1+ε.2.2.2.2.2.2.2.2.2.2.2.2.2.1+8) _ from O) hy hfr (Vd ha hpl) M6 hn hz Lo hr (Vd (Vq ha _) hrl) W3 (Vd (VK (by rw [Xc ε.2.2.2.1,Xc ε.2.2.2.1])) hm) (Vd (VN RC _) (by rw [Xc,WG (2*ε.2.1.length),<-Nat.mul_add,<-hab];exact hsl)) (by rw [Vk,RD,Xc,WG ε.2.1.length,<-hab];exact hel) hnt jq (hp.grow Mt) λ h4 g4 W4=>?_)
 repeat walk_at "py"
 refine q _ (Mt.trans g4) ?_
 rw [Ad,Ab,FZ,<-Vs,show ε.2.2.2.1+(ε.1.length+ε.2.2.2.2.2.2.1+ε.2.2.2.2.2.2.2.2.2.2.2.2.2.2.1)=ε.2.2.2.1+ε.1.length+ε.2.2.2.2.2.2.1+ε.2.2.2.2.2.2.2.2.2.2.2.2.2.2.1 from by rw [Xc ε.2.2.2.1 ε.1.length ε.2.2.2.2.2.2.1,Xc ε.2.2.2.1 (ε.1.length+ε.2.2.2.2.2.2.1) ε.2.2.2.2.2.2.2.2.2.2.2.2.2.2.1]]
 exact W4
end jT
theorem Ga {C T A d X kb f w sk dD bV lk cD bx ek kp pk B S k src rv cc eU cells n dk hk m fr x y rows aK seen a b post h Q}:jT.aq a b f m fr ek x sk lk pk src n d k y rows T w bx aK bV post h C A X kb dD cD kp B S rv cc eU cells dk hk seen Q:=nR (S:=jT.S0) jT.here (a,b,f,m,fr,ek,x,sk,lk,pk,src,n,d,k,y,rows,T,w,bx,aK,bV,post,h,C,A,X,kb,dD,cD,kp,B,S,rv,cc,eU,cells,dk,hk,seen,Q)
section
variable {C:Cx}{T:Th}{A:cN}{d:Nat}{N:List (Str×Vn)}{st:St}{X:XK}{kb:Nat}
theorem Ae (H:Fx T A){f:Nat->Int}(hf:ck f){cf:Nat->Nat->Nat}{w sk dD bV lk cD bx ek kp:Nat}{pl:V}{B S:Nat}(hS:S<=9)(hB:B<=9){k:Nat}(ih:qe A T f cf w sk dD bV lk cD bx ek kp pl B S k){C:Cx}{N:List (Str×Vn)}{d:Nat}{st:St}{X:XK}{Q:QV}{src:V}{n dk hk:Nat}{rows aK:List Row}{seen:List V}{m c free:Nat}{pre post:List (Nat×Nat)}(O:On C T (d+(k+1)+8) N)(hc:nq cf (k+1) free pre.length=some c)(hfr:free<=B)(hpl:pre.length<=S)(hs:aE st src=some (bz (bw w (pre++post))))(hn:∀ p∈pre++post,p.2<648)(hz:(bw w (pre++post)).length<=1000)(HT:aB A st n dk hk (tabS rows))(hr:∀ r∈rows,r.ok)(hrl:rows.length+pre.length<=100)(W:nj A st.heap sk dD bV lk cD bx ek kp aK m seen)(hm:m+c<=800)(hsl:aK.length+2*pre.length<=900)(hel:seen.length+pre.length<=900)(hnt:(hk≠bV/\hk≠bx/\hk≠ek))(jq:qs src [bV,bx,ek])(hp:oY [bV,bx,ek] st.heap pl cf B S)(h:∀ h',ai [bV,bx,ek] st.heap h'->nj A h' sk dD bV lk cD bx ek kp (bS f rows aK (numsOf pre)) (m+c) (seen++sS f rows aK (numsOf pre))->Q .none ⟨st.vars,h'⟩):CU C A.sU [.tup [src,.loc n],.int (pre.length:Nat),.int (free:Nat),cJ f pl sk lk ek] [] [] st Q X:=by
 refine O.func (kj:=[]) H.Bp [("state",.tup [src,.loc n]),("size",.int (pre.length:Nat)),("free",.int (free:Nat)),("kit",cJ f pl sk lk ek)] (λ _ _=>.nil) rfl rfl ?_ rfl rfl λ C' O' T'=>?_
 ·intro q pm cd doc ct
  exact NU λ a b c d=>rfl
 ·conv=>arg 3;arg 1;whnf
  walk_at "st"
  have hs0:aE ⟨[],st.heap⟩ src=some (bz (bw w (pre++post))):=jS (vs:=st.vars) hs
  have hce:(bif Xf pre.length 2||Vo free 0 then some (ri pre.length) else bif Wn (cf free pre.length) pre.length then
   (nq cf k (free-1) (pre.length-cf free pre.length)).bind λ a=>(nq cf k free (cf free pre.length)).map λ b=>cf free pre.length+a+b else none)=some c:=hc
  have base:∀ (D:Cx),On D T (d+k+8) (aO (aJ 24)).names->D.Top->∀ kb Q2 X2 stmts,F8 (bodyOf (aJ 24))=stmts->ri pre.length=c->(∀ s,ai [bV,bx,ek] st.heap s.heap->nj A s.heap sk dD bV lk cD bx ek kp (bS f rows aK (numsOf pre)) (m+c) (seen++sS f rows aK (numsOf pre))->Q2 .next s)->ES D kb (execs stmts D.env) ⟨dQ src n pre.length free (cJ f pl sk lk ek),st.heap⟩ Q2 X2:=
   λ D OD TD kb Q2 X2 stmts hw ec q=>C6 (d:=d+k) OD TD H hf hw (Vd hpl hS) hs0 hn hz HT.at hr hrl W (ec▸hm) hsl hel hnt jq (ec▸q)
  cases e1:Xf pre.length 2 with
  | true=>
   rw [decide_eq_true (show ((pre.length:Nat):Int)<2 from Wz.mpr (hU.mp e1))]
   rw [e1] at hce
   repeat walk_at "py"
   refine base _ O' T' _ _ _ _ rfl (Vf hce) λ s g W'=>?_
   repeat walk_at "py"
   exact h _ g W'
  | false=>
   have RE:¬ pre.length<2:=λ q=>by rw [hU.mpr q] at e1;cases e1
   rw [decide_eq_false (show ¬ ((pre.length:Nat):Int)<2 from λ q=>RE (Wz.mp q))]
   rw [e1] at hce
   repeat walk_at "py"
   induction free using aw with
   | zero=>
    rw [show (((0:Nat):Int)==0)=true from rfl]
    repeat walk_at "py"
    refine base _ O' T' _ _ _ _ rfl (Vf hce) λ s g W'=>?_
    repeat walk_at "py"
    exact h _ g W'
   | succ fr=>
    rw [show (((fr+1:Nat):Int)==0)=false from by rw [beq_eq_false_iff_ne];exact λ q=>absurd (YZ q) (Zz _)]
    repeat walk_at "py"
    refine bG (λ pk eU rv cells=>fZ λ cc e_ p1 p2=>qA λ p3 p4=>?_) (hp _ ai.refl (fr+1) pre.length (Zk _) hfr (cb RE) hpl);subst e_
    have hle:cf (fr+1) pre.length<=pre.length:=by
     cases e2:Wn (cf (fr+1) pre.length) pre.length with
     | true=>exact VQ e2
     | false=>rw [e2] at hce;exact aV hce
    obtain ⟨a,b,rfl,hct⟩:∃ a b,pre=a++b/\cf (fr+1) pre.length=a.length:=nC (pre.take _) (pre.drop _) ((Zo ..).symm) (by rw [ZA,YB hle])
    rw [hct] at hce p4
    have hab:(a++b).length=a.length+b.length:=Vk
    have ha:a.length<=(a++b).length:=Vd (Vw _ _) (VK hab.symm)
    have hb':b.length<=(a++b).length:=Vd (YH _ _) (VK hab.symm)
    rw [show Wn a.length (a++b).length=true from VS ha,show (a++b).length-a.length=b.length from by rw [hab,Nat.add_sub_cancel_left]] at hce
    refine qO (λ x hx hce=>?_) hce
    refine qM (λ y hy hce=>?_) hce
    subst hce
    rw [Vs] at hs0 hn hz
    refine Ga (d:=d) H hf hS hB ih O' rfl p1 p2 p3 p4 hab ha hb' hx hy hfr hpl hs0 hn hz HT.vars hr hrl W hm hsl hel hnt jq hp λ h' g4 W4=>?_
    repeat walk_at "py"
    exact h _ g4 W4
theorem C8 (H:Fx T A){f:Nat->Int}(hf:ck f){cf:Nat->Nat->Nat}{w sk dD bV lk cD bx ek kp:Nat}{pl:V}{B S:Nat}(hS:S<=9)(hB:B<=9){k:Nat}(ih:qe A T f cf w sk dD bV lk cD bx ek kp pl B S k):qe A T f cf w sk dD bV lk cD bx ek kp pl B S (k+1):=λ _ _ _ _ _ _ _ _ _ _ _ _ _ _ _ _ _ _ O hc hfr hpl hs hn hz HT hr hrl W hm hsl hel hnt jq hp h=>Ae H hf hS hB ih O hc hfr hpl hs hn hz HT hr hrl W hm hsl hel hnt jq hp h
theorem Bw (H:Fx T A){f:Nat->Int}(hf:ck f){cf:Nat->Nat->Nat}{w sk dD bV lk cD bx ek kp:Nat}{pl:V}{B S:Nat}(hS:S<=9)(hB:B<=9):∀ k,qe A T f cf w sk dD bV lk cD bx ek kp pl B S k
 | 0=>λ _ _ _ _ _ _ _ _ _ _ _ _ _ _ _ _ _ _ O hc=>aV hc
 | k+1=>C8 H hf hS hB (Bw H hf hS hB k)
end
end
section
def OR (l:List (Int×Int))(i:Nat):Int:=(l[i]?.getD (0,0)).1
def yG (prev l:List (Int×Int))(n k:Nat):Int×Int:=((k:Int)+OR prev (n-k)+OR l k,k)
noncomputable def N1 (prev l:List (Int×Int)):List (Int×Int):=l++[CE (yG prev l l.length 1) ((VV 2 (l.length-2)).map (yG prev l l.length))]
noncomputable def fM (prev:List (Int×Int)):Nat->List (Int×Int)
 | 0=>[(0,0),(1,0)]
 | j+1=>N1 prev (fM prev j)
theorem jr {prev:List (Int×Int)}:∀ {j:Nat},(fM prev j).length=j+2
 | 0=>rfl
 | j+1=>by
  show (_++[_]).length=_
  rw [Vk,jr];rfl
noncomputable def Ls (n:Nat):Int×Int:=(((n*(n+1)/2:Nat):Int),0)
noncomputable def dY (size:Nat):Nat->List (Int×Int)
 | 0=>(VV 0 (size+1)).map Ls
 | m+1=>fM (dY size m) (size-1)
theorem yH {size:Nat}(h:1<=size):∀ m,(dY size m).length=size+1
 | 0=>by show (XS _ _).length=_;rw [Vl,V4]
 | m+1=>by show (fM _ _).length=_;rw [jr];exact congrArg d6 (Nat.sub_add_cancel h)
noncomputable def jt (l:List (Int×Int)):List V:=l.map kc
theorem tG {l:List (Int×Int)}{i:Nat}(h:i<l.length):bq (jt l) i=some (.tup [.int (OR l i),.int (l[i]?.getD (0,0)).2]):=by
 rw [bI,jt,Wy]
 unfold OR
 rw [Y0 h];rfl
theorem P1 {n:Nat}(h:n<10):VO 1 (n:Nat) 1=true/\dg 1 (n:Nat) 1=(VV 1 (n-1)).map λ i=>V.int (i:Nat):=IY (a:=1) (by decide) (VJ h (by decide))
theorem P4 {n:Nat}(h:n<10):VO 2 (n:Nat) 1=true/\dg 2 (n:Nat) 1=(VV 2 (n-2)).map λ i=>V.int (i:Nat):=IY (a:=2) (by decide) (VJ h (by decide))
noncomputable def N2:V->V
 | .int i=>kc (Ls i.toNat)
 | v=>v
noncomputable def Kr (prev l:List (Int×Int))(n:Nat):V->V
 | .int i=>kc (yG prev l n i.toNat)
 | v=>v
section
variable {C:Cx}{T:Th}{A:cN}{d:Nat}{N:List (Str×Vn)}{st:St}{X:XK}{kb:Nat}
noncomputable def qu (pk:Nat)(h0 h:List (Nat×MO))(rv:V)(l:List (Int×Int)):Prop:=rv=.lst (jt l)\/∃ k,rv=.loc k/\J h k=some (.lst (jt l))/\J h0 k=none/\k≠pk
theorem qu.seq {pk:Nat}{h0 h:List (Nat×MO)}{rv:V}{l:List (Int×Int)}{vs:List (Str×V)}(r:qu pk h0 h rv l):aE ⟨vs,h⟩ rv=some (jt l):=by
 rcases r with rfl | ⟨k,rfl,e,_⟩
 ·rfl
 ·exact aT e
theorem qu.grow {pk:Nat}{h0 h h':List (Nat×MO)}{ks:List Nat}{rv:V}{l:List (Int×Int)}(r:qu pk h0 h rv l)(g:ai ks h h')(a:∀ k∈ks,k=pk\/J h0 k≠none):qu pk h0 h' rv l:=by
 rcases r with rfl | ⟨k,rfl,e,q,z⟩
 ·exact .inl rfl
 ·exact .inr (ir k rfl (g.at e (λ m=>(a k m).elim z (λ w=>w q))) q z)
noncomputable abbrev tH (size free pk:Nat):List (Str×V):=[((Ve "size"),V.int (size:Nat)),("free",V.int (free:Nat)),("plans",V.loc pk)]
noncomputable def N3 (size free pk:Nat)(h0:List (Nat×MO))(rv:List V)(s:St):Prop:=
 ∃ m yI,rv=(VV m (free-m)).map (λ i=>V.int (i:Nat))/\m<=free/\gf (tH size free pk) s.vars/\ai [] h0 s.heap/\J s.heap pk=some (.lst yI)/\yI.length=m+1/\∀ i,i<=m->∃ r,bq yI i=some r/\qu pk h0 s.heap r (dY size i)
noncomputable abbrev vh (size free pk m lk:Nat):List (Str×V):=tH size free pk++[((Ve "marks"),V.int (m:Nat)),("least",V.loc lk)]
noncomputable def Lu (size free pk m lk:Nat)(h:List (Nat×MO))(prev:List (Int×Int))(rv:List V)(s:St):Prop:=
 ∃ j,rv=(VV (j+2) (size-1-j)).map (λ i=>V.int (i:Nat))/\j<=size-1/\gf (vh size free pk m lk) s.vars/\ai [] h s.heap/\J s.heap lk=some (.lst (jt (fM prev j)))
end
namespace mE
noncomputable def aq (size:Nat)(st:St)(free:Nat)(C:Cx)(T:Th)(A:cN)(d:Nat)(N:List (Str×Vn))(X:XK)(Q:QV):Prop:=∀ (O:On C T (d+2) N) (H:Fx T A) (hs:2<=size) (Lv:size<=8) (hf:free<=3) (h:∀ h' pk yI,ai [] st.heap h'->J st.heap pk=none->J h' pk=some (.lst yI)->(∀ i,i<=free->∃ rv,bq yI i=some rv/\qu pk st.heap h' rv (dY size i))->Q (.loc pk) ⟨st.vars,h'⟩),CU C A.wJ [.int (size:Nat),.int (free:Nat)] [] [] st Q X
noncomputable def S0:=KP aq
noncomputable def ε:=eu (by walk_at "ne") S0
theorem here:S0 ε:=by
 intro O H hs Lv hf h
 refine O.func (kj:=[]) H.Bq [("size",.int (ε.1:Nat)),("free",.int (ε.2.2.1:Nat))] (λ _ _=>.nil) rfl rfl ?_ rfl rfl (nR (ne:=neC) ?_)
 ·intro q pm cd doc ct
  exact args2 λ a b=>rfl
 ·intro O' T'
  conv=>arg 3;arg 1;whnf
  (with_reducible refine' ES.cons ?_)
  walk_at "py"
  walk_at "own"
  rw [show ((ε.1:Nat):Int)+1=((ε.1+1:Nat):Int) from rfl]
  have rn:=CZ (n:=ε.1+1) (VB (WN Lv) (by decide))
  have hI:∀ s:St,itemsOf s (V.qQ 0 ((ε.1+1:Nat):Int) 1)=some (VO 0 ((ε.1+1:Nat):Int) 1=true,(VV 0 (ε.1+1)).map λ i=>V.int (i:Nat)):=λ s=>congrArg (λ l=>some (VO 0 ((ε.1+1:Nat):Int) 1=true,l)) rn.2
  refine CJ.range (ay _ _ rfl rn.1 (⟨by rw [rn.2,Vl,V4];exact Vd (WN Lv) (by decide),?_⟩))
  rw [rn.2]
  show LW _ _ _ _ _ _ _ [] _ _ _ _ _
  refine LW.pure O' (λ _=>true) N2 ⟨_,hI _⟩ (λ v hv=>?_) ?_
  ·apply iu (h:=hv);intro i hi
   have TP:i<10:=Vx (WA (Yg.mp hi).2 (Ws _)) (Vd (WN Lv) (by decide))
   have hb:(((i:Nat):Int)).natAbs<2^62\/(((i:Nat):Int)+1).natAbs<2^62:=.inl (VJ (show ((i:Nat):Int).natAbs<10 from TP) (by decide))
   intro C2 O2
   repeat walk_at "py"
   exact bY (λ _ _ e=>aV e) rfl (congrArg (λ z=>V.tup [V.int z,V.int 0]) (kZ (i*(i+1)) 2))
  have e0:[]++(((VV 0 (ε.1+1)).map λ i=>V.int (i:Nat)).filter λ _=>true).map N2=jt (dY ε.1 0):=by
   rw [Vz,VU.mpr λ _ _=>rfl,VF]
   show _=XS kc (XS Ls _)
   rw [VF];rfl
  rw [e0]
  have fp:J ε.2.1.heap (fresh ε.2.1.heap)=none:=aA _
  repeat walk_at "py"
  refine ES.cut (st':=⟨tH ε.1 ε.2.2.1 (fresh ε.2.1.heap),af ε.2.1.heap (fresh ε.2.1.heap) (.lst [.lst (jt (dY ε.1 0))])⟩) (by rfl) ?_
  generalize fresh ε.2.1.heap=pk at *
  have g1:ai [] ε.2.1.heap (af ε.2.1.heap pk (.lst [.lst (jt (dY ε.1 0))])):=ai.refl.new fp
  have k1:J (af ε.2.1.heap pk (.lst [.lst (jt (dY ε.1 0))])) pk=some (.lst [.lst (jt (dY ε.1 0))]):=aj
  generalize af ε.2.1.heap pk (.lst [.lst (jt (dY ε.1 0))])=h1 at *
  (with_reducible refine' ES.cons ?_)
  refine O'.wA T' rfl trivial (iB.ev ?_)
  repeat walk_at "py"
  have rf:=CZ (n:=ε.2.2.1) (VB hf (by decide))
  refine CJ.range (ay _ _ rfl rf.1 (fu pk (VD _) ⟨trivial,trivial⟩ ?_))
  refine jl.ind (I:=N3 ε.1 ε.2.2.1 pk ε.2.1.heap) ?_ ?_ _ _ ⟨0,_,rf.2,WC _,λ _ _ e=>e,g1,k1,rfl,λ i hi=>by obtain rfl:=Nat.le_zero.mp hi;exact aC _ rfl (.inl rfl)⟩
  ·intro s;refine ak λ m yI nX hm=>bB λ hsv g k2 hl vj=>?_
   refine ⟨⟨_,rfl⟩,ES.drop hsv ?_⟩
   obtain rfl:m=ε.2.2.1:=by
    have:=congrArg eD nX
    rw [Vl,V4] at this
    exact YA hm (Yw.mp this.symm)
   walk_at "st"
   exact h _ pk yI g fp k2 vj
  ·intro v rv s;refine ak λ m yI nX hm=>bB λ hsv g k2 hl vj=>?_
   refine ⟨⟨_,rfl⟩,λ C2 O2 T2=>AS.drop hsv ?_⟩
   obtain ⟨q,hq⟩:∃ q,ε.2.2.1-m=q+1:=by
    cases e:ε.2.2.1-m with
    | zero=>rw [e] at nX;exact nomatch nX
    | succ q=>exact ⟨q,rfl⟩
   rw [hq,WO] at nX
   refine qA (λ e_ cg=>?_) (Wu nX);subst e_ cg
   walk_at "py"
   repeat walk_at "py"
   (with_reducible refine' ES.cons ?_)
   walk_at "py"
   walk_at "own"
   have fl:J s.heap (fresh s.heap)=none:=aA _
   refine ES.cut (st':=⟨vh ε.1 ε.2.2.1 pk m (fresh s.heap),af s.heap (fresh s.heap) (.lst (jt (fM (dY ε.1 m) 0)))⟩) (by rfl) ?_
   generalize fresh s.heap=lk at *
   have g2:ai [] s.heap (af s.heap lk (.lst (jt (fM (dY ε.1 m) 0)))):=ai.refl.new fl
   have k3:J (af s.heap lk (.lst (jt (fM (dY ε.1 m) 0)))) lk=some (.lst (jt (fM (dY ε.1 m) 0))):=aj
   generalize af s.heap lk (.lst (jt (fM (dY ε.1 m) 0)))=h2 at *
   (with_reducible refine' ES.cons ?_)
   refine O2.wA T2 rfl trivial (iB.ev ?_)
   repeat walk_at "py"
   rw [show ((ε.1:Nat):Int)+1=((ε.1+1:Nat):Int) from rfl]
   have r2:=P4 (n:=ε.1+1) (VB (WN Lv) (by decide))
   refine CJ.EA (ay _ _ rfl r2.1 (fu pk (VD _) ⟨trivial,trivial⟩ ?_))
   refine aI (λ rm TQ TR=>?_) (vj m (VD _))
   refine jl.ind (I:=Lu ε.1 ε.2.2.1 pk m lk s.heap (dY ε.1 m)) ?_ ?_ _ _ ⟨0,r2.2,WC _,λ _ _ e=>e,g2,k3⟩
   ·intro s3;refine fZ λ j C9 hj Lw=>qA λ g3 k4=>?_
    refine ⟨⟨_,rfl⟩,ES.drop Lw ?_⟩
    obtain rfl:j=ε.1-1:=by
     have:=congrArg eD C9
     rw [Vl,V4] at this
     exact YA hj (Yw.mp this.symm)
    have k5:=g3.at k2 Vr
    have TS:yI.length<=sizeLine:=by rw [hl];exact Vd (WN (Vd hm hf)) (by decide)
    walk_at "st"
    have gp:ai [pk] s3.heap (af s3.heap pk (.lst (yI++[.loc lk]))):=ai.refl.put (Vi.mpr rfl)
    have RG:lk≠pk:=gX fl k2
    refine ⟨m+1,yI++[.loc lk],by rw [show ε.2.2.1-(m+1)=q from congrArg Nat.pred hq],Nat.lt_of_sub_pos (hq▸Zk _),aW _ _,(g.trans g3).new fp,aj,by rw [Vk,hl];rfl,λ i hi=>?_⟩
    rcases df i (m+1) with q1 | q1
    ·refine aI (λ r e1 e2=>?_) (vj i (V5 q1))
     exact aC r (by rw [bI,List.getElem?_append_left (by rw [hl];exact q1)];exact e1) ((e2.grow g3 nofun).grow gp λ k e=>.inl (Vi.mp e))
    ·obtain rfl:i=m+1:=YA hi q1
     exact aC (.loc lk) (by rw [bI,WV (VK hl),hl,Yz];rfl) (.inr (ir lk rfl (gp.at k4 (bf RG)) (g.gW fl) RG))
   ·intro v UY s3;refine fZ λ j C9 hj Lw=>qA λ g3 k4=>?_
    refine ⟨⟨_,rfl⟩,λ C3 O3 T3=>AS.drop Lw ?_⟩
    obtain ⟨q3,Nk⟩:∃ q,ε.1-1-j=q+1:=by
     cases e:ε.1-1-j with
     | zero=>rw [e] at C9;exact nomatch C9
     | succ q=>exact ⟨q,rfl⟩
    rw [Nk,WO] at C9
    refine qA (λ e_ cg=>?_) (Wu C9);subst e_ cg
    walk_at "py"
    repeat walk_at "py"
    have k5:=g3.at k2 Vr
    have hj2:j+2<=ε.1:=Nat.add_lt_of_lt_sub (Nat.lt_of_sub_pos (Nk▸Zk _))
    have TS:(jt (fM (dY ε.1 m) j)).length<=sizeLine:=by rw [jt,Vl,jr];exact Vd (Vd hj2 Lv) (by decide)
    walk_at "st"
    have OS:j+2<10:=VB (Vd hj2 Lv) (by decide)
    have r1:=P1 (n:=j+2) OS
    have Le:∀ s:St,itemsOf s (V.qQ 1 ((j+2:Nat):Int) 1)=some (VO 1 ((j+2:Nat):Int) 1=true,(VV 1 (j+1)).map λ i=>V.int (i:Nat)):=λ s=>congrArg (λ l=>some (VO 1 ((j+2:Nat):Int) 1=true,l)) r1.2
    refine CJ.EA (ay _ _ (Le _) r1.1 (⟨by rw [Vl,V4];exact Vd (Vv (Nat.lt_of_succ_lt OS)) (by decide),?_⟩))
    have TU:∀ vs,aE ⟨vs,s3.heap⟩ rm=some (jt (dY ε.1 m)):=λ vs=>(TR.grow g3 nofun).seq
    show LW _ _ _ _ _ _ _ [("least",.loc lk),("marks",.int (m:Nat)),("n",.int ((j+2:Nat):Int)),("plans",.loc pk)] _ _ _ _ _
    refine LW.pure O3 (λ _=>true) (Kr (dY ε.1 m) (fM (dY ε.1 m) j) (j+2)) ⟨_,Le _⟩ (λ v hv=>?_) ?_
    ·apply iu (h:=hv);intro k hk
     refine qA (λ hk1 hk2=>?_) (Yg.mp hk)
     intro C4 O4
     repeat walk_at "py"
     refine aC _ (bN k5 TQ (VS (Vd (Vd hm hf) (by decide)))) ?_
     repeat walk_at "py"
     rw [show ((j+2:Nat):Int)-((k:Nat):Int)=((j+2-k:Nat):Int) from (Int.ofNat_sub (Vv (WA hk2 (WG 1 (j+1))))).symm]
     refine aC _ (Bv (TU _) (tG (by rw [yH (Ye hs)];exact Wo (Vd (hV _ _) hj2))) (Vd (hV _ _) (Vv (VJ OS (by decide))))) ?_
     repeat walk_at "py"
     refine aC _ (bN k4 (tG (by rw [jr];exact WA hk2 (WG 1 (j+1)))) (VS (Vd (Vv (WA hk2 (WG 1 (j+1)))) (Vv (VJ OS (by decide)))))) ?_
     repeat walk_at "py"
     exact bY (eN rfl) rfl rfl
    have e3:[]++(((VV 1 (j+1)).map λ i=>V.int (i:Nat)).filter λ _=>true).map (Kr (dY ε.1 m) (fM (dY ε.1 m) j) (j+2)) =
      (yG (dY ε.1 m) (fM (dY ε.1 m) j) (fM (dY ε.1 m) j).length 1::(VV 2 ((fM (dY ε.1 m) j).length-2)).map (yG (dY ε.1 m) (fM (dY ε.1 m) j) (fM (dY ε.1 m) j).length)).map kc:=by
     rw [Vz,VU.mpr λ _ _=>rfl,VF,jr,WO,Nat.add_sub_cancel]
     show _::_=_::_
     rw [VF];rfl
    rw [e3]
    repeat walk_at "py"
    refine CJ.CF O3.toGood rfl ?_
    repeat walk_at "py"
    refine ⟨j+1,by rw [show ε.1-1-(j+1)=q3 from congrArg Nat.pred Nk],Nat.le_sub_of_add_le hj2,aW _ [((Ve "n"),V.int ((j+2:Nat):Int))],g3.new fl,?_⟩
    show _=some (MO.lst (XS kc (_++[_])))
    rw [VI]
    exact aj
end mE
theorem I6 {C T A d N st X size free Q}:mE.aq size st free C T A d N X Q:=nR (S:=mE.S0) mE.here (size,st,free,C,T,A,d,N,X,Q)
section
variable {C:Cx}{T:Th}{A:cN}{d:Nat}{N:List (Str×Vn)}{st:St}{X:XK}{kb:Nat}
noncomputable def Af (size free n:Nat):Nat:=((dY size free)[n]?.getD (0,0)).2.toNat
noncomputable def Ag (size free:Nat):Bool:=(Yk (size+1)).all λ n=>decide (0<=((dY size free)[n]?.getD (0,0)).2)
theorem Gb {size B pk:Nat}{h0 h':List (Nat×MO)}{yI:List V}{ks:List Nat}(hs:1<=size)(e0:J h0 pk=none)(e:J h' pk=some (.lst yI))(hr:∀ i,i<=B->∃ rv,bq yI i=some rv/\qu pk h0 h' rv (dY size i))(hk:∀ k∈ks,J h0 k≠none)(ok:∀ i,i<=B->Ag size i=true):
  oY ks h' (.loc pk) (Af size) B size:=λ h2 g free n h1 hf h2 hn=>by
 refine aI (λ rv r1 r2=>?_) (hr free hf)
 have hl:=yH hs free
 have hg:=tG (l:=dY size free) (i:=n) (by rw [hl];exact Wo hn)
 have:=of_decide_eq_true (Wg.mp (ok free hf) n (eI.mpr (Wo hn)))
 rw [show ((dY size free)[n]?.getD (0,0)).2=((Af size free n:Nat):Int) from (ZU this).symm] at hg
 exact ⟨pk,yI,rv,_,_,rfl,g.at e (λ q=>hk pk q e0),r1,(r2.grow g λ k q=>.inr (hk k q)).seq,hg⟩
def ly (size free:Nat):Nat:=((match free with
 | 0=>[0,1,2,3,4,5]
 | 1=>[0,1,3,6,10,15]
 | 2=>[0,1,4,10,20,35]
 | _=>[0,1,5,15,35,70]).map λ many=>size-many).sum
theorem Gd:∀ (size:Fin 7) (free:Fin 4),(Xf size.val 3||(Ag size.val free.val&&nq (Af size.val) 12 free.val size.val==some (ly size.val free.val)))=true:=by decide +kernel
theorem yJ (size free:Nat)(h1:3<=size)(h2:size<=6)(hf:free<=3):Ag size free=true/\nq (Af size) 12 free size=some (ly size free):=by
 have h:=Gd ⟨size,Wo h2⟩ ⟨free,Wo hf⟩
 rw [show Xf size 3=false from Wm.mpr λ q=>ZZ.mpr h1 (hU.mp q)] at h
 refine qB (λ a b=>?_) h
 exact ⟨a,Wc b⟩
end
end
section
section
variable {C:Cx}{d:Nat}{T:Th}{N:List (Str×Vn)}
theorem EV.Ah (G:C.Good d){elt target iter:Expr}{ifs:List Expr}{rest:List Xv}{scope:WM}{pos:Pos}{st:St}{Q:QV}{X:XK}{tg:Expr->Prop}(hok:bX C.env.scope.names scope=true)(hset:aG iter=true)(kq:tg target)
  (h:iB C (eval iter C.env) st tg (λ bF bT l st1=>CW C scope d (.ListComp elt (⟨target,iter,ifs,0⟩::rest) scope pos) target iter ifs bF (λ acc h=>Q (.loc (fresh h)) (pP ⟨st1.vars,h⟩ acc)) l st1) X) :
  EV C (eval (.ListComp elt (⟨target,iter,ifs,0⟩::rest) scope pos) C.env) st Q X:=λ F ρ s R Q' E hQ hE=>by
 rw [eval_ListComp]
 refine bQ (λ pk pn pc pf=>?_) (bM hok)
 refine YY (use:=We) (e:=.ListComp elt (⟨target,iter,ifs,0⟩::rest) scope pos) (g:=⟨target,iter,ifs,0⟩) (gs:=rest) rfl (rV (e:=iter) hset) (jG (gR G.toGood0 hok)) pk (λ x hx hl=>aS pn (by obtain ⟨a,b⟩:=x;cases hl;exact hx)) (h F ρ s R _ E ?_ hE)
 intro F1 bE bF bT pX l st1 I fp fX s1 h' tk l1 k1 hW d1 R1 hfr hsz hk Go hst _
 refine p6 (RR:=λ acc L=>compPost (model C.prog C.w) C.A E We Q' acc L) G hok R1 hfr hsz hk d1 Go kq hst hW ?_
 intro D L F2 bZ acc h2 s2 ys n lF kF hq R2 UD UL hDL ID EJ nP
 refine qE (λ m hm=>?_) ID
 refine ⟨m,hm,λ h' hs'=>?_⟩
 have R3:=R2.jf UL hs' s2.toks
 have K5:h'.get? D=some (ao ys n):=(hs'.2 D hDL).trans EJ
 have kk:=fW (a:=D) (kH R3)
 refine qA (λ _ R4=>?_) (R3.EI (mo:=.lst acc) (n:=Internal.fresh h2) UD K5 (aA _) (.lst (nP.mono (aZ.refl _) kk)))
 exact hQ _ _ _ _ (l1.trans lF) (k1.trans (kF.trans kk)) (Post.in hq R4 (.loc (if_pos rfl)))
theorem On.Dc (O:On C T d N){elt target iter:Expr}{ifs:List Expr}{scope:WM}{pos:Pos}{st:St}{X:XK}{Q:QV}(hok:bX N scope=true)(hset:aG iter=true)
  (h:EV C (eval iter C.env) st (λ src st1=>∃ p l,itemsOf st1 src=some (p,l)/\p/\l.length<=sizeLine/\LW C scope d target elt ifs src (iY st1.vars scope.names) l (λ acc h=>Q (.loc (fresh h)) (pP ⟨st1.vars,h⟩ acc)) l [] st1.heap) X) :
  EV C (eval (.ListComp elt [⟨target,iter,ifs,0⟩] scope pos) C.env) st Q X:=
 EV.Ah O.toGood (by rw [O.names];exact hok) hset trivial (iB.imp (Q:=λ bF bT l st1=>l.length<=sizeLine/\sr C scope d target elt ifs bF (iY st1.vars scope.names) (λ acc h=>Q (.loc (fresh h)) (pP ⟨st1.vars,h⟩ acc)) l [] st1.heap) (iB.ev h) λ bF bT l st1 q=>sr.cw q.1 q.2)
end
namespace fG
noncomputable def aq (s:Vh)(xs:List Vg)(l:Addr)(t:Tok)(v:Vg)(prog:Wi)(w:WK)(A:Wk)(ep:Nat)(Q:Unit->Vh->Prop)(E:Vg->Vh->Prop):Prop:=∀ {k:Int} (hl:s.heap.get? l=some (ao xs ep)) (h0:0<=k) (hfit:k<2^63) (hn:k<xs.length) (hQ:Q () {s with heap:=s.heap.update l (Wr (·.setIfInBounds k.toNat v))}),wpAny (model prog w) A (setItem (.ref l) (.int k t) v) Q E s
noncomputable def S0:=Mf aq
noncomputable def ε:=eu (by walk_at "ne") S0
theorem here:S0 ε:=by
 intro k hl h0 hfit hn hQ
 have hL:ε.1.heap.IsList ε.2.2.1 ε.2.1.toArray:=⟨_,hl,rfl,_,rfl⟩
 refine fq (λ o ho hc=>qE λ ne hd=>?_) (id hL)
 unfold setItem
 refine Vu ?_
 refine Vc (wpAny_sequenceKey hL.typeIs (by decide) ?_)
 refine Vc (XA (name:=Ve "__setitem__") hL.typeIs slot_list_setitem
  (XJ slot_list_setitem hL.typeIs entry_list_setitem ?_ (args_list_setitem _ _ _)))
 show wpAny _ _ (YL (.int k ε.2.2.2.1) >>= _) _ _ ε.1
 refine Vc (wpAny_listSubscript_int (fitsIndex_of h0 hfit) ?_)
 clear hfit
 refine qE (λ j e_=>?_) (Zb h0);subst e_
 have hj:j<ε.2.1.toArray.size:=by rw [VM];exact Wz.mp hn
 have hx':ε.2.1.toArray[j]?=some ε.2.1.toArray[j]:=XX hj
 show wpAny _ _ ((seqItemAt ε.2.2.1 j >>= λ r=>pure (r.map (j,·))) >>= _) _ _ ε.1
 refine Vc (Vc (wpAny_seqItemAt ho hd (Vj ?_)))
 rw [hx']
 show wpAny _ _ (setSeqItemAt ε.2.2.1 j ε.2.2.2.2.1 >>= _) _ _ ε.1
 refine Vc (wpAny_setSeqItemAt ho hd ?_)
 first
  | exact Vc (Vj (Vj (aC .none rfl (Vj hQ))))
  | exact Vj ⟨.none,rfl,Vj hQ⟩
end fG
theorem wQ {prog w A s l xs ep t v Q E}:fG.aq s xs l t v prog w A ep Q E:=nR (S:=fG.S0) fG.here (s,xs,l,t,v,prog,w,A,ep,Q,E)
section
variable {C:Cx}{d:Nat}{T:Th}{N:List (Str×Vn)}
theorem yK {C:Cx}{s:Vh}{l:Addr}{xs:List Vg}{ep j:Nat}{t:Tok}{v:Vg}{Q:Unit->Vh->Prop}{E:Vg->Vh->Prop}(hl:s.heap.get? l=some (ao xs ep))(hj:j<xs.length)(hfit:j<2^62)
  (hQ:Q () {s with heap:=s.heap.update l (Wr (·.setIfInBounds j v))}):wpAny (model C.prog C.w) C.A (setItem (.ref l) (.int (j:Nat) t) v) Q E s:=
 wQ hl (V0 j) (Yc (Wz.mpr hfit) (by decide)) (Wz.mpr hj) hQ
theorem aF.setAt {F:Fz}{ρ:Ky}{l:List V}{xs:List Vg}{v:V}{x:Vg}(h:aF F ρ l xs)(hd:Den F ρ v x):∀ j,aF F ρ (l.set j v) (xs.set j x):=
 h.ind (P:=λ l xs=>∀ j,aF F ρ (l.set j v) (xs.set j x)) (λ _=>.nil) λ hv hl ih j=>by
  induction j using aw with
  | zero=>exact .cons hd hl
  | succ j=>exact .cons hv (ih j)
theorem AS.cZ {o i:Expr}{pos:Pos}{v:V}{st:St}{X:XK}{Q:St->Prop}
  (h:EV C (eval o C.env) st (λ ov st1=>EV C (eval i C.env) st1 (λ iv st2=>∃ n l,∃ j:Nat,ov=.loc n/\iv=.int (j:Nat)/\J st2.heap n=some (.lst l)/\j<l.length/\j<2^62/\Q {st2 with heap:=af st2.heap n (.lst (l.set j v))}) X) X):AS C (VR (.Subscript o i pos) C.env) v st Q X:=λ F ρ s x R hd Q' E hQ hE=>by
 rw [cm]
 refine Vc (Vu (h F ρ s R _ E ?_ hE))
 rintro F1 bE ox s1 l1 k1 hp0;apply hp0.elim;rintro ov st1 h1 R1 d1
 refine Vc (Vu (h1 F1 bE s1 R1 _ E ?_ λ F' ρ' e s' l k=>hE F' ρ' e s' (l1.trans l) (k1.trans k)))
 rintro F2 bZ iy s2 l2 k2 hp0;apply hp0.elim;intro iv st2;refine aU λ n l j e_=>bB λ cg hk hj hj2 hq=>?_;subst e_ cg;intro R2 d2
 have dl:=d1.mono l2 k2
 revert dl;intro dl
 apply dl.eg;intro a hn
 apply d2.aM;intro t
 refine Vc (Wb (Vc (Vu ?_)))
 refine ak (λ a' ob h1 h2=>qA λ h3 _=>?_) (R2.mt _ _ hk)
 rw [hn] at h1;obtain rfl:=Vf h1
 refine dM (λ _ _ e_ dO=>?_) h3.lst_inv;subst e_
 have hv:=hd.mono (l1.trans l2) (k1.trans k2)
 refine yK h2 (dO.length▸hj) hj2 ?_
 refine ZG (hQ _ bZ _ _ (l1.trans l2) (k1.trans k2) ⟨_,hq,?_⟩)
 exact ry R2 hk hn h2 (List.setIfInBounds_toArray ..) (dO.setAt hv j) s2.toks
end
noncomputable def H0 (f:Nat->Int)(v c:Nat):Int:=if c=0 then f v else if v+1=c then 1 else 0
noncomputable def aR (K:Nat)(g:Nat->Int):List V:=(VV 0 K).map λ c=>V.int (g c)
noncomputable def dh (K:Nat)(H:Nat->Nat->Int):List V:=(VV 0 3).map λ v=>V.lst (aR K (H v))
noncomputable def i8 (rows:List Row):List V:=rows.map λ r=>V.tup [.int (r.v:Nat),.tup [.str (bW r.v r.u),.str (aQ r.n)]]
noncomputable def aL (f:Nat->Int):List Row:=[⟨0,true,f 0⟩,⟨1,false,f 1⟩]
noncomputable def cQ (nums:List Nat):List V:=nums.map λ n=>V.int (n:Nat)
noncomputable def bk (nums:List Nat):List V:=nums.map λ n=>V.int (ah n:Nat)
theorem N4 {n:Nat}(h:n<20):VO 0 (n:Nat) 1=true/\dg 0 (n:Nat) 1=(VV 0 n).map λ i=>V.int (i:Nat):=IY (a:=0) (by decide) h
noncomputable def RH (v:Nat):V->V
 | .int k=>.int (if v=k.toNat then 1 else 0)
 | x=>x
noncomputable def rowOf (K:Nat)(H:Nat->Nat->Int):V->V
 | .int v=>.lst (aR K (H v.toNat))
 | x=>x
noncomputable def Ks:V->V
 | .int k=>.int ((ah k.toNat:Nat):Int)
 | x=>x
theorem Lx {i k:Nat}:(if ((i:Int)==(k:Int))=true then (1:Int) else 0)=if i=k then 1 else 0:=by
 by_cases h:i=k
 ·subst h;rw [if_pos rfl,if_pos (beq_self_eq_true _)]
 ·have h2:¬ ((i:Int)==(k:Int))=true:=λ q=>h (YZ (Wc q))
  rw [if_neg h,if_neg h2]
theorem I7 {f:Nat->Int}{i L:Nat}:[V.int (f i)]++([]++(((VV 0 (3+2*L)).map λ i=>V.int (i:Nat)).filter λ _=>true).map (RH i))=aR (4+2*L) (H0 f i):=by
 unfold aR
 rw [Vz,VU.mpr λ _ _=>rfl,VF,show 4+2*L=(3+2*L)+1 from Wh 3 1 (2*L),WO,show VV (0+1) (3+2*L)=(VV 0 (3+2*L)).map (1 + ·) from (List.map_add_range' (a:=1) 0 (3+2*L) 1).symm,XI,VF]
 show _::_=V.int (H0 f i 0)::_
 refine congr (congrArg _ (by unfold H0;rw [if_pos rfl])) (WQ λ k _=>?_)
 show V.int (if i=((k:Nat):Int).toNat then 1 else 0)=V.int (H0 f i (1+k))
 unfold H0
 rw [if_neg (λ h=>Zz k ((WG 1 k).symm.trans h):¬ 1+k=0),XC]
 by_cases h:i=k
 ·rw [if_pos h,if_pos ((congrArg (· + 1) h).trans (WG k 1))]
 ·rw [if_neg h,if_neg λ q=>h (il (q.trans (WG 1 k)))]
theorem gG {nums:List Nat}:(cQ nums).length=nums.length:=Vl ..
theorem Dd {st:St}{f:Nat->Int}{v:Nat}(hv:v<3):gq st (.lst (gv f)) (.int (v:Nat))=some (.str (aQ (f v))):=fF (P:=λ v=>gq st (.lst (gv f)) (.int (v:Nat))=some (.str (aQ (f v)))) (n:=3) ⟨⟨⟨trivial,rfl⟩,rfl⟩,rfl⟩ v hv
section
variable {C:Cx}{T:Th}{A:cN}{d:Nat}{N:List (Str×Vn)}{st:St}{X:XK}{kb:Nat}
noncomputable abbrev dZ (nums:List Nat)(f:Nat->Int)(goal hk rk:Nat)(rows:List Row):List (Str×V):=
 [((Ve "numbers"),V.lst (cQ nums)),("first",V.lst (gv f)),("goal",V.int (goal:Nat)),("held",V.loc hk),("reads",V.loc rk),("goals",V.lst (bk nums)),("stand",V.lst (i8 rows))]
noncomputable def upd (g:Nat->Int)(c:Nat)(x:Int):Nat->Int:=λ k=>if k=c then x else g k
theorem cR {K:Nat}{g:Nat->Int}:(aR K g).length=K:=by unfold aR;rw [Vl,V4]
theorem cS {K:Nat}{g:Nat->Int}{c:Nat}(h:c<K):bq (aR K g) c=some (.int (g c)):=by
 rw [bI];unfold aR
 rw [Wy,List.getElem?_range' h]
 simp
theorem tK {K:Nat}{g:Nat->Int}{c:Nat}{x:Int}(h:c<K):(aR K g).set c (.int x)=aR K (upd g c x):=by
 refine List.ext_getElem? λ k=>?_
 rw [List.getElem?_set,cR]
 by_cases e:c=k
 ·subst e
  rw [if_pos rfl,if_pos h]
  have:=cS (g:=upd g c x) h
  rw [bI] at this
  rw [this];unfold upd;rw [if_pos rfl]
 ·rw [if_neg e]
  rcases df k K with q | q
  ·have h1:=cS (g:=g) q
   have h2:=cS (g:=upd g c x) q
   rw [bI] at h1 h2
   rw [h1,h2];unfold upd;rw [if_neg (λ z=>e z.symm)]
  ·rw [VW.mpr (by rw [cR];exact q),VW.mpr (by rw [cR];exact q)]
theorem lz {K:Nat}{H:Nat->Nat->Int}{v:Nat}(h:v<3):bq (dh K H) v=some (.lst (aR K (H v))):=fF (P:=λ v=>bq (dh K H) v=some (.lst (aR K (H v)))) (n:=3) ⟨⟨⟨trivial,rfl⟩,rfl⟩,rfl⟩ v h
theorem De (n k:Nat):((n:Int).fdiv (k:Int)).fmod 3=((n/k%3:Nat):Int):=(congrArg (ag · 3) (kZ n k)).trans (fh _ 3)
noncomputable abbrev tL (i n ok tk:Nat):List (Str×V):=[((Ve "i"),V.int (i:Nat)),("number",V.int (n:Nat)),("one",V.loc ok),("other",V.loc tk)]
noncomputable def N5:V->V
 | .tup [_,b]=>b
 | x=>x
noncomputable def qv (rows:List Row)(f:Nat->Int)(n:Nat):V:=.tup [.int (n:Nat),.str (aQ (worth rows f (n/18%3))),.str (aQ (worth rows f (n/108%3))),.lst (tab (tabS rows))]
theorem Ge {g:Nat->Int}{c k:Nat}(h:0<=g c/\g c<9973):0<=upd g k 1 c/\upd g k 1 c<9973:=by
 unfold upd
 split
 ·exact ⟨by decide,by decide⟩
 ·exact h
theorem Gf {K:Nat}{g g':Nat->Int}:r9 (aR K g) (aR K g')=(VV 0 K).map λ c=>V.tup [.int (g c),.int (g' c)]:=by
 unfold r9 aR
 rw [List.zip_map',VF];rfl
noncomputable def newF (n:Nat)(a b:Int):V->V
 | .tup [.int x,.int y]=>.int (oU n (x+y) (x-y) (x*b+a*y))
 | v=>v
theorem Gg {K n:Nat}{a b:Int}{g g':Nat->Int}:[]++(((VV 0 K).map λ c=>V.tup [.int (g c),.int (g' c)]).filter λ _=>true).map (newF n a b)=aR K λ c=>oU n (g c+g' c) (g c-g' c) (g c*b+a*g' c):=by
 rw [Vz,VU.mpr λ _ _=>rfl,VF];rfl
noncomputable def N6:V->V
 | .int x=>.int (x.fmod 9973)
 | v=>v
theorem Gh {K:Nat}{g:Nat->Int}:[]++((aR K g).filter λ _=>true).map N6=aR K λ c=>(g c).fmod 9973:=by
 rw [Vz,VU.mpr λ _ _=>rfl];unfold aR;rw [VF];rfl
theorem Gi {K:Nat}{H:Nat->Nat->Int}{g:Nat->Int}{v:Nat}(h:v<3):(dh K H).set v (.lst (aR K g))=dh K λ u c=>if u=v then g c else H u c:=fF (P:=λ v=>(dh K H).set v (.lst (aR K g))=dh K λ u c=>if u=v then g c else H u c) (n:=3) ⟨⟨⟨trivial,rfl⟩,rfl⟩,rfl⟩ v h
noncomputable def Bx (n:Nat):V->Bool
 | .tup (.int v::_)=>!(v==((ah n:Nat):Int))
 | _=>true
noncomputable def cL (f:Nat->Int)(rows:List Row)(n i:Nat)(Hm:Nat->Nat->Int)(u c:Nat):Int:=
 if u=ah n then upd (λ c=>(oU n (upd (Hm (n/18%3)) (4+2*i) 1 c+upd (Hm (n/108%3)) (5+2*i) 1 c) (upd (Hm (n/18%3)) (4+2*i) 1 c-upd (Hm (n/108%3)) (5+2*i) 1 c) (upd (Hm (n/18%3)) (4+2*i) 1 c*worth rows f (n/108%3)+worth rows f (n/18%3)*upd (Hm (n/108%3)) (5+2*i) 1 c)).fmod 9973) 0 (yC rows f n) c else Hm u c
theorem mF {j k L:Nat}(p1:j<L)(p2:k<2):4+2*j+k<4+2*L:=Vx (Xl p2 _) (Vq (VP 2 p1) 4)
theorem N7 {L:Nat}(h:L<=6):4+2*L<=16:=Vq (VP 2 h) 4
theorem vm {v:Nat} (h:v<3):bq [V.str "fi",V.str "st",V.str "ss"] v=some (.str (bW v false)):=fF (P:=λ v=>bq [V.str "fi",V.str "st",V.str "ss"] v=some (.str (bW v false))) (n:=3) ⟨⟨⟨trivial,rfl⟩,rfl⟩,rfl⟩ v h
theorem Ai {f:Nat->Int}{rows:List Row}{n:Nat}:[]++((i8 rows).filter (Bx n)).map id++[V.tup [.int (ah n:Nat),.tup [.str (bW (ah n) false),.str (aQ (yC rows f n))]]]=i8 (bh f rows n):=by
 unfold i8 bh cK
 rw [Vz,eJ,XZ,VI]
 refine congr (congrArg _ (congrArg _ (XD λ r _=>?_))) rfl
 show (!((r.v:Int)==((ah n:Nat):Int))) = !(Vo r.v (ah n))
 by_cases e:r.v=ah n
 ·rw [e,beq_self_eq_true,WL]
 ·have e2:((r.v:Int)==((ah n:Nat):Int))=false:=beq_eq_false_iff_ne.mpr λ z=>e (YZ z)
  have e3:Vo r.v (ah n)=false:=by
   cases z:Vo r.v (ah n) with
   | false=>rfl
   | true=>exact absurd (VE z) e
  rw [e2,e3]
end
namespace jU
noncomputable def aq (n:Nat)(rows:List Row)(i:Nat)(f:Nat->Int)(Hm:Nat->Nat->Int)(nums:List Nat)(rk:Nat)(h:List (Nat×MO))(hk goal:Nat)(rd:List V)(C:Cx)(T:Th)(A:cN)(d:Nat)(X:XK)(kb:Nat)(Q:Fl->St->Prop):Prop:=∀ (O:On C T (d+1) (aO (aJ 26)).names) (H:Fx T A) (hf:ck f) {target:Expr}{body:List Stmt} (hw:yy (bodyOf (aJ 26)) 3=(target,body)) (hl:nums.length<=6) (hi:i<nums.length) (hn:n<648) (hni:nums[i]?=some n) (hr:∀ r∈rows,r.ok) (hrl:rows.length<=100) (k1:J h hk=some (.lst (dh (4+2*nums.length) Hm))) (k2:J h rk=some (.lst rd)) (hrd:rd.length<=100) (hne:hk≠rk) (hb:∀ v c,v<3->c<4+2*nums.length->0<=Hm v c/\Hm v c<9973) (hw0:∀ v,v<3->Hm v 0=worth rows f v) (q:∀ h' ex,ai [hk,rk] h h'->J h' hk=some (.lst (dh (4+2*nums.length) (cL f rows n i Hm)))->J h' rk=some (.lst (rd++[qv rows f n]))->Q .next ⟨dZ nums f goal hk rk (bh f rows n)++ex,h'⟩),ES C kb (execs body C.env) ⟨dZ nums f goal hk rk rows++[((Ve "i"),V.int (i:Nat)),("number",V.int (n:Nat))],h⟩ Q X
noncomputable def S0:=O1 aq
noncomputable def ε:=eu (by walk_at "ne") S0
theorem here:S0 ε:=by
 intro O H hf target body hw hl hi hn hni hr hrl k1 k2 hrd hne hb hw0 q
 refine qP (λ e_ cg=>?_) hw;subst e_ cg
 conv=>arg 3;arg 1;whnf
 have a3:ε.1/18%3<3:=Vy _ (by decide)
 have b3:ε.1/108%3<3:=Vy _ (by decide)
 have gl:=gB ε.1
 walk_at "st"
 refine aC _ ((congrArg (gq _ _) (congrArg V.int (De ε.1 18))).trans (bN k1 (lz a3) (VS (Vv (VJ a3 (by decide)))))) ?_
 repeat walk_at "py"
 have hz:(aR (4+2*ε.2.2.2.2.2.1.length) (ε.2.2.2.2.1 (ε.1/18%3))).length<=sizeLine:=by rw [cR];exact Vd (N7 hl) (by decide)
 have hz2:(aR (4+2*ε.2.2.2.2.2.1.length) (ε.2.2.2.2.1 (ε.1/108%3))).length<=sizeLine:=by rw [cR];exact Vd (N7 hl) (by decide)
 refine CJ.xQ rfl hz ?_
 have f1:J ε.2.2.2.2.2.2.2.1 (fresh ε.2.2.2.2.2.2.2.1)=none:=aA _
 have g1:ai [] ε.2.2.2.2.2.2.2.1 (af ε.2.2.2.2.2.2.2.1 (fresh ε.2.2.2.2.2.2.2.1) (.lst (aR (4+2*ε.2.2.2.2.2.1.length) (ε.2.2.2.2.1 (ε.1/18%3))))):=ai.refl.new f1
 have o1:J (af ε.2.2.2.2.2.2.2.1 (fresh ε.2.2.2.2.2.2.2.1) (.lst (aR (4+2*ε.2.2.2.2.2.1.length) (ε.2.2.2.2.1 (ε.1/18%3))))) (fresh ε.2.2.2.2.2.2.2.1)=some (.lst (aR (4+2*ε.2.2.2.2.2.1.length) (ε.2.2.2.2.1 (ε.1/18%3)))):=aj
 show EL ε.2.2.2.2.2.2.2.2.2.2.2.1 _ ⟨_,af ε.2.2.2.2.2.2.2.1 (fresh ε.2.2.2.2.2.2.2.1) (.lst (aR (4+2*ε.2.2.2.2.2.1.length) (ε.2.2.2.2.1 (ε.1/18%3))))⟩ _ _
 generalize af ε.2.2.2.2.2.2.2.1 (fresh ε.2.2.2.2.2.2.2.1) (.lst (aR (4+2*ε.2.2.2.2.2.1.length) (ε.2.2.2.2.1 (ε.1/18%3))))=h1 at *
 generalize fresh ε.2.2.2.2.2.2.2.1=ok at *
 have k3:=g1.at k1 Vr
 repeat walk_at "py"
 refine aC _ ((congrArg (gq _ _) (congrArg V.int (De ε.1 108))).trans (bN k3 (lz b3) (VS (Vv (VJ b3 (by decide)))))) ?_
 repeat walk_at "py"
 refine CJ.xQ rfl hz2 ?_
 have f2:J h1 (fresh h1)=none:=aA _
 have g2:ai [] h1 (af h1 (fresh h1) (.lst (aR (4+2*ε.2.2.2.2.2.1.length) (ε.2.2.2.2.1 (ε.1/108%3))))):=ai.refl.new f2
 have t1:J (af h1 (fresh h1) (.lst (aR (4+2*ε.2.2.2.2.2.1.length) (ε.2.2.2.2.1 (ε.1/108%3))))) (fresh h1)=some (.lst (aR (4+2*ε.2.2.2.2.2.1.length) (ε.2.2.2.2.1 (ε.1/108%3)))):=aj
 show EL ε.2.2.2.2.2.2.2.2.2.2.2.1 _ ⟨_,af h1 (fresh h1) (.lst (aR (4+2*ε.2.2.2.2.2.1.length) (ε.2.2.2.2.1 (ε.1/108%3))))⟩ _ _
 generalize af h1 (fresh h1) (.lst (aR (4+2*ε.2.2.2.2.2.1.length) (ε.2.2.2.2.1 (ε.1/108%3))))=h2 at *
 generalize fresh h1=tk at *
 have NQ:=g1.trans g2
 have o2:=g2.at o1 Vr
 have k4:=NQ.at k1 Vr
 have k5:=NQ.at k2 Vr
 have f3:J ε.2.2.2.2.2.2.2.1 tk=none:=g1.gW f2
 have n1:ok≠tk:=aY o1 f2
 repeat walk_at "py"
 refine ES.cut (st':=⟨dZ ε.2.2.2.2.2.1 ε.2.2.2.1 ε.2.2.2.2.2.2.2.2.2.1 ε.2.2.2.2.2.2.2.2.1 ε.2.2.2.2.2.2.1 ε.2.1++tL ε.2.2.1 ε.1 ok tk,h2⟩) (by rfl) ?_
 have h4:0<4+2*ε.2.2.2.2.2.1.length:=Vx (by decide) (Vw 4 _)
 have wa:=eT hr hf a3
 have wb:=eT hr hf b3
 have UZ:ε.2.2.2.2.2.2.2.2.2.2.1.length<=sizeLine:=Vd hrd (by decide)
 walk_at "st"
 refine aC _ (bN o2 ((cS h4).trans (congrArg (λ x=>some (V.int x)) (hw0 _ a3))) rfl) ?_
 repeat walk_at "py"
 refine CJ.str_int (log2_small wa) ?_
 repeat walk_at "py"
 refine aC _ (bN t1 ((cS h4).trans (congrArg (λ x=>some (V.int x)) (hw0 _ b3))) rfl) ?_
 repeat walk_at "py"
 refine CJ.str_int (log2_small wb) ?_
 repeat walk_at "py"
 have hst:(i8 ε.2.1).length<=sizeLine:=by unfold i8;rw [Vl];exact Vd hrl (by decide)
 refine ⟨hst,?_⟩
 show LW _ _ _ _ _ _ _ [] _ _ _ _ _
 refine LW.pure O (λ _=>true) N5 ⟨_,rfl⟩ (λ v hv=>?_) ?_
 ·apply iu (h:=hv);intro r hr'
  intro C3 O3
  repeat walk_at "py"
  exact bY (λ _ _ e=>aV e) rfl rfl
 have e2:[]++((i8 ε.2.1).filter λ _=>true).map N5=tab (tabS ε.2.1):=by
  rw [Vz,VU.mpr λ _ _=>rfl]
  unfold i8 tab tabS;rw [VF,VF];rfl
 rw [e2]
 repeat walk_at "py"
 have RI:ok≠ε.2.2.2.2.2.2.1:=gX f1 k2
 have RJ:tk≠ε.2.2.2.2.2.2.1:=gX f3 k2
 have TV:ok≠ε.2.2.2.2.2.2.2.2.1:=gX f1 k1
 have TX:tk≠ε.2.2.2.2.2.2.2.2.1:=gX f3 k1
 have g3:ai [ε.2.2.2.2.2.2.1] h2 (af h2 ε.2.2.2.2.2.2.1 (.lst (ε.2.2.2.2.2.2.2.2.2.2.1++[qv ε.2.1 ε.2.2.2.1 ε.1]))):=ai.refl.put (Vi.mpr rfl)
 have r3:J (af h2 ε.2.2.2.2.2.2.1 (.lst (ε.2.2.2.2.2.2.2.2.2.2.1++[qv ε.2.1 ε.2.2.2.1 ε.1]))) ε.2.2.2.2.2.2.1=some (.lst (ε.2.2.2.2.2.2.2.2.2.2.1++[qv ε.2.1 ε.2.2.2.1 ε.1])):=aj
 refine ES.cut (st':=⟨dZ ε.2.2.2.2.2.1 ε.2.2.2.1 ε.2.2.2.2.2.2.2.2.2.1 ε.2.2.2.2.2.2.2.2.1 ε.2.2.2.2.2.2.1 ε.2.1++tL ε.2.2.1 ε.1 ok tk,af h2 ε.2.2.2.2.2.2.1 (.lst (ε.2.2.2.2.2.2.2.2.2.2.1++[qv ε.2.1 ε.2.2.2.1 ε.1]))⟩) (by rfl) ?_
 generalize af h2 ε.2.2.2.2.2.2.1 (.lst (ε.2.2.2.2.2.2.2.2.2.2.1++[qv ε.2.1 ε.2.2.2.1 ε.1]))=h3 at *
 have o3:=g3.at o2 (bf RI)
 have t3:=g3.at t1 (bf RJ)
 have k6:=g3.at k4 (bf hne)
 have U1:((2:Int)).natAbs<2^62\/((ε.2.2.1:Nat):Int).natAbs<2^62:=.inl (by decide)
 have hK:4+2*ε.2.2.2.2.2.1.length<2^62:=VB (N7 hl) (by decide)
 have P5:4+2*ε.2.2.1<4+2*ε.2.2.2.2.2.1.length:=mF (k:=0) hi (by decide)
 have P6:5+2*ε.2.2.1<4+2*ε.2.2.2.2.2.1.length:=VB (VK (Wh 4 1 (2*ε.2.2.1))) (mF (k:=1) hi (by decide))
 (with_reducible refine' ES.cons ?_)
 repeat (first | (with_reducible refine' AS.cZ ?_) | walk_at "py")
 refine cu ok _ (4+2*ε.2.2.1) rfl (cO rfl o3 (by rw [cR];exact P5) (VJ P5 hK) ?_)
 rw [tK P5]
 repeat walk_at "py"
 have g4:ai [ok] h3 (af h3 ok (.lst (aR (4+2*ε.2.2.2.2.2.1.length) (upd (ε.2.2.2.2.1 (ε.1/18%3)) (4+2*ε.2.2.1) 1)))):=ai.refl.put (Vi.mpr rfl)
 have o4:J (af h3 ok (.lst (aR (4+2*ε.2.2.2.2.2.1.length) (upd (ε.2.2.2.2.1 (ε.1/18%3)) (4+2*ε.2.2.1) 1)))) ok=some (.lst (aR (4+2*ε.2.2.2.2.2.1.length) (upd (ε.2.2.2.2.1 (ε.1/18%3)) (4+2*ε.2.2.1) 1))):=aj
 refine ES.cut (st':=⟨dZ ε.2.2.2.2.2.1 ε.2.2.2.1 ε.2.2.2.2.2.2.2.2.2.1 ε.2.2.2.2.2.2.2.2.1 ε.2.2.2.2.2.2.1 ε.2.1++tL ε.2.2.1 ε.1 ok tk,af h3 ok (.lst (aR (4+2*ε.2.2.2.2.2.1.length) (upd (ε.2.2.2.2.1 (ε.1/18%3)) (4+2*ε.2.2.1) 1)))⟩) (by rfl) ?_
 generalize af h3 ok (.lst (aR (4+2*ε.2.2.2.2.2.1.length) (upd (ε.2.2.2.2.1 (ε.1/18%3)) (4+2*ε.2.2.1) 1)))=N8 at *
 have t4:=g4.at t3 (bf n1.symm)
 (with_reducible refine' ES.cons ?_)
 repeat (first | (with_reducible refine' AS.cZ ?_) | walk_at "py")
 refine cu tk _ (5+2*ε.2.2.1) rfl (cO rfl t4 (by rw [cR];exact P6) (VJ P6 hK) ?_)
 rw [tK P6]
 repeat walk_at "py"
 have g5:ai [tk] N8 (af N8 tk (.lst (aR (4+2*ε.2.2.2.2.2.1.length) (upd (ε.2.2.2.2.1 (ε.1/108%3)) (5+2*ε.2.2.1) 1)))):=ai.refl.put (Vi.mpr rfl)
 have t5:J (af N8 tk (.lst (aR (4+2*ε.2.2.2.2.2.1.length) (upd (ε.2.2.2.2.1 (ε.1/108%3)) (5+2*ε.2.2.1) 1)))) tk=some (.lst (aR (4+2*ε.2.2.2.2.2.1.length) (upd (ε.2.2.2.2.1 (ε.1/108%3)) (5+2*ε.2.2.1) 1))):=aj
 refine ES.cut (st':=⟨dZ ε.2.2.2.2.2.1 ε.2.2.2.1 ε.2.2.2.2.2.2.2.2.2.1 ε.2.2.2.2.2.2.2.2.1 ε.2.2.2.2.2.2.1 ε.2.1++tL ε.2.2.1 ε.1 ok tk,af N8 tk (.lst (aR (4+2*ε.2.2.2.2.2.1.length) (upd (ε.2.2.2.2.1 (ε.1/108%3)) (5+2*ε.2.2.1) 1)))⟩) (by rfl) ?_
 generalize af N8 tk (.lst (aR (4+2*ε.2.2.2.2.2.1.length) (upd (ε.2.2.2.2.1 (ε.1/108%3)) (5+2*ε.2.2.1) 1)))=h5 at *
 have o5:=g5.at o4 (bf n1)
 have k7:=(g4.at k6 (bf TV.symm))
 have k8:=g5.at k7 (bf TX.symm)
 have r5:=g5.at (g4.at r3 (bf RI.symm)) (bf RJ.symm)
 have OQ:ai [ε.2.2.2.2.2.2.1,ok,tk] ε.2.2.2.2.2.2.2.1 h5:=((NQ.sub λ k q=>nomatch q).trans (g3.sub λ k q=>Vm.mpr (.inl (Vi.mp q)))).trans ((g4.sub λ k q=>Vm.mpr (.inr (Vm.mpr (.inl (Vi.mp q))))).trans (g5.sub λ k q=>Vm.mpr (.inr (Vm.mpr (.inr q)))))
 (with_reducible refine' ES.cons ?_)
 refine O.oJ (tg:=rZ) true rfl rfl ⟨_,_,_,rfl⟩ rfl ?_
 refine O.zip (by walk_at "nm") rfl rfl rfl ?_
 repeat walk_at "py"
 have IB:=h4
 have oz:upd (ε.2.2.2.2.1 (ε.1/18%3)) (4+2*ε.2.2.1) 1 0=worth ε.2.1 ε.2.2.2.1 (ε.1/18%3):=by unfold upd;rw [if_neg (WE (Vx (by decide) (Vw 4 _)))];exact hw0 _ a3
 have tz:upd (ε.2.2.2.2.1 (ε.1/108%3)) (5+2*ε.2.2.1) 1 0=worth ε.2.1 ε.2.2.2.1 (ε.1/108%3):=by unfold upd;rw [if_neg (WE (Vx (by decide) (Vw 5 _)))];exact hw0 _ b3
 have ob:∀ c,c<4+2*ε.2.2.2.2.2.1.length->0<=upd (ε.2.2.2.2.1 (ε.1/18%3)) (4+2*ε.2.2.1) 1 c/\upd (ε.2.2.2.2.1 (ε.1/18%3)) (4+2*ε.2.2.1) 1 c<9973:=λ c hc=>Ge (hb _ c a3 hc)
 have tb:∀ c,c<4+2*ε.2.2.2.2.2.1.length->0<=upd (ε.2.2.2.2.1 (ε.1/108%3)) (5+2*ε.2.2.1) 1 c/\upd (ε.2.2.2.2.1 (ε.1/108%3)) (5+2*ε.2.2.1) 1 c<9973:=λ c hc=>Ge (hb _ c b3 hc)
 refine ay _ _ (aT o5) (aT t5) ?_
 rw [Gf]
 refine ⟨by rw [Vl,V4];exact Vd (N7 hl) (by decide),?_⟩
 show sr _ _ _ _ _ _ _ [("number",.int (ε.1:Nat)),("one",.loc ok),("other",.loc tk)] _ _ _ _
 refine sr.pure O (λ _=>true) (newF ε.1 (worth ε.2.1 ε.2.2.2.1 (ε.1/18%3)) (worth ε.2.1 ε.2.2.2.1 (ε.1/108%3))) ⟨aT o5,aT t5⟩ (λ v hv=>?_) ?_
 ·apply iu (h:=hv);intro c hc
  have hc':c<4+2*ε.2.2.2.2.2.1.length:=WA (Yg.mp hc).2 (Ws _)
  have RK:=ob c hc'
  have RL:=tb c hc'
  have Ku:=cS (g:=upd (ε.2.2.2.2.1 (ε.1/18%3)) (4+2*ε.2.2.1) 1) IB
  have Kv:=cS (g:=upd (ε.2.2.2.2.1 (ε.1/108%3)) (5+2*ε.2.2.1) 1) IB
  rw [oz] at Ku
  rw [tz] at Kv
  generalize upd (ε.2.2.2.2.1 (ε.1/18%3)) (4+2*ε.2.2.1) 1 c=x at RK ⊢
  generalize upd (ε.2.2.2.2.1 (ε.1/108%3)) (5+2*ε.2.2.1) 1 c=y at RL ⊢
  have m1:x.natAbs<2^62\/(worth ε.2.1 ε.2.2.2.1 (ε.1/108%3)).natAbs<2^62:=.inl (CY RK (by decide))
  have m2:(worth ε.2.1 ε.2.2.2.1 (ε.1/18%3)).natAbs<2^62\/y.natAbs<2^62:=.inr (CY RL (by decide))
  intro C3 O3
  repeat walk_at "py"
  refine aC _ (bN t5 Kv rfl) ?_
  repeat walk_at "py"
  refine aC _ (bN o5 Ku rfl) ?_
  repeat walk_at "py"
  refine aC _ ((congrArg (λ x=>gq _ (V.tup _) (V.int x)) (fh ε.1 3)).trans (dK tw (Vv (VJ (Vy _ (by decide)) (by decide))))) ?_
  exact bY (aW _ [("x",.int x),("y",.int y)]) rfl rfl
 rw [Gg]
 refine ⟨λ _=>?_,nofun⟩
 repeat walk_at "py"
 have fw:J h5 (fresh h5)=none:=aA _
 have g6:ai [] h5 (af h5 (fresh h5) (.lst (aR (4+2*ε.2.2.2.2.2.1.length) λ c=>oU ε.1 (upd (ε.2.2.2.2.1 (ε.1/18%3)) (4+2*ε.2.2.1) 1 c+upd (ε.2.2.2.2.1 (ε.1/108%3)) (5+2*ε.2.2.1) 1 c) (upd (ε.2.2.2.2.1 (ε.1/18%3)) (4+2*ε.2.2.1) 1 c-upd (ε.2.2.2.2.1 (ε.1/108%3)) (5+2*ε.2.2.1) 1 c) (upd (ε.2.2.2.2.1 (ε.1/18%3)) (4+2*ε.2.2.1) 1 c*worth ε.2.1 ε.2.2.2.1 (ε.1/108%3)+worth ε.2.1 ε.2.2.2.1 (ε.1/18%3)*upd (ε.2.2.2.2.1 (ε.1/108%3)) (5+2*ε.2.2.1) 1 c)))):=ai.refl.new fw
 have w6:J (af h5 (fresh h5) (.lst (aR (4+2*ε.2.2.2.2.2.1.length) λ c=>oU ε.1 (upd (ε.2.2.2.2.1 (ε.1/18%3)) (4+2*ε.2.2.1) 1 c+upd (ε.2.2.2.2.1 (ε.1/108%3)) (5+2*ε.2.2.1) 1 c) (upd (ε.2.2.2.2.1 (ε.1/18%3)) (4+2*ε.2.2.1) 1 c-upd (ε.2.2.2.2.1 (ε.1/108%3)) (5+2*ε.2.2.1) 1 c) (upd (ε.2.2.2.2.1 (ε.1/18%3)) (4+2*ε.2.2.1) 1 c*worth ε.2.1 ε.2.2.2.1 (ε.1/108%3)+worth ε.2.1 ε.2.2.2.1 (ε.1/18%3)*upd (ε.2.2.2.2.1 (ε.1/108%3)) (5+2*ε.2.2.1) 1 c)))) (fresh h5)=some (.lst (aR (4+2*ε.2.2.2.2.2.1.length) λ c=>oU ε.1 (upd (ε.2.2.2.2.1 (ε.1/18%3)) (4+2*ε.2.2.1) 1 c+upd (ε.2.2.2.2.1 (ε.1/108%3)) (5+2*ε.2.2.1) 1 c) (upd (ε.2.2.2.2.1 (ε.1/18%3)) (4+2*ε.2.2.1) 1 c-upd (ε.2.2.2.2.1 (ε.1/108%3)) (5+2*ε.2.2.1) 1 c) (upd (ε.2.2.2.2.1 (ε.1/18%3)) (4+2*ε.2.2.1) 1 c*worth ε.2.1 ε.2.2.2.1 (ε.1/108%3)+worth ε.2.1 ε.2.2.2.1 (ε.1/18%3)*upd (ε.2.2.2.2.1 (ε.1/108%3)) (5+2*ε.2.2.1) 1 c))):=aj
 generalize TY:(λ c=>oU ε.1 (upd (ε.2.2.2.2.1 (ε.1/18%3)) (4+2*ε.2.2.1) 1 c+upd (ε.2.2.2.2.1 (ε.1/108%3)) (5+2*ε.2.2.1) 1 c) (upd (ε.2.2.2.2.1 (ε.1/18%3)) (4+2*ε.2.2.1) 1 c-upd (ε.2.2.2.2.1 (ε.1/108%3)) (5+2*ε.2.2.1) 1 c) (upd (ε.2.2.2.2.1 (ε.1/18%3)) (4+2*ε.2.2.1) 1 c*worth ε.2.1 ε.2.2.2.1 (ε.1/108%3)+worth ε.2.1 ε.2.2.2.1 (ε.1/18%3)*upd (ε.2.2.2.2.1 (ε.1/108%3)) (5+2*ε.2.2.1) 1 c))=NC at *
 refine ES.cut (st':=⟨dZ ε.2.2.2.2.2.1 ε.2.2.2.1 ε.2.2.2.2.2.2.2.2.2.1 ε.2.2.2.2.2.2.2.2.1 ε.2.2.2.2.2.2.1 ε.2.1++(tL ε.2.2.1 ε.1 ok tk++[((Ve "new"),V.loc (fresh h5))]),af h5 (fresh h5) (.lst (aR (4+2*ε.2.2.2.2.2.1.length) NC))⟩) (by rfl) ?_
 generalize af h5 (fresh h5) (.lst (aR (4+2*ε.2.2.2.2.2.1.length) NC))=h6 at *
 generalize fresh h5=wk at *
 have o6:=g6.at o5 Vr
 have t6:=g6.at t5 Vr
 have k9:=g6.at k8 Vr
 have r6:=g6.at r5 Vr
 have OT:=cS (g:=upd (ε.2.2.2.2.1 (ε.1/18%3)) (4+2*ε.2.2.1) 1) IB
 have OU:=cS (g:=upd (ε.2.2.2.2.1 (ε.1/108%3)) (5+2*ε.2.2.1) 1) IB
 rw [oz] at OT
 rw [tz] at OU
 have m3:(worth ε.2.1 ε.2.2.2.1 (ε.1/18%3)).natAbs<2^62\/(worth ε.2.1 ε.2.2.2.1 (ε.1/108%3)).natAbs<2^62:=.inl (CY (eT hr hf a3) (by decide))
 (with_reducible refine' ES.cons ?_)
 repeat (first | (with_reducible refine' AS.cZ ?_) | walk_at "py")
 refine aC _ (bN o6 OT rfl) ?_
 repeat (first | (with_reducible refine' AS.cZ ?_) | walk_at "py")
 refine aC _ (bN t6 OU rfl) ?_
 repeat (first | (with_reducible refine' AS.cZ ?_) | walk_at "py")
 refine aC _ (bN o6 OT rfl) ?_
 repeat (first | (with_reducible refine' AS.cZ ?_) | walk_at "py")
 refine aC _ (bN t6 OU rfl) ?_
 repeat (first | (with_reducible refine' AS.cZ ?_) | walk_at "py")
 refine aC _ (bN o6 OT rfl) ?_
 repeat (first | (with_reducible refine' AS.cZ ?_) | walk_at "py")
 refine aC _ (bN t6 OU rfl) ?_
 repeat (first | (with_reducible refine' AS.cZ ?_) | walk_at "py")
 refine aC _ ((congrArg (λ x=>gq _ (V.tup _) (V.int x)) (fh ε.1 3)).trans (dK tw (Vv (VJ (Vy _ (by decide)) (by decide))))) ?_
 repeat (first | (with_reducible refine' AS.cZ ?_) | walk_at "py")
 refine cu wk _ 0 rfl (cO rfl w6 (by rw [cR];exact IB) (by decide) ?_)
 rw [tK IB]
 repeat walk_at "py"
 have g7:ai [wk] h6 (af h6 wk (.lst (aR (4+2*ε.2.2.2.2.2.1.length) (upd NC 0 (oU ε.1 (worth ε.2.1 ε.2.2.2.1 (ε.1/18%3)+worth ε.2.1 ε.2.2.2.1 (ε.1/108%3)) (worth ε.2.1 ε.2.2.2.1 (ε.1/18%3)-worth ε.2.1 ε.2.2.2.1 (ε.1/108%3)) (worth ε.2.1 ε.2.2.2.1 (ε.1/18%3)*worth ε.2.1 ε.2.2.2.1 (ε.1/108%3))))))):=ai.refl.put (Vi.mpr rfl)
 have w7:J (af h6 wk (.lst (aR (4+2*ε.2.2.2.2.2.1.length) (upd NC 0 (oU ε.1 (worth ε.2.1 ε.2.2.2.1 (ε.1/18%3)+worth ε.2.1 ε.2.2.2.1 (ε.1/108%3)) (worth ε.2.1 ε.2.2.2.1 (ε.1/18%3)-worth ε.2.1 ε.2.2.2.1 (ε.1/108%3)) (worth ε.2.1 ε.2.2.2.1 (ε.1/18%3)*worth ε.2.1 ε.2.2.2.1 (ε.1/108%3))))))) wk=some (.lst (aR (4+2*ε.2.2.2.2.2.1.length) (upd NC 0 (oU ε.1 (worth ε.2.1 ε.2.2.2.1 (ε.1/18%3)+worth ε.2.1 ε.2.2.2.1 (ε.1/108%3)) (worth ε.2.1 ε.2.2.2.1 (ε.1/18%3)-worth ε.2.1 ε.2.2.2.1 (ε.1/108%3)) (worth ε.2.1 ε.2.2.2.1 (ε.1/18%3)*worth ε.2.1 ε.2.2.2.1 (ε.1/108%3)))))):=aj
 have hR:(oU ε.1 (worth ε.2.1 ε.2.2.2.1 (ε.1/18%3)+worth ε.2.1 ε.2.2.2.1 (ε.1/108%3)) (worth ε.2.1 ε.2.2.2.1 (ε.1/18%3)-worth ε.2.1 ε.2.2.2.1 (ε.1/108%3)) (worth ε.2.1 ε.2.2.2.1 (ε.1/18%3)*worth ε.2.1 ε.2.2.2.1 (ε.1/108%3))).fmod 9973=yC ε.2.1 ε.2.2.2.1 ε.1:=rfl
 generalize oU ε.1 (worth ε.2.1 ε.2.2.2.1 (ε.1/18%3)+worth ε.2.1 ε.2.2.2.1 (ε.1/108%3)) (worth ε.2.1 ε.2.2.2.1 (ε.1/18%3)-worth ε.2.1 ε.2.2.2.1 (ε.1/108%3)) (worth ε.2.1 ε.2.2.2.1 (ε.1/18%3)*worth ε.2.1 ε.2.2.2.1 (ε.1/108%3))=top at *
 refine ES.cut (st':=⟨dZ ε.2.2.2.2.2.1 ε.2.2.2.1 ε.2.2.2.2.2.2.2.2.2.1 ε.2.2.2.2.2.2.2.2.1 ε.2.2.2.2.2.2.1 ε.2.1++(tL ε.2.2.1 ε.1 ok tk++[((Ve "new"),V.loc wk)]),af h6 wk (.lst (aR (4+2*ε.2.2.2.2.2.1.length) (upd NC 0 top)))⟩) (by rfl) ?_
 generalize af h6 wk (.lst (aR (4+2*ε.2.2.2.2.2.1.length) (upd NC 0 top)))=h7 at *
 have RM:∀ vs,itemsOf ⟨vs,h7⟩ (.loc wk)=some (True,aR (4+2*ε.2.2.2.2.2.1.length) (upd NC 0 top)):=λ vs=>congrArg (XE λ l=>(True,l)) (aT (st:=⟨vs,h7⟩) w7)
 have wh:wk≠ε.2.2.2.2.2.2.2.2.1:=gX fw k8
 have wr:wk≠ε.2.2.2.2.2.2.1:=gX fw r5
 have TZ:=g7.at k9 (bf wh.symm)
 have r7:=g7.at r6 (bf wr.symm)
 have gi:bq (bk ε.2.2.2.2.2.1) ε.2.2.1=some (.int (ah ε.1:Nat)):=by rw [bI];unfold bk;rw [Wy,hni];rfl
 have OV:∀ st:St,gq st (.lst (bk ε.2.2.2.2.2.1)) (.int (ε.2.2.1:Nat))=some (.int (ah ε.1:Nat)):=λ st=>dX gi (Vd (Vv hi) (Vd hl (by decide)))
 (with_reducible refine' ES.cons ?_)
 repeat (first | (with_reducible refine' AS.cZ ?_) | walk_at "py")
 refine ay _ _ (RM _) trivial (⟨by rw [cR];exact Vd (N7 hl) (by decide),?_⟩)
 show LW _ _ _ _ _ _ _ [] _ _ _ _ _
 refine LW.pure O (λ _=>true) N6 ⟨_,RM _⟩ (λ v hv=>?_) ?_
 ·apply iu (h:=hv);intro c hc
  intro C3 O3
  repeat walk_at "py"
  exact bY (λ _ _ e=>aV e) rfl rfl
 rw [Gh]
 repeat (first | (with_reducible refine' AS.cZ ?_) | walk_at "py")
 refine aC _ (OV _) ?_
 repeat (first | (with_reducible refine' AS.cZ ?_) | walk_at "py")
 refine cu ε.2.2.2.2.2.2.2.2.1 _ (ah ε.1) rfl (cO rfl TZ (by unfold dh;rw [Vl,V4];exact gl) (VJ gl (by decide)) ?_)
 rw [Gi gl]
 repeat walk_at "py"
 have eH:(λ u c=>if u=ah ε.1 then (upd NC 0 top c).fmod 9973 else ε.2.2.2.2.1 u c)=cL ε.2.2.2.1 ε.2.1 ε.1 ε.2.2.1 ε.2.2.2.2.1:=by
  funext u c
  subst TY
  unfold cL upd
  by_cases e:u=ah ε.1
  ·rw [if_pos e,if_pos e]
   by_cases z:c=0
   ·rw [if_pos z,if_pos z];exact hR
   ·rw [if_neg z,if_neg z]
  ·rw [if_neg e,if_neg e]
 rw [eH]
 have g8:ai [ε.2.2.2.2.2.2.2.2.1] h7 (af h7 ε.2.2.2.2.2.2.2.2.1 (.lst (dh (4+2*ε.2.2.2.2.2.1.length) (cL ε.2.2.2.1 ε.2.1 ε.1 ε.2.2.1 ε.2.2.2.2.1)))):=ai.refl.put (Vi.mpr rfl)
 have T4:J (af h7 ε.2.2.2.2.2.2.2.2.1 (.lst (dh (4+2*ε.2.2.2.2.2.1.length) (cL ε.2.2.2.1 ε.2.1 ε.1 ε.2.2.1 ε.2.2.2.2.1)))) ε.2.2.2.2.2.2.2.2.1=some (.lst (dh (4+2*ε.2.2.2.2.2.1.length) (cL ε.2.2.2.1 ε.2.1 ε.1 ε.2.2.1 ε.2.2.2.2.1))):=aj
 refine ES.cut (st':=⟨dZ ε.2.2.2.2.2.1 ε.2.2.2.1 ε.2.2.2.2.2.2.2.2.2.1 ε.2.2.2.2.2.2.2.2.1 ε.2.2.2.2.2.2.1 ε.2.1++(tL ε.2.2.1 ε.1 ok tk++[((Ve "new"),V.loc wk)]),af h7 ε.2.2.2.2.2.2.2.2.1 (.lst (dh (4+2*ε.2.2.2.2.2.1.length) (cL ε.2.2.2.1 ε.2.1 ε.1 ε.2.2.1 ε.2.2.2.2.1)))⟩) (by rfl) ?_
 generalize af h7 ε.2.2.2.2.2.2.2.2.1 (.lst (dh (4+2*ε.2.2.2.2.2.1.length) (cL ε.2.2.2.1 ε.2.1 ε.1 ε.2.2.1 ε.2.2.2.2.1)))=h8 at *
 have r8:=g8.at r7 (bf hne.symm)
 have w8:=g8.at w7 (bf wh)
 walk_at "st"
 show LW _ _ _ _ _ _ _ [("goals",.lst (bk ε.2.2.2.2.2.1)),("i",.int (ε.2.2.1:Nat))] _ _ _ _ _
 refine LW.pure O (Bx ε.1) id ⟨_,rfl⟩ (λ v hv=>?_) ?_
 ·apply iu (h:=hv);intro r hr'
  intro C3 O3
  repeat walk_at "py"
  refine aC _ (OV _) ?_
  repeat walk_at "py"
  refine ⟨λ q=>⟨kx q,λ _=>?_,nofun⟩,λ q=>⟨kx q,nofun,λ _=>⟨aW _ [("row",V.tup [V.int (r.v:Nat),V.tup [V.str (bW r.v r.u),V.str (aQ r.n)]])],rfl⟩⟩⟩
  repeat walk_at "py"
  exact bY (aW _ [("row",V.tup [V.int (r.v:Nat),V.tup [V.str (bW r.v r.u),V.str (aQ r.n)]])]) rfl rfl
 repeat walk_at "py"
 walk_at "frz"
 refine aC _ (OV _) ?_
 repeat walk_at "py"
 refine aC _ (OV _) ?_
 repeat walk_at "py"
 refine aC _ (dK (vm gl) (Vv (VJ gl (by decide)))) ?_
 repeat walk_at "py"
 refine aC _ (bN w8 ((cS IB).trans (congrArg (λ x=>some (V.int x)) (if_pos rfl))) rfl) ?_
 repeat walk_at "py"
 rw [hR]
 refine CJ.str_int (log2_small (cE _)) ?_
 repeat walk_at "py"
 have e5:=Ai (f:=ε.2.2.2.1) (rows:=ε.2.1) (n:=ε.1)
 refine ⟨?_,?_⟩
 ·rw [Vz,eJ,YI]
  exact Vd (VN (WD ..) 1) (Vd (WN (by unfold i8;rw [Vl];exact hrl)) (by decide))
 rw [e5]
 repeat walk_at "py"
 refine q h8 _ ?_ T4 r8
 have f4:J ε.2.2.2.2.2.2.2.1 ok=none:=f1
 have T5:J ε.2.2.2.2.2.2.2.1 wk=none:=by
  cases e:J ε.2.2.2.2.2.2.2.1 wk with
  | none=>rfl
  | some o=>
   have:wk∉[ε.2.2.2.2.2.2.1,ok,tk]:=FQ wr (λ z=>by rw [z,f1] at e;exact aV e) (λ z=>by rw [z,f3] at e;exact aV e)
   have:=OQ.at e this
   rw [fw] at this;exact aV this
 have ga:ai [ε.2.2.2.2.2.2.2.2.1,ε.2.2.2.2.2.2.1] ε.2.2.2.2.2.2.2.1 h5:=ai.refl.keys OQ λ k z=>by
  rcases Vm.mp z with rfl | z
  ·exact .inl (Vm.mpr (.inr (Vi.mpr rfl)))
  rcases Vm.mp z with rfl | z
  ·exact .inr f1
  ·exact .inr (Vi.mp z▸f3)
 have gb:ai [ε.2.2.2.2.2.2.2.2.1,ε.2.2.2.2.2.2.1] ε.2.2.2.2.2.2.2.1 h6:=ga.trans (g6.sub λ k z=>nomatch z)
 have gc:ai [ε.2.2.2.2.2.2.2.2.1,ε.2.2.2.2.2.2.1] ε.2.2.2.2.2.2.2.1 h7:=gb.keys g7 λ k z=>.inr (Vi.mp z▸T5)
 exact gc.trans (g8.sub λ k z=>Vm.mpr (.inl (Vi.mp z)))
end jU
theorem Gj {C T A d X kb f nums goal hk rk i n rows Hm rd h Q}:jU.aq n rows i f Hm nums rk h hk goal rd C T A d X kb Q:=nR (S:=jU.S0) jU.here (n,rows,i,f,Hm,nums,rk,h,hk,goal,rd,C,T,A,d,X,kb,Q)
end
section
noncomputable def cG (nums:List Nat):Nat->List (Nat×Nat×Nat)
 | 0=>[]
 | j+1=>[(j,0,nums[j]?.getD 0/18%3),(j,1,nums[j]?.getD 0/108%3)]++cG nums j
noncomputable def cT (l:List (Nat×Nat×Nat)):List V:=l.map λ p=>V.tup [.int (p.1:Nat),.int (p.2.1:Nat),.int (p.2.2:Nat)]
noncomputable def I8:List Stmt->WM×Expr×Expr×Expr×Expr
 | .Assign _ (.ListComp e [⟨t1,_,_,_⟩,⟨t2,i2,_,_⟩] s _) _::_=>(s,t1,t2,i2,e)
 | _=>default
section
variable {C:Cx}{T:Th}{A:cN}{d:Nat}{N:List (Str×Vn)}{st:St}{X:XK}{kb:Nat}
theorem By {nums:List Nat}{j:Nat}(h:j<nums.length):bq (cQ nums) j=some (.int (nums[j]?.getD 0:Nat)):=by
 rw [bI];unfold cQ
 rw [Wy,Y0 h];rfl
theorem P7 (m:Nat):((m:Int).fdiv 18).fmod 3=((m/18%3:Nat):Int):=De m 18
theorem N9 (m:Nat):((m:Int).fdiv 108).fmod 3=((m/108%3:Nat):Int):=De m 108
end
namespace gE
noncomputable def aq (nums:List Nat)(C:Cx)(T:Th)(A:cN)(d:Nat)(h:List (Nat×MO)):Prop:=∀ (O:On C T (d+1) (aO (aJ 26)).names) (H:Fx T A) (hl:nums.length<=6) {scope:WM}{t1 t2 m7 elt:Expr}{bF:St->Prop}{Q:List V->List (Nat×MO)->Prop} (hw:I8 ((bodyOf (aJ 26)).drop 4)=(scope,t1,t2,m7,elt)) (hok:bF ⟨[("numbers",.lst (cQ nums))],h⟩),∀ (n:Nat) (acc:List V),n<=nums.length->acc.length+2*n<=100->Q (acc++cT (cG nums n)) h->v5 C scope (d+1) t1 t2 m7 elt uv bF [("numbers",.lst (cQ nums))] Q (qt n) acc h
noncomputable def S0:=u6 aq
noncomputable def ε:=eu (by walk_at "ne") S0
theorem here:S0 ε:=by
 intro O H hl scope t1 t2 m7 elt bF Q hw hok
 refine qP (λ e1 hw1=>?_) hw
 refine qP (λ e2 T6=>?_) hw1
 refine qP (λ e3 T7=>?_) T6
 refine qP (λ e4 e5=>?_) T7
 subst e1 e2 e3 e4 e5
 intro n
 induction n with
 | zero=>
  intro acc hn ha q
  exact ⟨hok,by rw [show cT (cG ε.1 0)=[] from rfl,VT] at q;exact q⟩
 | succ j ih=>
  intro acc hn ha q
  rw [qd]
  refine ⟨hok,λ C' I=>?_⟩
  have O':=O.comp I
  repeat walk_at "py"
  refine iB.ev ?_
  repeat walk_at "py"
  refine ⟨⟨⟨_,rfl⟩,Vd (Vd (Vw _ _) ha) (by decide)⟩,λ C2 I2=>?_⟩
  have O2:=O.comp I2
  repeat walk_at "py"
  refine aC _ (dX (By hn) (Vd (Vv hn) (Vd hl (by decide)))) ?_
  repeat walk_at "py"
  rw [P7]
  refine aC [("numbers",.lst (cQ ε.1)),("j",.int (j:Nat))] (aW _ [("k",.int 0)]) ?_
  refine ⟨⟨⟨_,rfl⟩,Vd (by rw [Vk];exact Vd (Vq (YH 1 (2*j+1)) acc.length) ha) (by decide)⟩,λ C3 I3=>?_⟩
  have O3:=O.comp I3
  repeat walk_at "py"
  refine aC _ (dX (By hn) (Vd (Vv hn) (Vd hl (by decide)))) ?_
  repeat walk_at "py"
  rw [N9]
  refine ⟨[("numbers",.lst (cQ ε.1)),("j",.int (j:Nat))],aW _ [("k",.int 1)],⟨_,rfl⟩,aW _ [("j",.int (j:Nat))],?_⟩
  refine ih _ (Ye hn) (by rw [Vk,Vk];exact Vd (VK (Wh acc.length 2 (2*j))) ha) ?_
  rw [Vs,Vs]
  exact q
end gE
theorem Aj {C T A d nums h}:gE.aq nums C T A d h:=nR (S:=gE.S0) gE.here (nums,C,T,A,d,h)
section
variable {C:Cx}{T:Th}{A:cN}{d:Nat}{N:List (Str×Vn)}{st:St}{X:XK}{kb:Nat}
noncomputable def row2 (nums:List Nat)(goal:Nat)(Hf:Nat->Nat->Int):V->V
 | .tup [.int j,.int k,.int v]=>.tup [.str (bW v.toNat (Vo k.toNat 1)),.str (aQ (Hf goal (4+2*j.toNat+k.toNat)))]
 | x=>x
noncomputable def Oa (nums:List Nat):V->Bool
 | .tup [.int j,.int k,.int v]=>!((nums.take j.toNat).any λ n=>Vo (ah n) v.toNat)
 | _=>true
theorem mG {nums:List Nat}:∀ {n:Nat}{p:Nat×Nat×Nat},p∈cG nums n->p.1<n/\p.2.1<2/\p.2.2<3
 | 0,_,h=>nomatch h
 | n+1,p,h=>by
  rcases Wa.mp h with h | h
  ·rcases Vm.mp h with rfl | h
   ·exact bY (Wf _) (by decide:0<2) (Vy _ (by decide))
   ·obtain rfl:=Vi.mp h
    exact bY (Wf _) (by decide:1<2) (Vy _ (by decide))
  ·refine fJ (λ a b c=>?_) (mG h)
   exact bY (Zh a) b c
theorem ju {nums:List Nat}:∀ n,(cG nums n).length=2*n
 | 0=>rfl
 | n+1=>by
  show ([_,_]++cG nums n).length=_
  rw [Vk,ju n];exact WG 2 (2*n)
theorem vn {g:Nat->Option Zs}:∀ {ns:List Nat},f5 g (ns.map λ n=>V.int ((ah n:Nat):Int))=some (ns.map λ n=>Y9 ((ah n:Nat):Int))
 | []=>by kernel_rfl
 | n::ns=>by
  rw [XI,nE,vn];rfl
theorem lay_ints:∀ {ns:List Nat},X5 (ns.map λ n=>Y9 ((ah n:Nat):Int))=true
 | []=>rfl
 | n::ns=>by
  show (PyData.canLay0 (.int _)&&X5 _)=true
  rw [lay_ints];rfl
theorem iO {st:St}{v:Nat}{ns:List Nat}:∃ p,pO st .NotIn (.int (v:Nat)) (.lst (bk ns))=some (p,!(ns.any λ n=>Vo (ah n) v))/\p:=by
 have e:MQ st (.int (v:Nat)) (.lst (bk ns))=some (X5 (ns.map λ n=>Y9 ((ah n:Nat):Int))=true/\(Y9 (v:Nat)).canLay0=true/\(Y9 (v:Nat)).depth<=64,(ns.map λ n=>Y9 ((ah n:Nat):Int)).any λ y=>YM y (.int (v:Nat))):=by
  show (some (Y9 (v:Nat))).bind (λ d=>((some (bk ns)).bind (Ei st)).map _)=_
  unfold bk
  show ((f5 (OI st) _).map _)=_
  rw [vn];rfl
 have hA:((ns.map λ n=>Y9 ((ah n:Nat):Int)).any λ y=>YM y (.int (v:Nat)))=ns.any λ n=>Vo (ah n) v:=by
  rw [List.any_map]
  refine congrArg (λ g=>ns.any g) (funext λ n=>?_)
  show (((ah n:Nat):Int)==((v:Nat):Int))=Vo (ah n) v
  by_cases h:ah n=v
  ·rw [h,WL,beq_self_eq_true]
  ·have e3:Vo (ah n) v=false:=by
    cases z:Vo (ah n) v with
    | false=>rfl
    | true=>exact absurd (VE z) h
   have e2:(((ah n:Nat):Int)==((v:Nat):Int))=false:=beq_eq_false_iff_ne.mpr λ z=>h (YZ z)
   rw [e3,e2]
 rw [hA] at e
 exact ⟨_,congrArg (XE λ p:Prop×Bool=>(p.1,!p.2)) e,lay_ints,rfl,(by decide:0<=64)⟩
theorem Ak {ns:List Nat}{j:Nat}:pick (bk ns) none (some (j:Int)) none=bk (ns.take j):=by
 rw [uZ];unfold bk;rw [List.map_take]
theorem Df {k u:Nat} (hk:k<2) (hu:u<3):bq [V.str "fi",V.str "st",V.str "ss",V.str "FI",V.str "ST",V.str "SS"] (3*k+u)=some (.str (bW u (Vo k 1))):=
 fF (P:=λ k=>∀ u,u<3->bq [V.str "fi",V.str "st",V.str "ss",V.str "FI",V.str "ST",V.str "SS"] (3*k+u)=some (.str (bW u (Vo k 1)))) (n:=2) ⟨⟨trivial,yu rfl rfl rfl⟩,yu rfl rfl rfl⟩ k hk u hu
theorem I9:∀ (n a b:Fin 17),(!(Wn a.val n.val&&Wn b.val n.val)||sliceBounds (some (a.val:Int)) (some (b.val:Int)) none n.val==((a.val:Int),(b.val:Int),1))=true:=by decide +kernel
theorem Gk:∀ (n a:Fin 17),(!(Wn a.val n.val)||sliceBounds (some (a.val:Int)) none none n.val==((a.val:Int),(n.val:Int),1))=true:=by decide +kernel
theorem yL {α:Type}{l:List α}{a b:Nat}(hl:l.length<17)(ha:a<=l.length)(hb:b<=l.length):pick l (some (a:Int)) (some (b:Int)) none=(l.drop a).take (b-a):=by
 have h:=I9 ⟨_,hl⟩ ⟨a,VB ha hl⟩ ⟨b,VB hb hl⟩
 rw [VS ha,VS hb] at h
 exact rA (Wc h)
theorem pick_from {α:Type}{l:List α}{a:Nat}(hl:l.length<17)(ha:a<=l.length):pick l (some (a:Int)) none none=l.drop a:=by
 have h:=Gk ⟨_,hl⟩ ⟨a,VB ha hl⟩
 rw [VS ha] at h
 rw [rA (Wc h),Xg (VK ZC)]
theorem Dg {ns:List Nat}{i j:Nat}(hl:ns.length<=6)(hi:i<ns.length)(hj:j<=ns.length):pick (bk ns) (some ((i:Int)+1)) (some (j:Int)) none=bk ((ns.drop (i+1)).take (j-(i+1))):=by
 have e:(bk ns).length=ns.length:=Vl ..
 rw [show (i:Int)+1=((i+1:Nat):Int) from rfl,yL (by rw [e];exact VB hl (by decide)) (by rw [e];exact hi) (by rw [e];exact hj)]
 unfold bk;rw [List.map_take,List.map_drop]
theorem Al {ns:List Nat}{i:Nat}(hl:ns.length<=6)(hi:i<ns.length):pick (bk ns) (some ((i:Int)+1)) none none=bk (ns.drop (i+1)):=by
 have e:(bk ns).length=ns.length:=Vl ..
 rw [show (i:Int)+1=((i+1:Nat):Int) from rfl,pick_from (by rw [e];exact VB hl (by decide)) (by rw [e];exact hi)]
 unfold bk;rw [List.map_drop]
noncomputable abbrev gk (nums:List Nat)(f:Nat->Int)(goal hk rk:Nat)(rows:List Row)(rv:List V):List (Str×V):=
 dZ nums f goal hk rk rows++[((Ve "later"),V.lst (cT (cG nums nums.length))),("rows",V.lst rv)]
noncomputable def wR (nums:List Nat)(i v:Nat):V->Bool
 | .tup [.int j,.int _,.int u]=>(u==((v:Nat):Int))&&(decide (j>((i:Nat):Int))&&!(((nums.drop (i+1)).take (j.toNat-(i+1))).any λ n=>Vo (ah n) v))
 | _=>true
noncomputable def Gl (goal:Nat)(Hf:Nat->Nat->Int):V->V
 | .tup [.int j,.int k,.int _]=>.str (aQ (Hf goal (4+2*j.toNat+k.toNat)))
 | x=>x
noncomputable def BA (b:Bool):List V:=bif b then [V.str (Ve "1")] else []
end
namespace iP
noncomputable def aq (i:Nat)(nums:List Nat)(n goal hk rk:Nat)(h:List (Nat×MO))(rd:List V)(f:Nat->Int)(rows:List Row)(Hm:Nat->Nat->Int)(rv us:List V)(a:V)(C:Cx)(T:Th)(A:cN)(d:Nat)(X:XK)(kb:Nat)(Q:Fl->St->Prop):Prop:=∀ (O:On C T (d+1) (aO (aJ 26)).names) (H:Fx T A) {target:Expr}{body:List Stmt} (hw:yy (bodyOf (aJ 26)) 6=(target,body)) (hl:nums.length<=6) (hg:goal<3) (hi:i<nums.length) (hni:nums[i]?=some n) (kh:J h hk=some (.lst (dh (4+2*nums.length) Hm))) (kr:J h rk=some (.lst rd)) (hrd:rd.length=nums.length) (OW:bq rd i=some (.tup (a::us))) (Mu:us.length<=10) (hne:hk≠rk) (hb:∀ v c,v<3->c<4+2*nums.length->0<=Hm v c/\Hm v c<9973) (q:∀ h' ex,ai [rk] h h'->J h' rk=some (.lst (rd.set i (.tup ((a::us)++[.lst (BA ((((ah n:Nat):Int)==((goal:Nat):Int))&&!((nums.drop (i+1)).any λ m=>Vo (ah m) (ah n)))++([]++((cT (cG nums nums.length)).filter (wR nums i (ah n))).map (Gl goal Hm)))]))))->Q .next ⟨gk nums f goal hk rk rows rv++ex,h'⟩),ES C kb (execs body C.env) ⟨gk nums f goal hk rk rows rv++[((Ve "i"),V.int (i:Nat)),("v",V.int (ah n:Nat))],h⟩ Q X
noncomputable def S0:=O7 aq
noncomputable def ε:=eu (by walk_at "ne") S0
theorem here:S0 ε:=by
 intro O H target body hw hl hg hi hni kh kr hrd OW Mu hne hb q
 refine qP (λ e_ cg=>?_) hw;subst e_ cg
 conv=>arg 3;arg 1;whnf
 have hz:(cT (cG ε.2.1 ε.2.1.length)).length<=sizeLine:=by unfold cT;rw [Vl,ju];exact Vd (VP 2 hl) (by decide)
 have RN:(bk ε.2.1).length<=sizeLine:=by unfold bk;rw [Vl];exact Vd hl (by decide)
 have gl:=gB ε.2.2.1
 (with_reducible refine' ES.cons ?_)
 repeat walk_at "py"
 show LW _ _ _ _ _ _ _ [("goal",.int (ε.2.2.2.1:Nat)),("goals",.lst (bk ε.2.1)),("held",.loc ε.2.2.2.2.1),("i",.int (ε.1:Nat)),("v",.int (ah ε.2.2.1:Nat))] _ _ _ _ _
 refine LW.pure O (wR ε.2.1 ε.1 (ah ε.2.2.1)) (Gl ε.2.2.2.1 ε.2.2.2.2.2.2.2.2.2.2.1) ⟨_,rfl⟩ (λ v hv=>?_) ?_
 ·apply iu (h:=hv);intro ef hp;obtain ⟨j,k,u⟩:=ef
  refine fJ (λ p1 p2 p3=>?_) (mG hp)
  intro C3 O3
  repeat walk_at "py"
  have hsv:gf [((Ve "goal"),V.int (ε.2.2.2.1:Nat)),("goals",V.lst (bk ε.2.1)),("held",V.loc ε.2.2.2.2.1),("i",V.int (ε.1:Nat)),("v",V.int (ah ε.2.2.1:Nat))]
    ([((Ve "goal"),V.int (ε.2.2.2.1:Nat)),("goals",V.lst (bk ε.2.1)),("held",V.loc ε.2.2.2.2.1),("i",V.int (ε.1:Nat)),("v",V.int (ah ε.2.2.1:Nat))]++[((Ve "j"),V.int (j:Nat)),("k",V.int (k:Nat)),("u",V.int (u:Nat))]):=aW _ _
  cases e1:(((u:Nat):Int)==((ah ε.2.2.1:Nat):Int)) with
  | false=>
   have Dh:wR ε.2.1 ε.1 (ah ε.2.2.1) (V.tup [.int (j:Nat),.int (k:Nat),.int (u:Nat)])=false:=by
    show (_&&_)=false
    rw [e1];rfl
   exact ⟨nofun,λ _=>⟨nofun,λ _=>⟨Dh.symm,nofun,λ _=>⟨hsv,rfl⟩⟩⟩⟩
  | true=>
   refine ⟨λ _=>?_,nofun⟩
   repeat walk_at "py"
   cases e2:decide (((j:Nat):Int)>((ε.1:Nat):Int)) with
   | false=>
    have Dh:wR ε.2.1 ε.1 (ah ε.2.2.1) (V.tup [.int (j:Nat),.int (k:Nat),.int (u:Nat)])=false:=by
     show (_&&(_&&_))=false
     rw [e1,e2];rfl
    exact ⟨nofun,λ _=>⟨nofun,λ _=>⟨Dh.symm,nofun,λ _=>⟨hsv,rfl⟩⟩⟩⟩
   | true=>
    refine ⟨λ _=>?_,nofun⟩
    repeat walk_at "py"
    rw [Dg hl hi (Vv p1)]
    refine aI (λ pr hc Ly=>?_) (iO (st:=⟨[((Ve "goal"),V.int (ε.2.2.2.1:Nat)),("goals",V.lst (bk ε.2.1)),("held",V.loc ε.2.2.2.2.1),("i",V.int (ε.1:Nat)),("v",V.int (ah ε.2.2.1:Nat))]++[((Ve "j"),V.int (j:Nat)),("k",V.int (k:Nat)),("u",V.int (u:Nat))],ε.2.2.2.2.2.2.1⟩) (v:=ah ε.2.2.1) (ns:=(ε.2.1.drop (ε.1+1)).take (j-(ε.1+1))))
    refine ⟨pr,_,hc,Ly,λ _=>?_,λ q=>absurd (show (true=false) from q) (by decide)⟩
    have Dh:wR ε.2.1 ε.1 (ah ε.2.2.1) (V.tup [.int (j:Nat),.int (k:Nat),.int (u:Nat)]) = !(((ε.2.1.drop (ε.1+1)).take (j-(ε.1+1))).any λ m=>Vo (ah m) (ah ε.2.2.1)):=by
     show (_&&(_&&_))=_
     rw [e1,e2];rfl
    refine ⟨λ q=>?_,λ q=>?_⟩
    ·repeat walk_at "py"
     have hm2:(2:Int).natAbs<2^62\/((j:Nat):Int).natAbs<2^62:=.inl (by decide)
     refine ⟨(Dh.trans q).symm,λ _=>?_,nofun⟩
     repeat walk_at "py"
     refine aC _ (bN kh (lz hg) (VS (Vv (VJ hg (by decide))))) ?_
     repeat walk_at "py"
     have hc4:4+2*j+k<4+2*ε.2.1.length:=mF p1 p2
     refine aC _ (dX (i:=4+2*j+k) (cS hc4) (Vd (Vv hc4) (Vd (Vq (VP 2 hl) 4) (by decide)))) ?_
     repeat walk_at "py"
     refine CJ.str_int (log2_small (hb _ _ hg hc4)) ?_
     repeat walk_at "py"
     exact ⟨rfl,rfl⟩
    ·exact ⟨nofun,λ _=>⟨(Dh.trans q).symm,nofun,λ _=>⟨hsv,rfl⟩⟩⟩
 repeat walk_at "py"
 generalize hS:[]++((cT (cG ε.2.1 ε.2.1.length)).filter (wR ε.2.1 ε.1 (ah ε.2.2.1))).map (Gl ε.2.2.2.1 ε.2.2.2.2.2.2.2.2.2.2.1)=S at q ⊢
 have PK:S.length<=100:=by
  rw [<-hS,Vz,Vl]
  refine Vd (WD ..) ?_
  unfold cT;rw [Vl,ju];exact Vd (VP 2 hl) (by decide)
 refine ES.cut (st':=⟨gk ε.2.1 ε.2.2.2.2.2.2.2.2.1 ε.2.2.2.1 ε.2.2.2.2.1 ε.2.2.2.2.2.1 ε.2.2.2.2.2.2.2.2.2.1 ε.2.2.2.2.2.2.2.2.2.2.2.1++[((Ve "i"),V.int (ε.1:Nat)),("v",V.int (ah ε.2.2.1:Nat)),("shares",V.lst S)],ε.2.2.2.2.2.2.1⟩) (by rfl) ?_
 (with_reducible refine' ES.cons ?_)
 walk_at "py"
 refine EV.Ip ?_
 repeat walk_at "py"
 refine aC _ (bN kr OW (VS (Vd (Vv hi) (Vd hl (by decide))))) ?_
 repeat walk_at "py"
 walk_at "frz"
 have P8:∀ m,m<=1->m+S.length<=sizeLine:=λ m hm=>Vd (V9 hm PK) (by decide)
 have gp:ai [ε.2.2.2.2.2.1] ε.2.2.2.2.2.2.1 (af ε.2.2.2.2.2.2.1 ε.2.2.2.2.2.1 (.lst (ε.2.2.2.2.2.2.2.1.set ε.1 (.tup ((ε.2.2.2.2.2.2.2.2.2.2.2.2.2.1::ε.2.2.2.2.2.2.2.2.2.2.2.2.1)++[.lst (BA ((((ah ε.2.2.1:Nat):Int)==((ε.2.2.2.1:Nat):Int))&&!((ε.2.1.drop (ε.1+1)).any λ m=>Vo (ah m) (ah ε.2.2.1)))++S)]))))):=ai.refl.put (Vi.mpr rfl)
 have fin:=q _ [((Ve "i"),V.int (ε.1:Nat)),("v",V.int (ah ε.2.2.1:Nat)),("shares",V.lst S)] gp aj
 cases e1:(((ah ε.2.2.1:Nat):Int)==((ε.2.2.2.1:Nat):Int)) with
 | false=>
  rw [e1] at fin
  refine ⟨nofun,λ _=>?_⟩
  repeat walk_at "py"
  refine CJ.int_bool ?_
  refine ay _ _ rfl (bY (by decide) (by decide) (by decide)) ?_
  repeat walk_at "py"
  refine ⟨P8 0 (by decide),?_⟩
  repeat walk_at "py"
  refine d7 _ _ _ _ (dG rfl rfl (Vd (VN Mu 2) (by decide)) ?_)
  repeat (first | (with_reducible refine' AS.cZ ?_) | walk_at "py")
  refine cu ε.2.2.2.2.2.1 ε.2.2.2.2.2.2.2.1 ε.1 rfl (cO rfl kr (WA hi hrd.symm) (Vx hi (Vd hl (by decide))) ?_)
  repeat walk_at "py"
  exact fin
 | true=>
  refine ⟨λ _=>?_,nofun⟩
  repeat walk_at "py"
  rw [Al hl hi]
  refine aI (λ pr hc Ly=>?_) (iO (st:=⟨gk ε.2.1 ε.2.2.2.2.2.2.2.2.1 ε.2.2.2.1 ε.2.2.2.2.1 ε.2.2.2.2.2.1 ε.2.2.2.2.2.2.2.2.2.1 ε.2.2.2.2.2.2.2.2.2.2.2.1++[((Ve "i"),V.int (ε.1:Nat)),("v",V.int (ah ε.2.2.1:Nat)),("shares",V.lst S)],ε.2.2.2.2.2.2.1⟩) (v:=ah ε.2.2.1) (ns:=ε.2.1.drop (ε.1+1)))
  refine ay pr _ hc Ly ?_
  rw [e1] at fin
  generalize ((ε.2.1.drop (ε.1+1)).any λ m=>Vo (ah m) (ah ε.2.2.1))=b at *
  induction b
  all_goals
   repeat walk_at "py"
   refine CJ.int_bool ?_
   refine ay _ _ rfl (bY (by decide) (by decide) (by decide)) ?_
   repeat walk_at "py"
   first | refine ⟨P8 0 (by decide),?_⟩ | refine ⟨P8 1 (by decide),?_⟩
   repeat walk_at "py"
   refine d7 _ _ _ _ (dG rfl rfl (Vd (VN Mu 2) (by decide)) ?_)
   repeat (first | (with_reducible refine' AS.cZ ?_) | walk_at "py")
   refine cu ε.2.2.2.2.2.1 ε.2.2.2.2.2.2.2.1 ε.1 rfl (cO rfl kr (WA hi hrd.symm) (Vx hi (Vd hl (by decide))) ?_)
   repeat walk_at "py"
   exact fin
end iP
theorem Di {C T A d X kb f nums goal hk rk i n rows Hm rd rv us a h Q}:iP.aq i nums n goal hk rk h rd f rows Hm rv us a C T A d X kb Q:=nR (S:=iP.S0) iP.here (i,nums,n,goal,hk,rk,h,rd,f,rows,Hm,rv,us,a,C,T,A,d,X,kb,Q)
section
variable {C:Cx}{T:Th}{A:cN}{d:Nat}{N:List (Str×Vn)}{st:St}{X:XK}{kb:Nat}
noncomputable def P9 (nums:List Nat)(goal:Nat)(Hf:Nat->Nat->Int)(i n:Nat):V:=
 .lst (BA ((((ah n:Nat):Int)==((goal:Nat):Int))&&!((nums.drop (i+1)).any λ m=>Vo (ah m) (ah n)))++([]++((cT (cG nums nums.length)).filter (wR nums i (ah n))).map (Gl goal Hf)))
noncomputable def yM (nums:List Nat)(goal:Nat)(Hf:Nat->Nat->Int)(us:Nat->List V)(i:Nat):V:=.tup (us i++[P9 nums goal Hf i (nums[i]?.getD 0)])
noncomputable def mV (nums:List Nat)(goal:Nat)(Hf:Nat->Nat->Int)(us:Nat->List V)(m:Nat):List V:=(VV 0 m).map (yM nums goal Hf us)
noncomputable def eU (nums:List Nat)(goal:Nat)(Hf:Nat->Nat->Int):List V:=[]++((cT (cG nums nums.length)).filter (Oa nums)).map (row2 nums goal Hf)
noncomputable def yN (nums:List Nat)(goal:Nat):List V:=bif nums.any λ m=>Vo (ah m) goal then [] else [V.tup [.str (bW goal false),.str (Ve "1")]]
noncomputable def Gm (nums:List Nat)(goal:Nat)(Hf:Nat->Nat->Int)(us:Nat->List V):V:=
 .tup [.lst (mV nums goal Hf us nums.length).reverse,.lst (yN nums goal++eU nums goal Hf),.lst [.int (Hf goal 1),.int (Hf goal 2),.int (Hf goal 3)]]
noncomputable def Gn (i:Nat)(l:List V):List V:=(l.zipIdx i).map λ p=>.tup [.int (p.2:Nat),p.1]
theorem oZ {α:Type}{kb:Nat}{g:α->Int}:∀ {l:List α},rU kb (l.map λ a=>V.int (g a))
 | []=>trivial
 | _::_=>⟨trivial,oZ⟩
theorem Gp {α:Type}{l:List α}(h:l.length<=6):pick l none none (some (-1))=l.reverse:=by
 match l,h with
 | [],_=>kernel_rfl
 | [a],_=>kernel_rfl
 | [a,b],_=>kernel_rfl
 | [a,b,c],_=>kernel_rfl
 | [a,b,c,d],_=>kernel_rfl
 | [a,b,c,d,e],_=>kernel_rfl
 | [a,b,c,d,e,f],_=>kernel_rfl
 | _::_::_::_::_::_::_::_,h=>exact absurd h (by simp)
theorem Gq {L:Nat}{g:Nat->Int}(hL:L<=6):pick (aR (4+2*L) g) (some 1) (some 4) none=[V.int (g 1),V.int (g 2),V.int (g 3)]:=by
 rw [show (some (1:Int))=some ((1:Nat):Int) from rfl,show (some (4:Int))=some ((4:Nat):Int) from rfl,yL (by rw [cR];exact VB (Vq (VP 2 hL) 4) (by decide)) (by rw [cR];exact Vd (by decide) (Vw 4 _)) (by rw [cR];exact Vw 4 _)]
 unfold aR
 rw [show 4+2*L=2*L+1+1+1+1 from WG 4 (2*L),WO,WO,WO,WO]
 rfl
noncomputable def Lz (nums:List Nat)(f:Nat->Int)(goal hk rk:Nat)(rows:List Row)(rv:List V)(h:List (Nat×MO))(Hf:Nat->Nat->Int)(us:Nat->List V)(rd xs:List V)(s:St):Prop:=
 ∃ pre rest,nums=pre++rest/\xs=Gn pre.length (bk rest)/\gf (gk nums f goal hk rk rows rv) s.vars/\ai [rk] h s.heap/\J s.heap rk=some (.lst (mV nums goal Hf us pre.length++rd.drop pre.length))
theorem Ja {nums:List Nat}{goal m:Nat}{Hf:Nat->Nat->Int}{us:Nat->List V}{rd:List V}(hm:m<rd.length):(mV nums goal Hf us m++rd.drop m).set m (yM nums goal Hf us m)=mV nums goal Hf us (m+1)++rd.drop (m+1):=by
 have hl:(mV nums goal Hf us m).length=m:=by unfold mV;rw [Vl,V4]
 rw [List.set_append_right _ _ (VK hl),hl,Yz,List.drop_eq_getElem_cons hm]
 show _++(_::_)=_
 unfold mV
 rw [List.range'_1_concat,VI,Vs,Ws];rfl
end
namespace jV
noncomputable def aq (nums:List Nat)(goal:Nat)(Hm:Nat->Nat->Int)(hk:Nat)(f:Nat->Int)(rk:Nat)(rows:List Row)(h:List (Nat×MO))(rd:List V)(kb:Nat)(C:Cx)(T:Th)(A:cN)(d:Nat)(X:XK)(Q:Fl->St->Prop):Prop:=∀ (O:On C T (d+1) (aO (aJ 26)).names) (Tp:C.Top) (H:Fx T A) {stmts:List Stmt} (hw:(bodyOf (aJ 26)).drop 4=stmts) (hl:nums.length<=6) (hg:goal<3) (kh:J h hk=some (.lst (dh (4+2*nums.length) Hm))) (kr:J h rk=some (.lst rd)) (hrd:rd.length=nums.length) (hne:hk≠rk) (hb:∀ v c,v<3->c<4+2*nums.length->0<=Hm v c/\Hm v c<9973) {us:Nat->List V} (Mu:∀ i,i<nums.length->bq rd i=some (.tup (us i))/\0<(us i).length/\(us i).length<=11) (q:∀ s,ai [rk] h s.heap->Q (.ret (Gm nums goal Hm us)) s),ES C kb (execs stmts C.env) ⟨dZ nums f goal hk rk rows,h⟩ Q X
noncomputable def S0:=Qx aq
noncomputable def ε:=eu (by walk_at "ne") S0
theorem here:S0 ε:=by
 intro O Tp H stmts hw hl hg kh kr hrd hne hb us Mu q
 subst hw
 have key:=@Aj
 conv=>arg 3;arg 1;whnf
 (with_reducible refine' ES.cons ?_)
 refine O.jH (tg:=uv) (Mr:=uv) false rfl rfl rfl trivial trivial rfl (iB.ev ?_)
 repeat walk_at "py"
 refine CJ.len_list (l:=cQ ε.1) rfl (VB (by rw [gG];exact hl) (by decide)) ?_
 repeat walk_at "py"
 rw [gG]
 have rn:=NV (n:=ε.1.length) (VB hl (by decide))
 have hI:∀ s:St,itemsOf s (V.qQ ((ε.1.length:Nat)-1) (-1) (-1))=some (VO ((ε.1.length:Nat)-1) (-1) (-1)=true,qt ε.1.length):=λ s=>congrArg (λ l=>some (VO ((ε.1.length:Nat)-1) (-1) (-1)=true,l)) rn.2.1
 refine CJ.EC (by decide) rn.2.2 (ay _ _ (hI _) rn.1 ?_)
 refine key O H hl rfl ⟨_,hI _⟩ ε.1.length [] (VD _) (by rw [du,Ws];exact Vd (VP 2 hl) (by decide)) ?_
 repeat walk_at "py"
 (with_reducible refine' ES.cons ?_)
 repeat walk_at "py"
 rw [Vz]
 have hz:(cT (cG ε.1 ε.1.length)).length<=sizeLine:=by unfold cT;rw [Vl,ju];exact Vd (VP 2 hl) (by decide)
 refine ⟨hz,?_⟩
 show LW _ _ _ _ _ _ _ [("goal",.int (ε.2.1:Nat)),("goals",.lst (bk ε.1)),("held",.loc ε.2.2.2.1)] _ _ _ _ _
 refine LW.pure O (Oa ε.1) (row2 ε.1 ε.2.1 ε.2.2.1) ⟨_,rfl⟩ (λ v hv=>?_) ?_
 ·apply iu (h:=hv);intro ef hp;obtain ⟨j,k,u⟩:=ef
  refine fJ (λ p1 p2 p3=>?_) (mG hp)
  have RN:(bk ε.1).length<=sizeLine:=by unfold bk;rw [Vl];exact Vd hl (by decide)
  intro C3 O3
  repeat walk_at "py"
  rw [Ak]
  refine aI (λ pr hc Ly=>?_) (iO (st:=⟨[("goal",.int (ε.2.1:Nat)),("goals",.lst (bk ε.1)),("held",.loc ε.2.2.2.1),("j",.int (j:Nat)),("k",.int (k:Nat)),("v",.int (u:Nat))],ε.2.2.2.2.2.2.2.1⟩) (v:=u) (ns:=ε.1.take j))
  refine ay pr _ hc Ly ?_
  refine ⟨λ q=>⟨kx q,λ _=>?_,nofun⟩,λ q=>⟨kx q,nofun,λ _=>⟨aW _ [("j",.int (j:Nat)),("k",.int (k:Nat)),("v",.int (u:Nat))],rfl⟩⟩⟩
  have hm1:(3:Int).natAbs<2^62\/((k:Nat):Int).natAbs<2^62:=.inl (by decide)
  have hm2:(2:Int).natAbs<2^62\/((j:Nat):Int).natAbs<2^62:=.inl (by decide)
  repeat walk_at "py"
  refine aC _ (dK (i:=3*k+u) (Df p2 p3) (Vd (V9 (VP 3 (Vv p2)) (Vv p3)) (by decide))) ?_
  repeat walk_at "py"
  refine aC _ (bN kh (lz hg) (VS (Vv (VJ hg (by decide))))) ?_
  repeat walk_at "py"
  have hc4:4+2*j+k<4+2*ε.1.length:=mF p1 p2
  refine aC _ (dX (i:=4+2*j+k) (cS hc4) (Vd (Vv hc4) (Vd (Vq (VP 2 hl) 4) (by decide)))) ?_
  repeat walk_at "py"
  refine CJ.str_int (log2_small (hb _ _ hg hc4)) ?_
  repeat walk_at "py"
  exact bY (aW _ [("j",.int (j:Nat)),("k",.int (k:Nat)),("v",.int (u:Nat))]) rfl rfl
 repeat walk_at "py"
 have Jb:=@Di
 refine ES.cut (st':=⟨gk ε.1 ε.2.2.2.2.1 ε.2.1 ε.2.2.2.1 ε.2.2.2.2.2.1 ε.2.2.2.2.2.2.1 (eU ε.1 ε.2.1 ε.2.2.1),ε.2.2.2.2.2.2.2.1⟩) (by rfl) ?_
 have RN:(bk ε.1).length<=sizeLine:=by unfold bk;rw [Vl];exact Vd hl (by decide)
 (with_reducible refine' ES.cons ?_)
 refine O.wA (tg:=rZ) Tp rfl ⟨_,_,_,rfl⟩ ?_
 refine O.enum (by walk_at "nm") rfl rfl ?_
 repeat walk_at "py"
 refine fu ε.2.2.2.2.2.2.2.2.2.1 (VD _) ⟨oZ,trivial⟩ ?_
 refine jl.ind (I:=Lz ε.1 ε.2.2.2.2.1 ε.2.1 ε.2.2.2.1 ε.2.2.2.2.2.1 ε.2.2.2.2.2.2.1 (eU ε.1 ε.2.1 ε.2.2.1) ε.2.2.2.2.2.2.2.1 ε.2.2.1 us ε.2.2.2.2.2.2.2.2.1) ?_ ?_ _ _ ⟨[],ε.1,rfl,rfl,λ _ _ e=>e,ai.refl,kr⟩
 ·intro s;refine ak λ pre rest uD hxs=>fJ λ hsv g OX=>?_
  refine ⟨rfl,ES.drop hsv ?_⟩
  obtain rfl:rest=[]:=by
   induction rest using VY with
   | nil=>rfl
   | cons n l=>exact nomatch hxs
  rw [VT] at uD
  subst uD
  rw [Zl (VK hrd),VT] at OX
  have T8:=g.at kh (bf hne)
  have T9:(mV ε.1 ε.2.1 ε.2.2.1 us ε.1.length).length<=sizeLine:=by unfold mV;rw [Vl,V4];exact Vd hl (by decide)
  have Uc:(mV ε.1 ε.2.1 ε.2.2.1 us ε.1.length).length<=6:=by unfold mV;rw [Vl,V4];exact hl
  walk_at "st"
  refine ay _ _ (congrArg (XE λ l=>(some (-1:Int)≠some 0/\l.length<=sizeLine,V.lst (pick l none none (some (-1))))) (aT OX)) ⟨by decide,T9⟩ ?_
  rw [Gp Uc]
  repeat walk_at "py"
  walk_at "frz"
  refine aC _ (dK (vm hg) (Vv (VJ hg (by decide)))) ?_
  repeat walk_at "py"
  have RO:∀ m,m<=1->m+(eU ε.1 ε.2.1 ε.2.2.1).length<=sizeLine:=λ m hm=>by
   have:(eU ε.1 ε.2.1 ε.2.2.1).length<=50:=by
    unfold eU
    rw [Vz,Vl]
    refine Vd (WD ..) ?_
    unfold cT;rw [Vl,ju]
    exact Vd (VP 2 hl) (by decide)
   exact Vd (V9 hm this) (by decide)
  have hcl:(aR (4+2*ε.1.length) (ε.2.2.1 ε.2.1)).length<=sizeLine:=by rw [cR];exact Vd (Vq (VP 2 hl) 4) (by decide)
  have fin:=q ⟨gk ε.1 ε.2.2.2.2.1 ε.2.1 ε.2.2.2.1 ε.2.2.2.2.2.1 ε.2.2.2.2.2.2.1 (eU ε.1 ε.2.1 ε.2.2.1),s.heap⟩ g
  unfold Gm yN at fin
  clear key Jb
  refine aI (λ pr hc Ly=>?_) (iO (st:=⟨gk ε.1 ε.2.2.2.2.1 ε.2.1 ε.2.2.2.1 ε.2.2.2.2.2.1 ε.2.2.2.2.2.2.1 (eU ε.1 ε.2.1 ε.2.2.1),s.heap⟩) (v:=ε.2.1) (ns:=ε.1))
  refine ay pr _ hc Ly ?_
  generalize (ε.1.any λ n=>Vo (ah n) ε.2.1)=b at *
  induction b
  all_goals
   repeat walk_at "py"
   refine CJ.int_bool ?_
   refine ay _ _ rfl (bY (by decide) (by decide) (by show 1*_<=_;decide)) ?_
   repeat walk_at "py"
   first | refine ⟨RO 0 (by decide),?_⟩ | refine ⟨RO 1 (by decide),?_⟩
   repeat walk_at "py"
   refine aC _ (bN T8 (lz hg) (VS (Vv (VJ hg (by decide))))) ?_
   repeat walk_at "py"
   rw [Gq hl]
   exact fin
 ·intro v xs s;refine ak λ pre rest uD hxs=>fJ λ hsv g OX=>?_
  refine ⟨rfl,λ C2 O2 T2=>AS.drop hsv ?_⟩
  obtain ⟨n,rest,rfl⟩:∃ n l,rest=n::l:=by
   induction rest using VY with
   | nil=>exact nomatch hxs
   | cons n l=>exact rD _ _ rfl
  refine qA (λ e_ cg=>?_) (Wu hxs);subst e_ cg
  have hlen:ε.1.length=pre.length+(rest.length+1):=by rw [uD,Vk];rfl
  have hlt:pre.length<ε.1.length:=by rw [hlen];exact Nat.lt_add_of_pos_right (Zk _)
  have hni:ε.1[pre.length]?=some n:=by rw [uD,WV (VD _),Yz];rfl
  refine fJ (λ u1 u2 u3=>?_) (Mu pre.length hlt)
  obtain ⟨a,ul,Qa⟩:∃ a ul,us pre.length=a::ul:=by
   cases e:us pre.length with
   | nil=>rw [e] at u2;exact absurd u2 (by decide)
   | cons a ul=>exact rD a ul rfl
  have M7:(mV ε.1 ε.2.1 ε.2.2.1 us pre.length).length=pre.length:=by unfold mV;rw [Vl,V4]
  have hget:bq (mV ε.1 ε.2.1 ε.2.2.1 us pre.length++ε.2.2.2.2.2.2.2.2.1.drop pre.length) pre.length=some (.tup (a::ul)):=by
   rw [bI,WV (VK M7),M7,Yz,ab,Nat.add_zero,<-Qa]
   exact u1
  walk_at "py"
  repeat walk_at "py"
  refine Jb O2 H rfl hl hg hlt hni (g.at kh (bf hne)) OX (by rw [Vk,M7,ZC,hrd];exact Nat.add_sub_cancel' (Vv hlt)) hget (by rw [Qa] at u3;exact Nat.le_of_succ_le_succ u3) hne hb λ h3 ex g3 b1=>?_
  refine ⟨pre++[n],rest,by rw [uD,Vs];rfl,by rw [Vk];rfl,aW _ _,g.trans g3,?_⟩
  rw [Vk,YI,<-Ja (by rw [hrd];exact hlt),b1]
  unfold yM P9
  rw [hni,Qa];rfl
end jV
theorem Gr {C T A d X kb f nums goal hk rk rows Hm rd h Q}:jV.aq nums goal Hm hk f rk rows h rd kb C T A d X Q:=nR (S:=jV.S0) jV.here (nums,goal,Hm,hk,f,rk,rows,h,rd,kb,C,T,A,d,X,Q)
end
section
theorem vo {g u:Nat}{x:Int}:∀ {rows:List Row},jn (cK rows g++[⟨g,false,x⟩]) u=if u=g then some x else jn rows u
 | []=>by
  show (bif Vo g u then some x else none)=_
  by_cases e:u=g
  ·rw [if_pos e,e,WL];rfl
  ·rw [if_neg e]
   cases z:Vo g u with
   | false=>rfl
   | true=>exact absurd (VE z).symm e
 | r::rows=>by
  have ih:=vo (g:=g) (u:=u) (x:=x) (rows:=rows)
  unfold cK at ih ⊢
  rw [WJ]
  cases z:Vo r.v g with
  | true=>
   rw [if_neg (by decide),ih]
   by_cases e:u=g
   ·rw [if_pos e,if_pos e]
   ·rw [if_neg e,if_neg e]
    show _=bif Vo r.v u then some r.n else jn rows u
    cases z2:Vo r.v u with
    | false=>rfl
    | true=>exact absurd ((VE z2).symm.trans (VE z)) e
  | false=>
   rw [if_pos (by rfl)]
   show (bif Vo r.v u then some r.n else jn (_++_) u)=_
   rw [ih]
   by_cases e:u=g
   ·rw [if_pos e,if_pos e,e,z];rfl
   ·rw [if_neg e,if_neg e];rfl
theorem Am {f:Nat->Int}{rows:List Row}{n u:Nat}:worth (bh f rows n) f u=if u=ah n then yC rows f n else worth rows f u:=by
 unfold worth bh
 rw [vo]
 by_cases e:u=ah n
 ·rw [if_pos e,if_pos e];rfl
 ·rw [if_neg e,if_neg e]
theorem jv {f:Nat->Int}{rows:List Row}{n i K:Nat}{Hm:Nat->Nat->Int}(hb:∀ v c,v<3->c<K->0<=Hm v c/\Hm v c<9973):∀ v c,v<3->c<K->0<=cL f rows n i Hm v c/\cL f rows n i Hm v c<9973:=λ v c hv hc=>by
 unfold cL
 by_cases e:v=ah n
 ·rw [if_pos e]
  unfold upd
  by_cases z:c=0
  ·rw [if_pos z];exact cE _
  ·rw [if_neg z];exact cE _
 ·rw [if_neg e];exact hb v c hv hc
theorem Jc {f:Nat->Int}{rows:List Row}{n i:Nat}{Hm:Nat->Nat->Int}(hw:∀ v,v<3->Hm v 0=worth rows f v):∀ v,v<3->cL f rows n i Hm v 0=worth (bh f rows n) f v:=λ v hv=>by
 rw [Am]
 unfold cL
 by_cases e:v=ah n
 ·rw [if_pos e,if_pos e];unfold upd;rw [if_pos rfl]
 ·rw [if_neg e,if_neg e];exact hw v hv
noncomputable def jw (f:Nat->Int):Nat->List Row->(Nat->Nat->Int)->List Nat->Nat->Nat->Int
 | _,_,H,[]=>H
 | i,rows,H,n::ns=>jw f (i+1) (bh f rows n) (cL f rows n i H) ns
noncomputable def Jd (f:Nat->Int):List Row->List Nat->List V
 | _,[]=>[]
 | rows,n::ns=>qv rows f n::Jd f (bh f rows n) ns
theorem BB {f:Nat->Int}(hf:ck f){K:Nat}:∀ v c,v<3->c<K->0<=H0 f v c/\H0 f v c<9973:=λ v c hv hc=>by
 unfold H0
 by_cases e:c=0
 ·rw [if_pos e];exact hf v hv
 ·rw [if_neg e]
  split<;>exact ⟨by decide,by decide⟩
theorem Qc {f:Nat->Int}:∀ v,v<3->H0 f v 0=worth (aL f) f v:=λ v hv=>by
 match v,hv with
 | 0,_=>rfl
 | 1,_=>rfl
 | 2,_=>rfl
theorem o7 {f:Nat->Int}(hf:ck f):∀ r∈aL f,r.ok:=λ r hr=>by
 rcases Vm.mp hr with rfl | hr
 ·exact ⟨(by decide:0<3),hf 0 (by decide)⟩
 ·obtain rfl:=Vi.mp hr
  exact ⟨(by decide:1<3),hf 1 (by decide)⟩
theorem jx {f:Nat->Int}{rows:List Row}{a:List Nat}{n:Nat}:cU f rows (a++[n])=bh f (cU f rows a) n:=by
 unfold cU
 rw [List.foldl_append];rfl
theorem BC {f:Nat->Int}:∀ {nums:List Nat}{rows:List Row},(Jd f rows nums).length=nums.length
 | [],_=>rfl
 | n::ns,rows=>congrArg d6 (BC (nums:=ns))
theorem BD {f:Nat->Int}:∀ {nums:List Nat}{rows:List Row}{i:Nat},i<nums.length->∃ us:List V,(Jd f rows nums)[i]?=some (.tup us)/\us.length=4
 | [],_,_,h=>absurd h (Nat.not_lt_zero _)
 | n::ns,rows,0,h=>aC _ rfl rfl
 | n::ns,rows,i+1,h=>BD (nums:=ns) (i:=i) (Nat.lt_of_succ_lt_succ h)
noncomputable def D4 (f:Nat->Int)(nums:List Nat)(i:Nat):List V:=match (Jd f (aL f) nums)[i]? with
 | some (.tup us)=>us
 | _=>[]
theorem Je {f:Nat->Int}{nums:List Nat}{i:Nat}(h:i<nums.length):bq (Jd f (aL f) nums) i=some (.tup (D4 f nums i))/\0<(D4 f nums i).length/\(D4 f nums i).length<=11:=by
 refine aI (λ us e hl=>?_) (BD (f:=f) (rows:=aL f) h)
 have e2:D4 f nums i=us:=by unfold D4;rw [e]
 rw [e2,hl]
 exact bY e (by decide) (by decide)
noncomputable def Qd (nums:List Nat)(f:Nat->Int)(goal hk rk:Nat)(h:List (Nat×MO))(Hf:Nat->Nat->Int)(rv:List V)(s:St):Prop:=
 ∃ pre rest Hm rd,nums=pre++rest/\rv=Gn pre.length (cQ rest)/\gf (dZ nums f goal hk rk (cU f (aL f) pre)) s.vars/\ai [hk,rk] h s.heap/\J s.heap hk=some (.lst (dh (4+2*nums.length) Hm))/\J s.heap rk=some (.lst rd)/\
  jw f pre.length (cU f (aL f) pre) Hm rest=Hf/\rd++Jd f (cU f (aL f) pre) rest=Jd f (aL f) nums/\rd.length=pre.length/\(∀ v c,v<3->c<4+2*nums.length->0<=Hm v c/\Hm v c<9973)/\(∀ v,v<3->Hm v 0=worth (cU f (aL f) pre) f v)
namespace o8
noncomputable def aq (f:Nat->Int)(nums:List Nat)(st:St)(goal:Nat)(C:Cx)(T:Th)(A:cN)(d:Nat)(N:List (Str×Vn))(X:XK)(Q:QV):Prop:=∀ (O:On C T (d+2) N) (H:Fx T A) (hf:ck f) (hn:∀ n∈nums,n<648) (hl:nums.length<=6) (hg:goal<3) (h:∀ h',ai [] st.heap h'->Q (Gm nums goal (jw f 0 (aL f) (H0 f) nums) (D4 f nums)) ⟨st.vars,h'⟩),CU C A.Bh [.lst (cQ nums),.lst (gv f),.int (goal:Nat)] [] [] st Q X
noncomputable def S0:=Mf aq
noncomputable def ε:=eu (by walk_at "ne") S0
theorem here:S0 ε:=by
 intro O H hf hn hl hg h
 refine O.func (kj:=[]) H.Fq [("numbers",.lst (cQ ε.2.1)),("first",.lst (gv ε.1)),("goal",.int (ε.2.2.2.1:Nat))] (λ _ _=>.nil) rfl rfl ?_ rfl rfl (nR (ne:=neC) ?_)
 ·intro q pm cd doc ct
  exact Bc λ a b c=>rfl
 ·intro O' T'
  conv=>arg 3;arg 1;whnf
  (with_reducible refine' ES.cons ?_)
  (with_reducible refine' On.assignQ O' rfl rfl rfl ?_)
  refine O'.Dc rfl rfl ?_
  repeat walk_at "py"
  refine CJ.range (ay _ _ rfl (by decide +kernel) (⟨by decide +kernel,?_⟩))
  show LW _ _ _ _ _ _ _ [("first",.lst (gv ε.1)),("numbers",.lst (cQ ε.2.1))] _ _ _ _ _
  refine LW.pure O' (λ _=>true) (rowOf (4+2*ε.2.1.length) (H0 ε.1)) ⟨_,rfl⟩ (λ v hv=>?_) ?_
  ·obtain ⟨i,hi,rfl⟩:∃ i:Nat,i<3/\v=V.int (i:Nat):=by
    rcases Vm.mp hv with e | hv
    ·exact aC 0 (by decide) e
    rcases Vm.mp hv with e | hv
    ·exact aC 1 (by decide) e
    ·exact aC 2 (by decide) (Vi.mp hv)
   intro C2 O2
   repeat walk_at "py"
   walk_at "frz"
   refine aC _ (Dd hi) ?_
   repeat walk_at "py"
   have RP:=hf i hi
   refine CJ.lZ RP.1 (Yc RP.2 (by decide)) ?_
   have U3:(2:Int).natAbs<2^62\/((cQ ε.2.1).length:Int).natAbs<2^62:=.inl (by decide)
   repeat walk_at "py"
   refine CJ.len_list (l:=cQ ε.2.1) rfl (VB (by unfold cQ;rw [Vl];exact hl) (by decide)) ?_
   repeat walk_at "py"
   rw [show (3+2*((cQ ε.2.1).length:Int))=((3+2*ε.2.1.length:Nat):Int) from by rw [gG];rfl]
   have rn:=N4 (n:=3+2*ε.2.1.length) (VB (Vq (VP 2 hl) 3) (by decide))
   have hI:∀ s:St,itemsOf s (V.qQ 0 ((3+2*ε.2.1.length:Nat):Int) 1)=some (VO 0 ((3+2*ε.2.1.length:Nat):Int) 1=true,(VV 0 (3+2*ε.2.1.length)).map λ i=>V.int (i:Nat)):=λ s=>congrArg (λ l=>some (VO 0 ((3+2*ε.2.1.length:Nat):Int) 1=true,l)) rn.2
   refine CJ.range (ay _ _ (hI _) rn.1 (⟨by rw [Vl,V4];exact Vd (Vq (VP 2 hl) 3) (by decide),?_⟩))
   show LW _ _ _ _ _ _ _ [("v",.int (i:Nat))] _ _ _ _ _
   refine LW.pure O2 (λ _=>true) (RH i) ⟨_,hI _⟩ (λ v hv=>?_) ?_
   ·apply iu (h:=hv);intro k hk
    intro C3 O3
    repeat walk_at "py"
    refine CJ.int_bool ?_
    exact bY (eN rfl) rfl (congrArg V.int Lx)
   repeat walk_at "py"
   refine dG ?_ (aW _ [("v",.int (i:Nat))]) rfl (congrArg V.lst I7)
   rw [Vz,VU.mpr λ _ _=>rfl,Vl,Vl,V4]
   exact Vd (Vq (Vq (VP 2 hl) 3) 1) (by decide)
  have e1:[]++XS (rowOf (4+2*ε.2.1.length) (H0 ε.1)) (List.filter (λ x=>true) (dg 0 3 1))=dh (4+2*ε.2.1.length) (H0 ε.1):=rfl
  rw [e1]
  repeat walk_at "py"
  (with_reducible refine' ES.cons ?_)
  repeat walk_at "py"
  walk_at "own"
  refine ⟨by rw [gG];exact Vd hl (by decide),?_⟩
  show LW _ _ _ _ _ _ _ [] _ _ _ _ _
  refine LW.pure O' (λ _=>true) Ks ⟨_,rfl⟩ (λ v hv=>?_) ?_
  ·apply iu (h:=hv);intro k hk
   intro C3 O3
   repeat walk_at "py"
   exact bY (λ _ _ e=>aV e) rfl (congrArg V.int ((congrArg (ag · 3) (kZ k 3)).trans (fh _ 3)))
  have e2:[]++((cQ ε.2.1).filter λ _=>true).map Ks=bk ε.2.1:=by
   rw [Vz,VU.mpr λ _ _=>rfl]
   unfold cQ bk;rw [VF];rfl
  rw [e2]
  repeat walk_at "py"
  walk_at "st"
  walk_at "frz"
  have e3:V.lst [V.tup [.int 0,.tup [.str "FI",.str (aQ (ε.1 0))]],V.tup [.int 1,.tup [.str "st",.str (aQ (ε.1 1))]]]=.lst (i8 (aL ε.1)):=rfl
  refine ES.cut (st':=⟨dZ ε.2.1 ε.1 ε.2.2.2.1 (fresh ε.2.2.1.heap) (fresh (af ε.2.2.1.heap (fresh ε.2.2.1.heap) (.lst (dh (4+2*ε.2.1.length) (H0 ε.1))))) (aL ε.1),af (af ε.2.2.1.heap (fresh ε.2.2.1.heap) (.lst (dh (4+2*ε.2.1.length) (H0 ε.1)))) (fresh (af ε.2.2.1.heap (fresh ε.2.2.1.heap) (.lst (dh (4+2*ε.2.1.length) (H0 ε.1))))) (.lst [])⟩) (by rfl) ?_
  have f1:J ε.2.2.1.heap (fresh ε.2.2.1.heap)=none:=aA _
  have g1:ai [] ε.2.2.1.heap (af ε.2.2.1.heap (fresh ε.2.2.1.heap) (.lst (dh (4+2*ε.2.1.length) (H0 ε.1)))):=ai.refl.new f1
  have k1:J (af ε.2.2.1.heap (fresh ε.2.2.1.heap) (.lst (dh (4+2*ε.2.1.length) (H0 ε.1)))) (fresh ε.2.2.1.heap)=some (.lst (dh (4+2*ε.2.1.length) (H0 ε.1))):=aj
  generalize af ε.2.2.1.heap (fresh ε.2.2.1.heap) (.lst (dh (4+2*ε.2.1.length) (H0 ε.1)))=h1 at *
  generalize fresh ε.2.2.1.heap=hk at *
  have f2:J h1 (fresh h1)=none:=aA _
  have g2:ai [] h1 (af h1 (fresh h1) (.lst [])):=ai.refl.new f2
  have k2:J (af h1 (fresh h1) (.lst [])) (fresh h1)=some (.lst []):=aj
  have k3:=g2.at k1 Vr
  generalize af h1 (fresh h1) (.lst [])=h2 at *
  generalize fresh h1=rk at *
  have hne:hk≠rk:=aY k1 f2
  have f3:J ε.2.2.1.heap rk=none:=g1.gW f2
  have key:=@Gj
  have Jb:=@Gr
  (with_reducible refine' ES.cons ?_)
  refine O'.wA (tg:=rZ) T' rfl ⟨_,_,_,rfl⟩ ?_
  refine O'.enum (by walk_at "nm") rfl rfl ?_
  repeat walk_at "py"
  refine fu hk (VD _) ⟨oZ,trivial⟩ ?_
  refine jl.ind (I:=Qd ε.2.1 ε.1 ε.2.2.2.1 hk rk h2 (jw ε.1 0 (aL ε.1) (H0 ε.1) ε.2.1)) ?_ ?_ _ _ ⟨[],ε.2.1,H0 ε.1,[],rfl,rfl,λ _ _ e=>e,ai.refl,k3,k2,rfl,rfl,rfl,BB hf,Qc⟩
  ·intro s;refine bG λ pre rest Hm rd=>bB λ uD nX hsv g=>bB λ kh kr hH hrd=>fJ λ Qe hb hw=>?_
   refine ⟨rfl,ES.drop hsv ?_⟩
   obtain rfl:rest=[]:=by
    induction rest using VY with
    | nil=>rfl
    | cons n l=>exact nomatch nX
   rw [VT] at uD
   subst uD
   have Qf:rd=Jd ε.1 (aL ε.1) ε.2.1:=(VT rd).symm.trans hrd
   have Ud:Hm=jw ε.1 0 (aL ε.1) (H0 ε.1) ε.2.1:=hH
   subst Qf
   refine Jb O' T' H rfl hl hg kh kr BC hne hb (λ i hi=>Je hi) λ s2 g4=>?_
   repeat walk_at "py"
   rw [Ud]
   refine h _ ((((g1.trans g2).sub (ks':=[hk,rk]) λ k z=>nomatch z).trans (g.trans (g4.sub λ k z=>Vm.mpr (.inr z)))) |> λ gg=>ai.refl.keys gg λ k z=>?_)
   rcases Vm.mp z with rfl | z
   ·exact .inr f1
   ·exact .inr (Vi.mp z▸f3)
  ·intro v rv s;refine bG λ pre rest Hm rd=>bB λ uD nX hsv g=>bB λ kh kr hH hrd=>fJ λ Qe hb hw=>?_
   refine ⟨rfl,λ C2 O2 T2=>AS.drop hsv ?_⟩
   obtain ⟨n,rest,rfl⟩:∃ n l,rest=n::l:=by
    induction rest using VY with
    | nil=>exact nomatch nX
    | cons n l=>exact rD _ _ rfl
   refine qA (λ e_ cg=>?_) (Wu nX);subst e_ cg
   have hlen:ε.2.1.length=pre.length+(rest.length+1):=by rw [uD,Vk];rfl
   have rl:=oV (f:=ε.1) (ns:=pre) (rows:=aL ε.1)
   have U6:(aL ε.1).length=2:=rfl
   walk_at "py"
   repeat walk_at "py"
   have RQ:pre.length<=6:=Vd (Vd (Vw _ _) (VK hlen.symm)) hl
   refine key O2 H hf rfl hl (WA (Nat.lt_add_of_pos_right (Zk _)) hlen.symm) (hn n (by rw [uD];exact Wa.mpr (.inr (VC ..)))) (by rw [uD,WV (VD _),Yz];rfl) (tB (o7 hf)) (Vd rl (Vd (Vq RQ 2) (by decide))) kh kr (Vd (VK Qe) (Vd RQ (by decide))) hne hb hw λ h3 ex g3 b1 b2=>?_
   refine ⟨pre++[n],rest,_,_,by rw [uD,Vs];rfl,?_,?_,g.trans g3,b1,b2,?_,?_,?_,jv hb,?_⟩
   ·rw [Vk];rfl
   ·rw [jx];exact aW _ _
   ·rw [jx,Vk];exact hH
   ·rw [jx,Vs];exact hrd
   ·rw [Vk,Vk,Qe];rfl
   ·rw [jx];exact Jc hw
end o8
theorem LA {C T A d N st X f nums goal Q}:o8.aq f nums st goal C T A d N X Q:=nR (S:=o8.S0) o8.here (f,nums,st,goal,C,T,A,d,N,X,Q)
end
section
noncomputable def Cg (a b:Int):Prop:=∃ k,a=b+9973*k
theorem tM (x:Int):Cg (x.fmod 9973) x:=⟨-(x/9973),by
 rw [XQ _ (by decide),Int.emod_def,Int.sub_eq_add_neg,Int.mul_neg]⟩
theorem Cg.eq {a b:Int}(h:Cg a b)(ha:0<=a/\a<9973)(hb:0<=b/\b<9973):a=b:=by
 obtain ⟨k,e⟩:=h
 exact (Int.emod_eq_of_lt ha.1 ha.2).symm.trans ((congrArg (· % 9973) e).trans ((Int.add_mul_emod_self_left b 9973 k).trans (Int.emod_eq_of_lt hb.1 hb.2)))
theorem Cg.trans {a b c:Int}(h:Cg a b)(g:Cg b c):Cg a c:=by
 obtain ⟨k,rfl⟩:=h;obtain ⟨m,rfl⟩:=g
 exact ⟨m+k,by rw [eQ,Y3]⟩
theorem Cg.symm {a b:Int}(h:Cg a b):Cg b a:=by
 obtain ⟨k,rfl⟩:=h;exact ⟨-k,by rw [Int.mul_neg,Int.add_neg_cancel_right]⟩
theorem Gs {a b c d:Int}:(a+b)+(c+d)=(a+c)+(b+d):=by rw [Y3,Int.add_left_comm b,<-Y3]
theorem Cg.add {a b c d:Int}(h:Cg a b)(g:Cg c d):Cg (a+c) (b+d):=by
 obtain ⟨k,rfl⟩:=h;obtain ⟨m,rfl⟩:=g
 exact ⟨k+m,by rw [eQ];exact Gs⟩
theorem Cg.mul {a b:Int}(h:Cg a b)(c:Int):Cg (c*a) (c*b):=by
 obtain ⟨k,rfl⟩:=h
 exact ⟨c*k,by rw [eQ,Int.mul_left_comm]⟩
theorem Cg.mulR {a b:Int}(h:Cg a b)(c:Int):Cg (a*c) (b*c):=by
 rw [ip a,ip b];exact h.mul c
theorem Cg.rfl {a:Int}:Cg a a:=⟨0,by rw [Yh,Yv]⟩
noncomputable def dot (a h:Nat->Int):Int:=a 0*h 0+(a 1*h 1+a 2*h 2)
theorem BE {a b h:Nat->Int}:dot (λ v=>a v+b v) h=dot a h+dot b h:=by
 unfold dot;rw [j1,j1,j1,Gs (a:=a 1*h 1)];exact Gs
theorem wU {x:Nat}{t:Int}{h:Nat->Int}(hx:x<3):dot (λ v=>if v=x then t else 0) h=t*h x:=by
 unfold dot
 match x,hx with
 | 0,_=>show t*h 0+(0*h 1+0*h 2)=_;rw [XH,XH,Yv,Yv]
 | 1,_=>show 0*h 0+(t*h 1+0*h 2)=_;rw [XH,XH,Yv,Yd]
 | 2,_=>show 0*h 0+(0*h 1+t*h 2)=_;rw [XH,XH,Yd,Yd]
theorem wV {g:Nat}{r:Int}{a h:Nat->Int}(hg:g<3):dot a (λ v=>if v=g then r else h v)=dot (λ v=>if v=g then 0 else a v) h+a g*r:=by
 unfold dot
 match g,hg with
 | 0,_=>show a 0*r+(a 1*h 1+a 2*h 2)=0*h 0+(a 1*h 1+a 2*h 2)+_;rw [XH,Yd];exact io _ _
 | 1,_=>show a 0*h 0+(a 1*r+a 2*h 2)=a 0*h 0+(0*h 1+a 2*h 2)+_;rw [XH,Yd,Y3,io (a 2*h 2)]
 | 2,_=>show a 0*h 0+(a 1*h 1+a 2*r)=a 0*h 0+(a 1*h 1+0*h 2)+_;rw [XH,Yv,Y3]
theorem yO {l m:List Row}{v:Nat}:allR (l++m) v=allR l v++allR m v:=by
 unfold allR;rw [Xa,VI]
theorem yP {l m:List Row}{v:Nat}:gY (l++m) v=gY l v+gY m v:=by
 unfold gY;rw [yO,List.sum_append]
theorem tN {r:Row}{v:Nat}:gY [r] v=if v=r.v then r.n else 0:=by
 unfold gY allR
 rw [WJ]
 by_cases e:v=r.v
 ·rw [if_pos e,e,WL,if_pos rfl];exact Yv _
 ·rw [if_neg e,if_neg λ z=>e (VE z).symm];rfl
theorem Dj {l:List Row}{g v:Nat}:allR (cK l g) v=if v=g then [] else allR l v:=by
 unfold allR cK
 rw [am]
 by_cases e:v=g
 ·rw [if_pos e,e,Yx.mpr]
  ·rfl
  ·intro r _ q
   cases z:Vo r.v g<;>rw [z] at q<;>exact absurd q (by decide)
 ·rw [if_neg e]
  refine congrArg (XS _) (XD λ r _=>?_)
  cases z:Vo r.v v with
  | false=>rfl
  | true=>
   cases z2:Vo r.v g with
   | false=>rfl
   | true=>exact absurd ((VE z).symm.trans (VE z2)) e
theorem Dk {l:List Row}{g v:Nat}:gY (cK l g) v=if v=g then 0 else gY l v:=by
 unfold gY;rw [Dj]
 by_cases e:v=g
 ·rw [if_pos e,if_pos e];rfl
 ·rw [if_neg e,if_neg e]
theorem Dl {f:Nat->Int}{rows s:List Row}{n v:Nat}:gY (iM f rows s n) v=((if v=ah n then 0 else gY s v)+(if v=n/18%3 then yE f rows s n else 0))+(if v=n/108%3 then FW f rows s n else 0):=by
 unfold iM
 rw [yP,yP,Dk,tN,tN]
theorem Jf {n:Nat}{a b x y:Int}:oU n (a+b) (a-b) (a*y+x*b)=oU n 1 1 y*a+oU n 1 (-1) x*b:=by
 unfold oU
 split
 ·rw [ba,ba]
 ·rw [ba,Int.neg_mul,ba,Int.sub_eq_add_neg]
 ·rw [ip a]
theorem step_eq {f:Nat->Int}{rows:List Row}{n i c:Nat}{H:Nat->Nat->Int}(hc:c≠0):
  cL f rows n i H (ah n) c=(oU n 1 1 (worth rows f (n/108%3))*upd (H (n/18%3)) (4+2*i) 1 c+oU n 1 (-1) (worth rows f (n/18%3))*upd (H (n/108%3)) (5+2*i) 1 c).fmod 9973:=by
 unfold cL
 rw [if_pos rfl,<-Jf]
 exact if_neg hc
theorem qf {f:Nat->Int}{rows:List Row}{n i c:Nat}{H:Nat->Nat->Int}(hc:c≠0):
  Cg (cL f rows n i H (ah n) c) (oU n 1 1 (worth rows f (n/108%3))*upd (H (n/18%3)) (4+2*i) 1 c+oU n 1 (-1) (worth rows f (n/18%3))*upd (H (n/108%3)) (5+2*i) 1 c):=by
 rw [step_eq hc];exact tM _
theorem vp {f:Nat->Int}{rows:List Row}{n i:Nat}{H:Nat->Nat->Int}{c:Nat}:(λ v=>cL f rows n i H v c)=λ v=>if v=ah n then cL f rows n i H (ah n) c else H v c:=funext λ v=>by
 by_cases e:v=ah n
 ·rw [if_pos e,e]
 ·rw [if_neg e];unfold cL;rw [if_neg e]
noncomputable abbrev s0 (goal:Nat):List Row:=[⟨goal,false,1⟩]
theorem Qg {f:Nat->Int}{goal c:Nat}(hg:goal<3)(hc:c≠0):∀ {ns:List Nat}{rows:List Row}{i:Nat}{H:Nat->Nat->Int},c<4+2*i->
  Cg (jw f i rows H ns goal c) (dot (λ v=>gY (bS f rows (s0 goal) ns) v) λ v=>H v c)
 | [],rows,i,H,hi=>by
  rw [show (λ v=>gY (bS f rows (s0 goal) []) v)=λ v=>if v=goal then 1 else 0 from funext λ v=>tN,wU hg,ba]
  exact Cg.rfl
 | n::ns,rows,i,H,hi=>by
  refine (Qg (ns:=ns) hg hc (VJ hi (Xl (Nat.mul_lt_mul_of_pos_left (Wf i) (by decide)) 4))).trans ?_
  have hx:n/18%3<3:=Vy _ (by decide)
  have hy:n/108%3<3:=Vy _ (by decide)
  have e:(λ v=>gY (bS f rows (s0 goal) (n::ns)) v)=λ v=>((if v=ah n then 0 else gY (bS f (bh f rows n) (s0 goal) ns) v)+(if v=n/18%3 then yE f rows (bS f (bh f rows n) (s0 goal) ns) n else 0))+(if v=n/108%3 then FW f rows (bS f (bh f rows n) (s0 goal) ns) n else 0):=funext λ v=>Dl
  have d1:Cg (yE f rows (bS f (bh f rows n) (s0 goal) ns) n) _:=tM _
  have d2:Cg (FW f rows (bS f (bh f rows n) (s0 goal) ns) n) _:=tM _
  rw [e,vp,wV (gB n),BE,BE,wU hx,wU hy,Y3]
  refine Cg.rfl.add (((qf hc).mul _).trans (Cg.trans ?_ ((d1.mulR _).add (d2.mulR _)).symm))
  unfold upd
  rw [if_neg (WE hi),if_neg (WE (VJ hi (Nat.add_lt_add_right (by decide) _))),eQ,Int.mul_assoc,Int.mul_assoc]
  exact Cg.rfl
theorem wW {f:Nat->Int}{K:Nat}:∀ {ns:List Nat}{rows:List Row}{i:Nat}{H:Nat->Nat->Int},(∀ v c,v<3->c<K->0<=H v c/\H v c<9973)->∀ v c,v<3->c<K->0<=jw f i rows H ns v c/\jw f i rows H ns v c<9973
 | [],_,_,_,hb=>hb
 | n::ns,rows,i,H,hb=>wW (ns:=ns) (jv hb)
end
section
noncomputable def gZ:Nat->List Nat->List (Nat×Nat×Nat)
 | _,[]=>[]
 | i,n::ns=>gZ (i+1) ns++[(i,0,n/18%3),(i,1,n/108%3)]
noncomputable def An (i:Nat)(ns:List Nat)(p:Nat×Nat×Nat):Bool:=!((ns.take (p.1-i)).any λ n=>Vo (ah n) p.2.2)
noncomputable def Jg (goal:Nat)(Hf:Nat->Nat->Int)(p:Nat×Nat×Nat):Row:=⟨p.2.2,Vo p.2.1 1,Hf goal (4+2*p.1+p.2.1)⟩
noncomputable def uE (goal:Nat)(ns:List Nat):List Row:=bif ns.any λ m=>Vo (ah m) goal then [] else s0 goal
theorem qg:∀ {ns:List Nat}{i:Nat}{p:Nat×Nat×Nat},p∈gZ i ns->i<=p.1
 | [],_,_,h=>nomatch h
 | n::ns,i,p,h=>by
  rcases Wa.mp h with h | h
  ·exact Ye (qg h)
  ·rcases Vm.mp h with rfl | h
   ·exact VD _
   ·rw [Vi.mp h];exact VD i
theorem lC {nums:List Nat}:∀ {rest pre:List Nat},nums=pre++rest->cG nums nums.length=gZ pre.length rest++cG nums pre.length
 | [],pre,h=>by rw [h,VT];rfl
 | n::rest,pre,h=>by
  rw [lC (rest:=rest) (pre:=pre++[n]) (by rw [h,Vs];rfl),Vk]
  show _++([_,_]++_)=(_++_)++_
  rw [Vs]
  have e:nums[pre.length]?.getD 0=n:=by rw [h,WV (VD _),Yz];rfl
  rw [e];rfl
theorem Qh (i:Nat):4+2*i<4+2*(i+1):=mF (k:=0) (Wf i) (by decide)
theorem RS (i:Nat):5+2*i<4+2*(i+1):=VB (VK (Wh 4 1 (2*i))) (mF (k:=1) (Wf i) (by decide))
theorem yQ {f:Nat->Int}{rows:List Row}{n i c:Nat}{H:Nat->Nat->Int}(hz:∀ v c,v<3->4+2*i<=c->H v c=0)(hc:4+2*(i+1)<=c)(v:Nat)(hv:v<3):cL f rows n i H v c=0:=by
 have h1:c≠0:=Xu (Vx (by decide) (Vd (Vw 4 _) hc))
 have h2:c≠4+2*i:=Xu (Vx (Qh i) hc)
 have h3:c≠5+2*i:=Xu (Vx (RS i) hc)
 have h4:4+2*i<=c:=Vv (Vx (Qh i) hc)
 by_cases e:v=ah n
 ·rw [e,step_eq h1]
  unfold upd
  rw [if_neg h2,if_neg h3,hz _ _ (Vy _ (by decide)) h4,hz _ _ (Vy _ (by decide)) h4,Yh,Yh];rfl
 ·unfold cL
  rw [if_neg e,hz _ _ hv h4]
theorem BF {f:Nat->Int}{goal n i c K:Nat}{t:Int}{rows:List Row}{ns:List Nat}{H:Nat->Nat->Int}(hg:goal<3)(hz:∀ v c,v<3->4+2*i<=c->H v c=0)(hb:∀ v c,v<3->c<K->0<=H v c/\H v c<9973)(Ue:c<K)(h0:c≠0)(h1:4+2*i<=c)(h2:c<4+2*(i+1))
  (ht:Cg (cL f rows n i H (ah n) c) t):jw f (i+1) (bh f rows n) (cL f rows n i H) ns goal c=(gY (bS f (bh f rows n) (s0 goal) ns) (ah n)*t).fmod 9973:=by
 refine Cg.eq (((Qg (ns:=ns) hg h0 h2).trans ?_).trans (tM _).symm) (wW (jv hb) _ _ hg Ue) (cE _)
 rw [vp,wV (gB n)]
 have e:∀ a:Nat->Int,dot a (λ v=>H v c)=0:=λ a=>by
  show a 0*H 0 c+(a 1*H 1 c+a 2*H 2 c)=0
  rw [hz 0 _ (by decide) h1,hz 1 _ (by decide) h1,hz 2 _ (by decide) h1,Yh,Yh,Yh];rfl
 rw [e,Yd]
 exact ht.mul _
theorem Gu {f:Nat->Int}{goal n i K:Nat}{rows:List Row}{ns:List Nat}{H:Nat->Nat->Int}(hg:goal<3)(hz:∀ v c,v<3->4+2*i<=c->H v c=0)(hb:∀ v c,v<3->c<K->0<=H v c/\H v c<9973)(hK:4+2*(i+1)<=K):
  jw f i rows H (n::ns) goal (4+2*i)=yE f rows (bS f (bh f rows n) (s0 goal) ns) n/\jw f i rows H (n::ns) goal (5+2*i)=FW f rows (bS f (bh f rows n) (s0 goal) ns) n:=by
 have n1:(4:Nat)+2*i≠0:=Xu (Vx (by decide) (Vw 4 _))
 have n2:(5:Nat)+2*i≠0:=Xu (Vx (by decide) (Vw 5 _))
 have k1:=Qh i
 have k2:=RS i
 have n3:(4:Nat)+2*i≠5+2*i:=WE (Nat.add_lt_add_right (by decide) _)
 refine ⟨(BF hg hz hb (Vx k1 hK) n1 (VD _) k1 ((qf n1).trans ?_)).trans rfl,(BF hg hz hb (Vx k2 hK) n2 (VN (by decide) _) k2 ((qf n2).trans ?_)).trans rfl⟩
 ·unfold upd
  rw [if_pos rfl,if_neg n3,hz _ _ (Vy _ (by decide)) (VD _),Yh,ew,Yv]
  exact Cg.rfl
 ·unfold upd
  rw [if_pos rfl,if_neg n3.symm,hz _ _ (Vy _ (by decide)) (VN (by decide) _),Yh,ew,Yd]
  exact Cg.rfl
theorem Dm {a b:List Row}{g:Nat}:cK (a++b) g=cK a g++cK b g:=Xa ..
theorem drop_one {goal n:Nat}{ns:List Nat}:cK (uE goal ns) (ah n)=uE goal (n::ns):=by
 unfold uE
 rw [fg]
 cases (ns.any λ m=>Vo (ah m) goal) with
 | true=>rw [Bool.or_true];rfl
 | false=>
  rw [Bool.or_false]
  show (s0 goal).filter _=_
  rw [WJ]
  show (if (!Nat.beq goal (ah n))=true then _ else _)=_
  rw [dE (a:=Vo goal (ah n)) (b:=Vo (ah n) goal) |>.mpr ⟨λ e=>by rw [VE e];exact WL _,λ e=>by rw [VE e];exact WL _⟩]
  cases Vo (ah n) goal<;>rfl
theorem Gv {f:Nat->Int}{goal K:Nat}(hg:goal<3):∀ {ns:List Nat}{rows:List Row}{i:Nat}{H:Nat->Nat->Int},(∀ v c,v<3->4+2*i<=c->H v c=0)->(∀ v c,v<3->c<K->0<=H v c/\H v c<9973)->4+2*(i+ns.length)<=K->
  bS f rows (s0 goal) ns=uE goal ns++((gZ i ns).filter (An i ns)).map (Jg goal (jw f i rows H ns))
 | [],rows,i,H,hz,hb,hK=>rfl
 | n::ns,rows,i,H,hz,hb,hK=>by
  rw [V3] at hK
  obtain ⟨c1,c2⟩:=Gu (f:=f) (rows:=rows) (n:=n) (ns:=ns) hg hz hb (Vd (Vq (VP 2 (Vq (YH 1 _) i)) 4) hK)
  have ih:=Gv (f:=f) hg (ns:=ns) (rows:=bh f rows n) (i:=i+1) (H:=cL f rows n i H) (λ v c hv hc=>yQ hz hc v hv) (jv hb) (Vd (VK (congrArg (λ x=>4+2*x) (Wh i 1 ns.length))) hK)
  show iM f rows (bS f (bh f rows n) (s0 goal) ns) n=_
  unfold iM
  rw [<-c1,<-c2,ih,Dm,drop_one]
  show _=_++((gZ (i+1) ns++[_,_]).filter _).map _
  rw [Xa,VI,Vs,Vs]
  refine congrArg (uE goal (n::ns)++·) ?_
  have e2:([(i,0,n/18%3),(i,1,n/108%3)]:List (Nat×Nat×Nat)).filter (An i (n::ns))=[(i,0,n/18%3),(i,1,n/108%3)]:=VU.mpr λ p hp=>by
   have:p.1=i:=by
    rcases Vm.mp hp with rfl | hp
    ·rfl
    ·rw [Vi.mp hp]
   unfold An;rw [this,Yz];rfl
  rw [e2]
  have e3:4+2*i+1=5+2*i:=(Wh 4 1 (2*i)).symm
  refine congr (congrArg _ ?_) ?_
  ·unfold cK
   rw [XZ,am]
   refine congrArg (XS _) (XD λ p hp=>?_)
   have hge:=qg hp
   unfold An
   rw [show p.1-i=(p.1-(i+1))+1 from (Nat.sub_add_cancel (Nat.sub_pos_of_lt hge)).symm,List.take_succ_cons,fg,Bool.not_or]
   show (!(Vo p.2.2 (ah n))&&_)=_
   rw [dE (a:=Vo p.2.2 (ah n)) (b:=Vo (ah n) p.2.2) |>.mpr ⟨λ e=>by rw [VE e];exact WL _,λ e=>by rw [VE e];exact WL _⟩]
  ·show _=[_,_]
   unfold Jg
   rw [e3];rfl
end
section
noncomputable def nY (n:Nat)(v:V):Prop:=∃ d,(∀ g,xw g v=some d)/\d.canLay0=true/\d.depth<=n
theorem nY.all {n:Nat}:∀ {l:List V},(∀ v∈l,nY n v)->∃ ds,(∀ g,f5 g l=some ds)/\X5 ds=true/\ZL ds<=n
 | [],_=>fu [] (λ _=>by kernel_rfl) rfl (WC n)
 | v::l,h=>by
  refine fq (λ d h1 h2 h3=>?_) (h v (VC ..))
  refine fq (λ ds k1 k2 k3=>?_) (nY.all (l:=l) λ w hw=>h w (VH _ hw))
  exact fu (d::ds) (λ g=>by rw [nE,h1,k1];rfl) (VG.mpr ⟨h2,k2⟩) (Nat.max_le.mpr ⟨h3,k3⟩)
theorem nY.lst {n:Nat}{l:List V}(h:∀ v∈l,nY n v):nY (n+1) (.lst l):=
 fq (λ ds h1 h2 h3=>⟨.list ds,λ g=>by rw [rJ,h1];rfl,h2,Vd (VK (show (Yr ds).depth=ZL ds+1 by kernel_rfl)) (WN h3)⟩) (nY.all h)
theorem nY.tup {n:Nat}{l:List V}(h:∀ v∈l,nY n v):nY (n+1) (.tup l):=
 fq (λ ds h1 h2 h3=>⟨.tuple ds,λ g=>by rw [xx,h1];rfl,h2,Vd (VK (show (hZ ds).depth=ZL ds+1 by kernel_rfl)) (WN h3)⟩) (nY.all h)
theorem nY.str {n:Nat}{x:Str}(h:Zm x=true):nY n (.str x):=⟨.str x,λ _=>by kernel_rfl,h,WC n⟩
theorem nY.int {n:Nat}{i:Int}:nY n (.int i):=⟨.int i,λ _=>by kernel_rfl,rfl,WC n⟩
theorem nY.none {n:Nat}:nY n .none:=⟨.none,λ _=>by kernel_rfl,rfl,WC n⟩
theorem pe {n:Int}(h0:0<=n):Zm (aQ n)=true:=by
 unfold Zm
 rw [Array.all_eq_true']
 intro c hc
 have:=s8 h0 c (by simpa using hc)
 exact decide_eq_true (VB this.2 (by decide))
theorem LB {v:Nat}(hv:v<3)(u:Bool):Zm (bW v u)=true:=by
 induction u
 ·exact yu (P:=λ v=>Zm (bW v false)=true) (by decide +kernel) (by decide +kernel) (by decide +kernel) v hv
 ·exact yu (P:=λ v=>Zm (bW v true)=true) (by decide +kernel) (by decide +kernel) (by decide +kernel) v hv
theorem BG {st:St}{a b:V}{d:Zs}(ha:Eh st a=some d)(hb:Eh st b=some d)(h1:d.canLay0=true)(h2:d.depth<=9):∃ p,DW st a b=some (p,true)/\p:=by
 have sh:WX d=true:=VG.mpr ⟨h1,decide_eq_true (Vd h2 (by decide))⟩
 refine ⟨WX d=true/\WX d=true,?_,sh,sh⟩
 unfold DW
 rw [ha,hb]
 show some (_,YM d d)=_
 rw [SeqAt.eqv_refl d h1]
theorem tO {st:St}{l:List V}(h:∀ v∈l,nY 8 v):∃ p,DW st (.lst l) (.lst l)=some (p,true)/\p:=
 fq (λ _ h1 h2 h3=>BG (h1 _) (h1 _) h2 h3) (nY.lst h)
theorem Gw {st:St}{l:List V}{k:Nat}(e:J st.heap k=some (.lst l))(h:∀ v∈l,nY 8 v):∃ p,DW st (.loc k) (.lst l)=some (p,true)/\p:=by
 refine fq (λ d h1 h2 h3=>?_) (nY.lst h)
 refine BG ?_ (h1 _) h2 h3
 rw [show Eh st (.loc k)=(match J st.heap k with | some (.lst l)=>(f5 Eg l).map Yr | _=>We) by kernel_rfl,e]
 show XE _ _=_
 rw [<-rJ];exact h1 _
theorem Gx {st:St}{a b:V}(e:MP st a b=DW st a b)(h:∃ p,DW st a b=some (p,true)/\p):∃ p,pO st .NotEq a b=some (p,false)/\p:=
 let ⟨p,h1,h2⟩:=h
 (aC p (congrArg (XE λ p:Prop×Bool=>(p.1,!p.2)) (e.trans h1)) h2)
theorem Jh {l:List Int}(h:∀ n∈l,0<=n):∀ v∈(l.map aQ).map V.str,nY 0 v:=λ v hv=>by
 apply iu (h:=hv);intro x hx
 apply iu (h:=hx);intro n hn
 exact .str (pe (h n hn))
theorem Gy {l:List Row}(h:∀ r∈l,r.ok):∀ v∈tab (tabS l),nY 1 v:=λ v hv=>by
 apply iu (h:=hv);intro p hp
 apply iu (h:=hp);intro r hr
 refine fJ (λ a b _=>?_) (h r hr)
 refine .tup λ v hv=>?_
 rcases Vm.mp hv with rfl | hv
 ·exact .str (LB a _)
 ·rw [Vi.mp hv];exact .str (pe b)
theorem nY.up {n m:Nat}{v:V}(h:nY n v)(k:n<=m):nY m v:=fq (λ d a b c=>⟨d,a,b,Vd c k⟩) h
theorem BH {f:Nat->Int}(hf:ck f){s:List Row}(hs:∀ r∈s,r.ok):∀ {ns:List Nat}{rows:List Row},(∀ r∈rows,r.ok)->∀ v∈sS f rows s ns,nY 8 v
 | [],_,_,_,h=>nomatch h
 | n::ns,rows,hr,v,h=>by
  have hr':∀ r∈bh f rows n,r.ok:=tB (ns:=[n]) hr
  rcases Wa.mp h with h | h
  ·exact BH hf hs hr' v h
  ·rw [Vi.mp h]
   have bo:=F0 hs (f:=f) (ns:=ns) (rows:=bh f rows n)
   refine nY.up (n:=3) (.tup λ v hv=>?_) (by decide)
   rcases Vm.mp hv with rfl | hv
   ·exact .int
   rcases Vm.mp hv with rfl | hv
   ·exact .str (pe (eT hr hf (Vy _ (by decide))).1)
   rcases Vm.mp hv with rfl | hv
   ·exact .str (pe (eT hr hf (Vy _ (by decide))).1)
   rcases Vm.mp hv with rfl | hv
   ·exact .lst (Gy hr)
   ·rw [Vi.mp hv]
    exact .lst λ v hv=>(Jh (λ x hx=>(mC bo hx).1) v hv).up (by decide)
end
section
theorem Gz {f:Nat->Int}(v c:Nat)(hv:v<3)(hc:4+2*0<=c):H0 f v c=0:=by
 unfold H0
 rw [if_neg (Xu (Vx (by decide) hc)),if_neg (WE (Vx (Nat.succ_lt_succ hv) hc))]
theorem Dn {f:Nat->Int}(hf:ck f){goal:Nat}(hg:goal<3){nums:List Nat}:bS f (aL f) (s0 goal) nums=uE goal nums++((gZ 0 nums).filter (An 0 nums)).map (Jg goal (jw f 0 (aL f) (H0 f) nums)):=
 Gv (K:=4+2*(0+nums.length)) hg Gz (BB hf) (VD _)
theorem Dp {nums:List Nat}:cG nums nums.length=gZ 0 nums:=(lC (nums:=nums) (rest:=nums) (pre:=[]) rfl).trans (VT _)
theorem Ji {f:Nat->Int}(hf:ck f){goal:Nat}(hg:goal<3){nums:List Nat}:tab (tabS (bS f (aL f) (s0 goal) nums))=yN nums goal++eU nums goal (jw f 0 (aL f) (H0 f) nums):=by
 rw [Dn hf hg]
 unfold tabS tab yN eU uE
 rw [VI,VI,Dp,Vz,VF,VF]
 refine congr (congrArg _ ?_) ?_
 ·cases nums.any λ m=>Vo (ah m) goal
  ·rfl
  ·rfl
 ·unfold cT
  rw [XZ,VF,VF]
  refine congr (congrArg _ (funext λ p=>?_)) (XD λ p hp=>?_)
  ·rfl
  ·rfl
theorem Dq {f:Nat->Int}(hf:ck f){goal v:Nat}(hg:goal<3)(hv:v<3){nums:List Nat}:(allR (bS f (aL f) (s0 goal) nums) v).sum.fmod 9973=jw f 0 (aL f) (H0 f) nums goal (1+v):=by
 refine Cg.eq ((tM _).trans (Cg.symm ?_)) (cE _) (wW (K:=4) (BB hf) _ _ hg (Xl hv 1))
 have l:=Qg (f:=f) (ns:=nums) (rows:=aL f) (i:=0) (H:=H0 f) (c:=1+v) hg (λ q=>Zz v ((WG v 1).trans q)) (Xl hv 1)
 rw [show (λ u=>H0 f u (1+v))=λ u=>if u=v then 1 else 0 from funext λ u=>by
  unfold H0
  rw [if_neg λ q=>Zz v ((WG v 1).trans q)]
  by_cases e:u=v
  ·rw [if_pos e,if_pos ((congrArg (· + 1) e).trans (WG v 1))]
  ·rw [if_neg e,if_neg λ q=>e (il (q.trans (WG 1 v)))]] at l
 refine l.trans ?_
 rw [wV (h:=λ _=>0) hv]
 unfold dot gY
 simp only [Yh,ew,Yd]
 exact Cg.rfl
end
section
theorem GA {f:Nat->Int}{n:Nat}{ns:List Nat}:∀ {pre:List Nat}{rows:List Row},(Jd f rows (pre++n::ns))[pre.length]?=some (qv (cU f rows pre) f n)
 | [],_=>rfl
 | m::pre,rows=>GA (pre:=pre) (rows:=bh f rows m)
theorem LC {f:Nat->Int}{n:Nat}{pre ns:List Nat}:D4 f (pre++n::ns) pre.length=[.int (n:Nat),.str (aQ (worth (cU f (aL f) pre) f (n/18%3))),.str (aQ (worth (cU f (aL f) pre) f (n/108%3))),.lst (tab (tabS (cU f (aL f) pre)))]:=by
 unfold D4
 rw [GA];rfl
theorem BI {a b:Nat}:(((a:Nat):Int)==((b:Nat):Int))=Vo a b:=by
 rw [dE]
 exact ⟨λ e=>by rw [YZ (Wc e)];exact WL _,λ e=>by rw [VE e];exact beq_self_eq_true _⟩
theorem GB {goal g:Nat}{ns:List Nat}:((allR (uE goal ns) g).map aQ).map V.str=BA ((((g:Nat):Int)==((goal:Nat):Int))&&!(ns.any λ m=>Vo (ah m) g)):=by
 rw [BI]
 by_cases e:g=goal
 ·subst e
  rw [WL]
  unfold uE
  cases ns.any λ m=>Vo (ah m) g with
  | true=>rfl
  | false=>
   show ((allR [⟨g,false,1⟩] g).map aQ).map V.str=[V.str (Ve "1")]
   unfold allR
   rw [WJ,if_pos (WL g)];rfl
 ·have e1:Vo g goal=false:=Wm.mpr λ z=>e (VE z)
  rw [e1]
  unfold uE
  cases ns.any λ m=>Vo (ah m) goal with
  | true=>rfl
  | false=>
   show ((allR [⟨goal,false,1⟩] g).map aQ).map V.str=[]
   unfold allR
   rw [WJ,if_neg (λ z=>e (VE z).symm)];rfl
theorem Dr {goal g i:Nat}{Hf:Nat->Nat->Int}{nums pre ns:List Nat}{n:Nat}(hn:nums=pre++n::ns)(hi:i=pre.length):
  ((allR (((gZ (i+1) ns).filter (An (i+1) ns)).map (Jg goal Hf)) g).map aQ).map V.str=[]++((cT (cG nums nums.length)).filter (wR nums i g)).map (Gl goal Hf):=by
 have e1:cG nums nums.length=gZ (i+1) ns++cG nums (i+1):=by
  rw [lC (rest:=ns) (pre:=pre++[n]) (by rw [hn,Vs];rfl),Vk,hi];rfl
 have e2:nums.drop (i+1)=ns:=by
  rw [hn,hi,show pre++n::ns=(pre++[n])++ns from by rw [Vs];rfl,show pre.length+1=(pre++[n]).length from by rw [Vk];rfl,et]
 have e3:(cT (cG nums (i+1))).filter (wR nums i g)=[]:=Yx.mpr λ v hv=>by
  apply iu (h:=hv);intro p hp
  have hlt:=(mG hp).1
  have:decide (((p.1:Nat):Int)>((i:Nat):Int))=false:=decide_eq_false λ q=>absurd (Wz.mp q) (ZZ.mpr (V5 hlt))
  show ¬ ((_&&(decide (((p.1:Nat):Int)>((i:Nat):Int))&&_))=true)
  rw [this,Bool.false_and,ei];decide
 have e4:cT (gZ (i+1) ns++cG nums (i+1))=cT (gZ (i+1) ns)++cT (cG nums (i+1)):=VI ..
 rw [e1,e4,Xa,e3,VT,Vz]
 unfold allR cT
 rw [XZ,XZ,am,VF,VF,VF,VF]
 refine congr (congrArg _ (funext λ p=>rfl)) (XD λ p hp=>?_)
 have hge:=qg hp
 show (Vo p.2.2 g&&An (i+1) ns p)=(((p.2.2:Nat):Int)==((g:Nat):Int)&&(decide (((p.1:Nat):Int)>((i:Nat):Int))&&!(((nums.drop (i+1)).take (p.1-(i+1))).any λ m=>Vo (ah m) g)))
 rw [BI,e2,show decide (((p.1:Nat):Int)>((i:Nat):Int))=true from decide_eq_true (Wz.mpr hge),Bool.true_and]
 cases z:Vo p.2.2 g with
 | false=>rfl
 | true=>rw [<-VE z];rfl
theorem BJ {f:Nat->Int}{goal K:Nat}(hg:goal<3){nums:List Nat}{Hf:Nat->Nat->Int}(hK:4+2*nums.length<=K):∀ {ns pre:List Nat}{H:Nat->Nat->Int},nums=pre++ns->(∀ v c,v<3->4+2*pre.length<=c->H v c=0)->(∀ v c,v<3->c<K->0<=H v c/\H v c<9973)->
  jw f pre.length (cU f (aL f) pre) H ns=Hf->sS f (cU f (aL f) pre) (s0 goal) ns=((VV pre.length ns.length).map (yM nums goal Hf (D4 f nums))).reverse
 | [],pre,H,_,_,_,_=>rfl
 | n::ns,pre,H,hn,hz,hb,hH=>by
  have hlen:nums.length=pre.length+(ns.length+1):=by rw [hn,Vk];rfl
  have ap:(pre++[n]).length=pre.length+1:=Vk
  have hz':∀ v c,v<3->4+2*(pre.length+1)<=c->cL f (cU f (aL f) pre) n pre.length H v c=0:=λ v c hv hc=>yQ hz hc v hv
  have ih:=BJ hg (f:=f) (Hf:=Hf) hK (ns:=ns) (pre:=pre++[n]) (H:=cL f (cU f (aL f) pre) n pre.length H) (by rw [hn,Vs];rfl) (by rw [ap];exact hz') (jv hb) (by rw [ap,jx];exact hH)
  have bs:=Gv (f:=f) (K:=K) hg (ns:=ns) (rows:=bh f (cU f (aL f) pre) n) (i:=pre.length+1) hz' (jv hb) (Vd (VK (congrArg (λ x=>4+2*x) ((Wh _ 1 _).trans hlen.symm))) hK)
  rw [show jw f (pre.length+1) (bh f (cU f (aL f) pre) n) (cL f (cU f (aL f) pre) n pre.length H) ns=Hf from hH] at bs
  rw [jx,ap] at ih
  show sS f (bh f (cU f (aL f) pre) n) (s0 goal) ns++[vf f (cU f (aL f) pre) (bS f (bh f (cU f (aL f) pre) n) (s0 goal) ns) n]=_
  rw [ih,V3,WO,XI,Zf]
  refine congrArg (λ v=>_++[v]) ?_
  have e1:nums[pre.length]?.getD 0=n:=by rw [hn,WV (VD _),Yz];rfl
  have e2:=LC (f:=f) (n:=n) (pre:=pre) (ns:=ns)
  rw [<-hn] at e2
  have e3:nums.drop (pre.length+1)=ns:=by
   rw [hn,show pre++n::ns=(pre++[n])++ns from by rw [Vs];rfl,<-ap,et]
  unfold yM P9
  rw [e1,e2,bs,e3]
  unfold vf
  rw [yO,VI,VI,GB,Dr hn rfl]
  rfl
theorem GD {f:Nat->Int}(hf:ck f){goal:Nat}(hg:goal<3){nums:List Nat}:sS f (aL f) (s0 goal) nums=(mV nums goal (jw f 0 (aL f) (H0 f) nums) (D4 f nums) nums.length).reverse:=
 BJ (K:=4+2*nums.length) hg (VD _) (pre:=[]) rfl Gz (BB hf) rfl
end
section
section
variable {C:Cx}{T:Th}{A:cN}{d:Nat}{N:List (Str×Vn)}{st:St}{X:XK}{kb:Nat}
noncomputable def mk (l:List Nat):Str:=⟨l.toArray⟩
theorem yR (l:List Nat)(a n:Nat):(sliceRange (a:Int) (n:Int) 1).filterMap (bq l)=(l.drop a).take (n-a):=by
 rw [ae];exact sQ l a (n-a)
theorem GF (k n:Nat):max 0 (min (k:Int) (n:Int))=((min k n:Nat):Int):=by
 rcases de k n with q | q
 ·rw [YB q,Int.min_eq_left (YR.mpr q),Int.max_eq_right (V0 _)]
 ·rw [Yo q,Int.min_eq_right (YR.mpr q),Int.max_eq_right (V0 _)]
theorem pg (l:List Nat)(k:Nat):eW (mk l) none (some (k:Int)) none=mk (l.take k):=by
 unfold eW
 have e:WB none (some (k:Int)) (Option.getD none 1) (mk l).length=sliceRange ((0:Nat):Int) ((min k l.length:Nat):Int) 1:=by
  show sliceRange (0:Int) (if (1:Int)>0 then max 0 (min (if (k:Int)<0 then (k:Int)+(l.length:Int) else (k:Int)) (l.length:Int)) else _) 1=_
  rw [if_pos (by decide),if_neg (km.mpr (V0 k)),GF];rfl
 rw [e]
 split
 ·rename_i h
  have hl:(sliceRange ((0:Nat):Int) ((min k l.length:Nat):Int) 1).length=l.length:=by
   simp only [VZ,beq_iff_eq] at h;exact h.2
  rw [ae,Vl,YJ] at hl
  rw [Xg (Vd (VK hl.symm) (Vd (hV _ _) (dT _ _)))]
 ·show mk ((sliceRange ((0:Nat):Int) ((min k l.length:Nat):Int) 1).filterMap (bq l))=_
  rw [yR,List.drop_zero,Nat.sub_zero]
  rcases de k l.length with q | q
  ·rw [YB q]
  ·rw [Yo q,List.take_length,Xg q]
theorem wX (l:List Nat)(k:Nat):eW (mk l) (some (k:Int)) none none=mk (l.drop k):=by
 unfold eW
 have e:WB (some (k:Int)) none (Option.getD none 1) (mk l).length=sliceRange ((min k l.length:Nat):Int) ((l.length:Nat):Int) 1:=by
  show sliceRange (if (1:Int)>0 then max 0 (min (if (k:Int)<0 then (k:Int)+(l.length:Int) else (k:Int)) (l.length:Int)) else _) (l.length:Int) 1=_
  rw [if_pos (by decide),if_neg (km.mpr (V0 k)),GF]
 rw [e]
 split
 ·rename_i h
  have hl:(sliceRange ((min k l.length:Nat):Int) ((l.length:Nat):Int) 1).length=l.length:=by
   simp only [VZ,beq_iff_eq] at h;exact h.2
  rw [ae,Vl,YJ] at hl
  rw [show l.drop k=l from by rcases Nat.eq_zero_or_pos k with rfl | h;rfl;rw [show l=[] from List.length_eq_zero_iff.mp (by lia)];simp]
 ·show mk ((sliceRange ((min k l.length:Nat):Int) ((l.length:Nat):Int) 1).filterMap (bq l))=_
  rw [yR,Xg (by rw [ZC];exact VD _)]
  rcases de k l.length with q | q
  ·rw [YB q]
  ·rw [Yo q,List.drop_length,Zl q]
noncomputable abbrev Ds (c:Nat):V:=V.str ⟨#[c]⟩
noncomputable def codeV:V->Nat
 | .str s=>s.cps.getD 0 0
 | _=>0
noncomputable def Mv (v:V):Bool:=fT (codeV v)
noncomputable def Mw (v:V):Bool:=!(fT (codeV v))
noncomputable def GG (v:V):V:=.str (ng (codeV v))
theorem filter_all {α:Type}{l:List α}{p:α->Bool}(h:∀ a∈l,p a=true):l.filter p=l:=VU.mpr h
theorem vq {α:Type}{l:List α}{p:α->Bool}(h:∀ a∈l,p a=false):l.filter p=[]:=Yx.mpr λ a ha=>by rw [h a ha];decide
theorem GH (a b:List Nat):mk a++mk b=mk (a++b):=by
 show (⟨a.toArray++b.toArray⟩:Str)=⟨(a++b).toArray⟩
 simp
theorem BK {l:List Nat}(h:∀ c∈l,fT (c:Int)=false):(l.map Ds).filter Mv=[]:=vq λ v hv=>by
 apply iu (h:=hv);intro c hc;exact h c hc
theorem LD {l:List Nat}(h:∀ c∈l,fT (c:Int)=true):(l.map Ds).filter Mv=l.map Ds:=filter_all λ v hv=>by
 apply iu (h:=hv);intro c hc;exact h c hc
theorem BL {l:List Nat}(h:∀ c∈l,fT (c:Int)=false):(l.map Ds).filter Mw=l.map Ds:=filter_all λ v hv=>by
 apply iu (h:=hv);intro c hc;show (!(fT (c:Int)))=true;rw [h c hc];rfl
theorem GI {l:List Nat}(h:∀ c∈l,fT (c:Int)=true):(l.map Ds).filter Mw=[]:=vq λ v hv=>by
 apply iu (h:=hv);intro c hc;show (!(fT (c:Int)))=false;rw [h c hc];rfl
noncomputable def vt (v:Nat):List Nat:=match v with
 | 0=>[102,105,64257]
 | 1=>[115,116,64262]
 | _=>[115,115,223]
noncomputable def LF:List Nat:=[0,1,2,4,7,8,9,10,11,12]
noncomputable def lD (al:Nat):Nat:=119711+52*(LF[al]?.getD 0)
noncomputable def GJ (v al:Nat):List Str:=match vt v with
 | [a,b,c]=>[mk [a,b],XY (mk [a,b]),mk [c],mk [lD al+a]++mk [lD al+b],XY (mk [a])++mk [b],mk [a]++mk [lD al+b]]
 | _=>[]
noncomputable def yS (v al k:Nat):List Nat:=(((GJ v al)[k]?.getD default).cps).toList
noncomputable def wY (v al k:Nat):Bool:=(yS v al k).all (λ c=>!(fT (c:Int)))&&(sB (ke (Ve "") ((yS v al k).map ng)) (bW v false)&&(Wn (yS v al k).length 2&&Wn (((yS v al k).map ng).map (·.length)).sum 20))
theorem Dt:∀ v:Fin 3,∀ al:Fin 10,∀ k:Fin 6,wY v.val al.val k.val=true:=by decide +kernel
noncomputable def Ug:List Nat:=[173,847,6150,6155,6156,6157,8203,8204,8205,8288,65279]
noncomputable def HU (p:Nat):Nat:=if p<11 then Ug[p]?.getD 0 else 65013+p
theorem LG:∀ p:Fin 27,fT (HU p.val:Int)=true/\HU p.val<=70000:=by decide +kernel
noncomputable abbrev yT (a b c code B:Nat)(tl:List Nat)(pl ct:Nat)(un:List Nat):List (Str×V):=
 [((Ve "word"),.str (mk [a,b,c])),("code",.int (code:Nat)),("base",.int (B:Nat)),("great",.lst [V.str (mk [B+a]),V.str (mk [B+b])]),("text",.str (mk tl)),("place",.int (pl:Nat)),("cut",.int (ct:Nat)),("unseen",.str (mk un))]
theorem yU {tl un:List Nat}{k:Nat}(h1:∀ c∈tl,fT (c:Int)=false)(h2:∀ c∈un,fT (c:Int)=true):
  []++(((tl.take k++un++tl.drop k).map Ds).filter Mv).map id=un.map Ds/\[]++(((tl.take k++un++tl.drop k).map Ds).filter Mw).map GG=(tl.map ng).map V.str:=by
 have ht:∀ c∈tl.take k,fT (c:Int)=false:=λ c hc=>h1 c (List.mem_of_mem_take hc)
 have hd:∀ c∈tl.drop k,fT (c:Int)=false:=λ c hc=>h1 c (List.mem_of_mem_drop hc)
 constructor
 ·rw [VI,VI,Xa,Xa,BK ht,BK hd,LD h2,eJ]
  simp
 ·rw [VI,VI,Xa,Xa,BL ht,BL hd,GI h2,VT,Vz,<-VI,Zo,VF,VF]
  rfl
theorem Ob {st:St}{un:List Nat}(h5:un.length<=1)(h6:∀ c∈un,c<=70000):∃ p,pO st .Eq (.lst (un.map Ds)) (.lst (un.map Ds))=some (p,true)/\p:=by
 match un,h5,h6 with
 | [],_,_=>exact ⟨WX (.list [])=true/\WX (.list [])=true,by kernel_rfl,by decide +kernel,by decide +kernel⟩
 | [x],_,h6=>
  have hx:x<=70000:=h6 x (VC ..)
  have hs:WX (.list [.str ⟨#[x]⟩])=true:=by
   show (((#[x]:Array Nat).all (· < 0x110000)&&true)&&decide (_<=64))=true
   rw [VZ,VZ]
   exact ⟨⟨by simp;omega,rfl⟩,by rfl⟩
  have he:YM (.list [.str ⟨#[x]⟩]) (.list [.str ⟨#[x]⟩])=true:=by
   show (((⟨#[x]⟩:Str)==⟨#[x]⟩)&&true)=true
   rw [beq_self_eq_true];rfl
  have e:pO st .Eq (.lst ([x].map Ds)) (.lst ([x].map Ds))=some (WX (.list [.str ⟨#[x]⟩])=true/\WX (.list [.str ⟨#[x]⟩])=true,YM (.list [.str ⟨#[x]⟩]) (.list [.str ⟨#[x]⟩])):=by kernel_rfl
  rw [he] at e
  exact ⟨_,e,hs,hs⟩
 | _::_::_,h,_=>exact absurd h (by simp)
end
namespace iQ
noncomputable def aq (tl:List Nat)(ct:Nat)(un:List Nat)(B a b c code pl:Nat)(h:List (Nat×MO))(C:Cx)(T:Th)(A:cN)(d:Nat)(X:XK)(kb v:Nat)(Q:Fl->St->Prop):Prop:=∀ (O:On C T (d+1) (aO (aJ 19)).names) (H:Fx T A) {stmts:List Stmt} (hw:(bodyOf (aJ 19)).drop 5=stmts) (h1:∀ c∈tl,fT (c:Int)=false) (h2:∀ c∈un,fT (c:Int)=true) (h3:ke (Ve "") (tl.map ng)=bW v false) (h4:tl.length<=2) (h7:((tl.map ng).map (·.length)).sum<=20) (h5:un.length<=1) (h6:∀ c∈un,c<=70000) (q:∀ s,s.heap=h->Q (.ret (.str (bW v false))) s),ES C kb (execs stmts C.env) ⟨yT a b c code B tl pl ct un,h⟩ Q X
noncomputable def S0:=O1 aq
noncomputable def ε:=eu (by walk_at "ne") S0
theorem here:S0 ε:=by
 intro O H stmts hw h1 h2 h3 h4 h7 h5 h6 q
 subst hw
 conv=>arg 3;arg 1;whnf
 have htk:(ε.1.take ε.2.1).length<=2:=by rw [ZA];exact Vd (Nat.min_le_right ..) h4
 have RT:(ε.1.drop ε.2.1).length<=2:=by rw [ZC];exact Vd (hV ..) h4
 have hz:(mk ε.1).length<=sizeLine:=Vd (show ε.1.length<=2 from h4) (by decide)
 (with_reducible refine' ES.cons ?_)
 repeat walk_at "py"
 rw [pg,GH]
 refine ⟨?_,?_⟩
 ·exact Vd (show (ε.1.take ε.2.1).length+ε.2.2.1.length<=2+1 from V9 (htk) h5) (by decide)
 repeat walk_at "py"
 rw [wX,GH]
 refine ⟨?_,?_⟩
 ·refine Vd (show (ε.1.take ε.2.1++ε.2.2.1).length+(ε.1.drop ε.2.1).length<=2+1+2 from ?_) (by decide)
  rw [Vk]
  exact V9 (V9 (htk) h5) RT
 repeat walk_at "py"
 have hil:(ε.1.take ε.2.1++ε.2.2.1++ε.1.drop ε.2.1).length<=5:=by
  rw [Vk,Vk]
  exact V9 (V9 (htk) h5) RT
 refine qA (λ F1 F2=>?_) (yU (k:=ε.2.1) h1 h2)
 generalize hit:ε.1.take ε.2.1++ε.2.2.1++ε.1.drop ε.2.1=items at *
 have hi:items.length<=sizeLine:=Vd hil (by decide)
 refine ES.cut (st':=⟨[((Ve "word"),.str (mk [ε.2.2.2.2.1,ε.2.2.2.2.2.1,ε.2.2.2.2.2.2.1])),("code",.int (ε.2.2.2.2.2.2.2.1:Nat)),("base",.int (ε.2.2.2.1:Nat)),("great",.lst [V.str (mk [ε.2.2.2.1+ε.2.2.2.2.1]),V.str (mk [ε.2.2.2.1+ε.2.2.2.2.2.1])]),("text",.str (mk items)),("place",.int (ε.2.2.2.2.2.2.2.2.1:Nat)),("cut",.int (ε.2.1:Nat)),("unseen",.str (mk ε.2.2.1))],ε.2.2.2.2.2.2.2.2.2.1⟩) (by rfl) ?_
 walk_at "st"
 refine ⟨by rw [Vl];exact hi,?_⟩
 show LW _ _ _ _ _ _ _ [] _ _ _ _ _
 refine LW.pure O Mw GG ?hl3 (λ v9 hv=>?_) ?_
 ·exact ⟨_,rfl⟩
 ·apply iu (h:=hv);intro c9 hc
  intro C2 O2
  repeat walk_at "py"
  refine CU.cj (FD O2 H ?_)
  repeat walk_at "py"
  have hbn:Mw (V.str ⟨#[c9]⟩) = !(fT (c9:Int)):=rfl
  cases hb:fT (c9:Int)
  ·refine br_t rfl ⟨by rw [hbn,hb];rfl,?_⟩
   repeat walk_at "py"
   refine CU.cj (Ll O2 H ?_)
   exact bY (eN rfl) rfl rfl
  ·refine br_f rfl ⟨by rw [hbn,hb];rfl,?_⟩
   repeat walk_at "py"
   exact ⟨eN rfl,rfl⟩
 rw [show ([]++((XS (λ c9=>V.str ⟨#[c9]⟩) (mk items).cps.toList).filter Mw).map GG)=_ from F2]
 repeat walk_at "py"
 (with_reducible refine' ES.cons ?_)
 repeat walk_at "py"
 refine ⟨by rw [Vl];exact hi,?_⟩
 show LW _ _ _ _ _ _ _ [] _ _ _ _ _
 refine LW.pure O Mv id ?hl2 (λ v9 hv=>?_) ?_
 ·exact ⟨_,rfl⟩
 ·apply iu (h:=hv);intro c9 hc
  intro C2 O2
  repeat walk_at "py"
  refine CU.cj (FD O2 H ?_)
  repeat walk_at "py"
  have hbn:Mv (V.str ⟨#[c9]⟩)=fT (c9:Int):=rfl
  cases hb:fT (c9:Int)
  ·refine br_f rfl ⟨by rw [hbn,hb],?_⟩
   repeat walk_at "py"
   exact ⟨eN rfl,rfl⟩
  ·refine br_t rfl ⟨by rw [hbn,hb],?_⟩
   repeat walk_at "py"
   exact bY (eN rfl) rfl rfl
 rw [show ([]++((XS (λ c9=>V.str ⟨#[c9]⟩) (mk items).cps.toList).filter Mv).map id)=_ from F1]
 repeat walk_at "py"
 refine CJ.list_str O.toGood (Vd (show ε.2.2.1.length<=1 from h5) (by decide)) ?_
 repeat walk_at "py"
 refine aI (λ p e1 e2=>?_) (Ob (st:=⟨[((Ve "word"),.str (mk [ε.2.2.2.2.1,ε.2.2.2.2.2.1,ε.2.2.2.2.2.2.1])),("code",.int (ε.2.2.2.2.2.2.2.1:Nat)),("base",.int (ε.2.2.2.1:Nat)),("great",.lst [V.str (mk [ε.2.2.2.1+ε.2.2.2.2.1]),V.str (mk [ε.2.2.2.1+ε.2.2.2.2.2.1])]),("text",.str (mk items)),("place",.int (ε.2.2.2.2.2.2.2.2.1:Nat)),("cut",.int (ε.2.1:Nat)),("unseen",.str (mk ε.2.2.1)),("shown",V.lst (XS V.str (XS ng ε.1)))],ε.2.2.2.2.2.2.2.2.2.1⟩) h5 h6)
 refine ay p true e1 e2 ?_
 repeat walk_at "py"
 refine CJ.join (ys:=ε.1.map ng) rfl (by decide) ?_ ?_
 ·rw [Vl];exact Vd (V9 h7 h4) (by decide)
 rw [h3]
 repeat walk_at "py"
 exact q _ rfl
end iQ
theorem Du {C T A d X kb a b c code B pl ct v tl un h Q}:iQ.aq tl ct un B a b c code pl h C T A d X kb v Q:=nR (S:=iQ.S0) iQ.here (tl,ct,un,B,a,b,c,code,pl,h,C,T,A,d,X,kb,v,Q)
section
variable {C:Cx}{T:Th}{A:cN}{d:Nat}{N:List (Str×Vn)}{st:St}{X:XK}{kb:Nat}
noncomputable def Uh (B:Nat):V->V
 | .str s=>.str (mk [B+s.cps.getD 0 0])
 | v=>v
theorem upper1 {a:Nat}(h1:97<=a)(h2:a<=122):(XY ⟨#[a]⟩).length<=3:=by
 have h:∀ i:Fin 26,(XY ⟨#[97+i.val]⟩).length<=3:=by decide +kernel
 have q:=h ⟨a-97,Nat.sub_lt_left_of_lt_add h1 (VB h2 (by decide))⟩
 have e:97+(a-97)=a:=Nat.add_sub_cancel' h1
 simp only [e] at q
 exact q
theorem LH {a b c d e f:Str}{k:Nat}(h:k<6):bq [V.str a,V.str b,V.str c,V.str d,V.str e,V.str f] k=some (.str ([a,b,c,d,e,f][k]?.getD default)):=fF (P:=λ k=>bq [V.str a,V.str b,V.str c,V.str d,V.str e,V.str f] k=some (.str ([a,b,c,d,e,f][k]?.getD default))) (n:=6) ⟨⟨⟨⟨⟨⟨trivial,rfl⟩,rfl⟩,rfl⟩,rfl⟩,rfl⟩,rfl⟩ k h
theorem Oc {p:Nat}(h:p<11):bq [V.int 173,V.int 847,V.int 6150,V.int 6155,V.int 6156,V.int 6157,V.int 8203,V.int 8204,V.int 8205,V.int 8288,V.int 65279] p=some (.int (HU p:Nat)):=fF (P:=λ p=>bq [V.int 173,V.int 847,V.int 6150,V.int 6155,V.int 6156,V.int 6157,V.int 8203,V.int 8204,V.int 8205,V.int 8288,V.int 65279] p=some (.int (HU p:Nat))) (n:=11) ⟨⟨⟨⟨⟨⟨⟨⟨⟨⟨⟨trivial,rfl⟩,rfl⟩,rfl⟩,rfl⟩,rfl⟩,rfl⟩,rfl⟩,rfl⟩,rfl⟩,rfl⟩,rfl⟩ p h
theorem LI {al:Nat}(h:al<10):bq [V.int 0,V.int 1,V.int 2,V.int 4,V.int 7,V.int 8,V.int 9,V.int 10,V.int 11,V.int 12] al=some (.int (LF[al]?.getD 0:Nat)):=fF (P:=λ al=>bq [V.int 0,V.int 1,V.int 2,V.int 4,V.int 7,V.int 8,V.int 9,V.int 10,V.int 11,V.int 12] al=some (.int (LF[al]?.getD 0:Nat))) (n:=10) ⟨⟨⟨⟨⟨⟨⟨⟨⟨⟨trivial,rfl⟩,rfl⟩,rfl⟩,rfl⟩,rfl⟩,rfl⟩,rfl⟩,rfl⟩,rfl⟩,rfl⟩ al h
theorem Jj {al:Nat}(h:al<10):lD al<=120400:=(by decide +kernel:∀ i:Fin 10,lD i.val<=120400) ⟨al,h⟩
end
namespace mH
noncomputable def aq (code:Nat)(st:St)(v:Nat)(T:Th)(d:Nat)(Q:QV)(C:Cx)(A:cN)(N:List (Str×Vn))(X:XK):Prop:=∀ (O:On C T (d+2) N) (H:Fx T A) (hv:v<3) (h:Q (.str (bW v false)) st),CU C A.wG [.str (mk (vt v)),.int (code:Nat)] [] [] st Q X
noncomputable def S0:=KP aq
noncomputable def ε:=eu (by walk_at "ne") S0
set_option maxHeartbeats 1000000 in
theorem here:S0 ε:=by
 intro O H hv h
 refine O.func (kj:=[]) H.Bl [("word",.str (mk (vt ε.2.2.1))),("code",.int (ε.1:Nat))] (λ _ _=>.nil) rfl rfl ?_ rfl rfl ?_
 ·intro q pm cd doc ct
  exact args2 λ a b=>rfl
 ·have hcode:∀ k,k<6->∀ al,al<10->wY ε.2.2.1 al k=true:=λ k hk al ha=>Dt ⟨ε.2.2.1,hv⟩ ⟨al,ha⟩ ⟨k,hk⟩
  have hal:ε.1/6%10<10:=Vy _ (by decide)
  have Qi:ε.1%6<6:=Vy _ (by decide)
  obtain ⟨a,b,c,hw,hb1,hb2⟩:∃ a b c,vt ε.2.2.1=[a,b,c]/\(97<=a/\a<=122)/\(97<=b/\b<=122):=by
   unfold vt
   split<;>exact cu _ _ _ rfl (⟨by decide,by decide⟩)
  have hts:GJ ε.2.2.1 (ε.1/6%10)=[mk [a,b],XY (mk [a,b]),mk [c],mk [lD (ε.1/6%10)+a]++mk [lD (ε.1/6%10)+b],XY (mk [a])++mk [b],mk [a]++mk [lD (ε.1/6%10)+b]]:=by
   unfold GJ;rw [hw]
  rw [hw]
  refine nR (ne:=neC) ?_
  intro O' T'
  conv=>arg 3;arg 1;whnf
  (with_reducible refine' ES.cons ?_)
  repeat walk_at "py"
  have Ui:((ε.1:Int).fdiv 6).fmod 10=((ε.1/6%10:Nat):Int):=(congrArg (ag · 10) (kZ ε.1 6)).trans (fh _ 10)
  refine aC _ ((congrArg (λ x=>gq _ (V.tup _) (V.int x)) Ui).trans (dK (LI hal) (Vv (VJ hal (by decide))))) ?_
  refine ay _ _ rfl (.inl (by decide)) (ay _ _ rfl trivial ?_)
  repeat walk_at "py"
  refine ES.cut (st':=⟨[("word",.str (mk [a,b,c])),("code",.int (ε.1:Nat)),("base",.int (lD (ε.1/6%10):Nat))],ε.2.1.heap⟩) (by rfl) ?_
  have hbase:lD (ε.1/6%10)<=120400:=Jj hal
  generalize hB:lD (ε.1/6%10)=B at *
  (with_reducible refine' ES.cons ?_)
  have p2:eW (mk [a,b,c]) none (some 2) none=mk [a,b]:=pg [a,b,c] 2
  have hz:(mk [a,b,c]).length<=sizeLine:=by show 3<=_;decide
  repeat walk_at "py"
  rw [p2]
  show LW _ _ _ _ _ _ (V.str (mk [a,b])) [("base",.int (B:Nat))] [V.str (mk [a]),V.str (mk [b])] _ _ _ _
  refine LW.pure O' (λ _=>true) (Uh B) ⟨_,rfl⟩ (λ v9 hv=>?_) ?_
  ·obtain ⟨x,hx,rfl⟩:∃ x,(97<=x/\x<=122)/\v9=V.str (mk [x]):=by
    rcases Vm.mp hv with e | e
    ·exact aC a hb1 e
    ·exact aC b hb2 (Vi.mp e)
   intro C2 O2
   have q1:0<=(B:Int)+(x:Int):=V0 (B+x)
   have q2:(B:Int)+(x:Int)<=1114111:=YR.mpr (Vd (V9 hbase hx.2) (by decide))
   show AS _ _ (V.str ⟨#[x]⟩) _ _ _
   repeat walk_at "py"
   exact bY (aW _ [("letter",V.str ⟨#[x]⟩)]) rfl rfl
  repeat walk_at "py"
  refine ES.cut (st':=⟨[("word",.str (mk [a,b,c])),("code",.int (ε.1:Nat)),("base",.int (B:Nat)),("great",.lst [V.str (mk [B+a]),V.str (mk [B+b])])],ε.2.1.heap⟩) (by rfl) ?_
  (with_reducible refine' ES.cons ?_)
  repeat walk_at "py"
  rw [p2]
  have z2:(mk [a,b]).length<=5592405:=by show 2<=_;decide
  have z1:(mk [a]).length<=5592405:=by show 1<=_;decide
  repeat walk_at "py"
  have u1:=upper1 hb1.1 hb1.2
  refine ⟨Vd (VN u1 1) (by decide),?_⟩
  repeat walk_at "py"
  refine aC _ ((congrArg (λ x=>gq _ (V.tup _) (V.int x)) (fh ε.1 6)).trans (dK (LH Qi) (Vv (VJ Qi (by decide))))) ?_
  repeat walk_at "py"
  have Qj:=hcode _ Qi _ hal
  unfold wY yS at Qj
  rw [hts] at Qj
  refine ES.cut (st':=⟨[("word",.str (mk [a,b,c])),("code",.int (ε.1:Nat)),("base",.int (B:Nat)),("great",.lst [V.str (mk [B+a]),V.str (mk [B+b])]),("text",.str ([mk [a,b],XY (mk [a,b]),mk [c],mk [B+a]++mk [B+b],XY (mk [a])++mk [b],mk [a]++mk [B+b]][ε.1%6]?.getD default))],ε.2.1.heap⟩) (by rfl) ?_
  generalize [mk [a,b],XY (mk [a,b]),mk [c],mk [B+a]++mk [B+b],XY (mk [a])++mk [b],mk [a]++mk [B+b]][ε.1%6]?.getD default=tx at *
  clear hts hcode
  obtain ⟨tl,rfl⟩:∃ tl,tx=mk tl:=⟨tx.cps.toList,by cases tx;rfl⟩
  walk_at "st"
  have eC:((ε.1:Int).fdiv 1680).fmod 3=((ε.1/1680%3:Nat):Int):=De ε.1 1680
  have eP:((ε.1:Int).fdiv 60).fmod 28=((ε.1/60%28:Nat):Int):=(congrArg (ag · 28) (kZ ε.1 60)).trans (fh _ 28)
  have rest:∀ (D:Cx),On D ε.2.2.2.1 (ε.2.2.2.2.1+1) (aO (aJ 19)).names->∀ (un:List Nat) (X2:XK) (kb:Nat) (Q2:Fl->St->Prop),(∀ c:Nat,c∈un->fT (c:Int)=true)->un.length<=1->(∀ c:Nat,c∈un->c<=70000)->(∀ s:St,s.heap=ε.2.1.heap->Q2 (.ret (.str (bW ε.2.2.1 false))) s)->ES D kb (execs ((bodyOf (aJ 19)).drop 5) D.env) ⟨yT a b c ε.1 B tl (ε.1/60%28) (ε.1/1680%3) un,ε.2.1.heap⟩ Q2 X2:=λ D OD un X2 kb Q2 r1 r2 r3 q=>by
   have h4:=VG.mp Qj
   have h5:=VG.mp h4.2
   have h6:=VG.mp h5.2
   refine Du OD H rfl (λ c hc=>?_) r1 (dH.mp h5.1) (VQ h6.1) (VQ h6.2) r2 r3 q
   have:=Wg.mp h4.1 c hc
   cases e:fT (c:Int) with
   | false=>rfl
   | true=>rw [e] at this;exact nomatch this
  refine ES.cut (st':=⟨[((Ve "word"),.str (mk [a,b,c])),("code",.int (ε.1:Nat)),("base",.int (B:Nat)),("great",.lst [V.str (mk [B+a]),V.str (mk [B+b])]),("text",.str (mk tl)),("place",.int (ε.1/60%28:Nat)),("cut",.int (ε.1/1680%3:Nat))],ε.2.1.heap⟩) (by rw [<-eC,<-eP];rfl) ?_
  have hpl:ε.1/60%28<28:=Vy _ (by decide)
  generalize ε.1/60%28=pl at *
  generalize ε.1/1680%3=ct at *
  have fin:∀ s:St,s.heap=ε.2.1.heap->ε.2.2.2.2.2.1 (.str (bW ε.2.2.1 false)) ⟨ε.2.1.vars,s.heap⟩:=λ s e=>by rw [e];exact h
  walk_at "st"
  by_cases c1:pl<27
  ·refine qA (λ w1 w2=>?_) (LG ⟨pl,c1⟩)
   have Qk:∀ x:Nat,x∈[HU pl]->fT (x:Int)=true:=λ x hx=>by rw [Vi.mp hx];exact w1
   have Ql:∀ x:Nat,x∈[HU pl]->x<=70000:=λ x hx=>by rw [Vi.mp hx];exact w2
   rw [decide_eq_true (show ((pl:Nat):Int)<27 from Wz.mpr c1)]
   repeat walk_at "py"
   by_cases c2:pl<11
   ·rw [decide_eq_true (show ((pl:Nat):Int)<11 from Wz.mpr c2)]
    repeat walk_at "py"
    refine aC _ (dK (Oc c2) (Vv (VJ c2 (by decide)))) ?_
    have q1:0<=((HU pl:Nat):Int):=V0 _
    have q2:((HU pl:Nat):Int)<=1114111:=YR.mpr (Vd w2 (by decide))
    repeat walk_at "py"
    exact rest _ O' [HU pl] _ _ _ Qk (VD _) Ql fin
   ·rw [decide_eq_false (show ¬ ((pl:Nat):Int)<11 from λ q=>c2 (Wz.mp q))]
    have q1:0<=65013+((pl:Nat):Int):=V0 (65013+pl)
    have q2:65013+((pl:Nat):Int)<=1114111:=YR.mpr (Vd (Vq (Vv c1) 65013) (by decide))
    repeat walk_at "py"
    have e5:HU pl=65013+pl:=if_neg c2
    rw [e5] at Qk Ql
    exact rest _ O' [65013+pl] _ _ _ Qk (VD _) Ql fin
  ·rw [decide_eq_false (show ¬ ((pl:Nat):Int)<27 from λ q=>c1 (Wz.mp q))]
   repeat walk_at "py"
   exact rest _ O' [] _ _ _ nofun (WC _) nofun fin
end mH
theorem Jk {C T A d N st X v code Q}:mH.aq code st v T d Q C A N X:=nR (S:=mH.S0) mH.here (code,st,v,T,d,Q,C,A,N,X)
end
section
section
variable {C:Cx}{T:Th}{A:cN}{d:Nat}{N:List (Str×Vn)}{st:St}{X:XK}{kb:Nat}
noncomputable def pq:List Nat:=[5,47338,1406,6117,235154,1128610,2669,3804]
noncomputable def tP (script:List Int)(k:Nat):List Int:=pick (script.take 60) (some (k:Int)) none (some 8)
noncomputable def vv (script:List Int)(k:Nat):Int:=(pq[k]?.getD 0:Nat)+((tP script k).map λ x=>x.fmod 1000000000).sum
theorem tQ:∀ l:List Int,(∀ x∈l,0<=x)->0<=l.sum
 | [],_=>ed _
 | x::l,h=>by
  rw [fv]
  exact Int.add_nonneg (h x (VC ..)) (tQ l λ y hy=>h y (VH _ hy))
theorem yV {script:List Int}{k:Nat}:0<=vv script k:=by
 unfold vv
 refine Int.add_nonneg (V0 _) (tQ _ λ x hx=>?_)
 apply iu (h:=hx);intro y _
 rw [XQ _ (by decide)]
 exact Int.emod_nonneg _ (by decide)
noncomputable def Od (script:List Int):V->V
 | .int k=>.int (vv script k.toNat)
 | v=>v
theorem Jl {k:Nat}(h:k<8):bq (pq.map λ n=>V.int (n:Nat)) k=some (.int (pq[k]?.getD 0:Nat)):=fF (P:=λ k=>bq (pq.map λ n=>V.int (n:Nat)) k=some (.int (pq[k]?.getD 0:Nat))) (n:=8) ⟨⟨⟨⟨⟨⟨⟨⟨trivial,rfl⟩,rfl⟩,rfl⟩,rfl⟩,rfl⟩,rfl⟩,rfl⟩,rfl⟩ k h
theorem yW {α β:Type}(f:α->β)(l:List α)(lo hi sp:Option Int):pick (l.map f) lo hi sp=(pick l lo hi sp).map f:=by
 unfold pick
 rw [Vl,List.map_filterMap]
 refine congrArg (λ g=>List.filterMap g _) (funext λ i=>?_)
 rw [bI,bI,Wy]
theorem Dv:∀ n:Fin 61,∀ k:Fin 8,Wn (sliceRange (sliceBounds (some (k.val:Int)) none (some 8) n.val).1 (sliceBounds (some (k.val:Int)) none (some 8) n.val).2.1 (sliceBounds (some (k.val:Int)) none (some 8) n.val).2.2).length 60=true:=by decide +kernel
theorem GK {script:List Int}{k:Nat}(hk:k<8):(tP script k).length<=60:=by
 unfold tP pick
 refine Vd (List.length_filterMap_le ..) ?_
 have hn:(script.take 60).length<61:=by rw [ZA];exact Wo (dT ..)
 exact VQ (Dv ⟨_,hn⟩ ⟨k,hk⟩)
noncomputable def Oe:V->V
 | .int x=>.int (x.fmod 1000000000)
 | v=>v
theorem GL {l:List Int}:[]++((l.map V.int).filter λ _=>true).map Oe=(l.map λ x=>x.fmod 1000000000).map V.int:=by
 rw [Vz,VU.mpr λ _ _=>rfl,VF,VF]
 exact WQ λ _ _=>rfl
end
namespace iR
noncomputable def aq (script:List Int)(C:Cx)(T:Th)(A:cN)(d:Nat)(X:XK)(kb:Nat)(h:List (Nat×MO))(Q:Fl->St->Prop):Prop:=∀ (O:On C T (d+1) (aO (aJ 27)).names) (H:Fx T A) (hs:script.length<=63) {stmts:List Stmt} (hw:bodyOf (aJ 27)=stmts) (q:ES C kb (execs ((bodyOf (aJ 27)).drop 2) C.env) ⟨[((Ve "script"),V.lst (script.map V.int)),("told",V.tup (pq.map λ n=>V.int (n:Nat))),("cells",V.lst ((VV 0 8).map λ k=>V.int (vv script k)))],h⟩ Q X),ES C kb (execs stmts C.env) ⟨[((Ve "script"),V.lst (script.map V.int))],h⟩ Q X
noncomputable def S0:=u9 aq
noncomputable def ε:=eu (by walk_at "ne") S0
theorem here:S0 ε:=by
 intro O H hs stmts hw q
 subst hw
 conv=>arg 3;arg 1;whnf
 walk_at "st"
 (with_reducible refine' ES.cons ?_)
 repeat walk_at "py"
 have rn:=CZ (n:=8) (by decide)
 have hI:∀ s:St,itemsOf s (V.qQ 0 ((8:Nat):Int) 1)=some (VO 0 ((8:Nat):Int) 1=true,(VV 0 8).map λ i=>V.int (i:Nat)):=λ s=>congrArg (λ l=>some (VO 0 ((8:Nat):Int) 1=true,l)) rn.2
 refine CJ.range (ay _ _ (hI _) rn.1 (⟨by decide,?_⟩))
 show LW _ _ _ _ _ _ _ [((Ve "script"),V.lst (ε.1.map V.int)),("told",V.tup (pq.map λ n=>V.int (n:Nat)))] _ _ _ _ _
 refine LW.pure O (λ _=>true) (Od ε.1) ⟨_,hI _⟩ (λ v hv=>?_) ?_
 ·apply iu (h:=hv);intro k hk
  have Jm:k<8:=WA (Yg.mp hk).2 (Ws _)
  have hsz:(ε.1.map V.int).length<=sizeLine:=by rw [Vl];exact Vd hs (by decide)
  intro C2 O2
  repeat walk_at "py"
  refine aC _ (dK (Jl Jm) (Vv (VJ Jm (by decide)))) ?_
  repeat walk_at "py"
  have ht:pick (ε.1.map V.int) none (some 60) none=(ε.1.take 60).map V.int:=by
   rw [yW,show (some (60:Int))=some ((60:Nat):Int) from rfl,uZ]
  rw [ht,yW]
  have Uj:((ε.1.take 60).map V.int).length<=sizeLine:=by rw [Vl,ZA];exact Vd (dT ..) (by decide)
  have hpl:((tP ε.1 k).map V.int).length<=sizeLine:=by rw [Vl];exact Vd (GK Jm) (by decide)
  refine ⟨⟨by decide,Uj⟩,ay _ _ rfl trivial (⟨hpl,?_⟩)⟩
  show LW _ _ _ _ _ _ (V.lst ((tP ε.1 k).map V.int)) [] ((tP ε.1 k).map V.int) _ _ _ _
  refine LW.pure O2 (λ _=>true) Oe ⟨_,rfl⟩ (λ v hv=>?_) ?_
  ·apply iu (h:=hv);intro x hx
   intro C3 O3
   repeat walk_at "py"
   exact bY (λ _ _ e=>aV e) rfl rfl
  rw [GL (l:=pick (ε.1.take 60) (some (k:Int)) none (some 8))]
  repeat walk_at "py"
  refine CJ.sum O2.toGood (ns:=(tP ε.1 k).map λ x=>x.fmod 1000000000) rfl ?_
  repeat walk_at "py"
  exact bY (aW _ [("k",.int (k:Nat))]) rfl rfl
 repeat walk_at "py"
 exact q
end iR
theorem Dw {C T A d X kb script h Q}:iR.aq script C T A d X kb h Q:=nR (S:=iR.S0) iR.here (script,C,T,A,d,X,kb,h,Q)
end
section
section
variable {C:Cx}{T:Th}{A:cN}{d:Nat}{N:List (Str×Vn)}{st:St}{X:XK}{kb:Nat}
theorem On.swap3 (O:On C T d N){t value:Expr}{pos:Pos}{a b c:Str}{Q:Fl->St->Prop}(hc:gO value=false)(hw:j9 N [t] value=some (some [a,b,c]))(ha:d8 N a=true)(hb:d8 N b=true)(hcc:d8 N c=true)
  (h:EV C (eval value C.env) st (λ v st1=>∃ x y z,v=.tup [x,y,z]/\Q .next (bK (bK (bK st1 c z) b y) a x)) X):ES C kb (exec (.Assign [t] value pos) C.env) st Q X:=
 O.fC hc hw (h.mono λ v st1=>aU λ x y z e q=>fu [x,y,z] e rfl (ASL.cons (O.bind hcc (ASL.cons (O.bind hb (ASL.cons (O.bind ha (ASL.nil q))))))))
noncomputable def nT (c:Nat->Nat):List V:=(VV 0 8).map λ k=>V.int (c k:Nat)
theorem yX {c:Nat->Nat}{k:Nat}(h:k<8):bq (nT c) k=some (.int (c k:Nat)):=cS (g:=λ k=>((c k:Nat):Int)) h
noncomputable def bC (c:Nat->Nat)(v:Nat):Int:=((c 1/97^v%97:Nat):Int)
noncomputable abbrev mJ (script:List Int)(c:Nat->Nat):List (Str×V):=[((Ve "script"),V.lst (script.map V.int)),("told",V.tup (pq.map λ n=>V.int (n:Nat))),("cells",V.lst (nT c)),("wide",.int (c 0/48%4:Nat)),("goal",.int (c 0/16%3:Nat)),("free",.int (c 0/4%4:Nat))]
theorem GN (O:On C T (d+1) (aO (aJ 27)).names)(H:Fx T A){script:List Int}{c:Nat->Nat}{h:List (Nat×MO)}{Q:Fl->St->Prop}{stmts:List Stmt}(hw:(bodyOf (aJ 27)).drop 2=stmts)
  (q:ES C kb (execs ((bodyOf (aJ 27)).drop 3) C.env) ⟨mJ script c,h⟩ Q X) :
  ES C kb (execs stmts C.env) ⟨[((Ve "script"),V.lst (script.map V.int)),("told",V.tup (pq.map λ n=>V.int (n:Nat))),("cells",V.lst (nT c))],h⟩ Q X:=by
 subst hw
 conv=>arg 3;arg 1;whnf
 (with_reducible refine' ES.cons ?_)
 refine O.swap3 rfl rfl rfl rfl rfl ?_
 repeat walk_at "py"
 refine cu _ _ _ rfl ?_
 repeat walk_at "py"
 have e4:((c 0:Int).fdiv 4).fmod 4=((c 0/4%4:Nat):Int):=(congrArg (ag · 4) (kZ (c 0) 4)).trans (fh _ 4)
 have Uk:((c 0:Int).fdiv 16).fmod 3=((c 0/16%3:Nat):Int):=De (c 0) 16
 have Ul:((c 0:Int).fdiv 48).fmod 4=((c 0/48%4:Nat):Int):=(congrArg (ag · 4) (kZ (c 0) 48)).trans (fh _ 4)
 refine ES.cut (st':=⟨mJ script c,h⟩) ?_ q
 unfold mJ
 rw [<-e4,<-Uk,<-Ul];rfl
end
end
section
section
variable {C:Cx}{T:Th}{A:cN}{d:Nat}{N:List (Str×Vn)}{st:St}{X:XK}{kb:Nat}
theorem dF {c:Nat->Nat}:ck (bC c):=λ v hv=>by
 unfold bC
 have:c 1/97^v%97<97:=Vy _ (by decide)
 exact ⟨V0 _,Wz.mpr (VJ this (by decide))⟩
noncomputable def LJ (c:Nat->Nat):V->V
 | .int k=>.str (aQ (bC c k.toNat))
 | v=>v
theorem Dy (O:On C T (d+1) (aO (aJ 27)).names)(H:Fx T A){script:List Int}{c:Nat->Nat}{h:List (Nat×MO)}{Q:Fl->St->Prop}{stmts:List Stmt}(hw:(bodyOf (aJ 27)).drop 3=stmts)
  (q:ES C kb (execs ((bodyOf (aJ 27)).drop 4) C.env) ⟨mJ script c++[((Ve "first"),V.lst (gv (bC c)))],h⟩ Q X) :
  ES C kb (execs stmts C.env) ⟨mJ script c,h⟩ Q X:=by
 subst hw
 conv=>arg 3;arg 1;whnf
 (with_reducible refine' ES.cons ?_)
 repeat walk_at "py"
 refine CJ.range (ay _ _ rfl (by decide +kernel) (⟨by decide +kernel,?_⟩))
 show LW _ _ _ _ _ _ _ [((Ve "cells"),V.lst (nT c))] _ _ _ _ _
 refine LW.pure O (λ _=>true) (LJ c) ⟨_,rfl⟩ (λ v hv=>?_) ?_
 ·obtain ⟨k,hk,rfl⟩:∃ k:Nat,k<3/\v=V.int (k:Nat):=by
   rcases Vm.mp hv with e | hv
   ·exact aC 0 (by decide) e
   rcases Vm.mp hv with e | hv
   ·exact aC 1 (by decide) e
   ·exact aC 2 (by decide) (Vi.mp hv)
  intro C2 O2
  repeat walk_at "py"
  have hp:(97:Int)^((k:Nat):Int).toNat=((97^k:Nat):Int):=by rw [XC];exact (Int.natCast_pow 97 k).symm
  have hp2:97^k<=97^2:=Nat.pow_le_pow_right (by decide) (V5 hk)
  have hp1:0<97^k:=Nat.pow_pos (by decide)
  have e:(((c (0+1):Nat):Int).fdiv ((97^k:Nat):Int)).fmod 97=bC c k:=(congrArg (ag · 97) (kZ (c 1) (97^k))).trans (fh _ 97)
  rw [hp]
  refine ⟨⟨λ z=>absurd (YZ z) (Xu hp1),VB hp2 (by decide)⟩,?_⟩
  repeat walk_at "py"
  rw [e]
  refine CJ.str_int (log2_small (dF k hk)) ?_
  exact bY (aW _ [("k",.int (k:Nat))]) rfl rfl
 repeat walk_at "py"
 exact q
end
end
section
section
variable {C:Cx}{T:Th}{A:cN}{d:Nat}{N:List (Str×Vn)}{st:St}{X:XK}{kb:Nat}
noncomputable abbrev tR (script:List Int)(c:Nat->Nat):List (Str×V):=mJ script c++[((Ve "first"),V.lst (gv (bC c)))]
noncomputable def Of:V->V
 | .int k=>.str (bW (k.toNat%3) false)
 | v=>v
theorem Jo {k:Nat} (h:k%3<3):bq [V.str (Ve "fiﬁ"),V.str (Ve "stﬆ"),V.str (Ve "ssß")] (k%3)=some (.str (mk (vt (k%3)))):=by
 generalize k%3=m at *
 match m,h with
 | 0,_=>rfl
 | 1,_=>rfl
 | 2,_=>rfl
theorem Dz (O:On C T (d+2) (aO (aJ 27)).names)(H:Fx T A){script:List Int}{c:Nat->Nat}{h:List (Nat×MO)}{Q:Fl->St->Prop}{stmts:List Stmt}(hw:(bodyOf (aJ 27)).drop 4=stmts)
  (q:ES C kb (execs ((bodyOf (aJ 27)).drop 5) C.env) ⟨tR script c++[((Ve "names"),V.lst jO)],h⟩ Q X) :
  ES C kb (execs stmts C.env) ⟨tR script c,h⟩ Q X:=by
 subst hw
 conv=>arg 3;arg 1;whnf
 (with_reducible refine' ES.cons ?_)
 repeat walk_at "py"
 have rn:=CZ (n:=6) (by decide)
 have hI:∀ s:St,itemsOf s (V.qQ 0 ((6:Nat):Int) 1)=some (VO 0 ((6:Nat):Int) 1=true,(VV 0 6).map λ i=>V.int (i:Nat)):=λ s=>congrArg (λ l=>some (VO 0 ((6:Nat):Int) 1=true,l)) rn.2
 refine CJ.range (ay _ _ (hI _) rn.1 (⟨by decide,?_⟩))
 show LW _ _ _ _ _ _ _ [((Ve "cells"),V.lst (nT c))] _ _ _ _ _
 refine LW.pure O (λ _=>true) Of ⟨_,hI _⟩ (λ v hv=>?_) ?_
 ·apply iu (h:=hv);intro k hk
  have Jm:2+k<8:=Xl (WA (Yg.mp hk).2 (Ws _)) 2
  have Qm:k%3<3:=Vy _ (by decide)
  intro C2 O2
  repeat walk_at "py"
  refine aC _ ((congrArg (λ x=>gq _ (V.tup _) (V.int x)) (fh k 3)).trans (dK (Jo Qm) (Vv (VJ Qm (by decide))))) ?_
  repeat walk_at "py"
  refine aC _ (dX (i:=2+k) (yX Jm) (Vv (VJ Jm (by decide)))) ?_
  repeat walk_at "py"
  have e:((c (2+k):Nat):Int).fdiv 648=((c (2+k)/648:Nat):Int):=kZ _ 648
  rw [e]
  refine CU.cj (Jk O2 H Qm ?_)
  exact bY (aW _ [("k",.int (k:Nat))]) rfl rfl
 repeat walk_at "py"
 exact q
end
end
section
section
variable {C:Cx}{T:Th}{A:cN}{d:Nat}{N:List (Str×Vn)}{st:St}{X:XK}{kb:Nat}
noncomputable abbrev pA (script:List Int)(c:Nat->Nat):List (Str×V):=tR script c++[((Ve "names"),V.lst jO)]
noncomputable def aN (c:Nat->Nat):List Nat:=(VV 0 (3+c 0%4)).map λ k=>c (2+k)%648
noncomputable def Og (c:Nat->Nat):V->V
 | .int k=>.int ((c (2+k.toNat)%648:Nat):Int)
 | v=>v
end
namespace jW
noncomputable def aq (c:Nat->Nat)(C:Cx)(T:Th)(A:cN)(d:Nat)(X:XK)(kb:Nat)(script:List Int)(h:List (Nat×MO))(Q:Fl->St->Prop):Prop:=∀ (O:On C T (d+1) (aO (aJ 27)).names) (H:Fx T A) {stmts:List Stmt} (hw:(bodyOf (aJ 27)).drop 5=stmts) (q:ES C kb (execs ((bodyOf (aJ 27)).drop 6) C.env) ⟨pA script c++[((Ve "numbers"),V.lst (cQ (aN c)))],h⟩ Q X),ES C kb (execs stmts C.env) ⟨pA script c,h⟩ Q X
noncomputable def S0:=KP aq
noncomputable def ε:=eu (by walk_at "ne") S0
theorem here:S0 ε:=by
 intro O H stmts hw q
 subst hw
 conv=>arg 3;arg 1;whnf
 (with_reducible refine' ES.cons ?_)
 repeat walk_at "py"
 have e:(3:Int)+((ε.1 0:Nat):Int).fmod 4=((3+ε.1 0%4:Nat):Int):=congrArg (λ x:Int=>3+x) (fh (ε.1 0) 4)
 have hm:ε.1 0%4<4:=Vy _ (by decide)
 have rn:=CZ (n:=3+ε.1 0%4) (Vx (Xl hm 3) (by decide))
 have hI:∀ s:St,itemsOf s (V.qQ 0 ((3+ε.1 0%4:Nat):Int) 1)=some (VO 0 ((3+ε.1 0%4:Nat):Int) 1=true,(VV 0 (3+ε.1 0%4)).map λ i=>V.int (i:Nat)):=λ s=>congrArg (λ l=>some (VO 0 ((3+ε.1 0%4:Nat):Int) 1=true,l)) rn.2
 rw [e]
 refine CJ.range (ay _ _ (hI _) rn.1 (⟨by rw [Vl,V4];exact Vd (Vq (Vv hm) 3) (by decide),?_⟩))
 show LW _ _ _ _ _ _ _ [((Ve "cells"),V.lst (nT ε.1))] _ _ _ _ _
 refine LW.pure O (λ _=>true) (Og ε.1) ⟨_,hI _⟩ (λ v hv=>?_) ?_
 ·apply iu (h:=hv);intro k hk
  have Jm:2+k<8:=Vx (Xl (WA (Yg.mp hk).2 (Ws _)) 2) (Vq (Vq (V5 hm) 3) 2)
  intro C2 O2
  repeat walk_at "py"
  refine aC _ (dX (i:=2+k) (yX Jm) (Vv (VJ Jm (by decide)))) ?_
  repeat walk_at "py"
  exact bY (aW _ [("k",.int (k:Nat))]) rfl (congrArg V.int (fh _ 648))
 have e2:[]++(((VV 0 (3+ε.1 0%4)).map λ i=>V.int (i:Nat)).filter λ _=>true).map (Og ε.1)=cQ (aN ε.1):=by
  rw [Vz,VU.mpr λ _ _=>rfl]
  unfold cQ aN
  rw [VF,VF]
  exact WQ λ _ _=>rfl
 rw [e2]
 repeat walk_at "py"
 exact q
end jW
theorem GO {C T A d X kb script c h Q}:jW.aq c C T A d X kb script h Q:=nR (S:=jW.S0) jW.here (c,C,T,A,d,X,kb,script,h,Q)
end
section
noncomputable def RU (i:Nat):V->V
 | .int o=>.int (o+128*((i%2:Nat):Int))
 | v=>v
section
variable {C:Cx}{T:Th}{A:cN}{d:Nat}{N:List (Str×Vn)}{st:St}{X:XK}{kb:Nat}
noncomputable abbrev eV (script:List Int)(c:Nat->Nat)(tk:Nat):List (Str×V):=pA script c++[((Ve "numbers"),V.lst (cQ (aN c))),("tape",V.loc tk)]
end
namespace iS
noncomputable def aq (n i:Nat)(c:Nat->Nat)(l:List Nat)(script:List Int)(tk:Nat)(h:List (Nat×MO))(C:Cx)(T:Th)(A:cN)(d:Nat)(X:XK)(kb:Nat)(Q:Fl->St->Prop):Prop:=∀ (O:On C T (d+1) (aO (aJ 27)).names) (H:Fx T A) {target:Expr}{body:List Stmt} (hw:yy (bodyOf (aJ 27)) 7=(target,body)) (hk:J h tk=some (.lst (bz l))) (hl:l.length<=100) (hn:n<648) (q:∀ ex,Q .next ⟨eV script c tk++ex,af h tk (.lst (bz l++bz (enc (c 0/48%4) i n)))⟩),ES C kb (execs body C.env) ⟨eV script c tk++[((Ve "i"),V.int (i:Nat)),("number",V.int (n:Nat))],h⟩ Q X
noncomputable def S0:=HZ aq
noncomputable def ε:=eu (by walk_at "ne") S0
theorem here:S0 ε:=by
 intro O H target body hw hk hl hn q
 refine qP (λ e_ cg=>?_) hw;subst e_ cg
 conv=>arg 3;arg 1;whnf
 have hm:ε.2.2.1 0/48%4<4:=Vy _ (by decide)
 (with_reducible refine' ES.cons ?_)
 iterate 9 walk_at "py"
 with_reducible refine' EV.flist ?_
 iterate 4 walk_at "py"
 walk_at "py"
 refine ay _ _ rfl (bY (V0 _) (Int.lt_of_lt_of_le (Wz.mpr hm) (by decide)) (by rw [XC];exact Vd (VP 1 (Vv hm)) (by decide))) ?_
 rw [XC]
 walk_at "py"
 with_reducible refine' EV.flist ?_
 iterate 6 walk_at "py"
 have Um:(64:Int)+((ε.1:Nat):Int).fdiv 64=((64+ε.1/64:Nat):Int):=congrArg (64 + ·) (kZ ε.1 64)
 have Un:((ε.1:Nat):Int).fmod 64=((ε.1%64:Nat):Int):=fh ε.1 64
 have e2:((ε.2.1:Nat):Int).fmod 2=((ε.2.1%2:Nat):Int):=fh ε.2.1 2
 have hi2:ε.2.1%2<2:=Vy _ (by decide)
 refine EV.mono (Q:=λ v s=>v=V.bool (Xf 63 ε.1||Vo (ε.2.1%2) 1)/\s=⟨eV ε.2.2.2.2.1 ε.2.2.1 ε.2.2.2.2.2.1++[((Ve "i"),V.int (ε.2.1:Nat)),("number",V.int (ε.1:Nat))],ε.2.2.2.2.2.2.1⟩) ?_ ?_
 ·repeat walk_at "py"
  cases e1:decide ((63:Int)<((ε.1:Nat):Int)) with
  | true=>
   have:Xf 63 ε.1=true:=VS (Wz.mp (of_decide_eq_true e1))
   rw [this]
   exact ⟨λ _=>⟨rfl,rfl⟩,nofun⟩
  | false=>
   have:Xf 63 ε.1=false:=by
    cases z:Xf 63 ε.1 with
    | false=>rfl
    | true=>exact absurd (Wz.mpr (VQ z)) (of_decide_eq_false e1)
   rw [this]
   refine ⟨nofun,λ _=>?_⟩
   repeat walk_at "py"
   refine ⟨congrArg V.bool ?_,rfl⟩
   rw [e2]
   generalize ε.2.1%2=b at *
   match b,hi2 with
   | 0,_=>rfl
   | 1,_=>rfl
 intro _ _;refine qA λ e_ cg=>?_;subst e_ cg
 unfold enc at q
 generalize (Xf 63 ε.1||Vo (ε.2.1%2) 1)=b at *
 repeat walk_at "py"
 refine CJ.int_bool ?_
 refine ay _ _ rfl (bY (by induction b<;>decide) (by induction b<;>decide) (by induction b<;>(show 1*_<=_;decide))) ?_
 walk_at "py"
 have eL:(Wx (ε.2.2.1 0/48%4) [V.int 64]).flatten=bz (Wx (ε.2.2.1 0/48%4) 64):=by
  rw [List.flatten_replicate_singleton];unfold bz;rw [List.map_replicate];rfl
 have eB:(Wx (if b=true then (1:Int) else 0).toNat [V.int (64+((ε.1:Nat):Int).fdiv 64)]).flatten=bz (bif b then [64+ε.1/64] else []):=by
  rw [Um];induction b<;>rfl
 have lB:(bif b then [64+ε.1/64] else []).length<=1:=by induction b<;>(first | exact WC _ | exact VD _)
 rw [eL,eB]
 generalize (bif b then [64+ε.1/64] else [])=B at *
 generalize hW:Wx (ε.2.2.1 0/48%4) 64=W at *
 have lW:W.length<=4:=by rw [<-hW,List.length_replicate];exact Vv hm
 have oW:(bz W).length=W.length:=Vl ..
 have oB:(bz B).length=B.length:=Vl ..
 refine ⟨by rw [oW,oB];exact Vd (V9 lW lB) (by decide),?_⟩
 walk_at "frz"
 have eA:bz W++bz B++[V.int (((ε.1:Nat):Int).fmod 64)]=bz (W++B++[ε.1%64]):=by
  rw [lq,lq,Un];rfl
 rw [eA]
 have lA:(bz (W++B++[ε.1%64])).length<=sizeLine:=by
  rw [<-eA,Vk,Vk,oW,oB]
  exact Vd (VN (V9 lW lB) 1) (by decide)
 refine ⟨by rw [Vk,oW,oB];exact Vd (VN (V9 lW lB) 1) (by decide),ay _ _ rfl trivial (⟨lA,?_⟩)⟩
 show LW _ _ _ _ _ _ _ [((Ve "i"),V.int (ε.2.1:Nat))] _ _ _ _ _
 refine LW.pure O (λ _=>true) (RU ε.2.1) ⟨_,rfl⟩ (λ v hv=>?_) ?_
 ·apply iu (h:=hv);intro o ho
  intro C2 O2
  have hb:(128:Int).natAbs<2^62\/(((ε.2.1:Nat):Int).fmod 2).natAbs<2^62:=.inl (by decide)
  repeat walk_at "py"
  exact bY (aW _ [("octet",.int (o:Nat))]) rfl (congrArg (λ z=>V.int ((o:Nat)+128*z)) e2)
 have eM:[]++((bz (W++B++[ε.1%64])).filter λ _=>true).map (RU ε.2.1)=bz ((W++B++[ε.1%64]).map (· + 128*(ε.2.1%2))):=by
  rw [Vz,VU.mpr λ _ _=>rfl]
  unfold bz
  rw [VF,VF]
  exact WQ λ _ _=>rfl
 rw [eM]
 repeat walk_at "py"
 refine CJ.extend (l:=bz ε.2.2.2.1) hk rfl ?_ ?_
 ·rw [<-eM,Vz,Vl]
  refine Vd (Vq (WD ..) _) ?_
  rw [<-eA,Vk,Vk,oW,oB,show (bz ε.2.2.2.1).length=ε.2.2.2.1.length from Vl ..]
  exact Vd (V9 hl (VN (V9 lW lB) 1)) (by decide)
 repeat walk_at "py"
 exact q _
end iS
theorem DA {C T A d X kb script c tk i n l h Q}:iS.aq n i c l script tk h C T A d X kb Q:=nR (S:=iS.S0) iS.here (n,i,c,l,script,tk,h,C,T,A,d,X,kb,Q)
section
variable {C:Cx}{T:Th}{A:cN}{d:Nat}{N:List (Str×Vn)}{st:St}{X:XK}{kb:Nat}
theorem Jp {w i n:Nat}(hw:w<4):(enc w i n).length<=5:=by
 unfold enc
 have lB:(bif (Xf 63 n||Vo (i%2) 1) then [64+n/64] else []).length<=1:=by cases (Xf 63 n||Vo (i%2) 1)<;>(first | exact WC _ | exact VD _)
 rw [Vl,Vk,Vk,List.length_replicate]
 exact VN (V9 (V5 hw) lB) 1
noncomputable def jX (nums:List Nat):List (Nat×Nat):=nums.zipIdx.map λ p=>(p.2,p.1)
theorem DB {pre:List Nat}{n:Nat}:jX (pre++[n])=jX pre++[(pre.length,n)]:=by
 unfold jX
 rw [List.zipIdx_append,VI,Ws];rfl
noncomputable def qw (w:Nat)(l:List (Nat×Nat)):List Nat:=(l.map λ p=>enc w p.1 p.2).flatten
theorem Ao {w:Nat}{l:List (Nat×Nat)}{p:Nat×Nat}:qw w (l++[p])=qw w l++enc w p.1 p.2:=by
 unfold qw
 rw [VI,List.flatten_append]
 exact congrArg _ (VT _)
theorem mK {w:Nat}(hw:w<4):∀ l:List (Nat×Nat),(qw w l).length<=5*l.length
 | []=>VD _
 | p::l=>by
  show (_++_:List Nat).length<=_
  rw [Vk,V3]
  exact Vd (V9 (Jp hw) (mK hw l)) (VK (WG 5 _))
theorem dR {nums:List Nat}:(jX nums).length=nums.length:=by unfold jX;rw [Vl,List.length_zipIdx]
noncomputable def Oh (script:List Int)(c:Nat->Nat)(tk:Nat)(nums:List Nat)(h:List (Nat×MO))(rv:List V)(s:St):Prop:=
 ∃ pre rest,nums=pre++rest/\rv=Gn pre.length (cQ rest)/\gf (eV script c tk) s.vars/\ai [tk] h s.heap/\J s.heap tk=some (.lst (bz (qw (c 0/48%4) (jX pre))))
theorem fU {c:Nat->Nat}:(aN c).length=3+c 0%4:=by unfold aN;rw [Vl,V4]
theorem pB {c:Nat->Nat}:∀ n∈aN c,n<648:=λ n hn=>by
 apply iu (h:=hn);intro k _
 exact Vy _ (by decide)
end
namespace jY
noncomputable def aq (c:Nat->Nat)(h:List (Nat×MO))(script:List Int)(kb:Nat)(C:Cx)(T:Th)(A:cN)(d:Nat)(X:XK)(Q:Fl->St->Prop):Prop:=∀ (O:On C T (d+1) (aO (aJ 27)).names) (Tp:C.Top) (H:Fx T A) {stmts:List Stmt} (hw:(bodyOf (aJ 27)).drop 6=stmts) (q:∀ h' tk,ai [] h h'->J h tk=none->J h' tk=some (.lst (bz (bw (c 0/48%4) (jX (aN c)))))->ES C kb (execs ((bodyOf (aJ 27)).drop 9) C.env) ⟨eV script c tk,h'⟩ Q X),ES C kb (execs stmts C.env) ⟨pA script c++[((Ve "numbers"),V.lst (cQ (aN c)))],h⟩ Q X
noncomputable def S0:=KP aq
noncomputable def ε:=eu (by walk_at "ne") S0
theorem here:S0 ε:=by
 intro O Tp H stmts hw q
 subst hw
 have key:=@DA
 conv=>arg 3;arg 1;whnf
 (with_reducible refine' ES.cons ?_)
 walk_at "py"
 walk_at "own"
 have f1:J ε.2.1 (fresh ε.2.1)=none:=aA _
 refine ES.cut (st':=⟨eV ε.2.2.1 ε.1 (fresh ε.2.1),af ε.2.1 (fresh ε.2.1) (.lst [])⟩) (by rfl) ?_
 have g1:ai [] ε.2.1 (af ε.2.1 (fresh ε.2.1) (.lst [])):=ai.refl.new f1
 have k1:J (af ε.2.1 (fresh ε.2.1) (.lst [])) (fresh ε.2.1)=some (.lst []):=aj
 generalize af ε.2.1 (fresh ε.2.1) (.lst [])=h1 at *
 generalize fresh ε.2.1=tk at *
 have DC:ε.1 0%4<4:=Vy _ (by decide)
 have OY:ε.1 0/48%4<4:=Vy _ (by decide)
 have OZ:(aN ε.1).length<=6:=by rw [fU];exact Vq (V5 DC) 3
 have hn:∀ n∈aN ε.1,n<648:=pB
 (with_reducible refine' ES.cons ?_)
 refine O.wA (tg:=rZ) Tp rfl ⟨_,_,_,rfl⟩ ?_
 refine O.enum (by walk_at "nm") rfl rfl ?_
 repeat walk_at "py"
 refine fu ε.2.2.2.1 (VD _) ⟨oZ,trivial⟩ ?_
 refine jl.ind (I:=Oh ε.2.2.1 ε.1 tk (aN ε.1) h1) ?_ ?_ _ _ ⟨[],aN ε.1,rfl,rfl,λ _ _ e=>e,ai.refl,k1⟩
 ·intro s;refine ak λ pre rest uD nX=>fJ λ hsv g k2=>?_
  refine ⟨rfl,ES.drop hsv ?_⟩
  obtain rfl:rest=[]:=by
   induction rest using VY with
   | nil=>rfl
   | cons n l=>exact nomatch nX
  rw [VT] at uD
  subst uD
  have hz:(bz (qw (ε.1 0/48%4) (jX (aN ε.1)))).length<=sizeLine:=by
   unfold bz
   rw [Vl]
   refine Vd (mK OY _) ?_
   rw [dR]
   exact Vd (VP 5 OZ) (by decide)
  walk_at "st"
  refine q _ tk (ai.keys g1 (ai.put g (Vi.mpr rfl)) λ k z=>.inr (Vi.mp z▸f1)) f1 ?_
  ·rw [show bz (bw (ε.1 0/48%4) (jX (aN ε.1)))=bz (qw (ε.1 0/48%4) (jX (aN ε.1)))++bz [70] from lq _ _]
   exact aj
 ·intro v rv s;refine ak λ pre rest uD nX=>fJ λ hsv g k2=>?_
  refine ⟨rfl,λ C2 O2 T2=>AS.drop hsv ?_⟩
  obtain ⟨n,rest,rfl⟩:∃ n l,rest=n::l:=by
   induction rest using VY with
   | nil=>exact nomatch nX
   | cons n l=>exact rD _ _ rfl
  refine qA (λ e_ cg=>?_) (Wu nX);subst e_ cg
  have hlen:(aN ε.1).length=pre.length+(rest.length+1):=by rw [uD,Vk];rfl
  walk_at "py"
  repeat walk_at "py"
  refine key O2 H rfl k2 ?_ (hn n (by rw [uD];exact Wa.mpr (.inr (VC ..)))) λ ex=>?_
  ·refine Vd (mK OY _) ?_
   rw [dR];exact Vd (VP 5 (Vd (Vd (Vw _ _) (VK hlen.symm)) OZ)) (by decide)
  ·refine ⟨pre++[n],rest,by rw [uD,Vs];rfl,by rw [Vk];rfl,aW _ _,g.trans (ai.refl.put (Vi.mpr rfl)),?_⟩
   rw [DB,Ao,lq]
   exact aj
end jY
theorem GP {C T A d X kb script c h Q}:jY.aq c h script kb C T A d X Q:=nR (S:=jY.S0) jY.here (c,h,script,kb,C,T,A,d,X,Q)
end
section
section
variable {C:Cx}{T:Th}{A:cN}{d:Nat}{N:List (Str×Vn)}{st:St}{X:XK}{kb:Nat}
noncomputable abbrev ia (script:List Int)(c:Nat->Nat)(tk sk lk ek:Nat):List (Str×V):=eV script c tk++[((Ve "size"),V.int ((aN c).length:Nat)),("slopes",V.loc sk),("log",V.loc lk),("seen",V.loc ek)]
theorem DE (O:On C T (d+3) (aO (aJ 27)).names)(H:Fx T A){script:List Int}{c:Nat->Nat}{h:List (Nat×MO)}{Q:Fl->St->Prop}{stmts:List Stmt}{tk:Nat}(hw:(bodyOf (aJ 27)).drop 9=stmts)
  (hk:J h tk=some (.lst (bz (bw (c 0/48%4) (jX (aN c))))))
  (q:∀ h' sk dD bV lk cD bx ek,ai [] h h'->J h ek=none->J h bV=none->J h bx=none->aB A ⟨[],h'⟩ sk dD bV []->aB A ⟨[],h'⟩ lk cD bx []->J h' ek=some (.lst [])->bV≠bx->bV≠ek->bx≠ek->ES C kb (execs ((bodyOf (aJ 27)).drop 10) C.env) ⟨ia script c tk sk lk ek,h'⟩ Q X) :
  ES C kb (execs stmts C.env) ⟨eV script c tk,h⟩ Q X:=by
 subst hw
 conv=>arg 3;arg 1;whnf
 have DC:c 0%4<4:=Vy _ (by decide)
 have OZ:(jX (aN c)).length<=8:=by rw [dR,fU];exact Vd (Vq (V5 DC) 3) (by decide)
 have hn:∀ p∈jX (aN c),p.2<648:=λ p hp=>by
  apply iu (h:=hp);intro r hr
  exact pB _ (List.fst_mem_of_mem_zipIdx hr)
 (with_reducible refine' ES.cons ?_)
 repeat walk_at "py"
 refine CU.cj (IV O H (aT hk) OZ hn λ h1 g1=>?_)
 rw [dR]
 repeat walk_at "py"
 walk_at "own"
 show CJ C _ [V.loc (fresh h1)] [] [] ⟨eV script c tk,af h1 (fresh h1) (.lst [])⟩ _ _
 have f2:J h1 (fresh h1)=none:=aA _
 have g2:ai [] h1 (af h1 (fresh h1) (.lst [])):=ai.refl.new f2
 have k2:J (af h1 (fresh h1) (.lst [])) (fresh h1)=some (.lst (tab [])):=aj
 generalize af h1 (fresh h1) (.lst [])=h2 at *
 generalize fresh h1=bV at *
 refine rB O H k2 nofun λ sk dD h3 g3 HS U7 Uo=>?_
 repeat walk_at "py"
 walk_at "own"
 show CJ C _ [V.loc (fresh h3)] [] [] ⟨eV script c tk,af h3 (fresh h3) (.lst [])⟩ _ _
 have f4:J h3 (fresh h3)=none:=aA _
 have g4:ai [] h3 (af h3 (fresh h3) (.lst [])):=ai.refl.new f4
 have k4:J (af h3 (fresh h3) (.lst [])) (fresh h3)=some (.lst (tab [])):=aj
 generalize af h3 (fresh h3) (.lst [])=h4 at *
 generalize fresh h3=bx at *
 refine rB O H k4 nofun λ lk cD h5 g5 HL U8 Uq=>?_
 repeat walk_at "py"
 walk_at "own"
 refine ES.cut (st':=⟨ia script c tk sk lk (fresh h5),af h5 (fresh h5) (.lst [])⟩) (by rfl) ?_
 have f6:J h5 (fresh h5)=none:=aA _
 have g6:ai [] h5 (af h5 (fresh h5) (.lst [])):=ai.refl.new f6
 have k6:J (af h5 (fresh h5) (.lst [])) (fresh h5)=some (.lst []):=aj
 generalize af h5 (fresh h5) (.lst [])=h6 at *
 generalize fresh h5=ek at *
 have G3:=ai.trans g1 (ai.trans g2 g3)
 have G5:=ai.trans G3 (ai.trans g4 g5)
 have s3:=ai.at g3 k2 Vr
 have s5:=ai.at (ai.trans g4 g5) s3 Vr
 have l5:=ai.at g5 k4 Vr
 exact q h6 sk dD bV lk cD bx ek (ai.trans G5 g6) (ai.gW G5 f6) (ai.gW g1 f2) (ai.gW G3 f4) (HS.lg (ai.trans g4 (ai.trans g5 g6))) (HL.lg g6) k6 (aY s3 f4) (aY s5 f6) (aY l5 f6)
theorem GQ:aQ 1=Ve "1":=by rfl
end
namespace mL
noncomputable def aq (c:Nat->Nat)(sk lk ek:Nat)(script:List Int)(tk:Nat)(A:cN)(h:List (Nat×MO))(dD bV cD bx kp:Nat)(C:Cx)(T:Th)(d:Nat)(X:XK)(kb:Nat)(Q:Fl->St->Prop):Prop:=∀ (O:On C T (d+3) (aO (aJ 27)).names) (H:Fx T A) {stmts:List Stmt} (hw:(bodyOf (aJ 27)).drop 10=stmts) (HS:aB A ⟨[],h⟩ sk dD bV []) (HL:aB A ⟨[],h⟩ lk cD bx []) (hE:J h ek=some (.lst [])) (hP:J h kp=some (.qj A.eY kp)) (d1:bV≠bx) (d2:bV≠ek) (d3:bx≠ek) (q:∀ h' pk,ai [bV] h h'->nj A h' sk dD bV lk cD bx ek kp (s0 (c 0/16%3)) 0 []->oY [bV,bx,ek] h' (.loc pk) (Af (aN c).length) (c 0/4%4) (aN c).length->ES C kb (execs ((bodyOf (aJ 27)).drop 12) C.env) ⟨ia script c tk sk lk ek++[((Ve "kit"),cJ (bC c) (.loc pk) sk lk ek)],h'⟩ Q X),ES C kb (execs stmts C.env) ⟨ia script c tk sk lk ek,h⟩ Q X
noncomputable def S0:=O5 aq
noncomputable def ε:=eu (by walk_at "ne") S0
theorem here:S0 ε:=by
 intro O H stmts hw HS HL hE hP d1 d2 d3 q
 subst hw
 conv=>arg 3;arg 1;whnf
 have BN:ε.1 0/16%3<3:=Vy _ (by decide)
 have D5:ε.1 0/4%4<=3:=V5 (Vy _ (by decide))
 have DC:ε.1 0%4<4:=Vy _ (by decide)
 have hl:3<=(aN ε.1).length/\(aN ε.1).length<=6:=by rw [fU];exact ⟨Vw 3 _,Vq (V5 DC) 3⟩
 have hn:=dX (st:=⟨ia ε.2.2.2.2.1 ε.1 ε.2.2.2.2.2.1 ε.2.1 ε.2.2.1 ε.2.2.2.1,ε.2.2.2.2.2.2.2.1⟩) (lu (i:=ε.1 0/16%3) (VJ BN (by decide))) (Vv (VJ BN (by decide)))
 rw [Nat.mod_eq_of_lt BN] at hn
 have b1:=HS.hi
 have b2:=HS.hd
 (with_reducible refine' ES.cons ?_)
 repeat walk_at "py"
 refine aC _ hn ?_
 repeat walk_at "py"
 rw [<-GQ]
 refine CU.cj (s7 O H HS.at (WC _) (jo _ BN false) (nS (by decide) (by decide)) (Vd (mw (by decide) (by decide)) (by decide)) λ h1 g1 Ur=>?_)
 repeat walk_at "py"
 refine ES.cut (st':=⟨ia ε.2.2.2.2.1 ε.1 ε.2.2.2.2.2.1 ε.2.1 ε.2.2.1 ε.2.2.2.1,h1⟩) (by rfl) ?_
 have W:nj ε.2.2.2.2.2.2.1 h1 ε.2.1 ε.2.2.2.2.2.2.2.2.1 ε.2.2.2.2.2.2.2.2.2.1 ε.2.2.1 ε.2.2.2.2.2.2.2.2.2.2.1 ε.2.2.2.2.2.2.2.2.2.2.2.1 ε.2.2.2.1 ε.2.2.2.2.2.2.2.2.2.2.2.2.1 (s0 (ε.1 0/16%3)) 0 []:=
  {S:=Ur.lg ai.refl
   vg:=λ r hr=>by obtain rfl:=Vi.mp hr;exact ⟨BN,(by decide:(0:Int)<=1),(by decide:(1:Int)<9973)⟩
   L:=⟨[],rfl,HL.grow g1 (bf (jQ HL.hi HS.hl nofun)) (bf (jQ HL.hd HS.hl nofun)) (bf d1.symm)⟩
   E:=g1.at hE (bf d2.symm)
   P:=g1.at hP (bf (jQ hP HS.hl nofun))
   d1:=d1
   d2:=d2
   d3:=d3}
 (with_reducible refine' ES.cons ?_)
 repeat walk_at "py"
 refine CU.cj (I6 O H (Ye hl.1) (Vd hl.2 (by decide)) D5 λ h2 pk yI g2 e0 e1 er=>?_)
 repeat walk_at "py"
 refine aI (λ ll _ LT=>?_) W.L
 refine q h2 pk (g1.trans (g2.sub λ k z=>nomatch z)) (W.grow g2) (Gb (Vd (by decide) hl.1) e0 e1 er (λ k hk=>?_) λ i hi=>(yJ _ i hl.1 hl.2 (Vd hi D5)).1)
 rcases Vm.mp hk with rfl | hk
 ·rw [W.S.hl];exact nofun
 rcases Vm.mp hk with rfl | hk
 ·rw [LT.hl];exact nofun
 ·rw [Vi.mp hk,W.E];exact nofun
end mL
theorem Jq {C T A d X kb script c h Q tk sk dD bV lk cD bx ek kp}:mL.aq c sk lk ek script tk A h dD bV cD bx kp C T d X kb Q:=nR (S:=mL.S0) mL.here (c,sk,lk,ek,script,tk,A,h,dD,bV,cD,bx,kp,C,T,d,X,kb,Q)
end
section
section
variable {C:Cx}{T:Th}{A:cN}{d:Nat}{N:List (Str×Vn)}{st:St}{X:XK}{kb:Nat}
noncomputable abbrev lE (script:List Int)(c:Nat->Nat)(tk sk lk ek pk:Nat):List (Str×V):=ia script c tk sk lk ek++[((Ve "kit"),cJ (bC c) (.loc pk) sk lk ek)]
theorem Aq {nums:List Nat}:numsOf (jX nums)=nums:=by
 unfold numsOf jX
 rw [VF]
 exact List.zipIdx_map_fst ..
theorem DF:∀ (a:Fin 7) (b:Fin 4),Wn (ly a.val b.val) 800=true:=by decide +kernel
theorem tS {a b:Nat}(ha:a<=6)(hb:b<=3):ly a b<=800:=VQ (DF ⟨a,Wo ha⟩ ⟨b,Wo hb⟩)
end
namespace mO
noncomputable def aq (c:Nat->Nat)(h:List (Nat×MO))(C:Cx)(sk lk ek pk:Nat)(script:List Int)(tk dD bV cD bx kp:Nat)(T:Th)(A:cN)(d:Nat)(X:XK)(kb:Nat)(Q:Fl->St->Prop):Prop:=∀ (O:On C T (d+20) (aO (aJ 27)).names) (H:Fx T A) {stmts:List Stmt} (hw:(bodyOf (aJ 27)).drop 12=stmts) (htk:J h tk=some (.lst (bz (bw (c 0/48%4) (jX (aN c)))))) (ht:tk∉[bV,bx,ek]) (W:nj A h sk dD bV lk cD bx ek kp (s0 (c 0/16%3)) 0 []) (P:oY [bV,bx,ek] h (.loc pk) (Af (aN c).length) (c 0/4%4) (aN c).length) (q:∀ h',ai [bV,bx,ek] h h'->nj A h' sk dD bV lk cD bx ek kp (bS (bC c) (aL (bC c)) (s0 (c 0/16%3)) (aN c)) (ly (aN c).length (c 0/4%4)) (sS (bC c) (aL (bC c)) (s0 (c 0/16%3)) (aN c))->ES C kb (execs ((bodyOf (aJ 27)).drop 13) C.env) ⟨lE script c tk sk lk ek pk,h'⟩ Q X),ES C kb (execs stmts C.env) ⟨lE script c tk sk lk ek pk,h⟩ Q X
noncomputable def S0:=O6 aq
noncomputable def ε:=eu (by walk_at "ne") S0
theorem here:S0 ε:=by
 intro O H stmts hw htk ht W P q
 subst hw
 conv=>arg 3;arg 1;whnf
 have BN:ε.1 0/16%3<3:=Vy _ (by decide)
 have D5:ε.1 0/4%4<=3:=V5 (Vy _ (by decide))
 have OY:ε.1 0/48%4<4:=Vy _ (by decide)
 have DC:ε.1 0%4<4:=Vy _ (by decide)
 have hl:3<=(aN ε.1).length/\(aN ε.1).length<=6:=by rw [fU];exact ⟨Vw 3 _,Vq (V5 DC) 3⟩
 have hn:∀ p∈jX (aN ε.1),p.2<648:=λ p hp=>by
  apply iu (h:=hp);intro r hr
  exact pB _ (List.fst_mem_of_mem_zipIdx hr)
 have hz:(bw (ε.1 0/48%4) (jX (aN ε.1))).length<=1000:=by
  show (qw _ _++[70]).length<=_
  rw [Vk]
  refine Vd (VN (mK OY _) 1) ?_
  rw [dR]
  exact Vd (VN (VP 5 hl.2) 1) (by decide)
 (with_reducible refine' ES.cons ?_)
 repeat walk_at "py"
 walk_at "own"
 have f1:J ε.2.1 (fresh ε.2.1)=none:=aA _
 show CJ ε.2.2.1 _ [V.loc (fresh ε.2.1)] [] [] ⟨lE ε.2.2.2.2.2.2.2.1 ε.1 ε.2.2.2.2.2.2.2.2.1 ε.2.2.2.1 ε.2.2.2.2.1 ε.2.2.2.2.2.1 ε.2.2.2.2.2.2.1,af ε.2.1 (fresh ε.2.1) (.lst (tab (tabS (aL (bC ε.1)))))⟩ _ _
 have g1:ai [] ε.2.1 (af ε.2.1 (fresh ε.2.1) (.lst (tab (tabS (aL (bC ε.1)))))):=ai.refl.new f1
 have k1:J (af ε.2.1 (fresh ε.2.1) (.lst (tab (tabS (aL (bC ε.1)))))) (fresh ε.2.1)=some (.lst (tab (tabS (aL (bC ε.1))))):=aj
 generalize af ε.2.1 (fresh ε.2.1) (.lst (tab (tabS (aL (bC ε.1)))))=h1 at *
 generalize fresh ε.2.1=hk at *
 refine rB O H k1 (oR (o7 dF)) λ n dk h2 g2 HT fn U9=>?_
 repeat walk_at "py"
 have G2:=g1.trans g2
 refine aI (λ ll _ LT=>?_) W.L
 have back:=Bw (C:=ε.2.2.1) (cf:=Af (aN ε.1).length) (w:=ε.1 0/48%4) (sk:=ε.2.2.2.1) (dD:=ε.2.2.2.2.2.2.2.2.2.1) (bV:=ε.2.2.2.2.2.2.2.2.2.2.1) (lk:=ε.2.2.2.2.1) (cD:=ε.2.2.2.2.2.2.2.2.2.2.2.1) (bx:=ε.2.2.2.2.2.2.2.2.2.2.2.2.1) (ek:=ε.2.2.2.2.2.1) (kp:=ε.2.2.2.2.2.2.2.2.2.2.2.2.2.1) (pl:=.loc ε.2.2.2.2.2.2.1) (B:=ε.1 0/4%4) (S:=(aN ε.1).length) H (dF (c:=ε.1)) (Vd hl.2 (by decide)) (Vd D5 (by decide)) 12
 unfold qe at back
 rw [<-dR (nums:=aN ε.1)]
 refine CU.cj (back (pre:=jX (aN ε.1)) (post:=[]) (m:=0) O (by rw [dR];exact (yJ _ _ hl.1 hl.2 D5).2) (VD _) (by rw [dR];exact VD _)
  (by rw [VT];exact aT (G2.at htk Vr)) (by rw [VT];exact hn) (by rw [VT];exact hz) HT.at (o7 dF) (by rw [dR];exact Vd (Vq hl.2 2) (by decide)) (W.grow G2) ?_ ?_ ?_ (bY (gX f1 W.S.hl) (gX f1 LT.hl) (gX f1 W.E)) (λ k e=>?_) (P.grow (g1.trans g2 |>.sub λ k z=>nomatch z)) λ h3 g3 W3=>?_)
 ·rw [Ws];exact tS hl.2 D5
 ·rw [dR];exact Vd (Vq (VP 2 hl.2) 1) (by decide)
 ·rw [dR];exact Vd (Vq hl.2 0) (by decide)
 ·cases e;exact ht
 ·rw [Aq,Ws,Vz] at W3
  repeat walk_at "py"
  exact q h3 (ai.trans (ai.sub G2 λ k z=>nomatch z) g3) W3
end mO
theorem Jr {C T A d X kb script c h Q tk sk dD bV lk cD bx ek kp pk}:mO.aq c h C sk lk ek pk script tk dD bV cD bx kp T A d X kb Q:=nR (S:=mO.S0) mO.here (c,h,C,sk,lk,ek,pk,script,tk,dD,bV,cD,bx,kp,T,A,d,X,kb,Q)
end
section
section
variable {C:Cx}{T:Th}{A:cN}{d:Nat}{N:List (Str×Vn)}{st:St}{X:XK}{kb:Nat}
noncomputable def gw (free:Nat):List Nat:=match free with
 | 0=>[0,1,2,3,4,5]
 | 1=>[0,1,3,6,10,15]
 | 2=>[0,1,4,10,20,35]
 | _=>[0,1,5,15,35,70]
noncomputable def nU (l:List Nat):V:=.tup (l.map λ n=>V.int (n:Nat))
noncomputable abbrev jy (script:List Int)(c:Nat->Nat)(tk sk lk ek pk:Nat)(rd rw tl:List V):List (Str×V):=lE script c tk sk lk ek pk++[((Ve "reads"),V.lst rd),("rows",V.lst rw),("totals",V.lst tl)]
noncomputable def LK (c:Nat->Nat):Nat->Nat->Int:=jw (bC c) 0 (aL (bC c)) (H0 (bC c)) (aN c)
noncomputable def i9 (c:Nat->Nat):List V:=(mV (aN c) (c 0/16%3) (LK c) (D4 (bC c) (aN c)) (aN c).length).reverse
noncomputable def nu (c:Nat->Nat):List V:=yN (aN c) (c 0/16%3)++eU (aN c) (c 0/16%3) (LK c)
noncomputable def fY (c:Nat->Nat):List V:=[V.int (LK c (c 0/16%3) 1),V.int (LK c (c 0/16%3) 2),V.int (LK c (c 0/16%3) 3)]
theorem GR {free:Nat}(h:free<4):bq [nU [0,1,2,3,4,5],nU [0,1,3,6,10,15],nU [0,1,4,10,20,35],nU [0,1,5,15,35,70]] free=some (nU (gw free)):=fF (P:=λ free=>bq [nU [0,1,2,3,4,5],nU [0,1,3,6,10,15],nU [0,1,4,10,20,35],nU [0,1,5,15,35,70]] free=some (nU (gw free))) (n:=4) ⟨⟨⟨⟨trivial,rfl⟩,rfl⟩,rfl⟩,rfl⟩ free h
theorem Js (O:On C T (d+3) (aO (aJ 27)).names)(H:Fx T A){script:List Int}{c:Nat->Nat}{h:List (Nat×MO)}{Q:Fl->St->Prop}{stmts:List Stmt}{tk sk lk ek pk:Nat}(hw:(bodyOf (aJ 27)).drop 13=stmts)
  (q:∀ h',ai [] h h'->ES C kb (execs ((bodyOf (aJ 27)).drop 15) C.env) ⟨jy script c tk sk lk ek pk (i9 c) (nu c) (fY c)++[((Ve "often"),nU (gw (c 0/4%4)))],h'⟩ Q X) :
  ES C kb (execs stmts C.env) ⟨lE script c tk sk lk ek pk,h⟩ Q X:=by
 subst hw
 conv=>arg 3;arg 1;whnf
 have BN:c 0/16%3<3:=Vy _ (by decide)
 have D5:c 0/4%4<4:=Vy _ (by decide)
 have DC:c 0%4<4:=Vy _ (by decide)
 have hl:3<=(aN c).length/\(aN c).length<=6:=by rw [fU];exact ⟨Vw 3 _,Vq (V5 DC) 3⟩
 (with_reducible refine' ES.cons ?_)
 repeat walk_at "py"
 refine CU.cj (LA O H dF pB hl.2 BN λ h1 g1=>?_)
 have e:Gm (aN c) (c 0/16%3) (jw (bC c) 0 (aL (bC c)) (H0 (bC c)) (aN c)) (D4 (bC c) (aN c))=.tup [.lst (i9 c),.lst (nu c),.lst (fY c)]:=by
  unfold Gm i9 nu fY LK;rfl
 rw [e]
 generalize i9 c=rl at *
 generalize nu c=wl at *
 generalize fY c=tl at *
 repeat walk_at "py"
 show ES C kb _ ⟨jy script c tk sk lk ek pk rl wl tl,h1⟩ Q X
 (with_reducible refine' ES.cons ?_)
 repeat walk_at "py"
 refine aC _ (dK (GR D5) (Vv (VJ D5 (by decide)))) ?_
 repeat walk_at "py"
 exact q h1 g1
theorem GS {st:St}:∃ p,pO st .NotEq (.lst jO) (.lst (Wx (2:Int).toNat [V.str (Ve "fi"),V.str (Ve "st"),V.str (Ve "ss")]).flatten)=some (p,false)/\p:=
 aC (WX (Yr [.str (bW 0 false),.str (bW 1 false),.str (bW 2 false),.str (bW 0 false),.str (bW 1 false),.str (bW 2 false)])=true/\WX (Yr [.str (bW 0 false),.str (bW 1 false),.str (bW 2 false),.str (bW 0 false),.str (bW 1 false),.str (bW 2 false)])=true) (by kernel_rfl) (by decide +kernel)
noncomputable def Kw (n:Nat):V->V
 | .int k=>.int (if (n:Int)-k>0 then (n:Int)-k else 0)
 | v=>v
theorem Ar {k:Nat}:(gw k).length=6:=by
 unfold gw
 split<;>rfl
theorem yY {L:Nat}:∀ {l:List Nat},(l.map λ m=>if (L:Int)-(m:Nat)>0 then (L:Int)-(m:Nat) else 0).sum=(((l.map λ m=>L-m).sum:Nat):Int)
 | []=>rfl
 | m::l=>by
  rw [XI,XI,fv,fv,yY (l:=l),Int.natCast_add]
  refine congrArg (· + _) ?_
  split
  ·rename_i h;exact (Int.ofNat_sub (YR.mp (Int.le_of_lt (Int.lt_of_sub_pos h)))).symm
  ·rename_i h;exact (congrArg ZV (Nat.sub_eq_zero_of_le (YR.mp (Int.le_of_sub_nonpos (km.mp h))))).symm
end
namespace mP
noncomputable def aq (c:Nat->Nat)(script:List Int)(h:List (Nat×MO))(tk sk lk ek pk:Nat)(C:Cx)(T:Th)(A:cN)(d:Nat)(X:XK)(kb:Nat)(Q:Fl->St->Prop)(cD bx:Nat):Prop:=∀ (O:On C T (d+3) (aO (aJ 27)).names) (H:Fx T A) {stmts:List Stmt} (hw:(bodyOf (aJ 27)).drop 15=stmts) (HL:gV A h lk cD bx (ly (aN c).length (c 0/4%4))) (q:ES C kb (execs ((bodyOf (aJ 27)).drop 16) C.env) ⟨jy script c tk sk lk ek pk (i9 c) (nu c) (fY c)++[((Ve "often"),nU (gw (c 0/4%4)))],h⟩ Q X),ES C kb (execs stmts C.env) ⟨jy script c tk sk lk ek pk (i9 c) (nu c) (fY c)++[((Ve "often"),nU (gw (c 0/4%4)))],h⟩ Q X
noncomputable def S0:=Qy aq
noncomputable def ε:=eu (by walk_at "ne") S0
theorem here:S0 ε:=by
 intro O H stmts hw HL q
 subst hw
 conv=>arg 3;arg 1;whnf
 have D5:ε.1 0/4%4<4:=Vy _ (by decide)
 have DC:ε.1 0%4<4:=Vy _ (by decide)
 have hl:3<=(aN ε.1).length/\(aN ε.1).length<=6:=by rw [fU];exact ⟨Vw 3 _,Vq (V5 DC) 3⟩
 refine aI (λ ll FT LT=>?_) HL
 have b1:=LT.hi
 have b2:=LT.hd
 (with_reducible refine' ES.cons ?_)
 repeat walk_at "py"
 with_reducible refine' EV.flist ?_
 iterate 8 walk_at "py"
 iterate 1 walk_at "py"
 refine aI (λ pr hc hp=>?_) (GS (st:=⟨jy ε.2.1 ε.1 ε.2.2.2.1 ε.2.2.2.2.1 ε.2.2.2.2.2.1 ε.2.2.2.2.2.2.1 ε.2.2.2.2.2.2.2.1 (i9 ε.1) (nu ε.1) (fY ε.1)++[((Ve "often"),nU (gw (ε.1 0/4%4)))],ε.2.2.1⟩))
 refine ay _ _ rfl (bY (by decide) (by decide) (by decide)) ?_
 refine ay _ _ hc hp ?_
 refine ⟨nofun,λ _=>⟨nofun,λ _=>?_⟩⟩
 repeat walk_at "py"
 refine CU.cj (CR O H LT.at (by rw [FT];exact Vd (tS hl.2 (V5 D5)) (by decide)) ?_)
 repeat walk_at "py"
 have ev:((ll.map (·.2)).map V.str).length=ly (aN ε.1).length (ε.1 0/4%4):=by rw [Vl,Vl,FT]
 refine CJ.len_list (l:=(ll.map (·.2)).map V.str) rfl (by rw [ev];exact VB (tS hl.2 (V5 D5)) (by decide)) ?_
 rw [ev]
 repeat walk_at "py"
 refine ⟨by rw [Vl,Ar];decide,?_⟩
 show LW _ _ _ _ _ _ _ [((Ve "numbers"),V.lst (cQ (aN ε.1)))] _ _ _ _ _
 refine LW.pure O (λ _=>true) (Kw (aN ε.1).length) ⟨_,rfl⟩ (λ v hv=>?_) ?_
 ·apply iu (h:=hv);intro m _
  intro C2 O2
  repeat walk_at "py"
  refine CJ.len_list (l:=cQ (aN ε.1)) rfl (by rw [gG];exact VB hl.2 (by decide)) ?_
  rw [gG]
  repeat walk_at "py"
  refine CJ.max2 O2.toGood ?_
  exact bY (aW _ [("many",.int (m:Nat))]) rfl rfl
 have e2:[]++(((gw (ε.1 0/4%4)).map λ n=>V.int (n:Nat)).filter λ _=>true).map (Kw (aN ε.1).length)=((gw (ε.1 0/4%4)).map λ m=>if ((aN ε.1).length:Int)-(m:Nat)>0 then ((aN ε.1).length:Int)-(m:Nat) else 0).map V.int:=by
  rw [Vz,VU.mpr λ _ _=>rfl,VF,VF]
  exact WQ λ _ _=>rfl
 rw [e2]
 repeat walk_at "py"
 refine CJ.sum O.toGood rfl ?_
 rw [yY,show ((gw (ε.1 0/4%4)).map λ m=>(aN ε.1).length-m).sum=ly (aN ε.1).length (ε.1 0/4%4) from rfl]
 repeat walk_at "py"
 refine ⟨λ z=>absurd (z.symm.trans (congrArg not (beq_self_eq_true _))) (by decide),λ _=>?_⟩
 repeat walk_at "py"
 exact q
end mP
theorem Jt {C T A d X kb script c h Q tk sk lk ek pk cD bx}:mP.aq c script h tk sk lk ek pk C T A d X kb Q cD bx:=nR (S:=mP.S0) mP.here (c,script,h,tk,sk,lk,ek,pk,C,T,A,d,X,kb,Q,cD,bx)
end
section
section
variable {C:Cx}{T:Th}{A:cN}{d:Nat}{N:List (Str×Vn)}{st:St}{X:XK}{kb:Nat}
noncomputable abbrev dS (script:List Int)(c:Nat->Nat)(tk sk lk ek pk:Nat):List (Str×V):=jy script c tk sk lk ek pk (i9 c) (nu c) (fY c)++[((Ve "often"),nU (gw (c 0/4%4)))]
noncomputable def bJ (c:Nat->Nat):List Row:=bS (bC c) (aL (bC c)) (s0 (c 0/16%3)) (aN c)
theorem bO {c:Nat->Nat}:∀ r∈bJ c,r.ok:=F0 λ r hr=>by
 obtain rfl:=Vi.mp hr
 exact ⟨(Vy _ (by decide):c 0/16%3<3),(by decide:(0:Int)<=1),(by decide:(1:Int)<9973)⟩
theorem iT {c:Nat->Nat}:(bJ c).length<=13:=by
 have DC:c 0%4<4:=Vy _ (by decide)
 have hl:(aN c).length<=6:=by rw [fU];exact Vq (V5 DC) 3
 exact Vd wO (Vq (VP 2 hl) 1)
end
namespace jZ
noncomputable def aq (c:Nat->Nat)(ek:Nat)(script:List Int)(h:List (Nat×MO))(tk sk lk pk:Nat)(C:Cx)(T:Th)(A:cN)(d:Nat)(X:XK)(kb:Nat)(Q:Fl->St->Prop)(dD bV cD bx kp m:Nat):Prop:=∀ (O:On C T (d+3) (aO (aJ 27)).names) (H:Fx T A) {stmts:List Stmt} (hw:(bodyOf (aJ 27)).drop 16=stmts) (W:nj A h sk dD bV lk cD bx ek kp (bJ c) m (sS (bC c) (aL (bC c)) (s0 (c 0/16%3)) (aN c))) (q:ES C kb (execs ((bodyOf (aJ 27)).drop 17) C.env) ⟨dS script c tk sk lk ek pk,h⟩ Q X),ES C kb (execs stmts C.env) ⟨dS script c tk sk lk ek pk,h⟩ Q X
noncomputable def S0:=O7 aq
noncomputable def ε:=eu (by walk_at "ne") S0
theorem here:S0 ε:=by
 intro O H stmts hw W q
 subst hw
 conv=>arg 3;arg 1;whnf
 have BN:ε.1 0/16%3<3:=Vy _ (by decide)
 have b1:=W.S.hi
 have b2:=W.S.hd
 have e1:i9 ε.1=sS (bC ε.1) (aL (bC ε.1)) (s0 (ε.1 0/16%3)) (aN ε.1):=(GD dF BN).symm
 have e2:nu ε.1=tab (tabS (bJ ε.1)):=(Ji dF BN).symm
 (with_reducible refine' ES.cons ?_)
 repeat walk_at "py"
 refine aI (λ p1 c1 h1=>?_) (Gx (st:=⟨dS ε.2.2.1 ε.1 ε.2.2.2.2.1 ε.2.2.2.2.2.1 ε.2.2.2.2.2.2.1 ε.2.1 ε.2.2.2.2.2.2.2.1,ε.2.2.2.1⟩) (a:=.loc ε.2.1) (b:=.lst (i9 ε.1)) rfl (by rw [e1];exact Gw W.E (BH dF (λ r hr=>by
  obtain rfl:=Vi.mp hr
  exact ⟨BN,(by decide:(0:Int)<=1),(by decide:(1:Int)<9973)⟩) (o7 dF))))
 refine ⟨_,_,c1,h1,nofun,λ _=>⟨nofun,λ _=>?_⟩⟩
 repeat walk_at "py"
 refine CU.cj (yt O H W.S.at (by unfold tabS;rw [Vl];exact Vd iT (by decide)) ?_)
 repeat walk_at "py"
 refine aI (λ p2 c2 h2=>?_) (Gx (st:=⟨dS ε.2.2.1 ε.1 ε.2.2.2.2.1 ε.2.2.2.2.2.1 ε.2.2.2.2.2.2.1 ε.2.1 ε.2.2.2.2.2.2.2.1,ε.2.2.2.1⟩) (a:=.lst (tab (tabS (bJ ε.1)))) (b:=.lst (nu ε.1)) rfl (by rw [e2];exact tO λ v hv=>(Gy bO v hv).up (by decide)))
 refine ⟨_,_,c2,h2,nofun,λ _=>?_⟩
 repeat walk_at "py"
 exact q
end jZ
theorem GU {C T A d X kb script c h Q tk sk dD bV lk cD bx ek kp pk m}:jZ.aq c ek script h tk sk lk pk C T A d X kb Q dD bV cD bx kp m:=nR (S:=jZ.S0) jZ.here (c,ek,script,h,tk,sk,lk,pk,C,T,A,d,X,kb,Q,dD,bV,cD,bx,kp,m)
section
variable {C:Cx}{T:Th}{A:cN}{d:Nat}{N:List (Str×Vn)}{st:St}{X:XK}{kb:Nat}
noncomputable def pC (c:Nat->Nat)(v:Nat):List V:=((allR (bJ c) v).map aQ).map V.str
noncomputable def gx (c:Nat->Nat):List V:=[.lst (pC c 0),.lst (pC c 1),.lst (pC c 2),.lst [],.lst []]
noncomputable def As (l:List (Str×Str)):V->V
 | .str x=>.lst ((getAll l (VX x)).map V.str)
 | v=>v
noncomputable def LL (l:List (Str×Str)):V->V
 | .str x=>ko .none (mU l (VX x))
 | v=>v
def Mx (x:Str):Bool:=Wn x.length 1000&&(Wn x.cps.size 1000&&(Wn (VX x).cps.size 1000&&(!(x.cps.any (λ c=>Wn c 31||Vo c 127))&&!((VX x).cps.any (λ c=>Wn c 31||Vo c 127)))))
theorem GV {x:Str}(h:Mx x=true):q9 x:=by
 unfold Mx at h
 refine qB (λ h1 h=>?_) h
 refine qB (λ h2 h=>?_) h
 refine qB (λ h3 h=>?_) h
 refine qB (λ h4 h5=>?_) h
 exact ⟨Vd (VQ h1) (by decide),Vd (VQ h2) (by decide),Vd (VQ h3) (by decide),X6 _ |>.mp h4,X6 _ |>.mp h5⟩
noncomputable def yZ:List Str:=[Ve "Fi",Ve "sT",Ve "SS",Ve "s",Ve "fist"]
noncomputable def y9:List Str:=[Ve "fI",Ve "ST",Ve "ss",Ve "S",Ve "FIST"]
theorem GW:∀ x∈yZ,Mx x=true:=by
 show ∀ x∈[Ve "Fi",Ve "sT",Ve "SS",Ve "s",Ve "fist"],Mx x=true
 decide +kernel
theorem za:∀ x∈y9,Mx x=true:=by
 show ∀ x∈[Ve "fI",Ve "ST",Ve "ss",Ve "S",Ve "FIST"],Mx x=true
 decide +kernel
theorem Qn:yZ.map VX=[bW 0 false,bW 1 false,bW 2 false,Ve "s",Ve "fist"]:=by
 show [Ve "Fi",Ve "sT",Ve "SS",Ve "s",Ve "fist"].map VX=[Ve "fi",Ve "st",Ve "ss",Ve "s",Ve "fist"]
 decide +kernel
theorem Qo:y9.map VX=[bW 0 false,bW 1 false,bW 2 false,Ve "s",Ve "fist"]:=by
 show [Ve "fI",Ve "ST",Ve "ss",Ve "S",Ve "FIST"].map VX=[Ve "fi",Ve "st",Ve "ss",Ve "s",Ve "fist"]
 decide +kernel
theorem Oi:uC (Ve "s"):=iJ (by decide +kernel)
theorem BO:uC (Ve "fist"):=iJ (by decide +kernel)
theorem GX {c:Nat->Nat}:[]++((yZ.map V.str).filter λ _=>true).map (As (tabS (bJ c)))=gx c:=by
 rw [Vz,VU.mpr λ _ _=>rfl,VF]
 show yZ.map ((λ y=>V.lst ((getAll (tabS (bJ c)) y).map V.str))∘VX)=_
 rw [<-VF,Qn]
 show [V.lst _,V.lst _,V.lst _,V.lst _,V.lst _]=_
 rw [iK bO (by decide),iK bO (by decide),iK bO (by decide),ve bO Oi,ve bO BO]
 rfl
noncomputable def DG (c:Nat->Nat):List V:=[ko .none ((jn (bJ c) 0).map aQ),ko .none ((jn (bJ c) 1).map aQ),ko .none ((jn (bJ c) 2).map aQ),.none,.none]
theorem LM {c:Nat->Nat}:[]++((y9.map V.str).filter λ _=>true).map (LL (tabS (bJ c)))=DG c:=by
 rw [Vz,VU.mpr λ _ _=>rfl,VF]
 show y9.map ((λ y=>ko .none (mU (tabS (bJ c)) y))∘VX)=_
 rw [<-VF,Qo]
 show [ko _ _,ko _ _,ko _ _,ko _ _,ko _ _]=_
 rw [oS bO (by decide),oS bO (by decide),oS bO (by decide),Bs bO Oi,Bs bO BO]
 rfl
end
end
section
section
variable {C:Cx}{T:Th}{A:cN}{d:Nat}{N:List (Str×Vn)}{st:St}{X:XK}{kb:Nat}
theorem DH (O:On C T (d+3) (aO (aJ 27)).names)(H:Fx T A){script:List Int}{c:Nat->Nat}{h:List (Nat×MO)}{Q:Fl->St->Prop}{stmts:List Stmt}{tk sk dD bV lk ek pk:Nat}(hw:(bodyOf (aJ 27)).drop 17=stmts)
  (HT:aB A ⟨[],h⟩ sk dD bV (tabS (bJ c)))
  (q:ES C kb (execs ((bodyOf (aJ 27)).drop 18) C.env) ⟨dS script c tk sk lk ek pk++[((Ve "found"),V.lst (gx c))],h⟩ Q X) :
  ES C kb (execs stmts C.env) ⟨dS script c tk sk lk ek pk,h⟩ Q X:=by
 subst hw
 conv=>arg 3;arg 1;whnf
 have b1:=HT.hi
 have b2:=HT.hd
 have hz:(tabS (bJ c)).length<=1000:=by unfold tabS;rw [Vl];exact Vd iT (by decide)
 (with_reducible refine' ES.cons ?_)
 repeat walk_at "py"
 show LW _ _ _ _ _ _ _ [((Ve "slopes"),V.loc sk)] _ _ _ _ _
 refine LW.pure O (λ _=>true) (As (tabS (bJ c))) ⟨_,rfl⟩ (λ v hv=>?_) ?_
 ·refine qL (λ x hx e_=>?_) ((show v∈yZ.map V.str from hv));subst e_
  intro C2 O2
  repeat walk_at "py"
  refine CU.cj (sZ O2 H HT.at hz (GV (GW x hx)) ?_)
  exact bY (aW _ [("name",.str x)]) rfl rfl
 have fe:[]++([V.str (Ve "Fi"),V.str (Ve "sT"),V.str (Ve "SS"),V.str (Ve "s"),V.str (Ve "fist")].filter λ _=>true).map (As (tabS (bJ c)))=gx c:=GX
 rw [fe]
 repeat walk_at "py"
 exact q
noncomputable def Ju:V->V
 | .lst []=>.none
 | .lst (a::_)=>a
 | v=>v
theorem tT {c:Nat->Nat}{v:Nat}:(pC c v).length<=13:=by
 unfold pC
 rw [Vl,Vl]
 exact Vd (tE _) iT
theorem DI {c:Nat->Nat}{v:V}(h:v∈gx c):∃ l,v=.lst l/\l.length<=13:=by
 rcases Vm.mp h with rfl | h
 ·exact aC _ rfl tT
 rcases Vm.mp h with rfl | h
 ·exact aC _ rfl tT
 rcases Vm.mp h with rfl | h
 ·exact aC _ rfl tT
 rcases Vm.mp h with rfl | h
 ·exact aC _ rfl (WC _)
 ·exact aC _ (Vi.mp h) (WC _)
theorem tU {v:Nat}:∀ {l:List Row},jn l v=(allR l v).head?
 | []=>rfl
 | r::l=>by
  show (bif Vo r.v v then some r.n else jn l v)=_
  unfold allR
  rw [WJ]
  cases Vo r.v v with
  | true=>rfl
  | false=>exact tU (l:=l)
theorem Au {c:Nat->Nat}{v:Nat}:Ju (.lst (pC c v))=ko .none ((jn (bJ c) v).map aQ):=by
 rw [tU]
 unfold pC
 cases allR (bJ c) v<;>rfl
theorem Oj {c:Nat->Nat}:[]++((gx c).filter λ _=>true).map Ju=DG c:=by
 rw [Vz,VU.mpr λ _ _=>rfl]
 show [Ju _,Ju _,Ju _,Ju _,Ju _]=_
 rw [Au,Au,Au];rfl
theorem Av {c:Nat->Nat}{v:Nat}:nY 8 (ko .none ((jn (bJ c) v).map aQ)):=by
 rw [tU]
 cases e:allR (bJ c) v with
 | nil=>exact .none
 | cons x l=>exact .str (pe (mC (bO (c:=c)) (v:=v) (by rw [e];exact VC ..)).1)
theorem LN {c:Nat->Nat}:∀ v∈DG c,nY 8 v:=λ v h=>by
 rcases Vm.mp h with rfl | h
 ·exact Av
 rcases Vm.mp h with rfl | h
 ·exact Av
 rcases Vm.mp h with rfl | h
 ·exact Av
 rcases Vm.mp h with rfl | h
 ·exact .none
 ·rw [Vi.mp h];exact .none
theorem Jv (O:On C T (d+3) (aO (aJ 27)).names)(H:Fx T A){script:List Int}{c:Nat->Nat}{h:List (Nat×MO)}{Q:Fl->St->Prop}{stmts:List Stmt}{tk sk dD bV lk ek pk:Nat}(hw:(bodyOf (aJ 27)).drop 18=stmts)
  (HT:aB A ⟨[],h⟩ sk dD bV (tabS (bJ c)))
  (q:ES C kb (execs ((bodyOf (aJ 27)).drop 19) C.env) ⟨dS script c tk sk lk ek pk++[((Ve "found"),V.lst (gx c))],h⟩ Q X) :
  ES C kb (execs stmts C.env) ⟨dS script c tk sk lk ek pk++[((Ve "found"),V.lst (gx c))],h⟩ Q X:=by
 subst hw
 conv=>arg 3;arg 1;whnf
 have b1:=HT.hi
 have b2:=HT.hd
 (with_reducible refine' ES.cons ?_)
 repeat walk_at "py"
 show LW _ _ _ _ _ _ _ [((Ve "slopes"),V.loc sk)] _ _ _ _ _
 refine LW.pure O (λ _=>true) (LL (tabS (bJ c))) ⟨_,rfl⟩ (λ v hv=>?_) ?_
 ·refine qL (λ x hx e_=>?_) ((show v∈y9.map V.str from hv));subst e_
  intro C2 O2
  have Rw:=(GV (za x hx)).len
  repeat walk_at "py"
  refine CU.cj (Lj O2 H HT.at (GV (za x hx)) ?_)
  exact bY (aW _ [("name",.str x)]) rfl rfl
 have ge:[]++([V.str (Ve "fI"),V.str (Ve "ST"),V.str (Ve "ss"),V.str (Ve "S"),V.str (Ve "FIST")].filter λ _=>true).map (LL (tabS (bJ c)))=DG c:=LM
 rw [ge]
 repeat walk_at "py"
 show LW _ _ _ _ _ _ _ [] _ _ _ _ _
 refine LW.pure O (λ _=>true) Ju ⟨_,rfl⟩ (λ v hv=>?_) ?_
 ·refine aI (λ l e_ hl=>?_) (DI hv);subst e_
  intro C2 O2
  iterate 7 walk_at "py"
  with_reducible refine' EV.flist ?_
  repeat walk_at "py"
  refine ⟨Vd (VN hl 1) (by decide),?_⟩
  repeat walk_at "py"
  exact ir (Ju (.lst l)) (by induction l using VY<;>kernel_rfl) (λ _ _ e=>aV e) rfl rfl
 rw [Oj]
 refine aI (λ p1 c1 h1=>?_) (Gx (st:=⟨dS script c tk sk lk ek pk++[((Ve "found"),V.lst (gx c))],h⟩) (a:=.lst (DG c)) (b:=.lst (DG c)) rfl (tO LN))
 refine ⟨_,_,c1,h1,nofun,λ _=>?_⟩
 repeat walk_at "py"
 exact q
noncomputable def BP (v:V):Int:=match ni v with
 | .int i=>i
 | _=>0
noncomputable def sumF:V->V
 | .lst l=>.int ((l.map BP).sum.fmod 9973)
 | v=>v
theorem tV {ns:List Int}(h:∀ n∈ns,0<=n/\n<9973):sumF (.lst ((ns.map aQ).map V.str))=.int (ns.sum.fmod 9973):=by
 show V.int ((((ns.map aQ).map V.str).map BP).sum.fmod 9973)=_
 rw [VF,VF,WQ (g:=id) λ n hn=>?_,eJ]
 show BP (.str (aQ n))=n
 unfold BP
 rw [fj (h n hn)]
theorem GY {ns:List Int}(h:∀ n∈ns,0<=n/\n<9973):[]++(((ns.map aQ).map V.str).filter λ _=>true).map ni=ns.map V.int:=by
 rw [Vz,VU.mpr λ _ _=>rfl,VF,VF]
 exact WQ λ x hx=>fj (h x hx)
theorem Aw {c:Nat->Nat}{v:V}(h:v∈gx c):∃ ns:List Int,v=.lst ((ns.map aQ).map V.str)/\(∀ n∈ns,0<=n/\n<9973)/\ns.length<=13:=by
 have go:∀ u,∃ ns:List Int,V.lst (pC c u)=.lst ((ns.map aQ).map V.str)/\(∀ n∈ns,0<=n/\n<9973)/\ns.length<=13:=λ u=>fu _ rfl (λ n hn=>mC bO hn) (Vd (tE _) iT)
 have no:∃ ns:List Int,V.lst []=.lst ((ns.map aQ).map V.str)/\(∀ n∈ns,0<=n/\n<9973)/\ns.length<=13:=fu [] rfl nofun (WC _)
 rcases Vm.mp h with rfl | h
 ·exact go 0
 rcases Vm.mp h with rfl | h
 ·exact go 1
 rcases Vm.mp h with rfl | h
 ·exact go 2
 rcases Vm.mp h with rfl | h
 ·exact no
 ·rw [Vi.mp h];exact no
theorem Jw {c:Nat->Nat}:[]++((gx c).filter λ _=>true).map sumF=fY c++[V.int 0,V.int 0]:=by
 rw [Vz,VU.mpr λ _ _=>rfl]
 have BN:c 0/16%3<3:=Vy _ (by decide)
 have go:∀ v,v<3->sumF (.lst (pC c v))=.int (LK c (c 0/16%3) (1+v)):=λ v hv=>
  (tV λ n hn=>mC bO hn).trans (congrArg V.int (Dq dF BN hv))
 show [sumF _,sumF _,sumF _,sumF (.lst (([]:List Int).map aQ |>.map V.str)),sumF (.lst (([]:List Int).map aQ |>.map V.str))]=_
 rw [go 0 (by decide),go 1 (by decide),go 2 (by decide),tV (λ n hn=>absurd hn Vr)]
 rfl
theorem Ax (O:On C T (d+3) (aO (aJ 27)).names)(H:Fx T A){script:List Int}{c:Nat->Nat}{h:List (Nat×MO)}{Q:Fl->St->Prop}{stmts:List Stmt}{tk sk lk ek pk:Nat}(hw:(bodyOf (aJ 27)).drop 19=stmts)
  (q:∀ vs,Q (.ret (.bool true)) ⟨vs,h⟩) :
  ES C kb (execs stmts C.env) ⟨dS script c tk sk lk ek pk++[((Ve "found"),V.lst (gx c))],h⟩ Q X:=by
 subst hw
 conv=>arg 3;arg 1;whnf
 (with_reducible refine' ES.cons ?_)
 repeat walk_at "py"
 show LW _ _ _ _ _ _ _ [] _ _ _ _ _
 refine LW.pure O (λ _=>true) sumF ⟨_,rfl⟩ (λ v hv=>?_) ?_
 ·refine fq (λ ns e_ hr hl=>?_) (Aw hv);subst e_
  intro C2 O2
  repeat walk_at "py"
  refine ⟨by rw [Vl,Vl];exact Vd hl (by decide),?_⟩
  show LW _ _ _ _ _ _ _ [] _ _ _ _ _
  refine LW.pure O2 (λ _=>true) ni ⟨_,rfl⟩ (λ v hv=>?_) ?_
  ·obtain ⟨x,hx,rfl⟩:∃ x:Int,(0<=x/\x<9973)/\v=V.str (aQ x):=by
    apply iu (h:=hv);intro y hy
    apply iu (h:=hy);intro x hx
    exact aC x (hr x hx) rfl
   intro C3 O3
   rw [fj hx]
   repeat walk_at "py"
   refine CJ.lZ hx.1 (Yc hx.2 (by decide)) ?_
   exact bY (λ _ _ e=>aV e) rfl rfl
  rw [GY hr]
  repeat walk_at "py"
  refine CJ.sum O2.toGood (ns:=ns) rfl ?_
  repeat walk_at "py"
  exact bY (λ _ _ e=>aV e) rfl ((tV hr).symm)
 rw [Jw]
 iterate 2 walk_at "py"
 with_reducible refine' EV.flist ?_
 iterate 7 walk_at "py"
 obtain ⟨p1,c1,h1⟩:=tO (st:=⟨dS script c tk sk lk ek pk++[((Ve "found"),V.lst (gx c))],h⟩) (l:=fY c++[V.int 0,V.int 0]) λ v hv=>by
  have:∃ i,v=V.int i:=by
   rcases Wa.mp hv with hv | hv
   ·rcases Vm.mp hv with rfl | hv
    ·exact ⟨_,rfl⟩
    rcases Vm.mp hv with rfl | hv
    ·exact ⟨_,rfl⟩
    ·exact ⟨_,Vi.mp hv⟩
   ·rcases Vm.mp hv with rfl | hv
    ·exact ⟨_,rfl⟩
    ·exact ⟨_,Vi.mp hv⟩
  refine qE (λ i e_=>?_) this;subst e_
  exact .int
 refine ⟨by show 3+2<=_;decide,ay _ _ c1 h1 ?_⟩
 repeat walk_at "py"
 exact q _
end
end
section
section
variable {C:Cx}{T:Th}{A:cN}{d:Nat}{N:List (Str×Vn)}{st:St}{X:XK}{kb:Nat}
noncomputable def Kz (script:List Int)(k:Nat):Nat:=(vv script k).toNat
theorem GZ {script:List Int}:((VV 0 8).map λ k=>V.int (vv script k))=nT (Kz script):=
 WQ λ k _=>congrArg V.int (ZU yV).symm
theorem G6 (O:On C T (d+20) (aO (aJ 27)).names)(Tp:C.Top)(H:Fx T A){script:List Int}(hs:script.length<=63){kp:Nat}{h:List (Nat×MO)}(hP:J h kp=some (.qj A.eY kp)){Q:Fl->St->Prop}{stmts:List Stmt}(hw:bodyOf (aJ 27)=stmts)(q:∀ vs h',J h' kp=some (.qj A.eY kp)->Q (.ret (.bool true)) ⟨vs,h'⟩):
  ES C kb (execs stmts C.env) ⟨[((Ve "script"),V.lst (script.map V.int))],h⟩ Q X:=by
 refine Dw (d:=d+19) O H hs hw ?_
 rw [GZ]
 generalize Kz script=c
 refine GN (d:=d+19) O H rfl (Dy (d:=d+19) O H rfl (Dz (d:=d+18) O H rfl (GO (d:=d+19) O H rfl (GP (d:=d+19) O Tp H rfl λ h1 tk g1 ft k1=>?_))))
 refine DE (d:=d+17) O H rfl k1 λ h2 sk dD bV lk cD bx ek g2 fe fs fl HS HL hE d1 d2 d3=>?_
 have n1:tk≠bV:=aY k1 fs
 have n2:tk≠bx:=aY k1 fl
 have n3:tk≠ek:=aY k1 fe
 refine Jq (d:=d+17) O H rfl HS HL hE (g2.at (g1.at hP Vr) Vr) d1 d2 d3 λ h3 pk g3 W P=>?_
 refine Jr O H rfl (g3.at (g2.at k1 Vr) (bf n1)) (FQ n1 n2 n3) W P λ h4 g4 W4=>?_
 refine Js (d:=d+17) O H rfl λ h5 g5=>?_
 have W5:=W4.grow g5
 exact Jt (d:=d+17) O H rfl W5.L (GU (d:=d+17) O H rfl W5 (DH (d:=d+17) O H rfl W5.S (Jv (d:=d+17) O H rfl W5.S (Ax (d:=d+17) O H rfl λ vs=>q vs h5 W5.P))))
theorem LO (O:On C T (d+21) N)(H:Fx T A){KA:Addr}(hf:oK T.K KA (aJ 27) .none .none){script:List Int}(hs:script.length<=63){kp:Nat}(hP:J st.heap kp=some (.qj A.eY kp)){Q:QV}(q:∀ h',J h' kp=some (.qj A.eY kp)->Q (.bool true) ⟨st.vars,h'⟩):
  CU C KA [.lst (script.map V.int)] [] [] st Q X:=by
 refine O.func (kj:=[]) hf [("script",.lst (script.map V.int))] (λ _ _=>.nil) rfl rfl ?_ rfl rfl λ C' O' T'=>?_
 ·intro q pm cd doc ct
  exact args1 λ a=>rfl
 ·generalize hw:bodyOf (aJ 27)=stmts
  exact G6 O' T' H hs hP hw λ vs h' e=>q h' e
end
end
section
noncomputable def D (es:List Vt)(ep:Nat):Obj:={cls:=.type "dict",data:=.dict es.toArray ep}
section
variable {prog:Wi}{w:WK}{A:Wk}{E:Vg->Vh->Prop}{s:Vh}
theorem ny {d:Addr}{o:Obj}{es:Array Vt}{ep:Nat}{k:Int}{t:Tok}{v:Vg}{Q:Unit->Vh->Prop}(ho:s.heap.get? d=some o)(hd:o.data=.dict es ep)(hk:IntKeys es)
  (hn:(es.findIdx? λ e=>Xo k e.key)=none) (hz:es.size<=sizeLine)
  (hQ:Q () {s with heap:=s.heap.update d (YG (·.push ⟨hashInt k,.int k t,v⟩)),toks:=s.toks+1}):wpAny (model prog w) A (dictSet d (.int k t) v) Q E s:=by
 unfold dictSet
 try with_reducible refine Vu ?_
 refine Vc (wpAny_pyHash_int ?_)
 unfold dictSetHashed
 try with_reducible refine Vu ?_
 refine Vc (wpAny_dictFind_int (s:={s with toks:=s.toks+1}) ho hd hk ?_)
 rw [hn]
 exact Vc (Yt (ZJ (hz:=hz) (s:={s with toks:=s.toks+1}) ho hd hQ))
theorem uF {d:Addr}{o:Obj}{es:Array Vt}{ep:Nat}{k:Int}{t:Tok}{v:Vg}{Q:Unit->Vh->Prop}(ho:s.heap.get? d=some o)(hd:o.data=.dict es ep)(hk:IntKeys es)
  (hn:(es.findIdx? λ e=>Xo k e.key)=none) (hz:es.size<=sizeLine)
  (hQ:Q () {s with heap:=s.heap.update d (YG (·.push ⟨hashInt k,.int k t,v⟩))}):wpAny (model prog w) A (dictPut d (hashInt k) (.int k t) v) Q E s:=by
 unfold dictPut
 refine Vc (wpAny_dictFind_int ho hd hk ?_)
 rw [hn]
 exact ZJ (hz:=hz) ho hd hQ
theorem lG {h:Heap}{o:Obj}{g:Obj->Obj}:(h.push o).update h.objs.size g=h.push (g o):=by
 obtain ⟨objs,l⟩:=h
 show (⟨(objs.push o).modify objs.size g,l⟩:Heap)=⟨objs.push (g o),l⟩
 congr 1
 apply kt
 ·simp
 ·intro i h1 h2
  have hs:i<objs.size+1:=by simpa using h2
  rw [YO]
  by_cases e:objs.size=i
  ·subst e;rw [if_pos rfl];simp
  ·rw [if_neg e]
   have hi:i<objs.size:=by lia
   rw [Xr hi,Xr hi]
theorem pD {h:Heap}{o:Obj}(ho:o.isFreed=false):(h.push o).get? h.objs.size=some o:=PySem.Heap.get?_push_size h ho
noncomputable def G7 (prog:Wi)(w:WK)(p:Sem Vg×Sem Vg)(q:Int×Str):Prop:=
 (∀ (A:Wk) (s:Vh) (Q:Vg->Vh->Prop) (E:Vg->Vh->Prop),Q (.int q.1 s.toks) {s with toks:=s.toks+1}->wpAny (model prog w) A p.1 Q E s)/\
 (∀ (A:Wk) (s:Vh) (Q:Vg->Vh->Prop) (E:Vg->Vh->Prop),Q (.str q.2 s.toks) {s with toks:=s.toks+1}->wpAny (model prog w) A p.2 Q E s)
inductive bP (prog:Wi)(w:WK):List (Sem Vg×Sem Vg)->List (Int×Str)->Prop
 | nil:bP prog w [] []
 | cons {p q ps l} (h:G7 prog w p q) (hl:bP prog w ps l):bP prog w (p::ps) (q::l)
noncomputable def ents:List (Int×Str)->Nat->List Vt
 | [],_=>[]
 | (i,x)::r,t=>⟨hashInt i,.int i t,.str x (t+1)⟩::ents r (t+3)
noncomputable def dI:List Vt->List (Int×Str)->Prop
 | _,[]=>True
 | es,(i,x)::r=>(∀ e∈es,∃ k t,e.key=.int k t/\e.hash=hashInt k/\k<i)/\∀ t,dI (es++[⟨hashInt i,.int i t,.str x (t+1)⟩]) r
theorem lH {es:List Vt}{i:Int}(h:∀ e∈es,∃ k t,e.key=.int k t/\e.hash=hashInt k/\k<i):IntKeys es.toArray/\(es.toArray.findIdx? λ e=>Xo i e.key)=none:=by
 constructor
 ·intro e he
  refine ak (λ k t a b _=>?_) (h e (by simpa using he))
  exact nC k t a b
 ·refine Array.findIdx?_eq_none_iff.mpr λ e he=>?_
  refine ak (λ k t a b c=>?_) (h e (by simpa using he))
  rw [a]
  show (k==i)=false
  rw [beq_eq_false_iff_ne];lia
theorem zb {H:Heap}{f:(Sem Vg×Sem Vg)->PUnit->Sem (ForInStep PUnit)}
  (hf:∀ {p:Sem Vg×Sem Vg}{i:Int}{x:Str}{es:List Vt}{ep tk:Nat}{Q:ForInStep PUnit->Vh->Prop},G7 prog w p (i,x)->(∀ e∈es,∃ k t,e.key=.int k t/\e.hash=hashInt k/\k<i)->es.length<=sizeLine->
   Q (.yield ⟨⟩) {s with heap:=H.push (D (es++[⟨hashInt i,.int i tk,.str x (tk+1)⟩]) (ep+1)),toks:=tk+3}->wpAny (model prog w) A (f p ⟨⟩) Q E {s with heap:=H.push (D es ep),toks:=tk}) :
  ∀ {ps:List (Sem Vg×Sem Vg)}{l:List (Int×Str)}{es:List Vt}{ep tk:Nat}{Q:PUnit->Vh->Prop},bP prog w ps l->dI es l->es.length+l.length<=sizeLine->
  Q XO {s with heap:=H.push (D (es++ents l tk) (ep+l.length)),toks:=tk+3*l.length}->wpAny (model prog w) A (forIn ps XO f) Q E {s with heap:=H.push (D es ep),toks:=tk}
 | _,_,es,ep,tk,Q,.nil,_,_,hQ=>by
  rw [Xj]
  refine Vj ?_
  have e:es++ents [] tk=es:=VT es
  rw [e] at hQ
  exact hQ
 | _,_,es,ep,tk,Q,.cons (p:=p) (q:=q) (ps:=ps) (l:=l) h hl,hr,hz,hQ=>by
  obtain ⟨i,x⟩:=q
  have hz':es.length+(l.length+1)<=sizeLine:=hz
  rw [Ww]
  refine Vc (hf h hr.1 (by lia) ?_)
  dsimp only
  refine zb hf hl (hr.2 tk) ?_ ?_
  ·rw [Vk];show es.length+1+l.length<=_;lia
  ·have e2:es++ents ((i,x)::l) tk=(es++[⟨hashInt i,.int i tk,.str x (tk+1)⟩])++ents l (tk+3):=by rw [Vs];rfl
   rw [e2] at hQ
   rw [show ep+1+l.length=ep+((i,x)::l).length by rw [V3];lia,show tk+3+3*l.length=tk+3*((i,x)::l).length by rw [V3];lia]
   exact hQ
end
end
section
noncomputable def bl (H:Heap):List Obj->Heap
 | []=>H
 | o::r=>bl (H.push o) r
theorem size_push (H:Heap)(o:Obj):(H.push o).objs.size=H.objs.size+1:=by obtain ⟨objs,l⟩:=H;exact Array.size_push ..
theorem fm:∀ (l:List Obj) (H:Heap),(bl H l).objs.size=H.objs.size+l.length
 | [],H=>rfl
 | o::r,H=>by show (bl (H.push o) r).objs.size=_;rw [fm r,size_push,V3];lia
theorem iU:∀ (l:List Obj) (H:Heap) (o:Obj),(bl H l).push o=bl H (l++[o])
 | [],_,_=>rfl
 | a::l,H,o=>iU l (H.push a) o
theorem update_push {H:Heap}{a:Addr}{o:Obj}{g:Obj->Obj}(h:a<H.objs.size):(H.push o).update a g=(H.update a g).push o:=by
 obtain ⟨objs,l⟩:=H
 show (⟨(objs.push o).modify a g,l⟩:Heap)=⟨(objs.modify a g).push o,l⟩
 congr 1
 have h':a<objs.size:=h
 apply kt
 ·simp
 ·intro i h1 h2
  have hs:i<objs.size+1:=by simpa using h1
  rw [YO]
  by_cases e:i=objs.size
  ·subst e
   rw [if_neg (λ e=>V8 _ (e▸h'))]
   simp [Array.getElem_push]
  ·have hi:i<objs.size:=by lia
   rw [Xr hi,Xr (by simpa using hi),YO]
theorem nA:∀ (r:List Obj) (H:Heap) (a:Addr) (g:Obj->Obj),a<H.objs.size->(bl H r).update a g=bl (H.update a g) r
 | [],_,_,_,_=>rfl
 | o::r,H,a,g,h=>by
  show (bl (H.push o) r).update a g=bl ((H.update a g).push o) r
  rw [nA r (H.push o) a g (by rw [size_push];exact Zh h),update_push h]
theorem wZ (H:Heap)(o:Obj)(r:List Obj)(g:Obj->Obj):(bl H (o::r)).update H.objs.size g=bl H (g o::r):=by
 show (bl (H.push o) r).update H.objs.size g=bl (H.push (g o)) r
 rw [nA r (H.push o) _ g (by rw [size_push];exact Wf _),lG]
theorem qx:∀ (r:List Obj) {H:Heap}{a:Addr}{o:Obj},H.get? a=some o->(bl H r).get? a=some o
 | [],_,_,_,h=>h
 | o::r,_,_,_,h=>qx r (PySem.Heap.get?_push_of_some _ h)
theorem qy (H:Heap){o:Obj}(r:List Obj)(ho:o.isFreed=false):(bl H (o::r)).get? H.objs.size=some o:=qx r (pD ho)
theorem qz (H:Heap){o:Obj}(r:List Obj)(ho:o.isFreed=false):(bl H (r++[o])).get? (H.objs.size+r.length)=some o:=by
 rw [<-iU,<-fm];exact pD ho
end
section
section
variable {prog:Wi}{w:WK}{A:Wk}{E:Vg->Vh->Prop}{s:Vh}
theorem gm:∀ (l:List (Int×Str)) (t:Nat),(ents l t).length=l.length
 | [],_=>rfl
 | (_,_)::r,t=>by show (ents r (t+3)).length+1=_;rw [gm r];rfl
theorem w4 (es:List Vt)(e:Vt)(ep:Nat):YG (·.push e) (D es ep)=D (es++[e]) (ep+1):=by
 show ({cls:=.type "dict",data:=.dict (es.toArray.push e) (ep+1)}:Obj)=_
 unfold D
 congr 2
 simp
end
end
section
section
variable {prog:Wi}{w:WK}{A:Wk}{E:Vg->Vh->Prop}{s:Vh}
theorem DJ:isSubtype (.type "dict") (.type "dict")=pure true:=by kernel_rfl
theorem pF {H:Heap}{r:List Obj}{ps:List (Sem Vg×Sem Vg)}{l:List (Int×Str)}{tk:Nat}{Q:Addr->Vh->Prop}(hp:bP prog w ps l)(hr:dI [] l)(hz:l.length<=sizeLine)(hn:¬ ps.length<=15)
  (hQ:Q H.objs.size {s with heap:=H.push (D (ents l tk) l.length),toks:=tk+3*l.length}):wpAny (model prog w) A (subDict ps) Q E {s with heap:=H,toks:=tk}:=by
 unfold subDict
 refine Vc (ZI ?_)
 refine Vc (Vu ?_)
 rw [if_neg hn]
 refine Vc (Yt ?_)
 refine Vc ?_
 refine V6 (zb (s:=s) (H:=H) (es:=[]) (ep:=0) (tk:=tk) (Q:=λ _ s'=>Q H.objs.size s') (λ {p i x es ep tk Q'} hp hr hz hq=>?_) hp hr (by simpa using hz) (by rw [Vz,Ws];exact hQ)) (λ _ s' q=>Vj (Vj q)) (λ _ _ q=>q)
 refine Vc (hp.1 _ _ _ _ ?_)
 refine Vc (Vu (hp.2 _ _ _ _ ?_))
 refine qA (λ a b=>?_) (lH hr)
 refine Vc (Vu (ny (o:=D es ep) (es:=es.toArray) (ep:=ep) (pD rfl) rfl a b hz ?_))
 refine Vj ?_
 show Q' _ {s with heap:=(H.push (D es ep)).update H.objs.size (YG (·.push ⟨hashInt i,.int i tk,.str x (tk+1)⟩)),toks:=tk+1+1+1}
 rw [lG,w4]
 exact hq
end
end
section
noncomputable def di:List (Int×Str)->Nat->List Vt
 | [],_=>[]
 | (i,x)::r,t=>⟨hashInt i,.int i t,.str x (t+1)⟩::di r (t+2)
noncomputable def vz:List (Int×Str)->Nat->List (Vg×Vg)
 | [],_=>[]
 | (i,x)::r,t=>(.int i t,.str x (t+1))::vz r (t+2)
section
variable {prog:Wi}{w:WK}{A:Wk}{E:Vg->Vh->Prop}{s:Vh}
theorem kg:∀ {ps:List (Sem Vg×Sem Vg)}{l:List (Int×Str)}{tk:Nat}{s:Vh}{Q:List (Vg×Vg)->Vh->Prop},bP prog w ps l->Q (vz l tk) {s with toks:=tk+2*l.length}->wpAny (model prog w) A (evalPairs ps) Q E {s with toks:=tk}
 | _,_,tk,s,Q,.nil,hQ=>Vj hQ
 | _,_,tk,s,Q,.cons (p:=p) (q:=q) (ps:=ps) (l:=l) h hl,hQ=>by
  obtain ⟨i,x⟩:=q
  unfold evalPairs
  refine Vc (h.1 _ _ _ _ ?_)
  refine Vc (Vu (h.2 _ _ _ _ ?_))
  refine Vc (Vu ?_)
  refine kg (tk:=tk+1+1) (s:=s) hl ?_
  refine Vj ?_
  rw [show tk+1+1+2*l.length=tk+2*((i,x)::l).length by rw [V3];lia]
  exact hQ
theorem vA {H:Heap}{f:(Vg×Vg)->PUnit->Sem (ForInStep PUnit)}
  (hf:∀ {i:Int}{x:Str}{es:List Vt}{ep tk t:Nat}{Q:ForInStep PUnit->Vh->Prop},(∀ e∈es,∃ k t,e.key=.int k t/\e.hash=hashInt k/\k<i)->es.length<=sizeLine->
   Q (.yield ⟨⟩) {s with heap:=H.push (D (es++[⟨hashInt i,.int i t,.str x (t+1)⟩]) (ep+1)),toks:=tk+1}->wpAny (model prog w) A (f (.int i t,.str x (t+1)) ⟨⟩) Q E {s with heap:=H.push (D es ep),toks:=tk}) :
  ∀ {l:List (Int×Str)}{es:List Vt}{ep tk t:Nat}{Q:PUnit->Vh->Prop},dI es l->es.length+l.length<=sizeLine->
  Q XO {s with heap:=H.push (D (es++di l t) (ep+l.length)),toks:=tk+l.length}->wpAny (model prog w) A (forIn (vz l t) XO f) Q E {s with heap:=H.push (D es ep),toks:=tk}
 | [],es,ep,tk,t,Q,_,_,hQ=>by
  rw [show vz [] t=[] from rfl,Xj]
  refine Vj ?_
  have e:es++di [] t=es:=VT es
  rw [e] at hQ
  exact hQ
 | (i,x)::l,es,ep,tk,t,Q,hr,hz,hQ=>by
  have hz':es.length+(l.length+1)<=sizeLine:=hz
  rw [show vz ((i,x)::l) t=(.int i t,.str x (t+1))::vz l (t+2) from rfl,Ww]
  refine Vc (hf hr.1 (by lia) ?_)
  dsimp only
  refine vA hf (hr.2 t) ?_ ?_
  ·rw [Vk];show es.length+1+l.length<=_;lia
  ·have e2:es++di ((i,x)::l) t=(es++[⟨hashInt i,.int i t,.str x (t+1)⟩])++di l (t+2):=by rw [Vs];rfl
   rw [e2] at hQ
   rw [show ep+1+l.length=ep+((i,x)::l).length by rw [V3];lia,show tk+1+l.length=tk+((i,x)::l).length by rw [V3];lia]
   exact hQ
theorem pairs_len:∀ {ps:List (Sem Vg×Sem Vg)}{l:List (Int×Str)},bP prog w ps l->ps.length=l.length
 | _,_,.nil=>rfl
 | _,_,.cons _ hl=>congrArg (· + 1) (pairs_len hl)
theorem uG {H:Heap}{ps:List (Sem Vg×Sem Vg)}{l:List (Int×Str)}{tk:Nat}{Q:Addr->Vh->Prop}(hp:bP prog w ps l)(hr:dI [] l)(hz:l.length<=sizeLine)(hn:ps.length<=15)
  (hQ:Q H.objs.size {s with heap:=H.push (D (di l tk) l.length),toks:=tk+3*l.length}):wpAny (model prog w) A (subDict ps) Q E {s with heap:=H,toks:=tk}:=by
 unfold subDict
 refine Vc (ZI ?_)
 refine Vc (Vu ?_)
 rw [if_pos hn]
 refine Vc ?_
 refine kg (tk:=tk) (s:={s with heap:=H.push (D [] 0),toks:=tk}) hp ?_
 refine Vu (Vc ?_)
 refine V6 (vA (s:=s) (H:=H) (es:=[]) (ep:=0) (tk:=tk+2*l.length) (t:=tk) (Q:=λ _ s'=>Q H.objs.size s') (λ {i x es ep tk t Q'} hr hz hq=>?_) hr (by simpa using hz) (by
  rw [Vz,Ws,show tk+2*l.length+l.length=tk+3*l.length by lia];exact hQ)) (λ _ s' q=>Vj (Vj q)) (λ _ _ q=>q)
 refine qA (λ a b=>?_) (lH hr)
 refine Vc (ny (o:=D es ep) (es:=es.toArray) (ep:=ep) (pD rfl) rfl a b hz ?_)
 refine Vj ?_
 show Q' _ {s with heap:=(H.push (D es ep)).update H.objs.size (YG (·.push ⟨hashInt i,.int i t,.str x (t+1)⟩)),toks:=tk+1}
 rw [lG,w4]
 exact hq
end
end
section
noncomputable def Up:List Vt->List Vt->Prop
 | _,[]=>True
 | es,e::r=>(∃ k t,e.key=.int k t/\e.hash=hashInt k/\∀ f∈es,∃ k' t',f.key=.int k' t'/\f.hash=hashInt k'/\k'<k)/\Up (es++[e]) r
theorem BQ:∀ {l:List (Int×Str)}{es:List Vt} (t:Nat),dI es l->Up es (ents l t)
 | [],_,_,_=>trivial
 | (i,x)::l,es,t,h=>⟨(ay i t rfl rfl h.1),BQ (t+3) (h.2 t)⟩
theorem zc:∀ {l:List (Int×Str)}{es:List Vt} (t:Nat),dI es l->Up es (di l t)
 | [],_,_,_=>trivial
 | (i,x)::l,es,t,h=>⟨(ay i t rfl rfl h.1),zc (t+2) (h.2 t)⟩
section
variable {prog:Wi}{w:WK}{A:Wk}{E:Vg->Vh->Prop}{s:Vh}
theorem qC {H:Heap}{r:List Obj}{sub:List Vt}{f:Nat->PUnit->Sem (ForInStep PUnit)}
  (hf:∀ {i:Nat}{e:Vt}{es:List Vt}{ep:Nat}{Q:ForInStep PUnit->Vh->Prop},sub.toArray[i]?=some e->(∃ k t,e.key=.int k t/\e.hash=hashInt k/\∀ f∈es,∃ k' t',f.key=.int k' t'/\f.hash=hashInt k'/\k'<k)->es.length<=sizeLine->
   Q (.yield ⟨⟩) {s with heap:=bl H (D (es++[e]) (ep+1)::r)}->wpAny (model prog w) A (f i ⟨⟩) Q E {s with heap:=bl H (D es ep::r)}) :
  ∀ (su pre es:List Vt) (ep:Nat) (Q:PUnit->Vh->Prop),sub=pre++su->Up es su->es.length+su.length<=sizeLine->
  Q XO {s with heap:=bl H (D (es++su) (ep+su.length)::r)}->wpAny (model prog w) A (forIn (VV pre.length su.length) XO f) Q E {s with heap:=bl H (D es ep::r)}
 | [],pre,es,ep,Q,_,_,_,hQ=>by
  rw [show VV pre.length ([]:List Vt).length=[] from rfl,Xj]
  refine Vj ?_
  rw [VT] at hQ
  exact hQ
 | e::su,pre,es,ep,Q,hs,hr,hz,hQ=>by
  have hz':es.length+(su.length+1)<=sizeLine:=hz
  rw [show VV pre.length (e::su).length=pre.length::VV (pre.length+1) su.length from rfl,Ww]
  refine Vc (hf (by rw [hs];simp) hr.1 (by lia) ?_)
  dsimp only
  have:=qC hf su (pre++[e]) (es++[e]) (ep+1) Q (by rw [hs,Vs];rfl) hr.2 (by rw [Vk];show es.length+1+su.length<=_;lia) (by
   rw [Vs,show ep+1+su.length=ep+(e::su).length by rw [V3];lia]
   exact hQ)
  rw [Vk] at this
  exact this
theorem pG {H:Heap}{a:Addr}{r:List Obj}{su es:List Vt}{xu ep:Nat}{Q:Unit->Vh->Prop}(hsub:∀ es ep,(bl H (D es ep::r)).get? a=some (D su xu))
  (hr:Up es su) (hz:es.length+su.length<=sizeLine) (he:es≠[]) (hsys:(a==sysModules)=false)
  (hQ:Q () {s with heap:=bl H (D (es++su) (ep+su.length)::r)}):wpAny (model prog w) A (mergeMapping H.objs.size (.ref a) false) Q E {s with heap:=bl H (D es ep::r)}:=by
 have hT:({s with heap:=bl H (D es ep::r)}:Vh).TypeIs (.ref a) "dict":=⟨_,hsub es ep,rfl⟩
 unfold mergeMapping
 refine Vc (YQ hT DJ ?_)
 rw [if_pos rfl]
 refine Vc (Xm hT PySem.F.slot_dict_iter.lookup ?_)
 have e1:(some (ZF "dict.__iter__")==some (ZF "dict.__iter__"))=true:=by decide +kernel
 rw [e1]
 refine Vc (Vj ?_)
 dsimp only
 rw [if_neg (by rw [hsys];decide)]
 refine Vc (WS (o:=D es ep) (qy H r rfl) rfl ?_)
 rw [if_neg (by induction es using VY with | nil=>exact absurd rfl he | cons a b=>simp)]
 refine Vc (WS (o:=D su xu) (hsub es ep) rfl ?_)
 refine Vc (Y5 (o:=D su xu) (hsub es ep) rfl ?_)
 refine Vc ?_
 rw [show su.toArray.size=su.length by simp,List.range_eq_range']
 refine V6 (qC (s:=s) (sub:=su) (λ {i e es ep Q'} he hk hz hq=>?_) su [] es ep (λ _ s'=>Q () s') rfl hr hz hQ) (λ _ s' q=>Vj q) (λ _ _ q=>q)
 refine ak (λ k t q1 q2 q3=>?_) hk
 refine qA (λ k1 k2=>?_) (lH q3)
 refine Vc (WS (o:=D su xu) (hsub es ep) rfl ?_)
 rw [he]
 dsimp only
 refine Vc (Vu ?_)
 rw [if_neg Vp]
 have ee:e=⟨hashInt k,.int k t,e.val⟩:=by obtain ⟨a1,a2,a3⟩:=e;cases q1;cases q2;rfl
 rw [q1,q2]
 refine uF (o:=D es ep) (es:=es.toArray) (ep:=ep) (qy H r rfl) rfl k1 k2 hz ?_
 show wpAny _ _ _ _ _ {s with heap:=(bl H (D es ep::r)).update H.objs.size _}
 rw [wZ,w4,<-ee]
 refine Vc (Y5 (o:=D su xu) (hsub _ _) rfl ?_)
 rw [if_neg (by simp)]
 exact Vj hq
end
end
section
theorem ic:∀ {c l:List (Int×Str)}{es:List Vt} (t:Nat),dI es (c++l)->dI es c/\dI (es++ents c t) l
 | [],l,es,t,h=>⟨trivial,by rw [show ents [] t=[] from rfl,VT];exact h⟩
 | (i,x)::c,l,es,t,h=>by
  refine ⟨⟨h.1,λ t'=>(ic t' (h.2 t')).1⟩,?_⟩
  have:=(ic (t+3) (h.2 t)).2
  rw [Vs] at this
  exact this
theorem lI:∀ {l:List (Int×Str)}{es es':List Vt},(∀ e∈es',e∈es)->dI es l->dI es' l
 | [],_,_,_,_=>trivial
 | (i,x)::l,es,es',h,hr=>⟨λ e he=>hr.1 e (h e he),λ t=>lI (λ e he=>by
   rcases Wa.mp he with h1 | h1
   ·exact List.mem_append_left _ (h e h1)
   ·exact List.mem_append_right _ h1) (hr.2 t)⟩
theorem tW:∀ (c l:List (Int×Str)) (t:Nat),ents (c++l) t=ents c t++ents l (t+3*c.length)
 | [],l,t=>rfl
 | (i,x)::c,l,t=>by
  show _::ents (c++l) (t+3)=_::(ents c (t+3)++_)
  rw [tW c l (t+3),show t+3+3*c.length=t+3*((i,x)::c).length by rw [V3];lia]
section
variable {prog:Wi}{w:WK}{A:Wk}{E:Vg->Vh->Prop}{s:Vh}
noncomputable abbrev Pr:=Sem Vg×Sem Vg
noncomputable def wr (ps:List Pr):List (Option (Sem Vg)×Sem Vg):=ps.map λ p=>(some p.1,p.2)
structure Turn (prog:Wi)(w:WK)(f:(Option (Sem Vg)×Sem Vg)->(Option Addr×List Pr)->Sem (ForInStep (Option Addr×List Pr)))(fl:List Pr->Option Addr->Sem (Option Addr)):Prop where
 few:∀ (p:Pr) (m:Option Addr) (run:List Pr),run.length+1<17->f (some p.1,p.2) (m,run)=pure (.yield (m,run++[p]))
 full:∀ (p:Pr) (m:Option Addr) (run:List Pr),run.length+1=17->f (some p.1,p.2) (m,run)=(do let m' <-fl (run++[p]) m;pure (.yield (m',[])))
 first:∀ (run:List Pr) {A:Wk}{E:Vg->Vh->Prop}{s:Vh}{Q:Option Addr->Vh->Prop},run≠[]->wpAny (model prog w) A (subDict run) (λ d s'=>Q (some d) s') E s->wpAny (model prog w) A (fl run none) Q E s
 later:∀ (run:List Pr) (d:Addr) {A:Wk}{E:Vg->Vh->Prop}{s:Vh}{Q:Option Addr->Vh->Prop},run≠[]->wpAny (model prog w) A (subDict run) (λ sub s'=>wpAny (model prog w) A (mergeMapping d (.ref sub) false) (λ _ s2=>Q (some d) s2) (λ _ _=>False) s') E s->wpAny (model prog w) A (fl run (some d)) Q E s
variable {f:(Option (Sem Vg)×Sem Vg)->(Option Addr×List Pr)->Sem (ForInStep (Option Addr×List Pr))}{fl:List Pr->Option Addr->Sem (Option Addr)}
theorem gather (T:Turn prog w f fl)(m:Option Addr)(rest:List (Option (Sem Vg)×Sem Vg)):∀ (ps run:List Pr),run.length+ps.length<17->forIn (wr ps++rest) (m,run) f=forIn rest (m,run++ps) f
 | [],run,_=>by rw [VT];rfl
 | p::ps,run,h=>by
  show forIn ((some p.1,p.2)::(wr ps++rest)) (m,run) f=_
  rw [Ww,T.few p m run (by rw [V3] at h;lia),ce]
  show forIn (wr ps++rest) (m,run++[p]) f=_
  rw [gather T m rest ps (run++[p]) (by rw [Vk];rw [V3] at h;show run.length+1+_<_;lia),Vs]
  rfl
theorem chunk (T:Turn prog w f fl)(m:Option Addr)(rest:List (Option (Sem Vg)×Sem Vg))(ps:List Pr)(h:ps.length=17):forIn (wr ps++rest) (m,[]) f=(do let m' <-fl ps m;forIn rest (m',[]) f):=by
 obtain ⟨ps',p,rfl⟩:∃ ps' p,ps=ps'++[p]:=by
  rcases List.eq_nil_or_concat ps with e | ⟨a,b,e⟩
  ·rw [e] at h;cases h
  ·exact ⟨a,b,by rw [e,List.concat_eq_append]⟩
 have hl:ps'.length=16:=by rw [Vk] at h;have:([p]:List Pr).length=1:=rfl;lia
 rw [show wr (ps'++[p])++rest=wr ps'++((some p.1,p.2)::rest) by unfold wr;rw [VI,Vs];rfl]
 rw [gather T m _ ps' [] (by rw [hl];decide),Vz,Ww,T.full p m ps' (by rw [hl]),hJ]
 rfl
end
end
section
noncomputable def subs:List (List (Int×Str))->Nat->List Obj
 | [],_=>[]
 | c::cs,t=>D (ents c t) c.length::subs cs (t+3*c.length)
section
variable {prog:Wi}{w:WK}{A:Wk}{E:Vg->Vh->Prop}{s:Vh}
inductive fV (prog:Wi)(w:WK):List (List Pr)->List (List (Int×Str))->Prop
 | nil:fV prog w [] []
 | cons {p q ps l} (h:bP prog w p q) (hz:q.length=17) (hl:fV prog w ps l):fV prog w (p::ps) (q::l)
variable {f:(Option (Sem Vg)×Sem Vg)->(Option Addr×List Pr)->Sem (ForInStep (Option Addr×List Pr))}{fl:List Pr->Option Addr->Sem (Option Addr)}
theorem Ay (a b:List Pr):wr (a++b)=wr a++wr b:=VI
theorem vB (T:Turn prog w f fl){H:Heap}(hsys:sysModules<H.objs.size)(rest:List (Option (Sem Vg)×Sem Vg)):∀ {Az:List (List Pr)}{cs:List (List (Int×Str))}{r:List Obj}{es:List Vt}{ep tk:Nat}{Q:(Option Addr×List Pr)->Vh->Prop},
  fV prog w Az cs->dI es cs.flatten->es≠[]->es.length+cs.flatten.length<=sizeLine->
  wpAny (model prog w) A (forIn rest (some H.objs.size,[]) f) Q E {s with heap:=bl H (D (es++ents cs.flatten tk) (ep+cs.flatten.length)::(r++subs cs tk)),toks:=tk+3*cs.flatten.length}->
  wpAny (model prog w) A (forIn (wr Az.flatten++rest) (some H.objs.size,[]) f) Q E {s with heap:=bl H (D es ep::r),toks:=tk}
 | _,_,r,es,ep,tk,Q,.nil,_,_,_,h=>by
  have e1:es++ents ([]:List (List (Int×Str))).flatten tk=es:=VT es
  have e2:r++subs [] tk=r:=VT r
  rw [e1,e2] at h
  exact h
 | _,_,r,es,ep,tk,Q,.cons (p:=p) (q:=c) (ps:=Az) (l:=cs) hp hz hl,hr,hne,hsz,h=>by
  rw [Xz] at hr hsz
  rw [Vk] at hsz
  refine qA (λ r1 r2=>?_) (ic tk hr)
  rw [Xz,Ay,Vs,chunk T _ _ p (by rw [pairs_len hp,hz])]
  have Qp:p≠[]:=by intro e;have:=pairs_len hp;rw [e,hz] at this;cases this
  refine Vc (T.later p _ Qp ?_)
  refine pF (r:=[]) hp (lI (λ e he=>by cases he) r1) (by lia) (by rw [pairs_len hp,hz];decide) ?_
  rw [iU]
  refine pG (s:={s with toks:=tk+3*c.length}) (r:=r++[D (ents c tk) c.length]) (su:=ents c tk) (xu:=c.length) (λ es' vV=>?_) (BQ tk r1) (by rw [gm];lia) hne ?_ ?_
  ·have:=qz H (o:=D (ents c tk) c.length) (D es' vV::r) rfl
   rw [fm]
   exact this
  ·rw [fm,beq_eq_false_iff_ne];exact λ e=>V8 sysModules (Vx hsys (e▸Vw _ _))
  ·refine vB T hsys rest hl r2 (by intro e;exact hne (List.append_eq_nil_iff.mp e).1) (by rw [Vk,gm];lia) ?_
   rw [Xz,tW,Vk] at h
   rw [Vs,Vs,gm,show ep+c.length+cs.flatten.length=ep+(c.length+cs.flatten.length) by lia,show tk+3*c.length+3*cs.flatten.length=tk+3*(c.length+cs.flatten.length) by lia]
   exact h
theorem zd (T:Turn prog w f fl){H:Heap}(hsys:sysModules<H.objs.size){p0:List Pr}{c0:List (Int×Str)}{Az:List (List Pr)}{cs:List (List (Int×Str))}{pl:List Pr}{l:List (Int×Str)}{tk:Nat}{Q:Option Addr->Vh->Prop}
  (h0:bP prog w p0 c0) (hz0:c0.length=17) (hc:fV prog w Az cs) (hl:bP prog w pl l) (hl1:l≠[]) (G8:l.length<=15) (hr:dI [] (c0++(cs.flatten++l))) (hsz:(c0++(cs.flatten++l)).length<=sizeLine)
  (hQ:Q (some H.objs.size) {s with heap:=bl H (D (ents (c0++cs.flatten) tk++di l (tk+3*(c0++cs.flatten).length)) (c0++(cs.flatten++l)).length::(subs cs (tk+3*c0.length)++[D (di l (tk+3*(c0++cs.flatten).length)) l.length])),toks:=tk+3*(c0++(cs.flatten++l)).length}) :
  wpAny (model prog w) A (do let (m,run) <-forIn (wr (p0++(Az.flatten++pl))) (none,[]) f;fl run m) Q E {s with heap:=H,toks:=tk}:=by
 refine qA (λ r1 r2=>?_) (ic tk hr)
 refine qA (λ r3 r4=>?_) (ic (tk+3*c0.length) r2)
 rw [Vk,Vk] at hsz
 have hp0:p0≠[]:=by intro e;have:=pairs_len h0;rw [e,hz0] at this;cases this
 have hpl:pl≠[]:=by intro e;have:=pairs_len hl;rw [e] at this;exact hl1 (List.eq_nil_of_length_eq_zero this.symm)
 have hc0:ents c0 tk≠[]:=by intro e;have:=gm c0 tk;rw [e,hz0] at this;cases this
 rw [Ay,chunk T _ _ p0 (by rw [pairs_len h0,hz0]),Ay,hJ]
 refine Vc (T.first p0 hp0 ?_)
 refine pF (r:=[]) h0 r1 (by lia) (by rw [pairs_len h0,hz0];decide) ?_
 refine Vc ?_
 refine vB T hsys _ (r:=[]) (es:=ents c0 tk) (ep:=c0.length) (tk:=tk+3*c0.length) (s:=s) hc r3 hc0 (by rw [gm];lia) ?_
 rw [<-VT (wr pl),gather T _ [] pl [] (by rw [pairs_len hl];show 0+_<17;lia),Xj]
 refine Vj ?_
 show wpAny _ _ (fl ([]++pl) (some H.objs.size)) _ _ _
 rw [Vz,Vz]
 refine T.later pl _ hpl ?_
 refine uG hl (lI (λ e he=>by cases he) r4) (by lia) (by rw [pairs_len hl];exact G8) ?_
 rw [iU]
 refine pG (s:={s with toks:=tk+3*c0.length+3*cs.flatten.length+3*l.length}) (r:=subs cs (tk+3*c0.length)++[D (di l (tk+3*c0.length+3*cs.flatten.length)) l.length]) (su:=di l (tk+3*c0.length+3*cs.flatten.length)) (xu:=l.length) (λ es' vV=>?_) (zc _ r4) ?_ (by intro e;exact hc0 (List.append_eq_nil_iff.mp e).1) ?_ ?_
 ·have:=qz H (o:=D (di l (tk+3*c0.length+3*cs.flatten.length)) l.length) (D es' vV::subs cs (tk+3*c0.length)) rfl
  rw [fm]
  exact this
 ·rw [Vk,gm,gm]
  have:∀ (l:List (Int×Str)) t,(di l t).length=l.length:=λ l=>by induction l with | nil=>intro t;rfl | cons a b ih=>intro t;show (di b (t+2)).length+1=_;rw [ih];rfl
  rw [this];lia
 ·rw [fm,beq_eq_false_iff_ne];exact λ e=>V8 sysModules (Vx hsys (e▸Vw _ _))
 ·have hlS:∀ (l:List (Int×Str)) t,(di l t).length=l.length:=λ l=>by induction l with | nil=>intro t;rfl | cons a b ih=>intro t;show (di b (t+2)).length+1=_;rw [ih];rfl
  rw [tW,Vk,Vk,Vk,show tk+3*(c0.length+cs.flatten.length)=tk+3*c0.length+3*cs.flatten.length by lia,show tk+3*(c0.length+(cs.flatten.length+l.length))=tk+3*c0.length+3*cs.flatten.length+3*l.length by lia] at hQ
  rw [hlS,show c0.length+cs.flatten.length+l.length=c0.length+(cs.flatten.length+l.length) by lia]
  exact hQ
end
end
section
section
variable {prog:Wi}{w:WK}{A:Wk}{E:Vg->Vh->Prop}{s:Vh}
theorem AA {f:(Option (Sem Vg)×Sem Vg)->(Option Addr×List Pr)->Sem (ForInStep (Option Addr×List Pr))}{fl:List Pr->Option Addr->Sem (Option Addr)}(T:Turn prog w f fl){items:List (Option (Sem Vg)×Sem Vg)}{Q:Vg->Vh->Prop}
  (h:Turn prog w f fl->wpAny (model prog w) A (do let (m,run) <-forIn items (none,[]) f;fl run m) (λ m s'=>∃ d,m=some d/\Q (.ref d) s') E s) :
  wpAny (model prog w) A (do
   let x <-forIn items (none,[]) f
   let m <-fl x.2 x.1
   match m with
   | some d=>pure (Wv d)
   | none=>newDict) Q E s:=by
 have e:(do
   let x <-forIn items (none,[]) f
   let m <-fl x.2 x.1
   match m with
   | some d=>pure (Wv d)
   | none=>newDict:Sem Vg)=(do
   let m <-(do let (m,run) <-forIn items (none,[]) f;fl run m)
   match m with
   | some d=>pure (Wv d)
   | none=>newDict):=by rw [hJ]
 rw [e]
 refine Vc (V6 (h T) ?_ λ _ _ q=>q)
 intro m s';refine aI λ d e_ q=>?_;subst e_
 exact Vj q
theorem uH {H:Heap}(hsys:sysModules<H.objs.size){p0:List Pr}{c0:List (Int×Str)}{Az:List (List Pr)}{cs:List (List (Int×Str))}{pl:List Pr}{l:List (Int×Str)}{tk:Nat}{Q:Vg->Vh->Prop}
  (h0:bP prog w p0 c0) (hz0:c0.length=17) (hc:fV prog w Az cs) (hl:bP prog w pl l) (hl1:l≠[]) (G8:l.length<=15) (hr:dI [] (c0++(cs.flatten++l))) (hsz:(c0++(cs.flatten++l)).length<=sizeLine)
  (hQ:Q (.ref H.objs.size) {s with heap:=bl H (D (ents (c0++cs.flatten) tk++di l (tk+3*(c0++cs.flatten).length)) (c0++(cs.flatten++l)).length::(subs cs (tk+3*c0.length)++[D (di l (tk+3*(c0++cs.flatten).length)) l.length])),toks:=tk+3*(c0++(cs.flatten++l)).length}) :
  wpAny (model prog w) A (dictDisplay (wr (p0++(Az.flatten++pl)))) Q E {s with heap:=H,toks:=tk}:=by
 unfold dictDisplay
 extract_lets flush RV Us
 refine AA (fl:=flush) ⟨?_,?_,?_,?_⟩ (λ T=>zd T hsys h0 hz0 hc hl hl1 G8 hr hsz (aC _ rfl hQ))
 ·intro p m run h
  dsimp only
  rw [if_neg (by rw [Vk,beq_iff_eq];show ¬ (run.length+1=17);lia)]
 ·intro p m run h
  dsimp only
  rw [if_pos (by rw [Vk,beq_iff_eq];show run.length+1=17;lia)]
 ·intro run A E s Q h q
  show wpAny _ _ (flush run none) _ _ _
  unfold flush
  dsimp only
  rw [if_neg (by induction run using VY with | nil=>exact absurd rfl h | cons=>simp)]
  exact Vc (V6 q (λ _ _ q=>Vj q) λ _ _ q=>q)
 ·intro run d A E s Q h q
  show wpAny _ _ (flush run (some d)) _ _ _
  unfold flush
  dsimp only
  rw [if_neg (by induction run using VY with | nil=>exact absurd rfl h | cons=>simp)]
  refine Vc (Vu (V6 q (λ _ _ q=>Vc ?_) λ _ _ q=>q))
  exact bj (Vu (V6 q (λ _ _ q=>Vj q) λ _ _ q=>q.elim))
end
end
section
noncomputable def iC:(k:Option Expr)->Option {i:Int // ∃ q p,k=some (.Constant (.int i) q p)}
 | some (.Constant (.int i) q p)=>some ⟨i,q,p,rfl⟩
 | _=>none
noncomputable def sC:(v:Expr)->Option {x:Str // ∃ q p,v=.Constant (.str x) q p}
 | .Constant (.str x) q p=>some ⟨x,q,p,rfl⟩
 | _=>none
noncomputable def qh:List (Option Expr)->List Expr->Option (List (Int×Str))
 | [],vs=>(match vs with
  | []=>some []
  | _::_=>none)
 | k::ks,vs=>(match vs with
  | []=>none
  | v::vs=>(iC k).bind λ i=>(sC v).bind λ x=>(qh ks vs).map ((i.1,x.1)::·))
section
variable {prog:Wi}{w:WK}{A:Wk}{E:Vg->Vh->Prop}{s:Vh}
noncomputable def Qq (env:Env)(pos:Pos):List (Option Expr)->List Expr->List Pr
 | some k::ks,v::vs=>(eval k env,do let x <-eval v env;standAt pos;pure x)::Qq env pos ks vs
 | _,_=>[]
theorem Qs {P:Prop}(k:∀ G:Prop,(P->G)->G):P:=k P id
theorem DK (env:Env)(pos:Pos)(ks:List (Option Expr)):∀ (vs:List Expr) (r:List (Int×Str)),qh ks vs=some r->
  (evalEachOpt ks env).zip ((evalEach vs env).map λ v=>do let x <-v;standAt pos;pure x)=wr (Qq env pos ks vs)/\bP prog w (Qq env pos ks vs) r:=by
 induction ks with
 | nil=>
  intro vs r h
  induction vs using VY with
  | nil=>obtain rfl:=Vf h;exact ⟨rfl,.nil⟩
  | cons _ _=>exact B0 h
 | cons k ks ih=>
  intro vs r h
  induction vs using VY with
  | nil=>exact B0 h
  | cons v vs=>
   refine Qs λ G0 qY=>?_
   refine aI (λ ef _ h=>?_) (Option.bind_eq_some_iff.mp (show ((iC k).bind λ i=>(sC v).bind λ x=>(qh ks vs).map ((i.1,x.1)::·))=some r from h));obtain ⟨i,k1,p1,rfl⟩:=ef
   refine qO (λ ef _ h=>?_) h;obtain ⟨x,k2,p2,rfl⟩:=ef
   refine qM (λ r' hr e_=>?_) h;subst e_
   refine qA (λ e1 e2=>?_) (ih vs r' hr)
   exact qY ⟨congrArg (kn (some (eval (.Constant (.int i) k1 p1) env),(do let y <-eval (.Constant (.str x) k2 p2) env;standAt pos;pure y:Sem Vg))) e1,bP.cons (p:=(eval (.Constant (.int i) k1 p1) env,do let y <-eval (.Constant (.str x) k2 p2) env;standAt pos;pure y)) (q:=(i,x)) ⟨λ A s Q E q=>ZW (k:=k1) (pos:=p1) (env:=env) q,λ A s Q E q=>Vc (wpAny_Constant_str (k:=k2) (pos:=p2) (env:=env) (Vc (Wb (Vj q))))⟩ e2⟩
theorem mQ:∀ {a b:List (Int×Str)}{ps:List Pr},bP prog w ps (a++b)->∃ p1 p2,ps=p1++p2/\bP prog w p1 a/\bP prog w p2 b
 | [],b,ps,h=>ay [] ps rfl .nil h
 | q::a,b,_,.cons (p:=p) h hl=>by
  refine ak (λ p1 p2 e h1 h2=>?_) (mQ hl)
  exact ay (p::p1) p2 (by rw [e];rfl) (.cons h h1) h2
theorem tX:∀ {cs:List (List (Int×Str))}{ps:List Pr},(cs.all λ c=>c.length==17)=true->bP prog w ps cs.flatten->∃ Az,ps=Az.flatten/\fV prog w Az cs
 | [],_,_,.nil=>aC [] rfl .nil
 | c::cs,ps,h,hp=>by
  rw [List.all_cons,VZ] at h
  refine ak (λ p1 p2 e_ h1 h2=>?_) (mQ hp);subst e_
  refine aI (λ Az e_ h3=>?_) (tX h.2 h2);subst e_
  exact aC (p1::Az) rfl (.cons h1 (by simpa using h.1) h3)
theorem AB {H:Heap}(hsys:sysModules<H.objs.size){env:Env}{ks:List (Option Expr)}{vs:List Expr}{pos:Pos}{c0:List (Int×Str)}{cs:List (List (Int×Str))}{l:List (Int×Str)}{tk:Nat}{Q:Vg->Vh->Prop}
  (vj:qh ks vs=some (c0++(cs.flatten++l))) (hz0:c0.length=17) (hc:(cs.all λ c=>c.length==17)=true) (hl1:l≠[]) (G8:l.length<=15) (hr:dI [] (c0++(cs.flatten++l))) (hsz:(c0++(cs.flatten++l)).length<=sizeLine)
  (hQ:Q (.ref H.objs.size) {s with heap:=bl H (D (ents (c0++cs.flatten) tk++di l (tk+3*(c0++cs.flatten).length)) (c0++(cs.flatten++l)).length::(subs cs (tk+3*c0.length)++[D (di l (tk+3*(c0++cs.flatten).length)) l.length])),toks:=tk+3*(c0++(cs.flatten++l)).length}) :
  wpAny (model prog w) A (eval (.Dict ks vs pos) env) Q E {s with heap:=H,toks:=tk}:=by
 refine qA (λ e1 e2=>?_) (DK (prog:=prog) (w:=w) env pos ks vs _ vj)
 refine ak (λ p0 p' e3 h0 h'=>?_) (mQ e2)
 refine ak (λ p1 pl e_ h1 hl=>?_) (mQ h');subst e_
 refine aI (λ Az e_ hcs=>?_) (tX hc h1);subst e_
 rw [arm_eval_Dict,e1,e3]
 exact Vc (Wb (uH hsys h0 hz0 hcs hl hl1 G8 hr hsz hQ))
end
noncomputable def w5 (m:Int):List (Int×Str)->Bool
 | []=>true
 | p::r=>decide (m<p.1)&&w5 p.1 r
theorem DL {l:List (Int×Str)}:∀ {m:Int}{es:List Vt},(∀ e∈es,∃ k t,e.key=.int k t/\e.hash=hashInt k/\k<=m)->w5 m l=true->dI es l:=by
 induction l with
 | nil=>exact λ _ _=>trivial
 | cons p l ih=>
  obtain ⟨i,x⟩:=p
  intro m es h hu
  have hu:=VG.mp hu
  have hm:m<i:=of_decide_eq_true hu.1
  refine ⟨λ e he=>?_,λ t=>ih (m:=i) (λ e he=>?_) hu.2⟩
  ·refine ak (λ k t a b c=>?_) (h e he)
   exact ay k t a b (ZX c hm)
  ·rcases Wa.mp he with h1 | h1
   ·refine ak (λ k t a b c=>?_) (h e h1)
    exact ay k t a b (Int.le_of_lt (ZX c hm))
   ·obtain rfl:=Vi.mp h1
    exact ay i t rfl rfl (ed _)
end
section
theorem pH {M:Zn}:∀ {n:Nat}{s s':Vh}{t:Thread}{f:Flow},M.runN n s t=.halted (outcomeOf (.ok f)) s'->∃ m t',M.runN m s t=.running s' t'/\t'.cur=.pure (.done f)/\t'.stack=[]
 | 0,s,s',t,f,h=>nomatch h
 | n+1,s,s',t,f,h=>by
  have h0:(match M.step s t with | .go s' t'=>M.runN n s' t' | .halt o s'=>.halted o s')=.halted (outcomeOf (.ok f)) s':=h
  cases hs:M.step s t with
  | go s₂ t₂=>
   rw [hs] at h0
   refine dM (λ m t' e q=>?_) (pH h0)
   exact nC (m+1) t' ((runN_succ m s t).trans (by rw [hs];exact e)) q
  | halt o s₂=>
   rw [hs] at h0
   injection h0 with a b
   obtain ⟨cur,code,pos,stack⟩:=t
   have z:=step_halt_result (hs.trans (congrArg (λ o=>Step.halt o s₂) a))
   refine ay 0 ⟨cur,code,pos,stack⟩ ?_ z.1 z.2.1
   rw [<-b,z.2.2.1];rfl
theorem ze {M:Zn}{n:Nat}{s s':Vh}{t:Thread}{f:Flow}(h:M.runN n s t=.halted (outcomeOf (.ok f)) s'):∃ m s₁ t',runN M.den M.prog M.w m s t=.running s₁ t'/\s₁.forget=s'.forget/\through t'=true:=by
 refine ak (λ m t' e hc hk=>?_) (pH h)
 refine ak (λ σ τ e1 e2 e3=>?_) (runNI_running_real e)
 refine cu m σ τ e1 (⟨e2,?_⟩)
 have c1:τ.forget.cur=t'.forget.cur:=congrArg Thread.cur e3
 replace c1:τ.cur=t'.cur:=c1
 have c2:τ.forget.stack=t'.forget.stack:=congrArg Thread.stack e3
 replace c2:forgetAll τ.stack=forgetAll t'.stack:=c2
 rw [hk] at c2
 have c3:τ.stack=[]:=by
  cases hq:τ.stack with
  | nil=>rfl
  | cons a l=>rw [hq] at c2;induction a<;>exact nomatch c2
 unfold through
 rw [c1,c3,hc];rfl
theorem zf {a b:Vh}(h:a.forget=b.forget)(hb:b.gens = #[]):a=b:=by
 refine bB (λ h1 h2 h3 h4 h5=>?_) (Shared.forget_eq h)
 have h6:a.gens = #[]:=by
  rw [hb] at h5
  simpa using h5
 obtain ⟨x1,x2,x3,x4,x5⟩:=a
 obtain ⟨y1,y2,y3,y4,y5⟩:=b
 have e:Zr x1 x2 x3 x4 x5=Zr y1 y2 y3 y4 y5:=by
  rw [show x1=y1 from h1,show x2=y2 from h6.trans hb.symm,show x3=y3 from h2,show x4=y4 from h3,show x5=y5 from h4]
 exact e
theorem vC {g:Array GenState}(h:g = #[]):leftWithCleanup g=false:=by
 rw [h];simp [leftWithCleanup]
end
section
noncomputable def uI:BT->Nat->List Obj->Option BT
 | t,_,[]=>some t
 | t,n,o::l=>bif ((t.ins n o).get n).isSome then uI (t.ins n o) (n+1) l else none
theorem zg {life:Life}{l:List Obj}:∀ {t t':BT}{n:Nat},uI t n l=some t'->absHeap t' (n+l.length) life=bl (absHeap t n life) l:=by
 induction l with
 | nil=>exact λ h=>Vf h▸rfl
 | cons o l ih=>
  intro t t' n h
  obtain ⟨e,h⟩:=lN h
  rw [V3,<-Xc,Wh,ih h,absHeap_ins e];rfl
theorem zh (l:List Obj):∀ (H:Heap),bl H l=⟨(H.objs.toList++l).toArray,H.life⟩:=by
 induction l with
 | nil=>intro H;show H=⟨(H.objs.toList++[]).toArray,H.life⟩;rw [VT]
 | cons o l ih=>
  intro H
  refine (ih (H.push o)).trans (congrArg (Heap.mk · H.life) ?_)
  show ((H.objs.push o).toList++l).toArray=_
  rw [Array.toList_push,Vs];rfl
theorem vD {H:Heap}{t:BT}(h:uI .nil 0 H.objs.toList=some t):absHeap t H.objs.size H.life=H:=by
 have z:=zg (life:=H.life) h
 rw [Ws] at z
 have e:H.objs.toList.length=H.objs.size:=XF
 rw [e] at z
 rw [z,zh]
 obtain ⟨o,l⟩:=H
 simp [absHeap,BT.list]
section
variable {M:Zn}{Γ:Ctx}{E:Vg->Pos->Vh->Prop}
theorem D6 {α β:Type}{m:Sem α}{f:α->Sem β}{Q:β->Pos->Vh->Prop}{p:Pos}{s:Vh}:WT M Γ (m >>= f) Q E p s=WT M Γ m (λ a p s=>WT M Γ (f a) Q E p s) E p s:=Sem.wp_bind M Γ m f Q E p s
theorem ki {env:Env}{b:List Stmt}{Q:Flow->Pos->Vh->Prop}:∀ (a:List Stmt) {p:Pos}{s:Vh},
  WT M Γ (execs a env) (λ f p s=>match f with | .next=>WT M Γ (execs b env) Q E p s | f=>Q f p s) E p s->WT M Γ (execs (a++b) env) Q E p s
 | [],p,s,h=>h
 | st::a,p,s,h=>by
  rw [eR,D6] at h
  rw [ci,eR,D6]
  refine Ys M Γ _ (λ f p s h1=>?_) (λ _ _ _ h=>h) p s h
  induction f with
  | next=>exact ki a h1
  | _=>exact h1
noncomputable def Around.BR (Γ:Ctx):Wk:={handled:=Γ.handled,depth:=frameCount Γ.below+Γ.code.weight,frames:=none,guards:=none,units:=Γ.units}
theorem G9:Γ.In (Around.BR Γ):=⟨rfl,VD _,(λ l h=>by exact jB h),(λ g h=>by exact jB h),VD _⟩
theorem DM {targets:List Expr}{value:Expr}{pos:Pos}{env:Env}{s s2:Vh}{v:Vg}{Q:Flow->Pos->Vh->Prop}{p:Pos}
  (hs:swapsWithSole targets value pos.line env=pure false) (hw:swappedStores targets value env=pure none)
  (h:wpAny M (Around.BR Γ) (eval value env) (λ x s'=>x=v/\s'=s2) (λ _ _=>False) s)
  (h2:∀ p',WT M Γ (assignAll v ((assignEach targets env).map (·.2))) (λ _ p s=>Q .next p s) E p' s2) :
  WT M Γ (exec (.Assign targets value pos) env) Q E p s:=by
 rw [arm_exec_Assign,hs]
 show WT M Γ (do let v <-eval value env;assignStores env v (<-swappedStores targets value env) ((assignEach targets env).map (·.2))) Q E pos s
 rw [D6]
 refine Ys M Γ _ (λ x p1 s1 h1=>?_) (λ _ _ _ h=>h.elim) pos s (h Γ pos G9)
 obtain ⟨rfl,rfl⟩:=h1
 rw [hw]
 show WT M Γ (do assignAll x ((assignEach targets env).map (·.2));pure Flow.next) Q E p1 s1
 rw [D6]
 exact h2 p1
end
end
section
set_option maxHeartbeats 0
noncomputable def j0:List Stmt:=behindTheImports pw
noncomputable def ie:List Expr:=match aJ 16 with | .Assign t _ _=>t | _=>[]
noncomputable def KC:List (Option Expr):=match aJ 16 with | .Assign _ (.Dict ks _ _) _=>ks | _=>[]
noncomputable def KD:List Expr:=match aJ 16 with | .Assign _ (.Dict _ vs _) _=>vs | _=>[]
noncomputable def DN:Pos:=match aJ 16 with | .Assign _ (.Dict _ _ p) _=>p | _=>default
noncomputable def Hg:Pos:=match aJ 16 with | .Assign _ _ p=>p | _=>default
theorem DO:j0.drop 15=.Assign ie (.Dict KC KD DN) Hg::j0.drop 16:=by kernel_rfl
theorem LP (env:Env):swapsWithSole ie (.Dict KC KD DN) Hg.line env=pure false:=by kernel_rfl
theorem Hh (env:Env):swappedStores ie (.Dict KC KD DN) env=pure none:=by kernel_rfl
theorem LQ:qh KC KD=some (cA.take 17++(((Yk 37).map λ i=>(cA.drop (17+17*i)).take 17).flatten++cA.drop 646)):=by kernel_rfl
theorem Jx:((cA.take 17).length==17&&((Yk 37).map λ i=>(cA.drop (17+17*i)).take 17).all (λ c=>c.length==17)&&(cA.drop 646).length==4&&w5 0 cA&&cA.length==650)=true:=by kernel_rfl
end
section
set_option maxHeartbeats 0
noncomputable def rj:Code->Sem ZD:=Fast.tw11892475500146522536 Fast.tw14364793385576792824
noncomputable def KG:Ctx:=⟨.builtin "claim.caller" {},none,none,[],none⟩
noncomputable def jz (cf:Vg×Addr):Env:={scope:=pw.main.scope,locals:=mainNs,globals:=mainNs,cells:=[],code:=cf.1,frame:=some cf.2}
noncomputable def Hi (cf:Vg×Addr)(p1:Pos):Ctx:=KG.enter (.body j0 (jz cf)) none p1
noncomputable def qi:Sem (Vg×Addr):=do let code <-moduleCode pw.main;let frame <-newBodyFrame code mainNs mainNs;pure (code,frame)
noncomputable def BS (w:WK):Option Vh:=(Fast.tw10274390034422433532 Fast.tw14364793385576792824 (opening pw) w 40000 (Fast.tw1435165496053646825 (opening pw)).1 (Fast.tw1435165496053646825 (opening pw)).2).bind (Fast.tw14289696077712309145 pw)
structure RA where
 s0:Vh
 t0:BT
 cf:Vg×Addr
 p1:Pos
 T1:Wl
 p2:Pos
 T2:Wl
noncomputable def Jy {α:Type}(o:Option (Except Vg α×Pos×Wl)):Option (α×Pos×Wl):=o.bind λ r=>match r.1 with
 | .ok a=>some (a,r.2)
 | .error _=>none
noncomputable def nextOf (o:Option (Except Vg Flow×Pos×Wl)):Option (Pos×Wl):=(Jy o).bind λ r=>match r.1 with
 | .next=>some r.2
 | _=>none
noncomputable def tY (w:WK):Option RA:=(BS w).bind λ s0=>(uI .nil 0 s0.heap.objs.toList).bind λ t0=>
 (Jy (rn rj pw w.params 100000 (Vg×Addr) KG default ⟨t0,s0.heap.objs.size,s0.heap.life,s0.gens,s0.drawn,s0.toks,s0.os⟩ qi)).bind λ c=>
 (nextOf (rn rj pw w.params 100000 Flow (Hi c.1 c.2.1) c.2.1 c.2.2 (do blockStart j0 (jz c.1);Fast.tw12563942051412417395 (j0.take 15) (jz c.1)))).map λ q=>⟨s0,t0,c.1,c.2.1,c.2.2,q.1,q.2⟩
noncomputable def nB (E:Nat->List Vt×Nat):List Obj:=(Yk 39).map λ i=>D (E i).1 (E i).2
noncomputable def KH (w:WK)(E:Nat->List Vt×Nat)(p:Pos)(r:RA):Option Wl:=(uI r.T2.tree r.T2.n (nB E)).bind λ t3=>
 (Jy (rn rj pw w.params 100000 Unit (Hi r.cf r.p1) p ⟨t3,r.T2.n+39,r.T2.life,r.T2.gens,r.T2.drawn,r.T2.toks+1950,r.T2.os⟩ (assignAll (.ref r.T2.n) ((assignEach ie (jz r.cf)).map (·.2))))).bind λ c=>
 (nextOf (rn rj pw w.params 100000 Flow (Hi r.cf r.p1) c.2.1 c.2.2 (Fast.tw12563942051412417395 (j0.drop 16) (jz r.cf)))).map (·.2)
noncomputable def fH (w:WK)(E:Nat->List Vt×Nat)(p:Pos):Option (RA×Wl):=(tY w).bind λ r=>(KH w E p r).map λ T=>(r,T)
end
section
open PySem.Builtin.Re PySem.Builtin
noncomputable def vStr:Vg->Option Str
 | .str x _=>some x
 | _=>none
theorem zj {v:Vg}{x:Str}(h:vStr v=some x):∃ t,v=.str x t:=by
 induction v with
 | str y t=>exact ⟨t,congrArg (Za · t) (Vf h)⟩
 | _=>exact aV h
noncomputable def AD:Vg->Option String
 | .type x=>some x
 | _=>none
theorem tZ {v:Vg}{x:String}(h:AD v=some x):v=.type x:=by
 induction v with
 | type y=>exact congrArg Zt (Vf h)
 | _=>exact aV h
noncomputable def w9:Data->Option (Array Vg)
 | .fields vs=>some vs
 | _=>none
theorem qD {d:Data}{x:Array Vg}(h:w9 d=some x):d=.fields x:=by
 induction d with
 | fields y=>exact congrArg Data.fields (Vf h)
 | _=>exact aV h
noncomputable def KI:Data->Option WH
 | .func fd=>some fd
 | _=>none
theorem vE {d:Data}{x:WH}(h:KI d=some x):d=.func x:=by
 induction d with
 | func y=>exact congrArg Data.func (Vf h)
 | _=>exact aV h
noncomputable def Ol:Data->Option (Array Vg)
 | .seq vs _=>some vs
 | _=>none
theorem Hj {d:Data}{x:Array Vg}(h:Ol d=some x):∃ n,d=.seq x n:=by
 induction d with
 | seq y n=>exact ⟨n,congrArg (Data.seq · n) (Vf h)⟩
 | _=>exact aV h
noncomputable def iV (K:Frag)(f:Addr):Option WH:=(K.lookup f).bind λ o=>KI o.data
noncomputable def codeOk (K:Frag)(cd:Vg)(q:Str):Bool:=((El cd).bind λ c=>(K.lookup c).bind λ o=>(w9 o.data).bind λ vs=>(vs[1]? : Option Vg).bind vStr).any (sB · q)
noncomputable def Hl:Stmt->Bool
 | .FunctionDef _ _ _ _ _ _ s _ _ _=>!s.isCoroutine&&!s.isGenerator&&(s.kind==.function)&&(gM (s.names.map (·.1))&&zA s.names)
 | _=>false
noncomputable def t7 (S:Stmt)(dV kV:Vg)(fd:WH):WH:=fdOf S fd.qualname fd.pyModule fd.code fd.doc fd.closureTuple dV kV
theorem AE {K:Frag}{cd:Vg}{q:Str}(h:codeOk K cd q=true)(hp:Heap)(X:K.In hp):hp.CodeRec cd q:=by
 refine aI (λ x h hx=>?_) (kJ h)
 refine qO (λ c h1 h=>?_) h
 refine qO (λ o h2 h=>?_) h
 refine qO (λ vs h3 h=>?_) h
 refine qO (λ y h4 h=>?_) h
 refine qE (λ t e_=>?_) (zj h);subst e_
 exact ⟨c,o,vs,t,kI h1,X _ _ h2,qD h3,by rw [h4,dH.mp hx]⟩
theorem Om {s:WM}(h:(!s.isCoroutine&&!s.isGenerator&&(s.kind==.function))=true):(!s.isCoroutine&&!s.isGenerator&&(s.kind==.function&&mainGlobals==mainGlobals&&builtinsNs==builtinsNs))=true:=by
 rw [beq_self_eq_true,beq_self_eq_true,Bool.and_true,Bool.and_true];exact h
theorem LR {K:Frag}{f:Addr}{S:Stmt}{dV kV:Vg}(e:iV K f=(iV K f).map (t7 S dV kV))(b:(iV K f).any (λ fd=>codeOk K fd.code fd.qualname)=true)(hS:Hl S=true):oK K f S dV kV:=by
 cases hg:iV K f with
 | none=>rw [hg] at b;exact lO b
 | some fd=>
  rw [hg] at e b
  have e':fd=t7 S dV kV fd:=Vf e
  refine qO (λ o hl hd=>?_) hg
  induction S using Stmt.casesOn with
  | FunctionDef n a b' d r t s u v x=>
   refine qB (λ h1 h2=>?_) hS
   refine qB (λ h2 h3=>?_) h2
   exact ⟨fd.qualname,fd.pyModule,fd.code,fd.doc,fd.closureTuple,⟨(aC o hl ((vE hd).trans (congrArg Data.func e'))),rfl,Om h1,rfl,h2,h3,AE b⟩,rfl⟩
  | _=>exact lO hS
theorem Ho {K:Frag}{tab:List (Str×Vg)}(e:tab.map (λ p=>gl K p.1)=tab.map (λ p=>some p.2))(x:Str)(v:Vg)(h:az tab x=some v):gl K x=some v:=
 List.map_inj_left.mp e (x,v) (mem_of_lookup (by rw [<-bA];exact h))
theorem AF {K:Frag}{hdr:Addr}{tab:List (Str×Addr)}(e:tab.map (λ p=>(plainGet K hdr p.1,findIn K (.ref hdr) p.1,isFn K (.ref p.2)))=tab.map (λ p=>(true,some (some (.ref p.2)),true)))
  (x:Str) (f:Addr) (h:az tab x=some f):plainGet K hdr x=true/\findIn K (.ref hdr) x=some (some (.ref f))/\isFn K (.ref f)=true:=
 have q:=List.map_inj_left.mp e (x,f) (mem_of_lookup (by rw [<-bA];exact h))
 (bY ((Wd q).1) ((Wd (Wd q).2).1) ((Wd (Wd q).2).2))
theorem LS {K:Frag}{hdr:Addr} (h:(plainGet K hdr "_headers"&&hasDictIn K hdr&&noGet K none)=true) (hf:findIn K (.ref hdr) "_headers" = some none) (kvs:List (Str×V)) (v:V) (hv:az kvs "_headers" = some v) (hh:ql v=true) :
  kL K hdr kvs "_headers" = some (.own v):=by
 refine qB (λ h1 h2=>?_) h
 unfold kL
 rw [h1,hf,hv]
 show (bif noGet K none&&ql v then some (AG.own v) else none)=_
 rw [h2,hh];rfl
theorem Jz {K:Frag}{hdr f:Addr} (h:(plainGet K hdr "get"&&hasDictIn K hdr&&isFn K (.ref f)&&(specialIn K (.ref f) "__get__"==some (some (.builtin "function.__get__")))&&(takesIn K (.ref f)==some false))=true) (hf:findIn K (.ref hdr) "get" = some (some (.ref f))) (kvs:List (Str×V)) (hv:az kvs "get" = none) :
  kL K hdr kvs "get" = some (.bound f):=by
 refine qB (λ h h4=>?_) h
 refine qB (λ h h3=>?_) h
 refine qB (λ h1 h2=>?_) h
 unfold kL
 rw [h1,hf,hv]
 show (bif isFn K (.ref f)&&((specialIn K (.ref f) "__get__"==some (some (.builtin "function.__get__")))&&((takesIn K (.ref f)==some false)&&!copiedNames.contains "get")) then some (AG.bound f) else none)=_
 rw [h2,h3,h4];rfl
noncomputable def t8 (K:Frag)(a:Addr):Option (Array Nat):=(K.lookup a).bind λ o=>(AD o.cls).bind λ t=>(w9 o.data).bind λ fs=>
 bif t=="re.Pattern"&&(o.dict.isNone&&(reRawNat (fs.getD 6 .none)==0&&reRawNat (fs.getD 2 .none)==0)) then (El (fs.getD 5 .none)).bind λ b=>(K.lookup b).bind λ o=>(Ol o.data).map λ items=>(items.map reRawOf).map (·.toNat) else none
theorem t9 {K:Frag}{a:Addr}{code:Array Nat}(h:t8 K a=some code)(hp:Heap)(X:K.In hp):sI hp a code:=by
 refine qO (λ o h1 h=>?_) h
 refine qO (λ t h2 h=>?_) h
 refine qO (λ fs h3 h=>?_) h
 refine qA (λ c h=>?_) (c8 h)
 refine qB (λ c1 c=>?_) c
 refine qB (λ c2 c=>?_) c
 refine qB (λ c3 c4=>?_) c
 refine qO (λ b h4 h=>?_) h
 refine qO (λ ob h5 h=>?_) h
 refine qM (λ items h6 h=>?_) h
 refine qE (λ n h6=>?_) (Hj h6)
 exact ⟨o,fs,b,ob,items,n,X _ _ h1,(tZ h2).trans (congrArg Zt (Wc c1)),XU.mp c2,qD h3,Wc c3,Wc c4,kI h4,X _ _ h5,h6,h⟩
end
section
noncomputable def ja:List Int:=[65024,65025,65026,65027,65028,65029,6150,65030,65031,65032,65033,6155,6156,6157,8203,8204,8205,65034,65035,65036,65037,65038,65039,173,847,8288,65279]
noncomputable def vInt:Vg->Option Int
 | .int i _=>some i
 | _=>none
theorem Hp {v:Vg}{i:Int}(h:vInt v=some i):∃ t,v=.int i t:=by
 induction v with
 | int j t=>exact ⟨t,congrArg (Zy · t) (Vf h)⟩
 | _=>exact aV h
noncomputable def Oo:Data->Option (Array (Int×Vg)×Nat×SetTable)
 | .set es n tb=>some (es,n,tb)
 | _=>none
theorem Hq {d:Data}{x:Array (Int×Vg)×Nat×SetTable}(h:Oo d=some x):d=.set x.1 x.2.1 x.2.2:=by
 induction d with
 | set es n tb=>obtain rfl:=Vf h;rfl
 | _=>exact aV h
noncomputable def AH (K:Frag)(a:Addr):Option (List Int):=(K.lookup a).bind λ o=>(AD o.cls).bind λ t=>(Oo o.data).bind λ x=>
 bif t=="set"&&(o.dict.isNone&&(o.slots.isEmpty&&(x.1.toList.all (λ e=>(vInt e.2).any λ i=>e.1==hashInt i)&&(Xf x.1.size scanBound&&x.2.2.fits x.1.size)))) then some (x.1.toList.map λ e=>(vInt e.2).getD 0) else none
theorem DP {C:Cx}{a:Addr}{l:List Int}{f:Int->Bool}(h:AH C.K a=some l)(hf:∀ k,f k=l.contains k):zL C a f:=by
 refine qO (λ ef hl h=>?_) h;obtain ⟨o1,o2,o3,o4⟩:=ef
 refine qO (λ t h1 h=>?_) h
 refine qO (λ ef h2 h=>?_) h;obtain ⟨es,ep,tb⟩:=ef
 refine qA (λ c he=>?_) (c8 h)
 refine qB (λ c1 c=>?_) c
 refine qB (λ c2 c=>?_) c
 refine qB (λ c3 c=>?_) c
 refine qB (λ c4 c=>?_) c
 refine qB (λ c5 c6=>?_) c
 obtain rfl:o1=.type "set":=(tZ h1).trans (congrArg Zt (Wc c1))
 obtain rfl:o2=none:=XU.mp c2
 obtain rfl:o3=.set es ep tb:=Hq h2
 obtain rfl:o4 = #[]:=Array.isEmpty_iff.mp c3
 obtain rfl:=Vf he
 have hkey:∀ e∈es.toList,∃ i t,e.2=.int i t/\e.1=hashInt i:=λ e he=>by
  refine aI (λ i h3 h4=>?_) (kJ (Wg.mp c4 e he))
  refine qE (λ t h3=>?_) (Hp h3)
  exact nC i t h3 (Wc h4)
 refine ⟨es.size,λ hp X=>⟨_,es,ep,tb,X _ _ hl,⟨rfl,rfl,rfl⟩,rfl,λ e he=>?_,λ k=>?_,hU.mp c5,c6,rfl⟩⟩
 ·refine dM (λ i t q q2=>?_) (hkey e he)
  exact ⟨(aC i (by rw [q];exact beq_self_eq_true i) q2),by rw [q];rfl⟩
 ·rw [hf,Zp,WW]
  constructor
  ·refine aI λ e he e_=>?_;subst e_
   refine dM (λ i t q _=>?_) (hkey e he)
   exact aC e he (by rw [q];exact beq_self_eq_true i)
  ·refine aI λ e he q=>?_
   refine dM (λ i t q2 _=>?_) (hkey e he)
   rw [q2] at q
   exact aC e he (by rw [q2];exact Wc q)
noncomputable def mW:List Vt->List (Int×Str)->Prop
 | [],[]=>True
 | e::es,(i,x)::l=>(e.hash=hashInt i/\(∃ t,e.key=.int i t)/\∃ u,e.val=.str x u)/\mW es l
 | _,_=>False
theorem vF:∀ (l:List (Int×Str)) (t:Nat),mW (ents l t) l
 | [],_=>trivial
 | (i,x)::l,t=>⟨(bY rfl ⟨t,rfl⟩ (⟨t+1,rfl⟩)),vF l _⟩
theorem ua:∀ (l:List (Int×Str)) (t:Nat),mW (di l t) l
 | [],_=>trivial
 | (i,x)::l,t=>⟨(bY rfl ⟨t,rfl⟩ (⟨t+1,rfl⟩)),ua l _⟩
theorem zk:∀ {a b:List Vt}{l m:List (Int×Str)},mW a l->mW b m->mW (a++b) (l++m)
 | [],_,[],_,_,h=>h
 | e::a,_,(i,x)::l,_,h,h2=>⟨h.1,zk h.2 h2⟩
 | [],_,_::_,_,h,_=>h.elim
 | _::_,_,[],_,h,_=>h.elim
theorem vG:∀ {es:List Vt}{l:List (Int×Str)},mW es l->∀ e∈es,∃ k t,e.key=.int k t/\e.hash=hashInt k
 | [],_,_,e,he=>nomatch he
 | e::es,(i,x)::l,h,e',he=>by
  rcases Vm.mp he with rfl | he
  ·refine fJ (λ a=>qE λ t b c=>?_) h.1
   exact nC i t b a
  ·exact vG h.2 e' he
 | _::_,[],h,_,_=>h.elim
theorem vH {es:List Vt}{l:List (Int×Str)}(h:mW es l)(i:Int):(∀ s,qq l i=some s->∃ t,(es.find? λ e=>Xo i e.key).map (·.val)=some (.str s t))/\(qq l i=none->(es.find? λ e=>Xo i e.key).map (·.val)=none):=by
 induction es generalizing l with
 | nil=>induction l using VY with
  | nil=>exact ⟨λ s h=>(aV h),λ _=>rfl⟩
  | cons _ _=>exact h.elim
 | cons e es ih=>induction l using VY with
  | nil=>exact h.elim
  | cons p l=>
   obtain ⟨j,x⟩:=p
   refine qA (fJ λ a ef=>qE λ u c h2=>?_) h;obtain ⟨t,b⟩:=ef
   rw [show qq ((j,x)::l) i=(bif j==i then some x else qq l i) from rfl,List.find?_cons,show Xo i e.key=(j==i) by rw [b];rfl]
   cases hj:(j==i) with
   | true=>exact ⟨λ s q=>⟨u,by obtain rfl:=Vf q;exact congrArg some c⟩,λ q=>aV q.symm⟩
   | false=>exact ih h2
theorem DQ {C:Cx}{a:Addr}{es:List Vt}{ep:Nat}{l:List (Int×Str)}(ha:(a==sysModules)=false)(hl:C.K.lookup a=some (D es ep))(h:mW es l):
  ∃ f,IntTab C a f/\(∀ i s,qq l i=some s->∃ t,f i=some (.str s t))/\∀ i,qq l i=none->f i=none:=by
 refine fu (λ i=>(es.find? λ e=>Xo i e.key).map (·.val)) ⟨ha,λ hp X=>⟨_,es.toArray,ep,X _ _ hl,⟨rfl,rfl,rfl⟩,rfl,λ e he=>?_,λ k=>?_⟩⟩ (λ i s q=>(vH h i).1 s q) (λ i q=>(vH h i).2 q)
 ·refine dM (λ k t a b=>?_) (vG h e (List.mem_toArray.mp he))
  exact aC k (by rw [a];simp [intKind,Xo]) b
 ·show findBy Xo es.toArray k=_
  unfold findBy
  rw [List.find?_toArray]
noncomputable def KJ:Data->Option (Array Vt)
 | .dict es _=>some es
 | _=>none
theorem DR {d:Data}{x:Array Vt}(h:KJ d=some x):∃ n,d=.dict x n:=by
 induction d with
 | dict y n=>exact ⟨n,congrArg (Data.dict · n) (Vf h)⟩
 | _=>exact aV h
noncomputable def Hr (K:Frag):Bool:=((K.lookup cStatics).bind λ o=>KJ o.data).any λ es=>es.toList.all (λ e=>(vStr e.key).isSome)&&(nsFind es "sys.recursionlimit").isNone
theorem LU {K:Frag}(h:Hr K=true)(hp:Heap)(X:K.In hp):hp.NoLimit:=by
 refine aI (λ es h c=>?_) (kJ h)
 refine qO (λ o hl hd=>?_) h
 refine qE (λ n hd=>?_) (DR hd)
 refine qB (λ c1 c2=>?_) c
 refine ⟨nsFind es,⟨o,es,n,X _ _ hl,hd,λ e he=>?_,λ _=>rfl⟩,XU.mp c2⟩
 refine qS (λ x q=>?_) ((Wg.mp c1 e (Array.mem_toList_iff.mpr he)))
 refine qE (λ t q=>?_) (zj q)
 exact rD x t q
end
section
set_option maxHeartbeats 0
noncomputable def aH (T:Wl):Frag:=(Yk T.n).filterMap λ a=>match B5 T a with
 | some o=>bif !(Vo a 6)&&(!(Vo a 64)&&!(Vo a 301)) then some (a,o) else none
 | none=>none
noncomputable def fA:cN:=⟨182,48,53,209,231,242,76,83,97,102,121,129,139,146,179,216,223,241,287,292,299,306,311,316,323,328,333,305⟩
noncomputable def fns:List (Addr×Stmt×Vg):=[(76,cI 0,.ref 69),(83,cI 1,.none),(97,cI 3,.none),(102,cI 4,.none),(121,cI 7,.none),(129,cI 8,.ref 122),(139,cI 10,.none),(146,cI 11,.none),(179,cI 16,.none),
 (216,aJ 11,.none),(223,aJ 12,.none),(241,aJ 15,.none),(287,aJ 17,.none),(292,aJ 19,.none),(299,aJ 20,.none),(306,aJ 21,.none),(311,aJ 22,.none),(316,aJ 23,.none),(323,aJ 24,.none),(328,aJ 25,.none),(333,aJ 26,.none),(338,aJ 27,.none)]
noncomputable def BU:Array Nat:=#[14,10,4,1,1,22,0,31,16,127,0,13,7,22,0,31,16,127,0,1]
noncomputable def lJ:Array Nat:=#[14,14,4,1,1,9,4294966783,0,0,2147483648,0,0,0,0,0,13,11,9,4294966783,0,0,2147483648,0,0,0,0,0,1]
noncomputable def nV (K:Frag):Bool:=(wK fA).all (λ f=>keepIn K (.ref f)&&fnIn K f)&&keepIn K (.ref fA.hdr)&&
 (plainGet K fA.hdr "_headers"&&hasDictIn K fA.hdr&&noGet K none)&&
 (plainGet K fA.hdr "get"&&hasDictIn K fA.hdr&&isFn K (.ref fA.jm)&&(specialIn K (.ref fA.jm) "__get__"==some (some (.builtin "function.__get__")))&&(takesIn K (.ref fA.jm)==some false))&&
 (plainOver K fA.hdr&&(clsIn K fA.hdr).any (·.hasDict)&&(takerIn K fA.hdr "_headers"==some none)&&(findIn K (.ref fA.hdr) "__setattr__"==some (some (.builtin "object.__setattr__"))))&&
 noSeq K fA.hdr&&makesIn K fA.hdr&&iH K&&Hr K&&fns.all (λ x=>(iV K x.1).any λ fd=>codeOk K fd.code fd.qualname)&&(iV K 338).any (λ fd=>sB fd.qualname "law")
noncomputable def keptAt:List Addr:=[0,1,4,5,6,7,8,9,10,11,12,13,14,15,16,17,18,19,20,21,22,23,24,25,26,27]
noncomputable def gy (s0 s1:Vh):Bool:=Wn s0.heap.objs.size 28&&s0.heap.isNs mainGlobals&&s0.gens.size==0&&s1.gens.size==0&&s1.heap.accountedOkI (importedModules pw.main.body)&&s1.heap.isNs mainGlobals&&s1.heap.isNs builtinsNs&&s1.heap.bmainOk&&
 staticsOk (importedModules pw.main.body) s0.heap s1.heap&&namesBound pw s1.heap&&laidKept s0.heap s1.heap&&s1.heap.isNs 6&&s1.heap.isNs 64
noncomputable abbrev KL:=Wi->iq->Str->Vg->Vg->Vg->Vg->Vg->Vg->Option (List (Str×Vg))
noncomputable abbrev Oq:=Wi->iq->Str->Vg->Vg->Vg->Vg->Vg->Vg->Vg->Option (List (Str×Vg))
noncomputable abbrev bU:=(List (Option Vg)×Bool×List (Bool×Option (Option Vg)×Bool)×Option (Option Vg)×Option (Option Vg))×List (Option WH)×(Option (Array Nat)×Option (Array Nat)×Option (List Int)×Option Obj)×(KL×KL×Oq×(Wi->iq->Option Addr))×(Life×OsState×Nat×Nat×Addr×List (Option Obj))×(Bool×(Option Str×List (Str×Vg))×Option Vg)×(Option Vg×Option Addr×Option (Option Vg))
noncomputable def lhs (x:RA×Wl):bU:=
 let K:=aH x.2
 (((yl fA).map (λ p=>gl K p.1),nV K,(jL fA).map (λ p=>(plainGet K fA.hdr p.1,findIn K (.ref fA.hdr) p.1,isFn K (.ref p.2))),findIn K (.ref fA.hdr) "_headers",findIn K (.ref fA.hdr) "get"),
  fns.map (λ y=>iV K y.1),
  (t8 K 48,t8 K 53,AH K 231,K.lookup 242),
  (λ p P q pm cd doc ct a b=>peek K ⟨p,P⟩ (bindArgs (fdOf (cI 0) q pm cd doc ct (.ref 69) .none) ⟨[a,b],[]⟩),λ p P q pm cd doc ct a b=>peek K ⟨p,P⟩ (bindArgs (fdOf (cI 8) q pm cd doc ct (.ref 122) .none) ⟨[a,b],[]⟩),
  λ p P q pm cd doc ct a b c=>peek K ⟨p,P⟩ (bindArgs (fdOf (cI 8) q pm cd doc ct (.ref 122) .none) ⟨[a,b],[(Ve "default",c)]⟩),λ p P=>peek K ⟨p,P⟩ (builtinsFor mainGlobals builtinsNs)),
  (x.2.life,x.2.os,x.2.n,x.1.T2.toks,x.1.T2.n,keptAt.map x.2.tree.get),
  (gy x.1.s0 x.2.abs,x.2.abs.heap.bltView,globalOf x.2.abs.heap "law"),
  (codeIn K fA.iI,x.2.abs.heap.tab0At 305,(nsIn K mainGlobals "__name__").map λ v=>v.map λ _=>.none))
noncomputable def rhs (E:Nat->List Vt×Nat)(x:RA×Wl):bU:=
 let K:=aH x.2
 (((yl fA).map (λ p=>some p.2),true,(jL fA).map (λ p=>(true,some (some (.ref p.2)),true)),some none,some (some (.ref fA.jm))),
  fns.map (λ y=>(iV K y.1).map (t7 y.2.1 y.2.2 .none)),
  (some BU,some lJ,some ja,some (D (E 0).1 (E 0).2)),
  (λ p P q pm cd doc ct a b=>some [((Ve "self"),a),("headers",b)],λ p P q pm cd doc ct a b=>some [((Ve "self"),a),("name",b),("default",.none)],
  λ p P q pm cd doc ct a b c=>some [((Ve "self"),a),("name",b),("default",c)],λ p P=>some builtinsNs),
  (x.1.s0.heap.life,x.1.s0.os,339,670,242,keptAt.map x.1.t0.get),
  (true,bltViewBooted,some (.ref 338)),
  (some (.ref 305),some 301,some (some .none)))
theorem f1 (w:WK) (E:Nat->List Vt×Nat) (p:Pos):((fH (w.withFollow "special-get-raises" true) E p).isSome,(fH (w.withFollow "special-get-raises" true) E p).map lhs)=(true,(fH (w.withFollow "special-get-raises" true) E p).map (rhs E)):=by kernel_rfl
theorem f2 (w:WK) (E:Nat->List Vt×Nat) (p:Pos):((fH (w.withFollow "special-get-raises" false) E p).isSome,(fH (w.withFollow "special-get-raises" false) E p).map lhs)=(true,(fH (w.withFollow "special-get-raises" false) E p).map (rhs E)):=by kernel_rfl
theorem qG (w:WK)(E:Nat->List Vt×Nat)(p:Pos):∃ x,fH w E p=some x/\lhs x=rhs E x:=by
 have e:=World.withFollow_self w "special-get-raises"
 have h:((fH w E p).isSome,(fH w E p).map lhs)=(true,(fH w E p).map (rhs E)):=by
  cases hb:w.params.followText "special-get-raises"<;>rw [hb] at e
  ·rw [<-e];exact f2 w E p
  ·rw [<-e];exact f1 w E p
 refine qP (λ h1 h2=>?_) h
 refine qS (λ x hx=>?_) h1
 rw [hx] at h2
 exact aC x hx (Vf h2)
end
section
set_option maxHeartbeats 1000000
theorem JA:rj=denote table:=by unfold rj;rw [<-Fast.te11892475500146522536,<-Fast.te14364793385576792824,<-table_eq_tree]
theorem Hs (w:WK):BS w=fencedOpening table pw w 40000:=by
 unfold BS fencedOpening
 rw [<-Fast.te10274390034422433532,<-Fast.te1435165496053646825,<-Fast.te14289696077712309145,<-Fast.te14364793385576792824,<-table_eq_tree]
section
variable {w:WK}
theorem xd {n:Nat}{α:Type}{Γ:Ctx}{p p':Pos}{S S':Wl}{t:Sem α}{a:α}(h:rn rj pw w.params n α Γ p S t=some (.ok a,p',S')){Q:α->Pos->Vh->Prop}{E:Vg->Pos->Vh->Prop}(hQ:Q a p' S'.abs):
  WT (model pw w) Γ t Q E p S.abs:=by
 have z:=Ea (den:=rj) (prog:=pw) (w:=w) n α Γ p S t _ _ _ h Q E hQ
 rw [JA] at z
 exact z
theorem uc {α:Type}{o:Option (Except Vg α×Pos×Wl)}{c:α×Pos×Wl}(h:Jy o=some c):o=some (.ok c.1,c.2.1,c.2.2):=by
 refine qO (λ ef cg h=>?_) h;subst cg;obtain ⟨r,q⟩:=ef
 induction r with
 | ok a=>obtain rfl:=Vf h;rfl
 | error _=>exact aV h
theorem ud {o:Option (Except Vg Flow×Pos×Wl)}{c:Pos×Wl}(h:nextOf o=some c):o=some (.ok .next,c.1,c.2):=by
 refine qO (λ ef h1 h=>?_) h;obtain ⟨r,q⟩:=ef
 induction r with
 | next=>obtain rfl:=Vf h;exact uc h1
 | _=>exact aV h
theorem j3 {r:RA}(h:tY w=some r):BS w=some r.s0/\uI .nil 0 r.s0.heap.objs.toList=some r.t0/\
  rn rj pw w.params 100000 (Vg×Addr) KG default ⟨r.t0,r.s0.heap.objs.size,r.s0.heap.life,r.s0.gens,r.s0.drawn,r.s0.toks,r.s0.os⟩ qi=some (.ok r.cf,r.p1,r.T1)/\
  rn rj pw w.params 100000 Flow (Hi r.cf r.p1) r.p1 r.T1 (do blockStart j0 (jz r.cf);execs (j0.take 15) (jz r.cf))=some (.ok .next,r.p2,r.T2):=by
 refine qO (λ s0 h0 h=>?_) h
 refine qO (λ t0 h1 h=>?_) h
 refine qO (λ c h2 h=>?_) h
 refine qM (λ q h3 h=>?_) h
 subst h
 exact dG h0 h1 (uc h2) (by rw [Fast.te12563942051412417395];exact ud h3)
theorem AI {E:Nat->List Vt×Nat}{p:Pos}{r:RA}{T:Wl}(h:KH w E p r=some T):∃ t3 p3 T3 p4,uI r.T2.tree r.T2.n (nB E)=some t3/\
  rn rj pw w.params 100000 Unit (Hi r.cf r.p1) p ⟨t3,r.T2.n+39,r.T2.life,r.T2.gens,r.T2.drawn,r.T2.toks+1950,r.T2.os⟩ (assignAll (.ref r.T2.n) ((assignEach ie (jz r.cf)).map (·.2)))=some (.ok (),p3,T3)/\
  rn rj pw w.params 100000 Flow (Hi r.cf r.p1) p3 T3 (execs (j0.drop 16) (jz r.cf))=some (.ok .next,p4,T):=by
 refine qO (λ t3 h0 h=>?_) h
 refine qO (λ c h2 h=>?_) h
 refine qM (λ q h3 h=>?_) h
 subst h
 exact d7 t3 c.2.1 c.2.2 q.1 (bY h0 (uc h2) (by rw [Fast.te12563942051412417395];exact ud h3))
theorem BV:∀ (L:List Obj),(∀ o∈L,∃ x:List Vt×Nat,o=D x.1 x.2)->∃ l:List (List Vt×Nat),L=l.map λ x=>D x.1 x.2
 | [],_=>⟨[],rfl⟩
 | o::L,h=>by
  refine qE (λ x e_=>?_) (h o (VC ..));subst e_
  refine qE (λ l e_=>?_) (BV L λ o ho=>h o (VH _ ho));subst e_
  exact ⟨x::l,rfl⟩
theorem Ht {l:List (List Vt×Nat)}(h:l.length=39):nB (λ i=>l.getD i ([],0))=l.map λ x=>D x.1 x.2:=by
 unfold nB
 apply List.ext_getElem
 ·simp [h]
 ·intro i h1 h2
  have hi:i<l.length:=by simpa using h2
  simp [List.getD_eq_getElem?_getD,Y0 hi]
theorem ue:∀ (cs:List (List (Int×Str))) (t:Nat),∀ o∈subs cs t,∃ x:List Vt×Nat,o=D x.1 x.2
 | [],_,o,h=>nomatch h
 | c::cs,t,o,h=>by
  rcases Vm.mp h with rfl | h
  ·exact ⟨(ents c t,c.length),rfl⟩
  ·exact ue cs _ o h
theorem qH:∀ (cs:List (List (Int×Str))) (t:Nat),(subs cs t).length=cs.length
 | [],_=>rfl
 | c::cs,t=>by show (subs cs _).length+1=cs.length+1;rw [qH cs]
end
end
section
set_option maxHeartbeats 1000000
noncomputable def c0:List (Int×Str):=cA.take 17
noncomputable def uJ:List (List (Int×Str)):=(Yk 37).map λ i=>(cA.drop (17+17*i)).take 17
noncomputable def jA:List (Int×Str):=cA.drop 646
theorem uf:cA=c0++(uJ.flatten++jA):=by
 have h:some cA=some (c0++(uJ.flatten++jA)):=by kernel_rfl
 exact Vf h
theorem JB:qh KC KD=some (c0++(uJ.flatten++jA)):=by unfold c0 uJ jA;exact LQ
theorem BW:c0.length=17/\(uJ.all λ c=>c.length==17)=true/\jA.length=4/\w5 0 cA=true/\cA.length=650/\uJ.length=37:=by
 have h:=Jx
 simp only [VZ,beq_iff_eq] at h
 refine qA (qA λ ef d e=>?_) h;obtain ⟨⟨a,b⟩,c⟩:=ef
 exact cO a b c d (⟨e,by unfold uJ;rw [Vl,YJ]⟩)
noncomputable def BX (tk:Nat):List Obj:=D (ents (c0++uJ.flatten) tk++di jA (tk+3*(c0++uJ.flatten).length)) (c0++(uJ.flatten++jA)).length::(subs uJ (tk+3*c0.length)++[D (di jA (tk+3*(c0++uJ.flatten).length)) jA.length])
theorem Ot {a b:List Vt}{n m:Nat}(h:D a n=D b m):a=b:=by
 unfold D at h
 injection h with _ _ x _
 injection x with x _
 exact List.toArray_inj x
theorem Ou {p:List Vt×Nat}{cs:List (List (Int×Str))}{t:Nat}{q:List Vt×Nat}:∀ o∈D p.1 p.2::(subs cs t++[D q.1 q.2]),∃ x:List Vt×Nat,o=D x.1 x.2:=λ o ho=>
 (Vm.mp ho).elim (λ e=>⟨p,e⟩) λ ho=>(Wa.mp ho).elim (ue _ _ o) λ ho=>⟨q,Vi.mp ho⟩
theorem LV {p q:List Vt×Nat}{cs:List (List (Int×Str))}{t:Nat}(Ut:cs.length=37):∃ E:Nat->List Vt×Nat,D p.1 p.2::(subs cs t++[D q.1 q.2])=nB E/\(E 0).1=p.1:=by
 refine qE (λ l hl=>?_) (BV _ (Ou (p:=p) (cs:=cs) (t:=t) (q:=q)))
 have hlen:l.length=39:=by
  have:=congrArg eD hl
  rw [Vl,V3,Vk,qH,Ut] at this
  exact this.symm
 refine aC (λ i=>l.getD i ([],0)) (hl.trans (Ht hlen).symm) ?_
 induction l using VY with
 | nil=>cases hlen
 | cons x l=>exact (Ot (Wu hl).1).symm
theorem JC (tk:Nat):∃ E:Nat->List Vt×Nat,BX tk=nB E/\mW (E 0).1 cA:=by
 refine aI (λ E h1 h2=>?_) (LV (p:=(ents (c0++uJ.flatten) tk++di jA (tk+3*(c0++uJ.flatten).length),(c0++(uJ.flatten++jA)).length)) (q:=(di jA (tk+3*(c0++uJ.flatten).length),jA.length)) (t:=tk+3*c0.length) BW.2.2.2.2.2)
 refine aC E h1 ?_
 rw [h2,uf,<-Vs]
 exact zk (vF _ _) (ua _ _)
section
variable {M:Zn}{Γ:Ctx}
theorem Hu {env:Env}{B pre post:List Stmt}{targets:List Expr}{value:Expr}{pos:Pos}{v:Vg}{s1 sA s2:Vh}{R:Vh->Prop}{p1 p2:Pos}
  (hsplit:B=pre++(.Assign targets value pos::post)) (hs:swapsWithSole targets value pos.line env=pure false) (hw:swappedStores targets value env=pure none)
  (hpre:∀ (Q:Flow->Pos->Vh->Prop) (E:Vg->Pos->Vh->Prop),Q .next p2 sA->WT M Γ (do blockStart B env;execs pre env) Q E p1 s1)
  (hdict:wpAny M (Around.BR Γ) (eval value env) (λ x s'=>x=v/\s'=s2) (λ _ _=>False) sA)
  (hpost:∀ p',WT M Γ (assignAll v ((assignEach targets env).map (·.2))) (λ _ p s=>WT M Γ (execs post env) (λ f p s=>f=.next/\R s) (λ _ _ _=>False) p s) (λ _ _ _=>False) p' s2) :
  WT M Γ (do blockStart B env;execs B env) (λ f p s=>f=.next/\R s) (λ _ _ _=>False) p1 s1:=by
 rw [D6]
 have key:=hpre (λ f p s=>match f with
   | .next=>WT M Γ (execs (.Assign targets value pos::post) env) (λ f p s=>f=.next/\R s) (λ _ _ _=>False) p s
   | f=>f=.next/\R s) (λ _ _ _=>False) (by
  show WT _ _ _ _ _ _ _
  rw [eR,D6]
  exact DM hs hw hdict hpost)
 rw [D6] at key
 refine Ys _ _ _ (λ _ p s h=>?_) (λ _ _ _ h=>h) _ _ key
 have:=ki pre (b:=.Assign targets value pos::post) h
 rw [<-hsplit] at this
 exact this
end
section
variable {w:WK}
noncomputable def Behind (w:WK)(s0 s':Vh):Prop:=∃ E p x,fH w E p=some x/\x.1.s0=s0/\x.2.abs=s'/\lhs x=rhs E x/\mW (E 0).1 cA
noncomputable def AJ (r:RA):Vh:={r.T2.abs with heap:=bl r.T2.abs.heap (BX r.T2.toks),toks:=r.T2.toks+1950}
theorem DS {A:Wk}{env:Env}{r:RA}(LX:r.T2.n=242):wpAny (model pw w) A (eval (.Dict KC KD DN) env) (λ x s'=>x=.ref r.T2.n/\s'=AJ r) (λ _ _=>False) r.T2.abs:=by
 obtain ⟨q1,q2,q3,q4,q5,q6⟩:=BW
 have hsz:r.T2.abs.heap.objs.size=r.T2.n:=cp ..
 have Ov:(c0++(uJ.flatten++jA)).length=650:=by rw [<-uf];exact q5
 have hsys:sysModules<r.T2.abs.heap.objs.size:=by rw [hsz,LX];decide
 have hl1:jA≠[]:=λ e=>by rw [e] at q3;cases q3
 have hl2:jA.length<=15:=by rw [q3];decide
 have OW:dI [] (c0++(uJ.flatten++jA)):=by rw [<-uf];exact DL (m:=0) (λ e he=>nomatch he) q4
 have hle:(c0++(uJ.flatten++jA)).length<=sizeLine:=by rw [Ov];decide
 have hs2:({r.T2.abs with heap:=bl r.T2.abs.heap (BX r.T2.toks),toks:=r.T2.toks+3*(c0++(uJ.flatten++jA)).length}:Vh)=AJ r:=by rw [Ov];rfl
 have hv:Wv r.T2.abs.heap.objs.size=.ref r.T2.n:=by rw [hsz]
 exact @AB pw w A (λ _ _=>False) r.T2.abs r.T2.abs.heap hsys env KC KD DN c0 uJ jA r.T2.toks (λ x s'=>x=.ref r.T2.n/\s'=AJ r) JB q1 q2 hl1 hl2 OW hle ⟨hv,hs2⟩
theorem LZ {r:RA}{E:Nat->List Vt×Nat}{t3:BT}(hE:BX r.T2.toks=nB E)(hi:uI r.T2.tree r.T2.n (nB E)=some t3):AJ r=(⟨t3,r.T2.n+39,r.T2.life,r.T2.gens,r.T2.drawn,r.T2.toks+1950,r.T2.os⟩:Wl).abs:=by
 have z:=zg (life:=r.T2.life) hi
 have zl:(nB E).length=39:=by unfold nB;rw [Vl,YJ]
 rw [zl] at z
 unfold AJ SharedT.abs
 show Zr _ _ _ _ _=Zr _ _ _ _ _
 rw [z,hE]
theorem DT {r:RA}(hA:tY w=some r)(p':Pos):WT (model pw w) (Hi r.cf r.p1) (assignAll (.ref r.T2.n) ((assignEach ie (jz r.cf)).map (·.2)))
  (λ _ p s=>WT (model pw w) (Hi r.cf r.p1) (execs (j0.drop 16) (jz r.cf)) (λ f p s=>f=.next/\Behind w r.s0 s) (λ _ _ _=>False) p s) (λ _ _ _=>False) p' (AJ r):=by
 refine aI (λ E hE hL=>?_) (JC r.T2.toks)
 refine aI (λ x hx hl=>?_) (qG w E p')
 have hx':=hx
 unfold fH at hx'
 rw [hA] at hx'
 refine qM (λ T hB e=>?_) hx'
 subst e
 refine bG (λ t3 p3 T3 p4=>fJ λ hi Uu Uv=>?_) (AI hB)
 rw [LZ hE hi]
 exact xd Uu (xd Uv ⟨rfl,E,p',_,hx,rfl,rfl,hl,hL⟩)
theorem JD {r:RA}(hA:tY w=some r)(LX:r.T2.n=242):
  WT (model pw w) (Hi r.cf r.p1) (do blockStart j0 (jz r.cf);execs j0 (jz r.cf)) (λ f p s=>f=.next/\Behind w r.s0 s) (λ _ _ _=>False) r.p1 r.T1.abs:=by
 refine bQ (λ hs0 ht0 hr1 hr2=>?_) (j3 hA)
 have hsplit:j0=j0.take 15++(.Assign ie (.Dict KC KD DN) Hg::j0.drop 16):=by rw [<-DO,Zo]
 have hpre:∀ (Q:Flow->Pos->Vh->Prop) (E:Vg->Pos->Vh->Prop),Q .next r.p2 r.T2.abs->WT (model pw w) (Hi r.cf r.p1) (do blockStart j0 (jz r.cf);execs (j0.take 15) (jz r.cf)) Q E r.p1 r.T1.abs:=λ Q E hQ=>xd hr2 hQ
 exact Hu (p2:=r.p2) (sA:=r.T2.abs) (s2:=AJ r) (v:=.ref r.T2.n) hsplit (LP (jz r.cf)) (Hh (jz r.cf)) hpre (@DS w (Around.BR (Hi r.cf r.p1)) (jz r.cf) r LX) (DT hA)
end
end
section
set_option maxHeartbeats 1000000
section
variable {M:Zn}{Γ:Ctx}
theorem Hv {s0 s1:Vh}{m:Sem Vg}{nf:Vg->Sem Addr}{bd:Vg->Addr->Sem Flow}{R:Vh->Prop}{cf:Vg×Addr}{p0 p1:Pos}
  (h1:∀ (Q:Vg×Addr->Pos->Vh->Prop) (E:Vg->Pos->Vh->Prop),Q cf p1 s1->WT M Γ (do let code <-m;let frame <-nf code;pure (code,frame)) Q E p0 s0)
  (h2:WT M Γ (bd cf.1 cf.2) (λ _ _ s=>R s) (λ _ _ _=>False) p1 s1) :
  WT M Γ (do let code <-m;let frame <-nf code;let _ <-bd code frame;ret .none) (λ fin _ s'=>∃ f,fin=.done f/\R s') (λ _ _ _=>False) p0 s0:=by
 have z:=h1 (λ cf p s=>WT M Γ (bd cf.1 cf.2) (λ _ _ s=>R s) (λ _ _ _=>False) p s) (λ _ _ _=>False) h2
 rw [D6] at z ⊢
 refine Ys _ _ _ (λ code p s h=>?_) (λ _ _ _ h=>h) _ _ z
 rw [D6] at h ⊢
 refine Ys _ _ _ (λ fr p s h=>?_) (λ _ _ _ h=>h) _ _ h
 rw [D6]
 refine Ys _ _ _ (λ f p s h=>?_) (λ _ _ _ h=>h) _ _ h
 exact ⟨_,rfl,h⟩
theorem JE {prog:Wi}{w:WK}{B:List Stmt}{env:Env}{R:Vh->Prop}{p:Pos}{s:Vh}
  (h:WT (model prog w) (Γ.enter (.body B env) none p) (do blockStart B env;execs B env) (λ f p s=>f=.next/\R s) (λ _ _ _=>False) p s) :
  WT (model prog w) Γ (run (.body B env)) (λ _ _ s=>R s) (λ _ _ _=>False) p s:=by
 show wpCode (model prog w) (Γ.enter (.body B env) none p) _ p s
 rw [wpCode_iff_wp]
 show WT _ _ (do blockStart B env;let f <-(execs B env).onRaise (leaving env);return PySem.Fin.done f) _ _ p s
 rw [D6] at h ⊢
 refine Ys _ _ _ (λ _ p s h=>?_) (λ _ _ _ h=>h.elim) _ _ h
 rw [D6,Sem.wp_onRaise]
 refine Ys _ _ _ (λ f p s h=>?_) (λ _ _ _ h=>h.elim) _ _ h
 obtain ⟨rfl,h⟩:=h
 exact h
theorem AK {prog:Wi}{w:WK}{t:Sem ZD}{s:Vh}{R:Vh->Prop}(hreg:s.asleep)(hg:∀ s',R s'->s'.gens = #[])
  (h:WT (model prog w) KG t (λ fin _ s'=>∃ f,fin=.done f/\R s') (λ _ _ _=>False) default s) :
  ∃ n s1 t1,schedN (denote table) prog w n (.single s ⟨t,.builtin "claim.caller" {},default,[]⟩)=.running (.single s1 t1)/\through t1=true/\R s1:=by
 have h1:WT (model prog w) ⟨.builtin "claim.caller" {},none,none,[],none⟩ t (Sem.finPost (model prog w) ⟨.builtin "claim.caller" {},none,none,[],none⟩ (λ r s'=>((∃ f,r=.ok f)/\R s')/\leftWithCleanup s'.gens=false)) (λ e _ s'=>((∃ f,(.error e:bc)=.ok f)/\R s')/\leftWithCleanup s'.gens=false) default s:=
  Ys _ _ _ (λ fin p s' ⟨f,e,a⟩=>by subst e;exact ⟨⟨⟨f,rfl⟩,a⟩,vC (hg s' a)⟩) (λ _ _ _ x=>x.elim) _ _ h
 obtain ⟨n,r,s',hn,hR⟩:=(wp_iff_halts t (λ r s'=>(∃ f,r=.ok f)/\R s') default s).mp h1
 obtain ⟨⟨f,rfl⟩,hR⟩:=hR
 obtain ⟨s'',hr,hf,hc⟩:=runNI_real _ _ _ hn (outcomeOf_ends (.ok f))
 have hne:∀ k s₂,runN (model prog w).den prog w k s ⟨t,.builtin "claim.caller" {},default,[]⟩≠.halted (.unsupported "lifetime:generator-with-cleanup-left-suspended") s₂:=by
  intro k s₂ hk
  have a:=runN_mono _ _ _ n k _ _ _ _ hr
  have b:=runN_mono _ _ _ k n _ _ _ _ hk
  rw [WG k n] at b
  have c:=a.symm.trans b
  cases c
 obtain ⟨m,s₁,t',e,e2,q⟩:=ze (M:=model prog w) hn
 have e3:=zf e2 (hg s' hR)
 exact cu m s₁ t' ((schedN_eq_runN _ _ _ s _ hreg ⟨hc,hne⟩ m).trans (congrArg Run.lift e)) (⟨q,by rw [e3];exact hR⟩)
end
end
section
set_option maxHeartbeats 1000000
theorem mem_lookup {K:Frag}{a:Addr}{o:Obj}(h:K.lookup a=some o):(a,o)∈K:=mem_of_lookupK h
theorem j4 {T:Wl}{a:Addr}{o:Obj}(h:(aH T).lookup a=some o):T.abs.heap.get? a=some o/\a<T.n/\a≠6/\a≠64/\a≠301:=by
 have hm:=mem_lookup h
 unfold aH at hm
 refine aI (λ b hb e=>?_) (W0.mp hm)
 cases hg:B5 T b with
 | none=>rw [hg] at e;exact aV e
 | some o'=>
  rw [hg] at e
  refine qA (λ c e=>?_) (c8 e)
  refine qB (λ c1 c=>?_) c
  refine qB (λ c2 c3=>?_) c
  refine qP (λ e_ cg=>?_) ((Vf e));subst e_ cg
  exact cO ((nZ hg).1) (eI.mp hb) (λ q=>lO (by subst q;exact c1)) (λ q=>lO (by subst q;exact c2)) (λ q=>lO (by subst q;exact c3))
theorem Hw (T:Wl):(aH T).In T.abs.heap:=λ _ _ h=>(j4 h).1
theorem Hx {t u:BT}{n m:Nat}{l l':Life}{b:Nat}(hn:b<n)(hm:b<m)(h:t.get b=u.get b):(absHeap t n l).get? b=(absHeap u m l').get? b:=by
 unfold Heap.get?
 rw [absHeap_at,absHeap_at,if_pos hn,if_pos hm,h]
noncomputable def zm:Stmt->Option (i5×List Stmt×WM)
 | .FunctionDef _ args body _ _ _ scope _ _ _=>some (args,body,scope)
 | _=>none
noncomputable def nW (S:Stmt)(name:Str):Bool:=match S with
 | .FunctionDef n a _ _ _ _ _ _ _ _=>sB n name&&a.defaults.isEmpty&&a.kwonlyargs.isEmpty&&a.kw_defaults.isEmpty
 | _=>false
theorem JF {S:Stmt}{name:Str}(h:nW S name=true):∃ n a b d r t s u v x,S=.FunctionDef n a b d r t s u v x:=by
 induction S using Stmt.casesOn with
 | FunctionDef n a b d r t s u v x=>exact d7 n a b d (d7 r t s u (rD v x rfl))
 | _=>exact lO h
theorem L5 {p:Wi}{h:Heap}{S:Stmt}{name:Str}{a:Addr}{o:Obj}{fd:WH}(hS:nW S name=true)(hd:p.theDef name=zm S)(hg:globalOf h name=some (.ref a))(ho:h.get? a=some o)(hdata:o.data=.func fd)
  (e:fd=t7 S .none .none fd) (hq:sB fd.qualname name=true):isTheDefsW p h name:=by
 refine bG (λ n ar b d=>bG λ r t s u=>D7 λ v x e_=>?_) (JF hS);subst e_
 refine qB (λ hS h4=>?_) ((show (sB n name&&ar.defaults.isEmpty&&ar.kwonlyargs.isEmpty&&ar.kw_defaults.isEmpty)=true from hS))
 refine qB (λ hS h3=>?_) hS
 refine qB (λ h1 h2=>?_) hS
 replace h2:=cn.mp h2
 replace h3:=cn.mp h3
 replace h4:=cn.mp h4
 have hn:=dH.mp h1
 have hq':=dH.mp hq
 have e':fd={name:=n,qualname:=fd.qualname,params:=ar,body:=.stmts b,scope:=s,globals:=mainGlobals,closure:=[],defaults:=.none,kwdefaults:=.none,doc:=fd.doc,pyModule:=fd.pyModule,code:=fd.code,closureTuple:=fd.closureTuple,builtins:=builtinsNs}:=e
 refine ⟨a,o,fd,ar,b,s,hg,ho,hdata,hd,?_,hq',?_,?_,?_,?_,?_,?_,?_⟩
 ·rw [e'];exact hn
 ·rw [e']
 ·rw [e']
 ·rw [e']
 ·rw [e'];rfl
 ·rw [e']
 ·rw [e']
 ·refine ⟨.inl ⟨h2,by rw [e']⟩,[],?_,.inl ⟨rfl,by rw [e']⟩⟩
  rw [h3,h4];rfl
theorem L6:nW (aJ 27) "law" = true:=by kernel_rfl
theorem JG:pw.theDef "law" = zm (aJ 27):=by kernel_rfl
theorem Hy:fns.all (λ y=>Hl y.2.1)=true:=by kernel_rfl
structure Left (E:Nat->List Vt×Nat)(x:RA×Wl):Prop where
 gl:(yl fA).map (λ p=>gl (aH x.2) p.1)=(yl fA).map (λ p=>some p.2)
 bools:nV (aH x.2)=true
 meth:(jL fA).map (λ p=>(plainGet (aH x.2) fA.hdr p.1,findIn (aH x.2) (.ref fA.hdr) p.1,isFn (aH x.2) (.ref p.2)))=(jL fA).map (λ p=>(true,some (some (.ref p.2)),true))
 own:findIn (aH x.2) (.ref fA.hdr) "_headers" = some none
 Ff:findIn (aH x.2) (.ref fA.hdr) "get" = some (some (.ref fA.jm))
 fns:fns.map (λ y=>iV (aH x.2) y.1)=fns.map (λ y=>(iV (aH x.2) y.1).map (t7 y.2.1 y.2.2 .none))
 Ow:t8 (aH x.2) 48  = some BU
 Ox:t8 (aH x.2) 53=some lJ
 b1:AH (aH x.2) 231=some ja
 b3:(aH x.2).lookup 242=some (D (E 0).1 (E 0).2)
 RW:∀ p P q pm cd doc ct a b,peek (aH x.2) ⟨p,P⟩ (bindArgs (fdOf (cI 0) q pm cd doc ct (.ref 69) .none) ⟨[a,b],[]⟩)=some [((Ve "self"),a),("headers",b)]
 RX:∀ p P q pm cd doc ct a b,peek (aH x.2) ⟨p,P⟩ (bindArgs (fdOf (cI 8) q pm cd doc ct (.ref 122) .none) ⟨[a,b],[]⟩)=some [((Ve "self"),a),("name",b),("default",.none)]
 RY:∀ p P q pm cd doc ct a b c,peek (aH x.2) ⟨p,P⟩ (bindArgs (fdOf (cI 8) q pm cd doc ct (.ref 122) .none) ⟨[a,b],[(Ve "default",c)]⟩)=some [((Ve "self"),a),("name",b),("default",c)]
 RZ:∀ p P,peek (aH x.2) ⟨p,P⟩ (builtinsFor mainGlobals builtinsNs)=some builtinsNs
 life:x.2.life=x.1.s0.heap.life
 os:x.2.os=x.1.s0.os
 n:x.2.n=339
 n2:x.1.T2.n=242
 kept:keptAt.map x.2.tree.get=keptAt.map x.1.t0.get
 gy:gy x.1.s0 x.2.abs=true
 blt:x.2.abs.heap.bltView=bltViewBooted
 code:codeIn (aH x.2) fA.iI=some (.ref 305)
 AL:x.2.abs.heap.tab0At 305=some 301
 nm:((nsIn (aH x.2) mainGlobals "__name__").map λ v=>v.map λ _=>WR)=some (some .none)
 law:globalOf x.2.abs.heap "law" = some (.ref 338)
theorem BY {E:Nat->List Vt×Nat}{x:RA×Wl}(h:lhs x=rhs E x):Left E x where
 gl:=congrArg (λ t:bU=>t.1.1) h
 bools:=congrArg (λ t:bU=>t.1.2.1) h
 meth:=congrArg (λ t:bU=>t.1.2.2.1) h
 own:=congrArg (λ t:bU=>t.1.2.2.2.1) h
 Ff:=congrArg (λ t:bU=>t.1.2.2.2.2) h
 fns:=congrArg (λ t:bU=>t.2.1) h
 Ow:=congrArg (λ t:bU=>t.2.2.1.1) h
 Ox:=congrArg (λ t:bU=>t.2.2.1.2.1) h
 b1:=congrArg (λ t:bU=>t.2.2.1.2.2.1) h
 b3:=congrArg (λ t:bU=>t.2.2.1.2.2.2) h
 RW:=λ p P q pm cd doc ct a b=>congrArg (λ t:bU=>t.2.2.2.1.1 p P q pm cd doc ct a b) h
 RX:=λ p P q pm cd doc ct a b=>congrArg (λ t:bU=>t.2.2.2.1.2.1 p P q pm cd doc ct a b) h
 RY:=λ p P q pm cd doc ct a b c=>congrArg (λ t:bU=>t.2.2.2.1.2.2.1 p P q pm cd doc ct a b c) h
 RZ:=λ p P=>congrArg (λ t:bU=>t.2.2.2.1.2.2.2 p P) h
 life:=congrArg (λ t:bU=>t.2.2.2.2.1.1) h
 os:=congrArg (λ t:bU=>t.2.2.2.2.1.2.1) h
 n:=congrArg (λ t:bU=>t.2.2.2.2.1.2.2.1) h
 n2:=congrArg (λ t:bU=>t.2.2.2.2.1.2.2.2.2.1) h
 kept:=congrArg (λ t:bU=>t.2.2.2.2.1.2.2.2.2.2) h
 gy:=congrArg (λ t:bU=>t.2.2.2.2.2.1.1) h
 blt:=congrArg (λ t:bU=>t.2.2.2.2.2.1.2.1) h
 law:=congrArg (λ t:bU=>t.2.2.2.2.2.1.2.2) h
 code:=congrArg (λ t:bU=>t.2.2.2.2.2.2.1) h
 AL:=congrArg (λ t:bU=>t.2.2.2.2.2.2.2.1) h
 nm:=congrArg (λ t:bU=>t.2.2.2.2.2.2.2.2) h
end
section
set_option maxHeartbeats 1000000
section
open PySem.Sre
theorem zo (code:Array Nat)(i:Nat)(e:∀ c seen,inSet code c code.size i true seen=if (decide (0<=c)&&decide (c<=31)) then .ok (true,seen.add 22) else if c==127 then .ok (true,(seen.add 22).add 16) else .ok (false,((seen.add 22).add 16).add 0)):A6 code i (p9 true):=by
 intro c seen
 rw [e]
 have hct:p9 true c=(Wn c 31||Vo c 127):=rfl
 rw [hct]
 by_cases hc:c<=31
 ·exact ⟨seen.add 22,by rw [if_pos (by rw [decide_eq_true (WC c),decide_eq_true hc];rfl),show Wn c 31=true from hY.mpr hc];rfl⟩
 ·have hb:Wn c 31=false:=by rw [Wm];exact λ q=>hc (hY.mp q)
  rw [if_neg (by rw [decide_eq_false hc,ei];exact Vp),hb]
  by_cases L7:c=127
  ·subst L7
   exact ⟨(seen.add 22).add 16,rfl⟩
  ·refine ⟨((seen.add 22).add 16).add 0,?_⟩
   rw [if_neg (λ q=>L7 (beq_iff_eq.mp q))]
   have:Vo c 127=false:=by rw [Wm];exact λ q=>L7 (VE q)
   rw [this];rfl
theorem pI:∀ c,c<256->((lJ.getD (5+(1+c/32)) 0).testBit (c%32)=p9 false c)/\((lJ.getD (17+(1+c/32)) 0).testBit (c%32)=p9 false c):=by decide +kernel
theorem ug (i:Nat)(e:∀ c seen,inSet lJ c 28 i true seen=if (decide (c<256)&&(lJ.getD (i+(1+c/32)) 0).testBit (c%32)) then .ok (true,seen.add 9) else .ok (false,(seen.add 9).add 0))(hb:∀ c,c<256->(lJ.getD (i+(1+c/32)) 0).testBit (c%32)=p9 false c):A6 lJ i (p9 false):=by
 intro c seen
 show ∃ seen',inSet lJ c 28 i true seen=_
 rw [e]
 by_cases hc:c<256
 ·rw [hb c hc]
  cases hv:p9 false c with
  | true=>exact ⟨_,by rw [if_pos (by simp [hc])]⟩
  | false=>exact ⟨_,by rw [if_neg (by simp)]⟩
 ·have hv:p9 false c=false:=by
   have hct:p9 false c=((Wn c 31&&!(Vo c 9))||Vo c 127):=rfl
   rw [hct]
   have h1:Wn c 31=false:=by rw [Wm];exact λ q=>by have:=hY.mp q;omega
   have h2:Vo c 127=false:=by rw [Wm];exact λ q=>by have:=VE q;omega
   rw [h1,h2];rfl
  rw [hv]
  exact ⟨_,by rw [if_neg (by simp [hc])]⟩
theorem Hz:iG BU (p9 true) 11 where
 info:=by rfl
 Ml:=by rfl
 hint:=by rfl
 first:=zo _ _ (λ c seen=>by kernel_rfl)
 E1:=by rfl
 body:=zo _ _ (λ c seen=>by kernel_rfl)
 lt:=by decide
 Lb:=by rfl
 PC:=by decide
theorem HA:iG lJ (p9 false) 15 where
 info:=by rfl
 Ml:=by rfl
 hint:=by rfl
 first:=ug _ (λ c seen=>by kernel_rfl) λ c h=>(pI c h).1
 E1:=by rfl
 body:=ug _ (λ c seen=>by kernel_rfl) λ c h=>(pI c h).2
 lt:=by decide
 Lb:=by rfl
 PC:=by decide
end
theorem JH:([173,847,6150,6155,6156,6157,8203,8204,8205,8288,65279]:List Int).all ja.contains=true:=by decide +kernel
theorem HB:(Yk 16).all (λ n=>ja.contains (65024+(n:Int)))=true:=by decide +kernel
theorem JI:ja.all fT=true:=by decide +kernel
theorem JJ {l:List Int}(hl:l.all ja.contains=true){k:Int}(h:l.contains k=true):ja.contains k=true:=Wg.mp hl k (Zp.mp h)
theorem L8 {a b c:Bool}(h:(a||(b&&c))=true):a=true\/(b=true/\c=true):=by induction a<;>induction b<;>induction c<;>first | exact .inl rfl | exact .inr ⟨rfl,rfl⟩ | cases h
theorem Oz {k:Int}(h1:65024<=k)(h2:k<=65039):∃ n:Nat,n<16/\k=65024+(n:Int):=aC ((k-65024).toNat) (by omega) (by omega)
theorem JK (k:Int):fT k=ja.contains k:=by
 cases h:ja.contains k with
 | true=>exact Wg.mp JI k (Zp.mp h)
 | false=>
  refine Wm.mpr λ q=>Vp (h.symm.trans ?_)
  rcases L8 q with q | ⟨q1,q2⟩
  ·exact JJ JH q
  ·refine aI (λ n hn e=>?_) (Oz (of_decide_eq_true q1) (of_decide_eq_true q2))
   rw [e]
   exact Wg.mp HB n (eI.mpr hn)
section
variable {E:Nat->List Vt×Nat}{x:RA×Wl}{w:WK}
theorem Left.fn (L:Left E x){i:Nat}{f:Addr}{S:Stmt}{dV:Vg}(hi:Internal.fns[i]?=some (f,S,dV)):oK (aH x.2) f S dV .none:=by
 have hm:(f,S,dV)∈Internal.fns:=List.mem_of_getElem? hi
 have h1:=congrArg (λ l=>l[i]?) L.fns
 simp only [Wy,hi,ZO] at h1
 have hb:=L.bools
 unfold nV at hb
 simp only [VZ] at hb
 have h2:=Wg.mp hb.1.2 _ hm
 exact LR (Vf h1) h2 (Wg.mp Hy _ hm)
theorem Left.fx (L:Left E x)(hL:mW (E 0).1 cA):Fx ⟨aH x.2,pw,w⟩ fA:=by
 have hb:=L.bools
 unfold nV at hb
 simp only [VZ] at hb
 refine qA (qA λ ef R7 h11=>?_) hb;obtain ⟨⟨⟨⟨⟨⟨⟨⟨h1,h2⟩,h3⟩,h4⟩,h5⟩,h6⟩,h7⟩,h8⟩,h9⟩:=ef
 refine {
  gl:=Ho L.gl
  keep:=λ f hf=>?_
  hkeep:=h2
  meth:=AF L.meth
  own:=LS (by simp only [VZ];exact h3) L.own
  Ff:=Jz (by simp only [VZ];exact h4) L.Ff
  Kl:=by simp only [VZ];exact h5
  Km:=h6
  makes:=h7
  sys:=h8
  blt:=⟨λ M h X=>Looks.of_peek X (L.RZ _ _),?_⟩
  code:=L.code
  pat:=λ C hC=>⟨⟨BU,11,Hz,?_⟩,⟨lJ,15,HA,?_⟩⟩
  b1:=λ C hC _ _=>DP (l:=ja) (by rw [hC];exact L.b1) JK
  b3:=λ C hC _ _=>DQ (by decide) (by rw [hC];exact L.b3) hL
  Bj:=aC (.ref 69) (L.fn (i:=0) rfl) L.RW
  Bk:=L.fn (i:=1) rfl
  sV:=L.fn (i:=2) rfl
  sW:=L.fn (i:=3) rfl
  sX:=L.fn (i:=4) rfl
  fn_get:=aC (.ref 122) (L.fn (i:=5) rfl) (λ p P q pm cd doc ct a b=>⟨L.RX p P q pm cd doc ct a b,λ c=>L.RY p P q pm cd doc ct a b c⟩)
  vc:=L.fn (i:=6) rfl
  sY:=L.fn (i:=7) rfl
  Fg:=L.fn (i:=8) rfl
  zT:=L.fn (i:=9) rfl
  Fi:=L.fn (i:=10) rfl
  Fj:=L.fn (i:=11) rfl
  Fo:=L.fn (i:=12) rfl
  Bl:=L.fn (i:=13) rfl
  Bm:=L.fn (i:=14) rfl
  ym:=L.fn (i:=15) rfl
  Fp:=L.fn (i:=16) rfl
  Bo:=L.fn (i:=17) rfl
  Bp:=L.fn (i:=18) rfl
  Bq:=L.fn (i:=19) rfl
  Fq:=L.fn (i:=20) rfl}
 ·have:=Wg.mp h1 f hf
  rw [VZ] at this
  exact this
 ·have e:=L.nm
  show ∃ v,nsIn (aH x.2) mainGlobals "__name__" = some v
  cases q:nsIn (aH x.2) mainGlobals "__name__" with
  | none=>rw [q] at e;exact aV e
  | some v=>exact ⟨v,rfl⟩
 ·rw [hC];exact t9 L.Ow
 ·rw [hC];exact t9 L.Ox
theorem Left.HC (L:Left E x):oK (aH x.2) 338 (aJ 27) .none .none:=L.fn (i:=21) rfl
end
end
section
set_option maxHeartbeats 1000000
section
variable {w:WK}
theorem Ma {r:RA}(h:uI .nil 0 r.s0.heap.objs.toList=some r.t0):(⟨r.t0,r.s0.heap.objs.size,r.s0.heap.life,r.s0.gens,r.s0.drawn,r.s0.toks,r.s0.os⟩:Wl).abs=r.s0:=by
 have z:=vD h
 unfold SharedT.abs
 obtain ⟨s0,t0,cf,p1,T1,p2,T2⟩:=r
 obtain ⟨hp,g,d,tk,os⟩:=s0
 show Zr _ _ _ _ _=Zr _ _ _ _ _
 simp only at z ⊢
 rw [z]
theorem JL {r:RA}(hA:tY w=some r)(Qt:r.T2.n=242):WT (model pw w) KG (topStub pw).cur (λ fin _ s'=>∃ f,fin=.done f/\Behind w r.s0 s') (λ _ _ _=>False) default r.s0:=by
 refine bQ (λ hs0 ht0 hr1 hr2=>?_) (j3 hA)
 have h2:WT (model pw w) KG (run (.body j0 (jz r.cf))) (λ _ _ s=>Behind w r.s0 s) (λ _ _ _=>False) r.p1 r.T1.abs:=JE (JD hA Qt)
 have h1:∀ (Q:Vg×Addr->Pos->Vh->Prop) (E:Vg->Pos->Vh->Prop),Q r.cf r.p1 r.T1.abs->WT (model pw w) KG qi Q E default r.s0:=λ Q E hQ=>by
  have z:=xd hr1 (Q:=Q) (E:=E) hQ
  rw [Ma ht0] at z
  exact z
 exact @Hv (model pw w) KG r.s0 r.T1.abs (moduleCode pw.main) (λ code=>newBodyFrame code mainNs mainNs) (λ code frame=>run (.body j0 (jz (code,frame)))) (Behind w r.s0) r.cf default r.p1 h1 h2
theorem qI {s0 s':Vh}(h:Behind w s0 s'):∃ E x,tY w=some x.1/\x.1.s0=s0/\x.2.abs=s'/\Left E x/\mW (E 0).1 cA:=by
 refine aU (λ E p x hx=>bQ λ h1 h2 h3 h4=>?_) h
 unfold fH at hx
 refine qO (λ r hr hx=>?_) hx
 refine qM (λ T hT e_=>?_) hx;subst e_
 exact ay E _ hr h1 (bY h2 (BY h3) h4)
theorem HD {E:Nat->List Vt×Nat}{x:RA×Wl}(L:Left E x)(ht:uI .nil 0 x.1.s0.heap.objs.toList=some x.1.t0)(hsz:x.1.s0.heap.objs.size<=28)(b:Addr)(o:Obj)(hb:x.1.s0.heap.get? b=some o)(hn:¬ theTopsOwn x.1.s0.heap b):x.2.abs.heap.get? b=some o:=by
 have hlt:b<x.1.s0.heap.objs.size:=V1 hb
 have hmem:b∈keptAt:=by
  have h2:b≠2:=λ q=>hn (.inr (.inl q))
  have h3:b≠3:=λ q=>hn (.inl q)
  have:b<28:=Vx hlt hsz
  have hb':b=0\/b=1\/(4<=b/\b<28):=by
   rcases df b 4 with h | h
   ·have k4:∀ b:Nat,b<4->b=0\/b=1\/b=2\/b=3:=by decide
    have:=k4 b h
    rcases this with h | h | h | h
    ·exact .inl h
    ·exact .inr (.inl h)
    ·exact absurd h h2
    ·exact absurd h h3
   ·exact .inr (.inr ⟨h,this⟩)
  clear hb hn hlt h2 h3
  revert hb'
  have key:∀ b:Nat,b<28->(b=0\/b=1\/(4<=b/\b<28))->b∈keptAt:=by decide
  exact key b this
 refine qE (λ i hi=>?_) (List.getElem?_of_mem hmem)
 have e:=congrArg (λ l=>l[i]?) L.kept
 simp only [Wy,hi,ZO,Option.some.injEq] at e
 have z:=vD ht
 rw [<-hb]
 have Qu:b<x.2.n:=by rw [L.n];exact Vx (Vx hlt hsz) (by decide)
 have:=Hx (l:=x.2.life) (l':=x.1.s0.heap.life) Qu hlt e
 rw [z] at this
 exact this
theorem JM {E:Nat->List Vt×Nat}{x:RA×Wl}(L:Left E x)(hA:tY w=some x.1)
  (z7:∃ n t,schedN (denote table) pw w n (.single x.1.s0 (topStub pw))=.running (.single x.2.abs t)/\through t=true):TopRan pw w x.1.s0 x.2.abs/\x.2.abs.gens = #[]/\x.1.s0.gens = #[]:=by
 refine bQ (λ hs0 ht0 hr1 hr2=>?_) (j3 hA)
 have hb:=L.gy
 unfold gy at hb
 simp only [VZ] at hb
 refine qA (qA λ ef Va Vb=>?_) hb;obtain ⟨⟨⟨⟨⟨⟨⟨⟨⟨⟨b0,b1⟩,b2⟩,b3⟩,b4⟩,b5⟩,b6⟩,b7⟩,b8⟩,b9⟩,Uw⟩:=ef
 have hg:x.2.abs.gens = #[]:=Yp (beq_iff_eq.mp b3)
 have OA:x.1.s0.gens = #[]:=Yp (beq_iff_eq.mp b2)
 refine bY ⟨z7,L.life,Shared.rest_eq L.os,HD L ht0 (hY.mp b0),Heap.accountedI_of_ok b4,statics_of_ok b8,Pin.keysAreStrs_of b5,λ y hy=>(Pin.builtinOf_eq b6 y).trans (Heap.of_bltView b6 L.blt y hy),?_,λ g hg'=>?_,names_of_bound b9,laid_of_kept Uw⟩ hg OA
 ·refine ak (λ bm ob a _=>bQ λ c d f _=>?_) (Heap.bmainOk_spec b7)
  exact ⟨bm,ob,(Pin.globalOf_eq b5 _).trans a,c,d,f⟩
 ·rw [hg] at hg';simp at hg'
theorem HE {E:Nat->List Vt×Nat}{x:RA×Wl} (L:Left E x):isTheDefsW pw x.2.abs.heap "law":=by
 have hb:=L.bools
 unfold nV at hb
 simp only [VZ] at hb
 have hq:=hb.2
 refine bG (λ q pm cd doc=>aI λ ct FA _=>?_) L.HC.ex
 refine aI (λ o ho hd=>?_) FA.here
 have hg:iV (aH x.2) 338=some (fdOf (aJ 27) q pm cd doc ct .none .none):=by
  unfold iV
  rw [ho]
  obtain ⟨c,d,dt,sl⟩:=o
  simp only at hd
  subst hd
  rfl
 rw [hg] at hq
 have hq':sB (fdOf (aJ 27) q pm cd doc ct .none .none).qualname "law" = true:=hq
 have e:fdOf (aJ 27) q pm cd doc ct .none .none=t7 (aJ 27) .none .none (fdOf (aJ 27) q pm cd doc ct .none .none):=by
  have h1:=congrArg (λ l=>l[21]?) L.fns
  have h2:iV (aH x.2) 338=(iV (aH x.2) 338).map (t7 (aJ 27) .none .none):=Vf h1
  rw [hg] at h2
  exact Vf h2
 exact L5 L6 JG L.law (Hw x.2 _ _ ho) hd e hq'
theorem qJ (w:WK):(∃ s,AfterRun (opening pw) w s)/\∀ s,AfterRun (opening pw) w s->∃ s₀,fenceModules? pw s=some s₀/\s₀.gens = #[]/\∃ s₁,TopRan pw w s₀ s₁/\s₁.asleep/\s₁.gens = #[]/\isTheDefsW pw s₁.heap "law"/\
  ∃ E x,x.2.abs=s₁/\Left E x/\mW (E 0).1 cA:=by
 refine aI (λ x hx hl=>?_) (qG w (λ _=>([],0)) default)
 have L0:=BY hl
 unfold fH at hx
 refine qO (λ r hA hx=>?_) hx
 refine qM (λ T hT e_=>?_) hx;subst e_
 refine bQ (λ hs0 ht0 hr1 hr2=>?_) (j3 hA)
 rw [Hs] at hs0
 refine qO (λ s h4 h5=>?_) hs0
 have A:=AfterImport.of_importEnds h4
 refine ⟨⟨s,A⟩,λ s' hs'=>?_⟩
 obtain rfl:s'=s:=AfterImport.unique hs' A
 have z:r.s0.asleep:=Zq (fence_lifeW h5) A.life
 refine aU (λ n s1 t1 e1=>qA λ e2 e3=>?_) (AK z (λ s' hs'=>by
  refine ak (λ E y hy1 Qv=>fJ λ My LY _=>?_) (qI hs')
  have hb:=LY.gy
  unfold gy at hb
  simp only [VZ] at hb
  rw [<-My]
  exact Yp (beq_iff_eq.mp hb.1.1.1.1.1.1.1.1.1.2)) (JL hA L0.n2))
 refine ak (λ E y hy1 Qv=>fJ λ My LY Ux=>?_) (qI e3)
 have KX:=JM LY hy1 (nC n t1 (by rw [Qv,My];exact e1) e2)
 rw [Qv,My] at KX
 refine fJ (λ KX hg OA=>?_) KX
 exact fu r.s0 h5 OA (ir s1 KX (Zq KX.2.1 z) hg (⟨by rw [<-My];exact HE LY,ay E y My LY Ux⟩))
end
end
section
set_option maxHeartbeats 1000000
noncomputable def IntsAre:List Vg->List Int->Prop
 | [],[]=>True
 | v::vs,n::ns=>(∃ t,v=.int n t)/\IntsAre vs ns
 | _,_=>False
theorem zp {F:Fz}{ρ:Ky}:∀ {vs:List Vg}{ns:List Int},IntsAre vs ns->aF F ρ (ns.map V.int) vs
 | [],[],_=>.nil
 | v::vs,n::ns,h=>by
  obtain ⟨⟨t,rfl⟩,h⟩:=h
  exact .cons (.int n t) (zp h)
 | [],_::_,h=>h.elim
 | _::_,[],h=>h.elim
section
variable {E:Nat->List Vt×Nat}{x:RA×Wl}{w:WK}
noncomputable def eL (L:Addr):Env:={scope:={kind:=.function,names:=[],isGenerator:=false,isCoroutine:=false},locals:=L,globals:=mainGlobals,cells:=[],builtins:=builtinsNs}
noncomputable def frozen (K:Frag)(lst:Obj):Fz:=λ b=>match K.lookup b with
 | some o=>some o
 | none=>bif Vo b 339 then some lst else none
noncomputable def lM (K:Frag)(lst:Obj)(L:Addr)(h:Heap):Fz:=λ b=>match frozen K lst b with
 | some _=>none
 | none=>bif Vo b L||Vo b 301 then none else h.get? b
noncomputable def O0 (x:RA×Wl)(w:WK)(s:Vh)(lst:Obj)(L:Addr):Cx:={prog:=pw,w:=w,A:=callerA,env:=eL L,G:=lM (aH x.2) lst L s.heap,gens:=s.gens,os:=s.os,drawn:=s.drawn,K:=aH x.2,frs:=[],ext:=λ _=>none}
theorem pJ {K:Frag}{lst:Obj}{b:Addr}{o:Obj}(h:K.lookup b=some o):frozen K lst b=some o:=by unfold frozen;rw [h]
theorem uh (Lf:Left E x){b:Addr}(h:b=339\/b=6\/b=64\/b=301):(aH x.2).lookup b=none:=by
 cases hk:(aH x.2).lookup b with
 | none=>rfl
 | some o=>
  refine bB (λ _ h1 h2 h3 h4=>?_) (j4 hk)
  rw [Lf.n] at h1
  rcases h with h | h | h | h
  ·rw [h] at h1;exact absurd h1 (by decide)
  ·exact absurd h h2
  ·exact absurd h h3
  ·exact absurd h h4
theorem HF (a:Nat):Vo a a=true:=WL a
theorem qK (Lf:Left E x){lst:Obj}{L:Addr}(h:L=6\/L=64\/L=301):frozen (aH x.2) lst L=none:=by
 unfold frozen
 rw [uh Lf (.inr h)]
 rcases h with h | h | h<;>rw [h]<;>rfl
theorem xe {K:Frag}{lst:Obj}{b:Addr}{o:Obj}(h:frozen K lst b=some o):K.lookup b=some o\/(b=339/\o=lst):=by
 unfold frozen at h
 cases e:K.lookup b with
 | some x=>rw [e] at h;left;exact h
 | none=>
  rw [e] at h
  cases hb:Vo b 339 with
  | true=>rw [hb] at h;right;exact ⟨VE hb,(Vf h).symm⟩
  | false=>rw [hb] at h;exact aV h
theorem Mb (Lf:Left E x){s:Vh}{lst:Obj}{L:Addr}:On (O0 x w s lst L) ⟨aH x.2,pw,w⟩ 21 [] where
 units:=by show callerA.units+400+40*21<cLine;decide
 depth:=by show callerA.depth+120+4*21<recursionLimit;decide
 fn:=rfl
 glob:=rfl
 blt:=rfl
 apart:=List.Pairwise.nil
 j7:=λ _ h=>nomatch h
 frames:=rfl
 lim:=by
  have hb:=Lf.bools
  unfold nV at hb
  simp only [VZ] at hb
  exact LU hb.1.1.2
 mS:=λ a ha=>by
  rcases ha with ha | ⟨y,hy⟩
  ·show lM _ _ _ _ a=none
   unfold lM
   split
   ·rfl
   ·rw [ha];show cond (Vo L L||Vo L 301) _ _=_;rw [HF];rfl
  ·exact aV hy
 fz:=λ y c h=>aV h
 bu:=λ y k h=>aV h
 B9:=λ e h=>nomatch h
 handled:=rfl
 K:=rfl
 prog:=rfl
 w:=rfl
 names:=rfl
noncomputable def OB:Ky:=λ n=>bif Vo n 0 then some 301 else none
theorem um {n:Nat}{a:Addr}(h:OB n=some a):n=0/\a=301:=by
 refine qA (λ h1 h2=>?_) (c8 h)
 exact ⟨VE h1,(Vf h2).symm⟩
theorem DU {n:Nat}{m o:MO}(h:J [(0,m)] n=some o):n=0/\o=m:=by
 have h:(bif Vo n 0 then some m else none)=some o:=h
 refine qA (λ h1 h2=>?_) (c8 h)
 exact ⟨VE h1,(Vf h2).symm⟩
theorem uo (Lf:Left E x):(∃ oc,(aH x.2).lookup 305=some oc)/\x.2.abs.heap.IsCode 305 301 #[]/\x.2.abs.heap.TableAt 305 301 #[]:=by
 refine ⟨?_,Heap.tab0At_spec Lf.AL⟩
 have hb:=Lf.bools
 unfold nV at hb
 simp only [VZ] at hb
 have h2:=Wg.mp hb.1.2 (306,aJ 21,.none) (List.mem_of_getElem? (i:=15) rfl)
 refine aI (λ fd h3 h4=>?_) (kJ h2)
 refine aI (λ y h5 _=>?_) (kJ h4)
 refine qO (λ c h6 h=>?_) h5
 refine qO (λ o h7 _=>?_) h
 refine qO (λ ob h8 h9=>?_) h3
 have e:=Lf.code
 unfold codeIn at e
 rw [show (aH x.2).lookup fA.iI=some ob from h8] at e
 have e:(match ob.data with | .func fd=>some fd.code | _=>none)=some (.ref 305):=e
 rw [vE h9] at e
 rw [Vf e] at h6
 obtain rfl:305=c:=Xb (kI h6)
 exact ⟨o,h7⟩
noncomputable def AL (ps:Array Vg):Obj:={cls:=.none,data:=.fields ps}
theorem OC (Lf:Left E x){s:Vh}{vs:List Vg}{L:Addr}(JN:L=6\/L=64)(hs:s.heap=x.2.abs.heap.push (ao vs 0)):Rel (O0 x w s (ao vs 0) L) (frozen (aH x.2) (ao vs 0)) OB ⟨[],[(0,.qj 305 0)]⟩ s:=by
 have hsz:x.2.abs.heap.objs.size=339:=(cp ..).trans Lf.n
 have hkeep:∀ b o,x.2.abs.heap.get? b=some o->s.heap.get? b=some o:=λ b o h=>by rw [hs];exact VA _ h
 have qR:s.heap.get? 339=some (ao vs 0):=by rw [hs,<-hsz];exact VL _ rfl
 have hF:∀ b o,frozen (aH x.2) (ao vs 0) b=some o->s.heap.get? b=some o:=λ b o h=>by
  rcases xe h with h | ⟨rfl,rfl⟩
  ·exact hkeep _ _ (j4 h).1
  ·exact qR
 have hb:=Lf.gy
 unfold gy at hb
 simp only [VZ] at hb
 have hns:x.2.abs.heap.isNs L=true:=by
  rcases JN with h | h<;>rw [h]
  ·exact hb.1.2
  ·exact hb.2
 have Uy:L=6\/L=64\/L=301:=JN.elim .inl λ h=>.inr (.inl h)
 have ID:(301:Nat)≠L:=by rcases JN with h | h<;>rw [h]<;>decide
 refine fJ (λ ef hco htab=>?_) (uo Lf);obtain ⟨oc,hoc⟩:=ef
 have fc:frozen (aH x.2) (ao vs 0) 305=some oc:=pJ hoc
 have gc:=(j4 hoc).1
 have gP:=htab.2
 have hP:lM (aH x.2) (ao vs 0) L s.heap 301=none:=by
  unfold lM
  split
  ·rfl
  ·rw [show (Vo 301 L||Vo 301 301)=true from by rw [WL,Bool.or_true]];rfl
 exact {
  gens:=rfl
  os:=rfl
  drawn:=rfl
  kG:=λ b o h=>⟨o,by
   have h':lM (aH x.2) (ao vs 0) L s.heap b=some o:=h
   unfold lM at h'
   split at h'
   ·exact jB h'
   ·cases hq:(Vo b L||Vo b 301) with
    | true=>rw [hq] at h';exact jB h'
    | false=>rw [hq] at h';exact h',.inl rfl⟩
  kF:=hF
  kK:=λ b o h=>h.elim (λ h=>pJ h) λ h=>aV h
  FG:=λ b o h=>by
   show lM _ _ _ _ b=none
   unfold lM
   rw [h]
  mt:=λ n o h=>by
   refine qA (λ e_ cg=>?_) (DU h);subst e_ cg
   refine ay 301 (AL #[]) rfl (hkeep _ _ gP) (dG (.qj (c:=305) (P:=301) (k:=0) (oc:=oc) (ps:=#[]) fc rfl (λ h f1 f2=>⟨uX hco gc gP f1 f2,x7 htab gc gP f1 f2⟩) (λ pos v e=>aV e)) (qK Lf (.inr (.inr rfl))) hP ?_)
   rintro (h | ⟨y,hy⟩)
   ·exact ID h
   ·exact aV hy
  dom:=λ n a h=>by refine qA (λ e_ _=>?_) (um h);subst e_;rfl
  inj:=λ n m a h h2=>by rw [(um h).1,(um h2).1]
  ns:=aC _ (by rw [hs];exact (Heap.Ns.of_isNs hns).push _) (λ y v h=>aV h)
  cells:=λ y c h=>aV h
  c7:=λ a ha=>by
   rcases ha with ha | ⟨y,hy⟩
   ·rw [ha];exact qK Lf Uy
   ·cases hy}
theorem JO (Lf:Left E x)(hL:mW (E 0).1 cA){L:Addr}(JN:L=6\/L=64){ns:List Int}(hlen:ns.length<=63){s:Vh}{vs:List Vg}(hv:IntsAre vs ns)(hs:s.heap=x.2.abs.heap.push (ao vs 0)):
  wpAny (model pw w) callerA (call (.ref 338) [.ref 339]) (λ v s'=>v=.bool true/\s'.gens=s.gens/\s'.os=s.os/\(∀ b o,s.heap.get? b=some o->b≠L->b≠301->s'.heap.get? b=some o)/\∃ ps,s'.heap.get? 301=some (AL ps)) (λ _ _=>False) s:=by
 have R:=OC (w:=w) Lf (vs:=vs) JN hs
 have hcu:=LO (C:=O0 x w s (ao vs 0) L) (T:=⟨aH x.2,pw,w⟩) (d:=0) (N:=[]) (X:=λ _ _ _=>False) (st:=⟨[],[(0,.qj 305 0)]⟩) (Mb Lf) (Lf.fx hL) Lf.HC (script:=ns) hlen (kp:=0) rfl (Q:=λ v st=>v=.bool true/\J st.heap 0=some (.qj 305 0)) (λ h' e=>⟨rfl,e⟩)
 refine Y6 (hcu _ _ s [.ref 339] [] R (.cons (.lst (xs:=vs) (ep:=0) ?_ (zp hv)) .nil) .nil _ _ ?_ ?_)
 ·unfold frozen
  rw [uh Lf (.inl rfl)]
  rfl
 ·intro F' ρ' v s' lF lK;refine ak λ v' st' ef R' hd=>?_;obtain ⟨rfl,e⟩:=ef
  cases hd
  refine cO rfl R'.gens R'.os (λ b o hb hne hn1=>?_) ?_
  ·cases hf:frozen (aH x.2) (ao vs 0) b with
   | some o'=>
    have h1:=R.kF _ _ hf
    rw [hb] at h1
    obtain rfl:=Vf h1
    exact R'.kF _ _ (lF _ _ hf)
   | none=>
    have hg:(O0 x w s (ao vs 0) L).G b=some o:=by
     show lM _ _ _ _ b=some o
     unfold lM
     rw [hf]
     have h1:Vo b L=false:=by rw [Wm];exact λ q=>hne (VE q)
     have h2:Vo b 301=false:=by rw [Wm];exact λ q=>hn1 (VE q)
     show cond (Vo b L||Vo b 301) none (s.heap.get? b)=some o
     rw [h1,h2]
     exact hb
    refine aI (λ o' h1 h2=>?_) (R'.kG _ _ hg)
    rcases h2 with rfl | ⟨h2,_⟩
    ·exact h1
    ·cases h2
  ·refine ak (λ a ob h1 h2=>qA λ h3 _=>?_) (R'.mt _ _ e)
   obtain rfl:301=a:=Vf ((lK 0 301 rfl).symm.trans h1)
   cases h3 with
   | @qj _ P' _ _ oc ps hc hk hi hg=>
    obtain rfl:=Vf (h1.symm.trans hk)
    exact ⟨ps,(hi _ (R'.kF _ _ hc) h2).2.2⟩
 ·intro F' ρ' v s' lF lK;refine aU λ c a st hf _=>?_
  exact hf
end
end
section
set_option maxHeartbeats 1000000
theorem vI {R:WRecords}{cl:Str->Option Addr}{P:iq}{ord:List Vt->List Vt}:∀ (ns:List Int) (s:Vh),∃ vs tk,layAllW R cl P ord (ns.map Yq) s=some (vs,{s with toks:=tk})/\IntsAre vs ns
 | [],s=>nC [] s.toks (by simp only [List.map_nil,layAllW]) trivial
 | n::ns,s=>by
  refine dM (λ vs tk h hi=>?_) (vI (R:=R) (cl:=cl) (P:=P) (ord:=ord) ns {s with toks:=s.toks+1})
  refine ⟨.int n s.toks::vs,tk,?_,⟨_,rfl⟩,hi⟩
  simp only [XI,layAllW,layW,h]
theorem vJ {R:WRecords}{cl:Str->Option Addr}{h:Heap}:∀ {vs:List Vg}{ns:List Int},IntsAre vs ns->ReadsAllW R cl h vs (ns.map Yq) []
 | [],[],_=>.nil
 | v::vs,n::ns,hh=>by
  obtain ⟨⟨t,rfl⟩,hh⟩:=hh
  exact ReadsAllW.cons (as:=[]) (bs:=[]) (.int n t) (vJ hh)
 | [],_::_,hh=>hh.elim
 | _::_,[],hh=>hh.elim
noncomputable def pK (s s':Vh)(vs:List Vg)(j5:Addr)(L:Addr->Prop):Prop:=s'.os=s.os/\(∀ b o,(s.heap.push (ao vs 0)).get? b=some o->¬ L b->b≠j5->s'.heap.get? b=some o)/\∃ ps,s'.heap.get? j5=some (AL ps)
noncomputable abbrev HH (t:Sem ZD):Thread:=⟨t,.builtin "claim.caller" {},default,[]⟩
noncomputable def R8 (prog:Wi)(w:WK)(s1:Vh)(t:Sem ZD)(n:Nat)(s':Vh):Prop:=runN (denote table) prog w n s1 (HH t)=.halted (.done (.ret (.bool true))) s'/\schedN (denote table) prog w n (.single s1 (HH t))=.halted (.done (.ret (.bool true))) s'
theorem BZ {prog:Wi}{w:WK}{t:Sem ZD}{s s1:Vh}{vs:List Vg}{j5:Addr}{L:Addr->Prop}(hz:s1.asleep)
  (h:wpAny (model prog w) callerA t (λ fin s'=>fin=.done (.ret (.bool true))/\s'.gens = #[]/\pK s s' vs j5 L) (λ _ _=>False) s1):∃ n s',R8 prog w s1 t n s'/\pK s s' vs j5 L:=by
 refine bG (λ n r s' s''=>bQ λ h1 h2 h3 h4=>?_) (thread_ends_bothG (prog:=prog) (w:=w) (t:=t) (s:=s1) (R:=λ r s'=>r=.ok (.ret (.bool true))/\pK s s' vs j5 L) hz
  (V6 h (λ fin s' q=>fu _ q.1 ⟨rfl,q.2.2⟩ (vC q.2.1)) λ _ _ x=>x.elim))
 refine qA (λ e_ k=>?_) h4;subst e_
 refine bB (λ eh _ _ eo _=>?_) (Shared.forget_eq h3)
 refine nC n s' ⟨h1,h2⟩ ?_
 unfold pK at k ⊢
 rw [eo,eh]
 exact k
theorem JP {prog:Wi}{w:WK}{t:Sem ZD}{s s1:Vh}{vs:List Vg}{j5 L₁ L₂:Addr}(hne:L₁≠L₂)(hz:s1.asleep)
  (h:∀ L,(L=L₁\/L=L₂)->wpAny (model prog w) callerA t (λ fin s'=>fin=.done (.ret (.bool true))/\s'.gens = #[]/\pK s s' vs j5 (· = L)) (λ _ _=>False) s1):∃ n s',R8 prog w s1 t n s'/\pK s s' vs j5 λ _=>False:=by
 refine dM (λ n s' a a'=>?_) (BZ hz (h L₁ (.inl rfl)))
 refine dM (λ m s'' b b'=>?_) (BZ hz (h L₂ (.inr rfl)))
 refine qA (λ _ e_=>?_) (schedN_unique a.2 b.2);subst e_
 refine ⟨n,s',a,a'.1,λ x o hx _ hp=>?_,a'.2.2⟩
 by_cases q:x=L₁
 ·exact b'.2.1 x o hx (by rw [q];exact hne) hp
 ·exact a'.2.1 x o hx q hp
theorem JQ {s s':Vh}{vs:List Vg}{c₀ j5 b:Addr}{o:Obj}(htab:s.heap.TableAt c₀ j5 #[])(k:pK s s' vs j5 λ _=>False)(hb:(s.heap.push (ao vs 0)).get? b=some o):asItWas (s.heap.push (ao vs 0)) s'.heap b o:=by
 by_cases h:b=j5
 ·subst h
  obtain rfl:AL #[]=o:=Vf ((htab.push (ao vs 0)).2.symm.trans hb)
  refine qE (λ ps a5=>?_) k.2.2
  exact .inr (.inl (bY ((htab.push (ao vs 0)).isCodeTable) rfl (nC (#[]) ps rfl (a5.trans (by rw [Array.empty_append];rfl)))))
 ·exact .inl (k.2.1 b o hb id h)
theorem xg {c:ClaimW}{tree:List Vg->Sem ZD}{w:WK}{s:Vh}{free:Addr->Prop}{gens:Prop}{kept:Heap->Prop}(hz:s.asleep)(hgens:s.gens = #[])(JR:∀ args cls,c.raises args cls=false)
  (hpost:∀ args ds,c.post args (.bool true) ds=true) (hid:∀ a b,c.ident a b=true) (hsame:c.same=none) (hwi:c.within=[]) (OE:∀ h,kept h)
  (hargs:∀ args,c.pre args=true->∃ ns:List Int,args=[.list (ns.map Yq)]/\ns.length<=63) {L₁ L₂ c₀ j5:Addr} (hne:L₁≠L₂) (htab:s.heap.TableAt c₀ j5 #[])
  (z7:∀ (L:Addr) (ns:List Int) (vs:List Vg) (tk:Nat),(L=L₁\/L=L₂)->ns.length<=63->IntsAre vs ns->wpAny (model c.prog w) callerA (tree [.ref s.heap.objs.size])
   (λ fin s'=>fin=.done (.ret (.bool true))/\s'.gens = #[]/\pK s s' vs j5 (· = L)) (λ _ _=>False) {s with heap:=s.heap.push (ao vs 0),toks:=tk}) :
  c.CallFrom (λ vs=>HH (tree vs)) w free gens kept s:=by
 intro args hpre hlay ord hord
 refine cps λ G0 qY=>?_
 refine aI (λ ns e_ hlen=>?_) (hargs args hpre);subst e_
 refine dM (λ vs tk hl hi=>?_) (vI (R:=c.records) (cl:=classAt s.heap) (P:=w.params) (ord:=ord) ns s)
 have hlaid:layAllW c.records (classAt s.heap) w.params ord [.list (ns.map Yq)] s=some ([.ref s.heap.objs.size],{s with heap:=s.heap.push (ao vs 0),toks:=tk}):=by
  simp only [layAllW,layW,hl];rfl
 refine dM (λ n s' a k=>?_) (JP (s1:={s with heap:=s.heap.push (ao vs 0),toks:=tk}) hne (Zq rfl hz) λ L hL=>z7 L ns vs tk hL hlen hi)
 refine qY ?_
 clear qY
 have Mc:=runN_life _ _ _ a.1
 have OF:s'.heap.life=s.heap.life:=Mc
 have qR:(s.heap.push (ao vs 0)).get? s.heap.objs.size=some (ao vs 0):=VL _ rfl
 have Qp:s.heap.objs.size≠j5:=λ q=>V8 j5 (by have:=V1 htab.2;rw [q] at this;exact this)
 refine nC _ _ hlaid (cu n _ s' a.2 (cO (.inl (ir (.bool true) rfl (JR _) (d7 (.bool true) [.list (ns.map Yq)] [] [s.heap.objs.size] (cO (.bool true) ?_ (hpost _ _) (λ _=>bY .nil (λ _ h=>(nomatch h)) (λ _ h=>nomatch h)) (λ _ _=>hid _ _))) (bY ?_ (λ b o hb _ _ _=>JQ htab k hb) ?_))) ?_ (OE _) (by rw [OF]) (Shared.rest_eq k.1)))
 ·exact ReadsAllW.cons (as:=[s.heap.objs.size]) (bs:=[]) (.list (as:=[]) (k.2.1 _ _ qR id Qp) rfl rfl (by exact vJ hi)) .nil
 ·intro i h;rw [hsame] at h;exact aV h
 ·intro i h;rw [hwi] at h;cases h
 ·intro _ i y hy;rw [hgens] at hy;simp at hy
theorem AM:∀ {x:WData},dp [] x .int=true->∃ i,x=.int i
 | .int i,_=>⟨i,rfl⟩
 | .none,h=>absurd h Vp
 | .bool _,h=>absurd h Vp
 | .str _,h=>absurd h Vp
 | .list _,h=>absurd h Vp
 | .tuple _,h=>absurd h Vp
 | .dict _,h=>absurd h Vp
 | .float _,h=>absurd h Vp
 | .bytes _,h=>absurd h Vp
 | .bytearray _,h=>absurd h Vp
 | .set _,h=>absurd h Vp
 | .frozenset _,h=>absurd h Vp
 | .obj _ _,h=>absurd h Vp
theorem zq:∀ (xs:List WData),ZQ [] xs .int=true->∃ ns:List Int,xs=ns.map Yq
 | [],_=>⟨[],rfl⟩
 | x::xs,h=>by
  have h':(dp [] x .int&&ZQ [] xs .int)=true:=h
  refine qB (λ h1 h2=>?_) h'
  refine qE (λ ns e_=>?_) (zq xs h2);subst e_
  refine qE (λ i e_=>?_) (AM h1);subst e_
  exact ⟨i::ns,rfl⟩
theorem zu:∀ {x:WData},dp [] x (.list .int)=true->∃ xs,x=.list xs/\ZQ [] xs .int=true
 | .list xs,h=>⟨xs,rfl,by
  have h':(ZQ [] xs .int||false)=true:=h
  rwa [Bool.or_false] at h'⟩
 | .none,h=>absurd h Vp
 | .bool _,h=>absurd h Vp
 | .int _,h=>absurd h Vp
 | .str _,h=>absurd h Vp
 | .tuple _,h=>absurd h Vp
 | .dict _,h=>absurd h Vp
 | .float _,h=>absurd h Vp
 | .bytes _,h=>absurd h Vp
 | .bytearray _,h=>absurd h Vp
 | .set _,h=>absurd h Vp
 | .frozenset _,h=>absurd h Vp
 | .obj _ _,h=>absurd h Vp
end
section
set_option maxHeartbeats 1000000
noncomputable def HJ (vs:List Vg):Sem ZD:=(callStub "law" vs).cur
noncomputable def KN:WTm:=.not (.lt (.lit (.int (63:Nat))) (.len (.arg 0)))
theorem HK (ns:List Int):WTm.value [] KN {args:=[.list (ns.map Yq)]}=some (.bool (!(decide (((63:Nat):Int)<(((ns.map Yq).length:Nat):Int))))):=rfl
theorem AN {t:WTm}{e:WCtx}{b:Bool}(hv:t.value [] e=some (.bool b))(h:t.holds [] e=true):b=true:=by
 unfold kv at h
 rw [hv] at h
 induction b with
 | true=>rfl
 | false=>exact absurd h Vp
theorem HM {args:List WData}(h:HV.row.toRowW.claim.pre args=true):∃ ns:List Int,args=[.list (ns.map Yq)]/\ns.length<=63:=by
 refine qA (λ h1 h2=>?_) (pre_splitW h)
 refine ak (λ d r e_ h3 h4=>?_) (hasAllW_cons h1);subst e_
 obtain rfl:=hasAllW_nil h4
 refine aI (λ xs e_ h6=>?_) (zu h3);subst e_
 refine qE (λ ns e_=>?_) (zq xs h6);subst e_
 have h7:KN.holds [] {args:=[.list (ns.map Yq)]}=true:=(holds_andW h2).1
 have h8:=AN (HK ns) h7
 refine aC ns rfl ?_
 have R7:decide (((63:Nat):Int)<(((ns.map Yq).length:Nat):Int))=false:=by
  cases hq:decide (((63:Nat):Int)<(((ns.map Yq).length:Nat):Int)) with
  | false=>rfl
  | true=>rw [hq] at h8;exact lO h8
 have h11:=of_decide_eq_false R7
 rw [Vl] at h11
 omega
end
section
set_option maxHeartbeats 1000000
theorem AO:opensWell pw=true:=by decide +kernel
theorem JS:pw.bare:=⟨rfl,rfl,rfl,rfl,rfl,by decide +kernel⟩
theorem JT:HV.row.toRowW.claim.pre [.list []]=true:=by decide +kernel
theorem qN:HV.row.toRowW.promised:=⟨[.list []],JT,by decide +kernel⟩
theorem HN:frees HV.row.toRowW=true:=by decide +kernel
theorem HO (args ds:List WData):HV.row.toRowW.claim.post args (.bool true) ds=true:=by
 show (dp [] (.bool true) .bool&&kv [] (.eq .res (.lit (.bool true))) {args:=args,res:=some (.bool true),after:=ds})=true
 simp [dp,WShape.arms,kv,WTm.value,same]
theorem HP {w:WK}{s:Vh}{E:Nat->List Vt×Nat}{x:RA×Wl}(hg:s.gens = #[])(hx:x.2.abs=s)(Lf:Left E x)(hL:mW (E 0).1 cA)(L:Addr)(ns:List Int)(vs:List Vg)(tk:Nat)(JN:L=6\/L=64)(hlen:ns.length<=63)(hi:IntsAre vs ns):
  wpAny (model pw w) callerA (HJ [.ref s.heap.objs.size]) (λ fin s'=>fin=.done (.ret (.bool true))/\s'.gens = #[]/\pK s s' vs 301 (· = L)) (λ _ _=>False)
   {s with heap:=s.heap.push (ao vs 0),toks:=tk}:=by
 subst hx
 have hsz:x.2.abs.heap.objs.size=339:=(cp ..).trans Lf.n
 have hb:=Lf.gy
 unfold gy at hb
 simp only [VZ] at hb
 have hns:x.2.abs.heap.isNs mainGlobals=true:=hb.1.1.1.1.1.1.1.2
 have hm:x.2.abs.heap.nsMap mainGlobals "law" = some (.ref 338):=(Pin.globalOf_eq hns _).symm.trans Lf.law
 have hN:(x.2.abs.heap.push (ao vs 0)).Ns mainGlobals (x.2.abs.heap.nsMap mainGlobals):=(Heap.Ns.of_isNs hns).push _
 unfold HJ callStub
 dsimp only
 refine Vc (wpAny_nsGet (s:={x.2.abs with heap:=x.2.abs.heap.push (ao vs 0),toks:=tk}) hN ?_)
 rw [hm,hsz]
 refine Vc (V6 (JO (w:=w) (s:={x.2.abs with heap:=x.2.abs.heap.push (ao vs 0),toks:=tk}) Lf hL JN hlen hi rfl) (λ v s'=>bQ λ a b c d=>Vj ⟨by rw [a],by rw [b];exact hg,c,d⟩) λ _ _ x=>x.elim)
theorem Mz (said:HV.row.wellSaid=true):HV.row.Holds:=by
 refine bB (λ hsame hu ha hap hm=>?_) (frees_parts HN)
 refine ⟨said,qN,(bY JS AO rfl),qN.witness,λ w=>⟨(qJ w).1,λ s hs=>?_⟩⟩
 refine fq (λ s₀ hf OA=>fZ λ s₁ hT hz hg=>qA λ Qw=>ak λ E x hx Lf hL=>?_) ((qJ w).2 s hs)
 refine fu s₀ hf OA (ir s₁ hT (λ n hn=>?_) (λ y hy=>(nomatch hy)) (⟨λ y hy=>(nomatch hy),?_⟩))
 ·have:n = "law":=by
   have hn':n∈(["law"]:List Str):=hn
   simpa using hn'
  rw [this];exact Qw
 ·exact xg (c:=HV.row.toRowW.claim) (tree:=HJ) (w:=w) (s:=s₁) (L₁:=6) (L₂:=64) (c₀:=305) (j5:=301) hz hg (λ _ _=>rfl) HO (λ a b=>ident_freeW hu ha hap a b) rfl rfl (λ h q=>lO q) (λ args h=>HM h) (by decide) (hx▸(uo Lf).2.2)
   (λ L ns vs tk JN hlen hi=>HP hg hx Lf hL L ns vs tk JN hlen hi)
end
end Internal
theorem PySem.Challenge.cw_kl0126_01_holds : PySem.Challenge.rw_kl0126_01.Holds := by
 exact holds_law Internal.MB fun h => Internal.Mz h
