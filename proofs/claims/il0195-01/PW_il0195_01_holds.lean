import PyProof.Rows.All
import Wide.All
import OpenK.AllK
import Wide.FinOn
import PySem.Challenge.RW_il0195_01
set_option Elab.async false
set_option maxRecDepth 1000000
set_option maxHeartbeats 4000000
set_option linter.all false
namespace Mine
noncomputable section
open PySem PySem.Spec PySem.Calls PySem.W PyProof.Rows
abbrev Yb:=@List.mem_cons_of_mem
abbrev Yc:=@List.mem_cons_self
abbrev Yd:=@wpAny_bind
abbrev Ye:=@Nat.le_trans
abbrev Yg:=@wpAny_isTrue_Compare1
abbrev Yh:=@wpAny_execs_cons
abbrev Yi:=@wpAny_truthy_bool
abbrev Yj:=@List.getElem?_eq_getElem
abbrev Yk:=@Bool.false_ne_true
abbrev Yl:=@plainObj_wpAny_Assign_Attribute
abbrev Ym:=@wpAny_execs_nil
abbrev Yn:=@wpAny_pure
abbrev Yo:=@List.getD_eq_getElem?_getD
abbrev Yp:=@List.length_map
abbrev Yq:=@wpAny_Assign_Name
abbrev Yr:=@List.mem_of_getElem?
abbrev Ys:=@List.mem_append_right
abbrev Yt:=@List.map_append
abbrev Yu:=@List.mem_cons
abbrev Yv:=@Heap.get?_push_of_some
abbrev Yw:=@Nat.le_of_ble_eq_true
abbrev Yx:=@List.mem_map
abbrev Yy:=@Heap.get?_none_of_le
abbrev Yz:=@spliced_cons
abbrev Za:=@Nat.add_le_add_left
abbrev Zb:=@wpAny_Call_ofName
abbrev Zc:=@List.getElem?_map
abbrev Zd:=@wpAny_Return_some
abbrev Ze:=@wpAny_mono
abbrev Zf:=@Nat.le_refl
abbrev Zg:=@wpAny_Constant_none
abbrev Zh:=@wpAny_If
abbrev Zi:=@List.perm_append_comm
abbrev Zj:=@Option.some.inj
abbrev Zk:=@wpAny_Subscript_Name_late
abbrev Zl:=@wpAny_assign_Name
abbrev Zm:=@Heap.get?_update_other
abbrev Zn:=@spliced_nil
abbrev Zo:=@wpAny_Constant_str
abbrev Zp:=@beq_eq_false_iff_ne
abbrev Zq:=@List.map_cons
abbrev Zr:=@List.mem_append_left
abbrev Zs:=@Nat.zero_le
abbrev Zt:=@Option.map_eq_some_iff
abbrev Zu:=@List.mem_singleton
abbrev Zv:=@isTrue_plain
abbrev Zw:=@List.length_append
abbrev Zx:=@evalArgs_plain
abbrev Zy:=@Option.bind_eq_some_iff
abbrev Zz:=@List.mem_append
abbrev Ua:=@List.mem_range
section
variable {A:Around} {B:Heap} {fa X:List Addr} {L:Addr} {fr:List Env} {g:Array GenState} {N:Nat} {E:Value→Shared→Prop} {env:Env} {x:Str} {fd:FuncData} {name:Str} {cd pm kwd:Value} {R:Result→Shared→Prop} {Q:Value→Shared→Prop} {pos:Pos} {e:Expr} {fl:Value} {o:Obj} {b:Addr} {β:Type} {it:Addr} {j:Nat} {M:Model} {α:Type} {args:Args} {binds:List (Str×Value)} {k:Nat} {a f:Addr} {body:List Stmt} {F:Fs} {n:Nat} {l:List (Str×Value)} {i:Nat} {xs:List Value} {v:Value} {s:Shared} {h' h:Heap} {t:Nat}
section
open PySem PySem.W
set_option autoImplicit true
structure Wr (Q:Prop):Prop where out:Q
noncomputable def pk {D:Type} (ne:Nonempty D) (R:D→Prop):D:=@Classical.epsilon D ne fun z=>¬ R z
theorem ez {D:Type} (ne:Nonempty D) (R:D→Prop) {c:D} (h:c=pk ne R) (m:R c) (z:D):R z:=Classical.byContradiction fun no=>(h ▸ @Classical.epsilon_spec D (fun z=>¬ R z) ⟨z,no⟩:¬ R c) m
theorem neW:Nonempty World:=⟨{ draws:=fun _ _=>0,params:={ strHash:=fun _=>0,shareClass:=fun _=>0,mergeTok:=fun t=>t,idOf:=fun _=>0,idOfShared:=fun _ _=>0,followText:=fun _=>true,idOfImm:=fun _=>0 } }⟩
theorem neA:Nonempty Around:=⟨⟨none,0,none,none,1⟩⟩
theorem neD:Nonempty Drawn:=⟨⟨0,0,0,0⟩⟩
theorem neS:Nonempty OsState:=⟨⟨#[],#[],0⟩⟩
theorem np (a:Nonempty α) (b:Nonempty β):Nonempty (α×β):=⟨⟨Classical.choice a,Classical.choice b⟩⟩
def tN (k:Lean.Name) (a:Array Lean.Syntax):Lean.Syntax:=.node .none k a
def tA (s:String):Lean.Syntax:=.atom .none s
def tQ (a:Array Lean.Syntax):Lean.Syntax:=tN `Lean.Parser.Tactic.tacticSeq #[tN `Lean.Parser.Tactic.tacticSeq1Indented #[tN `null a]]
def tL:Lean.Syntax:=tN `Lean.Parser.Tactic.tacticRfl #[tA "rfl"]
def tR:Lean.Syntax:=tQ #[tL]
def tD:Lean.Syntax:=tQ #[tN `Lean.Parser.Tactic.decide #[tA "decide",tN `Lean.Parser.Tactic.optConfig #[tN `null #[]]]]
def tI:Lean.Syntax:=tQ #[tN `Lean.Parser.Tactic.intros #[tA "intros",tN `null #[]],tA ";",tL]
def tU:Lean.Syntax:=tQ #[tN `Lean.Parser.Tactic.withUnfoldingAll #[tA "with_unfolding_all",tR]]
def tX (x:Lean.Name):Lean.Syntax:=.ident .none x.toString.toRawSubstring x []
def tE (x:Lean.Name) (a:Lean.Syntax):Lean.Syntax:=tN `group #[tA "|",tQ #[tN `Lean.Parser.Tactic.exact #[tA "exact",tN `Lean.Parser.Term.app #[tN `Lean.Parser.Term.dotIdent #[tA ".",tX x],tN `null #[a]]]]]
def tF:Lean.Syntax:=tQ #[tN `Lean.Parser.Tactic.first #[tA "first",tN `null #[tE `inl (tX `rfl),tE `inr (tN `Lean.Parser.Term.anonymousCtor #[tA "⟨",tN `null #[tX `rfl,tA ",",tN `Lean.Parser.Term.hole #[tA "_"],tA ",",tX `rfl],tA "⟩"])]]]
theorem nS {a:α} {P:Prop} (h:none=some a):P:=by cases h
theorem sb1 (h:n - i=k + 1):n - (i + 1)=k:=congrArg Nat.pred h
theorem sb2 (h:i < n):n - (i + 1) < n - i:=Nat.sub_lt_sub_left h (Nat.lt_succ_self i)
theorem sb3 (h:i < n):n - i=n - (i + 1) + 1:=(Nat.sub_add_cancel (Nat.sub_pos_of_lt h)).symm
theorem sb4 (h:n - i=0) (l:i≤n):i=n:=Nat.le_antisymm l (Nat.sub_eq_zero_iff_le.mp h)
theorem sb5 (h:i < N + N) (l:¬ i < N):i - N < N:=(Nat.sub_lt_iff_lt_add (Nat.le_of_not_lt l)).mpr h
theorem sb6 (l:¬ i < N):N + (i - N)=i:=Nat.add_sub_of_le (Nat.le_of_not_lt l)
theorem sb7 (l:¬ i < N) (m:¬ j < N) (h:i - N=j - N):i=j:=(sb6 l).symm.trans ((congrArg (N + ·) h).trans (sb6 m))
theorem nB {P:Prop} (h:false=true):P:=by cases h
inductive E2 (p:α→β→Prop):Prop | mk (a:α) (b:β) (h:p a b):E2 p
inductive E3 (p:α→β→γ→Prop):Prop | mk (a:α) (b:β) (c:γ) (h:p a b c):E3 p
inductive E4 (p:α→β→γ→δ→Prop):Prop | mk (a:α) (b:β) (c:γ) (d:δ) (h:p a b c d):E4 p
inductive E5 (p:α→β→γ→δ→ε→Prop):Prop | mk (a:α) (b:β) (c:γ) (d:δ) (e:ε) (h:p a b c d e):E5 p
inductive E6 (p:α→β→γ→δ→ε→ζ→Prop):Prop | mk (a:α) (b:β) (c:γ) (d:δ) (e:ε) (f:ζ) (h:p a b c d e f):E6 p
inductive E7 (p:α→β→γ→δ→ε→ζ→η→Prop):Prop | mk (a:α) (b:β) (c:γ) (d:δ) (e:ε) (f:ζ) (g:η) (h:p a b c d e f g):E7 p
inductive E8 (p:α→β→γ→δ→ε→ζ→η→θ→Prop):Prop | mk (a:α) (b:β) (c:γ) (d:δ) (e:ε) (f:ζ) (g:η) (h:θ) (h:p a b c d e f g h):E8 p
inductive E9 (p:α→β→γ→δ→ε→ζ→η→θ→ι→Prop):Prop | mk (a:α) (b:β) (c:γ) (d:δ) (e:ε) (f:ζ) (g:η) (h:θ) (i:ι) (h:p a b c d e f g h i):E9 p
inductive A3 (a b c:Prop):Prop | mk (_:a) (_:b) (_:c):A3 a b c
inductive A4 (a b c d:Prop):Prop | mk (_:a) (_:b) (_:c) (_:d):A4 a b c d
inductive A5 (a b c d e:Prop):Prop | mk (_:a) (_:b) (_:c) (_:d) (_:e):A5 a b c d e
inductive A6 (a b c d e f:Prop):Prop | mk (_:a) (_:b) (_:c) (_:d) (_:e) (_:f):A6 a b c d e f
inductive A7 (a b c d e f g:Prop):Prop | mk (_:a) (_:b) (_:c) (_:d) (_:e) (_:f) (_:g):A7 a b c d e f g
inductive A8 (a b c d e f g h:Prop):Prop | mk (_:a) (_:b) (_:c) (_:d) (_:e) (_:f) (_:g) (_:h):A8 a b c d e f g h
inductive A9 (a b c d e f g h i:Prop):Prop | mk (_:a) (_:b) (_:c) (_:d) (_:e) (_:f) (_:g) (_:h) (_:i):A9 a b c d e f g h i
inductive A10 (a b c d e f g h i j:Prop):Prop | mk (_:a) (_:b) (_:c) (_:d) (_:e) (_:f) (_:g) (_:h) (_:i) (_:j):A10 a b c d e f g h i j
inductive A11 (a b c d e f g h i j k:Prop):Prop | mk (_:a) (_:b) (_:c) (_:d) (_:e) (_:f) (_:g) (_:h) (_:i) (_:j) (_:k):A11 a b c d e f g h i j k
inductive A12 (a b c d e f g h i j k l:Prop):Prop | mk (_:a) (_:b) (_:c) (_:d) (_:e) (_:f) (_:g) (_:h) (_:i) (_:j) (_:k) (_:l):A12 a b c d e f g h i j k l
inductive A13 (a b c d e f g h i j k l m:Prop):Prop | mk (_:a) (_:b) (_:c) (_:d) (_:e) (_:f) (_:g) (_:h) (_:i) (_:j) (_:k) (_:l) (_:m):A13 a b c d e f g h i j k l m
inductive A14 (a b c d e f g h i j k l m n:Prop):Prop | mk (_:a) (_:b) (_:c) (_:d) (_:e) (_:f) (_:g) (_:h) (_:i) (_:j) (_:k) (_:l) (_:m) (_:n):A14 a b c d e f g h i j k l m n
inductive A15 (a b c d e f g h i j k l m n o:Prop):Prop | mk (_:a) (_:b) (_:c) (_:d) (_:e) (_:f) (_:g) (_:h) (_:i) (_:j) (_:k) (_:l) (_:m) (_:n) (_:o):A15 a b c d e f g h i j k l m n o
noncomputable def pick8 {α0 α1 α2 α3 α4 α5 α6 α7:Type} {P:α0→α1→α2→α3→α4→α5→α6→α7→Prop} {Q:Prop} (_:(∀ a0 a1 a2 a3 a4 a5 a6 a7,P a0 a1 a2 a3 a4 a5 a6 a7)→Q) (ne:Nonempty (((α0×α1×α2×α3×α4×α5×α6)×α7))):((α0×α1×α2×α3×α4×α5×α6)×α7):=pk ne fun z=>P (z.1.1) (z.1.2.1) (z.1.2.2.1) (z.1.2.2.2.1) (z.1.2.2.2.2.1) (z.1.2.2.2.2.2.1) (z.1.2.2.2.2.2.2) (z.2)
theorem all8 {α0 α1 α2 α3 α4 α5 α6 α7:Type} {P:α0→α1→α2→α3→α4→α5→α6→α7→Prop} {Q:Prop} (f:(∀ a0 a1 a2 a3 a4 a5 a6 a7,P a0 a1 a2 a3 a4 a5 a6 a7)→Q) {ne:Nonempty (((α0×α1×α2×α3×α4×α5×α6)×α7))} (a0:α0) (a1:α1) (a2:α2) (a3:α3) (a4:α4) (a5:α5) (a6:α6) (a7:α7) (h:((a0,a1,a2,a3,a4,a5,a6),a7)=pick8 f ne) (m:P a0 a1 a2 a3 a4 a5 a6 a7):Wr Q:=⟨f fun b0 b1 b2 b3 b4 b5 b6 b7=>ez ne (fun z=>P (z.1.1) (z.1.2.1) (z.1.2.2.1) (z.1.2.2.2.1) (z.1.2.2.2.2.1) (z.1.2.2.2.2.2.1) (z.1.2.2.2.2.2.2) (z.2)) h m ((b0,b1,b2,b3,b4,b5,b6),b7)⟩
noncomputable def pick34 {α0 α1 α2 α3 α4 α5 α6 α7 α8 α9 α10 α11 α12 α13 α14 α15 α16 α17 α18 α19 α20 α21 α22 α23 α24 α25 α26 α27 α28 α29 α30 α31 α32 α33:Type} {P:α0→α1→α2→α3→α4→α5→α6→α7→α8→α9→α10→α11→α12→α13→α14→α15→α16→α17→α18→α19→α20→α21→α22→α23→α24→α25→α26→α27→α28→α29→α30→α31→α32→α33→Prop} {Q:Prop} (_:(∀ a0 a1 a2 a3 a4 a5 a6 a7 a8 a9 a10 a11 a12 a13 a14 a15 a16 a17 a18 a19 a20 a21 a22 a23 a24 a25 a26 a27 a28 a29 a30 a31 a32 a33,P a0 a1 a2 a3 a4 a5 a6 a7 a8 a9 a10 a11 a12 a13 a14 a15 a16 a17 a18 a19 a20 a21 a22 a23 a24 a25 a26 a27 a28 a29 a30 a31 a32 a33)→Q) (ne:Nonempty (((α0×α1×α2×α3×α4×α5×α6)×(α7×α8×α9×α10×α11×α12×α13)×(α14×α15×α16×α17×α18×α19×α20)×(α21×α22×α23×α24×α25×α26×α27)×(α28×α29×α30×α31×α32×α33)))):((α0×α1×α2×α3×α4×α5×α6)×(α7×α8×α9×α10×α11×α12×α13)×(α14×α15×α16×α17×α18×α19×α20)×(α21×α22×α23×α24×α25×α26×α27)×(α28×α29×α30×α31×α32×α33)):=pk ne fun z=>P (z.1.1) (z.1.2.1) (z.1.2.2.1) (z.1.2.2.2.1) (z.1.2.2.2.2.1) (z.1.2.2.2.2.2.1) (z.1.2.2.2.2.2.2) (z.2.1.1) (z.2.1.2.1) (z.2.1.2.2.1) (z.2.1.2.2.2.1) (z.2.1.2.2.2.2.1) (z.2.1.2.2.2.2.2.1) (z.2.1.2.2.2.2.2.2) (z.2.2.1.1) (z.2.2.1.2.1) (z.2.2.1.2.2.1) (z.2.2.1.2.2.2.1) (z.2.2.1.2.2.2.2.1) (z.2.2.1.2.2.2.2.2.1) (z.2.2.1.2.2.2.2.2.2) (z.2.2.2.1.1) (z.2.2.2.1.2.1) (z.2.2.2.1.2.2.1) (z.2.2.2.1.2.2.2.1) (z.2.2.2.1.2.2.2.2.1) (z.2.2.2.1.2.2.2.2.2.1) (z.2.2.2.1.2.2.2.2.2.2) (z.2.2.2.2.1) (z.2.2.2.2.2.1) (z.2.2.2.2.2.2.1) (z.2.2.2.2.2.2.2.1) (z.2.2.2.2.2.2.2.2.1) (z.2.2.2.2.2.2.2.2.2)
theorem all34 {α0 α1 α2 α3 α4 α5 α6 α7 α8 α9 α10 α11 α12 α13 α14 α15 α16 α17 α18 α19 α20 α21 α22 α23 α24 α25 α26 α27 α28 α29 α30 α31 α32 α33:Type} {P:α0→α1→α2→α3→α4→α5→α6→α7→α8→α9→α10→α11→α12→α13→α14→α15→α16→α17→α18→α19→α20→α21→α22→α23→α24→α25→α26→α27→α28→α29→α30→α31→α32→α33→Prop} {Q:Prop} (f:(∀ a0 a1 a2 a3 a4 a5 a6 a7 a8 a9 a10 a11 a12 a13 a14 a15 a16 a17 a18 a19 a20 a21 a22 a23 a24 a25 a26 a27 a28 a29 a30 a31 a32 a33,P a0 a1 a2 a3 a4 a5 a6 a7 a8 a9 a10 a11 a12 a13 a14 a15 a16 a17 a18 a19 a20 a21 a22 a23 a24 a25 a26 a27 a28 a29 a30 a31 a32 a33)→Q) {ne:Nonempty (((α0×α1×α2×α3×α4×α5×α6)×(α7×α8×α9×α10×α11×α12×α13)×(α14×α15×α16×α17×α18×α19×α20)×(α21×α22×α23×α24×α25×α26×α27)×(α28×α29×α30×α31×α32×α33)))} (a0:α0) (a1:α1) (a2:α2) (a3:α3) (a4:α4) (a5:α5) (a6:α6) (a7:α7) (a8:α8) (a9:α9) (a10:α10) (a11:α11) (a12:α12) (a13:α13) (a14:α14) (a15:α15) (a16:α16) (a17:α17) (a18:α18) (a19:α19) (a20:α20) (a21:α21) (a22:α22) (a23:α23) (a24:α24) (a25:α25) (a26:α26) (a27:α27) (a28:α28) (a29:α29) (a30:α30) (a31:α31) (a32:α32) (a33:α33) (h:((a0,a1,a2,a3,a4,a5,a6),(a7,a8,a9,a10,a11,a12,a13),(a14,a15,a16,a17,a18,a19,a20),(a21,a22,a23,a24,a25,a26,a27),(a28,a29,a30,a31,a32,a33))=pick34 f ne) (m:P a0 a1 a2 a3 a4 a5 a6 a7 a8 a9 a10 a11 a12 a13 a14 a15 a16 a17 a18 a19 a20 a21 a22 a23 a24 a25 a26 a27 a28 a29 a30 a31 a32 a33):Wr Q:=⟨f fun b0 b1 b2 b3 b4 b5 b6 b7 b8 b9 b10 b11 b12 b13 b14 b15 b16 b17 b18 b19 b20 b21 b22 b23 b24 b25 b26 b27 b28 b29 b30 b31 b32 b33=>ez ne (fun z=>P (z.1.1) (z.1.2.1) (z.1.2.2.1) (z.1.2.2.2.1) (z.1.2.2.2.2.1) (z.1.2.2.2.2.2.1) (z.1.2.2.2.2.2.2) (z.2.1.1) (z.2.1.2.1) (z.2.1.2.2.1) (z.2.1.2.2.2.1) (z.2.1.2.2.2.2.1) (z.2.1.2.2.2.2.2.1) (z.2.1.2.2.2.2.2.2) (z.2.2.1.1) (z.2.2.1.2.1) (z.2.2.1.2.2.1) (z.2.2.1.2.2.2.1) (z.2.2.1.2.2.2.2.1) (z.2.2.1.2.2.2.2.2.1) (z.2.2.1.2.2.2.2.2.2) (z.2.2.2.1.1) (z.2.2.2.1.2.1) (z.2.2.2.1.2.2.1) (z.2.2.2.1.2.2.2.1) (z.2.2.2.1.2.2.2.2.1) (z.2.2.2.1.2.2.2.2.2.1) (z.2.2.2.1.2.2.2.2.2.2) (z.2.2.2.2.1) (z.2.2.2.2.2.1) (z.2.2.2.2.2.2.1) (z.2.2.2.2.2.2.2.1) (z.2.2.2.2.2.2.2.2.1) (z.2.2.2.2.2.2.2.2.2)) h m ((b0,b1,b2,b3,b4,b5,b6),(b7,b8,b9,b10,b11,b12,b13),(b14,b15,b16,b17,b18,b19,b20),(b21,b22,b23,b24,b25,b26,b27),(b28,b29,b30,b31,b32,b33))⟩
noncomputable def pick39 {α0 α1 α2 α3 α4 α5 α6 α7 α8 α9 α10 α11 α12 α13 α14 α15 α16 α17 α18 α19 α20 α21 α22 α23 α24 α25 α26 α27 α28 α29 α30 α31 α32 α33 α34 α35 α36 α37 α38:Type} {P:α0→α1→α2→α3→α4→α5→α6→α7→α8→α9→α10→α11→α12→α13→α14→α15→α16→α17→α18→α19→α20→α21→α22→α23→α24→α25→α26→α27→α28→α29→α30→α31→α32→α33→α34→α35→α36→α37→α38→Prop} {Q:Prop} (_:(∀ a0 a1 a2 a3 a4 a5 a6 a7 a8 a9 a10 a11 a12 a13 a14 a15 a16 a17 a18 a19 a20 a21 a22 a23 a24 a25 a26 a27 a28 a29 a30 a31 a32 a33 a34 a35 a36 a37 a38,P a0 a1 a2 a3 a4 a5 a6 a7 a8 a9 a10 a11 a12 a13 a14 a15 a16 a17 a18 a19 a20 a21 a22 a23 a24 a25 a26 a27 a28 a29 a30 a31 a32 a33 a34 a35 a36 a37 a38)→Q) (ne:Nonempty (((α0×α1×α2×α3×α4×α5×α6)×(α7×α8×α9×α10×α11×α12×α13)×(α14×α15×α16×α17×α18×α19×α20)×(α21×α22×α23×α24×α25×α26×α27)×(α28×α29×α30×α31×α32×α33×α34)×(α35×α36×α37×α38)))):((α0×α1×α2×α3×α4×α5×α6)×(α7×α8×α9×α10×α11×α12×α13)×(α14×α15×α16×α17×α18×α19×α20)×(α21×α22×α23×α24×α25×α26×α27)×(α28×α29×α30×α31×α32×α33×α34)×(α35×α36×α37×α38)):=pk ne fun z=>P (z.1.1) (z.1.2.1) (z.1.2.2.1) (z.1.2.2.2.1) (z.1.2.2.2.2.1) (z.1.2.2.2.2.2.1) (z.1.2.2.2.2.2.2) (z.2.1.1) (z.2.1.2.1) (z.2.1.2.2.1) (z.2.1.2.2.2.1) (z.2.1.2.2.2.2.1) (z.2.1.2.2.2.2.2.1) (z.2.1.2.2.2.2.2.2) (z.2.2.1.1) (z.2.2.1.2.1) (z.2.2.1.2.2.1) (z.2.2.1.2.2.2.1) (z.2.2.1.2.2.2.2.1) (z.2.2.1.2.2.2.2.2.1) (z.2.2.1.2.2.2.2.2.2) (z.2.2.2.1.1) (z.2.2.2.1.2.1) (z.2.2.2.1.2.2.1) (z.2.2.2.1.2.2.2.1) (z.2.2.2.1.2.2.2.2.1) (z.2.2.2.1.2.2.2.2.2.1) (z.2.2.2.1.2.2.2.2.2.2) (z.2.2.2.2.1.1) (z.2.2.2.2.1.2.1) (z.2.2.2.2.1.2.2.1) (z.2.2.2.2.1.2.2.2.1) (z.2.2.2.2.1.2.2.2.2.1) (z.2.2.2.2.1.2.2.2.2.2.1) (z.2.2.2.2.1.2.2.2.2.2.2) (z.2.2.2.2.2.1) (z.2.2.2.2.2.2.1) (z.2.2.2.2.2.2.2.1) (z.2.2.2.2.2.2.2.2)
theorem all39 {α0 α1 α2 α3 α4 α5 α6 α7 α8 α9 α10 α11 α12 α13 α14 α15 α16 α17 α18 α19 α20 α21 α22 α23 α24 α25 α26 α27 α28 α29 α30 α31 α32 α33 α34 α35 α36 α37 α38:Type} {P:α0→α1→α2→α3→α4→α5→α6→α7→α8→α9→α10→α11→α12→α13→α14→α15→α16→α17→α18→α19→α20→α21→α22→α23→α24→α25→α26→α27→α28→α29→α30→α31→α32→α33→α34→α35→α36→α37→α38→Prop} {Q:Prop} (f:(∀ a0 a1 a2 a3 a4 a5 a6 a7 a8 a9 a10 a11 a12 a13 a14 a15 a16 a17 a18 a19 a20 a21 a22 a23 a24 a25 a26 a27 a28 a29 a30 a31 a32 a33 a34 a35 a36 a37 a38,P a0 a1 a2 a3 a4 a5 a6 a7 a8 a9 a10 a11 a12 a13 a14 a15 a16 a17 a18 a19 a20 a21 a22 a23 a24 a25 a26 a27 a28 a29 a30 a31 a32 a33 a34 a35 a36 a37 a38)→Q) {ne:Nonempty (((α0×α1×α2×α3×α4×α5×α6)×(α7×α8×α9×α10×α11×α12×α13)×(α14×α15×α16×α17×α18×α19×α20)×(α21×α22×α23×α24×α25×α26×α27)×(α28×α29×α30×α31×α32×α33×α34)×(α35×α36×α37×α38)))} (a0:α0) (a1:α1) (a2:α2) (a3:α3) (a4:α4) (a5:α5) (a6:α6) (a7:α7) (a8:α8) (a9:α9) (a10:α10) (a11:α11) (a12:α12) (a13:α13) (a14:α14) (a15:α15) (a16:α16) (a17:α17) (a18:α18) (a19:α19) (a20:α20) (a21:α21) (a22:α22) (a23:α23) (a24:α24) (a25:α25) (a26:α26) (a27:α27) (a28:α28) (a29:α29) (a30:α30) (a31:α31) (a32:α32) (a33:α33) (a34:α34) (a35:α35) (a36:α36) (a37:α37) (a38:α38) (h:((a0,a1,a2,a3,a4,a5,a6),(a7,a8,a9,a10,a11,a12,a13),(a14,a15,a16,a17,a18,a19,a20),(a21,a22,a23,a24,a25,a26,a27),(a28,a29,a30,a31,a32,a33,a34),(a35,a36,a37,a38))=pick39 f ne) (m:P a0 a1 a2 a3 a4 a5 a6 a7 a8 a9 a10 a11 a12 a13 a14 a15 a16 a17 a18 a19 a20 a21 a22 a23 a24 a25 a26 a27 a28 a29 a30 a31 a32 a33 a34 a35 a36 a37 a38):Wr Q:=⟨f fun b0 b1 b2 b3 b4 b5 b6 b7 b8 b9 b10 b11 b12 b13 b14 b15 b16 b17 b18 b19 b20 b21 b22 b23 b24 b25 b26 b27 b28 b29 b30 b31 b32 b33 b34 b35 b36 b37 b38=>ez ne (fun z=>P (z.1.1) (z.1.2.1) (z.1.2.2.1) (z.1.2.2.2.1) (z.1.2.2.2.2.1) (z.1.2.2.2.2.2.1) (z.1.2.2.2.2.2.2) (z.2.1.1) (z.2.1.2.1) (z.2.1.2.2.1) (z.2.1.2.2.2.1) (z.2.1.2.2.2.2.1) (z.2.1.2.2.2.2.2.1) (z.2.1.2.2.2.2.2.2) (z.2.2.1.1) (z.2.2.1.2.1) (z.2.2.1.2.2.1) (z.2.2.1.2.2.2.1) (z.2.2.1.2.2.2.2.1) (z.2.2.1.2.2.2.2.2.1) (z.2.2.1.2.2.2.2.2.2) (z.2.2.2.1.1) (z.2.2.2.1.2.1) (z.2.2.2.1.2.2.1) (z.2.2.2.1.2.2.2.1) (z.2.2.2.1.2.2.2.2.1) (z.2.2.2.1.2.2.2.2.2.1) (z.2.2.2.1.2.2.2.2.2.2) (z.2.2.2.2.1.1) (z.2.2.2.2.1.2.1) (z.2.2.2.2.1.2.2.1) (z.2.2.2.2.1.2.2.2.1) (z.2.2.2.2.1.2.2.2.2.1) (z.2.2.2.2.1.2.2.2.2.2.1) (z.2.2.2.2.1.2.2.2.2.2.2) (z.2.2.2.2.2.1) (z.2.2.2.2.2.2.1) (z.2.2.2.2.2.2.2.1) (z.2.2.2.2.2.2.2.2)) h m ((b0,b1,b2,b3,b4,b5,b6),(b7,b8,b9,b10,b11,b12,b13),(b14,b15,b16,b17,b18,b19,b20),(b21,b22,b23,b24,b25,b26,b27),(b28,b29,b30,b31,b32,b33,b34),(b35,b36,b37,b38))⟩
end
section
open PySem PySem.W PySem.Calls PyProof.Rows
set_option maxHeartbeats 0
noncomputable abbrev P:Program:=PySem.Challenge.pw_il0195_01
noncomputable abbrev NTop:Nat:=13000
noncomputable def ofL:List Obj→Nat→BT→Option BT
 | [],_,T=>some T
 | o::l,n,T=>match ((T.ins n o).get n).isSome with
  | true=>ofL l (n + 1) (T.ins n o)
  | false=>none
theorem ofL_abs (life:Life):∀ (l:List Obj) (n:Nat) (T T':BT),ofL l n T=some T'→absHeap T' (n + l.length) life=⟨(absHeap T n life).objs++l.toArray,life⟩
 | [],n,T,T',h=>by
  have:T=T':=Zj h
  subst this
  show absHeap T n life=_
  show Heap.mk _ _=Heap.mk _ _
  congr 1
  first | done | simp
 | o::l,n,T,T',h=>by
  unfold ofL at h
  cases q:((T.ins n o).get n).isSome with
  | false=>rw [q] at h; cases h
  | true =>
   rw [q] at h
   have z:=ofL_abs life l (n + 1) _ _ h
   rw [absHeap_ins q] at z
   have e:n + (o::l).length=n + 1 + l.length:=by simp only [List.length_cons]; lia
   rw [e,z]
   show Heap.mk ((absHeap T n life).objs.push o++l.toArray) life=_
   congr 1
   simp
noncomputable def toT (s:Shared):Option SharedT:=(ofL s.heap.objs.toList 0 .nil).map fun T=>⟨T,s.heap.objs.size,s.heap.life,s.gens,s.drawn,s.toks,s.os⟩
theorem toT_abs {t:SharedT} (h:toT s=some t):t.abs=s:=by
 unfold toT at h
 obtain ⟨T,h1,rfl⟩:=Zt.mp h
 have z:=ofL_abs s.heap.life _ _ _ _ h1
 obtain ⟨⟨objs,life⟩,g,d,t,os⟩:=s
 show Shared.mk (absHeap T objs.size life) g d t os=_
 have e:0 + objs.toList.length=objs.size:=by simp
 rw [e] at z
 rw [z]
 have:(absHeap BT.nil 0 life).objs=#[]:=rfl
 rw [this]
 simp
theorem thr (t:Thread):(endAt 0 t).isSome=through t:=by
 obtain ⟨cur,code,pos,stack⟩:=t
 cases stack with
 | cons=>rfl
 | nil=>cases cur with
  | pure a=>cases a<;>rfl
  | _=>rfl
theorem end_through {t:Thread} {f:Flow} (h:endAt 0 t=some f):through t=true:=by rw [← thr,h]; rfl
theorem end_none {t:Thread} (h:endAt 0 t=none):through t=false:=by rw [← thr,h]; rfl
theorem seg_top {tb:String→Option Builtin} {p:Program} {w:World} {n0:Nat} {ann:Option Value}:∀ {s s':Shared} {t:Thread} {f:Flow} {c:Code} {q:Pos},
  segRun tb p w n0 ann 0 n s t=some (f,s',c,q)→topRun tb p w n0 ann n s t=some s':=by
 induction n with
 | zero=>intro _ _ _ _ _ _ h; cases h
 | succ n ih =>
  intro s s' t f c q h
  unfold segRun at h
  unfold topRun
  cases he:endAt 0 t with
  | some f' =>
   rw [he] at h
   rw [end_through he]
   cases h
   rfl
  | none =>
   rw [he] at h
   rw [end_none he]
   cases hk:stepOk n0 ann t with
   | false=>rw [hk] at h; cases h
   | true =>
    rw [hk] at h
    dsimp only at h ⊢
    cases hs:step (denote tb) p w s t with
    | halt o s=>rw [hs] at h; cases h
    | go s2 t2=>rw [hs] at h; exact ih h
noncomputable def headRun (w:World):Option (Shared×Flow×SharedT×Code×Pos) :=
 (fencedOpening treeTable P w NTop).bind fun s0=>(toT s0).bind fun t0 =>
  (segRunT treeTable P w s0.heap.objs.size (s0.heap.nsMap mainGlobals "__annotations__") 0 NTop t0 (topStub P)).map fun r=>(s0,r)
noncomputable def chk (x:Shared×Flow×SharedT×Code×Pos):Bool:=(x.1.heap.isNs mainGlobals && x.1.gens.size == 0) &&
 (staticsOk (importedModules P.main.body) x.1.heap x.2.2.1.abs.heap && namesBound P x.2.2.1.abs.heap && gensDone x.2.2.1.abs && laidKept x.1.heap x.2.2.1.abs.heap)
@[irreducible] noncomputable def endS (w:World):Shared:=((headRun w).map fun x=>x.2.2.1.abs).getD {}
theorem openEnds_of {w:World} {x:Shared×Flow×SharedT×Code×Pos} (h:headRun w=some x) (c:chk x=true):openEnds treeTable P w NTop=some x.2.2.1.abs:=by
 unfold headRun at h
 obtain ⟨s0,h1,h⟩:=Zy.mp h
 obtain ⟨t0,h2,h⟩:=Zy.mp h
 obtain ⟨⟨f,s',cd,q⟩,h3,rfl⟩:=Zt.mp h
 have h4:=seg_top (segRun_of h3)
 rw [toT_abs h2] at h4
 obtain ⟨c1,c2⟩:=Bool.and_eq_true_iff.mp c
 unfold openEnds
 rw [h1]
 show topFrom treeTable P w NTop s0=_
 unfold topFrom
 rw [c1]
 dsimp only
 rw [h4]
 show (match staticsOk (importedModules P.main.body) s0.heap s'.abs.heap && namesBound P s'.abs.heap && gensDone s'.abs && laidKept s0.heap s'.abs.heap with
   | true=>some s'.abs
   | false=>none)=_
 rw [c2]
noncomputable def q:Program:={ P with main:={ P.main with body:=P.main.body.drop 51 } }
noncomputable def loose:List Str:=P.boundNames.filter fun n=>n != ("law" : Str)
noncomputable def out (w:World):=(headRun w).map fun x=>(chk x,openSeen q loose (importedModules P.main.body) (fun _=>true) true x.2.2.1.abs)
theorem headK (w:World):out w=some (true,openGood q loose):=by
 unfold out headRun fencedOpening
 rw [PySem.W.Fast.te10110043849684766642,PySem.W.Fast.te14364793385576792824,PySem.W.Fast.te10274390034422433532,PySem.W.Fast.te14289696077712309145,PySem.W.Fast.te4187177175401517315]
 kernel_rfl
theorem left:LeftO P q loose (fun _=>true) (fun s=>s) endS NTop:=fun w=>by
 have h:=headK w
 unfold out at h
 obtain ⟨x,h1,h2⟩:=Zt.mp h
 have c:chk x=true:=congrArg Prod.fst h2
 have o:=congrArg Prod.snd h2
 rw [openEnds_of h1 c]
 show some (openSeen q loose (importedModules P.main.body) (fun _=>true) true x.2.2.1.abs,x.2.2.1.abs)=some (openGood q loose,endS w)
 have e:endS w=x.2.2.1.abs:=by unfold endS; rw [h1]; rfl
 rw [e]
 exact congrArg (fun z=>some (z,x.2.2.1.abs)) o
end
section
open PySem PySem.W PySem.W.X PySem.Calls PyProof.Rows
noncomputable def LawCall:Prop:=∀ (w:World) (s1:Shared) (fa b:Addr) (vs:List Value) (ns:List Int) (mg:Str→Option Value),
 (∀ a o,(endS w).heap.get? a=some o→s1.heap.get? a=some o)→s1.heap.objs.size=(endS w).heap.objs.size + 1→b=(endS w).heap.objs.size →
 s1.heap.get? b=some { cls:=.type "list",data:=.seq vs.toArray }→s1.heap.Ns mainGlobals mg→mg "law" = some (.ref fa) →
 IntsAre vs ns→ns.length≤63→(PyData.list (ns.map PyData.int)).layable0=true→s1.gens=#[] →
 wpAny (model P w) callerA (call (.ref fa) [.ref b]) (fun v s'=>v=.bool true∧OldK s1.heap s'.heap∧s'.os=s1.os∧AllBare s'.gens) (fun _ _=>False) s1
theorem holds_of (said:PySem.Challenge.rw_il0195_01.wellSaid=true) (H:LawCall):PySem.Challenge.rw_il0195_01.Holds:=by
 refine holds_law said fun k1=>?_
 refine holds_openX (q:=q) (loose:=loose) (Xt:=fun _=>true) (XP:=fun _ _=>True) (Yf:=fun s=>s) (Ya:=endS) (N:=NTop) left (fun _ _=>trivial) (fun _ _ _ _ _=>trivial) (by rfl) (by rfl) (by rfl) (fun s _=>recFacts_of (R:=[]) (s:=s) rfl) (by rfl) k1 (by decide +kernel) ⟨rfl,rfl,rfl,rfl,rfl,by decide +kernel⟩ ?hw ?hc
 case hw=>w_witness2
 case hc =>
  intro w s0 s1 mg mb G y fa o pm cd doc dV kV ho hd hcd hD hmg hg args vals as L hpre hlay hrd hwl hlo
  have hns:=G.T.g
  have y':s0=endS w:=y
  clear G hD hcd hd
  wrow_args hpre hlay hrd hwl hlo
  rename_i ns _ _ hl0 _ _ _ _ b vs _ hL _ _ _ hI _ hlen _
  obtain ⟨hat,hsz⟩:=script_at L
  have hob:=script_obj L hL
  have keeps:=Laid.keeps L
  subst y'
  have e2:ns.length≤63:=by lia
  have e3:mg "law" = some (.ref fa):=hmg
  have K:=H w s1 fa b vs ns mg keeps hsz hat hob hns e3 hI e2 hl0 hg
  show wpAny (model P w) callerA (call (.ref fa) [.ref b]) _ _ s1
  refine Ze K (fun v s' g=>?_) (fun _ _ g=>g.elim)
  ·obtain ⟨rfl,g1,g2,g3⟩:=g
   refine ⟨.inl ⟨_,_,[],rfl,fun _=>rfl,ReadsW.bool true,?_,fun _=>⟨List.nodup_nil,fun _ hm=>(nomatch hm)⟩⟩,g1,g2,g3⟩
   first | rfl | wrow_post
noncomputable def free (o:Obj):Obj:={ o with data:=.freed }
noncomputable def wipe (h:Heap):List Addr→Heap
 | []=>h
 | a::fa=>(wipe h fa).update a free
noncomputable def LawR (z:World×Shared):Prop:=∀ (fa b:Addr) (vs:List Value) (ns:List Int) (mg:Str→Option Value),
 (∀ a o,(endS z.1).heap.get? a=some o→z.2.heap.get? a=some o)→z.2.heap.objs.size=(endS z.1).heap.objs.size + 1→b=(endS z.1).heap.objs.size →
 z.2.heap.get? b=some { cls:=.type "list",data:=.seq vs.toArray }→z.2.heap.Ns mainGlobals mg→mg "law" = some (.ref fa) →
 IntsAre vs ns→ns.length≤63→(PyData.list (ns.map PyData.int)).layable0=true→z.2.gens=#[] →
 wpAny (model P z.1) callerA (call (.ref fa) [.ref b]) (fun v s'=>v=.bool true∧OldK z.2.heap s'.heap∧s'.os=z.2.os∧AllBare s'.gens) (fun _ _=>False) z.2
theorem neZ:Nonempty (World×Shared):=⟨Classical.choice neW,⟨#[],default⟩,#[],Classical.choice neD,0,Classical.choice neS⟩
@[irreducible] noncomputable def zW:World×Shared:=pk neZ LawR
@[irreducible] noncomputable def w:World:=zW.1
@[irreducible] noncomputable def d:Drawn:=zW.2.drawn
@[irreducible] noncomputable def os:OsState:=zW.2.os
noncomputable abbrev sh (g:Array GenState) (t:Nat) (h:Heap):Shared:=⟨h,g,d,t,os⟩
@[irreducible] noncomputable def H0:Heap:=@Classical.epsilon _ ⟨wipe (endS w).heap [888]⟩ fun h=>h=wipe (endS w).heap [888]
theorem H0_eq:H0=wipe (endS w).heap [888]:=by with_unfolding_all exact @Classical.epsilon_spec _ (fun h=>h=wipe (endS w).heap [888]) ⟨_,rfl⟩
@[irreducible] noncomputable def mg:Str→Option Value:=Classical.epsilon fun m=>H0.Ns mainGlobals m
@[irreducible] noncomputable def mb:Str→Option Value:=Classical.epsilon fun m=>H0.Ns builtinsNs m
theorem zW_law (H:∀ s:Shared,s.drawn=d→s.os=os→LawR (w,s)):LawCall:=fun w' s=>ez neZ LawR (c:=zW) (by with_unfolding_all rfl) (by with_unfolding_all exact H zW.2 rfl rfl) (w',s)
theorem mg_eq {f:Str→Option Value} (h:H0.Ns mainGlobals f):f=mg:=by with_unfolding_all exact funext (Heap.Ns.agree h (@Classical.epsilon_spec _ (fun m=>H0.Ns mainGlobals m) ⟨f,h⟩))
theorem mb_eq {f:Str→Option Value} (h:H0.Ns builtinsNs f):f=mb:=by with_unfolding_all exact funext (Heap.Ns.agree h (@Classical.epsilon_spec _ (fun m=>H0.Ns builtinsNs m) ⟨f,h⟩))
end
section
open PySem PySem.W PySem.Calls PyProof.Rows
set_option maxHeartbeats 0
theorem sRow:PySem.W.Fast.tw17960256430627541270 (PySem.W.Fast.tw2368527892694137696 PySem.Challenge.rw_il0195_01)=true:=by kernel_rfl
theorem said:PySem.Challenge.rw_il0195_01.wellSaid=true:=by
 rw [PySem.W.Fast.te9446332074065402090]
 delta PySem.W.Fast.tw9446332074065402090
 rw [sRow]
 kernel_rfl
end
theorem en_un:entryFor table "proto.unchain" = some Builtin.«proto.unchain» := entryFor_of_tree (by kernel_rfl)
theorem pl_un:plainId "proto.unchain" = true:=by decide +kernel
noncomputable def Hn (A:Around) (h:Heap):Prop:=A.handled=none∨E3 fun x o vs=>A.handled=some (.ref x)∧h.get? x=some o∧o.data=.fields vs∧vs[2]? = some .none
theorem raiseNew_h {Q:α→Shared→Prop} {x e:Addr} {oe:Obj} {vs ve:Array Value} (hh:A.handled=some (.ref x)) (hx:s.heap.get? x=some o) (hd:o.data=.fields vs) (h2:vs[2]? = some .none)
  (he:s.heap.get? e=some oe) (hde:oe.data=.fields ve) (k:E (.ref e) { s with heap:=s.heap.update e (Obj.mapFields (·.setIfInBounds 2 (.ref x))) }) (hz:2 < ve.size) (hne:e≠x):wpAny (model P w) A (raiseNew (.ref e):Sem α) Q E s:=by
 unfold raiseNew
 refine Yd (wpAny_handled ?_)
 rw [hh]
 dsimp only
 rw [if_pos (show (Value.ref x != Value.ref e)=true from by simpa using fun q=>hne q.symm)]
 refine Yd (wpAny_holding (wpAny_runValue ?_))
 refine codeAny_builtin en_un ?_
 rw [Around.under_plainId pl_un]
 unfold Builtin.«proto.unchain»
 refine Yd (wpAny_field hx hd h2 ?_)
 rw [if_pos (by rfl)]
 refine Yd (Yn (Yn ?_))
 unfold updateField
 refine Yd (Yd (wpAny_load he ?_))
 rw [hde]
 dsimp only
 rw [if_pos hz]
 exact wpAny_update he (wpAny_throw k)
theorem list_end_h {l:Addr} {items} {Q:Option Value→Shared→Prop} (hn:Hn A s.heap)
  (hit:s.heap.IsListIter it l i) (hl:s.heap.IsList l items) (hx:items[i]? = none)
  (hQ:∀ h',Heap.ExtBut it s.heap h'→Q none { s with heap:=h' }):wpAny (model P w) A (pyNext (.ref it)) Q E s:=by
 rcases hn with hh | ⟨x,ox,vs,hh,hox,hvs,h2⟩
 ·exact wpAny_pyNext_list_end hh hit hl hx hQ
 obtain ⟨o,ho,hc,hd⟩:=id hit
 obtain ⟨ol,hol,_,nl,hdl⟩:=hl
 unfold pyNext
 refine Yd (wpAny_attempt (wpAny_callSpecial?_slot (name:=Str.ofString "__next__") hit.typeIs slot_listiter_next
  (wpAny_call_entry slot_listiter_next hit.typeIs entry_listiter_next ?_ (args_listiter_next _))))
 have hix:it≠x:=fun q=>by
  rw [q,hox] at ho; injection ho with ho; subst ho
  rw [hvs] at hd; injection hd with hd; subst hd
  simp at h2
 show wpAny _ _ (field (.ref it) 0 >>= _) _ _ s
 refine Yd (wpAny_field ho hd (x:=.ref l) rfl ?_)
 show wpAny _ _ (if (Value.ref l == Value.none)=true then _ else _) _ _ s
 rw [if_neg (show ¬ ((Value.ref l == Value.none)=true) from Yk)]
 show wpAny _ _ (field (.ref it) 1 >>= _) _ _ s
 refine Yd (wpAny_field ho hd (x:=.int i 0) rfl ?_)
 show wpAny _ _ (seqItems? (.ref l) >>= _) _ _ s
 refine Yd (wpAny_seqItems hol hdl ?_)
 simp only [Int.toNat_natCast,hx]
 refine Yd (wpAny_rule (Yd (wpAny_setField ho hd (by simp) ?_)))
 have hox1:=(Zm s.heap (Obj.mapFields (·.setIfInBounds 0 Value.none)) hix).trans hox
 show wpAny _ _ (newExc (.type "StopIteration") [] >>= _) _ _ _
 refine Yd ?_
 simp only [newExc,newTuple]
 refine Yd (wpAny_newObj_type ?_ (by size_fits))
 refine Yd (m:=firstArgMember _ _) (wpAny_of_eq (a:=Value.none) (by first | rfl | (simp only [firstArgMember]; rfl)) ?_)
 refine wpAny_newObj_type ?_ (by size_fits)
 have ext:∀ b o',b≠it→s.heap.get? b=some o'→(s.heap.update it (Obj.mapFields (·.setIfInBounds 0 Value.none))).get? b=some o':=fun b o' hb q=>(Zm _ _ (Ne.symm hb)).trans q
 refine raiseNew_h (A:=A.in1) hh (Yv _ (Yv _ hox1)) hvs h2 (Heap.get?_push_size _ rfl) rfl ?_ (by simp [Array.size_append]; exact Nat.le_add_left _ _) (Nat.ne_of_gt (Heap.lt_size (Yv _ hox1)))
 refine Yd (wpAny_isInstance (T := "StopIteration") (b:=true) ⟨_,Heap.get?_update_self _ (Heap.get?_push_size _ rfl) rfl,rfl⟩ isSubtype_stop ?_)
 refine Yn (hQ _ fun b o' hb q=>?_)
 have q1:=ext b o' hb q
 refine (Zm _ _ (Ne.symm (Nat.ne_of_lt (Heap.lt_size (Yv _ q1))))).trans ?_
 exact Yv _ (Yv _ q1)
noncomputable def wm {α:Type} (M:Model) (Q:α→Shared→Prop) (c:Sem α):List Obj→Shared→Prop:=by
 induction c
 case pure a=>exact fun _ s=>Q a s
 case rule k ih=>exact ih ()
 case point k ih=>exact ih ()
 case ask k ih=>exact ih ⟨M.prog,M.w.params⟩
 case load a _ k ih=>exact fun L s=>@List.casesOn Obj (fun _=>Prop) L False fun o L=>s.heap.get? a=some o∧ih o L s
 case update a _ f k ih=>exact fun L s=>@List.casesOn Obj (fun _=>Prop) L False fun o L=>s.heap.get? a=some o∧ih () L { s with heap:=s.heap.update a f }
 case alloc o k ih=>exact fun L s=>ih s.heap.objs.size L { s with heap:=s.heap.push o }
 case fresh k ih=>exact fun L s=>ih s.toks L { s with toks:=s.toks + 1 }
 all_goals exact fun _ _=>False
theorem wm_ok {Q:α→Shared→Prop} {c:Sem α}:∀ {L:List Obj} {s:Shared},wm M Q c L s→wpAny M A c Q E s:=by
 induction c with
 | pure a=>exact fun x=>nd_pure x
 | rule t k ih=>exact fun x=>nd_rule (ih _ x)
 | point l k ih=>exact fun x=>nd_point (ih _ x)
 | ask k ih=>exact fun x=>nd_ask (ih _ x)
 | load a p k ih =>
  intro L s
  cases L with
  | nil=>exact fun x=>x.elim
  | cons o L=>exact fun x=>nd_load x.1 (ih _ x.2)
 | update a p f k ih =>
  intro L s
  cases L with
  | nil=>exact fun x=>x.elim
  | cons o L=>exact fun x=>nd_bind (m:=.update a p f .pure) (wpAny_updatePart x.1 (ih _ x.2))
 | alloc o k ih=>exact fun x=>nd_alloc (ih _ x)
 | fresh k ih=>exact fun x=>nd_fresh (ih _ x)
 | _=>exact fun x=>x.elim
noncomputable def asks (q:Prop):List (Heap×Addr×Obj)→Prop
 | []=>q
 | x::L=>x.1.get? x.2.1=some x.2.2∧asks q L
theorem asks_of {q:Prop} (hq:q):∀ {L:List (Heap×Addr×Obj)},(∀ x∈L,x.1.get? x.2.1=some x.2.2)→asks q L
 | [],_=>hq
 | _::_,H=>⟨H _ Yc,asks_of hq fun x hx=>H x (Yb _ hx)⟩
noncomputable def Tab (T:List (Heap×Addr×Obj)):Prop:=∀ x∈T,x.1.get? x.2.1=some x.2.2
theorem asN:Tab []:=fun _ h=>absurd h List.not_mem_nil
theorem asT {T} (e:h.get? a=some o) (H:Tab T):Tab ((h,a,o)::T):=List.forall_mem_cons.mpr ⟨e,H⟩
theorem wm_tab {Q:α→Shared→Prop} {c:Sem α} (T:List (Heap×Addr×Obj)) (ix:List Nat) {r:α} {s':Shared} (H:Tab T) (hq:Q r s')
  (e:wm M Q c ((ix.filterMap (T[·]?)).map (·.2.2)) s=asks (Q r s') (ix.filterMap (T[·]?))):wpAny M A c Q E s :=
 wm_ok (e.mpr (asks_of hq fun x hx=>by
  obtain ⟨k,_,hk⟩:=List.mem_filterMap.mp hx
  exact H x (Yr hk)))
theorem wl1 {Q:α→Shared→Prop} {c:Sem α} {r:α} (ho:s.heap.get? a=some o) (hq:Q r s) (e:wm M Q c [o] s=(s.heap.get? a=some o∧Q r s)):wpAny M A c Q E s:=wm_ok (e.mpr ⟨ho,hq⟩)
theorem slots5 {s:Array (Option Value)} (h:(s[4]?).join=some v):∃ a b c d r,s=⟨a::b::c::d::some v::r⟩:=by
 obtain ⟨l⟩:=s
 cases l with
 | nil=>cases h
 | cons a l=>cases l with
  | nil=>cases h
  | cons b l=>cases l with
   | nil=>cases h
   | cons c l=>cases l with
    | nil=>cases h
    | cons d l=>cases l with
     | nil=>cases h
     | cons e l =>
      have h:e=some v:=h
      exact ⟨a,b,c,d,l,by rw [h]⟩
noncomputable def clsX (d:Option Addr) (c:ClassData) (s:Array (Option Value)) (b m:List Value) (n:List Str) (v:Value) (ab de:Bool):Obj :=
 ⟨.type "type",d,.cls ⟨c.name,b,m,c.ns,c.qualname,c.hasDict,n,c.subclasses,ab,c.collection,de⟩,⟨s.toList[0]!::s.toList[1]!::s.toList[2]!::s.toList[3]!::some v::s.toList.drop 5⟩⟩
theorem clsAt {d c s m b n v ab de} (e:h.get? a=some ⟨.type "type",d,.cls c,s⟩) (e1:c.mro=m) (e2:c.bases=b) (e3:c.slotNames=n) (e4:(s[4]?).join=some v) (e5:c.abstract=ab) (e6:c.hasDel=de):h.get? a=some (clsX d c s b m n v ab de):=by
 subst e1 e2 e3 e5 e6
 obtain ⟨_,_,_,_,_,rfl⟩:=slots5 e4
 exact e
noncomputable def stFn (s:Stmt):Arguments×List Stmt×Scope:=by
 cases s with
 | FunctionDef _ a b _ _ _ sc _ _ _=>exact (a,b,sc)
 | _=>exact (default,[],default)
noncomputable def stCl (s:Stmt):List Stmt:=by
 cases s with
 | ClassDef _ _ _ b _ _ _ _ _ _ _=>exact b
 | _=>exact []
noncomputable def fnp (n:Nat):Arguments×List Stmt×Scope:=match P.main.body[n]? with
 | some s=>stFn s
 | none=>(default,[],default)
noncomputable def clp (n:Nat):List Stmt:=match P.main.body[n]? with
 | some s=>stCl s
 | none=>[]
noncomputable def mtp (n k:Nat):Arguments×List Stmt×Scope:=match (clp n)[k]? with
 | some s=>stFn s
 | none=>(default,[],default)
noncomputable abbrev OP:=Obj→Prop
noncomputable abbrev Fs:=List (Addr×OP)
noncomputable def Is (h:Heap) (a:Addr) (p:OP):Prop:=∃ o,h.get? a=some o∧p o
theorem Is.lt {p:OP} (x:Is h a p):a < h.objs.size:=by obtain ⟨_,e,_⟩:=x; exact Heap.lt_size e
theorem Is.mono {p q:OP} (x:Is h a p) (k:∀ o,p o→q o):Is h a q:=by obtain ⟨o,e,y⟩:=x; exact ⟨o,e,k o y⟩
theorem Is.at {p:OP} (x:Is h a p) (k:∀ o,h.get? a=some o→h'.get? a=some o):Is h' a p:=by obtain ⟨o,e,y⟩:=x; exact ⟨o,k o e,y⟩
noncomputable abbrev adr (fr:List Env):List Addr:=fr.filterMap (·.frame)
noncomputable def Nr (fa:List Addr) (b:Addr) (o:Obj) (h':Heap):Prop:=∃ sl,h'.get? b=some { o with slots:=sl }∧(b ∉ fa→sl=o.slots)
noncomputable def Kp (fa X:List Addr) (h h':Heap):Prop:=∀ b o,h.get? b=some o→b ∉ X→Nr fa b o h'
noncomputable def Alive (H0:Heap) (fa:List Addr) (h:Heap):Prop:=∀ L∈fa,H0.get? L=none∧Is h L (fun o=>∀ vs,o.data≠.fields vs)
noncomputable def Ob (fa:List Addr) (h:Heap) (a:Addr) (p:OP):Prop:=Is h a p∧a ∉ fa
theorem Nr.same {fa b o h'} (x:Nr fa b o h') (n:b ∉ fa):h'.get? b=some o:=by obtain ⟨_,e,k⟩:=x; exact by rw [e,k n]
theorem Nr.of {fa b o} (e:h'.get? b=some o):Nr fa b o h':=⟨o.slots,e,fun _=>rfl⟩
theorem Nr.trans {fa h b o h'} (x:Nr fa b o h) (y:∀ o,h.get? b=some o→Nr fa b o h'):Nr fa b o h':=by
 obtain ⟨sl,e,k⟩:=x
 obtain ⟨sl',e',k'⟩:=y _ e
 exact ⟨sl',e',fun n=>(k' n).trans (k n)⟩
theorem Nr.wide {fa fa' b o h'} (x:Nr fa b o h') (k:∀ a∈fa,a∈fa'):Nr fa' b o h':=by obtain ⟨sl,e,q⟩:=x; exact ⟨sl,e,fun n=>q fun m=>n (k _ m)⟩
theorem Kp.refl (fa X:List Addr) (h:Heap):Kp fa X h h:=fun _ _ e _=>.of e
theorem Kp.trans {a b c:Heap} (x:Kp fa X a b) (y:Kp fa X b c):Kp fa X a c:=fun q o e n=>(x q o e n).trans fun o e=>y q o e n
theorem Kp.of (k:∀ b o,h.get? b=some o→b ∉ X→h'.get? b=some o):Kp fa X h h':=fun b o e n=>.of (k b o e n)
theorem Kp.all {a b:Heap} (x:Kp fa [] a b) {q o} (e:a.get? q=some o) (n:q ∉ fa):b.get? q=some o:=(x q o e (by simp)).same n
theorem Alive.kp {H0 fa h h'} (x:Alive H0 fa h) (k:Kp fa [] h h'):Alive H0 fa h':=fun L m=>⟨(x L m).1,by
 obtain ⟨o,e,q⟩:=(x L m).2
 obtain ⟨sl,e',_⟩:=k L o e (by simp)
 exact ⟨_,e',q⟩⟩
theorem Alive.notIn {H0 fa h} (x:Alive H0 fa h) (n:h.get? a=none):a ∉ fa:=fun m=>by
 obtain ⟨o,e,_⟩:=(x a m).2
 rw [n] at e; cases e
theorem Ob.kp {fa h h' a p} (x:Ob fa h a p) (k:Kp fa [] h h'):Ob fa h' a p:=⟨x.1.at fun _ e=>k.all e x.2,x.2⟩
structure St (H0 B:Heap) (fa X:List Addr) (L:Addr) (l:List (Str×Value)) (F:Fs) (h:Heap):Prop where
 lo:h.Ns L (fun x=>l.lookup x)
 Ln:B.get? L=none
 has:∀ x∈F,Is h x.1 x.2
 nd:(F.map (·.1)).Nodup
 low:∀ b o,H0.get? b=some o→h.get? b=some o
 hi:∀ x∈F,H0.get? x.1=none
 nf:∀ x∈F,x.1 ∉ L::fa
 keep:∀ b o,B.get? b=some o→b ∉ F.map (·.1)→Nr fa b o h
 new:∀ x∈F,x.1∈X∨B.get? x.1=none
 al:Alive H0 (L::fa) h
theorem Heap.Ns.nr {m} (x:h.Ns L m) (k:∀ o,h.get? L=some o→∃ sl,h'.get? L=some { o with slots:=sl }):h'.Ns L m:=by
 obtain ⟨o,es,ep,e,r⟩:=x
 obtain ⟨sl,e'⟩:=k o e
 exact ⟨_,es,ep,e',r⟩
theorem none_of {H:Heap} (k:∀ o,H.get? a=some o→False):H.get? a=none:=by
 cases q:H.get? a with
 | none=>rfl
 | some o=>exact (k o q).elim
theorem St.at (H:St H0 B fa X L l F h) {p:OP} (e:F[i]? = some (a,p)):Is h a p:=H.has (a,p) (Yr e)
theorem St.ob (H:St H0 B fa X L l F h) {p:OP} (e:F[i]? = some (a,p)):Ob (L::fa) h a p:=⟨H.at e,H.nf _ (Yr e)⟩
theorem St.ne (H:St H0 B fa X L l F h) {p q:OP} (ei:F[i]? = some (a,p)) (ej:F[j]? = some (b,q)) (hij:i≠j):a≠b:=by
 intro e
 subst e
 have h1:(F.map (·.1))[i]? = some a:=by rw [Zc,ei]; rfl
 have h2:(F.map (·.1))[j]? = some a:=by rw [Zc,ej]; rfl
 have li:i < (F.map (·.1)).length:=(List.getElem?_eq_some_iff.mp h1).1
 exact hij ((List.getElem?_inj li H.nd).mp (h1.trans h2.symm))
theorem St.lt (H:St H0 B fa X L l F h):∀ x∈F,x.1 < h.objs.size:=fun x hx=>(H.has x hx).lt
theorem St.oldSome (H:St H0 B fa X L l F h) (e:B.get? b=some o):∃ o',h.get? b=some o':=by
 by_cases hm:b∈F.map (·.1)
 ·obtain ⟨x,hx,rfl⟩:=Yx.mp hm
  obtain ⟨o,e,_⟩:=H.has x hx
  exact ⟨o,e⟩
 ·obtain ⟨sl,e,_⟩:=H.keep b o e hm
  exact ⟨_,e⟩
theorem St.notOld (H:St H0 B fa X L l F h) (n:h.get? b=none):B.get? b=none:=none_of fun o e=>by
 obtain ⟨o',e'⟩:=H.oldSome e
 rw [n] at e'; cases e'
theorem St.call (H:St H0 B fa X L l F h) (K:Kp (L::fa) [] h h'):St H0 B fa X L l F h' where
 lo:=Heap.Ns.nr H.lo fun o e=>by obtain ⟨sl,e',_⟩:=K L o e (by simp); exact ⟨sl,e'⟩
 Ln:=H.Ln
 has:=fun x hx=>(H.has x hx).at fun o e=>K.all e (H.nf x hx)
 nd:=H.nd
 low:=fun b o e=>K.all (H.low b o e) fun m=>by have:=(H.al b m).1; rw [e] at this; cases this
 hi:=H.hi
 nf:=H.nf
 keep:=fun b o e n=>(H.keep b o e n).trans fun o' e'=>by
  obtain ⟨sl,e2,k⟩:=K b o' e' (by simp)
  refine ⟨sl,e2,fun q=>k fun m=>?_⟩
  rcases Yu.mp m with rfl | m
  ·rw [H.Ln] at e; cases e
  ·exact q m
 new:=H.new
 al:=H.al.kp K
theorem St.same (H:St H0 B fa X L l F h) (K:∀ b o,h.get? b=some o→h'.get? b=some o):St H0 B fa X L l F h':=H.call (.of fun b o e _=>K b o e)
theorem St.put (H:St H0 B fa X L l F h) {p:OP} (n:B.get? a=none) (n0:a ∉ L::fa) (n1:a ∉ F.map (·.1)) (n2:H0.get? a=none) (x:Is h a p):St H0 B fa X L l ((a,p)::F) h where
 lo:=H.lo
 Ln:=H.Ln
 has:=by
  intro y hy
  rcases Yu.mp hy with rfl | hy
  ·exact x
  ·exact H.has y hy
 nd:=List.nodup_cons.mpr ⟨n1,H.nd⟩
 low:=H.low
 hi:=by
  intro y hy
  rcases Yu.mp hy with rfl | hy
  ·exact n2
  ·exact H.hi y hy
 nf:=by
  intro y hy
  rcases Yu.mp hy with rfl | hy
  ·exact n0
  ·exact H.nf y hy
 keep:=fun b o e hm=>H.keep b o e fun q=>hm (Yb _ q)
 new:=by
  intro y hy
  rcases Yu.mp hy with rfl | hy
  ·exact .inr n
  ·exact H.new y hy
 al:=H.al
theorem St.add (H:St H0 B fa X L l F h) (K:Kp (L::fa) [] h h') {p:OP} (n:h.get? a=none) (x:Is h' a p):St H0 B fa X L l ((a,p)::F) h' :=
 (H.call K).put (H.notOld n) (H.al.notIn n) (fun hm=>by
  obtain ⟨y,hy,e⟩:=Yx.mp hm
  obtain ⟨o,ho,_⟩:=H.has y hy
  rw [e,n] at ho
  cases ho) (none_of fun o e=>by have:=H.low _ _ e; rw [n] at this; cases this) x
theorem St.push (H:St H0 B fa X L l F h) (o:Obj) {p:OP} (hp:p o) (hf:autoParam (o.isFreed=false) tR):St H0 B fa X L l ((h.objs.size,p)::F) (h.push o) :=
 H.add (.of fun _ _ e _=>Yv _ e) (Yy (Zf _)) ⟨o,Heap.get?_push_size _ hf,hp⟩
theorem set_fst (F:Fs) (i:Nat) (a:Addr) (p p':OP) (e:F[i]? = some (a,p)):(F.set i (a,p')).map (·.1)=F.map (·.1):=by
 apply List.ext_getElem?
 intro j
 rw [Zc,Zc,List.getElem?_set]
 by_cases hij:i=j
 ·subst hij
  have li:i < F.length:=(List.getElem?_eq_some_iff.mp e).1
  rw [if_pos rfl,if_pos li,e]; rfl
 ·rw [if_neg hij]
theorem St.upd (H:St H0 B fa X L l F h) (i:Nat) {p p':OP} (e:F[i]? = some (a,p)) (sb:∀ b o,b≠a→h.get? b=some o→h'.get? b=some o) (n:Is h' a p'):St H0 B fa X L l (F.set i (a,p')) h' where
 lo:=Heap.Ns.nr H.lo fun o ho=>⟨o.slots,sb _ _ (fun q=>H.nf _ (Yr e) (by rw [← q]; exact Yc)) ho⟩
 Ln:=H.Ln
 has:=by
  intro x hx
  obtain ⟨j,hj⟩:=List.mem_iff_getElem?.mp hx
  rw [List.getElem?_set] at hj
  by_cases hij:i=j
  ·subst hij
   rw [if_pos rfl,if_pos (List.getElem?_eq_some_iff.mp e).1] at hj
   cases hj
   exact n
  ·rw [if_neg hij] at hj
   obtain ⟨x1,x2⟩:=x
   exact (H.at hj).at fun o ho=>sb x1 o (H.ne hj e (Ne.symm hij)) ho
 nd:=by rw [set_fst F i a p p' e]; exact H.nd
 low:=fun b o ho=>sb b o (fun q=>by have:=H.hi _ (Yr e); rw [← q] at this; rw [this] at ho; cases ho) (H.low b o ho)
 hi:=by
  intro x hx
  rcases List.mem_or_eq_of_mem_set hx with hx | rfl
  ·exact H.hi x hx
  ·exact H.hi (a,p) (Yr e)
 nf:=by
  intro x hx
  rcases List.mem_or_eq_of_mem_set hx with hx | rfl
  ·exact H.nf x hx
  ·exact H.nf (a,p) (Yr e)
 keep:=fun b o ho hm=>by
  rw [set_fst F i a p p' e] at hm
  have hba:b≠a:=fun q=>hm (q ▸ Yx.mpr ⟨(a,p),Yr e,rfl⟩)
  exact (H.keep b o ho hm).trans fun o e=>.of (sb b o hba e)
 new:=by
  intro x hx
  rcases List.mem_or_eq_of_mem_set hx with hx | rfl
  ·exact H.new x hx
  ·exact H.new (a,p) (Yr e)
 al:=fun b m=>⟨(H.al b m).1,(H.al b m).2.at fun o ho=>sb b o (fun q=>H.nf _ (Yr e) (by rw [← q]; exact m)) ho⟩
theorem St.names (H:St H0 B fa X L l F h) {l':List (Str×Value)} (ns:h'.Ns L (fun x=>l'.lookup x)) (sb:∀ b o,b≠L→h.get? b=some o→h'.get? b=some o):St H0 B fa X L l' F h' where
 lo:=ns
 Ln:=H.Ln
 has:=fun x hx=>(H.has x hx).at fun o e=>sb _ o (fun q=>H.nf x hx (by rw [q]; exact Yc)) e
 nd:=H.nd
 low:=fun b o e=>sb b o (fun q=>by have:=(H.al L Yc).1; rw [← q,e] at this; cases this) (H.low b o e)
 hi:=H.hi
 nf:=H.nf
 keep:=fun b o e n=>(H.keep b o e n).trans fun o' e'=>.of (sb b o' (fun q=>by rw [q,H.Ln] at e; cases e) e')
 new:=H.new
 al:=fun b m=>⟨(H.al b m).1,by
  by_cases q:b=L
  ·subst q
   obtain ⟨o,es,ep,e,d,_⟩:=ns
   exact ⟨o,e,fun vs r=>by rw [d] at r; cases r⟩
  ·exact (H.al b m).2.at fun o e=>sb b o q e⟩
theorem St.kp (H:St H0 B fa X L l F h):Kp fa X B h:=fun b o e n=>H.keep b o e fun hm=>by
 obtain ⟨x,hxm,rfl⟩:=Yx.mp hm
 rcases H.new x hxm with q | q
 ·exact n q
 ·rw [q] at e; cases e
theorem St.fresh (H:St H0 B fa [] L l F h) {p:OP} (e:F[i]? = some (a,p)):B.get? a=none:=by
 rcases H.new _ (Yr e) with q | q
 ·simp at q
 ·exact q
theorem St.old (H:St H0 B fa [] L l F h) {p:OP} (x:Ob fa B a p):Is h a p:=x.1.at fun o e=>(H.kp a o e (by simp)).same x.2
theorem St.oldO (H:St H0 B fa [] L l F h) {p:OP} (x:Ob fa B a p):Ob (L::fa) h a p:=⟨H.old x,fun m=>by
 rcases Yu.mp m with rfl | m
 ·obtain ⟨o,e,_⟩:=x.1
  rw [H.Ln] at e; cases e
 ·exact x.2 m⟩
theorem St.sub (H:St H0 B fa X L l F h) {F':Fs} (hs:F'.Sublist F) (hx:∀ x∈F,x.1∈X→x∈F'):St H0 B fa X L l F' h where
 lo:=H.lo
 Ln:=H.Ln
 has:=fun x hx=>H.has x (hs.subset hx)
 nd:=H.nd.sublist (hs.map _)
 low:=H.low
 hi:=fun x hx=>H.hi x (hs.subset hx)
 nf:=fun x hx=>H.nf x (hs.subset hx)
 keep:=fun b o e n=>H.keep b o e fun m=>by
  obtain ⟨x,hm,rfl⟩:=Yx.mp m
  rcases H.new x hm with q | q
  ·exact n (Yx.mpr ⟨x,hx x hm q,rfl⟩)
  ·rw [q] at e; cases e
 new:=fun x hx=>H.new x (hs.subset hx)
 al:=H.al
theorem St.lose {p:OP} (H:St H0 B fa X L l ((a,p)::F) h) (n:B.get? a=none) (sb:∀ b o,b≠a→h.get? b=some o→h'.get? b=some o):St H0 B fa X L l F h' where
 lo:=Heap.Ns.nr H.lo fun o ho=>⟨o.slots,sb _ _ (fun q=>H.nf _ Yc (by rw [← q]; exact Yc)) ho⟩
 Ln:=H.Ln
 has:=fun x hx=>(H.has x (Yb _ hx)).at fun o e=>sb _ o (fun q=>(List.nodup_cons.mp H.nd).1 (q ▸ Yx.mpr ⟨x,hx,rfl⟩)) e
 nd:=(List.nodup_cons.mp H.nd).2
 low:=fun b o ho=>sb b o (fun q=>by have:=H.hi _ Yc; rw [← q] at this; rw [this] at ho; cases ho) (H.low b o ho)
 hi:=fun x hx=>H.hi x (Yb _ hx)
 nf:=fun x hx=>H.nf x (Yb _ hx)
 keep:=fun b o e hm=>by
  have hba:b≠a:=fun q=>by rw [q,n] at e; cases e
  exact (H.keep b o e fun m=>(Yu.mp m).elim hba hm).trans fun o' e'=>.of (sb b o' hba e')
 new:=fun x hx=>H.new x (Yb _ hx)
 al:=fun b m=>⟨(H.al b m).1,(H.al b m).2.at fun o ho=>sb b o (fun q=>H.nf _ Yc (by rw [← q]; exact m)) ho⟩
theorem St.chg (H:St H0 B fa X L l F h) (cs:List Addr) (F':Fs) (hc:∀ b∈cs,b∈F.map (·.1)) (hs:(F'.map (·.1)).Sublist (F.map (·.1))) (hx:∀ b∈F.map (·.1),b ∉ F'.map (·.1)→B.get? b=none)
  (sb:∀ b o,b ∉ cs→h.get? b=some o→h'.get? b=some o) (has:∀ x∈F',Is h' x.1 x.2):St H0 B fa X L l F' h':=by
 have inF:∀ b∈F.map (·.1),∃ p,(b,p)∈F:=fun b m=>by
  obtain ⟨⟨c,p⟩,hm,rfl⟩:=Yx.mp m
  exact ⟨p,hm⟩
 have nf:∀ b∈F.map (·.1),b ∉ L::fa:=fun b m=>by obtain ⟨p,q⟩:=inF b m; exact H.nf _ q
 have hi:∀ b∈F.map (·.1),H0.get? b=none:=fun b m=>by obtain ⟨p,q⟩:=inF b m; exact H.hi _ q
 exact {
  lo:=Heap.Ns.nr H.lo fun o ho=>⟨o.slots,sb _ _ (fun q=>nf _ (hc _ q) Yc) ho⟩
  Ln:=H.Ln
  has:=has
  nd:=H.nd.sublist hs
  low:=fun b o ho=>sb b o (fun q=>by rw [hi _ (hc _ q)] at ho; cases ho) (H.low b o ho)
  hi:=fun x m=>hi _ (hs.subset (Yx.mpr ⟨x,m,rfl⟩))
  nf:=fun x m=>nf _ (hs.subset (Yx.mpr ⟨x,m,rfl⟩))
  keep:=fun b o e n=>by
   have nF:b ∉ F.map (·.1):=fun m=>by rw [hx b m n] at e; cases e
   exact (H.keep b o e nF).trans fun o' e'=>.of (sb b o' (fun q=>nF (hc _ q)) e')
  new:=fun x m=>by
   obtain ⟨p,q⟩:=inF _ (hs.subset (Yx.mpr ⟨x,m,rfl⟩))
   exact H.new (x.1,p) q
  al:=fun b m=>⟨(H.al b m).1,(H.al b m).2.at fun o ho=>sb b o (fun q=>nf _ (hc _ q) m) ho⟩ }
theorem St.enter (low:∀ b o,H0.get? b=some o→B.get? b=some o) (al:Alive H0 fa B) (ns:h.Ns B.objs.size (fun x=>l.lookup x)) (k:∀ b o,B.get? b=some o→h.get? b=some o):St H0 B fa [] B.objs.size l [] h where
 lo:=ns
 Ln:=Yy (Zf _)
 has:=fun _ hm=>(nomatch hm)
 nd:=List.nodup_nil
 low:=fun b o e=>k b o (low b o e)
 hi:=fun _ hm=>(nomatch hm)
 nf:=fun _ hm=>(nomatch hm)
 keep:=fun b o e _=>.of (k b o e)
 new:=fun _ hm=>(nomatch hm)
 al:=fun b m=>by
  rcases Yu.mp m with rfl | m
  ·obtain ⟨o,es,ep,e,d,_⟩:=ns
   exact ⟨none_of fun o e=>absurd (Heap.lt_size (low _ _ e)) (Nat.lt_irrefl _),o,e,fun vs r=>by rw [d] at r; cases r⟩
  ·exact ⟨(al b m).1,(al b m).2.at (k b)⟩
noncomputable def NsP (m:Str→Option Value):OP:=fun o=>E2 fun es ep=>o.data=.dict es ep∧StrKeys es∧∀ name,nsFind es name=m name
noncomputable def ListP (xs:List Value):OP:=fun o=>∃ n,o = { cls:=.type "list",data:=.seq xs.toArray n }
noncomputable def IterP (a:Addr) (i:Nat):OP:=fun o=>o.cls=.type "list_iterator" ∧ o.data=.fields #[.ref a,.int i 0]
theorem Is.ns {m} (x:Is h a (NsP m)):h.Ns a m:=by obtain ⟨o,e,es,ep,r⟩:=x; exact ⟨o,es,ep,e,r⟩
theorem isNs {m} (x:h.Ns a m):Is h a (NsP m):=by obtain ⟨o,es,ep,e,r⟩:=x; exact ⟨o,e,es,ep,r⟩
theorem Is.plain {xs} (x:Is h a (ListP xs)):h.PlainList a xs.toArray:=by obtain ⟨_,e,n,q⟩:=x; exact ⟨n,q ▸ e⟩
theorem isPlain (x:h.PlainList a xs.toArray):Is h a (ListP xs):=by obtain ⟨n,e⟩:=x; exact ⟨_,e,n,rfl⟩
theorem Is.list {xs} (x:Is h a (ListP xs)):h.IsList a xs.toArray:=x.plain.isList
theorem Is.plainL {xs} (x:Is h a (ListP xs)):PlainL h a xs.toArray:=by obtain ⟨_,e,n,q⟩:=x; exact ⟨_,n,q ▸ e,rfl,rfl,rfl⟩
theorem Is.iter {b i} (x:Is h a (IterP b i)):h.IsListIter a b i:=x
theorem isIter {b i} (x:h.IsListIter a b i):Is h a (IterP b i):=x
theorem s_ld (H:St H0 B fa X env.locals l F h) (k:Q v (sh g t h)) (hv:autoParam (l.lookup x=some v) tR)
  (hk:autoParam (env.scope.kind=.function) tR) (hl:autoParam (env.kindOf x=some .local) tR) (hd:autoParam ((x == ("__debug__" : Str))=false) tD) :
  wpAny (model P w) A (eval (.Name x pos) env) Q E (sh g t h):=wpAny_Name (wpAny_loadName_local hk hl H.lo hv k) hd
theorem s_st {Q:Unit→Shared→Prop} (H:St H0 B fa X env.locals l F h) (k:∀ h' t',St H0 B fa X env.locals ((x,v)::l) F h'→Q () (sh g t' h'))
  (hl:autoParam (env.kindOf x=some .local) tR)
  (hp:autoParam ((env.scope.kind == .class || (env.scope.kind == .module && env.locals != env.globals))=false) tR) :
  wpAny (model P w) A (storeName env x v) Q E (sh g t h) :=
 wpAny_storeName_local hl H.lo (fun h' ns sb=>k h' _ (H.names (by
  have:(fun y=>if y=x then some v else l.lookup y)=fun y=>((x,v)::l).lookup y:=by
   funext y
   rw [List.lookup_cons]
   by_cases q:y=x
   ·rw [if_pos q,beq_iff_eq.mpr q]
   ·rw [if_neg q,Zp.mpr q]
  rw [this] at ns; exact ns) fun b o hb ho=>(sb.2 b hb).trans ho)) hp
theorem s_newList (H:St H0 B fa X L l F h) (k:St H0 B fa X L l ((h.objs.size,ListP xs)::F) (h.push { cls:=.type "list",data:=.seq xs.toArray })→Q (.ref h.objs.size) (sh g t (h.push { cls:=.type "list",data:=.seq xs.toArray })))
  (hsz:xs.length≤sizeLine):wpAny (model P w) A (newList xs) Q E (sh g t h):=wpAny_newList (k (H.push _ ⟨0,rfl⟩)) hsz
theorem s_forList {target:Expr} (J:Nat→Heap→Prop)
  (hh:∀ h,J xs.length h→Hn A h) (hJ:∀ i h,J i h→h.IsListIter it a i∧h.IsList a xs.toArray)
  (turn:∀ i v h t h',xs[i]? = some v→J i h→h'.IsListIter it a (i + 1)→(∀ b o,b≠it→h.get? b=some o→h'.get? b=some o) →
   wpAny (model P w) A (assign target env v) (fun _ s2=>wpAny (model P w) A (execs body env) (fun f s3=>match f with
     | .next | .cont=>E2 fun h3 t3=>s3=(sh g t3 h3)∧J (i + 1) h3
     | .brk=>R (.ok .next) s3
     | .ret v=>R (.ok (.ret v)) s3) (notedBy (model P w) A env fun e s'=>R (.error e) s') s2) (notedBy (model P w) A env fun e s'=>R (.error e) s') (sh g t h'))
  (done:∀ h t h',J xs.length h→(∀ b o,b≠it→h.get? b=some o→h'.get? b=some o)→R (.ok .next) (sh g t h'))
  (h0:J 0 h) (ht:autoParam (∀ v,letOwnedTupleGo target (.ref it) v=pure ()) tI):codeAny (model P w) A (.forLoop target (.ref it) body [] env) R (sh g t h):=by
 refine codeAny_forLoop (fun n s=>E3 fun h t i=>A4 (s=(sh g t h)) (i≤xs.length) (n=xs.length + 1 - i) (J i h)) ?_ (xs.length + 1) ⟨h,t,0,rfl,Zs _,rfl,h0⟩ ht
 rintro n s ⟨h,t,i,rfl,hi,rfl,hj⟩
 obtain ⟨h1,h2⟩:=hJ i h hj
 cases hv:xs[i]? with
 | none =>
  have e:i=xs.length:=Nat.le_antisymm hi (by simpa using hv)
  subst e
  exact list_end_h (hh _ hj) h1 h2 (by simpa using hv) fun h' he=>Ym (done h t h' hj he)
 | some v =>
  have hlt:i < xs.length:=(List.getElem?_eq_some_iff.mp hv).1
  refine wpAny_pyNext_list_item h1 h2 (by simpa using hv) fun h' hit sb=>?_
  refine Ze (turn i v h t h' hv hj hit fun b o hb ho=>(sb.2 b hb).trans ho) (fun _ s2 k=>Ze k (fun f s3 q=>?_) fun _ _ e=>e) fun _ _ e=>e
  cases f with
  | next=>obtain ⟨h3,t3,rfl,q⟩:=q; exact ⟨xs.length + 1 - (i + 1),by exact Nat.sub_lt_sub_left (Nat.lt_succ_of_lt ‹_›) (Nat.lt_succ_self _),h3,t3,i + 1,rfl,hlt,rfl,q⟩
  | cont=>obtain ⟨h3,t3,rfl,q⟩:=q; exact ⟨xs.length + 1 - (i + 1),by exact Nat.sub_lt_sub_left (Nat.lt_succ_of_lt ‹_›) (Nat.lt_succ_self _),h3,t3,i + 1,rfl,hlt,rfl,q⟩
  | brk=>exact q
  | ret v=>exact q
noncomputable def Frs (A:Around) (fr:List Env):Prop:=A.frames=some fr∧∀ e∈fr,e.scope.kind≠.module∧∃ L,e.frame=some L
noncomputable def Fn (H0:Heap) (f:Addr) (fd:FuncData):Prop:=(∃ o,H0.get? f=some o∧o.data=.func fd)∧H0.CodeRec fd.code fd.qualname
structure Bs (H0:Heap) (mg mb:Str→Option Value):Prop where
 g:H0.Ns mainGlobals mg
 b:H0.Ns builtinsNs mb
 lim:H0.NoLimit
 sys:H0.get? sysModules≠none
theorem Bs.ns (b:Bs H0 mg mb) {d:Addr} (n:H0.get? d=none):(d == sysModules)=false:=Zp.mpr fun e=>b.sys (e ▸ n)
noncomputable abbrev envF (fd:FuncData) (L f:Addr):Env:=newEnv fd.scope L fd.globals [] (fd.qualname ++ ".<locals>.") (some f) fd.code none fd.builtins
noncomputable abbrev fdF (i:Nat) (name:Str) (cd pm kwd:Value):FuncData:={ docDef name (fnp i).1 (fnp i).2.1 (fnp i).2.2 pm cd .none with kwdefaults:=kwd }
theorem s_gname (b:Bs H0 mg mb) (low:∀ a o,H0.get? a=some o→h.get? a=some o) (hv:mg x=some v) (k:Q v (sh g t h))
  (hk:autoParam (env.scope.kind=.function) tR) (hl:autoParam (env.kindOf x=some .globalImplicit) tR) (hg:autoParam (env.globals=mainGlobals) tR) (hd:autoParam ((x == ("__debug__" : Str))=false) tD) :
  wpAny (model P w) A (eval (.Name x pos) env) Q E (sh g t h):=Name_function_global hk hl (loadGlobal_global (by rw [hg]; exact b.g.keeps low) hv k) hd
theorem s_bname (b:Bs H0 mg mb) (low:∀ a o,H0.get? a=some o→h.get? a=some o) (hn:mg x=none) (hv:mb x=some v) (k:Q v (sh g t h))
  (hk:autoParam (env.scope.kind=.function) tR) (hl:autoParam (env.kindOf x=some .globalImplicit) tR) (hg:autoParam (env.globals=mainGlobals) tR) (hb:autoParam (env.builtins=builtinsNs) tR) (hd:autoParam ((x == ("__debug__" : Str))=false) tD) :
  wpAny (model P w) A (eval (.Name x pos) env) Q E (sh g t h):=Name_function_global hk hl (loadGlobal_builtin (by rw [hg]; exact b.g.keeps low) hn (by rw [hb]; exact b.b.keeps low) hv k) hd
noncomputable abbrev back (Q:Value→Shared→Prop) (E:Value→Shared→Prop):Result→Shared→Prop:=fun r s'=>match r with | .ok (.ret v)=>Q v s' | .ok _=>False | .error e=>E e s'
theorem s_fcall {args:List (Bool×Sem Value)} {first:List Value} (hf:Fn H0 f fd)
  (h:wpAny (model P w) A (evalArgs (.ref f) true args []) (fun x s1=>(∀ a o,H0.get? a=some o→s1.heap.get? a=some o)∧codeAny (model P w) A (.call (.ref f) ⟨first++x.pos,x.kw⟩) (back Q E) s1) E s) :
  wpAny (model P w) A (callWith pos (.ref f) first args []) Q E s:=by
 obtain ⟨o,ho,hd⟩:=hf.1
 exact callWith_function (o:=o) (fd:=fd) (Ze h (fun x s1 q=>⟨⟨q.1 _ _ ho,hd⟩,wpAny_call q.2⟩) fun _ _ e=>e)
theorem s_call1 {np:Pos} (b:Bs H0 mg mb) (low:∀ a o,H0.get? a=some o→h.get? a=some o) (hv:mg x=some (.ref f)) (hf:Fn H0 f fd)
  (k:wpAny (model P w) A (eval e env) (fun v s1=>(∀ a o,H0.get? a=some o→s1.heap.get? a=some o)∧codeAny (model P w) A (.call (.ref f) ⟨[v],[]⟩) (back Q E) s1) E (sh g t h))
  (hs:autoParam (starEach [e] env=[(false,eval e env)]) tR)
  (hk:autoParam (env.scope.kind=.function) tR) (hl:autoParam (env.kindOf x=some .globalImplicit) tR) (hg:autoParam (env.globals=mainGlobals) tR) (hd:autoParam ((x == ("__debug__" : Str))=false) tD) :
  wpAny (model P w) A (eval (.Call (.Name x np) [e] [] pos) env) Q E (sh g t h):=by
 refine Zb (s_gname b low hv ?_ hk hl hg hd)
 rw [hs]
 exact s_fcall hf (Zx (Yz (Ze k (fun _ _ q=>Zn q) fun _ _ e=>e)))
theorem s_enterW (b:Bs H0 mg mb) (low:∀ a o,H0.get? a=some o→h.get? a=some o) (hf:Fn H0 f fd)
  (hfr:Frs A fr) (al:Alive H0 (adr fr) h) (hroom:A.depth < recursionLimit) (hbody:fd.body=.stmts body) (hbind:∀ (Q:List (Str×Value)→Shared→Prop) (E:Value→Shared→Prop),Q binds (sh g t h)→wpAny (model P w) A.in1 (bindArgs fd args) Q E (sh g t h))
  (k:∀ h₁ t1,St H0 h (adr fr) [] h.objs.size binds.reverse [] h₁→Frs (A.deeper (envF fd h.objs.size f)) (envF fd h.objs.size f::fr)→wpAny (model P w) (A.deeper (envF fd h.objs.size f)) (execs body (envF fd h.objs.size f)) (fun fl s'=>R (.ok (.ret (match fl with | .ret v=>v | _=>.none))) s')
   (fun e s'=>wpAny (model P w) (A.deeper (envF fd h.objs.size f)) (leaving (envF fd h.objs.size f) e) (fun _ s''=>R (.error e) s'') (fun e' s''=>R (.error e') s'') s') (sh g t1 h₁))
  (hloc:autoParam ((binds.map (·.1)).all (fun x=>decide (fd.scope.names.lookup x=some .local))=true) tR) (hcell:autoParam (fd.scope.names.all (fun x=>decide (x.2≠.cell))=true) tR)
  (hcl:autoParam (fd.closure=[]) tR) (hco:autoParam (fd.scope.isCoroutine=false) tR) (hgen:autoParam (fd.scope.isGenerator=false) tR) (hk:autoParam (fd.scope.kind=.function) tR) :
  codeAny (model P w) A (.call (.ref f) args) R (sh g t h):=by
 have hloc:∀ x∈binds,fd.scope.names.lookup x.1=some .local:=fun x hx=>of_decide_eq_true (List.all_eq_true.mp hloc _ (Yx.mpr ⟨x,hx,rfl⟩))
 have hcell:∀ x∈fd.scope.names,x.2≠.cell:=fun x hx=>of_decide_eq_true (List.all_eq_true.mp hcell x hx)
 obtain ⟨⟨o,ho,hd⟩,hc⟩:=hf
 refine codeAny_call_function hroom (low _ _ ho) hd hco hgen hbody (hc.keeps low) ?_
 refine hbind _ _ ?_
 rw [hcl]
 refine wpAny_newFunctionEnv hcell hloc (fun h₁ ns sb=>?_) hk
 have kp:∀ b o,h.get? b=some o→h₁.get? b=some o:=fun b o e=>(sb.2 b (Nat.ne_of_lt (Heap.lt_size e))).trans (Yv _ e)
 have S2:St H0 h (adr fr) [] h.objs.size binds.reverse [] h₁:=St.enter low al ns kp
 refine ⟨(b.lim.keeps S2.low:Heap.NoLimit h₁),codeAny_func (k h₁ _ S2 ⟨by show A.frames.map _=_; rw [hfr.1]; rfl,fun e m=>by
  rcases Yu.mp m with rfl | m
  ·exact ⟨by show fd.scope.kind≠_; rw [hk]; decide,_,rfl⟩
  ·exact hfr.2 e m⟩)⟩
theorem s_enter (b:Bs H0 mg mb) (low:∀ a o,H0.get? a=some o→h.get? a=some o) (hf:Fn H0 f fd)
  (hfr:Frs A fr) (al:Alive H0 (adr fr) h) (hroom:A.depth < recursionLimit) (hbody:fd.body=.stmts body) (hbind:bindArgs fd args=pure binds)
  (k:∀ h₁ t1,St H0 h (adr fr) [] h.objs.size binds.reverse [] h₁→Frs (A.deeper (envF fd h.objs.size f)) (envF fd h.objs.size f::fr)→wpAny (model P w) (A.deeper (envF fd h.objs.size f)) (execs body (envF fd h.objs.size f)) (fun fl s'=>R (.ok (.ret (match fl with | .ret v=>v | _=>.none))) s')
   (fun e s'=>wpAny (model P w) (A.deeper (envF fd h.objs.size f)) (leaving (envF fd h.objs.size f) e) (fun _ s''=>R (.error e) s'') (fun e' s''=>R (.error e') s'') s') (sh g t1 h₁))
  (hloc:autoParam ((binds.map (·.1)).all (fun x=>decide (fd.scope.names.lookup x=some .local))=true) tR) (hcell:autoParam (fd.scope.names.all (fun x=>decide (x.2≠.cell))=true) tR)
  (hcl:autoParam (fd.closure=[]) tR) (hco:autoParam (fd.scope.isCoroutine=false) tR) (hgen:autoParam (fd.scope.isGenerator=false) tR) (hk:autoParam (fd.scope.kind=.function) tR) :
  codeAny (model P w) A (.call (.ref f) args) R (sh g t h) :=
 s_enterW b low hf hfr al hroom hbody (fun _ _ q=>by rw [hbind]; exact Yn q) k hloc hcell hcl hco hgen hk
noncomputable def dd (e:Value→Value→Bool) (xs:List Value):List Value:=xs.foldl (fun acc x=>if acc.any (fun y=>e y x) then acc else acc++[x]) []
theorem dd_snoc (e:Value→Value→Bool) (xs:List Value) (i:Nat) (x:Value) (hx:xs[i]? = some x) :
  dd e (xs.take (i + 1))=if (dd e (xs.take i)).any (fun y=>e y x) then dd e (xs.take i) else dd e (xs.take i)++[x]:=by
 unfold dd
 rw [List.take_add_one,hx,List.foldl_append]
 rfl
theorem dd_fold_sub (e:Value→Value→Bool):∀ (xs acc:List Value) (x:Value),x∈xs.foldl (fun acc x=>if acc.any (fun y=>e y x) then acc else acc++[x]) acc→x∈acc∨x∈xs
 | [],_,_,h=>.inl h
 | y::xs,acc,x,h=>by
  rcases dd_fold_sub e xs _ x h with h | h
  ·dsimp only at h
   split at h
   ·exact .inl h
   ·rcases Zz.mp h with h | h
    ·exact .inl h
    ·rw [Zu.mp h]; exact .inr Yc
  ·exact .inr (Yb _ h)
theorem dd_sub {x:Value} {e:Value→Value→Bool} (h:x∈dd e xs):x∈xs:=(dd_fold_sub e xs [] x h).resolve_left (by simp)
theorem dd_sub' {x:Value} {e:Value→Value→Bool} (h:x∈dd e (xs.take n)):x∈xs:=List.mem_of_mem_take (dd_sub h)
theorem dd_len (e:Value→Value→Bool) (xs:List Value):∀ n,(dd e (xs.take n)).length≤n
 | 0=>by simp [dd]
 | n + 1=>by
  have ih:=dd_len e xs n
  cases hx:xs[n]? with
  | none =>
   have:xs.length≤n:=by simpa using hx
   rw [List.take_of_length_le (Nat.le_succ_of_le this)]
   rw [List.take_of_length_le this] at ih
   exact Nat.le_succ_of_le ‹_›
  | some x =>
   rw [dd_snoc e xs n x hx]
   split
   ·exact Nat.le_succ_of_le ‹_›
   ·rw [Zw]; simp; exact ih
theorem dedup_body {g} {t} {h1:Heap} {e:Value→Value→Bool}
  (hh:∀ h',Kp (env.locals::fa) [] h h'→Hn A h') (hs:env.scope=(fnp 5).2.2) (hL:env.globals=mainGlobals)
  (H:St H0 h fa [] env.locals [("unhashable_params",.ref a)] [] h1)
  (hl:Ob fa h a (ListP xs)) (hsz:xs.length≤sizeLine)
  (he:∀ s':Shared,Kp (env.locals::fa) [] h s'.heap→∀ y∈xs,∀ x∈xs,SeqAt.EqAt A.in1 s' y x (e y x))
  (hR:∀ h' t' b,Kp fa [] h h'→h.get? b=none→Is h' b (ListP (dd e xs))→R (.ok (.ret (.ref b))) (sh g t' h')) :
  wpAny (model P w) A (execs (fnp 5).2.1 env) (fun fl s'=>R (.ok (.ret (match fl with | .ret v=>v | _=>.none))) s') (fun _ _=>False) (sh g t h1):=by
 obtain ⟨scope,L,gl,cells,qual,fo,cd,fr,bi⟩:=env
 dsimp only at hs hL
 subst hs hL
 refine Yh (Yq (wpAny_List (Yn ⟨Zs _,?_⟩)))
 refine s_st (H.push _ (p:=ListP []) ⟨0,rfl⟩) fun h2 t2 H2=>?_
 refine Yh (wpAny_For (s_ld H2 (wpAny_pyIter_list (H2.old hl).list ?_)))
 have H3:=H2.push { cls:=.type "list_iterator",data:=.fields #[.ref a,.int 0 0] } (p:=IterP a 0) ⟨rfl,rfl⟩
 refine s_forList (a:=a) (xs:=xs) (fun i h'=>∃ l,St H0 h fa [] L l [(h2.objs.size,IterP a i),(h1.objs.size,ListP (dd e (xs.take i)))] h'∧l.lookup ("new_unhashable" : Str)=some (.ref h1.objs.size)) (fun h' q=>hh h' ((by obtain ⟨_,H',_⟩:=q; exact fun b o e n=>(H'.kp b o e n).wide fun _ m=>Yb _ m))) (fun i h' q=>?_) (fun i v h' t' h'' hv q hit sb=>?_) (fun h' t' h'' q sb=>?_) ⟨_,H3,by rfl⟩
 ·obtain ⟨l,H',_⟩:=q
  exact ⟨(H'.at (i:=0) rfl).iter,(H'.old hl).list⟩
 ·obtain ⟨l,H',hm⟩:=q
  have H4:=H'.upd 0 rfl sb (isIter hit)
  refine Zl (s_st H4 fun h5 t5 H5=>?_)
  refine Yh (Zh (Yg (s_ld H5 (s_ld H5 ?_ (hv:=hm)))))
  have hvm:v∈xs:=Yr hv
  refine SeqAt.notIn_listAt (fun y=>e y v) (H5.at (i:=1) rfl).list (fun y hy=>he _ (fun b o e n=>(H5.kp b o e n).wide fun _ m=>Yb _ m) y (dd_sub' (by simpa using hy)) v hvm) ?_
  have hs:=dd_snoc e xs i v hv
  have hany:((dd e (xs.take i)).toArray.any fun y=>e y v)=(dd e (xs.take i)).any fun y=>e y v:=by simp
  refine Yi ?_
  rw [hany]
  cases hb:(dd e (xs.take i)).any fun y=>e y v with
  | true =>
   rw [hb,if_pos rfl] at hs
   refine Ym ?_
   exact Ym ⟨h5,_,rfl,("t",v)::l,hs ▸ H5,hm⟩
  | false =>
   rw [hb] at hs
   refine Yh (wpAny_Expr_any (wpAny_Call_append (by rfl) (by rfl) (by rfl) (by rfl) (s_ld H5 ⟨_,_,rfl,(H5.at (i:=1) rfl).plainL,s_ld H5 ?_⟩ (hv:=hm))))
   refine wpAny_list_append_plain (H5.at (i:=1) rfl).plain (fun h6 pl sb=>?_) ?_
   ·have H6:=H5.upd 1 rfl (fun b o hb ho=>(sb.2 b hb).trans ho) (p':=ListP (dd e (xs.take (i + 1)))) (by
     rw [hs]
     exact isPlain (by simpa using pl))
    refine Ym (Ym ⟨h6,_,rfl,("t",v)::l,H6,hm⟩)
   ·have:=dd_len e xs i
    have hlt:i < xs.length:=(List.getElem?_eq_some_iff.mp hv).1
    simp only [List.size_toArray]
    lia
 ·obtain ⟨l,H',hm⟩:=q
  rw [List.take_length] at H'
  have H4:=H'.lose (H'.fresh (i:=0) rfl) sb
  refine Yh (Zd (s_ld H4 ?_ (hv:=hm)))
  exact hR h'' _ _ H4.kp (H4.fresh (i:=0) rfl) (H4.at (i:=0) rfl)
theorem b5 (name:Str) (cd pm kwd v:Value):bindArgs (fdF 5 name cd pm kwd) ⟨[v],[]⟩=pure [(("unhashable_params" : Str),v)]:=by rfl
noncomputable def Rm (A:Around) (n:Nat):Prop:=A.handled=none∧A.depth + n≤recursionLimit∧A.units + 20 * n≤cLine
theorem Rm.deeper {A n} (h:Rm A (n + 1)) (env:Env):Rm (A.deeper env) n:=⟨h.1,by have:=h.2.1; show A.depth + 1 + n≤_; lia,by have:=h.2.2; show A.units + 3 + 20 * n≤_; lia⟩
theorem Rm.in1 {A n} (h:Rm A (n + 1)):Rm A.in1 n:=⟨h.1,by have:=h.2.1; show A.depth + n≤_; exact Nat.le_of_lt ‹_›,by have:=h.2.2; show A.units + 1 + 20 * n≤_; lia⟩
theorem Rm.le {A m n} (h:Rm A m) (q:n≤m):Rm A n:=⟨h.1,by have:=h.2.1; lia,by have:=h.2.2; lia⟩
theorem Rm.room {A n} (h:Rm A (n + 1)):A.depth < recursionLimit:=by have:=h.2.1; lia
theorem Rm.u {A n} (h:Rm A (n + 1)):A.units < cLine:=by have:=h.2.2; lia
noncomputable def Rd (A:Around) (n:Nat):Prop:=A.depth + n≤recursionLimit∧A.units + 20 * n≤cLine
theorem Rm.rd {A n} (h:Rm A n):Rd A n:=h.2
theorem Rd.deeper {A n} (h:Rd A (n + 1)) (env:Env):Rd (A.deeper env) n:=⟨by have:=h.1; show A.depth + 1 + n≤_; lia,by have:=h.2; show A.units + 3 + 20 * n≤_; lia⟩
theorem Rd.in1 {A n} (h:Rd A (n + 1)):Rd A.in1 n:=⟨by have:=h.1; show A.depth + n≤_; exact Nat.le_of_lt ‹_›,by have:=h.2; show A.units + 1 + 20 * n≤_; lia⟩
theorem Rd.room {A n} (h:Rd A (n + 1)):A.depth < recursionLimit:=by have:=h.1; lia
theorem Rd.u {A n} (h:Rd A (n + 1)):A.units < cLine:=by have:=h.2; lia
theorem dedup_call {g} {t} {e:Value→Value→Bool}
  (rd:Rd A (n + 2)) (hn:∀ h',Kp (h.objs.size::adr fr) [] h h'→Hn A h') (hfr:Frs A fr) (al:Alive H0 (adr fr) h) (b:Bs H0 mg mb) (low:∀ a o,H0.get? a=some o→h.get? a=some o) (hf:Fn H0 f (fdF 5 name cd pm kwd))
  (hl:Ob (adr fr) h a (ListP xs)) (hsz:xs.length≤sizeLine)
  (he:∀ (A':Around) (s':Shared),Rd A' n→Kp (h.objs.size::adr fr) [] h s'.heap→∀ y∈xs,∀ x∈xs,SeqAt.EqAt A' s' y x (e y x))
  (hR:∀ h' t' b,Kp (adr fr) [] h h'→h.get? b=none→Is h' b (ListP (dd e xs))→R (.ok (.ret (.ref b))) (sh g t' h')) :
  codeAny (model P w) A (.call (.ref f) ⟨[.ref a],[]⟩) R (sh g t h):=by
 refine s_enter b low hf hfr al rd.room rfl (b5 _ _ _ _ _) fun h1 t1 H _=>?_
 refine Ze (dedup_body (fun h' k=>hn h' k) rfl rfl H hl hsz (fun s' k=>he _ s' (rd.deeper _).in1 k) hR) (fun _ _ q=>q) fun _ _ q=>q.elim
theorem free_none (h:Heap) (a:Addr):(h.update a free).get? a=none:=by
 obtain ⟨objs,l⟩:=h
 have e:(Heap.mk (objs.modify a free) l).objs[a]? = objs[a]?.map free:=by rw [Array.getElem?_modify,if_pos rfl]
 show Heap.get? ⟨objs.modify a free,l⟩ a=none
 unfold Heap.get?
 rw [e]
 cases objs[a]?<;>rfl
theorem wipe_in (h:Heap) (m:b∈fa):(wipe h fa).get? b=none:=by
 induction fa with
 | nil=>cases m
 | cons a fa ih =>
  by_cases q:b=a
  ·subst q; exact free_none _ _
  ·rw [wipe,Zm _ _ (Ne.symm q)]
   exact ih ((Yu.mp m).resolve_left q)
theorem wipe_out (h:Heap) (m:b ∉ fa):(wipe h fa).get? b=h.get? b:=by
 induction fa with
 | nil=>rfl
 | cons a fa ih =>
  rw [wipe,Zm _ _ (fun q=>m (by rw [q]; exact Yc))]
  exact ih fun q=>m (Yb _ q)
theorem wipe_some (e:(wipe h fa).get? b=some o):b ∉ fa∧h.get? b=some o:=by
 by_cases m:b∈fa
 ·rw [wipe_in h m] at e; cases e
 ·exact ⟨m,(wipe_out h m).symm.trans e⟩
structure Fl (fr:List Env) (e:Addr) (cls:String) (fl:Value) (h h':Heap):Prop where
 stays:(wipe h (adr fr)).StaysIn h'
 new:h.get? e=none
 fun_:h'.FunFrames (wipe h (adr fr)) fr
 tr:∃ a0,h'.TracedAtW (wipe h (adr fr)) e (.type cls) a0 fl
 ctx:E2 fun oe vs=>h'.get? e=some oe∧oe.data=.fields vs∧vs[2]? = some .none
 sl:∀ b∈adr fr,∀ o,h.get? b=some o→∃ sl,h'.get? b=some { o with slots:=sl }
theorem Fl.kp {fr h e cls fl h'} (x:Fl fr e cls fl h h'):Kp (adr fr) [] h h':=fun b o ho _=>by
 by_cases m:b∈adr fr
 ·obtain ⟨sl,hs⟩:=x.sl b m o ho
  exact ⟨sl,hs,fun n=>(n m).elim⟩
 ·exact .of (x.stays b o ((wipe_out h m).trans ho))
theorem wnone {e:Addr} (n:h.get? e=none):(wipe h fa).get? e=none:=none_of fun o q=>by
 have:=(wipe_some q).2
 rw [n] at this; cases this
theorem funFrames (hk:∀ e∈fr,e.scope.kind≠.module∧∃ L,e.frame=some L) (al:Alive H0 (adr fr) h) (W:Heap) (w:∀ L∈adr fr,W.get? L=none):h.FunFrames W fr:=by
 induction fr with
 | nil=>trivial
 | cons e fr ih =>
  obtain ⟨k,L,hL⟩:=hk e Yc
  have m:L∈adr (e::fr):=by simp [adr,hL]
  have sub:∀ a∈adr fr,a∈adr (e::fr):=fun a q=>by simp only [adr,List.filterMap_cons,hL]; exact Yb _ q
  obtain ⟨o,ho,hd⟩:=(al L m).2
  exact ⟨k,⟨L,o,hL,w L m,ho,hd⟩,ih (fun e q=>hk e (Yb _ q)) (fun a q=>al a (sub a q)) fun a q=>w a (sub a q)⟩
section
variable {h₁:Heap} {e:Addr} {cls:String} {Q:Unit→Shared→Prop}
theorem fl_entry {head a0:Value} {hadNext:Bool} {oe:Obj} {vs:Array Value} (hfr:A.frames=some (env::fr)) (hf:env.frame=some L) (hen:h.get? e=none) (hene:e ∉ adr (env::fr))
  (stays:(wipe h (adr (env::fr))).StaysIn h₁) (FF:h₁.FunFrames (wipe h (adr (env::fr))) (env::fr)) (he:h₁.get? e=some oe) (hcls:oe.cls=.type cls) (hd:oe.data=.fields vs) (v0:vs[0]? = some a0) (v1:1 < vs.size) (v2:vs[2]? = some .none)
  (sl:∀ b∈adr (env::fr),∀ o,h.get? b=some o→∃ sl,h₁.get? b=some { o with slots:=sl })
  (k:∀ h',Fl (env::fr) e cls (rawInt L) h h'→Q () (sh g t h')) :
  wpAny M A (do let a ← frameOf env; let pl ← entryPlaceOf L hadNext; let b ← EntryCells.newEntry head a .none (rawInt L) .none pl; setField (.ref e) 1 b) Q E (sh g t h₁):=by
 refine Yd (wpAny_frameOf_fun hfr FF hf fun h2 hs2=>?_)
 refine Yd (wpAny_entryPlaceOf fun pl hpl=>?_)
 unfold EntryCells.newEntry newFields
 refine Yd (wpAny_newObj_type ?_ (hpl.sizeOk5 _ _ _ _ _))
 have he2:h2.get? e=some oe:=(hs2.2.1 e hene).trans he
 have he3:=Yv (h:=h2) { cls:=.type "traceback",dict:=none,data:=.fields ([head,.ref L,.none,rawInt L,.none]++(if pl.isEmpty then List.replicate 6 Value.none else pl)).toArray } he2
 refine wpAny_setField he3 hd v1 (k _ ?_)
 have hTe:h2.objs.size≠e:=Nat.ne_of_gt (Heap.lt_size he2)
 have hd4:=Obj.data_mapFields hd (·.setIfInBounds 1 (Value.ref h2.objs.size))
 have he4:=Heap.get?_update_self (Obj.mapFields (·.setIfInBounds 1 (Value.ref h2.objs.size))) he3 (Obj.isFreed_of_fields hd4)
 have hT4:=(Zm (h2.push { cls:=.type "traceback",dict:=none,data:=.fields ([head,.ref L,.none,rawInt L,.none]++(if pl.isEmpty then List.replicate 6 Value.none else pl)).toArray })
  (Obj.mapFields (·.setIfInBounds 1 (Value.ref h2.objs.size))) (Ne.symm hTe)).trans (Heap.get?_push_size h2 rfl)
 have keep:∀ b o,b≠e→h2.get? b=some o→((h2.push { cls:=.type "traceback",dict:=none,data:=.fields ([head,.ref L,.none,rawInt L,.none]++(if pl.isEmpty then List.replicate 6 Value.none else pl)).toArray }).update e (Obj.mapFields (·.setIfInBounds 1 (Value.ref h2.objs.size)))).get? b=some o :=
  fun b o hb q=>(Zm _ _ (Ne.symm hb)).trans (Yv _ q)
 have ne:∀ b o,h.get? b=some o→b≠e:=fun b o q r=>by rw [r,hen] at q; cases q
 have slot:∀ b o,b≠e→h₁.get? b=some o→∃ sl,((h2.push { cls:=.type "traceback",dict:=none,data:=.fields ([head,.ref L,.none,rawInt L,.none]++(if pl.isEmpty then List.replicate 6 Value.none else pl)).toArray }).update e (Obj.mapFields (·.setIfInBounds 1 (Value.ref h2.objs.size)))).get? b=some { o with slots:=sl } :=
  fun b o hb q=>by obtain ⟨sl,q2⟩:=hs2.2.2 b o q; exact ⟨sl,keep b _ hb q2⟩
 refine ⟨fun b o q=>?_,hen,FF.of_keeps fun b o q r=>?_,⟨a0,_,_,h2.objs.size,_,_,he4,⟨(Obj.cls_mapFields _ _).trans hcls,by rw [Array.getElem?_setIfInBounds_ne (by decide)]; exact v0⟩,hd4,by simp [v1],none_of fun o q=>?_,hTe,hT4,rfl,?_⟩,⟨_,_,he4,hd4,by rw [Array.getElem?_setIfInBounds_ne (by decide)]; exact v2⟩,fun b m o q=>?_⟩
 ·obtain ⟨n,q2⟩:=wipe_some q
  exact keep b o (ne b o q2) ((hs2.2.1 b n).trans (stays b o q))
 ·obtain ⟨sl,q2⟩:=slot b o (fun z=>by rw [z,he] at q; injection q with q; subst q; exact r _ hd) q
  exact ⟨_,q2,rfl⟩
 ·have:=Heap.lt_size (stays _ o q)
  rw [← hs2.1] at this
  exact Nat.lt_irrefl _ this
 ·first | (simp; done) | (rcases hpl with rfl | ⟨_,_,_,_,_,_,_,rfl⟩<;>simp)
 ·obtain ⟨sl1,q1⟩:=sl b m o q
  obtain ⟨sl2,q2⟩:=slot b _ (ne b o q) q1
  exact ⟨sl2,q2⟩
theorem fl_note (hfr:Frs A (env::fr)) (al:Alive H0 (adr (env::fr)) h) (hf:env.frame=some L) (hx:Heap.NewExc h h₁ e cls)
  (k:∀ h',Fl (env::fr) e cls (rawInt L) h h'→Q () (sh g t h')):wpAny M A (noteFrame (.ref e) env) Q E (sh g t h₁):=by
 obtain ⟨ob,tp,he,hcls,hd⟩:=hx.there
 unfold noteFrame
 rw [hf]
 refine Yd (wpAny_field he hd (x:=.none) rfl ?_)
 rw [if_neg (by decide)]
 have al1:Alive H0 (adr (env::fr)) h₁:=fun b m=>⟨(al b m).1,(al b m).2.at (hx.keeps b)⟩
 exact fl_entry hfr.1 hf hx.new (al.notIn hx.new) (fun b o q=>hx.keeps b o (wipe_some q).2) (funFrames hfr.2 al1 _ fun _ m=>wipe_in h m) he hcls hd rfl (by simp) rfl (fun b _ o q=>⟨o.slots,hx.keeps b o q⟩) k
theorem fl_next (hfr:Frs A (env::fr)) (al:Alive H0 (adr (env::fr)) h) (hf:env.frame=some L) (x:Fl (env::fr) e cls .none h h₁)
  (k:∀ h',Fl (env::fr) e cls (rawInt L) h h'→Q () (sh g t h')):wpAny M A (noteFrame (.ref e) env) Q E (sh g t h₁):=by
 obtain ⟨a0,oe,vs,T,oT,ts,he,⟨hcls,v0⟩,hd,h1,hnT,hTe,hT,hdT,h3⟩:=x.tr
 obtain ⟨oc,vc,c1,c2,c3⟩:=x.ctx
 rw [he] at c1; injection c1 with c1; subst c1
 rw [hd] at c2; injection c2 with c2; subst c2
 unfold noteFrame
 rw [hf]
 refine Yd (wpAny_field he hd h1 ?_)
 rw [if_pos (show (Value.ref T != Value.none)=true from by simp)]
 refine Yd (wpAny_field hT hdT h3 ?_)
 rw [if_neg (show ¬ ((Value.none == rawInt L)=true) from by simp [rawInt])]
 refine Yd (wpAny_setField hT hdT (Array.getElem?_eq_some_iff.mp h3).1 ?_)
 have other:∀ b,b≠T→(h₁.update T (Obj.mapFields (·.setIfInBounds 3 Value.none))).get? b=h₁.get? b:=fun b hb=>Zm _ _ (Ne.symm hb)
 have noRec:∀ b o,h₁.get? b=some o→(∀ vs,o.data≠.fields vs)→b≠T:=fun b o hb hnf q=>by
  rw [q,hT] at hb; injection hb with hb; subst hb; exact hnf ts hdT
 refine fl_entry hfr.1 hf x.new (al.notIn x.new) (fun b o q=>(other b fun z=>by rw [z,hnT] at q; cases q).trans (x.stays b o q)) (x.fun_.of_keeps fun b o q r=>⟨o,(other b (noRec b o q r)).trans q,rfl⟩) ((other e (Ne.symm hTe)).trans he) hcls hd v0 (Array.getElem?_eq_some_iff.mp h1).1 c3 (fun b m o q=>?_) k
 obtain ⟨sl,hs⟩:=x.sl b m o q
 obtain ⟨o',ho',hd'⟩:=(al b m).2
 rw [q] at ho'; injection ho' with ho'; subst ho'
 exact ⟨sl,(other b (noRec b _ hs hd')).trans hs⟩
theorem fl_again (hf:env.frame=some L) (x:Fl (env::fr) e cls (rawInt L) h h₁) (k:Q () (sh g t h₁)):wpAny M A (noteFrame (.ref e) env) Q E (sh g t h₁) :=
 (by obtain ⟨_,y⟩:=x.tr; exact wpAny_noteFrame_againW hf y k)
theorem fl_flight {f:Option Addr} (al:Alive H0 (adr fr) h) (x:Fl fr e cls fl h h₁) (k:∀ h',Fl fr e cls (f.elim .none fun f=>rawInt f) h h'→Q () (sh g t h')):wpAny M A (setFlight (.ref e) f) Q E (sh g t h₁):=by
 obtain ⟨a0,oe,vs,T,oT,ts,he,hcls,hd,h1,hnT,hTe,hT,hdT,h3⟩:=x.tr
 have hsz3:3 < ts.size:=(Array.getElem?_eq_some_iff.mp h3).1
 have other:∀ b,b≠T→(h₁.update T (Obj.mapFields (·.setIfInBounds 3 (f.elim Value.none fun f=>rawInt f)))).get? b=h₁.get? b:=fun b hb=>Zm _ _ (Ne.symm hb)
 have noRec:∀ b o,h₁.get? b=some o→(∀ vs,o.data≠.fields vs)→b≠T:=fun b o hb hnf q=>by
  rw [q,hT] at hb; injection hb with hb; subst hb; exact hnf ts hdT
 unfold setFlight
 refine Yd (wpAny_field he hd h1 ?_)
 rw [if_pos (show (Value.ref T != Value.none)=true from by simp)]
 refine wpAny_setField hT hdT hsz3 (k _ ⟨fun b o hbo=>(other b fun q=>by rw [q,hnT] at hbo; cases hbo).trans (x.stays b o hbo),x.new,
  x.fun_.of_keeps fun b o hb hnf=>⟨o,(other b (noRec b o hb hnf)).trans hb,rfl⟩,⟨a0,?_⟩,(by obtain ⟨oc,vc,c1,c2,c3⟩:=x.ctx; exact ⟨oc,vc,(other e (Ne.symm hTe)).trans c1,c2,c3⟩),fun b m o ho=>?_⟩)
 ·exact ⟨oe,vs,T,_,_,(other e (Ne.symm hTe)).trans he,hcls,hd,h1,hnT,hTe,Heap.get?_update_self _ hT (Obj.isFreed_of_fields (Obj.data_mapFields hdT _)),Obj.data_mapFields hdT _,by simp [hsz3]⟩
 ·obtain ⟨sl,hs⟩:=x.sl b m o ho
  obtain ⟨o',ho',hd'⟩:=(al b m).2
  rw [ho] at ho'; injection ho' with ho'; subst ho'
  exact ⟨sl,(other b (noRec b _ hs hd')).trans hs⟩
theorem fl_land (x:Fl fr e cls fl h h₁) (al:Alive H0 (adr fr) h) (k:∀ h',Fl fr e cls .none h h'→Q () (sh g t h')):wpAny M A (setFlight (.ref e) none) Q E (sh g t h₁):=fl_flight (f:=none) al x k
theorem fl_back (x:Fl fr e cls fl h h₁) (al:Alive H0 (adr fr) h) (hf:env.frame=some L) (k:∀ h',Fl fr e cls (rawInt L) h h'→E (.ref e) (sh g t h')):cameBackBy M A env E (.ref e) (sh g t h₁):=by
 obtain ⟨a0,oe,vs,T,oT,ts,he,hcls,hd,h1,hnT,hTe,hT,hdT,h3⟩:=x.tr
 refine Yd (wpAny_field he hd h1 ?_)
 rw [if_neg (show ¬ ((Value.ref T == Value.none)=true) from by simp)]
 rw [hf]
 exact fl_flight al x k
theorem Fl.typeIs (x:Fl fr e cls fl h h₁):((sh g t h₁):Shared).TypeIs (.ref e) cls:=by
 obtain ⟨_,y⟩:=x.tr
 obtain ⟨o,ho,hc⟩:=y.there
 exact ⟨o,ho,hc⟩
end
noncomputable def sOf (v:Value):Option Str:=by
 cases v
 case str s _=>exact some s
 all_goals exact none
noncomputable def Strs (vs:List Value) (ss:List Str):Prop:=vs.map sOf=ss.map some
noncomputable abbrev eS (y x:Value):Bool:=sOf y == sOf x
noncomputable def ddl {α:Type} [BEq α] (ss:List α):List α:=ss.foldl (fun acc x=>if acc.any (fun y=>y == x) then acc else acc++[x]) []
theorem sOf_some {s:Str} (h:sOf v=some s):∃ t,v=.str s t:=by
 cases v
 case str x t=>exact ⟨t,congrArg (Value.str · t) (Zj h)⟩
 all_goals exact nS h
theorem Strs.mem {vs ss} (h:Strs vs ss) (m:v∈vs):∃ s∈ss,sOf v=some s:=by
 have:sOf v∈ss.map some:=h ▸ Yx.mpr ⟨v,m,rfl⟩
 obtain ⟨s,hs,e⟩:=Yx.mp this
 exact ⟨s,hs,e.symm⟩
theorem Strs.len {vs ss} (h:Strs vs ss):vs.length=ss.length:=by simpa using congrArg List.length h
theorem Strs.any {vs ss} (h:Strs vs ss) (x:Str) (v:Value) (hv:sOf v=some x):(vs.any fun y=>eS y v)=ss.any fun y=>y == x:=by
 have e:(vs.any fun y=>eS y v)=(vs.map sOf).any fun y=>y == some x:=by rw [List.any_map]; simp only [eS,hv]; rfl
 rw [e,h,List.any_map]
 congr 1
theorem Strs.dd_go:∀ {vs ss} (acc accS),Strs vs ss→Strs acc accS→Strs (vs.foldl (fun acc x=>if acc.any (fun y=>eS y x) then acc else acc++[x]) acc) (ss.foldl (fun acc x=>if acc.any (fun y=>y == x) then acc else acc++[x]) accS)
 | [],[],_,_,_,a=>a
 | [],_::_,_,_,h,_=>by simp [Strs] at h
 | _::_,[],_,_,h,_=>by simp [Strs] at h
 | v::vs,s::ss,acc,accS,h,a=>by
  have h1:sOf v=some s:=by simp [Strs] at h; exact h.1
  have h2:Strs vs ss:=by simp [Strs] at h ⊢; exact h.2
  refine Strs.dd_go (vs:=vs) (ss:=ss) _ _ h2 ?_
  dsimp only
  rw [a.any s v h1]
  split
  ·exact a
  ·show List.map sOf (acc++[v])=_
   rw [Yt,a,Yt]
   simp [h1]
theorem Strs.dd {vs ss} (h:Strs vs ss):Strs (dd eS vs) (ddl ss):=Strs.dd_go [] [] h rfl
theorem Strs.eq {A vs ss s} (h:Strs vs ss) {y x:Value} (hy:y∈vs) {xs} (hx:sOf x=some xs):SeqAt.EqAt A s y x (eS y x):=by
 obtain ⟨a,_,ea⟩:=h.mem hy
 obtain ⟨t,rfl⟩:=sOf_some ea
 obtain ⟨u,rfl⟩:=sOf_some hx
 exact SeqAt.EqAt.str_str a t xs u
noncomputable def cmpS:List Str→List Str→Bool
 | [],t=>t.isEmpty
 | x::xs,t=>if x∈t then cmpS xs (t.erase x) else false
theorem Strs.find:∀ {vs ss} (_:Strs vs ss) {x:Str},x∈ss→∃ j,∃ hj:j < vs.length,sOf vs[j]=some x∧(∀ m (hm:m < vs.length),m < j→sOf vs[m]≠some x)∧Strs (vs.eraseIdx j) (ss.erase x)
 | [],[],_,_,m=>nomatch m
 | [],_::_,h,_,_=>by simp [Strs] at h
 | _::_,[],_,_,m=>nomatch m
 | v::vs,s::ss,h,x,m=>by
  have h1:sOf v=some s:=by simp [Strs] at h; exact h.1
  have h2:Strs vs ss:=by simp [Strs] at h ⊢; exact h.2
  by_cases q:s=x
  ·subst q
   exact ⟨0,by simp,h1,fun m _ hm=>absurd hm (Nat.not_lt_zero _),by simpa using h2⟩
  ·obtain ⟨j,hj,e1,e2,e3⟩:=h2.find (x:=x) ((Yu.mp m).resolve_left (Ne.symm q))
   refine ⟨j + 1,by simpa using hj,by simpa using e1,fun m hm hlt=>?_,?_⟩
   ·cases m with
    | zero=>simp only [List.getElem_cons_zero,h1]; exact fun k=>q (Zj k)
    | succ m=>simpa using e2 m (by simpa using hm) (by exact Nat.le_of_lt_succ ‹_›)
   ·rw [List.erase_cons_tail (by simpa using q),List.eraseIdx_cons_succ]
    show sOf v::_=some s::_
    rw [h1]; exact congrArg _ e3
theorem b6 (name:Str) (cd pm kwd v u:Value):bindArgs (fdF 6 name cd pm kwd) ⟨[v,u],[]⟩=pure [(("first_args" : Str),v),(("second_args" : Str),u)]:=by rfl
theorem s_type1 {T:String} {np:Pos}
  (b:Bs H0 mg mb) (low:∀ a o,H0.get? a=some o→h.get? a=some o) (hn:mg x=none) (hv:mb x=some (.type T))
  (k:wpAny (model P w) A (eval e env) (fun v s1=>wpAny (model P w) A (call (.type T) [v]) Q E s1) E (sh g t h))
  (hs:autoParam (starEach [e] env=[(false,eval e env)]) tR)
  (hk:autoParam (env.scope.kind=.function) tR) (hl:autoParam (env.kindOf x=some .globalImplicit) tR) (hg:autoParam (env.globals=mainGlobals) tR) (hb:autoParam (env.builtins=builtinsNs) tR) (hd:autoParam ((x == ("__debug__" : Str))=false) tD) :
  wpAny (model P w) A (eval (.Call (.Name x np) [e] [] pos) env) Q E (sh g t h):=by
 refine Zb (s_bname b low hn hv ?_ hk hl hg hb hd)
 rw [hs]
 exact PySem.callWith_type rfl (Zx (Yz (Ze k (fun _ _ q=>Zn q) fun _ _ e=>e)))
theorem s_copy {F l}
  (H:St H0 B fa X L l F h) (x:Is h a (ListP xs)) (hsz:xs.length≤1000) (k:∀ h',St H0 B fa X L l ((h.objs.size,ListP xs)::F) h'→Q (.ref h.objs.size) (sh g t h')) :
  wpAny (model P w) A (call (.type "list") [.ref a]) Q E (sh g t h):=by
 obtain ⟨o,ho,n,rfl⟩:=x
 exact call_list_seq a (.inl rfl) ho rfl rfl (fun h' c' k' l'=>k h' (H.add (.of fun b o e _=>k' b o e) (Yy (Zf _)) ⟨_,l',c',rfl⟩)) (hsz:=by simp only [List.size_toArray]; exact Ye hsz (by decide))
structure Names (mg mb:Str→Option Value) (fu:Addr):Prop where
 u:mg "_deduplicate_unhashable" = some (.ref fu)
 l0:mg "list" = none
 l1:mb "list" = some (.type "list")
 v0:mg "ValueError" = none
 v1:mb "ValueError" = some (.type "ValueError")
noncomputable def cmp_call_S:Prop:=∀ {A:Around} {fr:List Env} {g} {R:Result→Shared→Prop} {h:Heap} {t} {f fu a b:Addr} {vs us:List Value} {ss rs:List Str} {name nu:Str} {cd pm kwd cu pu ku:Value} {n:Nat} (rm:Rm A (n + 4)) (hfr:Frs A fr) (al:Alive H0 (adr fr) h) (bs:Bs H0 mg mb) (low:∀ a o,H0.get? a=some o→h.get? a=some o) (hf:Fn H0 f (fdF 6 name cd pm kwd)) (hu:Fn H0 fu (fdF 5 nu cu pu ku)) (N:Names mg mb fu) (ha:Ob (adr fr) h a (ListP vs)) (hb:Ob (adr fr) h b (ListP us)) (hv:Strs vs ss) (hus:Strs us rs) (z1:vs.length≤1000) (z2:us.length≤1000) (hR:∀ h' t',Kp (adr fr) [] h h'→R (.ok (.ret (.bool (cmpS (ddl ss) (ddl rs))))) (sh g t' h')),codeAny (model P w) A (.call (.ref f) ⟨[.ref a,.ref b],[]⟩) R (sh g t h)
end
namespace cmp_call
def zq0:=fun zk0=>(by
 intro A fr g R h t f fu a b vs us ss rs name nu cd pm kwd cu pu ku n rm hfr al bs low hf hu N ha hb hv hus z1 z2 hR
 refine s_enter bs low hf hfr al rm.room rfl (b6 _ _ _ _ _ _) fun h₁ t1 H hF=>?_
 have rm':=rm.deeper (envF (fdF 6 name cd pm kwd) h.objs.size f)
 revert rm hfr al bs low hf hu N ha hb hv hus z1 z2 hR H hF rm'
 have zd0:Nat:=0
 have zd1:Nat:=0
 have zd2:Nat:=0
 have zd3:Nat:=0
 have zd4:Nat:=0
 have zd5:Nat:=0
 have zd6:Nat:=0
 have zd7:Nat:=0
 have zd8:Nat:=0
 have zd9:Nat:=0
 revert A fr g R h f fu a b vs us ss rs name nu cd pm kwd cu pu ku n h₁ t1 zd0 zd1 zd2 zd3 zd4 zd5 zd6 zd7 zd8 zd9
 exact zk0:cmp_call_S)
namespace zp0
@[irreducible] def zc:=pick34 zq0 (by (repeat any_goals apply np)<;>first | exact neW | exact neA | exact neD | exact neS | infer_instance | exact ⟨by constructor<;>exact default⟩)
def A:=zc.1.1
def fr:=zc.1.2.1
def g:=zc.1.2.2.1
def R:=zc.1.2.2.2.1
def h:=zc.1.2.2.2.2.1
def f:=zc.1.2.2.2.2.2.1
def fu:=zc.1.2.2.2.2.2.2
def a:=zc.2.1.1
def b:=zc.2.1.2.1
def vs:=zc.2.1.2.2.1
def us:=zc.2.1.2.2.2.1
def ss:=zc.2.1.2.2.2.2.1
def rs:=zc.2.1.2.2.2.2.2.1
def name:=zc.2.1.2.2.2.2.2.2
def nu:=zc.2.2.1.1
def cd:=zc.2.2.1.2.1
def pm:=zc.2.2.1.2.2.1
def kwd:=zc.2.2.1.2.2.2.1
def cu:=zc.2.2.1.2.2.2.2.1
def pu:=zc.2.2.1.2.2.2.2.2.1
def ku:=zc.2.2.1.2.2.2.2.2.2
def n:=zc.2.2.2.1.1
def h₁:=zc.2.2.2.1.2.1
def t1:=zc.2.2.2.1.2.2.1
def zd0:=zc.2.2.2.1.2.2.2.1
def zd1:=zc.2.2.2.1.2.2.2.2.1
def zd2:=zc.2.2.2.1.2.2.2.2.2.1
def zd3:=zc.2.2.2.1.2.2.2.2.2.2
def zd4:=zc.2.2.2.2.1
def zd5:=zc.2.2.2.2.2.1
def zd6:=zc.2.2.2.2.2.2.1
def zd7:=zc.2.2.2.2.2.2.2.1
def zd8:=zc.2.2.2.2.2.2.2.2.1
def zd9:=zc.2.2.2.2.2.2.2.2.2
def zq :=
 all34 zq0 A fr g R h f fu a b vs us ss rs name nu cd pm kwd cu pu ku n h₁ t1 zd0 zd1 zd2 zd3 zd4 zd5 zd6 zd7 zd8 zd9 (by with_unfolding_all rfl) (by
 intro rm hfr al bs low hf hu N ha hb hv hus z1 z2 hR H hF rm'
 refine Yh (Yq (s_call1 bs H.low N.u hu (s_ld H ⟨H.low,?_⟩)))
 refine dedup_call (e:=eS) (n:=n + 1) rm'.rd (fun _ _=>.inl rm'.1) hF H.al bs H.low hu (H.oldO ha) (Ye z1 (by decide)) (fun A' s' r k y hy x hx=>?_) fun h₂ t2 b1 K1 n1 i1=>?_
 ·obtain ⟨_,_,e⟩:=hv.mem hx
  exact hv.eq hy e
 refine s_st (H.add K1 n1 i1) fun h3 t3 H3=>?_
 refine Yh (Yq (s_call1 bs H3.low N.u hu (s_ld H3 ⟨H3.low,?_⟩)))
 refine dedup_call (e:=eS) (n:=n + 1) rm'.rd (fun _ _=>.inl rm'.1) hF H3.al bs H3.low hu (H3.oldO hb) (Ye z2 (by decide)) (fun A' s' r k y hy x hx=>?_) fun h4 t4 b2 K2 n2 i2=>?_
 ·obtain ⟨_,_,e⟩:=hus.mem hx
  exact hus.eq hy e
 refine s_st (H3.add K2 n2 i2) fun h5 t5 H5=>?_
 have zs:(dd eS us).length≤1000:=by
  have:=dd_len eS us us.length
  rw [List.take_length] at this
  exact Ye this z2
 refine Yh (Yq (s_type1 bs H5.low N.l0 N.l1 (s_ld H5 (s_copy H5 (H5.at (i:=0) rfl) zs fun h6 H6=>?_))))
 refine s_st H6 fun h7 t7 H7=>?_
 refine Yh (wpAny_Try_except ?_)
 refine Yh (wpAny_For (s_ld H7 (wpAny_pyIter_list (H7.at (i:=2) rfl).list ?_)))
 have H8:=H7.push { cls:=.type "list_iterator",data:=.fields #[.ref b1,.int 0 0] } (p:=IterP b1 0) ⟨rfl,rfl⟩
 refine s_forList (a:=b1) (xs:=dd eS vs) (fun i h'=>E3 fun l ts T=>A5 (St H0 h (adr fr) [] h.objs.size l [(h7.objs.size,IterP b1 i),(h5.objs.size,ListP ts),(b2,ListP (dd eS us)),(b1,ListP (dd eS vs))] h') (l.lookup ("t" : Str)=some (.ref h5.objs.size)) (Strs ts T) (ts.length≤1000) (cmpS ((ddl ss).drop i) T=cmpS (ddl ss) (ddl rs))) (fun _ _=>.inl rm'.1) (fun i h' q=>?_) (fun i v h' t' h'' hvi q hit sb=>?_) (fun h' t' h'' q sb=>?_) ⟨_,_,_,H8,by rfl,hus.dd,?_,rfl⟩
 ·obtain ⟨l,ts,T,H',_⟩:=q
  exact ⟨(H'.at (i:=0) rfl).iter,(H'.at (i:=3) rfl).list⟩
 ·obtain ⟨l,ts,T,H',hm,hT,hz,hc⟩:=q
  have hfr1:=hv.dd
  have e0:((dd eS vs).map sOf)[i]? = some (sOf v):=by rw [Zc,hvi]; rfl
  rw [hfr1,Zc] at e0
  obtain ⟨x,hx,ex⟩:∃ x,(ddl ss)[i]? = some x∧sOf v=some x:=by
   cases q:(ddl ss)[i]? with
   | none=>rw [q] at e0; cases e0
   | some x=>rw [q] at e0; exact ⟨x,rfl,(Zj e0).symm⟩
  have hil:i < (ddl ss).length:=(List.getElem?_eq_some_iff.mp hx).1
  have hdr:(ddl ss).drop i=x::(ddl ss).drop (i + 1):=by
   rw [List.drop_eq_getElem_cons hil,(List.getElem?_eq_some_iff.mp hx).2]
  rw [hdr] at hc
  have H9:=H'.upd 0 rfl sb (isIter hit)
  have eg:∀ y,y∈ts.toArray→MeetsSeq.EqGives y v (eS y v):=fun y hy prog w A E s Q hq=>(hT.eq (by simpa using hy) ex) prog w E Q hq
  refine Zl (s_st H9 fun h10 t10 H10=>?_)
  refine Yh (wpAny_Expr_any (wpAny_Call_method1_late (by rfl) (by rfl) (by rfl) (s_ld H10 ⟨"list", "list.remove",F.plainAttrs_list,F.slot_list_remove,F.type_list_remove,?_,?_,?_⟩ (hv:=hm))))
  ·obtain ⟨o,ho,n,rfl⟩:=H10.at (i:=1) rfl
   exact ⟨_,ho,rfl⟩
  ·rintro a ⟨⟩
   obtain ⟨o,ho,n,rfl⟩:=H10.at (i:=1) rfl
   exact ⟨_,ho,rfl⟩
  obtain ⟨o,ho,nt,rfl⟩:=H10.at (i:=1) rfl
  by_cases hin:x∈T
  ·obtain ⟨j,hj,j1,j2,j3⟩:=hT.find hin
   refine P.remove_list (s_ld H10 ⟨ts.toArray,nt,fun y=>eS y v,j,by simpa using hj,by simp only [List.size_toArray]; exact Ye hz (by decide),ho,eg,by simp [j1,ex],fun m hm1 hm2=>by simpa [ex] using j2 m (by simpa using hm1) hm2,?_⟩)
   have H11:=H10.upd 1 rfl (h':=h10.update h5.objs.size (Obj.mapSeq fun xs=>xs.eraseIdxIfInBounds j)) (fun b o hb e=>(Zm _ _ (Ne.symm hb)).trans e) (p':=ListP (ts.eraseIdx j)) (by
    have e:=IsL.update ho (fun xs=>xs.eraseIdxIfInBounds j)
    have e1:ts.toArray.eraseIdxIfInBounds j=(ts.eraseIdx j).toArray:=by simp
    rw [e1] at e
    exact isPlain ⟨_,e⟩)
   refine Ym ⟨_,_,rfl,_,_,_,H11,hm,j3,by rw [List.length_eraseIdx]; split<;>exact Ye (Nat.sub_le _ _) ‹_›,?_⟩
   rw [← hc]
   exact (if_pos hin).symm
  ·refine seqMethod1_meets F.slot_list_remove F.entry_list_remove (s_ld H10 ⟨⟨_,ho,rfl⟩,F.args_list_remove_2 _ _,_,MeetsSeq.list_remove_none _ ts.toArray nt v (fun y=>eS y v) eg (fun m hm1=>?_),ho,rm'.1,fun h11 t11 ex1 hx1=>?_⟩)
   ·have m2:sOf ts[m]≠some x:=fun k=>hin (by
     have:sOf ts[m]∈ts.map sOf:=Yx.mpr ⟨_,List.getElem_mem _,rfl⟩
     rw [hT,k] at this
     simpa using this)
    simpa [ex] using m2
   refine fl_note hF H10.al rfl hx1 fun h12 x12=>?_
   refine fl_back x12 H10.al rfl fun h13 x13=>?_
   refine fl_again rfl x13 (fl_land x13 H10.al fun h14 x14=>?_)
   have H14:=H10.call x14.kp
   refine wpAny_handleBy_builtin (T := "ValueError") (X := "ValueError") (b:=true) F.isExc_ValueError F.notTuple_ValueError (by rw [isSubtype_type]; kernel_rfl) (s_bname bs H14.low N.v0 N.v1 ⟨rfl,x14.typeIs,?_⟩)
   refine fl_land x14 H10.al fun h15 x15=>?_
   have H15:=H10.call x15.kp
   refine Yh (Zd (wpAny_Constant_bool ?_))
   have:=hR h15 t11 H15.kp
   rw [← hc] at this
   simp only [cmpS,if_neg hin] at this
   exact this
 ·obtain ⟨l,ts,T,H',hm,hT,hz,hc⟩:=q
  have H9:=H'.lose (H'.fresh (i:=0) rfl) sb
  refine Ym (Ym ?_)
  refine Yh (Zd (wpAny_UnaryOp ?_))
  refine s_ld H9 (not_value (wpAny_truthy_list (H9.at (i:=0) rfl).list ?_ ?_)) (hv:=hm)
  ·have:(ts.length:Int)≤1000:=by exact_mod_cast hz
   simp only [List.size_toArray]
   lia
  have:=hR h'' (t' + 1 + 1) H9.kp
  rw [← hc,List.drop_eq_nil_of_le (by have:=hv.dd.len; exact Nat.le_of_eq this.symm)] at this
  have e:(!!ts.toArray.isEmpty)=T.isEmpty:=by
   have:=hT.len
   cases ts<;>cases T<;>simp_all
  rw [e]
  exact this
 ·exact zs)
end zp0
end cmp_call
section
variable {A:Around} {B:Heap} {fa X:List Addr} {L:Addr} {fr:List Env} {g:Array GenState} {E:Value→Shared→Prop} {env:Env} {x:Str} {fd:FuncData} {name:Str} {cd pm kwd:Value} {R:Result→Shared→Prop} {Q:Value→Shared→Prop} {pos:Pos} {e:Expr} {r:Addr} {fl:Value} {e2:Expr} {y:Str} {it:Addr} {p2 p1:Pos} {pl:Sem Bool} {id:String} {t0:Tok} {M:Model} {e1:Expr} {self:Value} {apos:Pos} {a f:Addr} {body:List Stmt} {F:Fs} {n:Nat} {l:List (Str×Value)} {i:Nat} {xs vs:List Value} {ss:List Str} {v:Value} {s:Shared} {h' h:Heap} {t:Nat}
theorem cmp_call:cmp_call_S:=@Wr.out _ cmp_call.zp0.zq
theorem lk_fk:typeLookup (.type "type") "fromkeys" = pure none:=by rw [typeLookup_type,builtinLookup_eq_fast]; kernel_rfl
theorem lk_dfk:typeLookup (.type "dict") "fromkeys" = pure (some (.builtin "dict.fromkeys")):=by rw [typeLookup_type,builtinLookup_eq_fast]; kernel_rfl
theorem ty_dfk:typeOf (.builtin "dict.fromkeys")=pure (.type "classmethod_descriptor"):=by show builtinType _=_; rw [builtinType_eq_fast]; kernel_rfl
theorem sl_ga:Slot "type" "__getattribute__" "type.__getattribute__" :=
 .of (owner := "type") (n := "__getattribute__") (by rw [typeLookup_type,builtinLookup_eq_fast]; kernel_rfl) (by decide +kernel) (by decide +kernel) (by decide +kernel)
  (by first | exact .inl (by decide +kernel) | exact .inr (by decide +kernel)) (by rw [isSubtype_type]; kernel_rfl)
theorem en_ga:entryFor table "type.__getattribute__" = some Builtin.«type.__getattribute__» := entryFor_of_tree (by kernel_rfl)
theorem sl_get:Slot "classmethod_descriptor" "__get__" "classmethod_descriptor.__get__" :=
 .of (owner := "classmethod_descriptor") (n := "__get__") (by rw [typeLookup_type,builtinLookup_eq_fast]; kernel_rfl) (by decide +kernel) (by decide +kernel) (by decide +kernel)
  (by first | exact .inl (by decide +kernel) | exact .inr (by decide +kernel)) (by rw [isSubtype_type]; kernel_rfl)
theorem en_get:entryFor table "classmethod_descriptor.__get__" = some Builtin.«classmethod_descriptor.__get__» := entryFor_of_tree (by kernel_rfl)
theorem eq_get:Builtin.«classmethod_descriptor.__get__» ⟨[.builtin "dict.fromkeys",.none,.type "dict"],[]⟩=(newFields "builtin_function_or_method" [.builtin "dict.fromkeys",.type "dict"] >>= fun v=>ret v):=by kernel_rfl
theorem call_get (k:Q (.ref h.objs.size) (sh g t (h.push { cls:=.type "builtin_function_or_method",data:=.fields #[.builtin "dict.fromkeys",.type "dict"] }))) :
  wpAny (model P w) A (call (.builtin "classmethod_descriptor.__get__") [.builtin "dict.fromkeys",.none,.type "dict"]) Q E (sh g t h):=by
 refine wpAny_call_entry sl_get (T := "classmethod_descriptor") ty_dfk en_get ?_ (by rfl)
 rw [eq_get]
 exact Yd (wpAny_newObj_type (Yn ⟨_,rfl,k⟩))
theorem eq_ga (t:Tok):Builtin.«type.__getattribute__» ⟨[.type "dict",.str "fromkeys" t],[]⟩=(holding [.builtin "dict.fromkeys"] (call (.builtin "classmethod_descriptor.__get__") [.builtin "dict.fromkeys",.none,.type "dict"]) >>= fun v=>ret v):=by kernel_rfl
theorem eq_gm (pl:Sem Bool):getMethod (.type "dict") "fromkeys" pl=(do
 let t ← fresh
 let v ← holding [.type "dict",.str "fromkeys" t] (getAttrByItsOwn (.type "dict") (.str "fromkeys" t) (.type "type") (.builtin "type.__getattribute__") true false)
 return (v,[])):=by kernel_rfl
theorem getMethod_fromkeys {Q:Value×List Value→Shared→Prop} (k:∀ t',Q (.ref h.objs.size,[]) (sh g t' (h.push { cls:=.type "builtin_function_or_method",data:=.fields #[.builtin "dict.fromkeys",.type "dict"] }))) :
  wpAny (model P w) A (getMethod (.type "dict") "fromkeys" pl) Q E (sh g t h):=by
 rw [eq_gm]
 refine Yd (wpAny_fresh (Yd (wpAny_holding ?_)))
 unfold getAttrByItsOwn
 refine Yd (wpAny_of_eq (a:=none) (by rfl) ?_)
 refine Yd (wpAny_attempt (wpAny_holding ?_))
 show wpAny _ _ (boundAndCalled _ _ _) _ _ _
 unfold boundAndCalled
 rw [sl_ga.bind]
 refine Yd (Yn ?_)
 refine wpAny_call_entry sl_ga (T := "type") rfl en_ga ?_ (by rfl)
 show wpAny _ _ (Builtin.«type.__getattribute__» ⟨[.type "dict",.str "fromkeys" t],[]⟩) _ _ _
 rw [eq_ga]
 refine Yd (wpAny_holding (call_get (Yn ⟨_,rfl,?_⟩)))
 exact Yn (Yn (k _))
noncomputable def BoundP (id:String) (self:Value):OP:=fun o=>o = { cls:=.type "builtin_function_or_method",data:=.fields #[.builtin id,self] }
theorem bo_callWith {u:Addr} {args:List (Bool×Sem Value)} (hplain:args.any (·.1)=false)
  (k:wpAny (model P w) A (evalArgs (.ref u) true args []) (fun x s1=>Is s1.heap u (BoundP id self)∧wpAny (model P w) A (call (.ref u) x.pos x.kw) Q E s1) E s):wpAny (model P w) A (callWith pos (.ref u) [] args []) Q E s:=by
 unfold callWith
 refine Yd (wpAny_holding (Ze k (fun x s1 h1=>Yd (wpAny_standAt ?_)) fun _ _ x=>x))
 obtain ⟨⟨o,ho,rfl⟩,hcall⟩:=h1
 rw [hplain]
 refine Yd (m:=keeperOf (.ref u)) ?_
 unfold keeperOf
 refine Yd (wpAny_load ho ?_)
 refine Yn ?_
 exact Yd (Ze hcall (fun r s2 hr=>Yd (wpAny_holding (wpAny_point (Yn hr)))) fun _ _ x=>x)
theorem bo_call {u:Addr} {b:Builtin} (ho:Is s.heap u (BoundP id self)) (hq:plainId id=true) (hb:entryFor table id=some b)
  (hc:checkBoundCall id ⟨self::vs,[]⟩=pure ())
  (k:wpAny (model P w) A.in1 (b ⟨self::vs,[]⟩) (fun fin s'=>match fin with | .done f=>wants Q E (.ok f) s' | .again c'=>c'.quiet=true∧codeAny (model P w) A c' (wants Q E) s') (fun e s'=>wants Q E (.error e) s') s) :
  wpAny (model P w) A (call (.ref u) vs) Q E s:=by
 obtain ⟨o,ho,rfl⟩:=ho
 refine wpAny_call (codeAny_of_tree ?_)
 show wpAny _ A.in1 (callAny (.ref u) ⟨vs,[]⟩) _ _ s
 refine nd_load ho ?_
 refine Yd (m:=checkBoundCall id ⟨self::vs,[]⟩) (wpAny_of_eq (a:=()) hc ?_)
 refine Yd (Yn (Yn ?_))
 exact ⟨plainId_quiet hq _,codeAny_builtin hb (by rw [Around.under_plainId hq]; exact k)⟩
theorem ck_fk (v:Value):checkBoundCall "dict.fromkeys" ⟨[.type "dict",v],[]⟩=pure ():=by kernel_rfl
theorem pl_fk:plainId "dict.fromkeys" = true:=by decide +kernel
theorem pl_fkl:plainId "dict.fromkeys.loop" = true:=by decide +kernel
theorem en_fk:entryFor table "dict.fromkeys" = some Builtin.«dict.fromkeys» := entryFor_of_tree (by kernel_rfl)
theorem en_fkl:entryFor table "dict.fromkeys.loop" = some Builtin.«dict.fromkeys.loop» := entryFor_of_tree (by kernel_rfl)
theorem tc_d0:checkTypeCall "dict" ⟨[],[]⟩=pure ():=by kernel_rfl
theorem nc_d0:checkBuiltinCall "dict.__new__" ⟨[.type "dict"],[]⟩=pure ():=by kernel_rfl
theorem mro_d:mroOf (.type "dict")=pure [.type "dict",.type "object"]:=by rw [mroOf_type]; kernel_rfl
theorem sub_d:isSubtype (.type "dict") (.type "dict")=pure true:=by rw [isSubtype_type]; kernel_rfl
theorem args_d0 (a:Value):argsOk "dict.__init__" ⟨[a],[]⟩:=by
 first
 | (unfold argsOk; rw [signature?_of (id := "dict.__init__") (n:=['_', '_', 't', 'i', 'n', 'i', '_', '_']) (o:=['t', 'c', 'i', 'd']) (by kernel_rfl) F.owner_dict]; kernel_rfl)
theorem code_d0 {Q₁:Value→Shared→Prop} (k:Q₁ (.ref h.objs.size) (sh g t (h.push { cls:=.type "dict",data:=.dict #[] }))) :
  codeAny (model P w) A (.call (.builtin "dict.__new__") ⟨[.type "dict"],[]⟩) (wants Q₁ E) (sh g t h):=by
 refine codeAny_call_builtin F.kt_plain_dict_new F.kt_entry_dict_new (wpAny_of_eq nc_d0 ?_)
 have hsub:=sub_d
 have hmro:=mro_d
 unfold Builtin.«dict.__new__»
 wp_walk
 exact k
theorem call_d0 (k:Q (.ref h.objs.size) (sh g t (h.push { cls:=.type "dict",data:=.dict #[] }))):wpAny (model P w) A (call (.type "dict") []) Q E (sh g t h):=by
 refine callType_codes (Q₁:=fun obj s1=>obj=.ref h.objs.size∧s1=(sh g t (h.push { cls:=.type "dict",data:=.dict #[] }))) F.kt_called_dict tc_d0 F.entry_dict_init (code_d0 ⟨rfl,rfl⟩) ?_
 rintro obj s1 ⟨rfl,rfl⟩
 have hT:((sh g t (h.push { cls:=.type "dict",data:=.dict #[] })):Shared).TypeIs (.ref h.objs.size) "dict" := ⟨_,Heap.get?_push_size _ rfl,rfl⟩
 refine ⟨hT,args_d0 _,?_⟩
 unfold Builtin.«dict.__init__»
 refine Yd ?_
 unfold Builtin.Dict.selfAndRest
 refine Yd (wpAny_notOrdered_dict hT ?_)
 show wpAny _ _ (pure (h.objs.size,([]:List Value))) _ _ _
 refine Yn ?_
 show wpAny _ _ (Builtin.Dict.updateCommon "dict.__init__" "dict" h.objs.size [] []) _ _ _
 first
 | exact wpAny_of_eq (a:=.done (.ret .none)) (by kernel_rfl) ⟨rfl,k⟩
 | (unfold Builtin.Dict.updateCommon; exact Yd (Yn (Yn ⟨rfl,k⟩)))
 | exact Yn ⟨rfl,k⟩
noncomputable abbrev SK (w:World):=strKind P w
noncomputable def DictP (w:World) (kvs:List (Str×Value)):OP:=fun o=>E2 fun es ep=>o.ExactDict∧o.data=.dict es ep∧KeysOf (SK w) es∧Pairs (SK w) es.toList kvs∧(kvs.map (·.1)).Nodup
theorem Is.dict {w h a kvs} (x:Is h a (DictP w kvs)):h.DictOf (SK w) a kvs:=by obtain ⟨o,e,es,ep,r⟩:=x; exact ⟨o,es,ep,e,r⟩
theorem isDict {w} {a kvs} (x:h.DictOf (SK w) a kvs):Is h a (DictP w kvs):=by obtain ⟨o,es,ep,e,r⟩:=x; exact ⟨o,e,es,ep,r⟩
noncomputable abbrev nones (ss:List Str):List (Str×Value):=ss.map fun s=>(s,.none)
theorem stored_nones (l:List Str) (x:Str):stored (nones l) x .none=nones (if l.any (fun y=>y == x) then l else l++[x]):=by
 unfold stored
 have e:(nones l).any (fun kv=>decide (kv.1=x))=l.any fun y=>y == x:=by
  rw [List.any_map]
  congr 1
 rw [e]
 cases hq:l.any fun y=>y == x with
 | false=>simp
 | true =>
  simp only [if_true,List.map_map]
  refine List.map_congr_left fun y _=>?_
  show (if y=x then _ else _)=_
  split<;>rfl
theorem ddl_snoc (ss:List Str) (i:Nat) (x:Str) (hx:ss[i]? = some x):ddl (ss.take (i + 1))=if (ddl (ss.take i)).any (fun y=>y == x) then ddl (ss.take i) else ddl (ss.take i)++[x]:=by
 unfold ddl
 rw [List.take_add_one,hx,List.foldl_append]
 rfl
theorem Strs.get {vs ss} (h:Strs vs ss) (hv:vs[i]? = some v):E2 fun x t=>ss[i]? = some x∧v=.str x t:=by
 have e:(vs.map sOf)[i]? = some (sOf v):=by rw [Zc,hv]; rfl
 rw [h,Zc] at e
 cases q:ss[i]? with
 | none=>rw [q] at e; cases e
 | some x =>
  rw [q] at e
  obtain ⟨t,rfl⟩:=sOf_some (Zj e).symm
  exact ⟨x,t,rfl,rfl⟩
theorem ddl_len (ss:List Str):∀ n,(ddl (ss.take n)).length≤n
 | 0=>by simp [ddl]
 | n + 1=>by
  have ih:=ddl_len ss n
  cases hx:ss[n]? with
  | none =>
   have:ss.length≤n:=by simpa using hx
   rw [List.take_of_length_le (Nat.le_succ_of_le this)]
   rw [List.take_of_length_le this] at ih
   exact Nat.le_succ_of_le ‹_›
  | some x =>
   rw [ddl_snoc ss n x hx]
   split
   ·exact Nat.le_succ_of_le ‹_›
   ·rw [Zw]; simp; exact ih
theorem fk_loop {D:Addr} (hs:Strs vs ss) (hz:vs.length≤1000) (hh:A.handled=none) (n1:D≠it) (n2:a≠D) (n3:a≠it) :
  ∀ n i h t,vs.length - i=n→i≤vs.length→h.IsListIter it a i→h.IsList a vs.toArray→h.DictOf (SK w) D (nones (ddl (ss.take i))) →
   (∀ h' t',h'.DictOf (SK w) D (nones (ddl ss))→(∀ b o,b≠D→b≠it→h.get? b=some o→h'.get? b=some o)→Q (.ref D) (sh g t' h')) →
   codeAny (model P w) A (.builtin "dict.fromkeys.loop" ⟨[.ref D,.ref it,.none],[]⟩) (wants Q E) (sh g t h):=by
 intro n
 induction n with
 | zero =>
  intro i h t hn hi hit hl hd k
  refine codeAny_builtin en_fkl ?_
  rw [Around.under_plainId pl_fkl]
  unfold Builtin.«dict.fromkeys.loop»
  refine Yd (wpAny_pyNext_list_end (by exact hh) hit hl (by simp; lia) fun h' he=>?_)
  refine Yn ?_
  have:i=vs.length:=by exact sb4 ‹_› ‹_›
  subst this
  rw [hs.len,List.take_length] at hd
  exact k _ _ (hd.extBut he n1) fun b o hb hb2 e=>he b o hb2 e
 | succ n ih =>
  intro i h t hn hi hit hl hd k
  refine codeAny_builtin en_fkl ?_
  rw [Around.under_plainId pl_fkl]
  unfold Builtin.«dict.fromkeys.loop»
  have hlt:i < vs.length:=by exact Nat.lt_of_sub_eq_succ ‹_›
  have hv:vs[i]? = some vs[i]:=Yj hlt
  obtain ⟨x,tx,hx,ex⟩:=hs.get hv
  refine Yd (wpAny_pyNext_list_item hit hl (x:=vs[i]) (by simpa using hv) fun h' hit' sb=>?_)
  rw [ex]
  have hd':=hd.sameBut sb n1
  refine Yd (wpAny_typeOf hd'.typeIs ?_)
  refine Yd (wpAny_of_eq (a:=D) (by rfl) ?_)
  refine Yd (wpAny_holding (wpAny_dictSet_pairs (knd:=SK w) (k:=x) (strKind_is _ _ x tx) hd' (fun h'' hd'' sb''=>?_) (hsz:=?_)))
  ·rw [stored_nones,← ddl_snoc ss i x hx] at hd''
   refine Yn ⟨plainId_quiet pl_fkl _,?_⟩
   refine codeAny_mono (ih (i + 1) h'' _ (by exact sb1 ‹_›) hlt ?_ ?_ hd'' fun h3 t3 hd3 kp=>k h3 t3 hd3 fun b o hb hb2 e=>kp b o hb hb2 ((sb''.2 b hb).trans ((sb.2 b hb2).trans e))) fun _ _ q=>q
   ·obtain ⟨o,ho,r⟩:=hit'
    exact ⟨o,(sb''.2 it (Ne.symm n1)).trans ho,r⟩
   ·obtain ⟨o,ho,r⟩:=hl
    exact ⟨o,(sb''.2 a n2).trans ((sb.2 a n3).trans ho),r⟩
  ·have:=ddl_len ss i
   rw [Yp]
   exact Ye this (Ye (Nat.le_of_lt hlt) (Ye hz (by decide)))
theorem s_fromkeys {F l} {np:Pos} (H:St H0 B fa X L l F h) (b:Bs H0 mg mb) (hn:mg "dict" = none) (hv:mb "dict" = some (.type "dict"))
  (k:∀ t' h',St H0 B fa X L l ((h.objs.size,BoundP "dict.fromkeys" (.type "dict"))::F) h'→wpAny (model P w) A (eval e env) (fun v s1=>Is s1.heap h.objs.size (BoundP "dict.fromkeys" (.type "dict"))∧wpAny (model P w) A (call (.ref h.objs.size) [v]) Q E s1) E (sh g t' h'))
  (hs:autoParam (starEach [e] env=[(false,eval e env)]) tR) (hline:autoParam ((apos.endLine == pos.line)=true) tR)
  (hk:autoParam (env.scope.kind=.function) tR) (hl:autoParam (env.kindOf "dict" = some .globalImplicit) tR) (hg:autoParam (env.globals=mainGlobals) tR) (hb:autoParam (env.builtins=builtinsNs) tR) :
  wpAny (model P w) A (eval (.Call (.Attribute (.Name "dict" np) "fromkeys" apos) [e] [] pos) env) Q E (sh g t h):=by
 rw [arm_eval_Call,show attributeBase (.Name "dict" np) "fromkeys" env (eval (.Name "dict" np) env)=eval (.Name "dict" np) env from rfl]
 refine Yd (s_bname b H.low hn hv ?_ hk hl hg hb)
 refine Yd (wpAny_standAt ?_)
 rw [hs]
 have fin:wpAny (model P w) A (methodCall (.Name "dict" np) "fromkeys" apos pos env (.type "dict") 1 [(false,eval e env)] []) Q E (sh g t h):=by
  unfold methodCall
  refine Yd (wpAny_holding ?_)
  refine getMethod_fromkeys fun t'=>?_
  refine Yd (wpAny_of_eq (a:=pos) (by unfold methodCallPos; simp [hline]) ?_)
  refine bo_callWith (id := "dict.fromkeys") (self:=.type "dict") rfl ?_
  refine Zx (Yz (Ze (k t' _ (H.push _ rfl)) (fun v s1 q=>Zn q) fun _ _ z=>z))
 exact fin
theorem b4 {g} {t} {u:Value} {kd:Addr} {m:Str→Option Value} (hn:h.Ns kd m) (hu:m "unhashable_fallback" = some u) (Q:List (Str×Value)→Shared→Prop) (E:Value→Shared→Prop)
 (hq:Q [("params",v),("unhashable_fallback",u)] (sh g t h)):wpAny (model P w) A (bindArgs (fdF 4 name cd pm (.ref kd)) ⟨[v],[]⟩) Q E (sh g t h):=by
 unfold bindArgs
 dsimp only
 refine Yd (wpAny_of_eq (a:=([(("params" : Str),v)],[])) (by rfl) ?_)
 refine Yd (wpAny_of_eq (a:=none) (by rfl) ?_)
 refine Yd (wpAny_of_eq (a:=[(("params" : Str),v)]) (by rfl) ?_)
 refine Yd ?_
 refine (show wpAny _ _ (forIn [("unhashable_fallback" : Str)] _ _) _ _ _ from ?_)
 rw [List.forIn_cons]
 refine Yd ?_
 refine (show wpAny _ _ (nsGet kd "unhashable_fallback" >>= _) _ _ _ from ?_)
 refine Yd (wpAny_nsGet hn ?_)
 rw [hu]
 refine Yn ?_
 refine Yn ?_
 exact Yn hq
structure NamesD (mg mb:Str→Option Value):Prop where
 d0:mg "dict" = none
 d1:mb "dict" = some (.type "dict")
theorem fk_body {F l} {u:Addr}
  (H:St H0 B fa X L l F h) (hu:Is h u (BoundP "dict.fromkeys" (.type "dict"))) (ha:Ob (L::fa) h a (ListP vs)) (hs:Strs vs ss) (hz:vs.length≤1000) (hh:A.handled=none)
  (k:∀ h' t',St H0 B fa X L l ((h.objs.size,DictP w (nones (ddl ss)))::F) h'→Q (.ref h.objs.size) (sh g t' h')) :
  wpAny (model P w) A (call (.ref u) [.ref a]) Q E (sh g t h):=by
 refine bo_call hu pl_fk en_fk (ck_fk _) ?_
 unfold Builtin.«dict.fromkeys»
 refine Yd (wpAny_of_eq (a:=true) (by kernel_rfl) ?_)
 refine Yd (wpAny_of_eq (a:=true) (by kernel_rfl) ?_)
 refine Yd (wpAny_rule ?_)
 refine Yd (Yn ?_)
 refine Yd (call_d0 ?_)
 have H1:=H.push { cls:=.type "dict",data:=.dict #[] } (p:=DictP w []) (by
  obtain ⟨o,ho,r⟩:=isDict (w:=w) (Heap.DictOf.new h)
  rw [Heap.get?_push_size _ rfl] at ho
  injection ho with ho
  subst ho
  exact r)
 have ha1:=ha.kp (.of fun b o e _=>Yv ({ cls:=.type "dict",data:=.dict #[] }:Obj) e)
 refine wpAny_holding (Yd (wpAny_typeOf ha1.1.list.typeIs ?_))
 refine Yd (wpAny_typeOf (H1.at (i:=0) rfl).dict.typeIs ?_)
 rw [if_neg (by decide)]
 refine Yd (wpAny_typeOf (H1.at (i:=0) rfl).dict.typeIs ?_)
 rw [if_neg (by decide)]
 refine Yd (wpAny_pyIter_list ha1.1.list ?_)
 have H2:=H1.push { cls:=.type "list_iterator",data:=.fields #[.ref a,.int 0 0] } (p:=IterP a 0) ⟨rfl,rfl⟩
 have ha2:=ha1.kp (.of fun b o e _=>Yv ({ cls:=.type "list_iterator",data:=.fields #[.ref a,.int 0 0] }:Obj) e)
 refine Yn ⟨plainId_quiet pl_fkl _,?_⟩
 obtain ⟨oa,eoa,_⟩:=ha.1
 have la:a < h.objs.size:=Heap.lt_size eoa
 have n1:=H2.ne (i:=1) (j:=0) rfl rfl (by decide)
 have n2:a≠h.objs.size:=Nat.ne_of_lt la
 have n3:a≠(h.push { cls:=.type "dict",data:=.dict #[] }).objs.size:=by
  rw [Heap.size_push]; exact Nat.ne_of_lt (Nat.lt_succ_of_lt la)
 refine fk_loop hs hz hh n1 n2 n3 _ 0 _ _ rfl (Zs _) (H2.at (i:=0) rfl).iter ha2.1.list (H2.at (i:=1) rfl).dict fun h' t' hd kp=>?_
 refine k h' t' (H2.chg [h.objs.size,(h.push { cls:=.type "dict",data:=.dict #[] }).objs.size] _ ?_ ?_ ?_ (fun b o hb e=>kp b o (fun q=>hb (by simp [q])) (fun q=>hb (by simp [q])) e) ?_)
 ·intro b hb
  simp only [Zq,Yu,List.not_mem_nil,or_false] at hb ⊢
  rcases hb with rfl | rfl<;>simp
 ·exact List.sublist_cons_self _ _
 ·intro b hb hn
  have:b=(h.push { cls:=.type "dict",data:=.dict #[] }).objs.size:=by
   simp only [Zq,Yu] at hb hn
   exact hb.resolve_right hn
  subst this
  exact H1.notOld (Yy (Zf _))
 ·intro x hx
  rcases Yu.mp hx with rfl | hx
  ·exact isDict hd
  ·refine (H2.has x (Yb _ (Yb _ hx))).at fun o e=>kp _ o ?_ ?_ e
   ·exact Nat.ne_of_lt (H.lt x hx)
   ·exact Nat.ne_of_lt (H1.lt x (Yb _ hx))
theorem ded_call {g} {t} {kd:Addr} {u:Value} {m:Str→Option Value}
  (rm:Rm A (n + 2)) (hfr:Frs A fr) (al:Alive H0 (adr fr) h) (bs:Bs H0 mg mb) (low:∀ a o,H0.get? a=some o→h.get? a=some o) (hf:Fn H0 f (fdF 4 name cd pm (.ref kd)))
  (hkd:H0.Ns kd m) (hu:m "unhashable_fallback" = some u) (N:NamesD mg mb)
  (ha:Ob (adr fr) h a (ListP vs)) (hs:Strs vs ss) (hz:vs.length≤1000)
  (hR:∀ h' t' b,Kp (adr fr) [] h h'→h.get? b=none→Is h' b (DictP w (nones (ddl ss)))→R (.ok (.ret (.ref b))) (sh g t' h')) :
  codeAny (model P w) A (.call (.ref f) ⟨[.ref a],[]⟩) R (sh g t h):=by
 refine s_enterW bs low hf hfr al rm.room rfl (fun Q E q=>b4 (hkd.keeps low) hu Q E q) fun h1 t1 H hF=>?_
 refine Yh (wpAny_Try_except ?_)
 refine Yh (Zd ?_)
 refine s_fromkeys H bs N.d0 N.d1 fun t2 h2 H2=>?_
 refine s_ld H2 ⟨H2.at (i:=0) rfl,?_⟩
 refine fk_body H2 (H2.at (i:=0) rfl) (H2.oldO ha) hs hz rm.1 fun h3 t3 H3=>?_
 exact hR h3 t3 _ H3.kp (H3.fresh (i:=0) rfl) (H3.at (i:=0) rfl)
theorem lk_lhash:typeLookup (.type "list") "__hash__" = pure (some .none):=by rw [typeLookup_type,builtinLookup_eq_fast]; kernel_rfl
theorem hash_list {items:Array Value} {Q:Int→Shared→Prop} (hl:h.IsList r items) (hh:A.handled=none) (hu:A.units < cLine)
  (k:∀ h' tk e,Heap.NewExc h h' e "TypeError" → E (.ref e) (sh g tk h')):wpAny (model P w) A (pyHash (.ref r)) Q E (sh g t h):=by
 have hT:=hl.typeIs (s:=(sh g t h))
 show wpAny _ _ (pyHashByItsType (.ref r)) _ _ _
 unfold pyHashByItsType
 refine Yd (wpAny_cRoomFor hu ?_)
 refine Yd (wpAny_specialOf hT lk_lhash ?_)
 rw [if_pos (by rfl)]
 refine Yd (wpAny_rule ?_)
 refine Yd (wpAny_typeNameOf' hT (by decide) ?_)
 refine Yd ?_
 exact wpAny_raiseErrorMade plainExc_TypeError hh k (by decide +kernel)
theorem fk_first {D:Addr} {items:Array Value} (hh:A.handled=none) (hu:A.units + 1 < cLine)
  (hit:h.IsListIter it a 0) (hl:h.IsList a vs.toArray) (hv:vs[0]? = some (.ref r)) (hr:h.IsList r items) (hd:h.DictOf (SK w) D []) (n1:D≠it) (n3:r≠it)
  (k:∀ h₁ h' tk e,(∀ b o,b≠it→h.get? b=some o→h₁.get? b=some o)→(∀ o,h.get? it=some o→∃ o',h₁.get? it=some o')→Heap.NewExc h₁ h' e "TypeError" → E (.ref e) (sh g tk h')) :
  codeAny (model P w) A (.builtin "dict.fromkeys.loop" ⟨[.ref D,.ref it,.none],[]⟩) (wants Q E) (sh g t h):=by
 refine codeAny_builtin en_fkl ?_
 rw [Around.under_plainId pl_fkl]
 unfold Builtin.«dict.fromkeys.loop»
 refine Yd (wpAny_pyNext_list_item hit hl (x:=.ref r) (by simpa using hv) fun h' hit' sb=>?_)
 have hd':=hd.sameBut sb n1
 refine Yd (wpAny_typeOf hd'.typeIs ?_)
 refine Yd (wpAny_of_eq (a:=D) (by rfl) ?_)
 refine Yd (wpAny_holding ?_)
 unfold dictSet
 refine wpAny_holding (Yd ?_)
 have hr':h'.IsList r items:=by
  obtain ⟨o,ho,q⟩:=hr
  exact ⟨o,(sb.2 r n3).trans ho,q⟩
 refine hash_list hr' hh hu fun h'' tk e hx=>k h' h'' tk e (fun b o hb e=>(sb.2 b hb).trans e) (fun o ho=>?_) hx
 obtain ⟨o',ho',_⟩:=hit'
 exact ⟨o',ho'⟩
theorem fk_raise {F l} {u:Addr} {rs:List Value}
  (H:St H0 B fa [] L l F h) (hu:Is h u (BoundP "dict.fromkeys" (.type "dict"))) (ha:Ob (L::fa) h a (ListP vs)) (hv:vs[0]? = some (.ref r)) (hr:Is h r (ListP rs)) (rm:Rm A (n + 1))
  (k:∀ h₁ h' t' e,St H0 B fa [] L l F h₁→Heap.NewExc h₁ h' e "TypeError" → E (.ref e) (sh g t' h')) :
  wpAny (model P w) A (call (.ref u) [.ref a]) Q E (sh g t h):=by
 refine bo_call hu pl_fk en_fk (ck_fk _) ?_
 unfold Builtin.«dict.fromkeys»
 refine Yd (wpAny_of_eq (a:=true) (by kernel_rfl) ?_)
 refine Yd (wpAny_of_eq (a:=true) (by kernel_rfl) ?_)
 refine Yd (wpAny_rule ?_)
 refine Yd (Yn ?_)
 refine Yd (call_d0 ?_)
 have hd0:Heap.DictOf (SK w) (h.push { cls:=.type "dict",data:=.dict #[] }) h.objs.size []:=Heap.DictOf.new h
 have H1:=H.push { cls:=.type "dict",data:=.dict #[] } (p:=fun _=>True) trivial
 have ha1:=ha.kp (.of fun b o e _=>Yv ({ cls:=.type "dict",data:=.dict #[] }:Obj) e)
 refine wpAny_holding (Yd (wpAny_typeOf ha1.1.list.typeIs ?_))
 refine Yd (wpAny_typeOf hd0.typeIs ?_)
 rw [if_neg (by decide)]
 refine Yd (wpAny_typeOf hd0.typeIs ?_)
 rw [if_neg (by decide)]
 refine Yd (wpAny_pyIter_list ha1.1.list ?_)
 have H2:=H1.push { cls:=.type "list_iterator",data:=.fields #[.ref a,.int 0 0] } (p:=IterP a 0) ⟨rfl,rfl⟩
 have ha2:=ha1.kp (.of fun b o e _=>Yv ({ cls:=.type "list_iterator",data:=.fields #[.ref a,.int 0 0] }:Obj) e)
 have hr2:=(hr.at (fun o e=>Yv ({ cls:=.type "dict",data:=.dict #[] }:Obj) e)).at (fun o e=>Yv ({ cls:=.type "list_iterator",data:=.fields #[.ref a,.int 0 0] }:Obj) e)
 refine Yn ⟨plainId_quiet pl_fkl _,?_⟩
 have n1:=H2.ne (i:=1) (j:=0) rfl rfl (by decide)
 have n3:r≠(h.push { cls:=.type "dict",data:=.dict #[] }).objs.size:=by
  rw [Heap.size_push]; exact Nat.ne_of_lt (Nat.lt_succ_of_lt hr.lt)
 refine fk_first rm.1 ?_ (H2.at (i:=0) rfl).iter ha2.1.list hv hr2.list (hd0.push _) n1 n3 fun h₁ h' tk e kp _ hx=>k h₁ h' tk e ?_ hx
 ·have:=rm.2.2
  lia
 ·exact (H2.lose (H1.notOld (Yy (Zf _))) kp).sub (List.sublist_cons_self _ _) fun x hx hX=>by
   rcases Yu.mp hx with rfl | hx
   ·simp at hX
   ·exact hx
theorem funBase {l:List Env} {W W':Heap} (x:h.FunFrames W l) (k:∀ L∈adr l,W'.get? L=none):h.FunFrames W' l:=by
 induction l with
 | nil=>trivial
 | cons e l ih =>
  obtain ⟨a,⟨L,o,hf,_,ho,hd⟩,r⟩:=x
  have sub:∀ a∈adr l,a∈adr (e::l):=fun a q=>by simp only [adr,List.filterMap_cons,hf]; exact Yb _ q
  exact ⟨a,⟨L,o,hf,k L (by simp [adr,hf]),ho,hd⟩,ih r fun L m=>k L (sub L m)⟩
theorem Fl.out {F l} {e:Addr} {cls:String} (H:St H0 B (adr fr) [] L l F h) (hL:env.frame=some L) (x:Fl (env::fr) e cls fl h h'):Fl fr e cls fl B h':=by
 have hadr:adr (env::fr)=L::adr fr:=by simp [adr,hL]
 have kp:=x.kp
 rw [hadr] at kp
 have old:∀ b o,B.get? b=some o→b≠L:=fun b o e q=>by rw [q,H.Ln] at e; cases e
 refine ⟨fun b o e=>?_,H.notOld x.new,?_,?_,x.ctx,fun b m o e=>?_⟩
 ·obtain ⟨n,e⟩:=wipe_some e
  refine kp.all ((H.kp b o e (by simp)).same n) fun m=>?_
  rcases Yu.mp m with q | m
  ·exact old b o e q
  ·exact n m
 ·exact funBase x.fun_.2.2 fun L m=>wipe_in _ m
 ·obtain ⟨a0,oe,vs,T,oT,ts,he,hcls,hd,h1,hnT,r⟩:=x.tr
  refine ⟨a0,oe,vs,T,oT,ts,he,hcls,hd,h1,none_of fun o e=>?_,r⟩
  obtain ⟨n,e⟩:=wipe_some e
  rw [hadr,wipe_out _ (fun m=>by
   rcases Yu.mp m with q | m
   ·exact old _ o e q
   ·exact n m),(H.kp _ o e (by simp)).same n] at hnT
  cases hnT
 ·obtain ⟨sl,e1,_⟩:=H.kp b o e (by simp)
  obtain ⟨sl2,e2⟩:=x.sl b (by rw [hadr]; exact Yb _ m) _ e1
  exact ⟨sl2,e2⟩
theorem fl_leave {h₁:Heap} {e:Addr} {cls:String} {Q:Unit→Shared→Prop}
  (al:Alive H0 (adr (env::fr)) h) (hf:env.frame=some L) (x:Fl (env::fr) e cls (rawInt L) h h₁) (k:∀ h',Fl (env::fr) e cls .none h h'→Q () (sh g t h')):wpAny M A (leaving env (.ref e)) Q E (sh g t h₁):=by
 unfold leaving
 exact Yd (fl_again hf x (fl_land x al k))
theorem fl_raise {h₁:Heap} {e:Addr} {cls:String} {Q:Flow→Shared→Prop}
  (hh:A.handled=some (.ref e)) (x:Fl fr e cls fl h h₁) (al:Alive H0 (adr fr) h) (hf:env.frame=some L) (k:∀ h',Fl fr e cls (rawInt L) h h'→E (.ref e) (sh g t h')):wpAny M A (exec (.Raise none none pos) env) Q E (sh g t h₁):=by
 rw [arm_exec_Raise]
 refine Yd (wpAny_standAt ?_)
 show wpAny _ _ (raiseStmt env none none) _ _ _
 unfold raiseStmt
 refine Yd (wpAny_handled ?_)
 rw [hh]
 refine Yd (wpAny_rule ?_)
 obtain ⟨a0,oe,vs,T,oT,ts,he,hcls,hd,h1,hnT,hTe,hT,hdT,h3⟩:=x.tr
 refine Yd (wpAny_field he hd h1 ?_)
 rw [if_neg (show ¬ ((Value.ref T == Value.none)=true) from by simp)]
 rw [hf]
 exact Yd (fl_flight al x fun h' x'=>wpAny_throw (k h' x'))
theorem lk_sub_te:isSubtype (.type "TypeError") (.type "TypeError")=pure true:=by rw [isSubtype_type]; kernel_rfl
theorem ded_raise {g} {t} {kd:Addr} {rs:List Value} {m:Str→Option Value}
  (rm:Rm A (n + 2)) (hfr:Frs A fr) (al:Alive H0 (adr fr) h) (bs:Bs H0 mg mb) (low:∀ a o,H0.get? a=some o→h.get? a=some o) (hf:Fn H0 f (fdF 4 name cd pm (.ref kd)))
  (hkd:H0.Ns kd m) (hu:m "unhashable_fallback" = some (.bool false)) (N:NamesD mg mb) (te0:mg "TypeError" = none) (te1:mb "TypeError" = some (.type "TypeError"))
  (ha:Ob (adr fr) h a (ListP vs)) (hv:vs[0]? = some (.ref r)) (hr:Ob (adr fr) h r (ListP rs))
  (hR:∀ h' t' e,Fl fr e "TypeError" .none h h'→R (.error (.ref e)) (sh g t' h')) :
  codeAny (model P w) A (.call (.ref f) ⟨[.ref a],[]⟩) R (sh g t h):=by
 refine s_enterW bs low hf hfr al rm.room rfl (fun Q E q=>b4 (hkd.keeps low) hu Q E q) fun h₁ t1 H hF=>?_
 have rm':=rm.deeper (envF (fdF 4 name cd pm (.ref kd)) h.objs.size f)
 refine Yh (wpAny_Try_except ?_)
 refine Yh (Zd ?_)
 refine s_fromkeys H bs N.d0 N.d1 fun t2 h2 H2=>?_
 refine s_ld H2 ⟨H2.at (i:=0) rfl,?_⟩
 refine fk_raise H2 (H2.at (i:=0) rfl) (H2.oldO ha) hv (H2.old hr) rm' fun h₃ h4 t4 e H3 hx=>?_
 refine fl_note hF H3.al rfl hx fun h5 x5=>?_
 refine fl_land x5 H3.al fun h6 x6=>?_
 have H6:=H3.call x6.kp
 refine wpAny_handleBy_builtin (T := "TypeError") (X := "TypeError") (b:=true) F.isExc_TypeError F.notTuple_TypeError lk_sub_te (s_bname bs H6.low te0 te1 ⟨rfl,x6.typeIs,?_⟩)
 refine fl_land x6 H3.al fun h7 x7=>?_
 have H7:=H3.call x7.kp
 refine Yh (Zh (wpAny_isTrue_Not (Zv (s_ld H7 (Yi ?_)))))
 rw [if_pos (show (!false)=true from rfl)]
 refine Yh (fl_raise rfl x7 H3.al rfl fun h8 x8=>?_)
 refine fl_again rfl x8 (fl_back x8 H3.al rfl fun h9 x9=>?_)
 exact fl_leave H3.al rfl x9 fun h' x'=>hR h' t4 e (x'.out H3 rfl)
theorem b4k (name:Str) (cd pm kwd v u:Value):bindArgs (fdF 4 name cd pm kwd) ⟨[v],[("unhashable_fallback",u)]⟩=pure [(("params" : Str),v),(("unhashable_fallback" : Str),u)]:=by rfl
theorem Rd.le {A m n} (h:Rd A m) (q:n≤m):Rd A n:=⟨by have:=h.1; lia,by have:=h.2; lia⟩
theorem ded_fall {g} {t} {fu:Addr} {rs:List Value} {nu:Str} {cu pu ku:Value} {e:Value→Value→Bool}
  (rm:Rm A (n + 4)) (hfr:Frs A fr) (al:Alive H0 (adr fr) h) (bs:Bs H0 mg mb) (low:∀ a o,H0.get? a=some o→h.get? a=some o) (hf:Fn H0 f (fdF 4 name cd pm kwd))
  (hfu:Fn H0 fu (fdF 5 nu cu pu ku)) (hu:mg "_deduplicate_unhashable" = some (.ref fu))
  (N:NamesD mg mb) (te0:mg "TypeError" = none) (te1:mb "TypeError" = some (.type "TypeError"))
  (ha:Ob (adr fr) h a (ListP vs)) (hv:vs[0]? = some (.ref r)) (hr:Ob (adr fr) h r (ListP rs)) (hz:vs.length≤sizeLine)
  (he:∀ (A':Around) (s':Shared),Rd A' n→(∀ a p,Ob (adr fr) h a p→Is s'.heap a p)→∀ y∈vs,∀ x∈vs,SeqAt.EqAt A' s' y x (e y x))
  (hR:∀ h' t' b,Kp (adr fr) [] h h'→h.get? b=none→Is h' b (ListP (dd e vs))→R (.ok (.ret (.ref b))) (sh g t' h')) :
  codeAny (model P w) A (.call (.ref f) ⟨[.ref a],[("unhashable_fallback",.bool true)]⟩) R (sh g t h):=by
 refine s_enter bs low hf hfr al rm.room rfl (b4k _ _ _ _ _ _) fun h1 t1 H hF=>?_
 have rm':=rm.deeper (envF (fdF 4 name cd pm kwd) h.objs.size f)
 refine Yh (wpAny_Try_except ?_)
 refine Yh (Zd ?_)
 refine s_fromkeys H bs N.d0 N.d1 fun t2 h2 H2=>?_
 refine s_ld H2 ⟨H2.at (i:=0) rfl,?_⟩
 refine fk_raise H2 (H2.at (i:=0) rfl) (H2.oldO ha) hv (H2.old hr) rm' fun h3 h4 t4 e' H3 hx=>?_
 refine fl_note hF H3.al rfl hx fun h5 x5=>?_
 refine fl_land x5 H3.al fun h6 x6=>?_
 have H6:=H3.call x6.kp
 refine wpAny_handleBy_builtin (T := "TypeError") (X := "TypeError") (b:=true) F.isExc_TypeError F.notTuple_TypeError lk_sub_te (s_bname bs H6.low te0 te1 ⟨rfl,x6.typeIs,?_⟩)
 refine fl_land x6 H3.al fun h7 x7=>?_
 have H7:=H3.call x7.kp
 refine Yh (Zh (wpAny_isTrue_Not (Zv (s_ld H7 (Yi ?_)))))
 rw [if_neg (show ¬ ((!true)=true) from Yk)]
 refine Ym ?_
 refine Yh (Zd (s_call1 bs H7.low hu hfu (s_ld H7 ⟨H7.low,?_⟩)))
 have hF':Frs ((A.deeper (envF (fdF 4 name cd pm kwd) h.objs.size f)).mark (some (.ref e'))) (envF (fdF 4 name cd pm kwd) h.objs.size f::fr):=hF
 refine dedup_call (e:=e) (n:=n + 1) ⟨rm'.2.1,rm'.2.2⟩ (fun h' k=>?_) hF' H7.al bs H7.low hfu (H7.oldO ha) hz (fun A' s' q k y hy x hx=>he A' s' (q.le (Nat.le_succ n)) (fun a p o=>?_) y hy x hx) fun h8 t8 b K8 n8 i8=>?_
 ·obtain ⟨oc,vc,c1,c2,c3⟩:=x7.ctx
  refine .inr ⟨e',oc,vc,rfl,k.all c1 fun m=>?_,c2,c3⟩
  rcases Yu.mp m with q | m
  ·exact Nat.ne_of_lt (Heap.lt_size c1) q
  ·exact H3.al.notIn x7.new m
 ·have o':=H7.oldO o
  refine (Ob.kp (fa:=h7.objs.size::adr (envF (fdF 4 name cd pm kwd) h.objs.size f::fr)) ⟨o'.1,fun m=>?_⟩ k).1
  rcases Yu.mp m with q | m
  ·exact Nat.ne_of_lt o'.1.lt q
  ·exact o'.2 m
 ·have H8:=H7.add K8 n8 i8
  exact hR h8 t8 b H8.kp (H8.fresh (i:=0) rfl) (H8.at (i:=0) rfl)
theorem b46 (name:Str) (cd pm kwd v:Value):bindArgs (fdF 46 name cd pm kwd) ⟨[v],[]⟩=pure [(("rows" : Str),v)]:=by rfl
theorem refused_call {g} {t} {fd kd:Addr} {rs:List Value} {nd:Str} {cu pu:Value} {m:Str→Option Value}
  (rm:Rm A (n + 3)) (hfr:Frs A fr) (al:Alive H0 (adr fr) h) (bs:Bs H0 mg mb) (low:∀ a o,H0.get? a=some o→h.get? a=some o) (hf:Fn H0 f (fdF 46 name cd pm kwd))
  (hfd:Fn H0 fd (fdF 4 nd cu pu (.ref kd))) (hu:mg "_deduplicate" = some (.ref fd))
  (hkd:H0.Ns kd m) (hm:m "unhashable_fallback" = some (.bool false)) (N:NamesD mg mb) (te0:mg "TypeError" = none) (te1:mb "TypeError" = some (.type "TypeError"))
  (ha:Ob (adr fr) h a (ListP vs)) (hv:vs[0]? = some (.ref r)) (hr:Ob (adr fr) h r (ListP rs))
  (hR:∀ h' t',Kp (adr fr) [] h h'→R (.ok (.ret (.bool true))) (sh g t' h')) :
  codeAny (model P w) A (.call (.ref f) ⟨[.ref a],[]⟩) R (sh g t h):=by
 refine s_enter bs low hf hfr al rm.room rfl (b46 _ _ _ _ _) fun h1 t1 H hF=>?_
 have rm':=rm.deeper (envF (fdF 46 name cd pm kwd) h.objs.size f)
 refine Yh (wpAny_Try_except ?_)
 refine Yh (wpAny_Expr_any ?_)
 refine s_call1 bs H.low hu hfd (s_ld H ⟨H.low,?_⟩)
 refine ded_raise rm' hF H.al bs H.low hfd hkd hm N te0 te1 (H.oldO ha) hv (H.oldO hr) fun h2 t2 e x2=>?_
 refine fl_next hF H.al rfl x2 fun h5 x5=>?_
 refine fl_land x5 H.al fun h6 x6=>?_
 have H6:=H.call x6.kp
 refine wpAny_handleBy_builtin (T := "TypeError") (X := "TypeError") (b:=true) F.isExc_TypeError F.notTuple_TypeError lk_sub_te (s_bname bs H6.low te0 te1 ⟨rfl,x6.typeIs,?_⟩)
 refine fl_land x6 H.al fun h7 x7=>?_
 have H7:=H.call x7.kp
 refine Yh (Zd (wpAny_Constant_bool ?_))
 exact hR h7 t2 H7.kp
noncomputable def RngP (i n:Nat):OP:=fun o=>o = { cls:=.type "range_iterator",dict:=none,data:=.fields #[rawInt (i:Int),rawInt ((n:Int) - i),rawInt 1],slots:=#[] }
theorem Is.rng {h a i n} (x:Is h a (RngP i n)):IsRangeIter h a i ((n:Int) - i) 1:=by obtain ⟨_,e,q⟩:=x; exact by rw [q] at e; exact e
theorem s_forRange {target:Expr} (J:Nat→Heap→Prop)
  (hh:A.handled=none) (hJ:∀ i h,J i h→Is h it (RngP i n))
  (turn:∀ i h t h',i < n→J i h→Is h' it (RngP (i + 1) n)→(∀ b o,b≠it→h.get? b=some o→h'.get? b=some o) →
   wpAny (model P w) A (assign target env (.int i t)) (fun _ s2=>wpAny (model P w) A (execs body env) (fun f s3=>match f with
     | .next | .cont=>E2 fun h3 t3=>s3=(sh g t3 h3)∧J (i + 1) h3
     | .brk=>R (.ok .next) s3
     | .ret v=>R (.ok (.ret v)) s3) (notedBy (model P w) A env fun e s'=>R (.error e) s') s2) (notedBy (model P w) A env fun e s'=>R (.error e) s') (sh g (t + 1) h'))
  (done:∀ h t h',J n h→(∀ b o,b≠it→h.get? b=some o→h'.get? b=some o)→R (.ok .next) (sh g t h'))
  (h0:J 0 h) (ht:autoParam (∀ v,letOwnedTupleGo target (.ref it) v=pure ()) tI):codeAny (model P w) A (.forLoop target (.ref it) body [] env) R (sh g t h):=by
 refine codeAny_forLoop (fun k s=>E3 fun h t i=>A4 (s=(sh g t h)) (i≤n) (k=n + 1 - i) (J i h)) ?_ (n + 1) ⟨h,t,0,rfl,Zs _,rfl,h0⟩ ht
 rintro k s ⟨h,t,i,rfl,hi,rfl,hj⟩
 have h1:=(hJ i h hj).rng
 by_cases hlt:i < n
 ·refine wpAny_pyNext_range_item h1 (by lia) fun h' hit sb=>?_
  have hit':Is h' it (RngP (i + 1) n):=⟨_,hit,by
   have e1:((i + 1:Nat):Int)=(i:Int) + 1:=by push_cast; rfl
   have e2:(n:Int) - ((i + 1:Nat):Int)=(n:Int) - i - 1:=by rw [e1]; lia
   show _=({ cls:=.type "range_iterator",dict:=none,data:=.fields #[rawInt ((i + 1:Nat):Int),rawInt ((n:Int) - ((i + 1:Nat):Int)),rawInt 1],slots:=#[] }:Obj)
   rw [e2,e1]⟩
  refine Ze (turn i h t h' hlt hj hit' fun b o hb ho=>(sb.2 b hb).trans ho) (fun _ s2 k=>Ze k (fun f s3 q=>?_) fun _ _ e=>e) fun _ _ e=>e
  cases f with
  | next=>obtain ⟨h3,t3,rfl,q⟩:=q; exact ⟨n + 1 - (i + 1),by exact Nat.sub_lt_sub_left (Nat.lt_succ_of_lt ‹_›) (Nat.lt_succ_self _),h3,t3,i + 1,rfl,hlt,rfl,q⟩
  | cont=>obtain ⟨h3,t3,rfl,q⟩:=q; exact ⟨n + 1 - (i + 1),by exact Nat.sub_lt_sub_left (Nat.lt_succ_of_lt ‹_›) (Nat.lt_succ_self _),h3,t3,i + 1,rfl,hlt,rfl,q⟩
  | brk=>exact q
  | ret v=>exact q
 ·have e:i=n:=Nat.le_antisymm hi (Nat.le_of_not_lt hlt)
  subst e
  exact wpAny_pyNext_range_end hh h1 (by lia) fun h' he=>Ym (done h t h' hj he)
theorem rng_small (n:Nat) (hn:n≤1000):Builtin.Range.small 0 n 1=true:=small_one (by decide) (by decide) (by exact Int.natCast_nonneg _) (by lia)
theorem s_iterRange {F l} (H:St H0 B fa X L l F h) (hn:n≤1000)
  (k:∀ it t' h',St H0 B fa X L l ((it,RngP 0 n)::F) h'→Q (.ref it) (sh g t' h')) :
  wpAny (model P w) A (call (.type "range") [.int n t0]) (fun x s1=>wpAny (model P w) A (pyIter x) Q E s1) E (sh g t h):=by
 refine call_range_1 ?_
 have hr:=IsRange.new h 0 n 1 t t0 (t + 1)
 refine wpAny_pyIter_range hr (rng_small n hn) ?_
 have e:Builtin.Range.rangeSize 0 n 1=(n:Int) - ((0:Nat):Int):=by
  rw [rangeSize_one]; split<;>lia
 rw [e]
 exact k _ _ _ ((H.same fun b o q=>Yv _ q).push _ rfl)
theorem s_idx (H:St H0 B fa X env.locals l F h) (hx:l.lookup x=some (.ref a)) (hy:l.lookup y=some (.int i t0)) (ha:Is h a (ListP xs)) (hi:i < 2 ^ 62) (hv:xs[i]? = some v) (k:Q v (sh g t h))
  (hk:autoParam (env.scope.kind=.function) tR) (hl1:autoParam (env.kindOf x=some .local) tR) (hl2:autoParam (env.kindOf y=some .local) tR) (hd1:autoParam ((x == ("__debug__" : Str))=false) tD) (hd2:autoParam ((y == ("__debug__" : Str))=false) tD) :
  wpAny (model P w) A (eval (.Subscript (.Name x p1) (.Name y p2) pos) env) Q E (sh g t h):=by
 refine Zk (s_ld H (s_ld H ?_ hy hk hl2 hd2) hx hk hl1 hd1)
 exact ⟨"list",_,PySem.F.slot_list_getitem.lookup,ha.list.typeIs,wpAny_getItem_list ha.list (by lia) (by lia) (by simpa using hv) k⟩
theorem s_call2 {np:Pos} (b:Bs H0 mg mb) (low:∀ a o,H0.get? a=some o→h.get? a=some o) (hv:mg x=some (.ref f)) (hf:Fn H0 f fd)
  (k:wpAny (model P w) A (eval e1 env) (fun v1 s1=>wpAny (model P w) A (eval e2 env) (fun v2 s2=>(∀ a o,H0.get? a=some o→s2.heap.get? a=some o)∧codeAny (model P w) A (.call (.ref f) ⟨[v1,v2],[]⟩) (back Q E) s2) E s1) E (sh g t h))
  (hs:autoParam (starEach [e1,e2] env=[(false,eval e1 env),(false,eval e2 env)]) tR)
  (hk:autoParam (env.scope.kind=.function) tR) (hl:autoParam (env.kindOf x=some .globalImplicit) tR) (hg:autoParam (env.globals=mainGlobals) tR) (hd:autoParam ((x == ("__debug__" : Str))=false) tD) :
  wpAny (model P w) A (eval (.Call (.Name x np) [e1,e2] [] pos) env) Q E (sh g t h):=by
 refine Zb (s_gname b low hv ?_ hk hl hg hd)
 rw [hs]
 exact s_fcall hf (Zx (Yz (Ze k (fun _ _ q=>Yz (Ze q (fun _ _ q=>Zn q) fun _ _ e=>e)) fun _ _ e=>e)))
theorem s_len {np:Pos} (H:St H0 B fa X env.locals l F h) (b:Bs H0 mg mb) (hn:mg "len" = none) (hb:mb "len" = some (.builtin "len")) (hx:l.lookup x=some (.ref a)) (ha:Is h a (ListP xs)) (hz:xs.length≤1000)
  (k:∀ t0 t',Q (.int (xs.length:Nat) t0) (sh g t' h))
  (hk:autoParam (env.scope.kind=.function) tR) (hl1:autoParam (env.kindOf x=some .local) tR) (hl:autoParam (env.kindOf "len" = some .globalImplicit) tR) (hg:autoParam (env.globals=mainGlobals) tR) (hbi:autoParam (env.builtins=builtinsNs) tR) (hd1:autoParam ((x == ("__debug__" : Str))=false) tD)
  (hs:autoParam (starEach [.Name x p1] env=[(false,eval (.Name x p1) env)]) tR) :
  wpAny (model P w) A (eval (.Call (.Name "len" np) [.Name x p1] [] pos) env) Q E (sh g t h):=by
 refine Zb (s_bname b H.low hn hb ?_ hk hl hg hbi)
 rw [hs]
 refine callWith_builtin rfl (Zx (Yz (s_ld H (Zn ?_) hx hk hl1 hd1)))
 refine call_len_list ha.list (by simp; lia) ?_
 simp only [List.size_toArray]
 exact k _ _
theorem b47 (name:Str) (cd pm kwd v u:Value):bindArgs (fdF 47 name cd pm kwd) ⟨[v,u],[]⟩=pure [(("rows" : Str),v),(("ranks" : Str),u)]:=by rfl
structure NamesR (mg mb:Str→Option Value):Prop where
 r0:mg "range" = none
 r1:mb "range" = some (.type "range")
 n0:mg "len" = none
 n1:mb "len" = some (.builtin "len")
structure RowsOf (fa:List Addr) (h:Heap) (xs:List Value) (ad:Nat→Addr) (V:Nat→List Value) (S:Nat→List Str):Prop where
 get:∀ i,i < xs.length→xs[i]? = some (.ref (ad i))
 ob:∀ i,i < xs.length→Ob fa h (ad i) (ListP (V i))
 st:∀ i,i < xs.length→Strs (V i) (S i)
 len:∀ i,i < xs.length→(V i).length≤1000
noncomputable def alike_call_S:Prop:=∀ {A:Around} {fr:List Env} {g} {K:Nat→Int} {R:Result→Shared→Prop} {h:Heap} {t} {f fc fu a b:Addr} {xs rk:List Value} {ad:Nat→Addr} {V:Nat→List Value} {S:Nat→List Str} {name nc nu:Str} {cd pm kwd cc pc kc cu pu ku:Value} {n:Nat} (rm:Rm A (n + 5)) (hfr:Frs A fr) (al:Alive H0 (adr fr) h) (bs:Bs H0 mg mb) (low:∀ a o,H0.get? a=some o→h.get? a=some o) (hf:Fn H0 f (fdF 47 name cd pm kwd)) (hfc:Fn H0 fc (fdF 6 nc cc pc kc)) (hc:mg "_compare_args_orderless" = some (.ref fc)) (hfu:Fn H0 fu (fdF 5 nu cu pu ku)) (N:Names mg mb fu) (NR:NamesR mg mb) (ha:Ob (adr fr) h a (ListP xs)) (hb:Ob (adr fr) h b (ListP rk)) (hz:xs.length≤1000) (rows:RowsOf (adr fr) h xs ad V S) (hk:∀ i,i < xs.length→∃ t,rk[i]? = some (.int (K i) t)) (hall:∀ j i,j < xs.length→i < j→cmpS (ddl (S i)) (ddl (S j))=(K i == K j)) (hR:∀ h' t',Kp (adr fr) [] h h'→R (.ok (.ret (.bool true))) (sh g t' h')),codeAny (model P w) A (.call (.ref f) ⟨[.ref a,.ref b],[]⟩) R (sh g t h)
end
namespace alike_call
def zq0:=fun zk0=>(by
 intro A fr g K R h t f fc fu a b xs rk ad V S name nc nu cd pm kwd cc pc kc cu pu ku n rm hfr al bs low hf hfc hc hfu N NR ha hb hz rows hk hall hR
 refine s_enter bs low hf hfr al rm.room rfl (b47 _ _ _ _ _ _) fun h1 t1 H hF=>?_
 have rm':=rm.deeper (envF (fdF 47 name cd pm kwd) h.objs.size f)
 revert rm hfr al bs low hf hfc hc hfu N NR ha hb hz rows hk hall hR H hF rm'
 have zd0:Nat:=0
 have zd1:Nat:=0
 have zd2:Nat:=0
 revert A fr g K R h f fc fu a b xs rk ad V S name nc nu cd pm kwd cc pc kc cu pu ku n h1 t1 zd0 zd1 zd2
 exact zk0:alike_call_S)
namespace zp0
@[irreducible] def zc:=pick34 zq0 (by (repeat any_goals apply np)<;>first | exact neW | exact neA | exact neD | exact neS | infer_instance | exact ⟨by constructor<;>exact default⟩)
def A:=zc.1.1
def fr:=zc.1.2.1
def g:=zc.1.2.2.1
def K:=zc.1.2.2.2.1
def R:=zc.1.2.2.2.2.1
def h:=zc.1.2.2.2.2.2.1
def f:=zc.1.2.2.2.2.2.2
def fc:=zc.2.1.1
def fu:=zc.2.1.2.1
def a:=zc.2.1.2.2.1
def b:=zc.2.1.2.2.2.1
def xs:=zc.2.1.2.2.2.2.1
def rk:=zc.2.1.2.2.2.2.2.1
def ad:=zc.2.1.2.2.2.2.2.2
def V:=zc.2.2.1.1
def S:=zc.2.2.1.2.1
def name:=zc.2.2.1.2.2.1
def nc:=zc.2.2.1.2.2.2.1
def nu:=zc.2.2.1.2.2.2.2.1
def cd:=zc.2.2.1.2.2.2.2.2.1
def pm:=zc.2.2.1.2.2.2.2.2.2
def kwd:=zc.2.2.2.1.1
def cc:=zc.2.2.2.1.2.1
def pc:=zc.2.2.2.1.2.2.1
def kc:=zc.2.2.2.1.2.2.2.1
def cu:=zc.2.2.2.1.2.2.2.2.1
def pu:=zc.2.2.2.1.2.2.2.2.2.1
def ku:=zc.2.2.2.1.2.2.2.2.2.2
def n:=zc.2.2.2.2.1
def h1:=zc.2.2.2.2.2.1
def t1:=zc.2.2.2.2.2.2.1
def zd0:=zc.2.2.2.2.2.2.2.1
def zd1:=zc.2.2.2.2.2.2.2.2.1
def zd2:=zc.2.2.2.2.2.2.2.2.2
def zq :=
 all34 zq0 A fr g K R h f fc fu a b xs rk ad V S name nc nu cd pm kwd cc pc kc cu pu ku n h1 t1 zd0 zd1 zd2 (by with_unfolding_all rfl) (by
 intro rm hfr al bs low hf hfc hc hfu N NR ha hb hz rows hk hall hR H hF rm'
 refine Yh (wpAny_For ?_)
 refine s_type1 bs H.low NR.r0 NR.r1 (s_len H bs NR.n0 NR.n1 (by rfl) (H.old ha) hz fun t0 t2=>?_)
 refine s_iterRange H hz fun it t3 h3 H3=>?_
 refine s_forRange (n:=xs.length) (fun j h'=>∃ l,A3 (St H0 h (adr fr) [] h.objs.size l [(it,RngP j xs.length)] h') (l.lookup ("rows" : Str)=some (.ref a)) (l.lookup ("ranks" : Str)=some (.ref b))) rm'.1 (fun j h' q=>by obtain ⟨l,H',_⟩:=q; exact H'.at (i:=0) rfl) (fun j h' t' h'' hj q hit sb=>?_) (fun h' t' h'' q sb=>?_) ⟨_,H3,by rfl,by rfl⟩
 ·obtain ⟨l,H',l1,l2⟩:=q
  have H4:=H'.upd 0 rfl sb hit
  refine Zl (s_st H4 fun h5 t5 H5=>?_)
  refine Yh (wpAny_For ?_)
  refine s_type1 bs H5.low NR.r0 NR.r1 (s_ld H5 ?_)
  refine s_iterRange H5 (by exact Ye (Nat.le_of_lt hj) hz) fun it2 t6 h6 H6=>?_
  refine s_forRange (n:=j) (fun i h'=>∃ l,A4 (St H0 h (adr fr) [] h.objs.size l [(it2,RngP i j),(it,RngP (j + 1) xs.length)] h') (l.lookup ("rows" : Str)=some (.ref a)) (l.lookup ("ranks" : Str)=some (.ref b)) (l.lookup ("other" : Str)=some (.int j t'))) rm'.1 (fun i h' q=>by obtain ⟨l,H',_⟩:=q; exact H'.at (i:=0) rfl) (fun i h7 t7 h8 hi q hit2 sb2=>?_) (fun h7 t7 h8 q sb2=>?_) ⟨_,H6,l1,l2,by rfl⟩
  ·obtain ⟨l',H7,m1,m2,m3⟩:=q
   have H8:=H7.upd 0 rfl sb2 hit2
   have hi':i < xs.length:=Nat.lt_trans hi hj
   obtain ⟨ti,ei⟩:=hk i hi'
   obtain ⟨tj,ej⟩:=hk j hj
   refine Zl (s_st H8 fun h9 t9 H9=>?_)
   refine Yh (Zh (Yg ?_))
   refine s_call2 bs H9.low hc hfc ?_
   refine s_idx H9 m1 (by rfl) (H9.old ha) (by exact Ye (Ye ‹_› ‹_›) (by decide)) (rows.get i hi') ?_
   refine s_idx H9 m1 m3 (H9.old ha) (by exact Ye (Ye ‹_› ‹_›) (by decide)) (rows.get j hj) ⟨H9.low,?_⟩
   refine cmp_call rm' hF H9.al bs H9.low hfc hfu N (H9.oldO (rows.ob i hi')) (H9.oldO (rows.ob j hj)) (rows.st i hi') (rows.st j hj) (rows.len i hi') (rows.len j hj) fun h10 t10 K10=>?_
   have H10:=H9.call K10
   refine wpAny_Compare1 ?_
   refine s_idx H10 m2 (by rfl) (H10.old hb) (by exact Ye (Ye ‹_› ‹_›) (by decide)) ei ?_
   refine s_idx H10 m2 m3 (H10.old hb) (by exact Ye (Ye ‹_› ‹_›) (by decide)) ej ?_
   refine eq_int ?_
   rw [hall j i hj hi]
   refine wpAny_isNot_plain (by rfl) (Yi ?_)
   rw [show (!(Value.bool (K i == K j) == Value.bool (K i == K j)))=false from by simp]
   refine Ym (Ym ⟨h10,_,rfl,_,H10,m1,m2,m3⟩)
  ·obtain ⟨l',H7,m1,m2,m3⟩:=q
   exact Ym ⟨h8,_,rfl,l',H7.lose (H7.fresh (i:=0) rfl) sb2,m1,m2⟩
 ·obtain ⟨l,H',l1,l2⟩:=q
  have H4:=H'.lose (H'.fresh (i:=0) rfl) sb
  refine Yh (Zd (wpAny_Constant_bool ?_))
  exact hR h'' t' H4.kp)
end zp0
end alike_call
section
variable {A:Around} {B:Heap} {fa X:List Addr} {L:Addr} {g:Array GenState} {E Q:Value→Shared→Prop} {a:Addr} {F:Fs} {l:List (Str×Value)} {xs:List Value} {h:Heap} {t:Nat}
theorem alike_call:alike_call_S:=@Wr.out _ alike_call.zp0.zq
theorem s_max {K:Nat→Int} (H:St H0 B fa X L l F h) (ha:Is h a (ListP xs)) (hi:∀ i,i < xs.length→∃ t,xs[i]? = some (.int (K i) t)) (hne:0 < xs.length) (hh:A.handled=none)
  (k:∀ M t0 t' h',St H0 B fa X L l F h'→(∃ i,i < xs.length∧K i=M)→(∀ i,i < xs.length→K i≤M)→Q (.int M t0) (sh g t' h')) :
  wpAny (model P w) A (call (.builtin "max") [.ref a]) Q E (sh g t h):=by
 have hna:a≠h.objs.size:=Nat.ne_of_lt ha.lt
 refine call_max_walk (wpAny_pyIter_list ha.list ⟨h.objs.size,_,_,_,_,_,(fun i j=>decide (K i > K j)),rfl,Walks.list (by exact hh) h.objs.size a hna xs.toArray,⟨⟨_,Heap.get?_push_size _ rfl,rfl,rfl⟩,(ha.at fun o e=>Yv _ e).list⟩,?_,by simpa using hne,CmpOf.ints_gt K ?_,?_⟩)
 ·intro b hb
  simp only [Yu,List.not_mem_nil,or_false] at hb
  rw [Heap.size_push]
  rcases hb with rfl | rfl
  ·exact Nat.lt_succ_self _
  ·exact Nat.lt_succ_of_lt ha.lt
 ·intro i v hv
  have hlt:i < xs.length:=by
   have:=(Array.getElem?_eq_some_iff.mp hv).1
   simpa using this
  obtain ⟨t,e⟩:=hi i hlt
  have hv':xs[i]? = some v:=by simpa using hv
  rw [e] at hv'
  exact ⟨t,(Zj hv').symm⟩
 ·intro v h' tk hv kp
  obtain ⟨b1,b2⟩:=argBest_gt K (xs.toArray.size - 1)
  have hsz:xs.toArray.size=xs.length:=by simp
  rw [hsz] at b1 b2 hv
  have hlt:argBest (fun i j=>decide (K i > K j)) (xs.length - 1) < xs.length:=by lia
  obtain ⟨t,e⟩:=hi _ hlt
  have hv':xs[argBest (fun i j=>decide (K i > K j)) (xs.length - 1)]? = some v:=by simpa using hv
  rw [e] at hv'
  obtain rfl:=Zj hv'
  refine k _ t tk h' (H.same fun b o q=>kp b o (fun m=>?_) (Yv _ q)) ⟨_,hlt,rfl⟩ fun i hi=>b2 i (by exact Nat.le_sub_one_of_lt ‹_›)
  rw [Zu] at m
  exact Nat.ne_of_lt (Heap.lt_size q) m
theorem b48 (name:Str) (cd pm kwd v u x y:Value):bindArgs (fdF 48 name cd pm kwd) ⟨[v,u,x,y],[]⟩=pure [(("after" : Str),v),(("ahead" : Str),u),(("begins" : Str),x),(("ends" : Str),y)]:=by rfl
noncomputable def apart_call_S:Prop:=∀ {A:Around} {fr:List Env} {g} {R:Result→Shared→Prop} {h:Heap} {t} {f fc fu a1 a2 a3 a4:Addr} {xs ys bs es:List Value} {ad ad2:Nat→Addr} {V V2:Nat→List Value} {S S2:Nat→List Str} {KB KE:Nat→Int} {name nc nu:Str} {cd pm kwd cc pc kc cu pu ku:Value} {n:Nat} (rm:Rm A (n + 5)) (hfr:Frs A fr) (al:Alive H0 (adr fr) h) (bst:Bs H0 mg mb) (low:∀ a o,H0.get? a=some o→h.get? a=some o) (hf:Fn H0 f (fdF 48 name cd pm kwd)) (hfc:Fn H0 fc (fdF 6 nc cc pc kc)) (hc:mg "_compare_args_orderless" = some (.ref fc)) (hfu:Fn H0 fu (fdF 5 nu cu pu ku)) (N:Names mg mb fu) (NR:NamesR mg mb) (m0:mg "max" = none) (m1:mb "max" = some (.builtin "max")) (h1:Ob (adr fr) h a1 (ListP xs)) (h2:Ob (adr fr) h a2 (ListP ys)) (h3:Ob (adr fr) h a3 (ListP bs)) (h4:Ob (adr fr) h a4 (ListP es)) (z1:xs.length≤1000) (z2:ys.length≤1000) (ze:es.length=xs.length) (rows:RowsOf (adr fr) h xs ad V S) (rows2:RowsOf (adr fr) h ys ad2 V2 S2) (hb:∀ i,i < ys.length→∃ t,bs[i]? = some (.int (KB i) t)) (he:∀ i,i < es.length→∃ t,es[i]? = some (.int (KE i) t)) (hall:∀ i j M,i < xs.length→j < ys.length→(∃ i,i < es.length∧KE i=M)→(∀ i,i < es.length→KE i≤M)→cmpS (ddl (S i)) (ddl (S2 j))=(KE i == M && KB j == 0)) (hR:∀ h' t',Kp (adr fr) [] h h'→R (.ok (.ret (.bool true))) (sh g t' h')),codeAny (model P w) A (.call (.ref f) ⟨[.ref a1,.ref a2,.ref a3,.ref a4],[]⟩) R (sh g t h)
end
namespace apart_call
def zq0:=fun zk0=>(by
 intro A fr g R h t f fc fu a1 a2 a3 a4 xs ys bs es ad ad2 V V2 S S2 KB KE name nc nu cd pm kwd cc pc kc cu pu ku n rm hfr al bst low hf hfc hc hfu N NR m0 m1 h1 h2 h3 h4 z1 z2 ze rows rows2 hb he hall hR
 refine s_enter bst low hf hfr al rm.room rfl (b48 _ _ _ _ _ _ _ _) fun h₁ t1 H hF=>?_
 have rm':=rm.deeper (envF (fdF 48 name cd pm kwd) h.objs.size f)
 revert rm hfr al bst low hf hfc hc hfu N NR m0 m1 h1 h2 h3 h4 z1 z2 ze rows rows2 hb he hall hR H hF rm'
 revert A fr g R h f fc fu a1 a2 a3 a4 xs ys bs es ad ad2 V V2 S S2 KB KE name nc nu cd pm kwd cc pc kc cu pu ku n h₁ t1
 exact zk0:apart_call_S)
namespace zp0
@[irreducible] def zc:=pick39 zq0 (by (repeat any_goals apply np)<;>first | exact neW | exact neA | exact neD | exact neS | infer_instance | exact ⟨by constructor<;>exact default⟩)
def A:=zc.1.1
def fr:=zc.1.2.1
def g:=zc.1.2.2.1
def R:=zc.1.2.2.2.1
def h:=zc.1.2.2.2.2.1
def f:=zc.1.2.2.2.2.2.1
def fc:=zc.1.2.2.2.2.2.2
def fu:=zc.2.1.1
def a1:=zc.2.1.2.1
def a2:=zc.2.1.2.2.1
def a3:=zc.2.1.2.2.2.1
def a4:=zc.2.1.2.2.2.2.1
def xs:=zc.2.1.2.2.2.2.2.1
def ys:=zc.2.1.2.2.2.2.2.2
def bs:=zc.2.2.1.1
def es:=zc.2.2.1.2.1
def ad:=zc.2.2.1.2.2.1
def ad2:=zc.2.2.1.2.2.2.1
def V:=zc.2.2.1.2.2.2.2.1
def V2:=zc.2.2.1.2.2.2.2.2.1
def S:=zc.2.2.1.2.2.2.2.2.2
def S2:=zc.2.2.2.1.1
def KB:=zc.2.2.2.1.2.1
def KE:=zc.2.2.2.1.2.2.1
def name:=zc.2.2.2.1.2.2.2.1
def nc:=zc.2.2.2.1.2.2.2.2.1
def nu:=zc.2.2.2.1.2.2.2.2.2.1
def cd:=zc.2.2.2.1.2.2.2.2.2.2
def pm:=zc.2.2.2.2.1.1
def kwd:=zc.2.2.2.2.1.2.1
def cc:=zc.2.2.2.2.1.2.2.1
def pc:=zc.2.2.2.2.1.2.2.2.1
def kc:=zc.2.2.2.2.1.2.2.2.2.1
def cu:=zc.2.2.2.2.1.2.2.2.2.2.1
def pu:=zc.2.2.2.2.1.2.2.2.2.2.2
def ku:=zc.2.2.2.2.2.1
def n:=zc.2.2.2.2.2.2.1
def h₁:=zc.2.2.2.2.2.2.2.1
def t1:=zc.2.2.2.2.2.2.2.2
def zq :=
 all39 zq0 A fr g R h f fc fu a1 a2 a3 a4 xs ys bs es ad ad2 V V2 S S2 KB KE name nc nu cd pm kwd cc pc kc cu pu ku n h₁ t1 (by with_unfolding_all rfl) (by
 intro rm hfr al bst low hf hfc hc hfu N NR m0 m1 h1 h2 h3 h4 z1 z2 ze rows rows2 hb he hall hR H hF rm'
 refine Yh (wpAny_For ?_)
 refine s_type1 bst H.low NR.r0 NR.r1 (s_len H bst NR.n0 NR.n1 (by rfl) (H.old h1) z1 fun t0 t2=>?_)
 refine s_iterRange H z1 fun it t3 h₃ H3=>?_
 refine s_forRange (n:=xs.length) (fun j h'=>∃ l,A5 (St H0 h (adr fr) [] h.objs.size l [(it,RngP j xs.length)] h') (l.lookup ("after" : Str)=some (.ref a1)) (l.lookup ("ahead" : Str)=some (.ref a2)) (l.lookup ("begins" : Str)=some (.ref a3)) (l.lookup ("ends" : Str)=some (.ref a4))) rm'.1 (fun j h' q=>by obtain ⟨l,H',_⟩:=q; exact H'.at (i:=0) rfl) (fun i h' t' h'' hi q hit sb=>?_) (fun h' t' h'' q sb=>?_) ⟨_,H3,by rfl,by rfl,by rfl,by rfl⟩
 ·obtain ⟨l,H',l1,l2,l3,l4⟩:=q
  have H4:=H'.upd 0 rfl sb hit
  refine Zl (s_st H4 fun h5 t5 H5=>?_)
  refine Yh (wpAny_For ?_)
  refine s_type1 bst H5.low NR.r0 NR.r1 (s_len H5 bst NR.n0 NR.n1 l2 (H5.old h2) z2 fun t0 t2=>?_)
  refine s_iterRange H5 z2 fun it2 t6 h6 H6=>?_
  refine s_forRange (n:=ys.length) (fun j h'=>∃ l,A6 (St H0 h (adr fr) [] h.objs.size l [(it2,RngP j ys.length),(it,RngP (i + 1) xs.length)] h') (l.lookup ("after" : Str)=some (.ref a1)) (l.lookup ("ahead" : Str)=some (.ref a2)) (l.lookup ("begins" : Str)=some (.ref a3)) (l.lookup ("ends" : Str)=some (.ref a4)) (l.lookup ("one" : Str)=some (.int i t'))) rm'.1 (fun i h' q=>by obtain ⟨l,H',_⟩:=q; exact H'.at (i:=0) rfl) (fun j h7 t7 h8 hj q hit2 sb2=>?_) (fun h7 t7 h8 q sb2=>?_) ⟨_,H6,l1,l2,l3,l4,by rfl⟩
  ·obtain ⟨l',H7,p1,p2,p3,p4,p5⟩:=q
   have H8:=H7.upd 0 rfl sb2 hit2
   obtain ⟨ti,ei⟩:=he i (by lia)
   obtain ⟨tj,ej⟩:=hb j hj
   refine Zl (s_st H8 fun h9 t9 H9=>?_)
   refine Yh (Yq (wpAny_And2 (wpAny_Compare1 ?_)))
   refine s_idx H9 p4 p5 (H9.old h4) (by exact Ye (Ye ‹_› ‹_›) (by decide)) ei ?_
   refine Zb (s_bname bst H9.low m0 m1 ?_)
   refine callWith_builtin1 (s_ld H9 (s_max H9 (H9.old h4) he (by lia) rm'.1 fun M tM t10 h10 H10 q1 q2=>?_) p4)
   refine eq_int (Yi ?_)
   have key:=hall i j M hi hj q1 q2
   cases hq:(KE i == M) with
   | true =>
    rw [hq,Bool.true_and] at key
    rw [if_pos rfl]
    refine wpAny_Compare1 ?_
    refine s_idx H10 p3 (by rfl) (H10.old h3) (by exact Ye (Ye ‹_› ‹_›) (by decide)) ej ?_
    refine wpAny_Constant_int (eq_int ?_)
    refine s_st H10 fun h11 t11 H11=>?_
    refine Yh (Zh (Yg ?_))
    refine s_call2 bst H11.low hc hfc ?_
    refine s_idx H11 p1 p5 (H11.old h1) (by exact Ye (Ye ‹_› ‹_›) (by decide)) (rows.get i hi) ?_
    refine s_idx H11 p2 (by rfl) (H11.old h2) (by exact Ye (Ye ‹_› ‹_›) (by decide)) (rows2.get j hj) ⟨H11.low,?_⟩
    refine cmp_call rm' hF H11.al bst H11.low hfc hfu N (H11.oldO (rows.ob i hi)) (H11.oldO (rows2.ob j hj)) (rows.st i hi) (rows2.st j hj) (rows.len i hi) (rows2.len j hj) fun h12 t12 K12=>?_
    have H12:=H11.call K12
    refine s_ld H12 ?_
    rw [key]
    refine wpAny_isNot_plain (by rfl) (Yi ?_)
    rw [show (!(Value.bool (KB j == 0) == Value.bool (KB j == 0)))=false from by simp]
    exact Ym (Ym ⟨h12,_,rfl,_,H12,p1,p2,p3,p4,p5⟩)
   | false =>
    rw [hq,Bool.false_and] at key
    rw [if_neg Yk]
    refine s_st H10 fun h11 t11 H11=>?_
    refine Yh (Zh (Yg ?_))
    refine s_call2 bst H11.low hc hfc ?_
    refine s_idx H11 p1 p5 (H11.old h1) (by exact Ye (Ye ‹_› ‹_›) (by decide)) (rows.get i hi) ?_
    refine s_idx H11 p2 (by rfl) (H11.old h2) (by exact Ye (Ye ‹_› ‹_›) (by decide)) (rows2.get j hj) ⟨H11.low,?_⟩
    refine cmp_call rm' hF H11.al bst H11.low hfc hfu N (H11.oldO (rows.ob i hi)) (H11.oldO (rows2.ob j hj)) (rows.st i hi) (rows2.st j hj) (rows.len i hi) (rows2.len j hj) fun h12 t12 K12=>?_
    have H12:=H11.call K12
    refine s_ld H12 ?_
    rw [key]
    refine wpAny_isNot_plain (by rfl) (Yi ?_)
    exact Ym (Ym ⟨h12,_,rfl,_,H12,p1,p2,p3,p4,p5⟩)
  ·obtain ⟨l',H7,p1,p2,p3,p4,p5⟩:=q
   exact Ym ⟨h8,_,rfl,l',H7.lose (H7.fresh (i:=0) rfl) sb2,p1,p2,p3,p4⟩
 ·obtain ⟨l,H',l1,l2,l3,l4⟩:=q
  have H4:=H'.lose (H'.fresh (i:=0) rfl) sb
  refine Yh (Zd (wpAny_Constant_bool ?_))
  exact hR h'' t' H4.kp)
end zp0
end apart_call
section
variable {A:Around} {B:Heap} {fa X X':List Addr} {L:Addr} {fr:List Env} {g:Array GenState} {K:Frag} {CS CN:Addr} {nv:Nat→Value} {N:Nat} {E:Value→Shared→Prop} {env:Env} {x:Str} {dx:Addr} {fd:FuncData} {name qual:Str} {cd pm kwd:Value} {R:Result→Shared→Prop} {Q:Value→Shared→Prop} {pos:Pos} {e:Expr} {ys:List Value} {py:Pos} {kvs:List (Str×Value)} {β:Type} {IP:Nat→OP} {e2:Expr} {rdv:Value} {pl:Sem Bool} {id:String} {po:Int} {Old:Heap→Prop} {ifs:List Expr} {sl:Array (Option Value)} {elt:Expr} {bi:Addr} {args:Args} {cenv:Env} {apos:Pos} {C:Addr} {binds:List (Str×Value)} {nf:Int} {scope:Scope} {nodes:Nodes} {value:Expr} {px:Pos} {b:Addr} {o:Obj} {m:PN×Ad} {y:Str} {it:Addr} {l1:Nodes} {expr:Bool} {cl:List (Str×Addr)} {t0:Tok} {l2:Nodes} {α:Type} {e1:Expr} {n2i a f:Addr} {body:List Stmt} {F:Fs} {n:Nat} {l:List (Str×Value)} {i:Nat} {xs vs:List Value} {ss:List Str} {v:Value} {s:Shared} {h' h:Heap} {t:Nat}
theorem apart_call:apart_call_S:=@Wr.out _ apart_call.zp0.zq
noncomputable def CellP (v:Option Value):OP:=fun o=>o.data=.cell v
theorem Is.cell {h a v} (x:Is h a (CellP v)):h.IsCell a v:=x
noncomputable abbrev envC (fd:FuncData) (L f:Addr) (cs:List (Str×Addr)):Env:=newEnv fd.scope L fd.globals cs (fd.qualname ++ ".<locals>.") (some f) fd.code none fd.builtins
theorem bindL_eq (k:Str→Option NameKind):∀ (binds l:List (Str×Value)),bindL k binds (fun x=>l.lookup x)=fun x=>((binds.filter fun b=>decide (k b.1=some .local)).reverse++l).lookup x
 | [],l=>rfl
 | (n,v)::r,l=>by
  unfold bindL
  by_cases q:k n=some .local
  ·rw [if_pos q,List.filter_cons_of_pos (by simpa using q),List.reverse_cons,List.append_assoc]
   have:(fun y=>if y=n then some v else l.lookup y)=fun y=>((n,v)::l).lookup y:=by
    funext y
    rw [List.lookup_cons]
    by_cases e:y=n
    ·rw [if_pos e,beq_iff_eq.mpr e]
    ·rw [if_neg e,Zp.mpr e]
   rw [this]
   exact bindL_eq k r ((n,v)::l)
  ·rw [if_neg q,List.filter_cons_of_neg (by simpa using q)]
   exact bindL_eq k r l
theorem lookup_mem {l:List (Str×α)} {x:Str×α} (nd:(l.map (·.1)).Nodup) (m:x∈l):l.lookup x.1=some x.2:=by
 induction l with
 | nil=>cases m
 | cons p r ih =>
  rw [List.lookup_cons]
  rcases Yu.mp m with rfl | m
  ·rw [beq_self_eq_true]
  ·have:x.1≠p.1:=fun e=>(List.nodup_cons.mp nd).1 (Yx.mpr ⟨x,m,e⟩)
   rw [Zp.mpr this]
   exact ih (List.nodup_cons.mp nd).2 m
theorem s_ldc {c:Addr} (H:Is h c (CellP (some v))) (k:Q v (sh g t h)) (hc:autoParam (env.cells.lookup x=some c) tR)
  (hk:autoParam (env.scope.kind=.function) tR) (hl:autoParam (env.kindOf x=some .cell) tR) (hd:autoParam ((x == ("__debug__" : Str))=false) tD) :
  wpAny (model P w) A (eval (.Name x pos) env) Q E (sh g t h):=wpAny_Name (wpAny_loadName_cell hk hl hc H.cell k) hd
theorem s_ldf {c:Addr} (H:Is h c (CellP (some v))) (k:Q v (sh g t h)) (hc:autoParam (env.cells.lookup x=some c) tR)
  (hk:autoParam (env.scope.kind=.function) tR) (hl:autoParam (env.kindOf x=some .free) tR) (hd:autoParam ((x == ("__debug__" : Str))=false) tD) (hn:autoParam ((x == ("__classdict__" : Str))=false) tD) :
  wpAny (model P w) A (eval (.Name x pos) env) Q E (sh g t h):=wpAny_Name (wpAny_loadName_free hk hl hc H.cell k (hn:=hn)) hd
theorem s_stc {c:Addr} {v0:Option Value} {Q:Unit→Shared→Prop} (H:St H0 B fa X env.locals l F h) (i:Nat) (k:∀ h' t',St H0 B fa X env.locals l (F.set i (c,CellP (some v))) h'→Q () (sh g t' h'))
  (e:autoParam (F[i]? = some (c,CellP v0)) tR) (hc:autoParam (env.cells.lookup x=some c) tR) (hl:autoParam (env.kindOf x=some .cell) tR) (hk:autoParam (env.scope.kind=.function) tR) :
  wpAny (model P w) A (storeName env x v) Q E (sh g t h) :=
 wpAny_storeName_cell hk hl hc (H.at e).cell fun h' q sb=>k h' _ (H.upd i e (fun b o hb ho=>(sb.2 b hb).trans ho) q)
theorem s_enterC (cs:List (Str×Addr)) (b:Bs H0 mg mb) (low:∀ a o,H0.get? a=some o→h.get? a=some o) (hf:Fn H0 f fd)
  (hfr:Frs A fr) (al:Alive H0 (adr fr) h) (hroom:A.depth < recursionLimit) (hbody:fd.body=.stmts body)
  (hbind:∀ (Q:List (Str×Value)→Shared→Prop) (E:Value→Shared→Prop),Q binds (sh g t h)→wpAny (model P w) A.in1 (bindArgs fd args) Q E (sh g t h))
  (k:∀ h1 t1,St H0 h (adr fr) [] h.objs.size ((binds.filter fun x:Str×Value=>decide (fd.scope.names.lookup x.1=some NameKind.local)).reverse++[]) (cs.map fun x=>(x.2,CellP (bindC (envC fd h.objs.size f cs).kindOf binds (fun _=>none) x.1))) h1→Frs (A.deeper (envC fd h.objs.size f cs)) (envC fd h.objs.size f cs::fr) →
   wpAny (model P w) (A.deeper (envC fd h.objs.size f cs)) (execs body (envC fd h.objs.size f cs)) (fun fl s'=>R (.ok (.ret (match fl with | .ret v=>v | _=>.none))) s')
   (fun e s'=>wpAny (model P w) (A.deeper (envC fd h.objs.size f cs)) (leaving (envC fd h.objs.size f cs) e) (fun _ s''=>R (.error e) s'') (fun e' s''=>R (.error e') s'') s') (sh g t1 h1))
  (hcs:autoParam (cellsFrom (h.objs.size + 1) fd.scope.names []=cs) tR) (hnd:autoParam (decide ((cs.map (·.1)).Nodup)=true) tR)
  (hkind:autoParam ((binds.map (·.1)).all (fun x=>decide (fd.scope.names.lookup x=some .local) || (decide (fd.scope.names.lookup x=some .cell) && (cs.lookup x).isSome))=true) tR)
  (hcl:autoParam (fd.closure=[]) tR) (hco:autoParam (fd.scope.isCoroutine=false) tR) (hgen:autoParam (fd.scope.isGenerator=false) tR) (hk:autoParam (fd.scope.kind=.function) tR) :
  codeAny (model P w) A (.call (.ref f) args) R (sh g t h):=by
 subst hcs
 obtain ⟨⟨o,ho,hd⟩,hc⟩:=hf
 refine codeAny_call_function hroom (low _ _ ho) hd hco hgen hbody (hc.keeps low) ?_
 refine hbind _ _ ?_
 rw [hcl]
 refine wpAny_newFunctionEnv_cells hk (fun x hx=>?_) (fun env he s' I=>?_)
 ·have:=List.all_eq_true.mp hkind _ (Yx.mpr ⟨x,hx,rfl⟩)
  simpa using this
 ·subst he
  obtain ⟨h1,tk,rfl,kp⟩:=I.done
  have ns:h1.Ns h.objs.size (fun y=>List.lookup y ((binds.filter fun x:Str×Value=>decide (fd.scope.names.lookup x.1=some NameKind.local)).reverse++[])):=by
   have:=I.toInCall.ns
   rw [show (fun _=>none:Str→Option Value)=fun x=>([]:List (Str×Value)).lookup x from rfl,bindL_eq] at this
   exact this
  have S0:St H0 h (adr fr) [] h.objs.size _ [] h1:=St.enter low al ns kp
  have inj:∀ x∈cellsFrom (h.objs.size + 1) fd.scope.names [],(cellsFrom (h.objs.size + 1) fd.scope.names []).lookup x.1=some x.2:=fun x hx=>lookup_mem (of_decide_eq_true hnd) hx
  have S1:St H0 h (adr fr) [] h.objs.size ((binds.filter fun x:Str×Value=>decide (fd.scope.names.lookup x.1=some NameKind.local)).reverse++[]) ((cellsFrom (h.objs.size + 1) fd.scope.names []).map fun x=>(x.2,CellP (bindC (envC fd h.objs.size f (cellsFrom (h.objs.size + 1) fd.scope.names [])).kindOf binds (fun _=>none) x.1))) h1:=by
   have hn:∀ x∈cellsFrom (h.objs.size + 1) fd.scope.names [],h.get? x.2=none:=fun x hx=>Yy (Nat.le_of_lt (I.above x.1 x.2 hx))
   exact { S0 with
    has:=fun x hx=>by
     obtain ⟨y,hy,rfl⟩:=Yx.mp hx
     exact I.cell y.1 y.2 (inj y hy)
    nd:=by
     rw [List.map_map]
     exact List.pairwise_map.mpr I.apart
    hi:=fun x hx=>by
     obtain ⟨y,hy,rfl⟩:=Yx.mp hx
     exact none_of fun o e=>by have:=low _ _ e; rw [hn y hy] at this; cases this
    nf:=fun x hx m=>by
     obtain ⟨y,hy,rfl⟩:=Yx.mp hx
     rcases Yu.mp m with q | m
     ·exact Nat.ne_of_gt (I.above y.1 y.2 hy) q
     ·exact al.notIn (hn y hy) m
    keep:=fun b o e _=>.of (kp b o e)
    new:=fun x hx=>by
     obtain ⟨y,hy,rfl⟩:=Yx.mp hx
     exact .inr (hn y hy) }
  refine ⟨(b.lim.keeps S1.low:Heap.NoLimit h1),codeAny_func (k h1 _ S1 ⟨by show A.frames.map _=_; rw [hfr.1]; rfl,fun e m=>?_⟩)⟩
  rcases Yu.mp m with rfl | m
  ·exact ⟨by show fd.scope.kind≠_; rw [hk]; decide,_,rfl⟩
  ·exact hfr.2 e m
structure Itr (w:World) (A:Around) (it:Addr) (n:Nat) (IP:Nat→OP) (vals:Nat→Value→Prop) (Old:Heap→Prop):Prop where
 item:∀ i h g t (Q:Option Value→Shared→Prop) (E:Value→Shared→Prop),i < n→Is h it (IP i)→Old h →
  (∀ h' v t',Is h' it (IP (i + 1))→(∀ b o,b≠it→h.get? b=some o→h'.get? b=some o)→vals i v→Q (some v) (sh g t' h'))→wpAny (model P w) A (pyNext (.ref it)) Q E (sh g t h)
 fin:∀ h g t (Q:Option Value→Shared→Prop) (E:Value→Shared→Prop),Is h it (IP n)→Old h →
  (∀ h',(∀ b o,b≠it→h.get? b=some o→h'.get? b=some o)→Q none (sh g t h'))→wpAny (model P w) A (pyNext (.ref it)) Q E (sh g t h)
 self:∀ i h g t (Q:Value→Shared→Prop) (E:Value→Shared→Prop),Is h it (IP i)→Q (.ref it) (sh g t h)→wpAny (model P w) A (pyIter (.ref it)) Q E (sh g t h)
theorem Itr.list (hh:A.handled=none) (it a:Addr) (xs:List Value):Itr w A it xs.length (IterP a) (fun i v=>xs[i]? = some v) (fun h=>Is h a (ListP xs)) where
 item:=fun i h g t Q E hi hit hl k=>by
  refine wpAny_pyNext_list_item hit.iter hl.list (x:=xs[i]) (by simp [hi]) fun h' hit' sb=>k h' _ t (isIter hit') (fun b o hb e=>(sb.2 b hb).trans e) (by simp [hi])
 fin:=fun h g t Q E hit hl k=>wpAny_pyNext_list_end hh hit.iter hl.list (by simp) fun h' he=>k h' he
 self:=fun i h g t Q E hit k=>wpAny_pyIter_listiter hit.iter k
theorem Itr.range (hh:A.handled=none) (it:Addr) (n:Nat):Itr w A it n (fun i=>RngP i n) (fun i v=>∃ t,v=.int (i:Nat) t) (fun _=>True) where
 item:=fun i h g t Q E hi hit _ k=>by
  refine wpAny_pyNext_range_item hit.rng (by lia) fun h' hit' sb=>k h' _ (t + 1) ⟨_,hit',?_⟩ (fun b o hb e=>(sb.2 b hb).trans e) ⟨t,rfl⟩
  have e1:((i + 1:Nat):Int)=(i:Int) + 1:=by push_cast; rfl
  have e2:(n:Int) - ((i + 1:Nat):Int)=(n:Int) - i - 1:=by rw [e1]; lia
  show _=({ cls:=.type "range_iterator",dict:=none,data:=.fields #[rawInt ((i + 1:Nat):Int),rawInt ((n:Int) - ((i + 1:Nat):Int)),rawInt 1],slots:=#[] }:Obj)
  rw [e2,e1]
 fin:=fun h g t Q E hit _ k=>wpAny_pyNext_range_end hh hit.rng (by lia) fun h' he=>k h' he
 self:=fun i h g t Q E hit k=>wpAny_pyIter_rangeiter hit.rng k
theorem s_compLoop
  {iter:Expr} {D:Addr} {vals:Nat→Value→Prop}
  (I:Itr w A it n IP vals Old) (J:Nat→List Value→Fs→Prop) (hit:B.get? it=none)
  (hOld:∀ i vs F m h,J i vs F→St H0 B fa X L l ((cenv.locals,NsP m)::(D,ListP vs)::(it,IP i)::F) h→Old h)
  (hlen:∀ i vs F,J i vs F→vs.length≤1000)
  (turn:∀ i v vs F h t (m:Str→Option Value),i < n→vals i v→J i vs F→m x=some v→St H0 B fa X L l ((cenv.locals,NsP m)::(D,ListP vs)::(it,IP (i + 1))::F) h →
   wpAny (model P w) A (forIn ifs true fun c r=>if r=true then do let ok ← isTrue c cenv (eval c cenv); pure (ForInStep.yield ok) else pure (ForInStep.yield r)) (fun ok s3 =>
      if ok=true then wpAny (model P w) A (eval elt cenv) (fun y s4=>E3 fun h4 t4 F4=>s4=(sh g t4 h4)∧St H0 B fa X L l ((cenv.locals,NsP m)::(D,ListP vs)::(it,IP (i + 1))::F4) h4∧J (i + 1) (vs++[y]) F4) (fun _ _=>False) s3
      else E3 fun h3 t3 F3=>s3=(sh g t3 h3)∧St H0 B fa X L l ((cenv.locals,NsP m)::(D,ListP vs)::(it,IP (i + 1))::F3) h3∧J (i + 1) vs F3) (fun _ _=>False) (sh g t h))
  (done:∀ vs F h t m,J n vs F→St H0 B fa X L l ((cenv.locals,NsP m)::(D,ListP vs)::F) h→R (.ok .next) (sh g t h))
  (hl:cenv.kindOf x=some .local) (hp:(cenv.scope.kind == .class || (cenv.scope.kind == .module && cenv.locals != cenv.globals))=false)
  {m:Str→Option Value} (h0:J 0 vs F) (H:St H0 B fa X L l ((cenv.locals,NsP m)::(D,ListP vs)::(it,IP 0)::F) h)
  (ht:autoParam (∀ v,letOwnedTupleGo (.Name x px) (.ref it) v=pure ()) tI) :
  codeAny (model P w) A (.compLoop (.ListComp elt [⟨.Name x px,iter,ifs,0⟩] scope pos) 0 (.ref it) (.ref D) cenv) R (sh g t h):=by
 refine codeAny_compLoop_tests (fun k s=>E6 fun h t i vs F m=>A5 (s=(sh g t h)) (i≤n) (k=n + 1 - i) (J i vs F) (St H0 B fa X L l ((cenv.locals,NsP m)::(D,ListP vs)::(it,IP i)::F) h)) ?_ (n + 1) ⟨h,t,0,vs,F,m,rfl,Zs _,rfl,h0,H⟩ ht
 rintro k s ⟨h,t,i,vs,F,m,rfl,hi,rfl,hj,H⟩
 have o:=hOld i vs F m h hj H
 by_cases hlt:i < n
 ·refine I.item i h g t _ _ hlt (H.at (i:=2) rfl) o fun h' v t' hit sb hv=>?_
  have H1:=H.upd 2 rfl sb hit
  refine Zl (wpAny_storeName_local hl (H1.at (i:=0) rfl).ns (fun h2 ns sb2=>?_) hp)
  have H2:=H1.upd 0 rfl (fun b o hb ho=>(sb2.2 b hb).trans ho) (isNs ns)
  refine Ze (turn i v vs F h2 _ _ hlt hv hj (if_pos rfl) H2) (fun ok s3 q=>?_) fun _ _ e=>e.elim
  cases ok with
  | false =>
   rw [if_neg Yk] at q ⊢
   obtain ⟨h3,t3,F3,rfl,H3,j3⟩:=q
   exact ⟨n + 1 - (i + 1),by exact Nat.sub_lt_sub_left (Nat.lt_succ_of_lt ‹_›) (Nat.lt_succ_self _),h3,t3,i + 1,vs,F3,_,rfl,hlt,rfl,j3,H3⟩
  | true =>
   rw [if_pos rfl] at q ⊢
   refine Ze q (fun y s4 q=>?_) fun _ _ e=>e.elim
   obtain ⟨h4,t4,F4,rfl,H4,j4⟩:=q
   refine wpAny_list_append_plain (H4.at (i:=1) rfl).plain (fun h5 pl sb5=>?_) (by have:=hlen i vs F hj; simp only [List.size_toArray]; exact Ye this (by decide))
   have H5:=H4.upd 1 rfl (fun b o hb ho=>(sb5.2 b hb).trans ho) (p':=ListP (vs++[y])) (isPlain (by simpa using pl))
   exact ⟨n + 1 - (i + 1),by exact Nat.sub_lt_sub_left (Nat.lt_succ_of_lt ‹_›) (Nat.lt_succ_self _),h5,t4,i + 1,vs++[y],F4,_,rfl,hlt,rfl,j4,H5⟩
 ·have e:i=n:=Nat.le_antisymm hi (Nat.le_of_not_lt hlt)
  subst e
  refine I.fin h g t _ _ (H.at (i:=2) rfl) o fun h' sb=>?_
  refine done vs F h' t m hj (H.chg [it] _ ?_ ?_ (fun b hb hn=>?_) (fun b o hb e=>sb b o (fun q=>hb (by simp [q])) e) ?_)
  ·intro b hb
   simp only [Zu] at hb
   subst hb; simp
  ·exact (List.Sublist.refl _).cons₂ _ |>.trans (by simp)
  ·have:b=it:=by
    simp only [Zq,Yu,not_or] at hb hn
    rcases hb with q | q | q | q
    ·exact absurd q hn.1
    ·exact absurd q hn.2.1
    ·exact q
    ·exact absurd q hn.2.2
   rw [this]; exact hit
  ·intro y hy
   have hne:y.1≠it:=fun q=>by
    have nd:=H.nd
    simp only [Zq,List.nodup_cons,Yu,not_or] at nd
    rcases Yu.mp hy with rfl | hy
    ·exact nd.1.2.1 q
    rcases Yu.mp hy with rfl | hy
    ·exact nd.2.1.1 q
    ·exact nd.2.2.1 (q ▸ Yx.mpr ⟨y,hy,rfl⟩)
   refine (H.has y ?_).at fun o e=>sb _ o hne e
   rcases Yu.mp hy with rfl | hy
   ·exact Yc
   rcases Yu.mp hy with rfl | hy
   ·exact Yb _ Yc
   ·exact Yb _ (Yb _ (Yb _ hy))
theorem s_compCore {RR:Value→Addr→Result→Shared→Prop}
  {iter:Expr} {vals:Nat→Value→Prop}
  (H:St H0 B fa X L l ((it,IP 0)::F) h) (I:Itr w A it n IP vals Old) (hit:B.get? it=none) (J:Nat→List Value→Fs→Prop) (h0:J 0 [] F)
  (hOld:∀ C D i vs F m h,J i vs F→St H0 B fa X L l ((C,NsP m)::(D,ListP vs)::(it,IP i)::F) h→Old h)
  (hlen:∀ i vs F,J i vs F→vs.length≤1000)
  (turn:∀ C D i v vs F h t (m:Str→Option Value),i < n→vals i v→J i vs F→m x=some v→St H0 B fa X L l ((C,NsP m)::(D,ListP vs)::(it,IP (i + 1))::F) h →
   wpAny (model P w) A (forIn ifs true fun c r=>if r=true then do let ok ← isTrue c (compEnvC scope cl C env) (eval c (compEnvC scope cl C env)); pure (ForInStep.yield ok) else pure (ForInStep.yield r)) (fun ok s3 =>
      if ok=true then wpAny (model P w) A (eval elt (compEnvC scope cl C env)) (fun y s4=>E3 fun h4 t4 F4=>s4=(sh g t4 h4)∧St H0 B fa X L l ((C,NsP m)::(D,ListP vs)::(it,IP (i + 1))::F4) h4∧J (i + 1) (vs++[y]) F4) (fun _ _=>False) s3
      else E3 fun h3 t3 F3=>s3=(sh g t3 h3)∧St H0 B fa X L l ((C,NsP m)::(D,ListP vs)::(it,IP (i + 1))::F3) h3∧J (i + 1) vs F3) (fun _ _=>False) (sh g t h))
  (done:∀ C D vs F h' t' m,J n vs F→B.get? C=none→St H0 B fa X L l ((C,NsP m)::(D,ListP vs)::F) h'→RR (.ref D) C (.ok .next) (sh g t' h'))
  (hcell:scope.names.all (fun x=>decide (x.2≠.cell))=true) (hk:scope.kind=.function) (hl:(relabel scope env).names.lookup x=some .local) :
  wpAny (model P w) A (newList []) (fun acc s3=>wpAny (model P w) A (newFunctionEnv scope env.globals cl [] env.qual none .none (some env) bi) (fun cenv s4 =>
   codeAny (model P w) A (.compStart (.ListComp elt [⟨.Name x px,iter,ifs,0⟩] scope pos) 0 (.ref it) acc { cenv with scope:=relabel scope env }) (RR acc cenv.locals) s4) E s3) E (sh g t h):=by
 refine wpAny_newList ?_ (Zs _)
 have H1:=H.push { cls:=.type "list",data:=.seq ([]:List Value).toArray } (p:=ListP []) ⟨0,rfl⟩
 refine wpAny_newFunctionEnv (fun x hx=>of_decide_eq_true (List.all_eq_true.mp hcell x hx)) (fun _ hm=>(nomatch hm)) (fun h2 ns sb=>?_) hk
 have H2:=H1.push { cls:=.type "dict",data:=.dict #[] } (p:=fun _=>True) trivial
 have H3:=H2.upd 0 rfl (fun b o hb ho=>(sb.2 b hb).trans ho) (isNs ns)
 have loop:∀ t',codeAny (model P w) A (.compLoop (.ListComp elt [⟨.Name x px,iter,ifs,0⟩] scope pos) 0 (.ref it) (.ref h.objs.size) (compEnvC scope cl (h.push { cls:=.type "list",data:=.seq ([]:List Value).toArray }).objs.size env)) (RR (.ref h.objs.size) (h.push { cls:=.type "list",data:=.seq ([]:List Value).toArray }).objs.size) (sh g t' h2):=fun t'=>by
  refine s_compLoop (cenv:=compEnvC scope cl (h.push { cls:=.type "list",data:=.seq ([]:List Value).toArray }).objs.size env) I J hit (fun i vs F m h j S=>hOld _ _ i vs F m h j S) hlen (fun i v vs F h t m a b c e S=>turn _ _ i v vs F h t m a b c e S) (fun vs F h' t' m j S=>?_) hl (by
   show (scope.kind == .class || (scope.kind == .module && _))=false
   rw [hk]; rfl) h0 H3
  exact done _ _ vs F h' t' m j (H1.notOld (Yy (Zf _))) S
 exact codeAny_compStart_list (loop _) (I.self 0 _ _ _ _ _ (H3.at (i:=2) rfl) (loop _))
theorem s_compIn
  {iter:Expr} {vals:Nat→Value→Prop}
  (H:St H0 B fa X L l ((it,IP 0)::F) h) (I:Itr w A it n IP vals Old) (hit:B.get? it=none) (J:Nat→List Value→Fs→Prop) (h0:J 0 [] F)
  (hOld:∀ C D i vs F m h,J i vs F→St H0 B fa X L l ((C,NsP m)::(D,ListP vs)::(it,IP i)::F) h→Old h)
  (hlen:∀ i vs F,J i vs F→vs.length≤1000)
  (turn:∀ C D i v vs F h t (m:Str→Option Value),i < n→vals i v→J i vs F→m x=some v→St H0 B fa X L l ((C,NsP m)::(D,ListP vs)::(it,IP (i + 1))::F) h →
   wpAny (model P w) A (forIn ifs true fun c r=>if r=true then do let ok ← isTrue c (compEnvC scope cl C env) (eval c (compEnvC scope cl C env)); pure (ForInStep.yield ok) else pure (ForInStep.yield r)) (fun ok s3 =>
      if ok=true then wpAny (model P w) A (eval elt (compEnvC scope cl C env)) (fun y s4=>E3 fun h4 t4 F4=>s4=(sh g t4 h4)∧St H0 B fa X L l ((C,NsP m)::(D,ListP vs)::(it,IP (i + 1))::F4) h4∧J (i + 1) (vs++[y]) F4) (fun _ _=>False) s3
      else E3 fun h3 t3 F3=>s3=(sh g t3 h3)∧St H0 B fa X L l ((C,NsP m)::(D,ListP vs)::(it,IP (i + 1))::F3) h3∧J (i + 1) vs F3) (fun _ _=>False) (sh g t h))
  (k:∀ D vs F h' t',J n vs F→St H0 B fa X L l ((D,ListP vs)::F) h'→Q (.ref D) (sh g t' h'))
  (hcell:scope.names.all (fun x=>decide (x.2≠.cell))=true) (hk:scope.kind=.function) (hl:(relabel scope env).names.lookup x=some .local) :
  wpAny (model P w) A (newList []) (fun acc s3=>wpAny (model P w) A (newFunctionEnv scope env.globals cl [] env.qual none .none (some env) bi) (fun cenv s4 =>
   codeAny (model P w) A (.compStart (.ListComp elt [⟨.Name x px,iter,ifs,0⟩] scope pos) 0 (.ref it) acc { cenv with scope:=relabel scope env }) (compPost (model P w) A E none Q acc cenv.locals) s4) E s3) E (sh g t h) :=
 s_compCore (RR:=compPost (model P w) A E none Q) H I hit J h0 hOld hlen turn (fun C D vs F h' t' m j n S=>⟨m,(S.at (i:=0) rfl).ns,fun h'' sb'=>k _ vs F h'' t' j (S.lose n fun b o hb ho=>(sb'.2 b hb).trans ho)⟩) hcell hk hl
noncomputable abbrev CompU (w:World) (A:Around) (E:Value→Shared→Prop) (Q:Flow→Shared→Prop) (env:Env) (y:Str) (py:Pos) (elt iter:Expr) (x:Str) (px:Pos) (ifs:List Expr) (scope:Scope) (pos:Pos) (cl:List (Str×Addr)) (it:Value) (s:Shared):Prop :=
 wpAny (model P w) A (newList []) (fun acc s3=>wpAny (model P w) A (newFunctionEnv scope env.globals cl [] env.qual none .none (some env)) (fun cenv s4 =>
   codeAny (model P w) A (.compStart (.ListComp elt [⟨.Name x px,iter,ifs,0⟩] scope pos) 0 it acc { cenv with scope:=relabel scope env }) (compPost (model P w) A E (some (assign (.Name y py) env)) (fun _ s'=>Q .next s') acc cenv.locals) s4) E s3) E s
theorem s_compAsg {spos:Pos} {iter:Expr} {Q:Flow→Shared→Prop} (cl:List (Str×Addr))
  (h:wpAny (model P w) A (eval iter env) (fun v s1=>wpAny (model P w) A (pyIter v) (CompU w A E Q env y py elt iter x px ifs scope pos cl) E s1) E s)
  (hsw:autoParam (swapsWith (.ListComp elt [⟨.Name x px,iter,ifs,0⟩] scope pos) (some (.Name y py)) spos.line env=pure true) tR)
  (hclos:autoParam (closureFor scope env=pure cl) tR) (hk:autoParam (scope.kind=.function) tR) (hnames:autoParam (scope.names.all (fun x=>!decide (x.2=.local) || decide (scope.names.lookup x.1=some .local))=true) tR)
  (hs:autoParam (∀ v,foldedSetIterable iter env v=pure v) tI) :
  wpAny (model P w) A (exec (.Assign [.Name y py] (.ListComp elt [⟨.Name x px,iter,ifs,0⟩] scope pos) spos) env) Q E s:=by
 rw [exec_Assign_Name_used _ _ _ _ hsw]
 refine Yd (wpAny_standAt (Yd ?_))
 show wpAny _ A (do let _ ← comprehension (.ListComp elt [⟨.Name x px,iter,ifs,0⟩] scope pos) scope env _ (newList []) false (eval iter env) (some (assign (.Name y py) env))) _ _ s
 exact Yd (Ze (wpAny_comprehension_free (use:=some (assign (.Name y py) env)) (Q:=fun _ s'=>Q .next s') rfl hs hclos hk (fun y hy hl=>by
  have:=List.all_eq_true.mp hnames y hy
  simpa [hl] using this) h) (fun _ s' hq=>Yn (Yn hq)) fun _ _ e=>e)
theorem s_compInU {Q:Flow→Shared→Prop}
  {iter:Expr} {vals:Nat→Value→Prop}
  (H:St H0 B fa X env.locals l ((it,IP 0)::F) h) (I:Itr w A it n IP vals Old) (hit:B.get? it=none) (J:Nat→List Value→Fs→Prop) (h0:J 0 [] F)
  (hOld:∀ C D i vs F m h,J i vs F→St H0 B fa X env.locals l ((C,NsP m)::(D,ListP vs)::(it,IP i)::F) h→Old h)
  (hlen:∀ i vs F,J i vs F→vs.length≤1000)
  (turn:∀ C D i v vs F h t (m:Str→Option Value),i < n→vals i v→J i vs F→m x=some v→St H0 B fa X env.locals l ((C,NsP m)::(D,ListP vs)::(it,IP (i + 1))::F) h →
   wpAny (model P w) A (forIn ifs true fun c r=>if r=true then do let ok ← isTrue c (compEnvC scope cl C env) (eval c (compEnvC scope cl C env)); pure (ForInStep.yield ok) else pure (ForInStep.yield r)) (fun ok s3 =>
      if ok=true then wpAny (model P w) A (eval elt (compEnvC scope cl C env)) (fun y s4=>E3 fun h4 t4 F4=>s4=(sh g t4 h4)∧St H0 B fa X env.locals l ((C,NsP m)::(D,ListP vs)::(it,IP (i + 1))::F4) h4∧J (i + 1) (vs++[y]) F4) (fun _ _=>False) s3
      else E3 fun h3 t3 F3=>s3=(sh g t3 h3)∧St H0 B fa X env.locals l ((C,NsP m)::(D,ListP vs)::(it,IP (i + 1))::F3) h3∧J (i + 1) vs F3) (fun _ _=>False) (sh g t h))
  (k:∀ D vs F h' t',J n vs F→St H0 B fa X env.locals ((y,.ref D)::l) ((D,ListP vs)::F) h'→Q .next (sh g t' h'))
  (hcell:scope.names.all (fun x=>decide (x.2≠.cell))=true) (hk:scope.kind=.function) (hl:(relabel scope env).names.lookup x=some .local)
  (hy:autoParam (env.kindOf y=some .local) tR) (hp:autoParam ((env.scope.kind == .class || (env.scope.kind == .module && env.locals != env.globals))=false) tR) :
  CompU w A E Q env y py elt iter x px ifs scope pos cl (.ref it) (sh g t h) :=
 s_compCore (RR:=compPost (model P w) A E (some (assign (.Name y py) env)) fun _ s'=>Q .next s') H I hit J h0 hOld hlen turn (fun C D vs F h' t' m j n S=>Zl (s_st S (fun h2 t2 S2=>⟨m,(S2.at (i:=0) rfl).ns,fun h'' sb'=>k _ vs F h'' t2 j (S2.lose n fun b o hb ho=>(sb'.2 b hb).trans ho)⟩) hy hp)) hcell hk hl
noncomputable abbrev CompK (w:World) (A:Around) (E:Value→Shared→Prop) (Q:Value→Shared→Prop) (env:Env) (elt iter:Expr) (x:Str) (px:Pos) (ifs:List Expr) (scope:Scope) (pos:Pos) (cl:List (Str×Addr)) (it:Value) (s:Shared):Prop :=
 wpAny (model P w) A (newList []) (fun acc s3=>wpAny (model P w) A (newFunctionEnv scope env.globals cl [] env.qual none .none (some env)) (fun cenv s4 =>
   codeAny (model P w) A (.compStart (.ListComp elt [⟨.Name x px,iter,ifs,0⟩] scope pos) 0 it acc { cenv with scope:=relabel scope env }) (compPost (model P w) A E none Q acc cenv.locals) s4) E s3) E s
theorem s_comp {iter:Expr} (cl:List (Str×Addr))
  (h:wpAny (model P w) A (eval iter env) (fun v s1=>wpAny (model P w) A (pyIter v) (CompK w A E Q env elt iter x px ifs scope pos cl) E s1) E s)
  (hclos:autoParam (closureFor scope env=pure cl) tR) (hk:autoParam (scope.kind=.function) tR) (hnames:autoParam (scope.names.all (fun x=>!decide (x.2=.local) || decide (scope.names.lookup x.1=some .local))=true) tR)
  (hs:autoParam (∀ v,foldedSetIterable iter env v=pure v) tI) :
  wpAny (model P w) A (eval (.ListComp elt [⟨.Name x px,iter,ifs,0⟩] scope pos) env) Q E s:=by
 rw [eval_ListComp]
 exact wpAny_comprehension_free (use:=none) rfl hs hclos hk (fun y hy hl=>by
  have:=List.all_eq_true.mp hnames y hy
  simpa [hl] using this) h
theorem s_if1 {c:Expr} {Q:Bool→Shared→Prop} (k:wpAny (model P w) A (isTrue c env (eval c env)) Q E s) :
  wpAny (model P w) A (forIn [c] true fun c r=>if r=true then do let ok ← isTrue c env (eval c env); pure (ForInStep.yield ok) else pure (ForInStep.yield r)) Q E s:=by
 rw [List.forIn_cons]
 refine Yd ?_
 rw [if_pos rfl]
 exact Yd (Ze k (fun ok s q=>Yn (by show wpAny _ _ (forIn ([]:List Expr) ok _) _ _ _; rw [List.forIn_nil]; exact Yn q)) fun _ _ e=>e)
theorem s_if0 {Q:Bool→Shared→Prop} (k:Q true s) :
  wpAny (model P w) A (forIn ([]:List Expr) true fun c r=>if r=true then do let ok ← isTrue c env (eval c env); pure (ForInStep.yield ok) else pure (ForInStep.yield r)) Q E s:=by
 rw [List.forIn_nil]
 exact Yn k
theorem s_ldm {m:Str→Option Value} (H:Is h env.locals (NsP m)) (hv:m x=some v) (k:Q v (sh g t h))
  (hk:autoParam (env.scope.kind=.function) tR) (hl:autoParam (env.kindOf x=some .local) tR) (hd:autoParam ((x == ("__debug__" : Str))=false) tD) :
  wpAny (model P w) A (eval (.Name x pos) env) Q E (sh g t h):=wpAny_Name (wpAny_loadName_local hk hl H.ns hv k) hd
theorem s_at (ha:Is h a (ListP xs)) (hi:i < 2 ^ 62) (hv:xs[i]? = some v) (k:Q v (sh g t h)) :
  SubscriptOn (model P w) A (.ref a) (.int i t0) Q E (sh g t h) :=
 ⟨"list",_,PySem.F.slot_list_getitem.lookup,ha.list.typeIs,wpAny_getItem_list ha.list (by lia) (by lia) (by simpa using hv) k⟩
theorem s_upto {up:Expr} {p:Pos} (H:St H0 B fa X L l F h) (ha:Is h a (ListP xs)) (hz:xs.length≤1000)
  (e1:∀ Q:Value→Shared→Prop,Q (.ref a) (sh g t h)→wpAny (model P w) A (eval value env) Q E (sh g t h))
  (e2:∀ Q:Value→Shared→Prop,Q (.int i t0) (sh g t h)→wpAny (model P w) A (eval up env) Q E (sh g t h))
  (k:∀ b h' t',St H0 B fa X L l ((b,ListP (xs.take i))::F) h'→Q (.ref b) (sh g t' h'))
  (ht:autoParam (∀ o r,letTemporaryGo value o r=pure ()) tI) :
  wpAny (model P w) A (eval (.Subscript value (.Slice none (some up) none p) pos) env) Q E (sh g t h):=by
 refine wpAny_Subscript_Slice PySem.F.slot_list_getitem.lookup (e1 _ ?_) ht
 refine wpAny_Slice (evalPart_none_step (evalPart_some_step (e2 _ (evalPart_none_step ?_))))
 have kp:∀ b o,h.get? b=some o→(h.push { cls:=.type "slice",data:=.fields #[.none,.int i t0,.none] }).get? b=some o:=fun b o e=>Yv _ e
 have ha':=ha.at (fun o e=>kp a o e)
 refine ⟨ha'.list.typeIs,wpAny_getItem_list_slice ha'.list (Heap.IsSliceOf.new _ _ _ _) .none (.int _ _) .none (by simp) ?_ (by simp only [List.size_toArray]; exact Ye hz (by decide))⟩
 rw [slicePick_upto']
 exact k _ _ _ ((H.same kp).push _ ⟨0,rfl⟩)
theorem b42 (name:Str) (cd pm kwd v:Value):bindArgs (fdF 42 name cd pm kwd) ⟨[v],[]⟩=pure [(("words" : Str),v)]:=by rfl
theorem s_lenv {np:Pos} (b:Bs H0 mg mb) (low:∀ a o,H0.get? a=some o→h.get? a=some o) (hn:mg "len" = none) (hb:mb "len" = some (.builtin "len")) (ha:Is h a (ListP xs)) (hz:xs.length≤1000)
  (k1:∀ Q:Value→Shared→Prop,Q (.ref a) (sh g t h)→wpAny (model P w) A (eval e env) Q E (sh g t h))
  (k:∀ t0 t',Q (.int (xs.length:Nat) t0) (sh g t' h))
  (hk:autoParam (env.scope.kind=.function) tR) (hl:autoParam (env.kindOf "len" = some .globalImplicit) tR) (hg:autoParam (env.globals=mainGlobals) tR) (hbi:autoParam (env.builtins=builtinsNs) tR)
  (hs:autoParam (starEach [e] env=[(false,eval e env)]) tR) :
  wpAny (model P w) A (eval (.Call (.Name "len" np) [e] [] pos) env) Q E (sh g t h):=by
 refine Zb (s_bname b low hn hb ?_ hk hl hg hbi)
 rw [hs]
 refine callWith_builtin rfl (Zx (Yz (k1 _ (Zn ?_))))
 refine call_len_list ha.list (by simp; lia) ?_
 simp only [List.size_toArray]
 exact k _ _
theorem met_call {g} {t} {e:Value→Value→Bool}
  (rm:Rm A (n + 4)) (hfr:Frs A fr) (al:Alive H0 (adr fr) h) (bs:Bs H0 mg mb) (low:∀ a o,H0.get? a=some o→h.get? a=some o) (hf:Fn H0 f (fdF 42 name cd pm kwd)) (NR:NamesR mg mb)
  (ha:Ob (adr fr) h a (ListP xs)) (hz:xs.length≤1000)
  (he:∀ (A':Around) (s':Shared),Rd A' n→(∀ a p,Ob (adr fr) h a p→Is s'.heap a p)→∀ y∈xs,∀ x∈xs,SeqAt.EqAt A' s' y x (e y x))
  (hd:∀ i x,xs[i]? = some x→(dd e (xs.take i)).any (fun y=>e y x)=(xs.take i).any (fun y=>e y x))
  (hR:∀ h' t' b,Kp (adr fr) [] h h'→h.get? b=none→Is h' b (ListP (dd e xs))→R (.ok (.ret (.ref b))) (sh g t' h')) :
  codeAny (model P w) A (.call (.ref f) ⟨[.ref a],[]⟩) R (sh g t h):=by
 refine s_enterC [("words",h.objs.size + 1)] bs low hf hfr al rm.room rfl (fun _ _ q=>by rw [b42]; exact Yn q) fun h1 t1 H hF=>?_
 have rm':=rm.deeper (envC (fdF 42 name cd pm kwd) h.objs.size f [("words",h.objs.size + 1)])
 refine Yh (Zd (s_comp [("words",h.objs.size + 1)] ?_))
 refine s_type1 bs H.low NR.r0 NR.r1 ?_
 refine s_lenv bs H.low NR.n0 NR.n1 (H.old ha) hz (fun Q q=>s_ldc (c:=h.objs.size + 1) (v:=.ref a) (H.at (i:=0) rfl) q) fun t0 t2=>?_
 refine s_iterRange H hz fun it t3 h3 H3=>?_
 refine s_compIn H3 (Itr.range rm'.1 it xs.length) (H3.fresh (i:=0) rfl) (fun i vs F=>vs=dd e (xs.take i)∧F=[(h.objs.size + 1,CellP (some (.ref a)))]) ⟨rfl,rfl⟩ (fun _ _ _ _ _ _ _ _ _=>trivial) (fun i vs F j=>?_) (fun C D i v vs F h4 t4 m hi hv j hm H4=>?_) (fun D vs F h4 t4 j H4=>?_) (by rfl) (by rfl) (by rfl)
 ·obtain ⟨rfl,_⟩:=j
  have:=dd_len e (xs.take i) (xs.take i).length
  rw [List.take_length] at this
  exact Ye this (Ye (by rw [List.length_take]; exact Nat.min_le_right _ _) hz)
 ·obtain ⟨rfl,rfl⟩:=j
  obtain ⟨ti,rfl⟩:=hv
  obtain ⟨x,hx⟩:∃ x,xs[i]? = some x:=⟨_,Yj hi⟩
  refine s_if1 (Yg ?_)
  refine Zk (s_ldc (c:=h.objs.size + 1) (v:=.ref a) (H4.at (i:=3) rfl) (s_ldm (H4.at (i:=0) rfl) hm (s_at (H4.old ha) (by lia) hx ?_)))
  refine s_upto H4 (H4.old ha) hz (fun Q q=>s_ldc (c:=h.objs.size + 1) (v:=.ref a) (H4.at (i:=3) rfl) q) (fun Q q=>s_ldm (H4.at (i:=0) rfl) hm q) fun b h5 t5 H5=>?_
  refine SeqAt.notIn_listAt (fun y=>e y x) (H5.at (i:=0) rfl).list (fun y hy=>he _ _ (rm'.rd.le (by exact Za (by decide) _)).in1 (fun a p o=>H5.old o) y (List.mem_of_mem_take (by simpa using hy)) x (Yr hx)) ?_
  refine Yi ?_
  have hs:=dd_snoc e xs i x hx
  rw [hd i x hx] at hs
  have hany:((xs.take i).toArray.any fun y=>e y x)=(xs.take i).any fun y=>e y x:=by simp
  rw [hany]
  have H6:=H5.lose (h':=h5) (H5.fresh (i:=0) rfl) (fun _ _ _ e=>e)
  cases hb:(xs.take i).any fun y=>e y x with
  | true =>
   rw [hb,if_pos rfl] at hs
   rw [if_neg (by simp)]
   exact ⟨_,_,_,rfl,H6,hs.symm,rfl⟩
  | false =>
   rw [hb,if_neg (by simp)] at hs
   rw [if_pos (by simp)]
   refine Zk (s_ldc (c:=h.objs.size + 1) (v:=.ref a) (H6.at (i:=3) rfl) (s_ldm (H6.at (i:=0) rfl) hm (s_at (H6.old ha) (by lia) hx ?_)))
   exact ⟨_,_,_,rfl,H6,hs.symm,rfl⟩
 ·obtain ⟨rfl,rfl⟩:=j
  rw [List.take_length] at H4
  exact hR h4 _ D H4.kp (H4.fresh (i:=0) rfl) (H4.at (i:=0) rfl)
theorem s_extLoop {S:Addr} {res it:Value} (J:Nat→List Value→Heap→Prop)
  (hS:∀ i vs h,J i vs h→Is h S (ListP vs)∧vs.length≤1000)
  (item:∀ i vs h t,i < n→J i vs h→wpAny (model P w) A.in1 (pyNext it) (fun o s1=>E3 fun v h₁ t1=>o=some v∧s1=(sh g t1 h₁)∧Is h₁ S (ListP vs)∧∀ h2,Is h2 S (ListP (vs++[v]))→(∀ b o,b≠S→h₁.get? b=some o→h2.get? b=some o)→J (i + 1) (vs++[v]) h2) (fun e s'=>R (.error e) s') (sh g t h))
  (fin:∀ vs h t,J n vs h→wpAny (model P w) A.in1 (pyNext it) (fun o s1=>o=none∧R (.ok (.ret res)) s1) (fun e s'=>R (.error e) s') (sh g t h)) :
  ∀ k i vs h t,n - i=k→i≤n→J i vs h→codeAny (model P w) A (.builtin "list.extend.loop" ⟨[.ref S,it,res],[]⟩) R (sh g t h):=by
 intro k
 induction k with
 | zero =>
  intro i vs h t hk hi hj
  have hin:i=n:=by exact sb4 ‹_› ‹_›
  subst hin
  refine codeAny_builtin F.entry_extend_loop ?_
  rw [Around.under_plainId F.plain_extend_loop _]
  show wpAny _ A.in1 (pyNext it >>= _) _ _ _
  refine Yd (Ze (fin vs h t hj) (fun o s1 q=>?_) fun _ _ e=>e)
  obtain ⟨rfl,q⟩:=q
  exact Yn q
 | succ k ih =>
  intro i vs h t hk hi hj
  refine codeAny_builtin F.entry_extend_loop ?_
  rw [Around.under_plainId F.plain_extend_loop _]
  show wpAny _ A.in1 (pyNext it >>= _) _ _ _
  refine Yd (Ze (item i vs h t (by exact Nat.lt_of_sub_eq_succ ‹_›) hj) (fun o s1 q=>?_) fun _ _ e=>e)
  obtain ⟨v,h₁,t1,rfl,rfl,⟨o,ho,nt,rfl⟩,q⟩:=q
  show wpAny _ A.in1 (updateSeq S (·.push v) >>= _) _ _ _
  refine Yd ?_
  have hl:=(hS i vs h hj).2
  have hz:vs.length + 1≤sizeLine:=Ye (Nat.succ_le_succ hl) (by decide)
  have e:=IsL.update ho (fun xs=>xs.push v)
  have e1:vs.toArray.push v=(vs++[v]).toArray:=by simp
  have j':=q (h₁.update S (Obj.mapSeq fun xs=>xs.push v)) (isPlain ⟨_,by rw [e1] at e; exact e⟩) fun b o hb e=>(Zm _ _ (Ne.symm hb)).trans e
  refine wpAny_updateSeq ho rfl (Yn ⟨plainId_quiet F.plain_extend_loop _,ih (i + 1) (vs++[v]) _ _ (by exact sb1 ‹_›) (by exact Nat.lt_of_sub_eq_succ ‹_›) j'⟩)
   (by simp only [List.size_toArray]; exact Ye hl (by decide)) (by show (vs.toArray.push v).size≤sizeLine + 1; simp only [Array.size_push,List.size_toArray]; exact Ye hz (by decide))
theorem s_listCall {x:Value} {tv:Value} {S:Addr} (eS:h.objs.size=S)
  (H:St H0 B fa X L l F h) (hT:∀ h2 t2 (Q':Value→Shared→Prop) E',(∀ b o,h.get? b=some o→h2.get? b=some o)→Q' tv (sh g t2 h2)→wpAny (model P w) A.in1.in1 (typeOf x) Q' E' (sh g t2 h2)) (hT1:(tv == Value.type "list")=false) (hT2:(tv == Value.type "tuple")=false) (hx:x≠.ref S) (Mid:Value→Heap→Prop) (J:Value→Nat→List Value→Heap→Prop)
  (iter:∀ h2 t2 (Q':Value→Shared→Prop) E',St H0 B fa X L l ((S,ListP [])::F) h2→(∀ it h3 t3,Mid it h3→Q' it (sh g t3 h3))→wpAny (model P w) A.in1.in1 (pyIter x) Q' E' (sh g t2 h2))
  (hint:∀ it h3 t3 (Q':Bool→Shared→Prop) E',Mid it h3→(∀ b t4,Q' b (sh g t4 h3))→wpAny (model P w) A.in1.in1 (Builtin.List.listLengthHint x) Q' E' (sh g t3 h3))
  (mid:∀ it h3,Mid it h3→Is h3 S (ListP [])∧∀ h4,Is h4 S (ListP [])→(∀ b o,b≠S→h3.get? b=some o→h4.get? b=some o)→J it 0 [] h4)
  (hS:∀ it i vs h',J it i vs h'→Is h' S (ListP vs)∧vs.length≤1000)
  (item:∀ it i vs h t E',i < n→J it i vs h→wpAny (model P w) A.in1.in1 (pyNext it) (fun o s1=>E3 fun v h₁ t1=>o=some v∧s1=(sh g t1 h₁)∧Is h₁ S (ListP vs)∧∀ h2,Is h2 S (ListP (vs++[v]))→(∀ b o,b≠S→h₁.get? b=some o→h2.get? b=some o)→J it (i + 1) (vs++[v]) h2) E' (sh g t h))
  (fin:∀ it vs h t (Q':Option Value→Shared→Prop) E',J it n vs h→(∀ h₁ t1,Q (.ref S) (sh g t1 h₁)→Q' none (sh g t1 h₁))→wpAny (model P w) A.in1.in1 (pyNext it) Q' E' (sh g t h)) :
  wpAny (model P w) A (call (.type "list") [x]) Q E (sh g t h):=by
 subst eS
 refine callType_codes (Q₁:=fun obj s1=>obj=.ref h.objs.size∧s1=(sh g t (h.push { cls:=.type "list",data:=.seq #[] }))) PySem.F.called_list (PySem.F.typeCall_list_1 _) PySem.F.entry_list_init
  (code_list_new _ ⟨rfl,rfl⟩) fun obj s1 h₁=>?_
 obtain ⟨rfl,rfl⟩:=h₁
 have hS0:(h.push { cls:=.type "list",data:=.seq #[] }).get? h.objs.size=some { cls:=.type "list",data:=.seq #[] }:=Heap.get?_push_size _ rfl
 refine ⟨⟨_,hS0,rfl⟩,PySem.F.args_list_init_2 _ _,?_⟩
 show wpAny _ _ (do let old ← Builtin.List.listItems (.ref h.objs.size); Builtin.List.listUpdate (.ref h.objs.size) (fun _=>#[]); letGo old.toList.reverse; Builtin.List.listExtendWith (.ref h.objs.size) x .none) _ _ _
 refine Yd ?_
 unfold Builtin.List.listItems
 refine Yd (wpAny_seqItems hS0 rfl (Yn ?_))
 show wpAny _ _ (updateSeq h.objs.size (fun _=>#[]) >>= fun _=>letGo (#[]:Array Value).toList.reverse >>= fun _=>Builtin.List.listExtendWith (.ref h.objs.size) x .none) _ _ _
 refine Yd (wpAny_updateSeq hS0 rfl ?_)
 have H1:=H.push { cls:=.type "list",data:=.seq ([]:List Value).toArray } (p:=ListP []) ⟨0,rfl⟩
 have H2:=H1.upd 0 rfl (h':=(h.push { cls:=.type "list",data:=.seq #[] }).update h.objs.size (Obj.mapSeq (fun _=>(#[]:Array Value)))) (p':=ListP []) (fun b o hb e=>(Zm _ _ (Ne.symm hb)).trans e) (isPlain ⟨_,IsL.update hS0 (fun _=>#[])⟩)
 refine Yd (wpAny_letGo ?_)
 unfold Builtin.List.listExtendWith
 refine Yd (hT _ _ _ _ (fun b o e=>?_) ?_)
 ·exact (Zm _ _ (Ne.symm (Nat.ne_of_lt (Heap.lt_size e)))).trans (Yv _ e)
 have h1:Builtin.List.listSameRef (.ref h.objs.size) x=false:=by
  cases x with
  | ref a=>simp only [Builtin.List.listSameRef]; exact Zp.mpr fun q=>hx (q ▸ rfl)
  | _=>rfl
 simp only [h1,hT1,hT2,Bool.or_false,Bool.false_eq_true,if_false]
 refine Yd (iter _ _ _ _ H2 fun it h3 t3 hm=>?_)
 refine Yd (wpAny_holding (hint it h3 t3 _ _ hm fun room t4=>?_))
 obtain ⟨m1,m2⟩:=mid it h3 hm
 have loop:∀ h4 t4,J it 0 [] h4→codeAny (model P w) A.in1 (.builtin "list.extend.loop" ⟨[.ref h.objs.size,it,.none],[]⟩) (wants (fun r s2=>r=.none∧Q (.ref h.objs.size) s2) E) (sh g t4 h4):=fun h4 t4 j =>
  s_extLoop (n:=n) (J it) (hS it) (fun i vs h t hi hj=>item it i vs h t _ hi hj) (fun vs h t hj=>fin it vs h t _ _ hj fun h₁ t1 q=>⟨rfl,⟨rfl,q⟩⟩) n 0 [] h4 t4 (Nat.sub_zero _) (Zs _) j
 refine wpAny_ite_split (fun _=>?_) (fun _=>Yn ⟨plainId_quiet PySem.F.plain_extend_loop _,loop _ _ (m2 _ m1 fun _ _ _ e=>e)⟩)
 refine Yd (wpAny_rule ?_)
 refine Yd ?_
 obtain ⟨o,ho,nt,rfl⟩:=m1
 show wpAny _ _ (updateSeq h.objs.size (·.push .none) >>= fun _=>updateSeq h.objs.size (·.pop)) _ _ _
 refine Yd (wpAny_updateSeq ho rfl ?_)
 have hS2:=IsL.update ho (fun xs=>xs.push Value.none)
 refine wpAny_updateSeq (hz:=by show (#[]:Array Value).push .none |>.size |> (·≤_); decide) hS2 rfl ?_
 have hS3:=IsL.update hS2 (fun xs=>xs.pop)
 refine Yn ⟨plainId_quiet PySem.F.plain_extend_loop _,loop _ _ (m2 _ (isPlain ⟨_,hS3⟩) fun b o hb e=>?_)⟩
 exact (Zm _ _ (Ne.symm hb)).trans ((Zm _ _ (Ne.symm hb)).trans e)
noncomputable def DictEP (w:World) (kvs:List (Str×Value)) (ep:Nat):OP:=fun o=>∃ es,o.ExactDict∧o.data=.dict es ep∧KeysOf (SK w) es∧Pairs (SK w) es.toList kvs∧(kvs.map (·.1)).Nodup
theorem Is.dictAt {w h a kvs ep} (x:Is h a (DictEP w kvs ep)):h.DictAt (SK w) a kvs ep:=by obtain ⟨o,e,es,r⟩:=x; exact ⟨o,es,e,r⟩
theorem Is.fixEp {w h a kvs} (x:Is h a (DictP w kvs)):∃ ep,Is h a (DictEP w kvs ep):=by obtain ⟨o,e,es,ep,r⟩:=x; exact ⟨ep,o,e,es,r⟩
theorem Is.anyEp {w h a kvs ep} (x:Is h a (DictEP w kvs ep)):Is h a (DictP w kvs):=by obtain ⟨o,e,es,r⟩:=x; exact ⟨o,e,es,ep,r⟩
noncomputable def KeyIP (d i n ep:Nat):OP:=fun o=>o.cls=.type "dict_keyiterator" ∧ o.data=.fields #[.ref d,.int i 0,.int n 0,.int ep 0]
noncomputable def ValIP (d i n ep:Nat):OP:=fun o=>o.cls=.type "dict_valueiterator" ∧ o.data=.fields #[.ref d,.int i 0,.int n 0,.int ep 0]
noncomputable def ViewP (d:Addr):OP:=fun o=>o.cls=.type "dict_values" ∧ o.data=.fields #[.ref d]
theorem sOf_is {k:Str} (h:(SK w).is k v=true):sOf v=some k:=by
 obtain ⟨t,rfl⟩:=PySem.Value.isStrOf_shape h
 rfl
theorem Itr.keys (hh:A.handled=none) (it d:Addr) (kvs:List (Str×Value)) (ep:Nat) :
  Itr w A it kvs.length (fun i=>KeyIP d i kvs.length ep) (fun i v=>sOf v=(kvs[i]?).map (·.1)) (fun h=>Is h d (DictEP w kvs ep)) where
 item:=fun i h g t Q E hi hit hl k=>by
  have hx:kvs[i]? = some (kvs[i].1,kvs[i].2):=Yj hi
  refine wpAny_pyNext_dict_item hit hl.dictAt hx fun key h' hk hit' sb=>k h' _ t hit' (fun b o hb e=>(sb.2 b hb).trans e) ?_
  rw [hx,sOf_is hk]; rfl
 fin:=fun h g t Q E hit hl k=>wpAny_pyNext_dict_end hh hit hl.dictAt (by simp) fun h' he=>k h' he
 self:=fun i h g t Q E hit k=>wpAny_pyIter_keyiter hit k
theorem Itr.vals (hh:A.handled=none) (it d:Addr) (kvs:List (Str×Value)) (ep:Nat) :
  Itr w A it kvs.length (fun i=>ValIP d i kvs.length ep) (fun i v=>some v=(kvs[i]?).map (·.2)) (fun h=>Is h d (DictEP w kvs ep)) where
 item:=fun i h g t Q E hi hit hl k=>by
  have hx:kvs[i]? = some (kvs[i].1,kvs[i].2):=Yj hi
  refine wpAny_pyNext_values_item hit hl.dictAt hx fun h' hit' sb=>k h' _ t hit' (fun b o hb e=>(sb.2 b hb).trans e) ?_
  rw [hx]; rfl
 fin:=fun h g t Q E hit hl k=>wpAny_pyNext_values_end hh hit hl.dictAt (by simp) fun h' he=>k h' he
 self:=fun i h g t Q E hit k=>wpAny_pyIter_valiter hit k
section
variable {x:Value} {T:String}
theorem s_listItr {o0:Obj} {vals:Nat→Value→Prop}
  (H:St H0 B fa [] L l F h) (I:∀ A',A'.handled=A.handled→∀ it,Itr w A' it n IP vals Old) (h0:IP 0 o0) (hf:o0.isFreed=false) (hn:n≤1000) (hT:∀ h2 t2,(∀ b o,h.get? b=some o→h2.get? b=some o)→Shared.TypeIs (sh g t2 h2) x T) (hT1:(Value.type T == Value.type "list")=false) (hT2:(Value.type T == Value.type "tuple")=false) (hx:x≠.ref h.objs.size)
  (hOld:∀ G h',St H0 B fa [] L l (G++F) h'→Old h')
  (iter:∀ A' h2 t2 (Q':Value→Shared→Prop) E',Old h2→Q' (.ref h2.objs.size) (sh g t2 (h2.push o0))→wpAny (model P w) A' (pyIter x) Q' E' (sh g t2 h2))
  (hint:∀ A' h2 t2 (Q':Bool→Shared→Prop) E',Old h2→(∀ b t4,Q' b (sh g t4 h2))→wpAny (model P w) A' (Builtin.List.listLengthHint x) Q' E' (sh g t2 h2))
  (k:∀ vs h' t',vs.length=n→(∀ i v,vs[i]? = some v→vals i v)→St H0 B fa [] L l ((h.objs.size,ListP vs)::F) h'→Q (.ref h.objs.size) (sh g t' h')) :
  wpAny (model P w) A (call (.type "list") [x]) Q E (sh g t h):=by
 refine s_listCall (n:=n) rfl H (fun h2 t2 Q' E' kk q=>wpAny_typeOf (hT h2 t2 kk) q) hT1 hT2 hx (fun v h3=>∃ it,v=.ref it∧St H0 B fa [] L l ([(it,IP 0),(h.objs.size,ListP [])]++F) h3) (fun v i vs h3=>∃ it,A5 (v=.ref it) (vs.length=i) (i≤n) ((∀ i v,vs[i]? = some v→vals i v)) (St H0 B fa [] L l ([(it,IP i),(h.objs.size,ListP vs)]++F) h3))
  (fun h2 t2 Q' E' H2 q=>?_) (fun v h3 t3 Q' E' m q=>?_) (fun v h3 m=>?_) (fun v i vs h' j=>?_) (fun v i vs h1 t1 E' hi j=>?_) (fun v vs h1 t1 Q' E' j q=>?_)
 ·exact iter _ _ _ _ _ (hOld [(h.objs.size,ListP [])] _ H2) (q _ _ _ ⟨_,rfl,H2.push o0 h0 hf⟩)
 ·obtain ⟨it,rfl,m⟩:=m
  exact hint _ _ _ _ _ (hOld _ _ m) q
 ·obtain ⟨it,rfl,m⟩:=m
  exact ⟨m.at (i:=1) rfl,fun h4 i4 k4=>⟨it,rfl,rfl,Zs _,fun i v hv=>by simp at hv,m.upd 1 rfl k4 i4⟩⟩
 ·obtain ⟨it,rfl,hl,hi,_,j⟩:=j
  exact ⟨j.at (i:=1) rfl,by lia⟩
 ·obtain ⟨it,rfl,hl,hin,hv,j⟩:=j
  refine (I A.in1.in1 rfl it).item i _ _ _ _ _ hi (j.at (i:=0) rfl) (hOld _ _ j) fun h' v t' hit sb hval=>?_
  have j':=j.upd 0 rfl sb hit
  refine ⟨v,h',t',rfl,rfl,j'.at (i:=1) rfl,fun h2 i2 k2=>⟨it,rfl,by simp [hl],hi,fun a u hu=>?_,j'.upd 1 rfl k2 i2⟩⟩
  rcases Nat.lt_or_ge a vs.length with q | q
  ·rw [List.getElem?_append_left q] at hu; exact hv a u hu
  ·rw [List.getElem?_append_right q] at hu
   have:a - vs.length=0:=by
    by_cases c:a - vs.length=0
    ·exact c
    ·rw [List.getElem?_eq_none (by simp; exact Nat.pos_of_ne_zero ‹_›)] at hu; cases hu
   have ea:a=i:=by lia
   subst ea
   rw [this] at hu
   simp at hu
   exact hu ▸ hval
 ·obtain ⟨it,rfl,hl,hin,hv,j⟩:=j
  refine (I A.in1.in1 rfl it).fin _ _ _ _ _ (j.at (i:=0) rfl) (hOld _ _ j) fun h' sb=>q _ _ (k vs h' _ hl hv ?_)
  exact St.lose (a:=it) (p:=IP n) j (St.fresh (i:=0) j rfl) sb
theorem hint_dict {ep:Nat} {Q:Bool→Shared→Prop} (hd:Is h a (DictEP w kvs ep)) (k:∀ b t',Q b (sh g t' h)):wpAny (model P w) A (Builtin.List.listLengthHint (.ref a)) Q E (sh g t h):=by
 have hT:Shared.TypeIs (sh g t h) (.ref a) "dict" := hd.dictAt.dictOf.typeIs
 unfold Builtin.List.listLengthHint
 refine Yd (wpAny_specialOf hT PySem.F.slot_dict_len.lookup ?_)
 wp_delta
 refine Yd (wpAny_isInstance (T := "dict") (b:=true) hT (by rw [isSubtype_type]; kernel_rfl) ?_)
 show wpAny _ _ (typeOf (Value.ref a) >>= _) _ _ _
 refine Yd (wpAny_typeOf hT ?_)
 exact Yn (k _ _)
theorem hint_vals {Q:Bool→Shared→Prop} (hd:Is h a (ViewP b)) (k:∀ b t',Q b (sh g t' h)):wpAny (model P w) A (Builtin.List.listLengthHint (.ref a)) Q E (sh g t h):=by
 have hT:Shared.TypeIs (sh g t h) (.ref a) "dict_values" := by obtain ⟨o,e,r⟩:=hd; exact ⟨o,e,r.1⟩
 unfold Builtin.List.listLengthHint
 refine Yd (wpAny_specialOf hT PySem.F.slot_dict_values_len.lookup ?_)
 wp_delta
 refine Yd (wpAny_isInstance (T := "dict_values") (b:=true) hT (by rw [isSubtype_type]; kernel_rfl) ?_)
 show wpAny _ _ (typeOf (Value.ref a) >>= _) _ _ _
 refine Yd (wpAny_typeOf hT ?_)
 exact Yn (k _ _)
theorem s_listDict {ep:Nat} (b:Bs H0 mg mb) (H:St H0 B fa [] L l F h) (hm:(a,DictEP w kvs ep)∈F) (hn:kvs.length≤1000) (hh:A.handled=none)
  (k:∀ vs h' t',Strs vs (kvs.map (·.1))→St H0 B fa [] L l ((h.objs.size,ListP vs)::F) h'→Q (.ref h.objs.size) (sh g t' h')) :
  wpAny (model P w) A (call (.type "list") [.ref a]) Q E (sh g t h):=by
 have hd:=H.has _ hm
 refine s_listItr (n:=kvs.length) (T := "dict") (o0:={ cls:=.type "dict_keyiterator",data:=.fields #[.ref a,.int 0 0,.int kvs.length 0,.int ep 0] }) H (fun A' e it=>Itr.keys (e.trans hh) it a kvs ep) ⟨rfl,rfl⟩ rfl hn (fun h2 t2 kp=>(hd.at fun o e=>kp _ o e).dictAt.dictOf.typeIs) (by decide) (by decide) (fun q=>?_) (fun G h' S=>S.has _ (Ys _ hm)) (fun A' h2 t2 Q' E' o q=>wpAny_pyIter_dict (b.ns (H.hi _ hm)) o.dictAt q) (fun A' h2 t2 Q' E' o q=>hint_dict o q) fun vs h' t' e1 e2 S=>k vs h' t' ?_ S
 ·exact Nat.ne_of_lt hd.lt (by injection q)
 ·show vs.map sOf=(kvs.map (·.1)).map some
  apply List.ext_getElem?
  intro i
  rw [Zc,Zc,Zc]
  cases hv:vs[i]? with
  | none =>
   have:kvs[i]? = none:=by rw [List.getElem?_eq_none_iff] at hv ⊢; lia
   rw [this]; rfl
  | some v =>
   have hi:i < kvs.length:=by have:=(List.getElem?_eq_some_iff.mp hv).1; exact Nat.lt_of_lt_of_eq ‹_› ‹_›
   have:=e2 i v hv
   rw [Yj hi] at this ⊢
   show some (sOf v)=_
   rw [this]; rfl
theorem s_listVals {ep:Nat} (H:St H0 B fa [] L l F h) (hm:(a,DictEP w kvs ep)∈F) (hb:(b,ViewP a)∈F) (hn:kvs.length≤1000) (hh:A.handled=none)
  (k:∀ h' t',St H0 B fa [] L l ((h.objs.size,ListP (kvs.map (·.2)))::F) h'→Q (.ref h.objs.size) (sh g t' h')) :
  wpAny (model P w) A (call (.type "list") [.ref b]) Q E (sh g t h):=by
 have hv:=H.has _ hb
 refine s_listItr (n:=kvs.length) (T := "dict_values") (IP:=fun i=>ValIP a i kvs.length ep) (vals:=fun i v=>some v=(kvs[i]?).map (·.2)) (Old:=fun h=>Is h a (DictEP w kvs ep)∧Is h b (ViewP a)) (o0:={ cls:=.type "dict_valueiterator",data:=.fields #[.ref a,.int 0 0,.int kvs.length 0,.int ep 0] }) H (fun A' e it=>?_) ⟨rfl,rfl⟩ rfl hn (fun h2 t2 kp=>(by obtain ⟨o,e,r⟩:=hv; exact ⟨o,kp _ o e,r.1⟩)) (by decide) (by decide) (fun q=>?_) (fun G h' S=>⟨S.has _ (Ys _ hm),S.has _ (Ys _ hb)⟩) (fun A' h2 t2 Q' E' o q=>wpAny_pyIter_values o.2 o.1.dictAt q) (fun A' h2 t2 Q' E' o q=>hint_vals o.2 q) fun vs h' t' e1 e2 S=>?_
 ·have I:=Itr.vals (e.trans hh) it a kvs ep
  exact ⟨fun i h g t Q E p q r=>I.item i h g t Q E p q r.1,fun h g t Q E p r=>I.fin h g t Q E p r.1,I.self⟩
 ·exact Nat.ne_of_lt hv.lt (by injection q)
 ·have e:vs=kvs.map (·.2):=by
   apply List.ext_getElem?
   intro i
   rw [Zc]
   cases hv:vs[i]? with
   | none =>
    have:kvs[i]? = none:=by rw [List.getElem?_eq_none_iff] at hv ⊢; lia
    rw [this]; rfl
   | some v=>exact e2 i v hv
  subst e
  exact k h' t' S
end
theorem dd_any_go {β:Type} [BEq β] [LawfulBEq β] (δ:Value→β) (c:β):∀ (xs acc:List Value),
  (xs.foldl (fun acc x=>if acc.any (fun y=>δ y == δ x) then acc else acc++[x]) acc).any (fun y=>δ y == c)=(acc.any (fun y=>δ y == c) || xs.any (fun y=>δ y == c))
 | [],acc=>by simp
 | x::xs,acc=>by
  rw [List.foldl_cons,dd_any_go δ c xs]
  cases h:acc.any (fun y=>δ y == δ x) with
  | false=>rw [if_neg (by simp)]; simp [Bool.or_assoc]
  | true =>
   rw [if_pos rfl,List.any_cons]
   cases hc:δ x == c with
   | false=>simp
   | true =>
    obtain rfl:=eq_of_beq hc
    rw [h]; simp
theorem dd_any [BEq β] [LawfulBEq β] (δ:Value→β) (xs:List Value) (x:Value):(dd (fun y x=>δ y == δ x) xs).any (fun y=>δ y == δ x)=xs.any (fun y=>δ y == δ x):=by
 rw [show dd (fun y x=>δ y == δ x) xs=_ from rfl,dd,dd_any_go]; simp
theorem s_and {x y:Expr} {ys:List Expr}
  (h:wpAny (model P w) A (eval x env) (fun v s1=>wpAny (model P w) A (truthy v) (fun t s2=>if t then wpAny (model P w) A (eval (.BoolOp .And (y::ys) pos) env) Q E s2 else Q v s2) E s1) E s) :
  wpAny (model P w) A (eval (.BoolOp .And (x::y::ys) pos) env) Q E s:=by
 show wpAny (model P w) A (do
  let v ← eval x env
  standAt pos
  let t ← holding [v] (truthy v)
  match BoolOp.And,t with
  | .And,false | .Or,true=>pure v
  | _,_=>boolOp pos .And (evalEach (y::ys) env)) Q E s
 refine Yd (Ze h (fun v s1 h₁=>Yd (wpAny_standAt (Yd (wpAny_holding (Ze h₁ (fun t s2 h₂=>?_) fun _ _ x=>x))))) fun _ _ x=>x)
 cases t with
 | false=>exact Yn h₂
 | true=>exact h₂
theorem s_and1 {x:Expr} (h:wpAny (model P w) A (eval x env) Q E s):wpAny (model P w) A (eval (.BoolOp .And [x] pos) env) Q E s:=h
theorem s_eqList {e:Nat→Bool} (ha:Is h a (ListP xs)) (hb:Is h b (ListP ys)) (hz:xs.length=ys.length) (hu:A.units < cLine)
  (he:∀ j (h1:j < xs.length) (h2:j < ys.length),SeqAt.EqAt A.in1 (sh g t h) xs[j] ys[j] (e j)) (k:Q (.bool ((List.range xs.length).all e)) (sh g t h)) :
  wpAny (model P w) A (compareOp .Eq (.ref a) (.ref b)) Q E (sh g t h) :=
 SeqAt.eq_listAt (e:=e) ha.list hb.list (by simpa using hz) hu (fun j h1 h2=>by simpa using he j (by simpa using h1) (by simpa using h2)) (by simpa using k)
theorem s_eqStrs (ha:Is h a (ListP xs)) (hb:Is h b (ListP ys)) (hx:Strs xs ss) (hy:Strs ys ss) (hu:A.units < cLine) (k:Q (.bool true) (sh g t h)) :
  wpAny (model P w) A (compareOp .Eq (.ref a) (.ref b)) Q E (sh g t h):=by
 have hz:xs.length=ys.length:=hx.len.trans hy.len.symm
 refine s_eqList (e:=fun _=>true) ha hb hz hu (fun j h1 h2=>?_) (by rw [List.all_eq_true.mpr (fun _ _=>rfl)]; exact k)
 have h3:j < ss.length:=by rw [← hx.len]; exact h1
 have e1:sOf xs[j]=some ss[j]:=by
  have:=congrArg (fun l=>l[j]?) hx
  simpa [Zc,Yj h1,Yj h3] using this
 have e2:sOf ys[j]=some ss[j]:=by
  have:=congrArg (fun l=>l[j]?) hy
  simpa [Zc,Yj h2,Yj h3] using this
 have:=hx.eq (A:=A.in1) (s:=(sh g t h)) (List.getElem_mem h1) e2
 rwa [show eS xs[j] ys[j]=true from by simp [eS,e1,e2]] at this
theorem fold_rep (xs:List Value):∀ (m:Nat) (acc:List Value),List.foldl (fun x1 x2:Array Value=>x1++x2) acc.toArray (List.replicate m xs.toArray)=(acc++(List.replicate m xs).flatten).toArray
 | 0,acc=>by simp
 | m + 1,acc=>by rw [List.replicate_succ,List.foldl_cons,List.append_toArray,fold_rep xs m]; simp [List.replicate_succ]
theorem s_mulList {x:Int} (H:St H0 B fa X L l F h) (ha:Is h a (ListP xs)) (ex:x=n) (hz:xs.length * n≤1000) (hn:n≤1000)
  (k:∀ h',St H0 B fa X L l ((h.objs.size,ListP (List.replicate n xs).flatten)::F) h'→Q (.ref h.objs.size) (sh g t h')) :
  wpAny (model P w) A (binaryOp .Mult (.ref a) (.int x t0)) Q E (sh g t h):=by
 obtain ⟨o,ho,nt,rfl⟩:=ha
 have hl1:¬ (!Builtin.List.listFitsIndex x)=true:=by simp [Builtin.List.listFitsIndex]; lia
 have hl2:¬ Builtin.List.listTooLong (xs.toArray.size * x.toNat)=true:=by
  simp only [Builtin.List.listTooLong,List.size_toArray,ex,Int.toNat_natCast]
  exact fun q=>absurd (of_decide_eq_true q) (Nat.not_lt.mpr (Ye hz (by decide)))
 have hl3:¬ xs.toArray.size * x.toNat > (2 ^ 63 - 1) / 8:=by
  simp only [List.size_toArray,ex,Int.toNat_natCast]
  exact Nat.not_lt.mpr (Ye hz (by decide))
 have e:List.foldl (fun x1 x2:Array Value=>x1++x2) #[] (List.replicate (if xs.toArray.isEmpty=true then 0 else x.toNat) xs.toArray)=((List.replicate n xs).flatten).toArray:=by
  have:=fold_rep xs (if xs.toArray.isEmpty=true then 0 else n) []
  rw [List.nil_append] at this
  rw [ex,Int.toNat_natCast,this]
  cases xs with
  | nil=>simp
  | cons x xs=>simp
 have hT:Shared.TypeIs (sh g t h) (.ref a) "list" := ⟨_,ho,rfl⟩
 have M:=AutoListH.list___mul___list_int_3 a xs.toArray nt x t0 hl1 hl3 hl2
 rw [e] at M
 refine wpAny_binaryOp_repeat_ref (T := "list") (U := "int") (by decide) hT (fun s'=>typeIs_int s' x t0) noFill_list_mul PySem.F.fills_int_mul PySem.F.slot_int_rmul repeat_list PySem.F.slot_int_index.lookup ?_
 refine call_meets PySem.F.slot_int_rmul (typeIs_int _ x t0) PySem.F.entry_int_rmul (PySem.F.args_int_rmul_2 _ _) (int___rmul___int_list x t0 a xs.toArray nt) ⟨ho,rfl,hT,?_⟩
 exact call_meets PySem.F.slot_list_mul hT PySem.F.entry_list_mul (PySem.F.args_list_mul_2 _ _) M ⟨ho,k _ (H.push _ ⟨0,rfl⟩)⟩
theorem b43 (name:Str) (cd pm kwd v:Value):bindArgs (fdF 43 name cd pm kwd) ⟨[v],[]⟩=pure [(("words" : Str),v)]:=by rfl
theorem s_bcall2 {np:Pos} (b:Bs H0 mg mb) (low:∀ a o,H0.get? a=some o→h.get? a=some o) (hn:mg x=none) (hv:mb x=some (.builtin id))
  (k:wpAny (model P w) A (eval e1 env) (fun v1 s1=>wpAny (model P w) A (eval e2 env) (fun v2 s2=>wpAny (model P w) A (call (.builtin id) [v1,v2]) Q E s2) E s1) E (sh g t h))
  (hs:autoParam (starEach [e1,e2] env=[(false,eval e1 env),(false,eval e2 env)]) tR)
  (hk:autoParam (env.scope.kind=.function) tR) (hl:autoParam (env.kindOf x=some .globalImplicit) tR) (hg:autoParam (env.globals=mainGlobals) tR) (hb:autoParam (env.builtins=builtinsNs) tR) (hd:autoParam ((x == ("__debug__" : Str))=false) tD) :
  wpAny (model P w) A (eval (.Call (.Name x np) [e1,e2] [] pos) env) Q E (sh g t h):=by
 refine Zb (s_bname b low hn hv ?_ hk hl hg hb hd)
 rw [hs]
 exact callWith_builtin rfl (Zx (Yz (Ze k (fun _ _ q=>Yz (Ze q (fun _ _ q=>Zn q) fun _ _ e=>e)) fun _ _ e=>e)))
theorem s_list1
  (k:wpAny (model P w) A (eval e env) (fun v s1=>Q (.ref s1.heap.objs.size) { s1 with heap:=s1.heap.push { cls:=.type "list",data:=.seq [v].toArray } }) E s)
  (hs:autoParam (backTo pos (starEach [e] env)=[(false,eval e env)]) tR):wpAny (model P w) A (eval (.List [e] pos) env) Q E s:=by
 refine wpAny_List ?_
 rw [hs]
 exact Yz (Ze k (fun _ _ q=>Zn ⟨by show 1≤sizeLine; decide,q⟩) fun _ _ e=>e)
theorem s_values {o:Expr} (H:St H0 B fa X L l F h) (ha:Is h a (DictP w kvs)) (hs:(a == sysModules)=false)
  (e1:∀ Q:Value→Shared→Prop,Q (.ref a) (sh g t h)→wpAny (model P w) A (eval o env) Q E (sh g t h))
  (k:∀ h',St H0 B fa X L l ((h.objs.size,ViewP a)::F) h'→Q (.ref h.objs.size) (sh g t h'))
  (hbase:autoParam (attributeBase o "values" env (eval o env)=eval o env) tR) (hline:autoParam ((apos.endLine == pos.line)=true) tR) :
  wpAny (model P w) A (eval (.Call (.Attribute o "values" apos) [] [] pos) env) Q E (sh g t h):=by
 have hd:=ha.dict
 refine wpAny_Call_method0_late hbase hline (e1 _ ⟨"dict", "dict.values",PySem.F.plainAttrs_dict,PySem.F.slot_dict_values,PySem.F.type_dict_values,hd.typeIs,?_,?_⟩)
 ·rintro a ⟨⟩
  obtain ⟨ob,es,ep,e,r,_⟩:=hd
  exact ⟨ob,e,r.2.1⟩
 ·exact method_meetsIn PySem.F.slot_dict_values PySem.F.entry_dict_values rfl (PySem.evalArgs_none ⟨rfl,hd.typeIs,PySem.F.args_dict_values_1 _,_,meets_dict_values (SK w) a hs,⟨kvs,hd⟩,k _ (H.push _ ⟨rfl,rfl⟩)⟩)
structure NamesK (mg mb:Str→Option Value):Prop where
 i0:mg "isinstance" = none
 i1:mb "isinstance" = some (.builtin "isinstance")
theorem kept_call {g} {t} {fd fm kd:Addr} {nd nm:Str} {cu pu cm pm' km u:Value} {m:Str→Option Value}
  (rm:Rm A (n + 6)) (hfr:Frs A fr) (al:Alive H0 (adr fr) h) (bs:Bs H0 mg mb) (low:∀ a o,H0.get? a=some o→h.get? a=some o) (hf:Fn H0 f (fdF 43 name cd pm kwd))
  (hfd:Fn H0 fd (fdF 4 nd cu pu (.ref kd))) (hu:mg "_deduplicate" = some (.ref fd)) (hkd:H0.Ns kd m) (hmu:m "unhashable_fallback" = some u)
  (hfm:Fn H0 fm (fdF 42 nm cm pm' km)) (hm:mg "_law_met" = some (.ref fm))
  (N:NamesD mg mb) (NR:NamesR mg mb) (NK:NamesK mg mb) (l0:mg "list" = none) (l1:mb "list" = some (.type "list"))
  (ha:Ob (adr fr) h a (ListP vs)) (hs:Strs vs ss) (hz:vs.length≤1000)
  (hR:∀ h' t',Kp (adr fr) [] h h'→R (.ok (.ret (.bool true))) (sh g t' h')) :
  codeAny (model P w) A (.call (.ref f) ⟨[.ref a],[]⟩) R (sh g t h):=by
 refine s_enter bs low hf hfr al rm.room rfl (b43 _ _ _ _ _) fun h₁ t1 H hF=>?_
 have rm':=rm.deeper (envF (fdF 43 name cd pm kwd) h.objs.size f)
 refine Yh (Yq (s_call1 bs H.low hu hfd (s_ld H ⟨H.low,?_⟩)))
 refine ded_call rm' hF H.al bs H.low hfd hkd hmu N (H.oldO ha) hs hz fun h₂ t2 b K2 n2 i2=>?_
 refine s_st (H.add K2 n2 i2) fun h3 t3 H3=>?_
 refine Yh (Yq (s_call1 bs H3.low hm hfm (s_ld H3 ⟨H3.low,?_⟩)))
 refine met_call (e:=eS) (rm'.le (by exact Za (by decide) _)) hF H3.al bs H3.low hfm NR (H3.oldO ha) hz (n:=n) (fun A' s' r k y hy x hx=>?_) (fun i x hx=>dd_any sOf _ x) fun h4 t4 b2 K4 n4 i4=>?_
 ·obtain ⟨_,_,e⟩:=hs.mem hx
  exact hs.eq hy e
 refine s_st (H3.add K4 n4 i4) fun h5 t5 H5=>?_
 obtain ⟨ep,he⟩:=(H5.at (i:=1) rfl).fixEp
 have H6:=H5.upd 1 rfl (fun _ _ _ e=>e) he
 have zl:(ddl ss).length≤1000:=by
  have:=dd_len eS vs vs.length
  rw [List.take_length] at this
  have:=hs.dd.len
  lia
 have zk:(nones (ddl ss)).length≤1000:=by rw [Yp]; exact zl
 refine Yh (Zd (s_and ?_))
 refine s_bcall2 bs H6.low NK.i0 NK.i1 (s_ld H6 (s_bname bs H6.low N.d0 N.d1 ?_))
 obtain ⟨od,eod,cod⟩:∃ o,h5.get? b=some o∧o.cls=.type "dict" := by obtain ⟨o,e,_,r,_⟩:=he; exact ⟨o,e,r.1⟩
 refine IsiPair.dict_dict eod cod (Yi ?_)
 rw [if_pos rfl]
 refine s_and (wpAny_Compare1 ?_)
 refine s_type1 bs H6.low l0 l1 (s_ld H6 ?_)
 refine s_listDict bs H6 (Yb _ Yc) zk rm'.1 fun ks h7 t7 hks H7=>?_
 refine s_ld H7 (s_eqStrs (H7.at (i:=0) rfl) (H7.at (i:=1) rfl) (ss:=ddl ss) (by simpa [nones,List.map_map,Function.comp_def] using hks) hs.dd (rm'.le (by exact Za (by decide) _):Rm _ (n + 1)).u (Yi ?_))
 rw [if_pos rfl]
 refine s_and1 (wpAny_Compare1 ?_)
 refine s_type1 bs H7.low l0 l1 ?_
 refine s_values H7 (H7.at (i:=2) rfl).anyEp (bs.ns (H7.hi _ (Yb _ (Yb _ Yc)))) (fun Q q=>s_ld H7 q) fun h8 H8=>?_
 refine s_listVals H8 (Yb _ (Yb _ (Yb _ Yc))) Yc zk rm'.1 fun h9 t9 H9=>?_
 refine wpAny_BinOp ?_
 refine s_list1 (Zg ?_)
 have H10:=H9.push { cls:=.type "list",data:=.seq ([.none]:List Value).toArray } (p:=ListP [.none]) ⟨0,rfl⟩
 refine s_lenv bs H10.low NR.n0 NR.n1 (H10.at (i:=4) rfl) (by have:=hs.dd.len; lia) (fun Q q=>s_ld H10 q) fun t0 t11=>?_
 refine s_mulList H10 (H10.at (i:=0) rfl) rfl (by have:=hs.dd.len; simp; lia) (by have:=hs.dd.len; lia) fun h12 H12=>?_
 refine s_eqList (e:=fun _=>true) (H12.at (i:=2) rfl) (H12.at (i:=0) rfl) (by have:=hs.dd.len; simp; lia) (rm'.le (by exact Za (by decide) _):Rm _ (n + 1)).u (fun j h1 h2=>?_) ?_
 ·have e1:((nones (ddl ss)).map (·.2))[j]=.none:=by simp
  have e2:((List.replicate (dd eS vs).length [Value.none]).flatten)[j]=.none:=by
   have:=List.getElem_mem h2
   simp only [List.mem_flatten,List.mem_replicate] at this
   obtain ⟨l,⟨_,rfl⟩,q⟩:=this
   exact Zu.mp q
  rw [e1,e2]
  exact SeqAt.EqAt.same _
 rw [List.all_eq_true.mpr (fun _ _=>rfl)]
 exact hR h12 _ H12.kp
section
open PySem.Builtin PySem.Builtin.ObjectAttr
noncomputable def AtP (l:List (Str×Value)):OP:=fun o=>E2 fun es ep=>o.data=.dict es ep∧StrKeys es∧UniqKeys es∧∀ name,nsFind es name=l.lookup name
noncomputable def InP (C dx:Addr) (sl:Array (Option Value)):OP:=fun o=>o = { cls:=.ref C,dict:=some dx,data:=.plain,slots:=sl }
theorem Is.ns1 {l} (x:Is h a (AtP l)):h.Ns1 a (fun n=>l.lookup n):=by obtain ⟨o,e,es,ep,r⟩:=x; exact ⟨o,es,ep,e,r⟩
theorem isAt {m} (x:h.Ns1 a m) (e:∀ n,m n=l.lookup n):Is h a (AtP l):=by obtain ⟨o,es,ep,q,d,k,u,f⟩:=x; exact ⟨o,q,es,ep,d,k,u,fun n=>(f n).trans (e n)⟩
noncomputable def put:List (Str×Value)→Str→Value→List (Str×Value)
 | [],n,v=>[(n,v)]
 | (k,u)::r,n,v=>if n == k then (k,v)::r else (k,u)::put r n v
theorem put_lookup:∀ (l:List (Str×Value)) (n:Str) (v:Value) (x:Str),(if x=n then some v else l.lookup x)=(put l n v).lookup x
 | [],n,v,x=>by
  unfold put
  rw [List.lookup_cons]
  by_cases q:x=n
  ·rw [if_pos q,beq_iff_eq.mpr q]
  ·rw [if_neg q,Zp.mpr q]
 | (k,u)::r,n,v,x=>by
  have ih:=put_lookup r n v x
  unfold put
  by_cases q:n=k
  ·rw [if_pos (beq_iff_eq.mpr q),List.lookup_cons,List.lookup_cons]
   subst q
   by_cases z:x=n
   ·rw [if_pos z,beq_iff_eq.mpr z]
   ·rw [if_neg z,Zp.mpr z]
  ·rw [show (n == k)=false from Zp.mpr q,if_neg Yk,List.lookup_cons,List.lookup_cons]
   by_cases z:x=k
   ·have:x≠n:=fun e=>q (e ▸ z)
    rw [if_neg this,beq_iff_eq.mpr z]
   ·rw [Zp.mpr z]; exact ih
theorem lookIn_at (x:AtP l o) (name:Str):lookIn name o=some (l.lookup name):=by
 obtain ⟨es,ep,hd,hk,hu,hf⟩:=x
 have:=hf name
 unfold nsFind findBy at this
 unfold lookIn
 rw [hd]
 dsimp only
 rw [← Array.find?_toList] at this
 cases q:es.toList.find? (fun e=>e.key.isStr name) with
 | some e =>
  rw [q] at this
  exact congrArg some this
 | none =>
  rw [q] at this
  dsimp only
  rw [if_neg ?_]
  ·exact congrArg some this
  ·intro z
   obtain ⟨e,he,r⟩:=List.any_eq_true.mp z
   obtain ⟨n,t,k⟩:=hk e (Array.mem_toList_iff.mp he)
   simp [DictEntry.refKey,k] at r
theorem within_lookup:∀ (l:List (Str×Value)),Within (fun n=>l.lookup n) (l.map (·.1))
 | [],y,h=>absurd rfl h
 | (k,u)::r,y,h=>by
  by_cases c:y=k
  ·rw [c]; exact Yc
  ·have h:List.lookup y ((k,u)::r)≠none:=h
   rw [List.lookup_cons,Zp.mpr c] at h
   exact Yb _ (within_lookup r y h)
structure ClsK (K:Frag) (C:Addr) (hd:Bool):Prop where
 cd:∃ cd,clsIn K C=some cd∧cd.hasDict=hd∧onlyObject cd.mro=true
 ga:findIn K (.ref C) "__getattribute__" = some (some (.builtin "object.__getattribute__"))
 gk:findIn K (.ref C) "__getattr__" = some none
 sa:findIn K (.ref C) "__setattr__" = some (some (.builtin "object.__setattr__"))
end
section
open PySem.Builtin PySem.Builtin.ObjectAttr
variable {x:Addr}
theorem Is.inst {od:Obj} (I:Is h x (InP C dx sl)) (D:h.get? dx=some od):InstAt h x { cls:=.ref C,dict:=some dx,data:=.plain,slots:=sl } C (some od):=by
 obtain ⟨o,e,rfl⟩:=I
 exact ⟨e,rfl,rfl,D⟩
theorem i_get (k:ClsK K C true) (X:K.In h) (hn:findIn K (.ref C) name=some none) (I:Is h x (InP C dx sl)) (D:Is h dx (AtP l)) (hv:l.lookup name=some v) (hh:handedIn v=true) (q:∀ t',Q v (sh g t' h)) :
  wpAny (model P w) A (getAttr (.ref x) name expr) Q E (sh g t h):=by
 obtain ⟨od,eD,aD⟩:=D
 obtain ⟨cd,hc,hd,_⟩:=k.cd
 refine get_value (s:=(sh g t h)) X (I.inst eD) k.ga ?_ hh (q _)
 unfold findObj
 rw [hc,Option.bind_some,hn,Option.bind_some]
 show ((PySem.W.ownOf cd (some od) name).bind _)=_
 have:PySem.W.ownOf cd (some od) name=some (some v):=by
  unfold PySem.W.ownOf
  rw [hd,if_pos rfl]
  show lookIn name od=_
  rw [lookIn_at aD,hv]
 rw [this]
 rfl
theorem i_meth {Q:Value×List Value→Shared→Prop} (k:ClsK K C true) (X:K.In h) (hf:findIn K (.ref C) name=some (some (.ref f))) (ht:typeIn K (.ref f)=some (.type "function")) (I:Is h x (InP C dx sl)) (D:Is h dx (AtP l)) (hv:l.lookup name=none) (q:Q (.ref f,[.ref x]) (sh g t h)) :
  wpAny (model P w) A (getMethod (.ref x) name pl) Q E (sh g t h):=by
 obtain ⟨od,eD,aD⟩:=D
 refine method_fn (s:=(sh g t h)) X (I.inst eD) k.ga k.gk hf ht ?_ q
 show (lookIn name od).map _=_
 rw [lookIn_at aD,hv]; rfl
theorem i_set {Q:Unit→Shared→Prop} (k:ClsK K C true) (X:K.In h) (hn:takerIn K C name=some none) (I:Is h x (InP C dx sl)) (D:Is h dx (AtP l)) (hz:l.length≤100)
  (q:∀ h' t',Is h' dx (AtP (put l name v))→(∀ b o,b≠dx→h.get? b=some o→h'.get? b=some o)→Q () (sh g t' h')) :
  wpAny (model P w) A (setAttr (.ref x) name v) Q E (sh g t h):=by
 have D0:=D
 obtain ⟨od,eD,aD⟩:=D
 obtain ⟨cd,hc,hd,ho⟩:=k.cd
 have In:=I.inst eD
 refine set_plain (s:=(sh g t h)) X In k.sa (osa_open (s:=(sh g (t + 1) h)) X In (by unfold plainOver; rw [hc]; exact ho) hn fun b=>?_)
 obtain ⟨o,hx,rfl⟩:=I
 dsimp only
 unfold storeInOwnDict
 refine Yd (Yn (Yd ?_))
 show wpAny _ _ (instanceDict x true) _ _ _
 unfold instanceDict
 refine Yd (wpAny_loadPart hx ?_)
 dsimp only
 refine Yd ((looks_clsIn X hc).here ?_)
 rw [hd]
 refine Yn ?_
 dsimp only
 unfold storeInDict newKeyGuard
 refine Yd (Yn (Yd (wpAny_nsSet1 D0.ns1 fun h' hn' hs=>?_)))
 obtain ⟨oD,esD,epD,hoD,hdD,hcD⟩:=hn'.count (ns:=name::l.map (·.1)) (Within.cons name v (within_lookup l))
 refine Yd (wpAny_lookBehind hoD (by rw [hdD]; exact pastItsLine_dict (Ye hcD (by rw [List.length_cons,Yp,sizeLine_eq]; exact Nat.lt_of_le_of_lt ‹_› (by decide)))) ?_)
 exact Yn (q h' _ (isAt hn' (fun y=>put_lookup l name v y)) fun b o hb e=>(hs.2 b hb).trans e)
end
section
open PySem.Builtin PySem.Builtin.ObjectAttr PySem.Builtin.Getset_descriptor
structure SlotK (K:Frag) (C:Addr) (name:Str) (p i:Nat):Prop where
 fa:findIn K (.ref C) name=some (some (.ref p))
 ty:typeIn K (.ref p)=some (.type "member_descriptor")
 si:slotIn K p C=some i
structure MethK (K:Frag) (C:Addr) (name:Str) (f:Addr):Prop where
 fa:findIn K (.ref C) name=some (some (.ref f))
 ty:typeIn K (.ref f)=some (.type "function")
end
section
open PySem.Builtin PySem.Builtin.ObjectAttr PySem.Builtin.Getset_descriptor
variable {p:Addr}
theorem lk_md_get:findIn K (.type "member_descriptor") "__get__" = some (some (.builtin "member_descriptor.__get__")):=by show fastLookup _ _=_; kernel_rfl
theorem lk_md_set:∃ v,findIn K (.type "member_descriptor") "__set__" = some (some v):=⟨.builtin "member_descriptor.__set__",by show fastLookup _ _=_; kernel_rfl⟩
theorem lk_fn_get:findIn K (.type "function") "__get__" = some (some (.builtin "function.__get__")):=by show fastLookup _ _=_; kernel_rfl
theorem lk_fn_set:findIn K (.type "function") "__set__" = some none:=by show fastLookup _ _=_; kernel_rfl
theorem lk_fn_del:findIn K (.type "function") "__delete__" = some none:=by show fastLookup _ _=_; kernel_rfl
theorem md_get (h:typeIn K (.ref p)=some (.type "member_descriptor")):specialIn K (.ref p) "__get__" = some (some (.builtin "member_descriptor.__get__")):=by unfold specialIn; rw [h,Option.bind_some]; exact lk_md_get
theorem md_takes (h:typeIn K (.ref p)=some (.type "member_descriptor")):takesIn K (.ref p)=some true:=by
 obtain ⟨v,e⟩:=lk_md_set (K:=K)
 unfold takesIn specialIn
 rw [h]
 simp only [Option.bind_some,e]
theorem fn_getK (h:typeIn K (.ref f)=some (.type "function")):specialIn K (.ref f) "__get__" = some (some (.builtin "function.__get__")):=by unfold specialIn; rw [h,Option.bind_some]; exact lk_fn_get
theorem fn_takes (h:typeIn K (.ref f)=some (.type "function")):takesIn K (.ref f)=some false:=by
 unfold takesIn specialIn
 rw [h]
 simp only [Option.bind_some,lk_fn_set,lk_fn_del]; rfl
end
section
open PySem.Builtin PySem.Builtin.ObjectAttr PySem.Builtin.Getset_descriptor
theorem bind_to {x:Option α} {a:α} {f:α→Option β} {r:Option β} (e:x=some a) (k:f a=r):x.bind f=r:=by rw [e]; exact k
noncomputable def sset (sl:Array (Option Value)) (i:Nat) (v:Value):Array (Option Value):=(sl++Array.replicate (i + 1 - sl.size) none).setIfInBounds i (some v)
end
section
open PySem.Builtin PySem.Builtin.ObjectAttr PySem.Builtin.Getset_descriptor
variable {x:Addr}
theorem i_getS {p:Nat} {hd:Bool} (k:ClsK K C hd) (X:K.In h) (S:SlotK K C name p i) (I:Is h x (InP C dx sl)) (D:Is h dx (fun _=>True)) (hv:(sl[i]?).join=some v) (hh:handedIn v=true) (q:∀ t',Q v (sh g t' h)) :
  wpAny (model P w) A (getAttr (.ref x) name expr) Q E (sh g t h):=by
 obtain ⟨od,eD,_⟩:=D
 obtain ⟨cd,hc,_,_⟩:=k.cd
 refine get_bind (s:=(sh g t h)) X (I.inst eD) k.ga (g:=.builtin "member_descriptor.__get__") (a:=.ref p) ?_ k.gk ?_
 ·exact bind_to hc (bind_to S.fa (bind_to (md_get S.ty) (bind_to (md_takes S.ty) rfl)))
 ·exact wpAny_call (slot_get (s:=(sh g (t + 1) h)) X (I.inst eD) S.si hv (handed_on hh (q _)))
theorem i_setS {p:Nat} {hd:Bool} {Q:Unit→Shared→Prop} (k:ClsK K C hd) (X:K.In h) (S:SlotK K C name p i) (hi:i < 1000) (I:Is h x (InP C dx sl)) (D:Is h dx (fun _=>True))
  (q:∀ h' t',Is h' x (InP C dx (sset sl i v))→(∀ b o,b≠x→h.get? b=some o→h'.get? b=some o)→Q () (sh g t' h')) :
  wpAny (model P w) A (setAttr (.ref x) name v) Q E (sh g t h):=by
 obtain ⟨od,eD,_⟩:=D
 obtain ⟨cd',hc',_,ho⟩:=k.cd
 have In:=I.inst eD
 refine set_plain (s:=(sh g t h)) X In k.sa (osa_descr (s:=(sh g (t + 1) h)) KF.slot_mset X In (by unfold plainOver; rw [hc']; exact ho) (p:=p) ?_ S.ty ?_)
 ·unfold takerIn
  rw [S.fa,Option.bind_some]
  simp only [md_takes S.ty,Option.map_some,if_true]
 obtain ⟨n,tn,owner,behind,tb,dd,sl',cd,ho,hc,hm,hb,hidx⟩:=slot_of X S.si
 have L0:=In.type (M:=model P w)
 have L1:=looks_mroIn (M:=model P w) X hm
 have L2:Looks (model P w) h (Slots.slotNamesOf (.ref C)) cd.slotNames:=(looks_clsIn X hc).andThen .now
 obtain ⟨o,hx,rfl⟩:=I
 have f0:=looks_field (M:=model P w) ho 0 (v:=.str n tn) rfl
 have f1:=looks_field (M:=model P w) ho 1 (v:=owner) rfl
 have f3:=looks_field (M:=model P w) ho 3 (v:=.builtin "proto.slot#set") rfl
 have f4:=looks_field (M:=model P w) ho 4 (v:=.int behind tb) rfl
 have f5:Looks (model P w) h (descrItself (.ref p)) [.ref p]:=((Looks.ld (part:=none) ho).andThen .now).andThen (Looks.of_pure (by kernel_rfl))
 refine codeAny_call_builtin KF.slot_mset.plain KF.entry_mset (KF.slot_mset.check _ _ _ _ _ _ _ _ ⟨_,ho,rfl⟩ (KF.args_mset _ _ _) ?_)
 unfold Builtin.«member_descriptor.__set__» descrSet descrStoreThrough descrCheckInstance descrNameAndClass isInstance
 repeat lk
 refine ⟨Code.quiet_builtin _ (by decide +kernel),codeAny_builtin KF.entry_slotset ?_⟩
 unfold Builtin.«proto.slot#set» Slots.target
 repeat lk
 rw [if_neg hb]
 refine Yn (Yd ?_)
 unfold setSlotAt
 dsimp only
 rw [if_neg (by rw [sizeLine_eq,← hidx]; lia)]
 subst hidx
 refine wpAny_updatePart hx (Yn (q _ _ ⟨_,Heap.get?_update_self _ hx rfl,rfl⟩ fun b o hb e=>(Zm _ _ (Ne.symm hb)).trans e))
theorem i_bound {F} {ls} (k:ClsK K C true) (H:St H0 B fa X' L ls F h) (X:K.In h) (M:MethK K C name f) (hc:copiedNames.contains name=false) (I:Is h x (InP C dx sl)) (D:Is h dx (AtP l)) (hv:l.lookup name=none)
  (q:∀ h' t',St H0 B fa X' L ls ((h.objs.size,fun o=>o=methodObj (.ref f) (.ref x))::F) h'→Q (.ref h.objs.size) (sh g t' h')) :
  wpAny (model P w) A (getAttr (.ref x) name expr) Q E (sh g t h):=by
 obtain ⟨od,eD,aD⟩:=D
 obtain ⟨cd,hcd,hd,_⟩:=k.cd
 refine get_bind (s:=(sh g t h)) X (I.inst eD) k.ga (findObj_fn (by unfold hasDictIn; rw [hcd]; exact hd) M.fa (fn_getK M.ty) (fn_takes M.ty) hc (by rw [lookIn_at aD,hv])) k.gk ?_
 exact wpAny_call (fn_get (s:=(sh g (t + 1) h)) X M.ty (handed_on rfl (q _ _ (H.push (methodObj (.ref f) (.ref x)) rfl))))
end
structure Lump (H0:Heap) (fa:List Addr) (h:Heap) (G:Fs):Prop where
 has:∀ x∈G,Is h x.1 x.2
 nf:∀ x∈G,x.1 ∉ fa
 hi:∀ x∈G,H0.get? x.1=none
 nd:(G.map (·.1)).Nodup
structure Step (fa:List Addr) (h:Heap) (G:Fs) (h':Heap) (G':Fs):Prop where
 kp:Kp fa (G.map (·.1)) h h'
 has:∀ x∈G',Is h' x.1 x.2
 nd:(G'.map (·.1)).Nodup
 sub:∀ b∈G.map (·.1),b∈G'.map (·.1)
 new:∀ b∈G'.map (·.1),b∈G.map (·.1)∨h.get? b=none
section
variable {R:Fs} {G G':Fs}
theorem St.perm (H:St H0 B fa X L l F h) (p:F.Perm G):St H0 B fa X L l G h where
 lo:=H.lo
 Ln:=H.Ln
 has:=fun x hx=>H.has x (p.mem_iff.mpr hx)
 nd:=(p.map _).nodup_iff.mp H.nd
 low:=H.low
 hi:=fun x hx=>H.hi x (p.mem_iff.mpr hx)
 nf:=fun x hx=>H.nf x (p.mem_iff.mpr hx)
 keep:=fun b o e n=>H.keep b o e fun m=>n ((p.map _).mem_iff.mp m)
 new:=fun x hx=>H.new x (p.mem_iff.mpr hx)
 al:=H.al
theorem St.lump (H:St H0 B fa X L l (G++R) h):Lump H0 (L::fa) h G where
 has:=fun x hx=>H.has x (Zr _ hx)
 nf:=fun x hx=>H.nf x (Zr _ hx)
 hi:=fun x hx=>H.hi x (Zr _ hx)
 nd:=(List.nodup_append.mp (by have:=H.nd; rwa [Yt] at this)).1
theorem St.notX (H:St H0 B fa X L l F h) {p:OP} (x:Ob fa B a p) (n:a ∉ X):a ∉ F.map (·.1):=fun m=>by
 obtain ⟨y,hy,rfl⟩:=Yx.mp m
 rcases H.new y hy with q | q
 ·exact n q
 ·obtain ⟨o,e,_⟩:=x.1
  rw [q] at e; cases e
theorem St.oldX (H:St H0 B fa X L l F h) {p:OP} (x:Ob fa B a p) (n:a ∉ X):Is h a p:=x.1.at fun o e=>(H.keep a o e (H.notX x n)).same x.2
theorem St.oldOX (H:St H0 B fa X L l F h) {p:OP} (x:Ob fa B a p) (n:a ∉ X):Ob (L::fa) h a p:=⟨H.oldX x n,fun m=>by
 rcases Yu.mp m with rfl | m
 ·obtain ⟨o,e,_⟩:=x.1
  rw [H.Ln] at e; cases e
 ·exact x.2 m⟩
theorem St.step (H:St H0 B fa X L l (G++R) h) (S:Step (L::fa) h G h' G'):St H0 B fa X L l (G'++R) h':=by
 have nd:=H.nd
 rw [Yt] at nd
 obtain ⟨nG,nR,dis⟩:=List.nodup_append.mp nd
 have RnG:∀ x∈R,x.1 ∉ G.map (·.1):=fun x hx m=>dis _ m _ (Yx.mpr ⟨x,hx,rfl⟩) rfl
 have LnG:L ∉ G.map (·.1):=fun m=>by
  obtain ⟨y,hy,e⟩:=Yx.mp m
  exact H.nf y (Zr _ hy) (by rw [e]; exact Yc)
 have faG:∀ b∈fa,b ∉ G.map (·.1):=fun b hb m=>by
  obtain ⟨y,hy,e⟩:=Yx.mp m
  exact H.nf y (Zr _ hy) (by rw [e]; exact Yb _ hb)
 have g':∀ x∈G',(x.1∈G.map (·.1))∨h.get? x.1=none:=fun x hx=>S.new _ (Yx.mpr ⟨x,hx,rfl⟩)
 have lowG:∀ b o,H0.get? b=some o→b ∉ G.map (·.1):=fun b o e m=>by
  obtain ⟨y,hy,q⟩:=Yx.mp m
  have:=H.hi y (Zr _ hy)
  rw [q,e] at this; cases this
 have nfL:∀ b∈L::fa,∃ o,h.get? b=some o:=fun b m=>by obtain ⟨o,e,_⟩:=(H.al b m).2; exact ⟨o,e⟩
 exact {
  lo:=Heap.Ns.nr H.lo fun o e=>by obtain ⟨sl,e',_⟩:=S.kp L o e LnG; exact ⟨sl,e'⟩
  Ln:=H.Ln
  has:=fun x hx=>by
   rcases Zz.mp hx with hx | hx
   ·exact S.has x hx
   ·exact (H.has x (Ys _ hx)).at fun o e=>(S.kp _ o e (RnG x hx)).same (H.nf x (Ys _ hx))
  nd:=by
   rw [Yt]
   refine List.nodup_append.mpr ⟨S.nd,nR,fun a ha b hb e=>?_⟩
   subst e
   obtain ⟨y,hy,rfl⟩:=Yx.mp hb
   rcases S.new _ ha with q | q
   ·exact RnG y hy q
   ·obtain ⟨o,e,_⟩:=H.has y (Ys _ hy)
    rw [q] at e; cases e
  low:=fun b o e=>(S.kp b o (H.low b o e) (lowG b o e)).same fun m=>by have:=(H.al b m).1; rw [e] at this; cases this
  hi:=fun x hx=>by
   rcases Zz.mp hx with hx | hx
   ·rcases g' x hx with q | q
    ·obtain ⟨y,hy,e⟩:=Yx.mp q
     have:=H.hi y (Zr _ hy)
     rwa [e] at this
    ·exact none_of fun o e=>by have:=H.low _ _ e; rw [q] at this; cases this
   ·exact H.hi x (Ys _ hx)
  nf:=fun x hx=>by
   rcases Zz.mp hx with hx | hx
   ·rcases g' x hx with q | q
    ·obtain ⟨y,hy,e⟩:=Yx.mp q
     have:=H.nf y (Zr _ hy)
     rwa [e] at this
    ·intro m
     obtain ⟨o,e⟩:=nfL _ m
     rw [q] at e; cases e
   ·exact H.nf x (Ys _ hx)
  keep:=fun b o e n=>by
   have n1:b ∉ G.map (·.1):=fun m=>n (by rw [Yt]; exact Zr _ (S.sub b m))
   have n2:b ∉ R.map (·.1):=fun m=>n (by rw [Yt]; exact Ys _ m)
   refine (H.keep b o e fun m=>?_).trans fun o' e'=>?_
   ·rw [Yt] at m
    rcases Zz.mp m with m | m
    ·exact n1 m
    ·exact n2 m
   ·obtain ⟨sl,q,k⟩:=S.kp b o' e' n1
    refine ⟨sl,q,fun c=>k fun m=>?_⟩
    rcases Yu.mp m with rfl | m
    ·rw [H.Ln] at e; cases e
    ·exact c m
  new:=fun x hx=>by
   rcases Zz.mp hx with hx | hx
   ·rcases g' x hx with q | q
    ·obtain ⟨y,hy,e⟩:=Yx.mp q
     have:=H.new y (Zr _ hy)
     rwa [e] at this
    ·exact .inr (H.notOld q)
   ·exact H.new x (Ys _ hx)
  al:=fun b m=>⟨(H.al b m).1,by
   obtain ⟨o,e,q⟩:=(H.al b m).2
   have:b ∉ G.map (·.1):=by
    rcases Yu.mp m with rfl | m
    ·exact LnG
    ·exact faG b m
   obtain ⟨sl,e',_⟩:=S.kp b o e this
   exact ⟨_,e',q⟩⟩ }
theorem St.own (H:St H0 B fa [] L l F h) (M:Lump H0 fa B G):St H0 B fa (G.map (·.1)) L l (G++F) h:=by
 have ob:∀ x∈G,Ob fa B x.1 x.2:=fun x hx=>⟨M.has x hx,M.nf x hx⟩
 have dis:∀ x∈G,x.1 ∉ F.map (·.1):=fun x hx=>H.notX (ob x hx) (by simp)
 exact {
  lo:=H.lo
  Ln:=H.Ln
  has:=fun x hx=>by
   rcases Zz.mp hx with hx | hx
   ·exact H.old (ob x hx)
   ·exact H.has x hx
  nd:=by
   rw [Yt]
   refine List.nodup_append.mpr ⟨M.nd,H.nd,fun a ha b hb e=>?_⟩
   subst e
   obtain ⟨y,hy,rfl⟩:=Yx.mp ha
   exact dis y hy hb
  low:=H.low
  hi:=fun x hx=>by
   rcases Zz.mp hx with hx | hx
   ·exact M.hi x hx
   ·exact H.hi x hx
  nf:=fun x hx=>by
   rcases Zz.mp hx with hx | hx
   ·exact (H.oldO (ob x hx)).2
   ·exact H.nf x hx
  keep:=fun b o e n=>H.keep b o e fun m=>n (by rw [Yt]; exact Ys _ m)
  new:=fun x hx=>by
   rcases Zz.mp hx with hx | hx
   ·exact .inl (Yx.mpr ⟨x,hx,rfl⟩)
   ·exact .inr ((H.new x hx).resolve_left (by simp))
  al:=H.al }
theorem St.toStep (H:St H0 B fa (G.map (·.1)) L l (G'++R) h) (sub:∀ b∈G.map (·.1),b∈G'.map (·.1)):Step fa B G h G' where
 kp:=H.kp
 has:=fun x hx=>H.has x (Zr _ hx)
 nd:=(List.nodup_append.mp (by have:=H.nd; rwa [Yt] at this)).1
 sub:=sub
 new:=fun b hb=>by
  obtain ⟨x,hx,rfl⟩:=Yx.mp hb
  exact H.new x (Zr _ hx)
theorem Lump.kp (M:Lump H0 fa h G) (k:Kp fa [] h h'):Lump H0 fa h' G:=⟨fun x hx=>(M.has x hx).at fun o e=>k.all e (M.nf x hx),M.nf,M.hi,M.nd⟩
end
section
variable {x:Addr}
noncomputable abbrev Ev (w:World) (A:Around) (E:Value→Shared→Prop) (env:Env) (e:Expr) (v:Value) (s:Shared):Prop:=∀ Q:Value→Shared→Prop,Q v s→wpAny (model P w) A (eval e env) Q E s
theorem s_attr (k:ClsK K C true) (X:K.In h) (hn:findIn K (.ref C) name=some none) (I:Is h x (InP C dx sl)) (D:Is h dx (AtP l)) (e1:Ev w A E env e (.ref x) (sh g t h)) (hv:l.lookup name=some v) (hh:handedIn v=true) (q:∀ t',Q v (sh g t' h))
  (he:autoParam (eval (.Attribute e name pos) env=(do
   let o ← eval e env
   standAt pos.atName
   let r ← holding [o] (getAttr o name true)
   letTemporaryGo e o r
   pure r)) tU):wpAny (model P w) A (eval (.Attribute e name pos) env) Q E (sh g t h) :=
 Attribute_any_ (e1 _ (i_get k X hn I D hv hh q)) he
theorem s_attrS {p:Nat} {hd:Bool} (k:ClsK K C hd) (X:K.In h) (S:SlotK K C name p i) (I:Is h x (InP C dx sl)) (D:Is h dx (fun _=>True)) (e1:Ev w A E env e (.ref x) (sh g t h)) (hv:(sl[i]?).join=some v) (hh:handedIn v=true) (q:∀ t',Q v (sh g t' h))
  (he:autoParam (eval (.Attribute e name pos) env=(do
   let o ← eval e env
   standAt pos.atName
   let r ← holding [o] (getAttr o name true)
   letTemporaryGo e o r
   pure r)) tU):wpAny (model P w) A (eval (.Attribute e name pos) env) Q E (sh g t h) :=
 Attribute_any_ (e1 _ (i_getS k X S I D hv hh q)) he
theorem s_meth {args:List Expr} (k:ClsK K C true) (X:K.In h) (M:MethK K C name f) (I:Is h x (InP C dx sl)) (D:Is h dx (AtP l)) (hv:l.lookup name=none) (e1:Ev w A E env e (.ref x) (sh g t h))
  (q:wpAny (model P w) A (callWith pos (.ref f) [.ref x] (backTo pos (starEach args env)) []) Q E (sh g t h))
  (he:autoParam (eval (.Call (.Attribute e name apos) args [] pos) env=(do
   let ov ← eval e env
   standAt apos.atName
   let (f,first) ← holding [ov] (getMethod ov name pl)
   callWith pos f first (backTo pos (starEach args env)) [])) tR):wpAny (model P w) A (eval (.Call (.Attribute e name apos) args [] pos) env) Q E (sh g t h) :=
 MethodCall_ (e1 _ (i_meth k X M.fa M.ty I D hv q)) he
theorem s_methS {args:List Expr}
  (q:wpAny (model P w) A (eval e env) (fun ov s1=>wpAny (model P w) A (getAttr ov name true) (fun f s2=>wpAny (model P w) A (callWith pos f [] (backTo pos (starEach args env)) []) Q E s2) E s1) E s)
  (hb:autoParam (attributeBase e name env (eval e env)=eval e env) tR) (hform:autoParam (methodCallForm (args.length + ([]:List Keyword).length) (backTo pos (starEach args env)) (backToKw pos (keywordEach [] env))=false) tR) :
  wpAny (model P w) A (eval (.Call (.Attribute e name apos) args [] pos) env) Q E s:=by
 rw [arm_eval_Call,hb]
 refine Yd (Ze q (fun ov s1 h1=>Yd (wpAny_standAt ?_)) fun _ _ e=>e)
 unfold methodCall
 rw [hform]
 unfold calleeOf methodCallPos
 exact Yd (wpAny_holding (Yd (Ze h1 (fun f s2 h2=>Yn (Yd (Yn h2))) fun _ _ e=>e)))
end
noncomputable abbrev mdF (ci k:Nat) (name qual:Str) (cd pm dfl:Value):FuncData:={ methDef name qual (mtp ci k).1 (mtp ci k).2.1 (mtp ci k).2.2 pm cd .none with defaults:=dfl }
noncomputable abbrev mkC (C:Addr) (rest:List Value) (kw:List (Str×Value)):Code:=.builtin "type.__call__" ⟨.ref C::rest,kw⟩
theorem Rm.under {A n} (h:Rm A (n + 1)) (C:Addr) (rest:List Value) (kw:List (Str×Value)):Rm (A.under (mkC C rest kw)) n :=
 ⟨h.1,by have:=h.2.1; show A.depth + 1 + n≤_; lia,by have:=h.2.2; show A.units + 1 + 20 * n≤_; lia⟩
theorem Frs.under {A fr} (h:Frs A fr) (C:Addr) (rest:List Value) (kw:List (Str×Value)):Frs (A.under (mkC C rest kw)) fr:=⟨by
 show pushEnvs [] A.frames=_
 rw [h.1]; rfl,h.2⟩
theorem s_make {F l} {fI:Addr} {rest:List Value} {kw:List (Str×Value)}
  (H:St H0 B fa X' L l F h) (X:K.In h) (hm:makesIn K C=true) (M:MethK K C "__init__" fI)
  (q:∀ x dx h',h.get? x=none→h.get? dx=none→St H0 B fa X' L l ((x,InP C dx #[])::(dx,AtP [])::F) h' →
   codeAny (model P w) (A.under (mkC C rest kw)) (.call (.ref fI) ⟨.ref x::rest,kw⟩) (InitBack x (back Q E)) (sh g t h')) :
  wpAny (model P w) A (call (.ref C) rest kw) Q E (sh g t h):=by
 refine wpAny_call (make_core (makes_of X hm) (looks_findIn X M.fa) (fun self=>bind_fn X self M.ty) (.inl rfl) ?_)
 have H1:=H.push emptyDict (p:=AtP []) ⟨#[],_,rfl,fun e he=>absurd he (by simp),List.Pairwise.nil,fun _=>rfl⟩
 have H2:=H1.push (instObj C h.objs.size) (p:=InP C h.objs.size #[]) rfl
 refine codeAny_mono (q (h.push emptyDict).objs.size h.objs.size _ (Yy (by rw [Heap.size_push]; exact Nat.le_succ _)) (Yy (Zf _)) H2 |> fun z=>by rwa [Heap.size_push] at z) fun r s' z=>?_
 rcases r with e | (v | _ | _ | _)<;>first | exact z | exact z.elim
theorem bNI (name qual:Str) (cd pm v u:Value):bindArgs (mdF 10 1 name qual cd pm .none) ⟨[v,u],[]⟩=pure [(("self" : Str),v),(("node" : Str),u)]:=by rfl
noncomputable def NodeP (CN da:Addr) (v:Value) (np:Int) (sa:Addr):OP:=fun o=>∃ t,InP CN da #[some v,some (.int np t),some (.ref sa)] o
structure NodeK (K:Frag) (H0:Heap) (CN:Addr):Prop where
 k:ClsK K CN false
 mak:makesIn K CN=true
 ini:E5 fun f name qual cd pm=>MethK K CN "__init__" f∧Fn H0 f (mdF 10 1 name qual cd pm .none)
 s0:∃ p,SlotK K CN "node" p 0
 s1:∃ p,SlotK K CN "npredecessors" p 1
 s2:∃ p,SlotK K CN "successors" p 2
theorem sset3 (a b c:Value):sset (sset (sset #[] 0 a) 1 b) 2 c=#[some a,some b,some c]:=by kernel_rfl
theorem sset_np (a b c d:Value):sset #[some a,some b,some c] 1 d=#[some a,some d,some c]:=by kernel_rfl
theorem Is.tt {p:OP} (x:Is h a p):Is h a (fun _=>True):=x.mono fun _ _=>trivial
theorem node_new {F l}
  (rm:Rm A (n + 4)) (hfr:Frs A (env::fr)) (he:env.frame=some env.locals) (bs:Bs H0 mg mb) (X0:K.In H0) (nk:NodeK K H0 CN) (H:St H0 B (adr fr) X' env.locals l F h)
  (q:∀ a da sa h' t',St H0 B (adr fr) X' env.locals l ((a,NodeP CN da v 0 sa)::(da,fun _=>True)::(sa,ListP [])::F) h'→Q (.ref a) (sh g t' h')) :
  wpAny (model P w) A (call (.ref CN) [v]) Q E (sh g t h):=by
 obtain ⟨f,name,qual,cd,pm,M,hf⟩:=nk.ini
 obtain ⟨p0,S0⟩:=nk.s0
 obtain ⟨p1,S1⟩:=nk.s1
 obtain ⟨p2,S2⟩:=nk.s2
 have ea:adr (env::fr)=env.locals::adr fr:=by show List.filterMap _ _=_; rw [List.filterMap_cons,he]
 refine s_make H (X0.keeps H.low) nk.mak M fun x dx h' n1 n2 H'=>?_
 have lump:Lump H0 (adr (env::fr)) h' [(x,InP CN dx #[]),(dx,AtP [])]:=by rw [ea]; exact St.lump (G:=[(x,InP CN dx #[]),(dx,AtP [])]) H'
 refine s_enter bs H'.low hf (hfr.under CN [v] []) (by rw [ea]; exact H'.al) (rm.under CN [v] []).room rfl (bNI _ _ _ _ _ _) fun h1 t1 H1 hF=>?_
 have H2:=H1.own lump
 have X2:=X0.keeps H2.low
 refine Yh (Yl (s_ld H2 (s_ld H2 (i_setS nk.k X2 S0 (by decide) (H2.at (i:=0) rfl) (H2.at (i:=1) rfl).tt fun h3 t3 i3 k3=>?_))))
 have H3:=H2.upd 0 rfl k3 i3
 refine Yh (Yl (wpAny_Constant_int (s_ld H3 (i_setS nk.k (X0.keeps H3.low) S1 (by decide) (H3.at (i:=0) rfl) (H3.at (i:=1) rfl).tt fun h4 t4 i4 k4=>?_))))
 have H4:=H3.upd 0 rfl k4 i4
 refine Yh (Yl (wpAny_List (Yn ⟨Zs _,?_⟩)))
 have H5:=H4.push { cls:=.type "list",data:=.seq ([]:List Value).toArray } (p:=ListP []) ⟨0,rfl⟩
 refine s_ld H5 (i_setS nk.k (X0.keeps H5.low) S2 (by decide) (H5.at (i:=1) rfl) (H5.at (i:=2) rfl).tt fun h6 t6 i6 k6=>?_)
 have H6:=H5.upd 1 rfl k6 (p':=NodeP CN dx v 0 h4.objs.size) (i6.mono fun o q=>⟨_,by rw [sset3] at q; exact q⟩)
 have H7:=H6.upd 2 rfl (fun _ _ _ e=>e) (H6.at (i:=2) rfl).tt
 refine Ym ⟨rfl,?_⟩
 have H8:=H7.perm (G:=[(x,NodeP CN dx v 0 h4.objs.size),(dx,fun _=>True),(h4.objs.size,ListP [])]++[]) (by
  show List.Perm [(h4.objs.size,ListP []),(x,NodeP CN dx v 0 h4.objs.size),(dx,fun _=>True)] _
  exact (List.Perm.swap _ _ _).trans ((List.Perm.swap _ _ _).cons _))
 have S:=H8.toStep (G:=[(x,InP CN dx #[]),(dx,AtP [])]) (by simp)
 rw [ea] at S
 exact q _ _ _ _ _ (St.step (G:=[(x,InP CN dx #[]),(dx,AtP [])]) (G':=[(x,NodeP CN dx v 0 h4.objs.size),(dx,fun _=>True),(h4.objs.size,ListP [])]) H' S)
theorem s_asgSub {o i:Expr} {Q:Unit→Shared→Prop}
  (h:wpAny (model P w) A (eval o env) (fun ov s1=>wpAny (model P w) A (eval i env) (fun iv s2=>wpAny (model P w) A (setItem ov iv v) (fun _ s3=>Q () s3) E s2) E s1) E s):wpAny (model P w) A (assign (.Subscript o i pos) env v) Q E s:=by
 rw [assign_Subscript]
 refine Yd (wpAny_holding (Ze h (fun ov s1 h1=>Yd (wpAny_holding (Ze h1 (fun iv s2 h2=>Yd (wpAny_standAt (Yd (wpAny_holding (Ze h2 (fun _ s3 h3=>?_) fun _ _ e=>e))))) fun _ _ e=>e))) fun _ _ e=>e))
 exact fun Γ p hΓ=>Eq.mpr (Sem.wp_release ..) h3
structure PN where
 i:Nat
 np:Int
 su:List Nat
noncomputable abbrev Ad:=Addr×Addr×Addr
noncomputable abbrev Nodes:=List (PN×Ad)
structure Nm (nv:Nat→Value) (ns:Nat→Str) (N:Nat):Prop where
 v:∀ i,i < N→∃ t,nv i=.str (ns i) t
 inj:∀ i j,i < N→j < N→ns i=ns j→i=j
noncomputable def ndF (nv:Nat→Value) (CN:Addr) (n:PN×Ad):Fs:=[(n.2.1,NodeP CN n.2.2.1 (nv n.1.i) n.1.np n.2.2.2),(n.2.2.1,fun _=>True),(n.2.2.2,ListP (n.1.su.map nv))]
noncomputable def kvsOf (ns:Nat→Str) (nodes:Nodes):List (Str×Value):=nodes.map fun n=>(ns n.1.i,.ref n.2.1)
noncomputable def SDP (n2i:Addr) (rdv:Value) (po nf:Int):OP:=fun o=>E2 fun t1 t2=>AtP [("_node2info",.ref n2i),("_ready_nodes",rdv),("_npassedout",.int po t1),("_nfinished",.int nf t2)] o
noncomputable def srtF (w:World) (nv:Nat→Value) (ns:Nat→Str) (CS CN x dx n2i:Addr) (nodes:Nodes) (rdv:Value) (po nf:Int):Fs :=
 (x,InP CS dx #[])::(dx,SDP n2i rdv po nf)::(n2i,DictP w (kvsOf ns nodes))::nodes.flatMap (ndF nv CN)
noncomputable def Wf (N:Nat) (nodes:Nodes):Prop:=∀ n∈nodes,n.1.i < N
section
variable {ns:Nat→Str}
theorem find_kvs (nm:Nm nv ns N):∀ {nodes:Nodes} {i:Nat},Wf N nodes→i < N→valueAt (kvsOf ns nodes) (ns i)=(nodes.find? fun n=>n.1.i == i).map fun n=>Value.ref n.2.1
 | [],_,_,_=>rfl
 | n::r,i,wf,hi=>by
  have ih:=find_kvs nm (nodes:=r) (fun n m=>wf n (Yb _ m)) hi
  unfold valueAt kvsOf at ih ⊢
  rw [Zq,List.find?_cons,List.find?_cons]
  by_cases q:n.1.i=i
  ·rw [q]; simp
  ·have:ns n.1.i≠ns i:=fun e=>q (nm.inj _ _ (wf n Yc) hi e)
   rw [show decide (ns n.1.i=ns i)=false from decide_eq_false this,show (n.1.i == i)=false from Zp.mpr q]
   exact ih
theorem kvs_any (nm:Nm nv ns N) (wf:Wf N nodes) (hi:i < N) (h:nodes.find? (fun n=>n.1.i == i)=none):(kvsOf ns nodes).any (fun kv=>decide (kv.1=ns i))=false:=by
 rw [List.any_eq_false]
 intro kv hk
 obtain ⟨n,hn,rfl⟩:=Yx.mp hk
 have:=List.find?_eq_none.mp h n hn
 simp only [decide_eq_true_eq]
 intro e
 exact this (by simpa using nm.inj _ _ (wf n hn) hi e)
theorem Nm.isK (nm:Nm nv ns N) (hi:i < N):(SK w).is (ns i) (nv i)=true:=by
 obtain ⟨t,e⟩:=nm.v i hi
 rw [e]; exact strKind_is P w _ _
theorem find_split {n:PN×Ad} (h:nodes.find? (fun n=>n.1.i == i)=some n):n.1.i=i∧E2 fun l1 l2=>nodes=l1++n::l2∧∀ m∈l1,m.1.i≠i:=by
 refine ⟨by simpa using List.find?_some h,?_⟩
 obtain ⟨_,l1,l2,e,q⟩:=List.find?_eq_some_iff_append.mp h
 exact ⟨l1,l2,e,fun m hm=>by simpa using q m hm⟩
end
noncomputable def getI (ps:List PN) (i:Nat):List PN:=if ps.any (fun p=>p.i == i) then ps else ps++[⟨i,0,[]⟩]
theorem bGN (name qual:Str) (cd pm v u:Value):bindArgs (mdF 12 1 name qual cd pm .none) ⟨[v,u],[]⟩=pure [(("self" : Str),v),(("node" : Str),u)]:=by rfl
structure SorterK (K:Frag) (CS:Addr):Prop where
 k:ClsK K CS true
 a1:findIn K (.ref CS) "_node2info" = some none
 a2:findIn K (.ref CS) "_ready_nodes" = some none
 a3:findIn K (.ref CS) "_npassedout" = some none
 a4:findIn K (.ref CS) "_nfinished" = some none
theorem taker_none (h:findIn K (.ref C) name=some none):takerIn K C name=some none:=by unfold takerIn; rw [h]; rfl
theorem SDP.at' (x:Is h dx (SDP n2i rdv po nf)):E2 fun t1 t2=>Is h dx (AtP [("_node2info",.ref n2i),("_ready_nodes",rdv),("_npassedout",.int po t1),("_nfinished",.int nf t2)]):=by obtain ⟨o,e,t1,t2,r⟩:=x; exact ⟨t1,t2,o,e,r⟩
theorem s_n2i {x:Addr}
  (sk:SorterK K CS) (X:K.In h) (I:Is h x (InP CS dx #[])) (D:Is h dx (SDP n2i rdv po nf)) (e1:Ev w A E env e (.ref x) (sh g t h)) (q:∀ t',Q (.ref n2i) (sh g t' h))
  (he:autoParam (eval (.Attribute e "_node2info" pos) env=(do
   let o ← eval e env
   standAt pos.atName
   let r ← holding [o] (getAttr o "_node2info" true)
   letTemporaryGo e o r
   pure r)) tU):wpAny (model P w) A (eval (.Attribute e "_node2info" pos) env) Q E (sh g t h):=by
 obtain ⟨t1,t2,D⟩:=SDP.at' D
 exact s_attr sk.k X sk.a1 I D e1 rfl rfl q he
theorem s_dget {k:Str} {o:Expr}
  (D:Is h a (DictP w kvs)) (hs:(a == sysModules)=false) (hk:(SK w).is k v=true)
  (e1:∀ Q:Value→Shared→Prop,(∀ t',Q (.ref a) (sh g t' h))→wpAny (model P w) A (eval o env) Q E (sh g t h))
  (e2:∀ t (Q:Value→Shared→Prop),Q v (sh g t h)→wpAny (model P w) A (eval e env) Q E (sh g t h))
  (q:∀ t',Q ((valueAt kvs k).getD .none) (sh g t' h))
  (hbase:autoParam (attributeBase o "get" env (eval o env)=eval o env) tR) (hline:autoParam ((apos.endLine == pos.line)=true) tR) (htrees:autoParam (backTo pos (starEach [e] env)=[(false,eval e env)]) tR) :
  wpAny (model P w) A (eval (.Call (.Attribute o "get" apos) [e] [] pos) env) Q E (sh g t h):=by
 have hd:=D.dict
 refine wpAny_Call_method1_late hbase hline htrees (e1 _ fun t'=>⟨"dict", "dict.get",PySem.F.plainAttrs_dict,PySem.F.slot_dict_get,PySem.F.type_dict_get,hd.typeIs,?_,wpAny_dict_get1 (K:=Str) (knd:=SK w) hs (e2 _ _ ⟨k,valueAt kvs,hk,hd.mapOf,q _⟩)⟩)
 rintro a ⟨⟩
 obtain ⟨ob,es,ep,e,r,_⟩:=hd
 exact ⟨ob,e,r.2.1⟩
theorem getI_new (h:nodes.find? (fun n=>n.1.i == i)=none):getI (nodes.map (·.1)) i=nodes.map (·.1)++[⟨i,0,[]⟩]:=by
 unfold getI
 rw [if_neg]
 intro q
 rw [List.any_map] at q
 obtain ⟨n,hn,e⟩:=List.any_eq_true.mp q
 exact List.find?_eq_none.mp h n hn e
theorem getI_old {n:PN×Ad} (h:nodes.find? (fun n=>n.1.i == i)=some n):getI (nodes.map (·.1)) i=nodes.map (·.1):=by
 unfold getI
 rw [if_pos]
 rw [List.any_map]
 exact List.any_eq_true.mpr ⟨n,List.mem_of_find?_eq_some h,List.find?_some h⟩
theorem getnode_call {g} {ns:Nat→Str} {x:Addr} {t}
  (rm:Rm A (n + 6)) (hfr:Frs A fr) (al:Alive H0 (adr fr) h) (bs:Bs H0 mg mb) (low:∀ a o,H0.get? a=some o→h.get? a=some o) (hf:Fn H0 f (mdF 12 1 name qual cd pm .none))
  (X0:K.In H0) (nk:NodeK K H0 CN) (hkp:keepIn K (.ref CN)=true) (sk:SorterK K CS) (hCN:mg "_NodeInfo" = some (.ref CN)) (nm:Nm nv ns N) (hi:i < N) (wf:Wf N nodes) (hz:nodes.length≤1000)
  (M:Lump H0 (adr fr) h (srtF w nv ns CS CN x dx n2i nodes rdv po nf))
  (hR:∀ h' t' nodes' m,Step (adr fr) h (srtF w nv ns CS CN x dx n2i nodes rdv po nf) h' (srtF w nv ns CS CN x dx n2i nodes' rdv po nf)→nodes'.map (·.1)=getI (nodes.map (·.1)) i→nodes'.find? (fun n=>n.1.i == i)=some m→R (.ok (.ret (.ref m.2.1))) (sh g t' h')) :
  codeAny (model P w) A (.call (.ref f) ⟨[.ref x,nv i],[]⟩) R (sh g t h):=by
 refine s_enter bs low hf hfr al rm.room rfl (bGN _ _ _ _ _ _) fun h1 t₁ H1 hF=>?_
 have rm':=rm.deeper (envF (mdF 12 1 name qual cd pm .none) h.objs.size f)
 have H2:=H1.own M
 have n2:(n2i == sysModules)=false:=bs.ns (H2.hi _ (Zr _ (Yb _ (Yb _ Yc))))
 refine Yh (Zh (Yg (wpAny_NamedExpr ?_)))
 refine s_dget (H2.at (i:=2) rfl) n2 (nm.isK hi) (fun Q q=>s_n2i sk (X0.keeps H2.low) (H2.at (i:=0) rfl) (H2.at (i:=1) rfl) (fun Q q=>s_ld H2 q) q) (fun t Q q=>s_ld H2 q) fun t₂=>?_
 refine Zl (s_st H2 fun h3 t3 H3=>?_)
 refine Zg ?_
 rw [find_kvs nm wf hi]
 cases hfd:nodes.find? (fun n=>n.1.i == i) with
 | some m =>
  rw [find_kvs nm wf hi,hfd] at H3
  refine is_none (Yi ?_)
  rw [if_neg (by simp)]
  refine Ym (Yh (Zd (s_ld H3 ?_)))
  obtain ⟨e1,l1,l2,e2,_⟩:=find_split hfd
  exact hR h3 _ nodes m (H3.toStep (fun _ h=>h)) (getI_old hfd).symm hfd
 | none =>
  rw [find_kvs nm wf hi,hfd] at H3
  refine is_none (Yi ?_)
  rw [if_pos (by rfl)]
  refine Yh (wpAny_Assign_two ?_)
  refine Zb (s_gname bs H3.low hCN ?_)
  refine callWith_K (h₀:=H0) X0 hkp (Yz (s_ld H3 (Zn ⟨X0.keeps H3.low,?_⟩)))
  refine node_new (n:=n + 1) (rm'.le (by exact Zf _)) hF rfl bs X0 nk H3 fun a da sa h4 t4 H4=>?_
  refine s_asgSub (s_n2i sk (X0.keeps H4.low) (H4.at (i:=3) rfl) (H4.at (i:=4) rfl) (fun Q q=>s_ld H4 q) fun t5=>s_ld H4 ?_)
  refine wpAny_setItem_pairs (knd:=SK w) (nm.isK hi) (H4.at (i:=5) rfl).dict (fun h5 hd5 sb5=>?_) (by unfold kvsOf; rw [Yp]; exact Ye hz (by decide))
  have H5:=H4.upd 5 rfl (fun b o hb e=>(sb5.2 b hb).trans e) (isDict hd5)
  refine Zl (s_st H5 fun h6 t6 H6=>?_)
  have ek:stored (kvsOf ns nodes) (ns i) (.ref a)=kvsOf ns (nodes++[(⟨i,0,[]⟩,a,da,sa)]):=by
   unfold stored
   rw [kvs_any nm wf hi hfd,if_neg Yk]
   unfold kvsOf
   rw [Yt]; rfl
  rw [ek] at H6
  refine Ym (Yh (Zd (s_ld H6 ?_)))
  have H7:=H6.perm (G:=srtF w nv ns CS CN x dx n2i (nodes++[(⟨i,0,[]⟩,a,da,sa)]) rdv po nf++[]) (by
   rw [List.append_nil]
   show List.Perm ([(a,NodeP CN da (nv i) 0 sa),(da,fun _=>True),(sa,ListP [])]++(((x,InP CS dx #[])::(dx,SDP n2i rdv po nf)::(n2i,DictP w (kvsOf ns (nodes++[(⟨i,0,[]⟩,a,da,sa)])))::nodes.flatMap (ndF nv CN)))) _
   refine Zi.trans (List.Perm.of_eq ?_)
   unfold srtF
   rw [List.flatMap_append]
   simp [ndF])
  refine hR h6 _ _ (⟨i,0,[]⟩,a,da,sa) (H7.toStep fun b hb=>?_) (by rw [getI_new hfd,Yt]; rfl) (by rw [List.find?_append,hfd]; simp)
  show b∈(srtF w nv ns CS CN x dx n2i (nodes++[(⟨i,0,[]⟩,a,da,sa)]) rdv po nf).map (·.1)
  unfold srtF at hb ⊢
  simp only [Zq,Yu,List.flatMap_append,Yt,Zz] at hb ⊢
  rcases hb with q | q | q | q
  ·exact .inl q
  ·exact .inr (.inl q)
  ·exact .inr (.inr (.inl q))
  ·exact .inr (.inr (.inr (.inl q)))
noncomputable def TupP (xs:List Value):OP:=fun o=>∃ n,o = { cls:=.type "tuple",data:=.seq xs.toArray n }
noncomputable def TIterP (a:Addr) (i:Nat):OP:=fun o=>o.cls=.type "tuple_iterator" ∧ o.data=.fields #[.ref a,.int i 0]
theorem Is.tup {xs} (x:Is h a (TupP xs)):h.IsTuple a xs.toArray:=by obtain ⟨_,e,n,q⟩:=x; exact ⟨_,e,by rw [q],n,by rw [q]⟩
theorem Itr.tuple (hh:A.handled=none) (it a:Addr) (xs:List Value):Itr w A it xs.length (TIterP a) (fun i v=>xs[i]? = some v) (fun h=>Is h a (TupP xs)) where
 item:=fun i h g t Q E hi hit hl k=>by
  refine wpAny_pyNext_tuple_item (t:=a) (i:=i) hit hl.tup (x:=xs[i]) (by simp [hi]) fun h' hit' sb=>k h' _ t hit' (fun b o hb e=>(sb.2 b hb).trans e) (by simp [hi])
 fin:=fun h g t Q E hit hl k=>wpAny_pyNext_tuple_end (t:=a) hh hit hl.tup (by simp) fun h' he=>k h' he
 self:=fun i h g t Q E hit k=>wpAny_pyIter_tupleiter (t:=a) (i:=i) hit k
theorem s_forI {target:Expr} {vals:Nat→Value→Prop} (I:Itr w A it n IP vals Old) (J:Nat→Heap→Prop)
  (hJ:∀ i h,J i h→Is h it (IP i)∧Old h)
  (turn:∀ i v h t h',i < n→vals i v→J i h→Is h' it (IP (i + 1))→(∀ b o,b≠it→h.get? b=some o→h'.get? b=some o) →
   wpAny (model P w) A (assign target env v) (fun _ s2=>wpAny (model P w) A (execs body env) (fun f s3=>match f with
     | .next | .cont=>E2 fun h3 t3=>s3=(sh g t3 h3)∧J (i + 1) h3
     | .brk=>R (.ok .next) s3
     | .ret v=>R (.ok (.ret v)) s3) (notedBy (model P w) A env fun e s'=>R (.error e) s') s2) (notedBy (model P w) A env fun e s'=>R (.error e) s') (sh g t h'))
  (done:∀ h t h',J n h→(∀ b o,b≠it→h.get? b=some o→h'.get? b=some o)→R (.ok .next) (sh g t h'))
  (h0:J 0 h) (ht:autoParam (∀ v,letOwnedTupleGo target (.ref it) v=pure ()) tI):codeAny (model P w) A (.forLoop target (.ref it) body [] env) R (sh g t h):=by
 refine codeAny_forLoop (fun k s=>E3 fun h t i=>A4 (s=(sh g t h)) (i≤n) (k=n + 1 - i) (J i h)) ?_ (n + 1) ⟨h,t,0,rfl,Zs _,rfl,h0⟩ ht
 rintro k s ⟨h,t,i,rfl,hi,rfl,hj⟩
 obtain ⟨h1,h2⟩:=hJ i h hj
 by_cases hlt:i < n
 ·refine I.item i h g t _ _ hlt h1 h2 fun h' v t' hit sb hv=>?_
  refine Ze (turn i v h t' h' hlt hv hj hit sb) (fun _ s2 k=>Ze k (fun f s3 q=>?_) fun _ _ e=>e) fun _ _ e=>e
  cases f with
  | next=>obtain ⟨h3,t3,rfl,q⟩:=q; exact ⟨n + 1 - (i + 1),by lia,h3,t3,i + 1,rfl,hlt,rfl,q⟩
  | cont=>obtain ⟨h3,t3,rfl,q⟩:=q; exact ⟨n + 1 - (i + 1),by lia,h3,t3,i + 1,rfl,hlt,rfl,q⟩
  | brk=>exact q
  | ret v=>exact q
 ·have e:i=n:=Nat.le_antisymm hi (Nat.le_of_not_lt hlt)
  subst e
  exact I.fin h g t _ _ h1 h2 fun h' he=>Ym (done h t h' hj he)
section
variable {B':Heap}
theorem St.base (H:St H0 B' fa X L l F h) (k:∀ b o,B.get? b=some o→B'.get? b=some o):St H0 B fa X L l F h where
 lo:=H.lo
 Ln:=none_of fun o e=>by have:=k _ _ e; rw [H.Ln] at this; cases this
 has:=H.has
 nd:=H.nd
 low:=H.low
 hi:=H.hi
 nf:=H.nf
 keep:=fun b o e n=>H.keep b o (k b o e) n
 new:=fun x hx=>(H.new x hx).imp_right fun q=>none_of fun o e=>by have:=k _ _ e; rw [q] at this; cases this
 al:=H.al
end
theorem s_enterV {t':Nat} {p:OP} (b:Bs H0 mg mb) (low:∀ a o,H0.get? a=some o→h.get? a=some o) (hf:Fn H0 f fd)
  (hfr:Frs A fr) (al:Alive H0 (adr fr) h) (hroom:A.depth < recursionLimit) (hbody:fd.body=.stmts body) (kk:∀ b o,h.get? b=some o→h'.get? b=some o) (ha:h.get? a=none) (ia:Is h' a p) (hbind:∀ (Q:List (Str×Value)→Shared→Prop) (E:Value→Shared→Prop),Q binds (sh g t' h')→wpAny (model P w) A.in1 (bindArgs fd args) Q E (sh g t h))
  (k:∀ h₁ t1,St H0 h (adr fr) [] h'.objs.size binds.reverse [(a,p)] h₁→Frs (A.deeper (envF fd h'.objs.size f)) (envF fd h'.objs.size f::fr)→wpAny (model P w) (A.deeper (envF fd h'.objs.size f)) (execs body (envF fd h'.objs.size f)) (fun fl s'=>R (.ok (.ret (match fl with | .ret v=>v | _=>.none))) s')
   (fun e s'=>wpAny (model P w) (A.deeper (envF fd h'.objs.size f)) (leaving (envF fd h'.objs.size f) e) (fun _ s''=>R (.error e) s'') (fun e' s''=>R (.error e') s'') s') (sh g t1 h₁))
  (hloc:autoParam ((binds.map (·.1)).all (fun x=>decide (fd.scope.names.lookup x=some .local))=true) tR) (hcell:autoParam (fd.scope.names.all (fun x=>decide (x.2≠.cell))=true) tR)
  (hcl:autoParam (fd.closure=[]) tR) (hco:autoParam (fd.scope.isCoroutine=false) tR) (hgen:autoParam (fd.scope.isGenerator=false) tR) (hk:autoParam (fd.scope.kind=.function) tR) :
  codeAny (model P w) A (.call (.ref f) args) R (sh g t h):=by
 have hloc:∀ x∈binds,fd.scope.names.lookup x.1=some .local:=fun x hx=>of_decide_eq_true (List.all_eq_true.mp hloc _ (Yx.mpr ⟨x,hx,rfl⟩))
 have hcell:∀ x∈fd.scope.names,x.2≠.cell:=fun x hx=>of_decide_eq_true (List.all_eq_true.mp hcell x hx)
 obtain ⟨⟨o,ho,hd⟩,hc⟩:=hf
 refine codeAny_call_function hroom (low _ _ ho) hd hco hgen hbody (hc.keeps low) ?_
 refine hbind _ _ ?_
 rw [hcl]
 refine wpAny_newFunctionEnv hcell hloc (fun h₁ ns sb=>?_) hk
 have kp:∀ b o,h'.get? b=some o→h₁.get? b=some o:=fun b o e=>(sb.2 b (Nat.ne_of_lt (Heap.lt_size e))).trans (Yv _ e)
 have S1:St H0 h' (adr fr) [] h'.objs.size binds.reverse [] h₁:=St.enter (fun b o e=>kk _ _ (low b o e)) (fun b m=>⟨(al b m).1,(al b m).2.at (kk b)⟩) ns kp
 have S2:St H0 h (adr fr) [] h'.objs.size binds.reverse [(a,p)] h₁:=(S1.base kk).put ha (fun m=>by
  rcases Yu.mp m with q | m
  ·exact Nat.ne_of_lt ia.lt q
  ·exact al.notIn ha m) (by simp) (none_of fun o e=>by have:=low _ _ e; rw [ha] at this; cases this) (ia.at (kp a))
 refine ⟨(b.lim.keeps S2.low:Heap.NoLimit h₁),codeAny_func (k h₁ _ S2 ⟨by show A.frames.map _=_; rw [hfr.1]; rfl,fun e m=>by
  rcases Yu.mp m with rfl | m
  ·exact ⟨by show fd.scope.kind≠_; rw [hk]; decide,_,rfl⟩
  ·exact hfr.2 e m⟩)⟩
theorem s_forQ {target:Expr} {vals:Nat→Value→Prop} (I:Itr w A it n IP vals Old) (J:Nat→Heap→Prop)
  (hJ:∀ i h,J i h→Is h it (IP i)∧Old h)
  (turn:∀ i v h t h' (Q:Flow→Shared→Prop) (E:Value→Shared→Prop),i < n→vals i v→J i h→Is h' it (IP (i + 1))→(∀ b o,b≠it→h.get? b=some o→h'.get? b=some o) →
   (∀ h3 t3,J (i + 1) h3→Q .next (sh g t3 h3))→(∀ h3 t3,J (i + 1) h3→Q .cont (sh g t3 h3))→(∀ s,R (.ok .next) s→Q .brk s)→(∀ v s,R (.ok (.ret v)) s→Q (.ret v) s) →
   wpAny (model P w) A (assign target env v) (fun _ s2=>wpAny (model P w) A (execs body env) Q E s2) E (sh g t h'))
  (done:∀ h t h',J n h→(∀ b o,b≠it→h.get? b=some o→h'.get? b=some o)→R (.ok .next) (sh g t h'))
  (h0:J 0 h) (ht:autoParam (∀ v,letOwnedTupleGo target (.ref it) v=pure ()) tI):codeAny (model P w) A (.forLoop target (.ref it) body [] env) R (sh g t h) :=
 s_forI I J hJ (fun i v h t h' hi hv hj hit sb=>turn i v h t h' _ _ hi hv hj hit sb (fun h3 t3 j=>⟨h3,t3,rfl,j⟩) (fun h3 t3 j=>⟨h3,t3,rfl,j⟩) (fun _ r=>r) (fun _ _ r=>r)) done h0 ht
section
variable {t':Nat} {p:OP}
theorem s_enterQ (b:Bs H0 mg mb) (low:∀ a o,H0.get? a=some o→h.get? a=some o) (hf:Fn H0 f fd)
  (hfr:Frs A fr) (al:Alive H0 (adr fr) h) (hroom:A.depth < recursionLimit) (hbody:fd.body=.stmts body) (hbind:∀ (Q:List (Str×Value)→Shared→Prop) (E:Value→Shared→Prop),Q binds (sh g t h)→wpAny (model P w) A.in1 (bindArgs fd args) Q E (sh g t h))
  (k:∀ env A' h₁ t1 (Q:Flow→Shared→Prop) (E:Value→Shared→Prop),env=envF fd h.objs.size f→A'=A.deeper env→(∀ v s,R (.ok (.ret v)) s→Q (.ret v) s)→(∀ s,R (.ok (.ret .none)) s→Q .next s)→St H0 h (adr fr) [] h.objs.size binds.reverse [] h₁→Frs A' (env::fr)→wpAny (model P w) A' (execs body env) Q E (sh g t1 h₁))
  (hloc:autoParam ((binds.map (·.1)).all (fun x=>decide (fd.scope.names.lookup x=some .local))=true) tR) (hcell:autoParam (fd.scope.names.all (fun x=>decide (x.2≠.cell))=true) tR)
  (hcl:autoParam (fd.closure=[]) tR) (hco:autoParam (fd.scope.isCoroutine=false) tR) (hgen:autoParam (fd.scope.isGenerator=false) tR) (hk:autoParam (fd.scope.kind=.function) tR) :
  codeAny (model P w) A (.call (.ref f) args) R (sh g t h) :=
 s_enterW b low hf hfr al hroom hbody hbind (fun h₁ t1 H F=>k _ _ h₁ t1 _ _ rfl rfl (fun _ _ r=>r) (fun _ r=>r) H F) hloc hcell hcl hco hgen hk
theorem s_enterVQ (b:Bs H0 mg mb) (low:∀ a o,H0.get? a=some o→h.get? a=some o) (hf:Fn H0 f fd)
  (hfr:Frs A fr) (al:Alive H0 (adr fr) h) (hroom:A.depth < recursionLimit) (hbody:fd.body=.stmts body) (kk:∀ b o,h.get? b=some o→h'.get? b=some o) (ha:h.get? a=none) (ia:Is h' a p) (hbind:∀ (Q:List (Str×Value)→Shared→Prop) (E:Value→Shared→Prop),Q binds (sh g t' h')→wpAny (model P w) A.in1 (bindArgs fd args) Q E (sh g t h))
  (k:∀ env A' h₁ t1 (Q:Flow→Shared→Prop) (E:Value→Shared→Prop),env=envF fd h'.objs.size f→A'=A.deeper env→(∀ v s,R (.ok (.ret v)) s→Q (.ret v) s)→(∀ s,R (.ok (.ret .none)) s→Q .next s)→St H0 h (adr fr) [] h'.objs.size binds.reverse [(a,p)] h₁→Frs A' (env::fr)→wpAny (model P w) A' (execs body env) Q E (sh g t1 h₁))
  (hloc:autoParam ((binds.map (·.1)).all (fun x=>decide (fd.scope.names.lookup x=some .local))=true) tR) (hcell:autoParam (fd.scope.names.all (fun x=>decide (x.2≠.cell))=true) tR)
  (hcl:autoParam (fd.closure=[]) tR) (hco:autoParam (fd.scope.isCoroutine=false) tR) (hgen:autoParam (fd.scope.isGenerator=false) tR) (hk:autoParam (fd.scope.kind=.function) tR) :
  codeAny (model P w) A (.call (.ref f) args) R (sh g t h) :=
 s_enterV b low hf hfr al hroom hbody kk ha ia hbind (fun h₁ t1 H F=>k _ _ h₁ t1 _ _ rfl rfl (fun _ _ r=>r) (fun _ r=>r) H F) hloc hcell hcl hco hgen hk
end
noncomputable def srtR (w:World) (nv:Nat→Value) (ns:Nat→Str) (CS CN x dx n2i:Addr) (l1 l2:Nodes) (kvs:List (Str×Value)) (rdv:Value) (po nf:Int):Fs :=
 (x,InP CS dx #[])::(dx,SDP n2i rdv po nf)::(n2i,DictP w kvs)::(l1.flatMap (ndF nv CN)++l2.flatMap (ndF nv CN))
theorem srt_perm {ns:Nat→Str} {x:Addr} {n:PN×Ad} :
  (srtF w nv ns CS CN x dx n2i (l1++n::l2) rdv po nf).Perm (ndF nv CN n++srtR w nv ns CS CN x dx n2i l1 l2 (kvsOf ns (l1++n::l2)) rdv po nf):=by
 unfold srtF srtR
 rw [List.flatMap_append,List.flatMap_cons]
 have e:∀ (a b c:Fs) (u v w:Addr×OP),(u::v::w::(a++(b++c))).Perm (b++(u::v::w::(a++c))):=fun a b c u v w=>by
  have h1:(a++(b++c)).Perm (b++(a++c)):=by
   rw [← List.append_assoc,← List.append_assoc]
   exact List.perm_append_comm.append_right c
  refine (((h1.cons w).cons v).cons u).trans ?_
  refine (((List.perm_middle.symm).cons v).cons u).trans ?_
  refine ((List.perm_middle.symm).cons u).trans ?_
  exact List.perm_middle.symm
 exact e _ _ _ _ _ _
theorem kvs_mid {ns:Nat→Str} {n:PN×Ad} (h1:n.1.i=m.1.i) (h2:n.2.1=m.2.1):kvsOf ns (l1++n::l2)=kvsOf ns (l1++m::l2):=by
 unfold kvsOf
 simp only [Yt,Zq,h1,h2]
noncomputable def modI:List PN→Nat→(PN→PN)→List PN
 | [],_,_=>[]
 | p::ps,i,f=>if p.i == i then f p::ps else p::modI ps i f
theorem modI_mid {f:PN→PN} {n n':PN×Ad} (h:f n.1=n'.1):∀ {l1 l2:Nodes} ,(∀ m∈l1,m.1.i≠n.1.i)→modI ((l1++n::l2).map (·.1)) n.1.i f=(l1++n'::l2).map (·.1)
 | [],l2,_=>by simp [modI,h]
 | m::l1,l2,q=>by
  have q1:=q m Yc
  have ih:=modI_mid h (l1:=l1) (l2:=l2) fun k hk=>q k (Yb _ hk)
  rw [List.cons_append,Zq,modI,if_neg (by simpa using q1),ih]; rfl
theorem bAdd {g} {x:Value} {t} {rest:List Value} (hz:rest.length≤1000) (Q:List (Str×Value)→Shared→Prop) (E:Value→Shared→Prop)
 (hq:Q [("self",x),("node",v),("predecessors",.ref h.objs.size)] (sh g t (h.push { cls:=.type "tuple",data:=.seq rest.toArray }))):wpAny (model P w) A (bindArgs (mdF 12 2 name qual cd pm .none) ⟨x::v::rest,[]⟩) Q E (sh g t h):=by
 have e:bindArgs (mdF 12 2 name qual cd pm .none) ⟨x::v::rest,[]⟩=newTuple rest >>= fun tv=>pure [(("self" : Str),x),("node",v),("predecessors",tv)]:=by cases rest<;>kernel_rfl
 rw [e]
 exact Yd (wpAny_newObj_type (Yn hq) (by show rest.toArray.size≤sizeLine; rw [List.size_toArray]; exact Ye hz (by decide)))
section
variable {ns:Nat→Str} {x:Addr} {R:Fs}
theorem St.focus (H:St H0 B fa X' L l (srtF w nv ns CS CN x dx n2i (l1++m::l2) rdv po nf++R) h):St H0 B fa X' L l (ndF nv CN m++srtR w nv ns CS CN x dx n2i l1 l2 (kvsOf ns (l1++m::l2)) rdv po nf++R) h:=H.perm (srt_perm.append_right R)
theorem St.unfocus {m':PN×Ad} (H:St H0 B fa X' L l (ndF nv CN m'++srtR w nv ns CS CN x dx n2i l1 l2 (kvsOf ns (l1++m::l2)) rdv po nf++R) h) (e1:m.1.i=m'.1.i) (e2:m.2.1=m'.2.1):St H0 B fa X' L l (srtF w nv ns CS CN x dx n2i (l1++m'::l2) rdv po nf++R) h:=by
 rw [kvs_mid e1 e2] at H
 exact H.perm (srt_perm.append_right R).symm
theorem s_npGet (nk:NodeK K H0 CN) (X0:K.In H0) (H:St H0 B fa X' L l (srtF w nv ns CS CN x dx n2i (l1++m::l2) rdv po nf++R) h) (q:∀ t0 t',Q (.int m.1.np t0) (sh g t' h)) :
  wpAny (model P w) A (getAttr (.ref m.2.1) "npredecessors" expr) Q E (sh g t h):=by
 obtain ⟨p,S⟩:=nk.s1
 obtain ⟨o,e,t1,r⟩:=H.focus.at (i:=0) rfl
 exact i_getS nk.k (X0.keeps H.low) S ⟨o,e,r⟩ (H.focus.at (i:=1) rfl).tt rfl rfl (q t1)
theorem s_suGet (nk:NodeK K H0 CN) (X0:K.In H0) (H:St H0 B fa X' L l (srtF w nv ns CS CN x dx n2i (l1++m::l2) rdv po nf++R) h) (q:∀ t',Q (.ref m.2.2.2) (sh g t' h)) :
  wpAny (model P w) A (getAttr (.ref m.2.1) "successors" expr) Q E (sh g t h):=by
 obtain ⟨p,S⟩:=nk.s2
 obtain ⟨o,e,t1,r⟩:=H.focus.at (i:=0) rfl
 exact i_getS nk.k (X0.keeps H.low) S ⟨o,e,r⟩ (H.focus.at (i:=1) rfl).tt rfl rfl q
theorem s_noGet (nk:NodeK K H0 CN) (X0:K.In H0) (H:St H0 B fa X' L l (srtF w nv ns CS CN x dx n2i (l1++m::l2) rdv po nf++R) h) (hh:handedIn (nv m.1.i)=true) (q:∀ t',Q (nv m.1.i) (sh g t' h)) :
  wpAny (model P w) A (getAttr (.ref m.2.1) "node" expr) Q E (sh g t h):=by
 obtain ⟨p,S⟩:=nk.s0
 obtain ⟨o,e,t1,r⟩:=H.focus.at (i:=0) rfl
 exact i_getS nk.k (X0.keeps H.low) S ⟨o,e,r⟩ (H.focus.at (i:=1) rfl).tt rfl hh q
theorem s_npSet {k:Int} {Q:Unit→Shared→Prop} (nk:NodeK K H0 CN) (X0:K.In H0) (H:St H0 B fa X' L l (srtF w nv ns CS CN x dx n2i (l1++m::l2) rdv po nf++R) h)
  (q:∀ h' t',St H0 B fa X' L l (srtF w nv ns CS CN x dx n2i (l1++(⟨m.1.i,k,m.1.su⟩,m.2)::l2) rdv po nf++R) h'→Q () (sh g t' h')) :
  wpAny (model P w) A (setAttr (.ref m.2.1) "npredecessors" (.int k t0)) Q E (sh g t h):=by
 obtain ⟨p,S⟩:=nk.s1
 have HF:=H.focus
 obtain ⟨o,e,t1,r⟩:=HF.at (i:=0) rfl
 refine i_setS nk.k (X0.keeps H.low) S (by decide) ⟨o,e,r⟩ (HF.at (i:=1) rfl).tt fun h' t' i' k'=>?_
 rw [sset_np] at i'
 have H':=HF.upd 0 rfl k' (p':=NodeP CN m.2.2.1 (nv m.1.i) k m.2.2.2) (i'.mono fun o q=>⟨_,q⟩)
 exact q h' t' (St.unfocus (m:=m) (m':=(⟨m.1.i,k,m.1.su⟩,m.2)) H' rfl rfl)
theorem St.suSet {su':List Nat} (H:St H0 B fa X' L l (srtF w nv ns CS CN x dx n2i (l1++m::l2) rdv po nf++R) h) (sb:∀ b o,b≠m.2.2.2→h.get? b=some o→h'.get? b=some o) (i:Is h' m.2.2.2 (ListP (su'.map nv))) :
  St H0 B fa X' L l (srtF w nv ns CS CN x dx n2i (l1++(⟨m.1.i,m.1.np,su'⟩,m.2)::l2) rdv po nf++R) h' :=
 St.unfocus (m:=m) (m':=(⟨m.1.i,m.1.np,su'⟩,m.2)) (H.focus.upd 2 rfl sb i) rfl rfl
theorem St.su (H:St H0 B fa X' L l (srtF w nv ns CS CN x dx n2i (l1++m::l2) rdv po nf++R) h):Is h m.2.2.2 (ListP (m.1.su.map nv)):=H.focus.at (i:=2) rfl
end
section
variable {x:Addr}
theorem s_meth1 (k:ClsK K C true) (X:K.In h) (M:MethK K C name f) (hf:Fn H0 f fd) (I:Is h x (InP C dx sl)) (D:Is h dx (AtP l)) (hv:l.lookup name=none) (ev:Ev w A E env e (.ref x) (sh g t h))
  (q:wpAny (model P w) A (eval e1 env) (fun v s₁=>(∀ a o,H0.get? a=some o→s₁.heap.get? a=some o)∧codeAny (model P w) A (.call (.ref f) ⟨[.ref x,v],[]⟩) (back Q E) s₁) E (sh g t h))
  (hs:autoParam (backTo pos (starEach [e1] env)=[(false,eval e1 env)]) tR)
  (he:autoParam (eval (.Call (.Attribute e name apos) [e1] [] pos) env=(do
   let ov ← eval e env
   standAt apos.atName
   let (f,first) ← holding [ov] (getMethod ov name pl)
   callWith pos f first (backTo pos (starEach [e1] env)) [])) tR):wpAny (model P w) A (eval (.Call (.Attribute e name apos) [e1] [] pos) env) Q E (sh g t h):=by
 refine s_meth k X M I D hv ev ?_ he
 rw [hs]
 exact s_fcall hf (Zx (Yz (Ze q (fun _ _ q=>Zn q) fun _ _ e=>e)))
theorem s_meth0 (k:ClsK K C true) (X:K.In h) (M:MethK K C name f) (hf:Fn H0 f fd) (I:Is h x (InP C dx sl)) (D:Is h dx (AtP l)) (hv:l.lookup name=none) (ev:Ev w A E env e (.ref x) (sh g t h)) (low:∀ a o,H0.get? a=some o→h.get? a=some o)
  (q:codeAny (model P w) A (.call (.ref f) ⟨[.ref x],[]⟩) (back Q E) (sh g t h))
  (he:autoParam (eval (.Call (.Attribute e name apos) [] [] pos) env=(do
   let ov ← eval e env
   standAt apos.atName
   let (f,first) ← holding [ov] (getMethod ov name pl)
   callWith pos f first (backTo pos (starEach [] env)) [])) tR):wpAny (model P w) A (eval (.Call (.Attribute e name apos) [] [] pos) env) Q E (sh g t h):=by
 refine s_meth k X M I D hv ev ?_ he
 show wpAny _ _ (callWith pos (.ref f) [.ref x] [] []) _ _ _
 exact s_fcall hf (PySem.evalArgs_none ⟨low,q⟩)
end
noncomputable def addP (ps:List PN) (one:Nat) (preds:List Nat):List PN :=
 preds.foldl (fun ps q=>modI (getI ps q) q fun p=>⟨p.i,p.np,p.su++[one]⟩) (modI (getI ps one) one fun p=>⟨p.i,p.np + preds.length,p.su⟩)
noncomputable def WfP (N:Nat) (ps:List PN):Prop:=∀ p∈ps,p.i < N
theorem Wf.of {ps:List PN} (e:nodes.map (·.1)=ps) (h:WfP N ps):Wf N nodes:=fun n hn=>h _ (e ▸ Yx.mpr ⟨n,hn,rfl⟩)
theorem Wf.p (h:Wf N nodes):WfP N (nodes.map (·.1)):=fun p hp=>by obtain ⟨n,hn,e⟩:=Yx.mp hp; exact e ▸ h n hn
theorem wf_getI {ps:List PN} (h:WfP N ps) (hi:i < N):WfP N (getI ps i):=by
 unfold getI
 split
 ·exact h
 ·intro p hp
  rcases Zz.mp hp with q | q
  ·exact h p q
  ·rw [Zu.mp q]; exact hi
theorem wf_modI {N:Nat} {f:PN→PN} (hf:∀ p,(f p).i=p.i):∀ {ps:List PN} {i:Nat},WfP N ps→WfP N (modI ps i f)
 | [],_,h=>h
 | p::ps,i,h=>by
  unfold modI
  split
  ·intro q hq
   rcases Yu.mp hq with rfl | hq
   ·rw [hf]; exact h p Yc
   ·exact h q (Yb _ hq)
  ·intro q hq
   rcases Yu.mp hq with rfl | hq
   ·exact h q Yc
   ·exact wf_modI hf (fun q hq=>h q (Yb _ hq)) q hq
theorem len_getI {ps:List PN}:(getI ps i).length≤ps.length + 1:=by
 unfold getI
 split
 ·exact Nat.le_add_right _ _
 ·simp
theorem len_modI {f:PN→PN}:∀ {ps:List PN} {i:Nat},(modI ps i f).length=ps.length
 | [],_=>rfl
 | p::ps,i=>by
  unfold modI
  split
  ·rfl
  ·rw [List.length_cons,List.length_cons,len_modI]
noncomputable def SuB (b:Nat) (ps:List PN):Prop:=∀ p∈ps,p.su.length≤b
theorem su_getI {b:Nat} {ps:List PN} (h:SuB b ps):SuB b (getI ps i):=by
 unfold getI
 split
 ·exact h
 ·intro p hp
  rcases Zz.mp hp with q | q
  ·exact h p q
  ·rw [Zu.mp q]; exact Zs _
theorem su_modI {b c:Nat} {f:PN→PN} (hf:∀ p,(f p).su.length≤p.su.length + c):∀ {ps:List PN} {i:Nat},SuB b ps→SuB (b + c) (modI ps i f)
 | [],_,h=>fun _ hp=>nomatch hp
 | p::ps,i,h=>by
  have h1:=h p Yc
  have h2:SuB b ps:=fun q hq=>h q (Yb _ hq)
  unfold modI
  split
  ·intro q hq
   rcases Yu.mp hq with rfl | hq
   ·exact Ye (hf p) (by lia)
   ·exact Ye (h2 q hq) (by exact Nat.le_add_right _ _)
  ·intro q hq
   rcases Yu.mp hq with rfl | hq
   ·lia
   ·exact su_modI hf h2 q hq
theorem srt_adr {ns:Nat→Str} {x:Addr} {nodes':Nodes} {rdv':Value} {po' nf':Int} (h:nodes.map (·.2)=nodes'.map (·.2)) :
  (srtF w nv ns CS CN x dx n2i nodes rdv po nf).map (·.1)=(srtF w nv ns CS CN x dx n2i nodes' rdv' po' nf').map (·.1):=by
 have e:∀ nodes:Nodes,(nodes.flatMap (ndF nv CN)).map (·.1)=(nodes.map (·.2)).flatMap fun a=>[a.1,a.2.1,a.2.2]:=fun nodes=>by
  induction nodes with
  | nil=>rfl
  | cons n r ih=>rw [List.flatMap_cons,Yt,ih]; rfl
 unfold srtF
 simp only [Zq,e,h]
theorem len_nodes {ps:List PN} (e:nodes.map (·.1)=ps):nodes.length=ps.length:=by rw [← e,Yp]
section
variable {F1 F2:Fs} {p p':OP}
theorem St.updM (H:St H0 B fa X L l (F1++(a,p)::F2) h) (sb:∀ b o,b≠a→h.get? b=some o→h'.get? b=some o) (n:Is h' a p'):St H0 B fa X L l (F1++(a,p')::F2) h' :=
 ((H.perm List.perm_middle).upd 0 rfl sb n).perm List.perm_middle.symm
theorem St.dropM (H:St H0 B fa X L l (F1++(a,p)::F2) h) (n:B.get? a=none) (sb:∀ b o,b≠a→h.get? b=some o→h'.get? b=some o):St H0 B fa X L l (F1++F2) h' :=
 (H.perm List.perm_middle).lose n sb
end
structure SrtEnv (K:Frag) (H0:Heap) (mg mb:Str→Option Value) (CN CS:Addr) (nv:Nat→Value) (ns:Nat→Str) (N:Nat):Prop where
 bs:Bs H0 mg mb
 X0:K.In H0
 nk:NodeK K H0 CN
 hkp:keepIn K (.ref CN)=true
 sk:SorterK K CS
 hCN:mg "_NodeInfo" = some (.ref CN)
 nm:Nm nv ns N
 gn:E5 fun f name qual cd pm=>MethK K CS "_get_nodeinfo" f∧Fn H0 f (mdF 12 1 name qual cd pm .none)
 n0:mg "len" = none
 n1:mb "len" = some (.builtin "len")
noncomputable def add_call_S:Prop:=∀ {A:Around} {fr:List Env} {g} {K:Frag} {CS CN:Addr} {nv:Nat→Value} {ns:Nat→Str} {N:Nat} {x dx:Addr} {R:Result→Shared→Prop} {h:Heap} {t} {f:Addr} {name qual:Str} {cd pm:Value} {n2i:Addr} {one n:Nat} {preds:List Nat} {nodes:Nodes} {po nf:Int} (rm:Rm A (n + 8)) (hfr:Frs A fr) (al:Alive H0 (adr fr) h) (low:∀ a o,H0.get? a=some o→h.get? a=some o) (hf:Fn H0 f (mdF 12 2 name qual cd pm .none)) (V:SrtEnv K H0 mg mb CN CS nv ns N) (hi:one < N) (hp:∀ q∈preds,q < N) (wf:Wf N nodes) (hz:nodes.length≤100) (hzp:preds.length≤100) (hsu:SuB 1000 (nodes.map (·.1))) (M:Lump H0 (adr fr) h (srtF w nv ns CS CN x dx n2i nodes .none po nf)) (hR:∀ h' t' nodes',Step (adr fr) h (srtF w nv ns CS CN x dx n2i nodes .none po nf) h' (srtF w nv ns CS CN x dx n2i nodes' .none po nf)→nodes'.map (·.1)=addP (nodes.map (·.1)) one preds→R (.ok (.ret .none)) (sh g t' h')),codeAny (model P w) A (.call (.ref f) ⟨.ref x::nv one::preds.map nv,[]⟩) R (sh g t h)
end
namespace add_call
def zq0:=fun zk0=>(by
 intro A fr g K CS CN nv ns N x dx R h t f name qual cd pm n2i one n preds nodes po nf rm hfr al low hf V hi hp wf hz hzp hsu M hR
 obtain ⟨fG,nG,qG,cG,pG,MG,hfG⟩:=V.gn
 have n1:h.get? h.objs.size=none:=Yy (Zf _)
 refine s_enterV V.bs low hf hfr al rm.room rfl (h':=h.push { cls:=.type "tuple",data:=.seq (preds.map nv).toArray }) (a:=h.objs.size) (p:=TupP (preds.map nv)) (fun _ _ e=>Yv _ e) n1 ⟨_,Heap.get?_push_size _ rfl,0,rfl⟩ (fun Q E q=>bAdd (by simpa using Ye hzp (by decide)) Q E q) fun h₁ t1 H1 hF=>?_
 have rm':=rm.deeper (envF (mdF 12 2 name qual cd pm .none) (h.push { cls:=.type "tuple",data:=.seq (preds.map nv).toArray }).objs.size f)
 have H2:=H1.own M
 obtain ⟨u1,u2,D2⟩:=SDP.at' (H2.at (i:=1) rfl)
 revert rm hfr al low hf V hi hp wf hz hzp hsu M hR MG hfG n1 H1 hF rm' H2 D2
 revert A fr g K CS CN nv ns N x dx R h f name qual cd pm n2i one n preds nodes po nf fG nG qG cG pG h₁ t1 u1 u2
 exact zk0:add_call_S)
namespace zp0
@[irreducible] def zc:=pick34 zq0 (by (repeat any_goals apply np)<;>first | exact neW | exact neA | exact neD | exact neS | infer_instance | exact ⟨by constructor<;>exact default⟩)
def A:=zc.1.1
def fr:=zc.1.2.1
def g:=zc.1.2.2.1
def K:=zc.1.2.2.2.1
def CS:=zc.1.2.2.2.2.1
def CN:=zc.1.2.2.2.2.2.1
def nv:=zc.1.2.2.2.2.2.2
def ns:=zc.2.1.1
def N:=zc.2.1.2.1
def x:=zc.2.1.2.2.1
def dx:=zc.2.1.2.2.2.1
def R:=zc.2.1.2.2.2.2.1
def h:=zc.2.1.2.2.2.2.2.1
def f:=zc.2.1.2.2.2.2.2.2
def name:=zc.2.2.1.1
def qual:=zc.2.2.1.2.1
def cd:=zc.2.2.1.2.2.1
def pm:=zc.2.2.1.2.2.2.1
def n2i:=zc.2.2.1.2.2.2.2.1
def one:=zc.2.2.1.2.2.2.2.2.1
def n:=zc.2.2.1.2.2.2.2.2.2
def preds:=zc.2.2.2.1.1
def nodes:=zc.2.2.2.1.2.1
def po:=zc.2.2.2.1.2.2.1
def nf:=zc.2.2.2.1.2.2.2.1
def fG:=zc.2.2.2.1.2.2.2.2.1
def nG:=zc.2.2.2.1.2.2.2.2.2.1
def qG:=zc.2.2.2.1.2.2.2.2.2.2
def cG:=zc.2.2.2.2.1
def pG:=zc.2.2.2.2.2.1
def h₁:=zc.2.2.2.2.2.2.1
def t1:=zc.2.2.2.2.2.2.2.1
def u1:=zc.2.2.2.2.2.2.2.2.1
def u2:=zc.2.2.2.2.2.2.2.2.2
def zq :=
 all34 zq0 A fr g K CS CN nv ns N x dx R h f name qual cd pm n2i one n preds nodes po nf fG nG qG cG pG h₁ t1 u1 u2 (by with_unfolding_all rfl) (by
 intro rm hfr al low hf V hi hp wf hz hzp hsu M hR MG hfG n1 H1 hF rm' H2 D2
 refine Yh (Zh (Yg ?_))
 refine s_attr V.sk.k (V.X0.keeps H2.low) V.sk.a2 (H2.at (i:=0) rfl) D2 (fun Q q=>s_ld H2 q) rfl rfl fun t2=>?_
 refine Zg (isNot_none (Yi ?_))
 rw [if_neg (by decide)]
 refine Ym ?_
 refine Yh (Yq ?_)
 obtain ⟨u1,u2,D2⟩:=SDP.at' (H2.at (i:=1) rfl)
 refine s_meth1 V.sk.k (V.X0.keeps H2.low) MG hfG (H2.at (i:=0) rfl) D2 rfl (fun Q q=>s_ld H2 q) (s_ld H2 ⟨H2.low,?_⟩)
 refine getnode_call (n:=n + 1) (rm'.le (by exact Zf _)) hF H2.al V.bs H2.low hfG V.X0 V.nk V.hkp V.sk V.hCN V.nm hi wf (by exact Ye hz (by decide)) H2.lump fun h3 t3 nodes1 m S1 e1 f1=>?_
 refine s_st (H2.step S1) fun h4 t4 H4=>?_
 obtain ⟨em,l1,l2,rfl,hm⟩:=find_split f1
 refine Yh (wpAny_AugAssign_AttributeAny (s_ld H4 (s_npGet V.nk V.X0 H4 fun t0 t5=>?_)))
 have iT:=H4.has (h.objs.size,TupP (preds.map nv)) (Ys _ Yc)
 refine Zb (s_bname V.bs H4.low V.n0 V.n1 ?_)
 refine callWith_builtin rfl (Zx (Yz (s_ld H4 (Zn ?_))))
 refine len_tuple iT.tup (by simp only [List.size_toArray,Yp]; lia) ?_
 refine PySem.AutoIntOps.iadd_0 ?_
 refine s_npSet V.nk V.X0 H4 fun h6 t6 H6=>?_
 have ek:((List.map nv preds).toArray.size:Int)=preds.length:=by simp
 rw [ek] at H6
 refine Yh (wpAny_For (s_ld H6 ?_))
 have iT6:=H6.has (h.objs.size,TupP (preds.map nv)) (Ys _ Yc)
 refine wpAny_pyIter_tuple iT6.tup ?_
 have H7:=H6.push { cls:=.type "tuple_iterator",data:=.fields #[.ref h.objs.size,.int 0 0] } (p:=TIterP h.objs.size 0) ⟨rfl,rfl⟩
 have start:(l1++(⟨m.1.i,m.1.np + preds.length,m.1.su⟩,m.2)::l2:Nodes).map (·.1)=modI (getI (nodes.map (·.1)) one) one fun p=>⟨p.i,p.np + preds.length,p.su⟩:=by
  rw [← e1,← em,modI_mid (n':=(⟨m.1.i,m.1.np + preds.length,m.1.su⟩,m.2)) rfl fun k hk=>by rw [em]; exact hm k hk]
 have wp0:WfP N (modI (getI (nodes.map (·.1)) one) one fun p=>⟨p.i,p.np + preds.length,p.su⟩):=wf_modI (f:=fun p=>⟨p.i,p.np + preds.length,p.su⟩) (fun _=>rfl) (wf_getI wf.p hi)
 have lp0:(modI (getI (nodes.map (·.1)) one) one fun p=>(⟨p.i,p.np + preds.length,p.su⟩:PN)).length≤101:=by
  rw [len_modI]
  refine Ye len_getI ?_
  rw [Yp]; lia
 generalize hp0:(modI (getI (nodes.map (·.1)) one) one fun p=>(⟨p.i,p.np + preds.length,p.su⟩:PN))=ps0 at start wp0 lp0
 refine s_forI (Itr.tuple rm'.1 h6.objs.size h.objs.size (preds.map nv)) (fun k h'=>E2 fun l nodes'=>A8 (St H0 h (adr fr) ((srtF w nv ns CS CN x dx n2i nodes .none po nf).map (·.1)) (h.push { cls:=.type "tuple",data:=.seq (preds.map nv).toArray }).objs.size l (srtF w nv ns CS CN x dx n2i nodes' .none po nf++[(h6.objs.size,TIterP h.objs.size k),(h.objs.size,TupP (preds.map nv))]) h') (nodes'.map (·.1)=(preds.take k).foldl (fun ps q=>modI (getI ps q) q fun p=>⟨p.i,p.np,p.su++[one]⟩) ps0) (Wf N nodes') (nodes'.length≤101 + k) (SuB (1000 + k) (nodes'.map (·.1))) ((∀ b∈(srtF w nv ns CS CN x dx n2i nodes .none po nf).map (·.1),b∈(srtF w nv ns CS CN x dx n2i nodes' .none po nf).map (·.1))) (l.lookup ("self" : Str)=some (.ref x)) (l.lookup ("node" : Str)=some (nv one))) (fun k h' j=>?_) (fun k v h' t' h'' hk hv j hit sb=>?_) (fun h' t' h'' j sb=>?_) ?_
 ·obtain ⟨l,nodes',H',_⟩:=j
  exact ⟨H'.has _ (Ys _ Yc),H'.has _ (Ys _ (Yb _ Yc))⟩
 ·obtain ⟨l,nodes',H',e,wf',len',su',sub',m1,m2⟩:=j
  have hk':k < preds.length:=by simpa using hk
  have hv':nv preds[k]=v:=by simpa [Zc,Yj hk'] using hv
  have H8:=H'.updM sb hit
  refine Zl (s_st H8 fun h9 t9 H9=>?_)
  have hq:=hp _ (List.getElem_mem hk')
  refine Yh (Yq ?_)
  obtain ⟨u1,u2,D9⟩:=SDP.at' (H9.at (i:=1) rfl)
  rw [← hv'] at H9
  refine s_meth1 V.sk.k (V.X0.keeps H9.low) MG hfG (H9.at (i:=0) rfl) D9 rfl (fun Q q=>s_ld H9 q (hv:=m1)) (s_ld H9 ⟨H9.low,?_⟩)
  refine getnode_call (n:=n + 1) (rm'.le (by exact Zf _)) hF H9.al V.bs H9.low hfG V.X0 V.nk V.hkp V.sk V.hCN V.nm hq wf' (by lia) H9.lump fun h10 t10 nodes2 m' S2 e2 f2=>?_
  refine s_st (H9.step S2) fun h11 t11 H11=>?_
  obtain ⟨em',l1',l2',rfl,hm'⟩:=find_split f2
  refine Yh (wpAny_Expr_any (wpAny_Call_append (by rfl) (by rfl) (by rfl) (by rfl) (Attribute_any_ (s_ld H11 (s_suGet V.nk V.X0 H11 fun t12=>⟨_,_,rfl,H11.su.plainL,s_ld H11 ?_ (hv:=m2)⟩)))))
  have suB:SuB (1000 + k) ((l1'++m'::l2').map (·.1)):=by rw [e2]; exact su_getI su'
  have suL:m'.1.su.length≤1000 + k:=suB _ (Yx.mpr ⟨m',Ys _ Yc,rfl⟩)
  refine wpAny_list_append_plain H11.su.plain (fun h12 pl sb2=>?_) (by simp only [List.size_toArray,Yp]; rw [sizeLine_eq]; lia)
  have H12:=H11.suSet (su':=m'.1.su++[one]) (fun b o hb e=>(sb2.2 b hb).trans e) (by rw [Yt]; exact isPlain (by simpa using pl))
  have fin:(l1'++(⟨m'.1.i,m'.1.np,m'.1.su++[one]⟩,m'.2)::l2':Nodes).map (·.1)=modI (getI (nodes'.map (·.1)) preds[k]) preds[k] fun p=>⟨p.i,p.np,p.su++[one]⟩:=by
   rw [← e2,← em',modI_mid (n':=(⟨m'.1.i,m'.1.np,m'.1.su++[one]⟩,m'.2)) rfl fun k hk=>by rw [em']; exact hm' k hk]
  refine Ym ⟨h12,_,rfl,_,_,H12,?_,?_,?_,?_,?_,m1,m2⟩
  ·rw [fin,e,List.take_add_one,Yj hk',Option.toList_some,List.foldl_append]; rfl
  ·exact Wf.of fin (wf_modI (f:=fun p=>⟨p.i,p.np,p.su++[one]⟩) (fun _=>rfl) (wf_getI wf'.p hq))
  ·rw [len_nodes fin,len_modI]
   refine Ye len_getI ?_
   rw [Yp]; lia
  ·rw [fin]
   exact su_modI (c:=1) (f:=fun p=>⟨p.i,p.np,p.su++[one]⟩) (fun p=>by simp) (su_getI su')
  ·intro b hb
   rw [srt_adr (nodes':=l1'++m'::l2') (rdv':=.none) (po':=po) (nf':=nf) (by simp)]
   exact S2.sub b (sub' b hb)
 ·obtain ⟨l,nodes',H',e,_,_,_,sub',_⟩:=j
  rw [Yp,List.take_of_length_le (Zf _)] at e
  have H8:=H'.dropM (H6.notOld (Yy (Zf _))) sb
  refine Ym ?_
  exact hR h'' t' nodes' (H8.toStep sub') (by rw [e,← hp0]; rfl)
 ·refine ⟨_,_,H7.perm (G:=srtF w nv ns CS CN x dx n2i (l1++(⟨m.1.i,m.1.np + preds.length,m.1.su⟩,m.2)::l2) .none po nf++[(h6.objs.size,TIterP h.objs.size 0),(h.objs.size,TupP (preds.map nv))]) List.perm_middle.symm,start,Wf.of start wp0,?_,?_,?_,by rfl,by rfl⟩
  ·rw [len_nodes start]; exact lp0
  ·rw [start,← hp0]
   exact su_modI (c:=0) (f:=fun p=>⟨p.i,p.np + preds.length,p.su⟩) (fun p=>by simp) (su_getI hsu)
  ·intro b hb
   rw [srt_adr (nodes':=l1++m::l2) (rdv':=.none) (po':=po) (nf':=nf) (by simp)]
   exact S1.sub b hb)
end zp0
end add_call
section
variable {A:Around} {B:Heap} {fa X X':List Addr} {L:Addr} {fr:List Env} {g:Array GenState} {K:Frag} {CS CN:Addr} {nv:Nat→Value} {N:Nat} {E:Value→Shared→Prop} {env:Env} {dx:Addr} {name qual:Str} {cd pm:Value} {R:Result→Shared→Prop} {Q:Value→Shared→Prop} {pos:Pos} {e:Expr} {nodes:Nodes} {kvs:List (Str×Value)} {m:PN×Ad} {rdv:Value} {expr:Bool} {po:Int} {t0:Tok} {dt n2i:Addr} {nf:Int} {a f:Addr} {F:Fs} {n:Nat} {l:List (Str×Value)} {i:Nat} {xs:List Value} {v:Value} {s:Shared} {h:Heap} {t:Nat}
theorem add_call:add_call_S:=@Wr.out _ add_call.zp0.zq
theorem bTI {g} {t} (hd:Is h dt (TupP [.none])) (Q:List (Str×Value)→Shared→Prop) (E:Value→Shared→Prop)
 (hq:Q [("self",v),("graph",.none)] (sh g t h)):wpAny (model P w) A (bindArgs (mdF 12 0 name qual cd pm (.ref dt)) ⟨[v],[]⟩) Q E (sh g t h):=by
 obtain ⟨o,ho,n,rfl⟩:=hd
 exact wl1 ho hq (by kernel_rfl)
theorem s_dict0 {F l} (H:St H0 B fa X L l F h)
  (k:∀ h',St H0 B fa X L l ((h.objs.size,DictP w [])::F) h'→Q (.ref h.objs.size) (sh g t h')):wpAny (model P w) A (eval (.Dict [] [] pos) env) Q E (sh g t h):=by
 rw [eval_Dict_empty]
 refine Yd (wpAny_standAt (wpAny_newObj_type (k _ (H.push { cls:=.type "dict",data:=.dict #[] } ?_)) (Zs _)))
 obtain ⟨o,ho,r⟩:=isDict (Heap.DictOf.new h)
 rw [Heap.get?_push_size _ rfl] at ho
 injection ho with ho
 subst ho
 exact r
theorem sorter_new {nv ns F l} {fI:Addr} {n}
  (rm:Rm A (n + 4)) (hfr:Frs A (env::fr)) (he:env.frame=some env.locals) (bs:Bs H0 mg mb) (X0:K.In H0) (sk:SorterK K CS) (hm:makesIn K CS=true) (MI:MethK K CS "__init__" fI) (hf:Fn H0 fI (mdF 12 0 name qual cd pm (.ref dt))) (hdt:Is H0 dt (TupP [.none])) (H:St H0 B (adr fr) X' env.locals l F h)
  (q:∀ x dx n2i h' t',St H0 B (adr fr) X' env.locals l (srtF w nv ns CS CN x dx n2i [] .none 0 0++F) h'→Q (.ref x) (sh g t' h')) :
  wpAny (model P w) A (call (.ref CS) []) Q E (sh g t h):=by
 have ea:adr (env::fr)=env.locals::adr fr:=by show List.filterMap _ _=_; rw [List.filterMap_cons,he]
 refine s_make H (X0.keeps H.low) hm MI fun x dx h' n1 n2 H'=>?_
 have lump:Lump H0 (adr (env::fr)) h' [(x,InP CS dx #[]),(dx,AtP [])]:=by rw [ea]; exact St.lump (G:=[(x,InP CS dx #[]),(dx,AtP [])]) H'
 refine s_enterW bs H'.low hf (hfr.under CS [] []) (by rw [ea]; exact H'.al) (rm.under CS [] []).room rfl (fun Q E q=>bTI (hdt.at fun o e=>H'.low _ _ e) Q E q) fun h1 t1 H1 hF=>?_
 have H2:=H1.own lump
 refine Yh (Yl (s_dict0 H2 fun h3 H3=>?_))
 refine s_ld H3 (i_set sk.k (X0.keeps H3.low) (taker_none sk.a1) (H3.at (i:=1) rfl) (H3.at (i:=2) rfl) (Yw (by rfl)) fun h4 t4 i4 k4=>?_)
 have H4:=H3.upd 2 rfl k4 (p':=AtP [("_node2info",.ref h1.objs.size)]) i4
 refine Yh (Yl (Zg ?_))
 refine s_ld H4 (i_set sk.k (X0.keeps H4.low) (taker_none sk.a2) (H4.at (i:=1) rfl) (H4.at (i:=2) rfl) (Yw (by rfl)) fun h5 t5 i5 k5=>?_)
 have H5:=H4.upd 2 rfl k5 (p':=AtP [("_node2info",.ref h1.objs.size),("_ready_nodes",.none)]) i5
 refine Yh (Yl (wpAny_Constant_int ?_))
 refine s_ld H5 (i_set sk.k (X0.keeps H5.low) (taker_none sk.a3) (H5.at (i:=1) rfl) (H5.at (i:=2) rfl) (Yw (by rfl)) fun h6 t6 i6 k6=>?_)
 have H6:=H5.upd 2 rfl k6 (p':=AtP [("_node2info",.ref h1.objs.size),("_ready_nodes",.none),("_npassedout",.int 0 t5)]) i6
 refine Yh (Yl (wpAny_Constant_int ?_))
 refine s_ld H6 (i_set sk.k (X0.keeps H6.low) (taker_none sk.a4) (H6.at (i:=1) rfl) (H6.at (i:=2) rfl) (Yw (by rfl)) fun h7 t7 i7 k7=>?_)
 have H7:=H6.upd 2 rfl k7 (p':=SDP h1.objs.size .none 0 0) (i7.mono fun o q=>⟨_,_,q⟩)
 refine Yh (Zh (Yg (s_ld H7 (Zg (isNot_none (Yi ?_))))))
 rw [if_neg (by decide)]
 refine Ym (Ym ⟨rfl,?_⟩)
 have H8:=H7.perm (G:=srtF w nv ns CS CN x dx h1.objs.size [] .none 0 0++[]) (by
  show List.Perm [(h1.objs.size,DictP w []),(x,InP CS dx #[]),(dx,SDP h1.objs.size .none 0 0)] [(x,InP CS dx #[]),(dx,SDP h1.objs.size .none 0 0),(h1.objs.size,DictP w [])]
  exact (List.Perm.swap _ _ _).trans ((List.Perm.swap _ _ _).cons _))
 have S:=H8.toStep (G:=[(x,InP CS dx #[]),(dx,AtP [])]) (by intro b hb; simp at hb; simp [srtF,hb]; rcases hb with q | q<;>simp [q])
 rw [ea] at S
 exact q _ _ _ _ _ (St.step (G:=[(x,InP CS dx #[]),(dx,AtP [])]) H' S)
section
variable {ns:Nat→Str} {x:Addr} {R:Fs}
theorem s_dat {k:Str} {key:Value} (D:Is h a (DictP w kvs)) (hk:(SK w).is k key=true) (hv:valueAt kvs k=some v) (q:∀ t',Q v (sh g t' h)) :
  SubscriptOn (model P w) A (.ref a) key Q E (sh g t h) :=
 ⟨"dict",_,PySem.F.slot_dict_getitem.lookup,D.dict.typeIs,wpAny_getItem_of (knd:=SK w) hk D.dict.mapOf hv (q _)⟩
theorem s_poSet {k:Int} {Q:Unit→Shared→Prop} (sk:SorterK K CS) (X0:K.In H0) (H:St H0 B fa X' L l (srtF w nv ns CS CN x dx n2i nodes rdv po nf++R) h)
  (q:∀ h' t',St H0 B fa X' L l (srtF w nv ns CS CN x dx n2i nodes rdv k nf++R) h'→Q () (sh g t' h')):wpAny (model P w) A (setAttr (.ref x) "_npassedout" (.int k t0)) Q E (sh g t h):=by
 obtain ⟨u1,u2,D⟩:=SDP.at' (H.at (i:=1) rfl)
 refine i_set sk.k (X0.keeps H.low) (taker_none sk.a3) (H.at (i:=0) rfl) D (Yw (by rfl)) fun h' t' i' k'=>q h' t' ?_
 exact H.upd 1 rfl k' (p':=SDP n2i rdv k nf) (i'.mono fun o q=>⟨_,_,q⟩)
theorem s_nfSet {k:Int} {Q:Unit→Shared→Prop} (sk:SorterK K CS) (X0:K.In H0) (H:St H0 B fa X' L l (srtF w nv ns CS CN x dx n2i nodes rdv po nf++R) h)
  (q:∀ h' t',St H0 B fa X' L l (srtF w nv ns CS CN x dx n2i nodes rdv po k++R) h'→Q () (sh g t' h')):wpAny (model P w) A (setAttr (.ref x) "_nfinished" (.int k t0)) Q E (sh g t h):=by
 obtain ⟨u1,u2,D⟩:=SDP.at' (H.at (i:=1) rfl)
 refine i_set sk.k (X0.keeps H.low) (taker_none sk.a4) (H.at (i:=0) rfl) D (Yw (by rfl)) fun h' t' i' k'=>q h' t' ?_
 exact H.upd 1 rfl k' (p':=SDP n2i rdv po k) (i'.mono fun o q=>⟨_,_,q⟩)
theorem s_rdSet {rv:Value} {Q:Unit→Shared→Prop} (sk:SorterK K CS) (X0:K.In H0) (H:St H0 B fa X' L l (srtF w nv ns CS CN x dx n2i nodes rdv po nf++R) h)
  (q:∀ h' t',St H0 B fa X' L l (srtF w nv ns CS CN x dx n2i nodes rv po nf++R) h'→Q () (sh g t' h')):wpAny (model P w) A (setAttr (.ref x) "_ready_nodes" rv) Q E (sh g t h):=by
 obtain ⟨u1,u2,D⟩:=SDP.at' (H.at (i:=1) rfl)
 refine i_set sk.k (X0.keeps H.low) (taker_none sk.a2) (H.at (i:=0) rfl) D (Yw (by rfl)) fun h' t' i' k'=>q h' t' ?_
 exact H.upd 1 rfl k' (p':=SDP n2i rv po nf) (i'.mono fun o q=>⟨_,_,q⟩)
theorem s_rd (sk:SorterK K CS) (X:K.In h) (I:Is h x (InP CS dx #[])) (D:Is h dx (SDP n2i rdv po nf)) (hh:handedIn rdv=true) (e1:Ev w A E env e (.ref x) (sh g t h)) (q:∀ t',Q rdv (sh g t' h))
  (he:autoParam (eval (.Attribute e "_ready_nodes" pos) env=(do
   let o ← eval e env
   standAt pos.atName
   let r ← holding [o] (getAttr o "_ready_nodes" true)
   letTemporaryGo e o r
   pure r)) tU):wpAny (model P w) A (eval (.Attribute e "_ready_nodes" pos) env) Q E (sh g t h):=by
 obtain ⟨t1,t2,D⟩:=SDP.at' D
 exact s_attr sk.k X sk.a2 I D e1 rfl hh q he
theorem s_poGet (sk:SorterK K CS) (X:K.In h) (I:Is h x (InP CS dx #[])) (D:Is h dx (SDP n2i rdv po nf)) (q:∀ t0 t',Q (.int po t0) (sh g t' h)):wpAny (model P w) A (getAttr (.ref x) "_npassedout" expr) Q E (sh g t h):=by
 obtain ⟨t1,t2,D⟩:=SDP.at' D
 exact i_get sk.k X sk.a3 I D rfl rfl (q t1)
theorem s_nfGet (sk:SorterK K CS) (X:K.In h) (I:Is h x (InP CS dx #[])) (D:Is h dx (SDP n2i rdv po nf)) (q:∀ t0 t',Q (.int nf t0) (sh g t' h)):wpAny (model P w) A (getAttr (.ref x) "_nfinished" expr) Q E (sh g t h):=by
 obtain ⟨t1,t2,D⟩:=SDP.at' D
 exact i_get sk.k X sk.a4 I D rfl rfl (q t2)
end
theorem find_of (h:(nodes.map (·.1)).any (fun p=>p.i == i)=true):∃ m,nodes.find? (fun n=>n.1.i == i)=some m:=by
 rw [List.any_map] at h
 cases q:nodes.find? (fun n=>n.1.i == i) with
 | some m=>exact ⟨m,rfl⟩
 | none =>
  obtain ⟨n,hn,e⟩:=List.any_eq_true.mp h
  exact absurd e (List.find?_eq_none.mp q n hn)
theorem any_modI {f:PN→PN} (hf:∀ p,(f p).i=p.i) (j:Nat):∀ {ps:List PN} {i:Nat},(modI ps i f).any (fun p=>p.i == j)=ps.any (fun p=>p.i == j)
 | [],_=>rfl
 | p::ps,i=>by
  unfold modI
  split
  ·rw [List.any_cons,List.any_cons,hf]
  ·rw [List.any_cons,List.any_cons,any_modI hf j]
theorem map_i_modI {f:PN→PN} (hf:∀ p,(f p).i=p.i):∀ {ps:List PN} {i:Nat},(modI ps i f).map (·.i)=ps.map (·.i)
 | [],_=>rfl
 | p::ps,i=>by
  unfold modI
  split
  ·rw [Zq,Zq,hf]
  ·rw [Zq,Zq,map_i_modI hf]
theorem val_of {ns:Nat→Str} (nm:Nm nv ns N) (wf:Wf N nodes) (hi:i < N) (h:nodes.find? (fun n=>n.1.i == i)=some m):valueAt (kvsOf ns nodes) (ns i)=some (.ref m.2.1):=by rw [find_kvs nm wf hi,h]; rfl
theorem kvs_len {ns:Nat→Str}:(kvsOf ns nodes).length=nodes.length:=by unfold kvsOf; rw [Yp]
noncomputable def readyP (ps:List PN) (ready:List Nat):List PN:=ready.foldl (fun ps q=>modI ps q fun p=>⟨p.i,-1,p.su⟩) ps
theorem bGR (name qual:Str) (cd pm v:Value):bindArgs (mdF 12 4 name qual cd pm .none) ⟨[v],[]⟩=pure [(("self" : Str),v)]:=by rfl
theorem bIA (name qual:Str) (cd pm v:Value):bindArgs (mdF 12 5 name qual cd pm .none) ⟨[v],[]⟩=pure [(("self" : Str),v)]:=by rfl
theorem meets_bool_new_list (a:Addr) (items:Array Value) (hf:(items.size:Int) < 2 ^ 63) :
  Meets (Builtin.«bool.__new__» ⟨[.type "bool",.ref a],[]⟩) (fun _ R s=>s.heap.IsList a items∧R (.ok (.ret (.bool (!items.isEmpty)))) { s with toks:=s.toks + 1 + 1 }) :=
 Meets.of_wp fun prog w A R s hs=>by
  obtain ⟨hp,g,d,tk,os⟩:=s
  obtain ⟨hl,hs⟩:=hs
  have f1:=PySem.F.conv_sub_bool
  repeat (any_goals (first | assumption | ((with_reducible show wpAny _ _ (truthy (Value.ref _)) _ _ _); refine wpAny_truthy_list hl hf ?_) | wp_step))
  all_goals first | exact ⟨_,rfl,hs⟩ | skip
theorem s_boolList (ha:Is h a (ListP xs)) (hz:xs.length≤100000) (q:∀ t',Q (.bool (!xs.isEmpty)) (sh g t' h)) :
  wpAny (model P w) A (call (.type "bool") [.ref a]) Q E (sh g t h):=by
 have e:(!xs.toArray.isEmpty) = !xs.isEmpty:=by simp
 refine call_bool_1 (meets_bool_new_list a xs.toArray (by simp only [List.size_toArray]; lia)) ⟨ha.list,?_⟩
 rw [e]
 exact ⟨rfl,q _⟩
theorem s_or {x y:Expr}
  (h:wpAny (model P w) A (eval x env) (fun v s1=>wpAny (model P w) A (truthy v) (fun t s2=>if t then Q v s2 else wpAny (model P w) A (eval y env) Q E s2) E s1) E s) :
  wpAny (model P w) A (eval (.BoolOp .Or [x,y] pos) env) Q E s:=wpAny_Or2 h
structure SrtEnv2 (K:Frag) (H0:Heap) (mg mb:Str→Option Value) (CN CS:Addr) (nv:Nat→Value) (ns:Nat→Str) (N:Nat):Prop extends SrtEnv K H0 mg mb CN CS nv ns N where
 b0:mg "bool" = none
 b1:mb "bool" = some (.type "bool")
 t0:mg "tuple" = none
 t1:mb "tuple" = some (.type "tuple")
 out:∃ t,mg "_NODE_OUT" = some (.int (-1) t)
 dn:∃ t,mg "_NODE_DONE" = some (.int (-2) t)
theorem isact_call {g} {ns:Nat→Str} {x:Addr} {t} {rd:Addr} {rl:List Nat}
  (rm:Rm A (n + 3)) (hfr:Frs A fr) (al:Alive H0 (adr fr) h) (low:∀ a o,H0.get? a=some o→h.get? a=some o) (hf:Fn H0 f (mdF 12 5 name qual cd pm .none))
  (V:SrtEnv2 K H0 mg mb CN CS nv ns N) (hz:rl.length≤1000)
  (M:Lump H0 (adr fr) h (srtF w nv ns CS CN x dx n2i nodes (.ref rd) po nf++[(rd,ListP (rl.map nv))]))
  (hR:∀ h' t',Kp (adr fr) [] h h'→R (.ok (.ret (.bool (decide (nf < po) || !rl.isEmpty)))) (sh g t' h')) :
  codeAny (model P w) A (.call (.ref f) ⟨[.ref x],[]⟩) R (sh g t h):=by
 refine s_enter V.bs low hf hfr al rm.room rfl (bIA _ _ _ _ _) fun h1 t₁ H hF=>?_
 have ob:∀ y∈(srtF w nv ns CS CN x dx n2i nodes (.ref rd) po nf++[(rd,ListP (rl.map nv))]),Is h1 y.1 y.2:=fun y hy=>H.old ⟨M.has y hy,M.nf y hy⟩
 have oX:Is h1 x (InP CS dx #[]):=ob _ (Zr _ Yc)
 have oD:Is h1 dx (SDP n2i (.ref rd) po nf):=ob _ (Zr _ (Yb _ Yc))
 have oR:Is h1 rd (ListP (rl.map nv)):=ob _ (Ys _ Yc)
 refine Yh (Zh (Yg ?_))
 refine s_rd V.sk (V.X0.keeps H.low) oX oD rfl (fun Q q=>s_ld H q) fun t2=>Zg (is_none (Yi ?_))
 rw [if_neg (by simp)]
 refine Ym (Yh (Zd (s_or (wpAny_Compare1 ?_))))
 refine Attribute_any_ (s_ld H (s_nfGet V.sk (V.X0.keeps H.low) oX oD fun t0 t3=>?_))
 refine Attribute_any_ (s_ld H (s_poGet V.sk (V.X0.keeps H.low) oX oD fun t0 t3=>?_))
 refine PySem.P.lt_int (Yi ?_)
 cases hq:decide (nf < po) with
 | true =>
  rw [if_pos rfl]
  have:=hR h1 t3 H.kp
  rw [hq] at this
  exact this
 | false =>
  rw [if_neg Yk]
  refine s_type1 V.bs H.low V.b0 V.b1 ?_
  refine s_rd V.sk (V.X0.keeps H.low) oX oD rfl (fun Q q=>s_ld H q) fun t4=>?_
  refine s_boolList oR (by simp; exact Ye hz (by decide)) fun t5=>?_
  have:=hR h1 t5 H.kp
  rw [hq,Bool.false_or] at this
  have e:(List.map nv rl).isEmpty=rl.isEmpty:=by cases rl<;>rfl
  rw [e]
  exact this
theorem wf_readyP {N:Nat}:∀ {ready:List Nat} {ps:List PN},WfP N ps→WfP N (readyP ps ready)
 | [],_,h=>h
 | q::r,_,h=>wf_readyP (ready:=r) (wf_modI (f:=fun p=>⟨p.i,-1,p.su⟩) (fun _=>rfl) h)
theorem any_readyP (j:Nat):∀ {ready:List Nat} {ps:List PN},(readyP ps ready).any (fun p=>p.i == j)=ps.any (fun p=>p.i == j)
 | [],_=>rfl
 | q::r,ps=>(any_readyP j (ready:=r)).trans (any_modI (f:=fun p=>⟨p.i,-1,p.su⟩) (fun _=>rfl) j)
noncomputable def getready_call_S:Prop:=∀ {A:Around} {fr:List Env} {g} {K:Frag} {CS CN:Addr} {nv:Nat→Value} {ns:Nat→Str} {N:Nat} {x dx:Addr} {R:Result→Shared→Prop} {h:Heap} {t} {f:Addr} {name qual:Str} {cd pm:Value} {n2i rd:Addr} {n:Nat} {rl:List Nat} {nodes:Nodes} {po nf:Int} (rm:Rm A (n + 3)) (hfr:Frs A fr) (al:Alive H0 (adr fr) h) (low:∀ a o,H0.get? a=some o→h.get? a=some o) (hf:Fn H0 f (mdF 12 4 name qual cd pm .none)) (V:SrtEnv2 K H0 mg mb CN CS nv ns N) (hz:rl.length≤1000) (wf:Wf N nodes) (hr:∀ q∈rl,q < N∧(nodes.map (·.1)).any (fun p=>p.i == q)=true) (M:Lump H0 (adr fr) h (srtF w nv ns CS CN x dx n2i nodes (.ref rd) po nf++[(rd,ListP (rl.map nv))])) (hR:∀ h' t' tup nodes',Step (adr fr) h (srtF w nv ns CS CN x dx n2i nodes (.ref rd) po nf++[(rd,ListP (rl.map nv))]) h' (srtF w nv ns CS CN x dx n2i nodes' (.ref rd) (po + rl.length) nf++[(rd,ListP (([]:List Nat).map nv)),(tup,TupP (rl.map nv))]) →
   nodes'.map (·.1)=readyP (nodes.map (·.1)) rl→R (.ok (.ret (.ref tup))) (sh g t' h')),codeAny (model P w) A (.call (.ref f) ⟨[.ref x],[]⟩) R (sh g t h)
end
namespace getready_call
def zq0:=fun zk0=>(by
 intro A fr g K CS CN nv ns N x dx R h t f name qual cd pm n2i rd n rl nodes po nf rm hfr al low hf V hz wf hr M hR
 refine s_enter V.bs low hf hfr al rm.room rfl (bGR _ _ _ _ _) fun h1 t₁ H1 hF=>?_
 have rm':=rm.deeper (envF (mdF 12 4 name qual cd pm .none) h.objs.size f)
 have H2:=H1.own M
 rw [List.append_assoc] at H2
 obtain ⟨tO,eO⟩:=V.out
 revert rm hfr al low hf V hz wf hr M hR H1 hF rm' H2 eO
 have zd0:Nat:=0
 have zd1:Nat:=0
 have zd2:Nat:=0
 have zd3:Nat:=0
 have zd4:Nat:=0
 have zd5:Nat:=0
 revert A fr g K CS CN nv ns N x dx R h f name qual cd pm n2i rd n rl nodes po nf h1 t₁ tO zd0 zd1 zd2 zd3 zd4 zd5
 exact zk0:getready_call_S)
namespace zp0
@[irreducible] def zc:=pick34 zq0 (by (repeat any_goals apply np)<;>first | exact neW | exact neA | exact neD | exact neS | infer_instance | exact ⟨by constructor<;>exact default⟩)
def A:=zc.1.1
def fr:=zc.1.2.1
def g:=zc.1.2.2.1
def K:=zc.1.2.2.2.1
def CS:=zc.1.2.2.2.2.1
def CN:=zc.1.2.2.2.2.2.1
def nv:=zc.1.2.2.2.2.2.2
def ns:=zc.2.1.1
def N:=zc.2.1.2.1
def x:=zc.2.1.2.2.1
def dx:=zc.2.1.2.2.2.1
def R:=zc.2.1.2.2.2.2.1
def h:=zc.2.1.2.2.2.2.2.1
def f:=zc.2.1.2.2.2.2.2.2
def name:=zc.2.2.1.1
def qual:=zc.2.2.1.2.1
def cd:=zc.2.2.1.2.2.1
def pm:=zc.2.2.1.2.2.2.1
def n2i:=zc.2.2.1.2.2.2.2.1
def rd:=zc.2.2.1.2.2.2.2.2.1
def n:=zc.2.2.1.2.2.2.2.2.2
def rl:=zc.2.2.2.1.1
def nodes:=zc.2.2.2.1.2.1
def po:=zc.2.2.2.1.2.2.1
def nf:=zc.2.2.2.1.2.2.2.1
def h1:=zc.2.2.2.1.2.2.2.2.1
def t₁:=zc.2.2.2.1.2.2.2.2.2.1
def tO:=zc.2.2.2.1.2.2.2.2.2.2
def zd0:=zc.2.2.2.2.1
def zd1:=zc.2.2.2.2.2.1
def zd2:=zc.2.2.2.2.2.2.1
def zd3:=zc.2.2.2.2.2.2.2.1
def zd4:=zc.2.2.2.2.2.2.2.2.1
def zd5:=zc.2.2.2.2.2.2.2.2.2
def zq :=
 all34 zq0 A fr g K CS CN nv ns N x dx R h f name qual cd pm n2i rd n rl nodes po nf h1 t₁ tO zd0 zd1 zd2 zd3 zd4 zd5 (by with_unfolding_all rfl) (by
 intro rm hfr al low hf V hz wf hr M hR H1 hF rm' H2 eO
 refine Yh (Zh (Yg ?_))
 refine s_rd V.sk (V.X0.keeps H2.low) (H2.at (i:=0) rfl) (H2.at (i:=1) rfl) rfl (fun Q q=>s_ld H2 q) fun t2=>Zg (is_none (Yi ?_))
 rw [if_neg (by simp)]
 refine Ym (Yh (Yq ?_))
 refine s_type1 V.bs H2.low V.t0 V.t1 ?_
 refine s_rd V.sk (V.X0.keeps H2.low) (H2.at (i:=0) rfl) (H2.at (i:=1) rfl) rfl (fun Q q=>s_ld H2 q) fun t3=>?_
 have oR:Is h1 rd (ListP (rl.map nv)):=H2.has _ (Ys _ Yc)
 refine call_tuple_list oR.list (fun h3 k3=>?_) (by simp only [List.size_toArray,Yp]; exact Ye hz (by decide))
 have H3:=(H2.same k3).push { cls:=.type "tuple",data:=.seq (rl.map nv).toArray } (p:=TupP (rl.map nv)) ⟨0,rfl⟩
 have H3':=H3.perm (G:=srtF w nv ns CS CN x dx n2i nodes (.ref rd) po nf++[(h3.objs.size,TupP (rl.map nv)),(rd,ListP (rl.map nv))]) List.perm_middle.symm
 generalize h3.objs.size=tup at H3'
 refine s_st H3' fun h4 t4 H4=>?_
 refine Yh (Yq ?_)
 refine s_n2i V.sk (V.X0.keeps H4.low) (H4.at (i:=0) rfl) (H4.at (i:=1) rfl) (fun Q q=>s_ld H4 q) fun t5=>?_
 refine s_st H4 fun h5 t5 H5=>?_
 refine Yh (wpAny_For (s_ld H5 ?_))
 have iT:Is h5 tup (TupP (rl.map nv)):=H5.has _ (Ys _ Yc)
 refine wpAny_pyIter_tuple iT.tup ?_
 have H6:=H5.push { cls:=.type "tuple_iterator",data:=.fields #[.ref tup,.int 0 0] } (p:=TIterP tup 0) ⟨rfl,rfl⟩
 refine s_forI (Itr.tuple rm'.1 h5.objs.size tup (rl.map nv)) (fun k h'=>E2 fun l nodes'=>A6 (St H0 h (adr fr) ((srtF w nv ns CS CN x dx n2i nodes (.ref rd) po nf++[(rd,ListP (rl.map nv))]).map (·.1)) h.objs.size l (srtF w nv ns CS CN x dx n2i nodes' (.ref rd) po nf++[(h5.objs.size,TIterP tup k),(tup,TupP (rl.map nv)),(rd,ListP (rl.map nv))]) h') (nodes'.map (·.1)=readyP (nodes.map (·.1)) (rl.take k)) (nodes'.map (·.2)=nodes.map (·.2)) (l.lookup ("self" : Str)=some (.ref x)) (l.lookup ("n2i" : Str)=some (.ref n2i)) (l.lookup ("result" : Str)=some (.ref tup))) (fun k h' j=>?_) (fun k v h' t' h'' hk hv j hit sb=>?_) (fun h' t' h'' j sb=>?_) ?_
 ·obtain ⟨l,nodes',H',_⟩:=j
  exact ⟨H'.has _ (Ys _ Yc),H'.has _ (Ys _ (Yb _ Yc))⟩
 ·obtain ⟨l,nodes',H',e,e2,m1,m2,m3⟩:=j
  have hk':k < rl.length:=by simpa using hk
  have hv':nv rl[k]=v:=by simpa [Zc,Yj hk'] using hv
  have H8:=H'.updM sb hit
  refine Zl (s_st H8 fun h9 t9 H9=>?_)
  obtain ⟨hq1,hq2⟩:=hr _ (List.getElem_mem hk')
  obtain ⟨m,hm⟩:=find_of (nodes:=nodes') (i:=rl[k]) (by rw [e,any_readyP]; exact hq2)
  have wf':Wf N nodes':=Wf.of e (wf_readyP wf.p)
  refine Yh (Yl (s_gname V.bs H9.low eO ?_))
  refine Zk (s_ld H9 (s_ld H9 (s_dat (H9.at (i:=2) rfl) (k:=ns rl[k]) (hv' ▸ V.nm.isK hq1) (val_of V.nm wf' hq1 hm) fun t10=>?_)) (hv:=m2))
  obtain ⟨em,l1,l2,rfl,hm'⟩:=find_split hm
  refine s_npSet V.nk V.X0 H9 fun h11 t11 H11=>?_
  refine Ym ⟨h11,_,rfl,_,_,H11,?_,?_,m1,m2,m3⟩
  ·rw [List.take_add_one,Yj hk',Option.toList_some]
   unfold readyP at e ⊢
   rw [List.foldl_append,← e]
   show _=modI _ rl[k] _
   rw [← em,modI_mid (n':=(⟨m.1.i,-1,m.1.su⟩,m.2)) rfl fun k hk=>by rw [em]; exact hm' k hk]
  ·rw [← e2]; simp
 ·obtain ⟨l,nodes',H',e,e2,m1,m2,m3⟩:=j
  rw [Yp,List.take_of_length_le (Zf _)] at e
  have H8:=H'.dropM (H5.notOld (Yy (Zf _))) sb
  refine Yh (wpAny_Expr_any ?_)
  have oR':Is h'' rd (ListP (rl.map nv)):=H8.has _ (Ys _ (Yb _ Yc))
  refine wpAny_Call_method0_late (by rfl) (by rfl) (s_rd V.sk (V.X0.keeps H8.low) (H8.at (i:=0) rfl) (H8.at (i:=1) rfl) rfl (fun Q q=>s_ld H8 q (hv:=m1)) fun t9=>⟨"list", "list.clear",F.plainAttrs_list,F.slot_list_clear,F.type_list_clear,oR'.list.typeIs,?_,?_⟩)
  ·rintro a ⟨⟩
   obtain ⟨o,ho,_,rfl⟩:=oR'
   exact ⟨_,ho,rfl⟩
  obtain ⟨o,ho,nt,rfl⟩:=oR'
  refine P.clear_list ho ?_ (by simp only [List.size_toArray,Yp]; exact Ye hz (by decide))
  have H9:St H0 h (adr fr) ((srtF w nv ns CS CN x dx n2i nodes (.ref rd) po nf++[(rd,ListP (rl.map nv))]).map (·.1)) h.objs.size l (srtF w nv ns CS CN x dx n2i nodes' (.ref rd) po nf++[(tup,TupP (rl.map nv)),(rd,ListP (([]:List Nat).map nv))]) (h''.update rd (Obj.mapSeq fun _=>#[])):=by
   have z:=St.updM (F1:=srtF w nv ns CS CN x dx n2i nodes' (.ref rd) po nf++[(tup,TupP (rl.map nv))]) (F2:=[]) (a:=rd) (p':=ListP (([]:List Nat).map nv)) (H:=by rw [List.append_assoc]; exact H8) (fun b o hb e=>(Zm _ _ (Ne.symm hb)).trans e) (isPlain ⟨_,IsL.update ho (fun _=>#[])⟩)
   rwa [List.append_assoc] at z
  refine Yh (wpAny_AugAssign_AttributeAny (s_ld H9 (s_poGet V.sk (V.X0.keeps H9.low) (H9.at (i:=0) rfl) (H9.at (i:=1) rfl) fun u0 t10=>?_) (hv:=m1)))
  have iT':Is (h''.update rd (Obj.mapSeq fun _=>#[])) tup (TupP (rl.map nv)):=H9.has _ (Ys _ Yc)
  refine Zb (s_bname V.bs H9.low V.n0 V.n1 ?_)
  refine callWith_builtin rfl (Zx (Yz (s_ld H9 (Zn ?_) (hv:=m3))))
  refine len_tuple iT'.tup (by simp only [List.size_toArray,Yp]; lia) ?_
  refine PySem.AutoIntOps.iadd_0 ?_
  refine s_poSet V.sk V.X0 H9 fun h11 t11 H11=>?_
  refine Yh (Zd (s_ld H11 ?_ (hv:=m3)))
  have ek:((List.map nv rl).toArray.size:Int)=rl.length:=by simp
  rw [ek] at H11
  have H12:=H11.perm (G:=(srtF w nv ns CS CN x dx n2i nodes' (.ref rd) (po + rl.length) nf++[(rd,ListP (([]:List Nat).map nv)),(tup,TupP (rl.map nv))])++[]) (by rw [List.append_nil]; exact (List.Perm.swap _ _ _).append_left _)
  refine hR h11 _ tup nodes' (H12.toStep fun b hb=>?_) e
  rw [Yt,srt_adr (nodes':=nodes') (rdv':=.ref rd) (po':=po + rl.length) (nf':=nf) e2.symm] at hb
  rw [Yt]
  rcases Zz.mp hb with q | q
  ·exact Zr _ q
  ·refine Ys _ ?_
   simp at q
   simp [q]
 ·refine ⟨_,_,H6.perm (G:=srtF w nv ns CS CN x dx n2i nodes (.ref rd) po nf++[(h5.objs.size,TIterP tup 0),(tup,TupP (rl.map nv)),(rd,ListP (rl.map nv))]) List.perm_middle.symm,rfl,rfl,by rfl,by rfl,by rfl⟩)
end zp0
end getready_call
section
variable {A:Around} {CS CN:Addr} {nv:Nat→Value} {N:Nat} {dx:Addr} {name qual:Str} {cd pm:Value} {nodes l2:Nodes} {m:PN×Ad} {n2i:Addr} {rdv:Value} {nf:Int} {l1:Nodes} {po:Int} {h:Heap}
theorem getready_call:getready_call_S:=@Wr.out _ getready_call.zp0.zq
noncomputable def npOf (ps:List PN) (q:Nat):Option Int:=(ps.find? fun p=>p.i == q).map (·.np)
noncomputable def suOf (ps:List PN) (q:Nat):List Nat:=((ps.find? fun p=>p.i == q).map (·.su)).getD []
noncomputable def subD (s:List PN×List Nat) (q:Nat):List PN×List Nat :=
 let ps':=modI s.1 q fun p=>⟨p.i,p.np - 1,p.su⟩
 (ps',if npOf ps' q == some 0 then s.2++[q] else s.2)
noncomputable def done1 (s:List PN×List Nat) (j:Nat):List PN×List Nat:=(suOf s.1 j).foldl subD (modI s.1 j fun p=>⟨p.i,-2,p.su⟩,s.2)
noncomputable def okD:List PN×List Nat→List Nat→Bool
 | _,[]=>true
 | s,j::js=>npOf s.1 j == some (-1) && okD (done1 s j) js
noncomputable def shapeN (nodes:Nodes):List (Nat×List Nat×Ad):=nodes.map fun n=>(n.1.i,n.1.su,n.2)
noncomputable def InvS (N:Nat) (sh:List (Nat×List Nat×Ad)):Prop:=∀ p∈sh,p.1 < N∧p.2.1.length≤1000∧∀ q∈p.2.1,q < N∧sh.any (fun p=>p.1 == q)=true
theorem InvS.wf (h:InvS N (shapeN nodes)):Wf N nodes:=fun n hn=>(h _ (Yx.mpr ⟨n,hn,rfl⟩)).1
theorem shape_any {q:Nat}:(shapeN nodes).any (fun p=>p.1 == q)=(nodes.map (·.1)).any (fun p=>p.i == q):=by
 unfold shapeN
 rw [List.any_map,List.any_map]; rfl
theorem shape_mid {n:PN×Ad} (h1:n.1.i=m.1.i) (h2:n.1.su=m.1.su) (h3:n.2=m.2):shapeN (l1++n::l2)=shapeN (l1++m::l2):=by
 unfold shapeN
 simp only [Yt,Zq,h1,h2,h3]
theorem shape_adr {nodes':Nodes} (h:shapeN nodes=shapeN nodes'):nodes.map (·.2)=nodes'.map (·.2):=by
 have:=congrArg (List.map fun p:Nat×List Nat×Ad=>p.2.2) h
 unfold shapeN at this
 simpa [List.map_map,Function.comp_def] using this
theorem su_fact {ns:Nat→Str} {x:Addr} {nodes':Nodes} (h:shapeN nodes=shapeN nodes') (hm:m∈nodes):(m.2.2.2,ListP (m.1.su.map nv))∈srtF w nv ns CS CN x dx n2i nodes' rdv po nf:=by
 have:(m.1.i,m.1.su,m.2)∈shapeN nodes':=h ▸ Yx.mpr ⟨m,hm,rfl⟩
 obtain ⟨n,hn,e⟩:=Yx.mp this
 simp only [Prod.mk.injEq] at e
 obtain ⟨_,e2,e3⟩:=e
 refine Yb _ (Yb _ (Yb _ (List.mem_flatMap.mpr ⟨n,hn,?_⟩)))
 unfold ndF
 rw [e2,e3]
 exact Yb _ (Yb _ Yc)
theorem npOf_node {q:Nat} (h:nodes.find? (fun n=>n.1.i == q)=some m):npOf (nodes.map (·.1)) q=some m.1.np∧suOf (nodes.map (·.1)) q=m.1.su:=by
 unfold npOf suOf
 rw [List.find?_map]
 have:List.find? ((fun p:PN=>p.i == q) ∘ fun x:PN×Ad=>x.1) nodes=some m:=h
 rw [this]; exact ⟨rfl,rfl⟩
theorem find_mid {q:Nat} (e:m.1.i=q) (h:∀ k∈l1,k.1.i≠q):(l1++m::l2).find? (fun n=>n.1.i == q)=some m:=by
 rw [List.find?_append,List.find?_eq_none.mpr (fun k hk=>by simpa using h k hk),List.find?_cons,show (m.1.i == q)=true from beq_iff_eq.mpr e]; rfl
theorem bDone {g} {x:Value} {t} {rest:List Value} (hz:rest.length≤1000) (Q:List (Str×Value)→Shared→Prop) (E:Value→Shared→Prop)
 (hq:Q [("self",x),("nodes",.ref h.objs.size)] (sh g t (h.push { cls:=.type "tuple",data:=.seq rest.toArray }))):wpAny (model P w) A (bindArgs (mdF 12 7 name qual cd pm .none) ⟨x::rest,[]⟩) Q E (sh g t h):=by
 have e:bindArgs (mdF 12 7 name qual cd pm .none) ⟨x::rest,[]⟩=newTuple rest >>= fun tv=>pure [(("self" : Str),x),("nodes",tv)]:=by cases rest<;>kernel_rfl
 rw [e]
 exact Yd (wpAny_newObj_type (Yn hq) (by show rest.toArray.size≤sizeLine; rw [List.size_toArray]; exact Ye hz (by decide)))
noncomputable def doneP (s:List PN×List Nat) (js:List Nat):List PN×List Nat:=js.foldl done1 s
theorem okD_at:∀ {js:List Nat} {s:List PN×List Nat} {k:Nat} (hk:k < js.length),okD s js=true→npOf (doneP s (js.take k)).1 js[k]=some (-1)
 | [],_,_,hk,_=>absurd hk (Nat.not_lt_zero _)
 | j::js,s,0,_,h=>by
  unfold okD at h
  exact beq_iff_eq.mp (Bool.and_eq_true_iff.mp h).1
 | j::js,s,k + 1,hk,h=>by
  unfold okD at h
  exact okD_at (js:=js) (s:=done1 s j) (k:=k) (by simpa using hk) (Bool.and_eq_true_iff.mp h).2
noncomputable def done_call_S:Prop:=∀ {A:Around} {fr:List Env} {g} {K:Frag} {CS CN:Addr} {nv:Nat→Value} {ns:Nat→Str} {N:Nat} {x dx:Addr} {R:Result→Shared→Prop} {h:Heap} {t} {f:Addr} {name qual:Str} {cd pm:Value} {n2i rd:Addr} {n:Nat} {rl js:List Nat} {nodes:Nodes} {po nf:Int} (rm:Rm A (n + 3)) (hfr:Frs A fr) (al:Alive H0 (adr fr) h) (low:∀ a o,H0.get? a=some o→h.get? a=some o) (hf:Fn H0 f (mdF 12 7 name qual cd pm .none)) (V:SrtEnv2 K H0 mg mb CN CS nv ns N) (hz:js.length≤100) (hzr:rl.length≤10000) (inv:InvS N (shapeN nodes)) (hj:∀ j∈js,j < N) (ok:okD (nodes.map (·.1),rl) js=true) (M:Lump H0 (adr fr) h (srtF w nv ns CS CN x dx n2i nodes (.ref rd) po nf++[(rd,ListP (rl.map nv))])) (hR:∀ h' t' nodes',Step (adr fr) h (srtF w nv ns CS CN x dx n2i nodes (.ref rd) po nf++[(rd,ListP (rl.map nv))]) h' (srtF w nv ns CS CN x dx n2i nodes' (.ref rd) po (nf + js.length)++[(rd,ListP ((doneP (nodes.map (·.1),rl) js).2.map nv))]) →
   nodes'.map (·.1)=(doneP (nodes.map (·.1),rl) js).1→shapeN nodes'=shapeN nodes→R (.ok (.ret .none)) (sh g t' h')),codeAny (model P w) A (.call (.ref f) ⟨.ref x::js.map nv,[]⟩) R (sh g t h)
end
namespace done_call
def zq0:=fun zk0=>(by
 intro A fr g K CS CN nv ns N x dx R h t f name qual cd pm n2i rd n rl js nodes po nf rm hfr al low hf V hz hzr inv hj ok M hR
 have n1:h.get? h.objs.size=none:=Yy (Zf _)
 refine s_enterVQ V.bs low hf hfr al rm.room rfl (h':=h.push { cls:=.type "tuple",data:=.seq (js.map nv).toArray }) (a:=h.objs.size) (p:=TupP (js.map nv)) (fun _ _ e=>Yv _ e) n1 ⟨_,Heap.get?_push_size _ rfl,0,rfl⟩ (fun Q E q=>bDone (by simpa using Ye hz (by decide)) Q E q) fun env A' h1 t1 QQ EE ee hA qr qn H1 hF=>?_
 have rm':Rm A' (n + 2):=hA ▸ rm.deeper env
 clear hA
 subst ee
 generalize eL:(h.push { cls:=.type "tuple",data:=.seq (js.map nv).toArray }).objs.size=L at H1 hF ⊢
 generalize eT:h.objs.size=tup at H1 hF n1 ⊢
 have H2:=H1.own M
 rw [List.append_assoc] at H2
 generalize eX:(srtF w nv ns CS CN x dx n2i nodes (.ref rd) po nf++[(rd,ListP (rl.map nv))]).map (·.1)=X at H2
 obtain ⟨tO,eO⟩:=V.out
 obtain ⟨tD,eD⟩:=V.dn
 revert rm hfr al low hf V hz hzr inv hj ok M hR qr qn rm' eL hF eT H1 n1 eX H2 eO eD
 have zd0:Nat:=0
 have zd1:Nat:=0
 have zd2:Nat:=0
 revert A fr g K CS CN nv ns N x dx R h f name qual cd pm n2i rd n rl js nodes po nf A' h1 t1 QQ EE L tup X tO tD zd0 zd1 zd2
 exact zk0:done_call_S)
namespace zp0
@[irreducible] def zc:=pick39 zq0 (by (repeat any_goals apply np)<;>first | exact neW | exact neA | exact neD | exact neS | infer_instance | exact ⟨by constructor<;>exact default⟩)
def A:=zc.1.1
def fr:=zc.1.2.1
def g:=zc.1.2.2.1
def K:=zc.1.2.2.2.1
def CS:=zc.1.2.2.2.2.1
def CN:=zc.1.2.2.2.2.2.1
def nv:=zc.1.2.2.2.2.2.2
def ns:=zc.2.1.1
def N:=zc.2.1.2.1
def x:=zc.2.1.2.2.1
def dx:=zc.2.1.2.2.2.1
def R:=zc.2.1.2.2.2.2.1
def h:=zc.2.1.2.2.2.2.2.1
def f:=zc.2.1.2.2.2.2.2.2
def name:=zc.2.2.1.1
def qual:=zc.2.2.1.2.1
def cd:=zc.2.2.1.2.2.1
def pm:=zc.2.2.1.2.2.2.1
def n2i:=zc.2.2.1.2.2.2.2.1
def rd:=zc.2.2.1.2.2.2.2.2.1
def n:=zc.2.2.1.2.2.2.2.2.2
def rl:=zc.2.2.2.1.1
def js:=zc.2.2.2.1.2.1
def nodes:=zc.2.2.2.1.2.2.1
def po:=zc.2.2.2.1.2.2.2.1
def nf:=zc.2.2.2.1.2.2.2.2.1
def A':=zc.2.2.2.1.2.2.2.2.2.1
def h1:=zc.2.2.2.1.2.2.2.2.2.2
def t1:=zc.2.2.2.2.1.1
def QQ:=zc.2.2.2.2.1.2.1
def EE:=zc.2.2.2.2.1.2.2.1
def L:=zc.2.2.2.2.1.2.2.2.1
def tup:=zc.2.2.2.2.1.2.2.2.2.1
def X:=zc.2.2.2.2.1.2.2.2.2.2.1
def tO:=zc.2.2.2.2.1.2.2.2.2.2.2
def tD:=zc.2.2.2.2.2.1
def zd0:=zc.2.2.2.2.2.2.1
def zd1:=zc.2.2.2.2.2.2.2.1
def zd2:=zc.2.2.2.2.2.2.2.2
def zq :=
 all39 zq0 A fr g K CS CN nv ns N x dx R h f name qual cd pm n2i rd n rl js nodes po nf A' h1 t1 QQ EE L tup X tO tD zd0 zd1 zd2 (by with_unfolding_all rfl) (by
 intro rm hfr al low hf V hz hzr inv hj ok M hR qr qn rm' eL hF eT H1 n1 eX H2 eO eD
 refine Yh (Zh (Yg ?_))
 refine s_rd V.sk (V.X0.keeps H2.low) (H2.at (i:=0) rfl) (H2.at (i:=1) rfl) rfl (fun Q q=>s_ld H2 q) fun t2=>Zg (is_none (Yi ?_))
 rw [if_neg (by simp)]
 refine Ym (Yh (Yq ?_))
 refine s_n2i V.sk (V.X0.keeps H2.low) (H2.at (i:=0) rfl) (H2.at (i:=1) rfl) (fun Q q=>s_ld H2 q) fun t3=>?_
 have H2':=H2.perm (G:=srtF w nv ns CS CN x dx n2i nodes (.ref rd) po nf++[(tup,TupP (js.map nv)),(rd,ListP (rl.map nv))]) ((List.Perm.swap _ _ _).append_left _)
 refine s_st H2' fun h5 t5 H5=>?_
 refine Yh (wpAny_For (s_ld H5 ?_))
 have iT:Is h5 tup (TupP (js.map nv)):=H5.has _ (Ys _ Yc)
 refine wpAny_pyIter_tuple iT.tup ?_
 have H6:=H5.push { cls:=.type "tuple_iterator",data:=.fields #[.ref tup,.int 0 0] } (p:=TIterP tup 0) ⟨rfl,rfl⟩
 have nIt:h.get? h5.objs.size=none:=H5.notOld (Yy (Zf _))
 generalize h5.objs.size=it at H6 nIt
 refine s_forQ (Itr.tuple rm'.1 it tup (js.map nv)) (fun k h'=>E2 fun l nodes'=>A6 (St H0 h (adr fr) X L l (srtF w nv ns CS CN x dx n2i nodes' (.ref rd) po (nf + k)++[(it,TIterP tup k),(tup,TupP (js.map nv)),(rd,ListP ((doneP (nodes.map (·.1),rl) (js.take k)).2.map nv))]) h') (nodes'.map (·.1)=(doneP (nodes.map (·.1),rl) (js.take k)).1) (shapeN nodes'=shapeN nodes) ((doneP (nodes.map (·.1),rl) (js.take k)).2.length≤10000 + 1000 * k) (l.lookup ("self" : Str)=some (.ref x)) (l.lookup ("n2i" : Str)=some (.ref n2i))) (fun k h' j=>?_) (fun k v h' t' h'' QQ EE hk hv j hit sb kn _ _ _=>?_) (fun h' t' h'' j sb=>?_) ?_
 ·obtain ⟨l,nodes',H',_⟩:=j
  exact ⟨H'.has _ (Ys _ Yc),H'.has _ (Ys _ (Yb _ Yc))⟩
 ·obtain ⟨l,nodes',H',e,e2,len,m1,m2⟩:=j
  have hk':k < js.length:=by simpa using hk
  have hv':nv js[k]=v:=by simpa [Zc,Yj hk'] using hv
  have hq:=hj _ (List.getElem_mem hk')
  have hnp:=okD_at hk' ok
  have inv':InvS N (shapeN nodes'):=e2 ▸ inv
  generalize edk:doneP (nodes.map (·.1),rl) (js.take k)=dk at H' e len hnp
  have H8:=H'.updM sb hit
  refine Zl (s_st H8 fun h9 t9 H9=>?_)
  obtain ⟨m,hm⟩:∃ m,nodes'.find? (fun n=>n.1.i == js[k])=some m:=find_of (by
   rw [e]
   unfold npOf at hnp
   cases q:dk.1.find? (fun p=>p.i == js[k]) with
   | none=>rw [q] at hnp; cases hnp
   | some p=>exact List.any_eq_true.mpr ⟨p,List.mem_of_find?_eq_some q,by simpa using List.find?_some q⟩)
  obtain ⟨np1,su1⟩:=npOf_node hm
  rw [e] at np1 su1
  have hm1:m.1.np = -1:=by rw [np1] at hnp; exact Zj hnp
  have wf':=inv'.wf
  refine Yh (Zh (Yg (wpAny_NamedExpr ?_)))
  refine s_dget (H9.at (i:=2) rfl) (V.bs.ns (H9.hi (n2i,_) (Zr _ (Yb _ (Yb _ Yc))))) (hv' ▸ V.nm.isK hq) (fun Q q=>s_ld H9 (q _) (hv:=m2)) (fun t Q q=>s_ld H9 q) fun t10=>?_
  rw [val_of V.nm wf' hq hm]
  refine Zl (s_st H9 fun h11 t11 H11=>Zg (is_none (Yi ?_)))
  rw [if_neg (by simp)]
  refine Ym ?_
  obtain ⟨em,l1,l2,en,hm'⟩:=find_split hm
  subst en
  refine Yh (Yq (Attribute_any_ (s_ld H11 (s_npGet V.nk V.X0 H11 fun t0 t12=>?_))))
  refine s_st H11 fun h13 t13 H13=>?_
  refine Yh (Zh (Yg (s_ld H13 (s_gname V.bs H13.low eO (PySem.P.ne_int (Yi ?_))))))
  rw [hm1,if_neg (by decide)]
  refine Ym ?_
  refine Yh (Yl (s_gname V.bs H13.low eD (s_ld H13 (s_npSet V.nk V.X0 H13 fun h14 t14 H14=>?_))))
  generalize en':(l1++(⟨m.1.i,-2,m.1.su⟩,m.2)::l2:Nodes)=nodes1 at H14
  have sh1:shapeN nodes1=shapeN nodes:=by rw [← e2,← en']; exact shape_mid rfl rfl rfl
  have ps1:nodes1.map (·.1)=modI dk.1 js[k] fun p=>⟨p.i,-2,p.su⟩:=by
   rw [← en',← e,← em,modI_mid (n':=(⟨m.1.i,-2,m.1.su⟩,m.2)) rfl fun k hk=>by rw [em]; exact hm' k hk]
  have hmem:(⟨m.1.i,-2,m.1.su⟩,m.2)∈nodes1:=by rw [← en']; exact Ys _ Yc
  have suGet:∀ (E:Value→Shared→Prop) (Q:Value→Shared→Prop) t,(∀ t',Q (.ref m.2.2.2) (sh g t' h14))→wpAny (model P w) A' (getAttr (.ref m.2.1) "successors" true) Q E (sh g t h14):=fun E Q t q=>by
   subst en'
   exact s_suGet (m:=(⟨m.1.i,-2,m.1.su⟩,m.2)) V.nk V.X0 H14 q
  have hsh:(m.1.i,m.1.su,m.2)∈shapeN nodes:=by rw [← sh1]; exact Yx.mpr ⟨_,hmem,rfl⟩
  obtain ⟨_,suLen,suInv⟩:=inv _ hsh
  replace suLen:m.1.su.length≤1000:=suLen
  refine Yh (wpAny_For (Attribute_any_ (s_ld H14 (suGet _ _ _ fun t15=>?_))))
  have iS:Is h14 m.2.2.2 (ListP (m.1.su.map nv)):=H14.has _ (Zr _ (su_fact (m:=(⟨m.1.i,-2,m.1.su⟩,m.2)) rfl hmem))
  refine wpAny_pyIter_list iS.list ?_
  have H16:=H14.push { cls:=.type "list_iterator",data:=.fields #[.ref m.2.2.2,.int 0 0] } (p:=IterP m.2.2.2 0) ⟨rfl,rfl⟩
  have nI2:h.get? h14.objs.size=none:=H14.notOld (Yy (Zf _))
  generalize h14.objs.size=it2 at H16 nI2
  refine s_forQ (Itr.list rm'.1 it2 m.2.2.2 (m.1.su.map nv)) (fun c h'=>E2 fun l nodes''=>A6 (St H0 h (adr fr) X L l (srtF w nv ns CS CN x dx n2i nodes'' (.ref rd) po (nf + k)++[(it2,IterP m.2.2.2 c),(it,TIterP tup (k + 1)),(tup,TupP (js.map nv)),(rd,ListP (((m.1.su.take c).foldl subD (nodes1.map (·.1),dk.2)).2.map nv))]) h') (nodes''.map (·.1)=((m.1.su.take c).foldl subD (nodes1.map (·.1),dk.2)).1) (shapeN nodes''=shapeN nodes) (((m.1.su.take c).foldl subD (nodes1.map (·.1),dk.2)).2.length≤dk.2.length + c) (l.lookup ("self" : Str)=some (.ref x)) (l.lookup ("n2i" : Str)=some (.ref n2i))) (fun c h' j=>?_) (fun c v h' t' h'' QQ EE hc hv j hit sb kc _ _ _=>?_) (fun h' t' h'' j sb=>?_) ?_
  ·obtain ⟨l,nodes'',H',_,sh,_⟩:=j
   exact ⟨H'.has _ (Ys _ Yc),H'.has _ (Zr _ (su_fact (m:=(⟨m.1.i,-2,m.1.su⟩,m.2)) (sh1.trans sh.symm) hmem))⟩
  ·obtain ⟨l,nodes'',H',e3,sh,len2,m1,m2⟩:=j
   have hc':c < m.1.su.length:=by simpa using hc
   have hv':nv m.1.su[c]=v:=by simpa [Zc,Yj hc'] using hv
   obtain ⟨hq1,hq2⟩:=suInv _ (List.getElem_mem hc')
   generalize eq0:m.1.su[c]=q at hv' hq1 hq2
   have tk:m.1.su.take (c + 1)=m.1.su.take c++[q]:=by rw [List.take_add_one,Yj hc',eq0]; rfl
   rw [tk,List.foldl_append] at kc
   generalize (m.1.su.take c).foldl subD (nodes1.map (·.1),dk.2)=dc at H' e3 len2 kc
   have H1:=H'.updM sb hit
   refine Zl (s_st H1 fun h2 t2 H2=>?_)
   obtain ⟨m',hf'⟩:=find_of (nodes:=nodes'') (i:=q) (by rw [← shape_any,sh]; exact hq2)
   have wf'':Wf N nodes'':=InvS.wf (sh ▸ inv)
   refine Yh (Yq (Zk (s_ld H2 (s_ld H2 (s_dat (H2.at (i:=2) rfl) (k:=ns q) (hv' ▸ V.nm.isK hq1) (val_of V.nm wf'' hq1 hf') fun t3=>?_)) (hv:=m2))))
   refine s_st H2 fun h4 t4 H4=>?_
   obtain ⟨eq1,k1,k2,en2,hk1⟩:=find_split hf'
   subst en2
   refine Yh (wpAny_AugAssign_AttributeAny (s_ld H4 (s_npGet V.nk V.X0 H4 fun t0 t5=>wpAny_Constant_int (PySem.AutoIntOps.isub_0 ?_))))
   refine s_npSet V.nk V.X0 H4 fun h6 t6 H6=>?_
   have ps':((k1++(⟨m'.1.i,m'.1.np - 1,m'.1.su⟩,m'.2)::k2:Nodes)).map (·.1)=modI dc.1 q fun p=>⟨p.i,p.np - 1,p.su⟩:=by
    rw [← e3,← eq1,modI_mid (n':=(⟨m'.1.i,m'.1.np - 1,m'.1.su⟩,m'.2)) rfl fun k hk=>by rw [eq1]; exact hk1 k hk]
   have np':npOf (modI dc.1 q fun p=>⟨p.i,p.np - 1,p.su⟩) q=some (m'.1.np - 1):=by
    rw [← ps']
    exact (npOf_node (find_mid (m:=(⟨m'.1.i,m'.1.np - 1,m'.1.su⟩,m'.2)) eq1 hk1)).1
   have sh':shapeN (k1++(⟨m'.1.i,m'.1.np - 1,m'.1.su⟩,m'.2)::k2:Nodes)=shapeN nodes:=by rw [← sh]; exact shape_mid rfl rfl rfl
   have sd:List.foldl subD dc [q]=(modI dc.1 q fun p=>⟨p.i,p.np - 1,p.su⟩,if (some (m'.1.np - 1) == some 0)=true then dc.2++[q] else dc.2):=by
    show subD dc q=_
    unfold subD
    dsimp only
    rw [np']
   rw [sd] at kc
   refine Yh (Zh (Yg (Attribute_any_ (s_ld H6 (s_npGet (m:=(⟨m'.1.i,m'.1.np - 1,m'.1.su⟩,m'.2)) V.nk V.X0 H6 fun t0 t7=>wpAny_Constant_int (PySem.P.eq_int (Yi ?_)))))))
   have eb:(some (m'.1.np - 1) == some (0:Int))=(m'.1.np - 1 == 0):=rfl
   rw [eb] at kc
   cases hb:(m'.1.np - 1 == 0) with
   | false =>
    rw [hb,if_neg Yk] at kc
    rw [if_neg Yk]
    refine Ym (Ym (kc _ _ ⟨_,_,H6,ps',sh',?_,m1,m2⟩))
    show dc.2.length≤_
    lia
   | true =>
    rw [hb,if_pos rfl] at kc
    rw [if_pos rfl]
    have iR:Is h6 rd (ListP (dc.2.map nv)):=H6.has _ (Ys _ (Yb _ (Yb _ (Yb _ Yc))))
    refine Yh (wpAny_Expr_any (wpAny_Call_append (by rfl) (by rfl) (by rfl) (by rfl) (s_rd V.sk (V.X0.keeps H6.low) (H6.at (i:=0) rfl) (H6.at (i:=1) rfl) rfl (fun Q q=>s_ld H6 q (hv:=m1)) fun t8=>⟨_,_,rfl,iR.plainL,s_ld H6 ?_⟩)))
    refine wpAny_list_append_plain iR.plain (fun h9 pl sb9=>?_) (by simp only [List.size_toArray,Yp]; rw [sizeLine_eq]; lia)
    have H9:=St.updM (F1:=srtF w nv ns CS CN x dx n2i (k1++(⟨m'.1.i,m'.1.np - 1,m'.1.su⟩,m'.2)::k2) (.ref rd) po (nf + k)++[(it2,IterP m.2.2.2 (c + 1)),(it,TIterP tup (k + 1)),(tup,TupP (js.map nv))]) (F2:=[]) (a:=rd) (p':=ListP ((dc.2++[q]).map nv)) (H:=by rw [List.append_assoc]; exact H6) (fun b o hb ho=>(sb9.2 b hb).trans ho) (by rw [Yt]; exact isPlain (by rw [← hv'] at pl; simpa using pl))
    rw [List.append_assoc] at H9
    refine Ym (Ym (kc _ _ ⟨_,_,H9,ps',sh',?_,m1,m2⟩))
    show (dc.2++[q]).length≤_
    rw [Zw,List.length_singleton]; lia
  ·obtain ⟨l,nodes'',H',e3,sh,len2,m1,m2⟩:=j
   rw [Yp,List.take_of_length_le (Zf _)] at H' e3 len2
   have H1:=H'.dropM nI2 sb
   refine Yh (wpAny_AugAssign_AttributeAny (s_ld H1 (s_nfGet V.sk (V.X0.keeps H1.low) (H1.at (i:=0) rfl) (H1.at (i:=1) rfl) fun u0 t2=>wpAny_Constant_int (PySem.AutoIntOps.iadd_0 ?_)) (hv:=m1)))
   refine s_nfSet V.sk V.X0 H1 fun h3 t3 H3=>?_
   have tk:js.take (k + 1)=js.take k++[js[k]]:=by rw [List.take_add_one,Yj hk']; rfl
   have dn:doneP (nodes.map (·.1),rl) (js.take (k + 1))=m.1.su.foldl subD (nodes1.map (·.1),dk.2):=by
    unfold doneP at edk ⊢
    rw [tk,List.foldl_append,edk]
    show done1 dk js[k]=_
    unfold done1
    rw [su1,ps1]
   rw [show nf + (k:Int) + 1=nf + ((k + 1:Nat):Int) from by push_cast; lia] at H3
   refine Ym (kn _ _ ⟨_,_,by rw [dn]; exact H3,by rw [dn]; exact e3,sh,?_,m1,m2⟩)
   rw [dn]; lia
  ·exact ⟨_,_,H16.perm (G:=srtF w nv ns CS CN x dx n2i nodes1 (.ref rd) po (nf + k)++[(it2,IterP m.2.2.2 0),(it,TIterP tup (k + 1)),(tup,TupP (js.map nv)),(rd,ListP (dk.2.map nv))]) List.perm_middle.symm,rfl,sh1,Zf _,m1,m2⟩
 ·obtain ⟨l,nodes',H',e,e2,_,m1,m2⟩:=j
  rw [Yp,List.take_of_length_le (Zf _)] at H' e
  have H8:=H'.dropM nIt sb
  refine Ym ?_
  have H9:=H8.perm (G:=(srtF w nv ns CS CN x dx n2i nodes' (.ref rd) po (nf + js.length)++[(rd,ListP ((doneP (nodes.map (·.1),rl) js).2.map nv))])++[(tup,TupP (js.map nv))]) (by rw [List.append_assoc]; exact (List.Perm.swap _ _ _).append_left _)
  rw [← eX] at H9
  refine qn _ (hR h'' t' nodes' (H9.toStep fun b hb=>?_) e e2)
  rw [Yt,srt_adr (nodes':=nodes') (rdv':=.ref rd) (po':=po) (nf':=nf + js.length) (shape_adr e2).symm] at hb
  rw [Yt]
  exact hb
 ·exact ⟨_,_,H6.perm (G:=srtF w nv ns CS CN x dx n2i nodes (.ref rd) po nf++[(it,TIterP tup 0),(tup,TupP (js.map nv)),(rd,ListP (rl.map nv))]) List.perm_middle.symm |> fun z=>by rw [show nf + ((0:Nat):Int)=nf from by simp]; exact z,rfl,rfl,by show rl.length≤_; exact hzr,by rfl,by rfl⟩)
end zp0
end done_call
section
variable {A:Around} {B:Heap} {fa X:List Addr} {L:Addr} {g:Array GenState} {nv:Nat→Value} {N:Nat} {E:Value→Shared→Prop} {env:Env} {Q:Value→Shared→Prop} {pos:Pos} {e:Expr} {ys:List Value} {kvs:List (Str×Value)} {value:Expr} {it:Addr} {p2 p1:Pos} {expr:Bool} {id:String} {M:Model} {self:Value} {apos:Pos} {a:Addr} {F:Fs} {n:Nat} {l:List (Str×Value)} {i:Nat} {xs vs:List Value} {ss:List Str} {v:Value} {s:Shared} {h:Heap} {t:Nat}
theorem done_call:done_call_S:=@Wr.out _ done_call.zp0.zq
section
open PySem.Builtin PySem.Builtin.ObjectAttr
noncomputable def SetP (w:World) (S:Str→Bool) (n:Nat):OP:=fun o=>E3 fun es ep t=>o.ExactSet∧o.data=.set es ep t∧ElemsOf (SK w) es.toList∧(∀ k,S k=true↔∃ e∈es.toList,(SK w).is k e.2=true)∧es.size < scanBound∧t.fits es.size=true∧es.size=n
theorem Is.set {w h a S n} (x:Is h a (SetP w S n)):h.SetOf (SK w) a S n:=by obtain ⟨o,e,es,ep,t,r⟩:=x; exact ⟨o,es,ep,t,e,r⟩
theorem isSet {w} {S:Str→Bool} (x:h.SetOf (SK w) a S n):Is h a (SetP w S n):=by obtain ⟨o,es,ep,t,e,r⟩:=x; exact ⟨o,e,es,ep,t,r⟩
noncomputable def WrapP (id:String) (self:Value):OP:=fun o=>o = { cls:=.type "method-wrapper",data:=.fields #[.builtin id,self] }
theorem in_nil (h:Heap):Frag.In [] h:=fun _ _ e=>by cases e
theorem sp_next:specialIn [] (.builtin "list_iterator.__next__") "__get__" = some (some (.builtin "wrapper_descriptor.__get__")):=by kernel_rfl
theorem tk_next:takesIn [] (.builtin "list_iterator.__next__")=some false:=by kernel_rfl
theorem fi_next:findIn [] (.type "list_iterator") "__next__" = some (some (.builtin "list_iterator.__next__")):=by show fastLookup _ _=_; kernel_rfl
theorem fi_ga:findIn [] (.type "list_iterator") "__getattribute__" = some (some (.builtin "object.__getattribute__")):=by show fastLookup _ _=_; kernel_rfl
theorem fi_gk:findIn [] (.type "list_iterator") "__getattr__" = some none:=by show fastLookup _ _=_; kernel_rfl
theorem looks_own_li {vs:Array Value} (ho:h.get? it=some { cls:=.type "list_iterator",data:=.fields vs }) (name:Str):Looks M h (inOwnDict name (.ref it)) none:=by
 intro A Q E s k q
 refine Yd (Yd (wpAny_loadPart (k _ _ ho) ?_))
 dsimp only
 unfold instanceDict
 refine Yd (wpAny_loadPart (k _ _ ho) ?_)
 exact Yn (Yn q)
theorem looks_next {vs:Array Value} (ho:h.get? it=some { cls:=.type "list_iterator",data:=.fields vs }) :
  Looks M h (ObjectAttr.find (.ref it) (.type "list_iterator") "__next__") (.bind (.builtin "wrapper_descriptor.__get__") (.builtin "list_iterator.__next__")):=by
 refine (looks_findIn (in_nil h) fi_next).andThen ((looks_specialIn (in_nil h) sp_next).andThen ?_)
 refine (show Looks M h (dataDescriptor? (some (.builtin "list_iterator.__next__")) (some (.builtin "wrapper_descriptor.__get__"))) none from (looks_takesIn (in_nil h) tk_next).andThen .now).andThen ?_
 refine (looks_own_li ho _).andThen ?_
 refine (show Looks M h (copiedAttributeGuard "__next__" (.ref it)) () from .now).andThen ?_
 exact Looks.tag .now
theorem sl_wget:Slot "wrapper_descriptor" "__get__" "wrapper_descriptor.__get__" :=
 .of (owner := "wrapper_descriptor") (n := "__get__") (by rw [typeLookup_type,builtinLookup_eq_fast]; kernel_rfl) (by decide +kernel) (by decide +kernel) (by decide +kernel)
  (by first | exact .inl (by decide +kernel) | exact .inr (by decide +kernel)) (by rw [isSubtype_type]; kernel_rfl)
theorem en_wget:entryFor table "wrapper_descriptor.__get__" = some Builtin.«wrapper_descriptor.__get__» := entryFor_of_tree (by kernel_rfl)
theorem ty_next:typeOf (.builtin "list_iterator.__next__")=pure (.type "wrapper_descriptor"):=by show builtinType _=_; rw [builtinType_eq_fast]; kernel_rfl
end
section
open PySem.Builtin PySem.Builtin.ObjectAttr
theorem s_wget {vs:Array Value} (ho:h.get? it=some { cls:=.type "list_iterator",data:=.fields vs }) (q:Q (.ref h.objs.size) (sh g t (h.push { cls:=.type "method-wrapper",data:=.fields #[.builtin "list_iterator.__next__",.ref it] }))) :
  wpAny (model P w) A (call (.builtin "wrapper_descriptor.__get__") [.builtin "list_iterator.__next__",.ref it,.type "list_iterator"]) Q E (sh g t h):=by
 refine wpAny_call_entry sl_wget (T := "wrapper_descriptor") ty_next en_wget ?_ (by rfl)
 have L0:Looks (model P w) h (typeOf (.ref it)) (.type "list_iterator"):=(Looks.ld (part:=none) ho).andThen .now
 have L1:Looks (model P w) h (isSubtype (.type "list_iterator") (.type "list_iterator")) true:=Looks.of_pure (by rw [isSubtype_type]; kernel_rfl)
 unfold Builtin.«wrapper_descriptor.__get__»
 repeat lk
 exact ⟨_,rfl,q⟩
end
section
open PySem.Builtin PySem.Builtin.ObjectAttr
theorem en_iter:entryFor table "iter" = some Builtin.«iter» := entryFor_of_tree (by kernel_rfl)
theorem kd_iter:builtinKind "iter" = none:=by decide +kernel
theorem pl_iter:plainId "iter" = true:=by decide +kernel
theorem ar_iter (a:Value):argsOk "iter" ⟨[a],[]⟩:=by unfold argsOk; kernel_rfl
theorem pl_lin:plainId "list_iterator.__next__" = true:=by decide +kernel
theorem ck_lin (a:Addr):checkBoundCall "list_iterator.__next__" ⟨[.ref a],[]⟩=pure ():=by kernel_rfl
theorem sl_liga:Slot "list_iterator" "__getattribute__" "object.__getattribute__" :=
 .of (owner := "object") (n := "__getattribute__") (by rw [typeLookup_type,builtinLookup_eq_fast]; kernel_rfl) (by decide +kernel) (by decide +kernel) (by decide +kernel)
  (by first | exact .inl (by decide +kernel) | exact .inr (by decide +kernel)) (by rw [isSubtype_type]; kernel_rfl)
theorem en_oga:entryFor table "object.__getattribute__" = some Builtin.«object.__getattribute__» := entryFor_of_tree (by kernel_rfl)
end
section
open PySem.Builtin PySem.Builtin.ObjectAttr
theorem s_getNext {vs:Array Value} (ho:h.get? it=some { cls:=.type "list_iterator",data:=.fields vs }) (q:∀ t',Q (.ref h.objs.size) (sh g t' (h.push { cls:=.type "method-wrapper",data:=.fields #[.builtin "list_iterator.__next__",.ref it] }))) :
  wpAny (model P w) A (getAttr (.ref it) "__next__" expr) Q E (sh g t h):=by
 have L0:Looks (model P w) h (typeOf (.ref it)) (.type "list_iterator"):=(Looks.ld (part:=none) ho).andThen .now
 have L1:=looks_findIn (M:=model P w) (in_nil h) fi_ga
 have L2:=looks_findIn (M:=model P w) (in_nil h) fi_gk
 have L3:=looks_next (M:=model P w) ho
 unfold getAttr getAttrBy
 refine Yd (wpAny_mkText (wpAny_holding (Yd (L0.at (Yd (L1.at ?_))))))
 show wpAny _ _ (getAttrByItsOwn (.ref it) (.str "__next__" t) (.type "list_iterator") (.builtin "object.__getattribute__") true expr) _ _ _
 unfold getAttrByItsOwn
 refine Yd (wpAny_of_eq (a:=none) (by rfl) ?_)
 refine Yd (wpAny_attempt (wpAny_holding ?_))
 unfold callGetattribute
 rw [if_neg (by cases expr<;>decide)]
 unfold boundAndCalled
 rw [sl_liga.bind]
 refine Yd (Yn ?_)
 refine wpAny_call_entry sl_liga (T := "list_iterator") ⟨_,ho,rfl⟩ en_oga ?_ (by rfl)
 unfold Builtin.«object.__getattribute__»
 refine Yd (wpAny_of_eq (a:=(.ref it,[.str "__next__" t])) (by rfl) ?_)
 refine Yd (Yn (Yd (L0.at (Yd (L3.at ?_)))))
 show wpAny _ _ (holding [.builtin "list_iterator.__next__"] (call (.builtin "wrapper_descriptor.__get__") [.builtin "list_iterator.__next__",.ref it,.type "list_iterator"]) >>= ret) _ _ _
 refine Yd (wpAny_holding (s_wget ho (Yn ⟨_,rfl,?_⟩)))
 exact handed_on rfl (q _)
theorem s_iterB (ha:Is h a (ListP xs)) (q:Q (.ref h.objs.size) (sh g t (h.push { cls:=.type "list_iterator",data:=.fields #[.ref a,.int 0 0] }))) :
  wpAny (model P w) A (call (.builtin "iter") [.ref a]) Q E (sh g t h):=by
 refine Calls.call_function_entry kd_iter pl_iter en_iter (ar_iter _) ?_
 unfold Builtin.«iter»
 refine Yd (wpAny_of_eq (a:=[.ref a]) (by rfl) ?_)
 exact Yd (wpAny_pyIter_list ha.list (Yn ⟨_,rfl,q⟩))
theorem wr_keep {u:Addr} (ho:Is h u (WrapP id self)):Looks (model P w) h (keeperOf (.ref u)) .machine:=by
 obtain ⟨o,ho,rfl⟩:=ho
 unfold keeperOf
 exact (Looks.ld (part:=none) ho).andThen .now
theorem wr_callWith {u:Addr} (ho:Is h u (WrapP id self)) (k:wpAny (model P w) A (call (.ref u) []) Q E (sh g t h)) :
  wpAny (model P w) A (callWith pos (.ref u) [] [] []) Q E (sh g t h):=by
 unfold callWith
 refine Yd (wpAny_holding (PySem.evalArgs_none (Yd (wpAny_standAt ?_))))
 refine Yd ((wr_keep ho).at ?_)
 exact Yd (Ze k (fun r s2 hr=>Yd (wpAny_holding (wpAny_point (Yn hr)))) fun _ _ x=>x)
theorem wr_call {u:Addr} {b:Builtin} (ho:Is s.heap u (WrapP id self)) (hq:plainId id=true) (hb:entryFor table id=some b)
  (hc:checkBoundCall id ⟨[self],[]⟩=pure ())
  (k:wpAny (model P w) A.in1 (b ⟨[self],[]⟩) (fun fin s'=>match fin with | .done f=>wants Q E (.ok f) s' | .again c'=>c'.quiet=true∧codeAny (model P w) A c' (wants Q E) s') (fun e s'=>wants Q E (.error e) s') s) :
  wpAny (model P w) A (call (.ref u) []) Q E s:=by
 obtain ⟨o,ho,rfl⟩:=ho
 refine wpAny_call (codeAny_of_tree ?_)
 show wpAny _ A.in1 (callAny (.ref u) ⟨[],[]⟩) _ _ s
 refine nd_load ho ?_
 refine Yd (m:=checkBoundCall id ⟨[self],[]⟩) (wpAny_of_eq (a:=()) hc ?_)
 refine Yd (Yn (Yn ?_))
 exact ⟨plainId_quiet hq _,codeAny_builtin hb (by rw [Around.under_plainId hq]; exact k)⟩
theorem wr_item {x:Value} {u:Addr} (ho:Is h u (WrapP "list_iterator.__next__" (.ref it))) (hit:Is h it (IterP a i)) (hl:Is h a (ListP xs)) (hx:xs[i]? = some x)
  (q:∀ h',Is h' it (IterP a (i + 1))→(∀ b o,b≠it→h.get? b=some o→h'.get? b=some o)→Q x (sh g t h')) :
  wpAny (model P w) A (call (.ref u) []) Q E (sh g t h):=by
 refine wr_call ho pl_lin entry_listiter_next (ck_lin _) ?_
 obtain ⟨o,ho,hc,hd⟩:=id hit
 obtain ⟨ol,hol,_,nl,hdl⟩:=hl.list
 show wpAny _ _ (field (.ref it) 0 >>= _) _ _ _
 refine Yd (wpAny_field ho hd (x:=.ref a) rfl ?_)
 show wpAny _ _ (if (Value.ref a == Value.none)=true then _ else _) _ _ _
 rw [if_neg (show ¬ ((Value.ref a == Value.none)=true) from Yk)]
 show wpAny _ _ (field (.ref it) 1 >>= _) _ _ _
 refine Yd (wpAny_field ho hd (x:=.int i 0) rfl ?_)
 show wpAny _ _ (seqItems? (.ref a) >>= _) _ _ _
 refine Yd (wpAny_seqItems hol hdl ?_)
 have hx':xs.toArray[i]? = some x:=by simpa using hx
 simp only [Int.toNat_natCast,hx']
 refine Yd (wpAny_setField ho hd (by simp) (Yn ?_))
 refine q _ ⟨_,Heap.get?_update_self _ ho (Obj.isFreed_of_fields (Obj.data_mapFields hd _)),(Obj.cls_mapFields ..).trans hc,by
  rw [Obj.data_mapFields hd]; simp [rawInt]⟩ fun b o hb e=>(Zm _ _ (Ne.symm hb)).trans e
theorem wr_end {u:Addr} (hh:A.handled=none) (ho:Is h u (WrapP "list_iterator.__next__" (.ref it))) (hit:Is h it (IterP a i)) (hl:Is h a (ListP xs)) (hx:xs[i]? = none)
  (q:∀ h1 h2 e,(∀ b o,b≠it→h.get? b=some o→h1.get? b=some o)→(∀ o,h.get? it=some o→∃ o',h1.get? it=some o')→Heap.NewExc h1 h2 e "StopIteration" → E (.ref e) (sh g t h2)) :
  wpAny (model P w) A (call (.ref u) []) Q E (sh g t h):=by
 refine wr_call ho pl_lin entry_listiter_next (ck_lin _) ?_
 obtain ⟨o,ho,hc,hd⟩:=id hit
 obtain ⟨ol,hol,_,nl,hdl⟩:=hl.list
 show wpAny _ _ (field (.ref it) 0 >>= _) _ _ _
 refine Yd (wpAny_field ho hd (x:=.ref a) rfl ?_)
 show wpAny _ _ (if (Value.ref a == Value.none)=true then _ else _) _ _ _
 rw [if_neg (show ¬ ((Value.ref a == Value.none)=true) from Yk)]
 show wpAny _ _ (field (.ref it) 1 >>= _) _ _ _
 refine Yd (wpAny_field ho hd (x:=.int i 0) rfl ?_)
 show wpAny _ _ (seqItems? (.ref a) >>= _) _ _ _
 refine Yd (wpAny_seqItems hol hdl ?_)
 have hx':xs.toArray[i]? = none:=by simpa using hx
 simp only [Int.toNat_natCast,hx']
 refine Yd (wpAny_rule (Yd (wpAny_setField ho hd (by simp) ?_)))
 show wpAny _ _ (newExc (.type "StopIteration") [] >>= _) _ _ _
 refine Yd ?_
 simp only [newExc,newTuple]
 refine Yd (wpAny_newObj_type ?_ (by size_fits))
 refine Yd (m:=firstArgMember _ _) (wpAny_of_eq (a:=Value.none) (by first | rfl | (simp only [firstArgMember]; rfl)) ?_)
 refine wpAny_newObj_type ?_ (by size_fits)
 refine wpAny_raiseNew_none hh (q _ _ _ (fun b o hb e=>(Zm _ _ (Ne.symm hb)).trans e) (fun o' e'=>⟨_,Heap.get?_update_self _ ho (Obj.isFreed_of_fields (Obj.data_mapFields hd _))⟩) ⟨fun b o e=>Yv _ (Yv _ e),Yy (by rw [Heap.size_push]; exact Nat.le_succ _),_,_,Heap.get?_push_size _ rfl,rfl,rfl⟩)
theorem s_set0 (H:St H0 B fa X L l F h) (q:∀ h',St H0 B fa X L l ((h.objs.size,SetP w (fun _=>false) 0)::F) h'→Q (.ref h.objs.size) (sh g t h')):wpAny (model P w) A (call (.type "set") []) Q E (sh g t h) :=
 call_set_0 fun led=>q _ (H.push { cls:=.type "set",dict:=none,data:=.set #[] 0 (.fresh 0 0 led) } ⟨#[],0,_,⟨rfl,rfl,rfl⟩,rfl,fun e he=>by simp at he,fun k=>by simp,by decide,rfl,rfl⟩)
end
noncomputable def pops (succ:Nat→List Nat):List (Nat×Nat)→Option (Nat×List (Nat×Nat))
 | []=>none
 | (n,p)::r=>match (succ n)[p]? with
  | some q=>some (q,(n,p + 1)::r)
  | none=>pops succ r
noncomputable def walkF (succ:Nat→List Nat):Nat→Nat→List Nat→List (Nat×Nat)→Option (List Nat)
 | 0,_,_,_=>none
 | f + 1,node,seen,stk =>
  if seen.any (fun i=>i == node) then (if stk.any (fun e=>e.1 == node) then none else match pops succ stk with
   | none=>some seen
   | some (q,stk')=>walkF succ f q seen stk')
  else match pops succ ((node,0)::stk) with
   | none=>some (node::seen)
   | some (q,stk')=>walkF succ f q (node::seen) stk'
noncomputable def cycF (succ:Nat→List Nat) (fuel:Nat):List Nat→List Nat→Option (List Nat)
 | [],seen=>some seen
 | n::ns,seen=>if seen.any (fun i=>i == n) then cycF succ fuel ns seen else (walkF succ fuel n seen []).bind (cycF succ fuel ns)
structure SE where
 n:Nat
 p:Nat
 sa:Addr
 it:Addr
 bm:Addr
noncomputable def seF (e:SE):Fs:=[(e.it,IterP e.sa e.p),(e.bm,WrapP "list_iterator.__next__" (.ref e.it))]
noncomputable def sePs (stk:List SE):List (Nat×Nat):=stk.map fun e=>(e.n,e.p)
structure CycA where
 st:Addr
 il:Addr
 se:Addr
 nd:Addr
noncomputable def cycFacts (w:World) (ns:Nat→Str) (a:CycA) (stk:List SE) (seen:List Nat) (vs:List Value) (kvs:List (Str×Value)):Fs :=
 (a.st,ListP vs)::(a.il,ListP (stk.reverse.map fun e=>.ref e.bm))::(a.se,SetP w (fun s=>seen.any fun i=>ns i == s) seen.length)::(a.nd,DictP w kvs)::stk.flatMap seF
theorem bFC (name qual:Str) (cd pm v:Value):bindArgs (mdF 12 8 name qual cd pm .none) ⟨[v],[]⟩=pure [(("self" : Str),v)]:=by rfl
theorem sOf_isK {s:Str} (h:sOf v=some s):(SK w).is s v=true:=by
 obtain ⟨t,rfl⟩:=sOf_some h
 exact strKind_is P w s t
theorem sOf_scan {s:Str} (h:sOf v=some s):v.scannable=true:=by
 obtain ⟨t,rfl⟩:=sOf_some h
 rfl
theorem Nm.sOf {ns:Nat→Str} (nm:Nm nv ns N) (h:i < N):sOf (nv i)=some (ns i):=by
 obtain ⟨t,e⟩:=nm.v i h
 rw [e]; rfl
theorem s_inSet {S:Str→Bool} {s:Str} (ha:Is h a (SetP w S n)) (hv:sOf v=some s) (q:∀ t',Q (.bool (S s)) (sh g t' h)):wpAny (model P w) A (compareOp .In v (.ref a)) Q E (sh g t h) :=
 wpAny_inSet_of (knd:=SK w) (sOf_isK hv) (sOf_scan hv) ha.set (q _)
theorem s_addSet {S:Str→Bool} {s:Str} {o:Expr} (ha:Is h a (SetP w S n)) (hv:sOf v=some s) (hn:n < 4000) (hs:S s=false)
  (e1:Ev w A E env o (.ref a) (sh g t h)) (e2:Ev w A E env e v (sh g t h)) (q:∀ h' t',(∀ b o,b≠a→h.get? b=some o→h'.get? b=some o)→Is h' a (SetP w (fun k=>S k || decide (k=s)) (n + 1))→Q .none (sh g t' h'))
  (hbase:autoParam (attributeBase o "add" env (eval o env)=eval o env) tR) (hline:autoParam ((apos.endLine == pos.line)=true) tR) (htrees:autoParam (backTo pos (starEach [e] env)=[(false,eval e env)]) tR) :
  wpAny (model P w) A (eval (.Call (.Attribute o "add" apos) [e] [] pos) env) Q E (sh g t h):=by
 refine wpAny_Call_method1_late hbase hline htrees (e1 _ ⟨"set", "set.add",PySem.F.plainAttrs_set,PySem.F.slot_set_add,PySem.F.type_set_add,ha.set.typeIs,ha.set.noDict,?_⟩)
 refine callWith_builtin rfl (Zx (Yz (e2 _ (Zn ?_))))
 refine call_set_add (knd:=SK w) (sOf_isK hv) (sOf_scan hv) ha.set (by unfold scanBound; exact Nat.lt_of_le_of_lt hn (by decide)) fun h' sb hS=>?_
 rw [hs,if_neg Yk] at hS
 exact q h' _ (fun b o hb e=>(sb.2 b hb).trans e) (isSet hS)
theorem without_last {l:List Str} {k:Str} (e:kvs.map (·.1)=l++[k]) (nd:(kvs.map (·.1)).Nodup):(without kvs k).map (·.1)=l∧(valueAt kvs k).isSome=true:=by
 have h1:(without kvs k).map (·.1)=(kvs.map (·.1)).filter fun x=>decide (x≠k):=by
  unfold without
  rw [List.filter_map]; rfl
 have hk:k ∉ l:=by
  rw [e] at nd
  have:=(List.nodup_append.mp nd).2.2
  exact fun m=>this k m k Yc rfl
 constructor
 ·rw [h1,e,List.filter_append]
  have:l.filter (fun x=>decide (x≠k))=l:=List.filter_eq_self.mpr fun x hx=>by simpa using fun q:x=k=>hk (q ▸ hx)
  rw [this]; simp
 ·have:k∈kvs.map (·.1):=by rw [e]; simp
  obtain ⟨kv,hkv,q⟩:=Yx.mp this
  unfold valueAt
  rw [Option.isSome_map]
  exact List.find?_isSome.mpr ⟨kv,hkv,by simpa using q⟩
theorem stored_new {k:Str} (h:k ∉ kvs.map (·.1)):stored kvs k v=kvs++[(k,v)]:=by
 unfold stored
 rw [if_neg]
 intro q
 obtain ⟨kv,hkv,e⟩:=List.any_eq_true.mp q
 exact h (Yx.mpr ⟨kv,hkv,by simpa using e⟩)
theorem s_delD {k:Str} {key:Value} {Q:Unit→Shared→Prop} (D:Is h a (DictP w kvs)) (hk:(SK w).is k key=true) (hz:kvs.length≤1000) (hv:(valueAt kvs k).isSome=true)
  (q:∀ h' t',(∀ b o,b≠a→h.get? b=some o→h'.get? b=some o)→Is h' a (DictP w (without kvs k))→Q () (sh g t' h')):wpAny (model P w) A (delItem (.ref a) key) Q E (sh g t h):=by
 have hD:=D.dict
 unfold delItem
 try with_reducible refine wpAny_holding ?_
 refine Yd (wpAny_sequenceKey hD.typeIs (by decide) ?_)
 refine Yd (wpAny_callSpecial?_slot (name:=Str.ofString "__delitem__") hD.typeIs PySem.F.slot_dict_delitem
  (call_meetsIn PySem.F.slot_dict_delitem hD.typeIs PySem.F.entry_dict_delitem (PySem.F.args_dict_delitem_2 _ _) (meets_dict_delitem_pairs (SK w) a hk) ⟨kvs,hD,Ye hz (by decide),hv,fun h' hmm hs=>?_⟩))
 exact Yn (q h' _ (fun b o hb e=>(hs.2 b hb).trans e) (isDict hmm))
theorem s_popL {y:Value} {o:Expr} (ha:Is h a (ListP (ys++[y]))) (hz:ys.length≤1000) (e1:Ev w A E env o (.ref a) (sh g t h))
  (q:∀ h' t',(∀ b o,b≠a→h.get? b=some o→h'.get? b=some o)→Is h' a (ListP ys)→Q y (sh g t' h'))
  (hbase:autoParam (attributeBase o "pop" env (eval o env)=eval o env) tR) (hline:autoParam ((apos.endLine == pos.line)=true) tR) :
  wpAny (model P w) A (eval (.Call (.Attribute o "pop" apos) [] [] pos) env) Q E (sh g t h):=by
 obtain ⟨ob,ho,nt,rfl⟩:=ha
 refine wpAny_Call_method0_late hbase hline (e1 _ ⟨"list", "list.pop",F.plainAttrs_list,F.slot_list_pop,F.type_list_pop,⟨_,ho,rfl⟩,?_,?_⟩)
 ·rintro a ⟨⟩
  exact ⟨_,ho,rfl⟩
 ·refine P.pop_list ho (y:=y) (by simp) ?_ (by simp only [List.size_toArray,Zw,List.length_singleton]; rw [sizeLine_eq]; exact Nat.lt_of_le_of_lt ‹_› (by decide))
  have e:=IsL.update ho (fun xs=>xs.eraseIdxIfInBounds ((ys++[y]).toArray.size - 1))
  have e1:(ys++[y]).toArray.eraseIdxIfInBounds ((ys++[y]).toArray.size - 1)=ys.toArray:=by
   simp [List.eraseIdx_append_of_length_le]
  rw [e1] at e
  exact q _ _ (fun b o hb e=>(Zm _ _ (Ne.symm hb)).trans e) (isPlain ⟨_,e⟩)
theorem s_last {y:Value} {kd:Nat} (ha:Is h a (ListP (ys++[y]))) (hz:ys.length≤1000) (e1:Ev w A E env value (.ref a) (sh g t h))
  (q:∀ t',Q y (sh g t' h)) (ht:autoParam (∀ o r,letTemporaryGo value o r=pure ()) tI) :
  wpAny (model P w) A (eval (.Subscript value (.UnaryOp .USub (.Constant (.int 1) kd p1) p2) pos) env) Q E (sh g t h):=by
 rw [eval_Subscript]
 refine Yd (e1 _ (Yd (wpAny_holding (wpAny_UnaryOp (wpAny_Constant_int (PySem.P.neg_int (Yd (wpAny_standAt ?_))))))))
 have hT:∀ t',Shared.TypeIs (sh g t' h) (.ref a) "list" := fun _=>ha.list.typeIs
 refine Yd ?_
 rw [getitemInPython_of_ne (hT (t + 1 + 1)).not_modules]
 refine Yd (wpAny_specialOf (hT _) PySem.F.slot_list_getitem.lookup ?_)
 have hy:(ys++[y]).toArray[(ys++[y]).toArray.size - 1]? = some y:=by simp
 have hg:wpAny (model P w) A (getItem (.ref a) (.int (-1) (t + 1))) Q E (sh g (t + 1 + 1) h):=by
  refine wpAny_getItem_list_neg ha.list (by decide) (by simp; lia) (by decide) ?_ (q _)
  have:((-1:Int) + ((ys++[y]).toArray.size:Nat)).toNat=(ys++[y]).toArray.size - 1:=by simp; lia
  rw [this]; exact hy
 have fin:wpAny (model P w) A (operate [.ref a,.int (-1) (t + 1)] (getItem (.ref a) (.int (-1) (t + 1)))) (fun r s3=>wpAny (model P w) A (letTemporaryGo value (.ref a) r >>= fun _=>pure r) Q E s3) E (sh g (t + 1 + 1) h) :=
  wpAny_operating (Ze hg (fun r s3 h3=>Yd (wpAny_of_eq (ht _ r) (Yn h3))) fun _ _ x=>x)
 first
  | exact Yn (Yd fin)
  | exact Yd (Yn (Yd fin))
  | exact Yd fin
noncomputable def stWh (s:Stmt):Expr×List Stmt×List Stmt:=by
 cases s with
 | While t b o _=>exact (t,b,o)
 | _=>exact (default,[],[])
noncomputable def stFor (s:Stmt):List Stmt:=by
 cases s with
 | For _ _ b _ _=>exact b
 | _=>exact []
noncomputable def fcFor:List Stmt:=match (mtp 12 8).2.1[5]? with
 | some s=>stFor s
 | none=>[]
noncomputable def fcOuter:Expr×List Stmt×List Stmt:=match fcFor[1]? with
 | some s=>stWh s
 | none=>(default,[],[])
noncomputable def fcInner:Expr×List Stmt×List Stmt:=match fcOuter.2.1[1]? with
 | some s=>stWh s
 | none=>(default,[],[])
theorem sePs_cons (e:SE) (r:List SE):sePs (e::r)=(e.n,e.p)::sePs r:=rfl
theorem strs_snoc {s:Str} (h:Strs vs (ss++[s])):E2 fun us v=>vs=us++[v]∧Strs us ss∧sOf v=some s:=by
 unfold Strs at h
 rw [Yt] at h
 obtain ⟨us,v',e,h1,h2⟩:=List.map_eq_append_iff.mp h
 obtain ⟨v,rfl,h3⟩:∃ v,v'=[v]∧sOf v=some s:=by
  cases v' with
  | nil=>simp at h2
  | cons v r=>cases r with
   | nil=>exact ⟨v,rfl,by simpa using h2⟩
   | cons _ _=>simp at h2
 exact ⟨us,v,e,h1,h3⟩
theorem ie_SI:isSubtype (.type "StopIteration") (.type "BaseException")=pure true:=by rw [isSubtype_type]; kernel_rfl
theorem nt_SI:isSubtype (.type "type") (.type "tuple")=pure false:=by rw [isSubtype_type]; kernel_rfl
theorem s_callSub {v i:Expr} {p:Pos} (h:wpAny (model P w) A (eval (.Subscript v i p) env) (fun f s1=>wpAny (model P w) A (callWith pos f [] [] []) Q E s1) E s) :
  wpAny (model P w) A (eval (.Call (.Subscript v i p) [] [] pos) env) Q E s:=by
 show wpAny _ A (do callWith pos (← eval (.Subscript v i p) env) [] (backTo pos (starEach [] env)) (backToKw pos (keywordEach [] env))) Q E s
 exact Yd h
noncomputable def fc_inner_S:Prop:=∀ {A:Around} {B:Heap} {L:Addr} {fr:List Env} {g} {nv:Nat→Value} {ns:Nat→Str} {R:Result→Shared→Prop} {l:List (Str×Value)} {h:Heap} {t} {f:Addr} {name qual:Str} {cd pm:Value} {n:Nat} {succ:Nat→List Nat} {a:CycA} {stk:List SE} {seen:List Nat} {vs:List Value} {kvs:List (Str×Value)} {Rst:Fs} (rm:Rm A (n + 2)) (hF:Frs A (envF (mdF 12 8 name qual cd pm .none) L f::fr)) (bs:Bs H0 mg mb) (si0:mg "StopIteration" = none) (si1:mb "StopIteration" = some (.type "StopIteration")) (H:St H0 B (adr fr) [] L l (cycFacts w ns a stk seen vs kvs++Rst) h) (l1:l.lookup ("stack" : Str)=some (.ref a.st)) (l2:l.lookup ("itstack" : Str)=some (.ref a.il)) (l3:l.lookup ("node2stacki" : Str)=some (.ref a.nd)) (hvs:Strs vs (stk.reverse.map fun e=>ns e.n)) (hkv:kvs.map (·.1)=stk.reverse.map fun e=>ns e.n) (hz:stk.length≤1000) (old:∀ e∈stk,Ob (adr fr) B e.sa (ListP ((succ e.n).map nv))) (k0:pops succ (sePs stk)=none→∀ h' t',St H0 B (adr fr) [] L l (cycFacts w ns a [] seen [] []++Rst) h'→R (.ok .brk) (sh g t' h')) (k1:∀ q ps,pops succ (sePs stk)=some (q,ps)→∀ h' t' stk' vs' kvs',sePs stk'=ps→St H0 B (adr fr) [] L (("node",nv q)::l) (cycFacts w ns a stk' seen vs' kvs'++Rst) h'→Strs vs' (stk'.reverse.map fun e=>ns e.n)→kvs'.map (·.1)=(stk'.reverse.map fun e=>ns e.n)→stk'.length≤stk.length→(∀ e∈stk',Ob (adr fr) B e.sa (ListP ((succ e.n).map nv)))→R (.ok .next) (sh g t' h')),codeAny (model P w) A (.whileLoop fcInner.1 fcInner.2.1 fcInner.2.2 (envF (mdF 12 8 name qual cd pm .none) L f)) R (sh g t h)
end
namespace fc_inner
def zq0:=fun zk0=>(by
 intro A B L fr g nv ns R l h t f name qual cd pm n succ a stk seen vs kvs Rst rm hF bs si0 si1 H l1 l2 l3 hvs hkv hz old k0 k1
 refine codeAny_whileLoop (fun m s=>E5 fun h t stk' vs kvs=>A8 (s=(sh g t h)) (m=stk'.length) (St H0 B (adr fr) [] L l (cycFacts w ns a stk' seen vs kvs++Rst) h) (Strs vs (stk'.reverse.map fun e=>ns e.n)) (kvs.map (·.1)=(stk'.reverse.map fun e=>ns e.n)) (stk'.length≤stk.length) ((∀ e∈stk',Ob (adr fr) B e.sa (ListP ((succ e.n).map nv)))) (pops succ (sePs stk')=pops succ (sePs stk))) ?_ stk.length ⟨h,t,stk,vs,kvs,rfl,rfl,H,hvs,hkv,Zf _,old,rfl⟩
 rintro m s ⟨h,t,stk',vs,kvs,rfl,rfl,H,hvs,hkv,hle,old,hp⟩
 have hvl:=hvs.len
 rw [Yp,List.length_reverse] at hvl
 refine Zv (s_ld H (wpAny_truthy_list (H.at (i:=0) rfl).list (by simp only [List.size_toArray]; lia) ?_) (hv:=l1))
 cases stk' with
 | nil =>
  have ev:vs=[]:=by
   have:vs.length=0:=hvl
   exact List.length_eq_zero_iff.mp this
  have ek:kvs=[]:=by simpa using hkv
  subst ev ek
  rw [if_neg (by simp)]
  exact Yh (wpAny_Break (k0 (by rw [← hp]; rfl) h _ H))
 | cons e r =>
  have hne:(!vs.toArray.isEmpty)=true:=by cases vs<;>simp_all
  rw [hne,if_pos rfl]
  rw [sePs_cons] at hp
  rw [List.reverse_cons,Yt] at hvs hkv
  obtain ⟨us,v,rfl,hus,hv⟩:=strs_snoc hvs
  refine Yh (wpAny_Try_except ?_)
  have ie:Is h a.il (ListP ((r.reverse.map fun e=>Value.ref e.bm)++[.ref e.bm])):=by
   have:=H.at (i:=1) rfl
   rwa [List.reverse_cons,Yt] at this
  have iI:Is h e.it (IterP e.sa e.p):=H.at (i:=4) rfl
  have iW:Is h e.bm (WrapP "list_iterator.__next__" (.ref e.it)):=H.at (i:=5) rfl
  have iS:Is h e.sa (ListP ((succ e.n).map nv)):=H.old (old e Yc)
  rename_i zi0_0 zi0_1 zi0_2 zi0_3; clear zi0_0 zi0_1 zi0_2 zi0_3
  revert rm hF bs si0 si1 l1 l2 l3 hz k0 k1 hkv hle old hp H hvs hvl hne hus hv ie iI iW iS
  have zd0:Nat:=0
  have zd1:Nat:=0
  have zd2:Nat:=0
  have zd3:Nat:=0
  have zd4:Nat:=0
  have zd5:Nat:=0
  have zd6:Nat:=0
  revert A B L fr g nv ns R l f name qual cd pm n succ a stk seen Rst h t kvs e r us v zd0 zd1 zd2 zd3 zd4 zd5 zd6
  exact zk0:fc_inner_S)
namespace zp0
@[irreducible] def zc:=pick34 zq0 (by (repeat any_goals apply np)<;>first | exact neW | exact neA | exact neD | exact neS | infer_instance | exact ⟨by constructor<;>exact default⟩)
def A:=zc.1.1
def B:=zc.1.2.1
def L:=zc.1.2.2.1
def fr:=zc.1.2.2.2.1
def g:=zc.1.2.2.2.2.1
def nv:=zc.1.2.2.2.2.2.1
def ns:=zc.1.2.2.2.2.2.2
def R:=zc.2.1.1
def l:=zc.2.1.2.1
def f:=zc.2.1.2.2.1
def name:=zc.2.1.2.2.2.1
def qual:=zc.2.1.2.2.2.2.1
def cd:=zc.2.1.2.2.2.2.2.1
def pm:=zc.2.1.2.2.2.2.2.2
def n:=zc.2.2.1.1
def succ:=zc.2.2.1.2.1
def a:=zc.2.2.1.2.2.1
def stk:=zc.2.2.1.2.2.2.1
def seen:=zc.2.2.1.2.2.2.2.1
def Rst:=zc.2.2.1.2.2.2.2.2.1
def h:=zc.2.2.1.2.2.2.2.2.2
def t:=zc.2.2.2.1.1
def kvs:=zc.2.2.2.1.2.1
def e:=zc.2.2.2.1.2.2.1
def r:=zc.2.2.2.1.2.2.2.1
def us:=zc.2.2.2.1.2.2.2.2.1
def v:=zc.2.2.2.1.2.2.2.2.2.1
def zd0:=zc.2.2.2.1.2.2.2.2.2.2
def zd1:=zc.2.2.2.2.1
def zd2:=zc.2.2.2.2.2.1
def zd3:=zc.2.2.2.2.2.2.1
def zd4:=zc.2.2.2.2.2.2.2.1
def zd5:=zc.2.2.2.2.2.2.2.2.1
def zd6:=zc.2.2.2.2.2.2.2.2.2
def zq :=
 all34 zq0 A B L fr g nv ns R l f name qual cd pm n succ a stk seen Rst h t kvs e r us v zd0 zd1 zd2 zd3 zd4 zd5 zd6 (by with_unfolding_all rfl) (by
 intro rm hF bs si0 si1 l1 l2 l3 hz k0 k1 hkv hle old hp H hvs hvl hne hus hv ie iI iW iS
 have hrl:r.length < 1000:=by simp only [List.length_cons] at hle; exact Nat.lt_of_lt_of_le hle hz
 have hrb:(r.reverse.map fun e=>Value.ref e.bm).length≤1000:=by simp; exact Nat.le_of_lt hrl
 refine Yh (Yq (s_callSub (s_last ie hrb (fun Q q=>s_ld H q (hv:=l2)) fun t1=>wr_callWith iW ?_)))
 cases hx:(succ e.n)[e.p]? with
 | some q =>
  refine wr_item iW iI iS (x:=nv q) (by rw [Zc,hx]; rfl) fun h₁ i1 k₁=>?_
  have H1:=H.upd 4 rfl k₁ i1
  refine s_st H1 fun h₂ t2 H2=>?_
  refine Yh (wpAny_Break ?_)
  have hpe:pops succ (sePs stk)=some (q,(e.n,e.p + 1)::sePs r):=by
   rw [← hp]
   show (match (succ e.n)[e.p]? with | some q=>some (q,(e.n,e.p + 1)::sePs r) | none=>pops succ (sePs r))=_
   rw [hx]
  have eF:((cycFacts w ns a (e::r) seen (us++[v]) kvs++Rst).set 4 (e.it,IterP e.sa (e.p + 1)))=cycFacts w ns a (⟨e.n,e.p + 1,e.sa,e.it,e.bm⟩::r) seen (us++[v]) kvs++Rst:=by
   simp [cycFacts,seF]
  rw [eF] at H2
  refine k1 q _ hpe h₂ _ (⟨e.n,e.p + 1,e.sa,e.it,e.bm⟩::r) _ _ rfl H2 ?_ ?_ hle fun e' he'=>?_
  ·rw [List.reverse_cons,Yt]
   show List.map sOf (us++[v])=_
   rw [Yt,hus,Yt]
   simp [hv]
  ·rw [hkv,List.reverse_cons,Yt]; rfl
  ·rcases Yu.mp he' with rfl | he'
   ·exact old e Yc
   ·exact old e' (Yb _ he')
 | none =>
  refine wr_end rm.1 iW iI iS (by rw [Zc,hx]; rfl) fun h₁ h₂ ex k₁ _ x2=>?_
  have eF0:cycFacts w ns a (e::r) seen (us++[v]) kvs++Rst=[(a.st,ListP (us++[v])),(a.il,ListP ((r.reverse.map fun e=>Value.ref e.bm)++[.ref e.bm])),(a.se,SetP w (fun s=>seen.any fun i=>ns i == s) seen.length),(a.nd,DictP w kvs)]++(e.it,IterP e.sa e.p)::((e.bm,WrapP "list_iterator.__next__" (.ref e.it))::(r.flatMap seF++Rst)):=by
   simp [cycFacts,seF]
  have nIt:=H.fresh (i:=4) rfl
  have nd:(kvs.map (·.1)).Nodup:=by
   obtain ⟨o,_,es,ep,_,_,_,_,q⟩:=H.at (i:=3) rfl
   exact q
  rw [eF0] at H
  have H1:=(H.dropM nIt k₁).sub (F':=[(a.st,ListP (us++[v])),(a.il,ListP ((r.reverse.map fun e=>Value.ref e.bm)++[.ref e.bm])),(a.se,SetP w (fun s=>seen.any fun i=>ns i == s) seen.length),(a.nd,DictP w kvs)]++(r.flatMap seF++Rst)) ((List.sublist_cons_self _ _).append_left _) (fun _ _ m=>by simp at m)
  refine fl_note hF H1.al rfl x2 fun h₃ x3=>?_
  refine fl_land x3 H1.al fun h4 x4=>?_
  have H4:=H1.call x4.kp
  refine wpAny_handleBy_builtin (T := "StopIteration") (X := "StopIteration") (b:=true) ie_SI nt_SI (by rw [isSubtype_type]; kernel_rfl) (s_bname bs H4.low si0 si1 ⟨rfl,x4.typeIs,?_⟩)
  refine fl_land x4 H1.al fun h5 x5=>?_
  have H5:=H1.call x5.kp
  refine Yh (wpAny_Delete (wpAny_deleteEach_cons (wpAny_delete_Subscript (s_ld H5 (s_popL (H5.at (i:=0) rfl) (by have:=hus.len; simp at this; lia) (fun Q q=>s_ld H5 q (hv:=l1)) fun h6 t6 k6 i6=>?_) (hv:=l3)))))
  have H6:=H5.upd 0 rfl k6 i6
  obtain ⟨wl,wv⟩:=without_last hkv nd
  refine s_delD (H6.at (i:=3) rfl) (sOf_isK hv) (by have:=congrArg List.length hkv; simp at this; lia) wv fun h7 t7 k7 i7=>?_
  have H7:=H6.upd 3 rfl k7 i7
  refine wpAny_deleteEach_nil ?_
  refine Yh (wpAny_Expr_any (s_popL (H7.at (i:=1) rfl) hrb (fun Q q=>s_ld H7 q (hv:=l2)) fun h8 t8 k8 i8=>?_))
  have H8:=H7.upd 1 rfl k8 i8
  refine Ym (Ym ⟨r.length,Nat.lt_succ_self _,h8,_,r,us,without kvs (ns e.n),rfl,rfl,H8,hus,wl,Ye (Nat.le_succ _) hle,fun e' he'=>old e' (Yb _ he'),?_⟩)
  rw [← hp]
  show _=(match (succ e.n)[e.p]? with | some q=>some (q,(e.n,e.p + 1)::sePs r) | none=>pops succ (sePs r))
  rw [hx])
end zp0
end fc_inner
section
variable {A:Around} {g:Array GenState} {K:Frag} {CN:Addr} {nv:Nat→Value} {N:Nat} {E Q:Value→Shared→Prop} {nodes:Nodes} {m:PN×Ad} {α:Type} {n2i:Addr} {expr:Bool} {n:Nat} {l:List (Str×Value)} {i:Nat} {s:Shared} {h:Heap} {t:Nat}
theorem fc_inner:fc_inner_S:=@Wr.out _ fc_inner.zp0.zq
theorem any_ns {ns:Nat→Str} (nm:Nm nv ns N) {seen:List Nat} (hs:∀ j∈seen,j < N) (hi:i < N):(seen.any fun j=>ns j == ns i)=seen.any fun j=>j == i:=by
 induction seen with
 | nil=>rfl
 | cons j r ih =>
  rw [List.any_cons,List.any_cons,ih fun k hk=>hs k (Yb _ hk)]
  congr 1
  by_cases q:j=i
  ·rw [q]; simp
  ·rw [Zp.mpr q,Zp.mpr fun e=>q (nm.inj _ _ (hs j Yc) hi e)]
theorem s_suGetO (nk:NodeK K H0 CN) (X:K.In h) (ob:∀ y∈ndF nv CN m,Is h y.1 y.2) (q:∀ t',Q (.ref m.2.2.2) (sh g t' h)) :
  wpAny (model P w) A (getAttr (.ref m.2.1) "successors" expr) Q E (sh g t h):=by
 obtain ⟨p,S⟩:=nk.s2
 obtain ⟨o,e,t1,r⟩:=ob _ Yc
 exact i_getS nk.k X S ⟨o,e,r⟩ (ob _ (Yb _ Yc)).tt rfl rfl q
theorem pops_mem {succ:Nat→List Nat}:∀ {l:List (Nat×Nat)} {q:Nat} {ps:List (Nat×Nat)},pops succ l=some (q,ps)→(∃ x∈l,q∈succ x.1)∧∀ y∈ps,∃ x∈l,x.1=y.1
 | [],_,_,h=>by cases h
 | (n,p)::r,q,ps,h=>by
  unfold pops at h
  cases hx:(succ n)[p]? with
  | some q' =>
   rw [hx] at h
   simp only [Option.some.injEq,Prod.mk.injEq] at h
   obtain ⟨rfl,rfl⟩:=h
   refine ⟨⟨(n,p),Yc,Yr hx⟩,fun y hy=>?_⟩
   rcases Yu.mp hy with rfl | hy
   ·exact ⟨(n,p),Yc,rfl⟩
   ·exact ⟨y,Yb _ hy,rfl⟩
  | none =>
   rw [hx] at h
   obtain ⟨⟨x,hx1,hx2⟩,h2⟩:=pops_mem h
   exact ⟨⟨x,Yb _ hx1,hx2⟩,fun y hy=>(by obtain ⟨x,a,b⟩:=h2 y hy; exact ⟨x,Yb _ a,b⟩)⟩
theorem suOf_inv (inv:InvS N (shapeN nodes)) {q:Nat} (h:q∈suOf (nodes.map (·.1)) n):q < N∧(nodes.map (·.1)).any (fun p=>p.i == q)=true:=by
 unfold suOf at h
 rw [List.find?_map] at h
 cases hf:nodes.find? ((fun p:PN=>p.i == n) ∘ fun x=>x.1) with
 | none=>rw [hf] at h; simp at h
 | some m =>
  rw [hf] at h
  have hm:=List.mem_of_find?_eq_some hf
  have:=(inv (m.1.i,m.1.su,m.2) (Yx.mpr ⟨m,hm,rfl⟩)).2.2 q h
  rwa [shape_any] at this
theorem perm6 (b i x0 x1 x2 x3:α) (Y:List α):(b::i::x0::x1::x2::x3::Y).Perm (x0::x1::x2::x3::i::b::Y) :=
 ((Zi (l₁:=[b,i]) (l₂:=[x0,x1,x2,x3])).trans ((List.Perm.swap i b []).append_left [x0,x1,x2,x3])).append_right Y
structure LkC (l:List (Str×Value)) (a:CycA) (n2i:Addr):Prop where
 st:l.lookup ("stack" : Str)=some (.ref a.st)
 il:l.lookup ("itstack" : Str)=some (.ref a.il)
 se:l.lookup ("seen" : Str)=some (.ref a.se)
 nd:l.lookup ("node2stacki" : Str)=some (.ref a.nd)
 n2:l.lookup ("n2i" : Str)=some (.ref n2i)
theorem LkC.node {a:CycA} (h:LkC l a n2i) (v:Value):LkC (("node",v)::l) a n2i:=⟨h.st,h.il,h.se,h.nd,h.n2⟩
theorem ite_rest {c:Prop} [Decidable c] {x y:Sem Flow} {Q:Flow→Shared→Prop} (Mid:Heap→Prop) (rest:∀ h t,Mid h→Q .next (sh g t h))
  (a:c→∀ Q':Flow→Shared→Prop,(∀ h t,Mid h→Q' .next (sh g t h))→wpAny (model P w) A x Q' E s) (b:¬ c→∀ Q':Flow→Shared→Prop,(∀ h t,Mid h→Q' .next (sh g t h))→wpAny (model P w) A y Q' E s) :
  if c then wpAny (model P w) A x Q E s else wpAny (model P w) A y Q E s:=by
 by_cases h:c
 ·rw [if_pos h]; exact a h Q rest
 ·rw [if_neg h]; exact b h Q rest
structure CycN (mg mb:Str→Option Value):Prop where
 si0:mg "StopIteration" = none
 si1:mb "StopIteration" = some (.type "StopIteration")
 it0:mg "iter" = none
 it1:mb "iter" = some (.builtin "iter")
 s0:mg "set" = none
 s1:mb "set" = some (.type "set")
noncomputable def fc_outer_S:Prop:=∀ {A:Around} {B:Heap} {L:Addr} {fr:List Env} {g} {K:Frag} {CS CN:Addr} {nv:Nat→Value} {ns:Nat→Str} {N:Nat} {R:Result→Shared→Prop} {l:List (Str×Value)} {h:Heap} {t} {f:Addr} {name qual:Str} {cd pm:Value} {n2i:Addr} {n fuel node:Nat} {nodes:Nodes} {a:CycA} {seen fin1:List Nat} {v:Value} {Rst:Fs} (rm:Rm A (n + 2)) (hF:Frs A (envF (mdF 12 8 name qual cd pm .none) L f::fr)) (V:SrtEnv2 K H0 mg mb CN CS nv ns N) (CN':CycN mg mb) (inv:InvS N (shapeN nodes)) (oN:∀ m∈nodes,∀ y∈ndF nv CN m,Ob (adr fr) B y.1 y.2) (oD:Ob (adr fr) B n2i (DictP w (kvsOf ns nodes))) (H:St H0 B (adr fr) [] L l (cycFacts w ns a [] seen [] []++Rst) h) (lk:LkC l a n2i) (hl:l.lookup ("node" : Str)=some v) (hv:sOf v=some (ns node)) (hn:node < N∧(nodes.map (·.1)).any (fun p=>p.i == node)=true) (hs:∀ j∈seen,j < N) (hz:seen.length + fuel≤900) (hw:walkF (suOf (nodes.map (·.1))) fuel node seen []=some fin1) (k:∀ h' t' l',St H0 B (adr fr) [] L l' (cycFacts w ns a [] fin1 [] []++Rst) h'→LkC l' a n2i→(∀ j∈fin1,j < N)→fin1.length≤seen.length + fuel→R (.ok .next) (sh g t' h')),codeAny (model P w) A (.whileLoop fcOuter.1 fcOuter.2.1 fcOuter.2.2 (envF (mdF 12 8 name qual cd pm .none) L f)) R (sh g t h)
end
namespace fc_outer
def zq0:=fun zk0=>(by
 intro A B L fr g K CS CN nv ns N R l h t f name qual cd pm n2i n fuel node nodes a seen fin1 v Rst rm hF V CN' inv oN oD H lk hl hv hn hs hz hw k
 generalize hsucc:suOf (nodes.map (·.1))=succ at hw
 refine codeAny_whileLoop (fun m s=>E9 fun h t l node v sn stk vs kvs=>A14 (s=(sh g t h)) (St H0 B (adr fr) [] L l (cycFacts w ns a stk sn vs kvs++Rst) h) (LkC l a n2i) (l.lookup ("node" : Str)=some v) (sOf v=some (ns node)) (node < N∧(nodes.map (·.1)).any (fun p=>p.i == node)=true) ((∀ j∈sn,j < N)) (sn.length + m≤seen.length + fuel) (walkF succ m node sn (sePs stk)=some fin1) (Strs vs (stk.reverse.map fun e=>ns e.n)) (kvs.map (·.1)=(stk.reverse.map fun e=>ns e.n)) (stk.length≤sn.length) ((∀ e∈stk,Ob (adr fr) B e.sa (ListP ((succ e.n).map nv)))) ((∀ e∈stk,e.n∈sn))) ?_ fuel ⟨h,t,l,node,v,seen,[],[],[],rfl,H,lk,hl,hv,hn,hs,Zf _,hw,rfl,rfl,Zs _,fun _ m=>(nomatch m),fun _ m=>(nomatch m)⟩
 rintro m s ⟨h,t,l,node,v,sn,stk,vs,kvs,rfl,H,lk,hl,hv,hn,hs,hz',hw,hvs,hkv,hle,old,hsub⟩
 cases m with
 | zero=>cases hw
 | succ m =>
 have hS:(fun s=>sn.any fun i=>ns i == s) (ns node)=sn.any fun i=>i == node:=any_ns V.nm hs hn.1
 refine Zv (wpAny_Constant_bool (Yi ?_))
 rw [if_pos rfl]
 refine Yh (Zh (Yg (s_ld H (s_ld H (s_inSet (H.at (i:=2) rfl) hv fun t₁=>Yi ?_) (hv:=lk.se)) (hv:=hl))))
 have hS:(sn.any fun i=>ns i == ns node)=sn.any fun i=>i == node:=hS
 rw [hS]
 have hkey:ns node∈kvs.map (·.1)→∃ e∈stk,e.n=node:=fun hm=>by
  rw [hkv] at hm
  obtain ⟨e,he,q⟩:=Yx.mp hm
  have he':=List.mem_reverse.mp he
  exact ⟨e,he',V.nm.inj _ _ (hs _ (hsub e he')) hn.1 q⟩
 rename_i zi0_0 zi0_1 zi0_2 zi0_3 zi0_4 zi0_5 zi0_6 zi0_7; clear zi0_0 zi0_1 zi0_2 zi0_3 zi0_4 zi0_5 zi0_6 zi0_7
 revert rm hF V CN' inv oN oD hz k hsucc H lk hl hv hn hs hvs hkv hle old hsub hz' hw hS hkey
 have zd0:Nat:=0
 have zd1:Nat:=0
 have zd2:Nat:=0
 revert A B L fr g K CS CN nv ns N R f name qual cd pm n2i n fuel nodes a seen fin1 Rst succ h l node v sn stk vs kvs m t₁ zd0 zd1 zd2
 exact zk0:fc_outer_S)
namespace zp0
@[irreducible] def zc:=pick39 zq0 (by (repeat any_goals apply np)<;>first | exact neW | exact neA | exact neD | exact neS | infer_instance | exact ⟨by constructor<;>exact default⟩)
def A:=zc.1.1
def B:=zc.1.2.1
def L:=zc.1.2.2.1
def fr:=zc.1.2.2.2.1
def g:=zc.1.2.2.2.2.1
def K:=zc.1.2.2.2.2.2.1
def CS:=zc.1.2.2.2.2.2.2
def CN:=zc.2.1.1
def nv:=zc.2.1.2.1
def ns:=zc.2.1.2.2.1
def N:=zc.2.1.2.2.2.1
def R:=zc.2.1.2.2.2.2.1
def f:=zc.2.1.2.2.2.2.2.1
def name:=zc.2.1.2.2.2.2.2.2
def qual:=zc.2.2.1.1
def cd:=zc.2.2.1.2.1
def pm:=zc.2.2.1.2.2.1
def n2i:=zc.2.2.1.2.2.2.1
def n:=zc.2.2.1.2.2.2.2.1
def fuel:=zc.2.2.1.2.2.2.2.2.1
def nodes:=zc.2.2.1.2.2.2.2.2.2
def a:=zc.2.2.2.1.1
def seen:=zc.2.2.2.1.2.1
def fin1:=zc.2.2.2.1.2.2.1
def Rst:=zc.2.2.2.1.2.2.2.1
def succ:=zc.2.2.2.1.2.2.2.2.1
def h:=zc.2.2.2.1.2.2.2.2.2.1
def l:=zc.2.2.2.1.2.2.2.2.2.2
def node:=zc.2.2.2.2.1.1
def v:=zc.2.2.2.2.1.2.1
def sn:=zc.2.2.2.2.1.2.2.1
def stk:=zc.2.2.2.2.1.2.2.2.1
def vs:=zc.2.2.2.2.1.2.2.2.2.1
def kvs:=zc.2.2.2.2.1.2.2.2.2.2.1
def m:=zc.2.2.2.2.1.2.2.2.2.2.2
def t₁:=zc.2.2.2.2.2.1
def zd0:=zc.2.2.2.2.2.2.1
def zd1:=zc.2.2.2.2.2.2.2.1
def zd2:=zc.2.2.2.2.2.2.2.2
def zq :=
 all39 zq0 A B L fr g K CS CN nv ns N R f name qual cd pm n2i n fuel nodes a seen fin1 Rst succ h l node v sn stk vs kvs m t₁ zd0 zd1 zd2 (by with_unfolding_all rfl) (by
 intro rm hF V CN' inv oN oD hz k hsucc H lk hl hv hn hs hvs hkv hle old hsub hz' hw hS hkey
 unfold walkF at hw
 refine ite_rest (g:=g) (fun h'=>E4 fun sn' stk' vs' kvs'=>A9 (St H0 B (adr fr) [] L l (cycFacts w ns a stk' sn' vs' kvs'++Rst) h') ((∀ j∈sn',j < N)) (sn'.length + m≤seen.length + fuel) ((match pops succ (sePs stk') with | none=>some sn' | some (q,stk')=>walkF succ m q sn' stk')=some fin1) (Strs vs' (stk'.reverse.map fun e=>ns e.n)) (kvs'.map (·.1)=(stk'.reverse.map fun e=>ns e.n)) (stk'.length≤sn'.length) ((∀ e∈stk',Ob (adr fr) B e.sa (ListP ((succ e.n).map nv)))) ((∀ e∈stk',e.n∈sn'))) (fun h' t' mid=>?_) (fun hc QQ qn=>?_) (fun hc QQ qn=>?_)
 ·obtain ⟨sn',stk',vs',kvs',H',hs',hz'',hw',hvs',hkv',hle',old',hsub'⟩:=mid
  refine Yh (wpAny_While ?_)
  refine fc_inner rm hF V.bs CN'.si0 CN'.si1 H' lk.st lk.il lk.nd hvs' hkv' (by lia) old' (fun hp h1 t₁ H1=>?_) (fun q ps hp h1 t₁ stk1 vs1 kvs1 e1 H1 hv1 hk1 hl1 ol1=>?_)
  ·rw [hp] at hw'
   obtain rfl:=Zj hw'
   exact k h1 t₁ l H1 lk hs' (by exact Ye (Nat.le_add_right _ _) ‹_›)
  ·rw [hp] at hw'
   obtain ⟨⟨x,hx1,hx2⟩,hps⟩:=pops_mem hp
   have hq:=suOf_inv inv (n:=x.1) (by rw [hsucc]; exact hx2)
   refine Ym ⟨m,Nat.lt_succ_self m,h1,_,_,q,nv q,sn',stk1,vs1,kvs1,rfl,H1,lk.node _,rfl,V.nm.sOf hq.1,hq,hs',hz'',by rw [e1]; exact hw',hv1,hk1,Ye hl1 hle',ol1,fun e he=>?_⟩
   obtain ⟨y,hy,ey⟩:=hps (e.n,e.p) (e1 ▸ Yx.mpr ⟨e,he,rfl⟩)
   obtain ⟨e',he',rfl⟩:=Yx.mp hy
   have:=hsub' e' he'
   rwa [show e'.n=e.n from ey] at this
 ·rw [if_pos hc] at hw
  cases hst:(sePs stk).any (fun e=>e.1 == node) with
  | true=>rw [hst,if_pos rfl] at hw; cases hw
  | false =>
   rw [hst,if_neg Yk] at hw
   have hk:(valueAt kvs (ns node)).isSome=false:=by
    unfold valueAt
    cases hq:kvs.find? (fun kv=>decide (kv.1=ns node)) with
    | none=>rfl
    | some kv =>
     obtain ⟨e,he,q⟩:=hkey (Yx.mpr ⟨kv,List.mem_of_find?_eq_some hq,by simpa using List.find?_some hq⟩)
     have:(sePs stk).any (fun e=>e.1 == node)=true:=List.any_eq_true.mpr ⟨(e.n,e.p),Yx.mpr ⟨e,he,rfl⟩,by simpa using q⟩
     rw [hst] at this; cases this
   refine Yh (Zh (Yg (s_ld H (s_ld H (wpAny_in_of (knd:=SK w) (sOf_isK hv) (V.bs.ns (H.hi (a.nd,_) (Yr (i:=3) rfl))) (H.at (i:=3) rfl).dict.mapOf (Yi ?_)) (hv:=lk.nd)) (hv:=hl))))
   rw [hk,if_neg Yk]
   exact Ym (Ym (qn _ _ ⟨sn,stk,vs,kvs,H,hs,by exact Nat.le_of_lt ‹_›,hw,hvs,hkv,hle,old,hsub⟩))
 ·rw [if_neg hc] at hw
  have hc':(sn.any fun i=>i == node)=false:=Bool.eq_false_iff.mpr hc
  obtain ⟨mm,hm⟩:=find_of hn.2
  obtain ⟨em,l1,l2,en,_⟩:=find_split hm
  have hmm:=List.mem_of_find?_eq_some hm
  have esu:succ node=mm.1.su:=by rw [← hsucc]; exact (npOf_node hm).2
  have hvl:=hvs.len
  rw [Yp,List.length_reverse] at hvl
  have hkl:=congrArg List.length hkv
  rw [Yp,Yp,List.length_reverse] at hkl
  refine Yh (wpAny_Expr_any (s_addSet (H.at (i:=2) rfl) hv (by lia) (hS.trans hc') (fun Q q=>s_ld H q (hv:=lk.se)) (fun Q q=>s_ld H q (hv:=hl)) fun h1 t₁ k1 i1=>?_))
  have eS:(fun k=>(sn.any fun i=>ns i == k) || decide (k=ns node))=fun s=>(node::sn).any fun i=>ns i == s:=by
   funext s
   rw [List.any_cons,Bool.or_comm]
   congr 1
   by_cases q:s=ns node
   ·rw [q]; simp
   ·rw [decide_eq_false q,Zp.mpr (Ne.symm q)]
  rw [eS] at i1
  have H1:=H.upd 2 rfl k1 (p':=SetP w (fun s=>(node::sn).any fun i=>ns i == s) (node::sn).length) i1
  refine Yh (wpAny_Expr_any (wpAny_Call_append (by rfl) (by rfl) (by rfl) (by rfl) (s_ld H1 ⟨_,_,rfl,(H1.at (i:=1) rfl).plainL,?_⟩ (hv:=lk.il))))
  have wf:=inv.wf
  refine Attribute_any_ (Zb (s_bname V.bs H1.low CN'.it0 CN'.it1 (callWith_builtin rfl (Zx (Yz (Attribute_any_ (Zk (s_ld H1 (s_ld H1 (s_dat (H1.old oD) (k:=ns node) (sOf_isK hv) (val_of V.nm wf hn.1 hm) fun t2=>?_) (hv:=hl)) (hv:=lk.n2)))))))))
  refine s_suGetO V.nk (V.X0.keeps H1.low) (fun y hy=>H1.old (oN mm hmm y hy)) fun t3=>Zn ?_
  have oS:Ob (adr fr) B mm.2.2.2 (ListP (mm.1.su.map nv)):=oN mm hmm (mm.2.2.2,_) (Yb _ (Yb _ Yc))
  refine s_iterB (H1.old oS) ?_
  have H2:=H1.push { cls:=.type "list_iterator",data:=.fields #[.ref mm.2.2.2,.int 0 0] } (p:=fun o=>o = { cls:=.type "list_iterator",data:=.fields #[.ref mm.2.2.2,.int 0 0] }) rfl
  generalize h1.objs.size=it at H2
  generalize (h1.push { cls:=.type "list_iterator",data:=.fields #[.ref mm.2.2.2,.int 0 0] })=h₂ at H2 ⊢
  obtain ⟨oi,ei,rfl⟩:=H2.at (i:=0) rfl
  refine s_getNext ei fun t4=>?_
  have H3:=H2.push { cls:=.type "method-wrapper",data:=.fields #[.builtin "list_iterator.__next__",.ref it] } (p:=WrapP "list_iterator.__next__" (.ref it)) rfl
  have H3':=H3.upd 1 rfl (fun _ _ _ e=>e) (p':=IterP mm.2.2.2 0) ((H3.at (i:=1) rfl).mono fun o q=>by rw [q]; exact ⟨rfl,rfl⟩)
  generalize h₂.objs.size=bm at H3'
  refine wpAny_list_append_plain (H3'.at (i:=3) rfl).plain (fun h4 pl sb4=>?_) (by simp; rw [sizeLine_eq]; lia)
  have H4:=H3'.upd 3 rfl (fun b o hb e=>(sb4.2 b hb).trans e) (p':=ListP ((stk.reverse.map fun e=>Value.ref e.bm)++[.ref bm])) (isPlain (by simpa using pl))
  refine Yh (wpAny_Assign_Subscript (s_lenv V.bs H4.low V.n0 V.n1 (H4.at (i:=2) rfl) (by lia) (fun Q q=>s_ld H4 q (hv:=lk.st)) fun t0 t5=>s_ld H4 (s_ld H4 ?_ (hv:=hl)) (hv:=lk.nd)))
  have nk:ns node ∉ kvs.map (·.1):=fun hmem=>by
   obtain ⟨e,he,q⟩:=hkey hmem
   have:(sn.any fun i=>i == node)=true:=List.any_eq_true.mpr ⟨e.n,hsub e he,by simpa using q⟩
   rw [hc'] at this; cases this
  refine wpAny_setItem_pairs (knd:=SK w) (sOf_isK hv) (H4.at (i:=5) rfl).dict (fun h5 hd5 sb5=>?_) (by rw [sizeLine_eq]; lia)
  rw [stored_new nk] at hd5
  have H5:=H4.upd 5 rfl (fun b o hb e=>(sb5.2 b hb).trans e) (isDict hd5)
  refine Yh (wpAny_Expr_any (wpAny_Call_append (by rfl) (by rfl) (by rfl) (by rfl) (s_ld H5 ⟨_,_,rfl,(H5.at (i:=2) rfl).plainL,s_ld H5 ?_ (hv:=hl)⟩ (hv:=lk.st))))
  refine wpAny_list_append_plain (H5.at (i:=2) rfl).plain (fun h6 pl sb6=>?_) (by simp only [List.size_toArray]; rw [sizeLine_eq]; lia)
  have H6:=H5.upd 2 rfl (fun b o hb e=>(sb6.2 b hb).trans e) (p':=ListP (vs++[v])) (isPlain (by simpa using pl))
  refine Ym (qn _ _ ⟨node::sn,⟨node,0,mm.2.2.2,it,bm⟩::stk,vs++[v],kvs++[(ns node,.int vs.length t0)],H6.perm ?_,?_,?_,hw,?_,?_,?_,?_,?_⟩)
  ·have eT:cycFacts w ns a (⟨node,0,mm.2.2.2,it,bm⟩::stk) (node::sn) (vs++[v]) (kvs++[(ns node,.int vs.length t0)])++Rst=(a.st,ListP (vs++[v]))::(a.il,ListP ((stk.reverse.map fun e=>Value.ref e.bm)++[.ref bm]))::(a.se,SetP w (fun s=>(node::sn).any fun i=>ns i == s) (node::sn).length)::(a.nd,DictP w (kvs++[(ns node,.int vs.length t0)]))::(it,IterP mm.2.2.2 0)::(bm,WrapP "list_iterator.__next__" (.ref it))::(stk.flatMap seF++Rst):=by
    simp [cycFacts,seF]
   rw [eT]
   exact perm6 _ _ _ _ _ _ _
  ·intro j hj
   rcases Yu.mp hj with rfl | hj
   ·exact hn.1
   ·exact hs j hj
  ·rw [List.length_cons]; lia
  ·rw [List.reverse_cons,Yt]
   show List.map sOf (vs++[v])=_
   rw [Yt,hvs,Yt]
   simp [hv]
  ·rw [Yt,hkv,List.reverse_cons,Yt]; rfl
  ·rw [List.length_cons,List.length_cons]; exact Nat.lt_succ_of_le ‹_›
  ·intro e he
   rcases Yu.mp he with rfl | he
   ·rw [esu]; exact oS
   ·exact old e he
  ·intro e he
   rcases Yu.mp he with rfl | he
   ·exact Yc
   ·exact Yb _ (hsub e he))
end zp0
end fc_outer
section
variable {A:Around} {B:Heap} {fa X:List Addr} {L:Addr} {fr:List Env} {g:Array GenState} {K:Frag} {CS CN:Addr} {nv:Nat→Value} {N:Nat} {E:Value→Shared→Prop} {env:Env} {dx:Addr} {name qual:Str} {cd pm:Value} {R:Result→Shared→Prop} {Q:Value→Shared→Prop} {pos:Pos} {nodes:Nodes} {kvs:List (Str×Value)} {m:PN×Ad} {rdv:Value} {expr:Bool} {po:Int} {n2i:Addr} {apos:Pos} {nf:Int} {a f:Addr} {F:Fs} {n:Nat} {l:List (Str×Value)} {i:Nat} {h:Heap} {t:Nat}
theorem fc_outer:fc_outer_S:=@Wr.out _ fc_outer.zp0.zq
theorem cyc_call {g} {ns:Nat→Str} {x:Addr} {t} {fin:List Nat}
  (rm:Rm A (n + 4)) (hfr:Frs A fr) (al:Alive H0 (adr fr) h) (low:∀ a o,H0.get? a=some o→h.get? a=some o) (hf:Fn H0 f (mdF 12 8 name qual cd pm .none))
  (V:SrtEnv2 K H0 mg mb CN CS nv ns N) (CN':CycN mg mb) (inv:InvS N (shapeN nodes)) (hz:nodes.length≤8)
  (hcy:cycF (suOf (nodes.map (·.1))) 100 (nodes.map (·.1.i)) []=some fin)
  (M:Lump H0 (adr fr) h (srtF w nv ns CS CN x dx n2i nodes rdv po nf))
  (hR:∀ h' t',Kp (adr fr) [] h h'→R (.ok (.ret .none)) (sh g t' h')) :
  codeAny (model P w) A (.call (.ref f) ⟨[.ref x],[]⟩) R (sh g t h):=by
 refine s_enterQ V.bs low hf hfr al rm.room rfl (fun Q E q=>by rw [bFC]; exact Yn q) fun env A' h1 t1 QQ EE ee hA qr qn H hF=>?_
 have rm':Rm A' (n + 3):=hA ▸ rm.deeper env
 clear hA
 subst ee
 generalize h.objs.size=L at H hF
 have ob:∀ y∈srtF w nv ns CS CN x dx n2i nodes rdv po nf,Ob (adr fr) h y.1 y.2:=fun y hy=>⟨M.has y hy,M.nf y hy⟩
 have oX:=ob (x,InP CS dx #[]) Yc
 have oS:=ob (dx,SDP n2i rdv po nf) (Yb _ Yc)
 have oD:=ob (n2i,DictP w (kvsOf ns nodes)) (Yb _ (Yb _ Yc))
 have oN:∀ m∈nodes,∀ y∈ndF nv CN m,Ob (adr fr) h y.1 y.2:=fun m hm y hy=>ob y (Yb _ (Yb _ (Yb _ (List.mem_flatMap.mpr ⟨m,hm,hy⟩))))
 have hi2:H0.get? n2i=none:=M.hi (n2i,_) (Yb _ (Yb _ Yc))
 refine Yh (Yq (s_n2i V.sk (V.X0.keeps H.low) (H.old oX) (H.old oS) (fun Q q=>s_ld H q) fun t2=>?_))
 refine s_st H fun h2 t2 H=>?_
 refine Yh (Yq (wpAny_List (Yn ⟨Zs _,?_⟩)))
 replace H:=H.push { cls:=.type "list",data:=.seq ([]:List Value).toArray } (p:=ListP []) ⟨0,rfl⟩
 generalize h2.objs.size=st at H ⊢
 refine s_st H fun h3 t3 H=>?_
 refine Yh (Yq (wpAny_List (Yn ⟨Zs _,?_⟩)))
 replace H:=H.push { cls:=.type "list",data:=.seq ([]:List Value).toArray } (p:=ListP []) ⟨0,rfl⟩
 generalize h3.objs.size=il at H ⊢
 refine s_st H fun h4 t4 H=>?_
 refine Yh (Yq (Zb (s_bname V.bs H.low CN'.s0 CN'.s1 (PySem.callWith_type rfl (PySem.evalArgs_none (s_set0 H fun h5 H=>?_))))))
 generalize h4.objs.size=se at H ⊢
 refine s_st H fun h6 t6 H=>?_
 refine Yh (Yq (s_dict0 H fun h7 H=>?_))
 generalize h6.objs.size=nd at H ⊢
 refine s_st H fun h8 t8 H=>?_
 obtain ⟨ep,he⟩:=oD.1.fixEp
 have oE:Ob (adr fr) h n2i (DictEP w (kvsOf ns nodes) ep):=⟨he,oD.2⟩
 refine Yh (wpAny_For (s_ld H (wpAny_pyIter_dict (V.bs.ns hi2) (H.old oE).dictAt ?_)))
 replace H:=H.push { cls:=.type "dict_keyiterator",data:=.fields #[.ref n2i,.int 0 0,.int (kvsOf ns nodes).length 0,.int ep 0] } (p:=KeyIP n2i 0 (kvsOf ns nodes).length ep) ⟨rfl,rfl⟩
 generalize h8.objs.size=it at H ⊢
 generalize ea:(⟨st,il,se,nd⟩:CycA)=a
 refine s_forQ (Itr.keys rm'.1 it n2i (kvsOf ns nodes) ep) (fun k h'=>E2 fun l seen=>A5 (St H0 h (adr fr) [] L l (cycFacts w ns a [] seen [] []++[(it,KeyIP n2i k (kvsOf ns nodes).length ep)]) h') (LkC l a n2i) ((∀ j∈seen,j < N)) (seen.length≤100 * k) (cycF (suOf (nodes.map (·.1))) 100 ((nodes.map (·.1.i)).drop k) seen=some fin)) (fun k h' j=>?_) (fun k v h' t' h'' QQ' EE' hk hv j hit sb kn kc _ _=>?_) (fun h' t' h'' j sb=>?_) ?_
 ·obtain ⟨l,seen,H',_⟩:=j
  exact ⟨H'.at (i:=4) rfl,H'.old oE⟩
 ·obtain ⟨l,seen,H',lk,hs,hl,hc⟩:=j
  have hkn:k < nodes.length:=by rw [← kvs_len (ns:=ns)]; exact hk
  have hv':sOf v=some (ns nodes[k].1.i):=by
   rw [hv]
   unfold kvsOf
   rw [Zc,Yj hkn]; rfl
  have hN:nodes[k].1.i < N∧(nodes.map (·.1)).any (fun p=>p.i == nodes[k].1.i)=true:=⟨inv.wf _ (List.getElem_mem hkn),List.any_eq_true.mpr ⟨nodes[k].1,Yx.mpr ⟨_,List.getElem_mem hkn,rfl⟩,by simp⟩⟩
  have hd:(nodes.map (·.1.i)).drop k=nodes[k].1.i::(nodes.map (·.1.i)).drop (k + 1):=by
   rw [List.drop_eq_getElem_cons (by simpa using hkn)]; simp
  rw [hd] at hc
  generalize nodes[k].1.i=node at hv' hN hc
  have H1:=H'.upd 4 rfl sb hit
  refine Zl (s_st H1 fun h2 t2 H2=>?_)
  have hS:(seen.any fun i=>ns i == ns node)=seen.any fun i=>i == node:=any_ns V.nm hs hN.1
  refine Yh (Zh (Yg (s_ld H2 (s_ld H2 (s_inSet (H2.at (i:=2) rfl) hv' fun t3=>Yi ?_) (hv:=lk.se)))))
  rw [hS]
  unfold cycF at hc
  cases hb:seen.any fun i=>i == node with
  | true =>
   rw [hb,if_pos rfl] at hc
   rw [if_pos rfl]
   refine Yh (wpAny_Continue (kc _ _ ⟨_,seen,H2,lk.node v,hs,by exact Nat.le_add_right_of_le ‹_›,hc⟩))
  | false =>
   rw [hb,if_neg Yk] at hc
   rw [if_neg Yk]
   refine Ym ?_
   obtain ⟨fin1,hw,hc'⟩:=Zy.mp hc
   refine Yh (wpAny_While ?_)
   refine fc_outer (n:=n) (rm'.le (by exact Za (by decide) _)) hF V CN' inv oN oD H2 (lk.node v) (by rfl) hv' hN hs (by lia) hw fun h3 t3 l3 H3 lk3 hs3 hl3=>?_
   exact Ym (kn _ _ ⟨l3,fin1,H3,lk3,hs3,by lia,hc'⟩)
 ·obtain ⟨l,seen,H',_⟩:=j
  have H1:=H'.dropM (F1:=cycFacts w ns a [] seen [] []) (F2:=[]) (H'.fresh (i:=4) rfl) sb
  refine Yh (Zd (Zg ?_))
  exact qr _ _ (hR h'' _ H1.kp)
 ·subst ea
  exact ⟨_,[],H.perm (List.reverse_perm _).symm,⟨by rfl,by rfl,by rfl,by rfl,by rfl⟩,fun _ m=>(nomatch m),Zs _,hcy⟩
theorem bPR (name qual:Str) (cd pm v:Value):bindArgs (mdF 12 3 name qual cd pm .none) ⟨[v],[]⟩=pure [(("self" : Str),v)]:=by rfl
noncomputable def rdOf (ps:List PN):List Nat:=(ps.filter fun p=>p.np == 0).map (·.i)
theorem s_npGetO (nk:NodeK K H0 CN) (X:K.In h) (ob:∀ y∈ndF nv CN m,Is h y.1 y.2) (q:∀ t0 t',Q (.int m.1.np t0) (sh g t' h)) :
  wpAny (model P w) A (getAttr (.ref m.2.1) "npredecessors" expr) Q E (sh g t h):=by
 obtain ⟨p,S⟩:=nk.s1
 obtain ⟨o,e,t1,r⟩:=ob _ Yc
 exact i_getS nk.k X S ⟨o,e,r⟩ (ob _ (Yb _ Yc)).tt rfl rfl (q t1)
theorem s_noGetO (nk:NodeK K H0 CN) (X:K.In h) (ob:∀ y∈ndF nv CN m,Is h y.1 y.2) (hh:handedIn (nv m.1.i)=true) (q:∀ t',Q (nv m.1.i) (sh g t' h)) :
  wpAny (model P w) A (getAttr (.ref m.2.1) "node" expr) Q E (sh g t h):=by
 obtain ⟨p,S⟩:=nk.s0
 obtain ⟨o,e,t1,r⟩:=ob _ Yc
 exact i_getS nk.k X S ⟨o,e,r⟩ (ob _ (Yb _ Yc)).tt rfl hh q
theorem s_values' {o:Expr} (H:St H0 B fa X L l F h) (ha:Is h a (DictP w kvs)) (hs:(a == sysModules)=false)
  (e1:∀ Q:Value→Shared→Prop,(∀ t',Q (.ref a) (sh g t' h))→wpAny (model P w) A (eval o env) Q E (sh g t h))
  (k:∀ h' t',St H0 B fa X L l ((h.objs.size,ViewP a)::F) h'→Q (.ref h.objs.size) (sh g t' h'))
  (hbase:autoParam (attributeBase o "values" env (eval o env)=eval o env) tR) (hline:autoParam ((apos.endLine == pos.line)=true) tR) :
  wpAny (model P w) A (eval (.Call (.Attribute o "values" apos) [] [] pos) env) Q E (sh g t h):=by
 have hd:=ha.dict
 refine wpAny_Call_method0_late hbase hline (e1 _ fun t'=>⟨"dict", "dict.values",PySem.F.plainAttrs_dict,PySem.F.slot_dict_values,PySem.F.type_dict_values,hd.typeIs,?_,?_⟩)
 ·rintro a ⟨⟩
  obtain ⟨ob,es,ep,e,r,_⟩:=hd
  exact ⟨ob,e,r.2.1⟩
 ·exact method_meetsIn PySem.F.slot_dict_values PySem.F.entry_dict_values rfl (PySem.evalArgs_none ⟨rfl,hd.typeIs,PySem.F.args_dict_values_1 _,_,meets_dict_values (SK w) a hs,⟨kvs,hd⟩,k _ _ (H.push _ ⟨rfl,rfl⟩)⟩)
theorem Nm.handed {ns:Nat→Str} (nm:Nm nv ns N) (h:i < N):handedIn (nv i)=true:=by
 obtain ⟨t,e⟩:=nm.v i h
 rw [e]; rfl
theorem rdOf_snoc (ps:List PN) (i:Nat) (p:PN) (h:ps[i]? = some p):rdOf (ps.take (i + 1))=rdOf (ps.take i)++(if p.np == 0 then [p.i] else []):=by
 unfold rdOf
 rw [List.take_add_one,h,Option.toList_some,List.filter_append,Yt]
 congr 1
 cases q:p.np == 0 with
 | true=>simp [q]
 | false=>simp [q]
theorem rdOf_len (ps:List PN):(rdOf ps).length≤ps.length:=by
 unfold rdOf
 rw [Yp]
 exact List.length_filter_le _ _
noncomputable def prep_call_S:Prop:=∀ {A:Around} {fr:List Env} {g} {K:Frag} {CS CN:Addr} {nv:Nat→Value} {ns:Nat→Str} {N:Nat} {x dx:Addr} {R:Result→Shared→Prop} {h:Heap} {t} {f fc:Addr} {name qual nc qc:Str} {cd pm cc pc:Value} {n2i:Addr} {n:Nat} {nodes:Nodes} {po nf:Int} {fin:List Nat} (rm:Rm A (n + 6)) (hfr:Frs A fr) (al:Alive H0 (adr fr) h) (low:∀ a o,H0.get? a=some o→h.get? a=some o) (hf:Fn H0 f (mdF 12 3 name qual cd pm .none)) (V:SrtEnv2 K H0 mg mb CN CS nv ns N) (CN':CycN mg mb) (MC:MethK K CS "_find_cycle" fc) (hfc:Fn H0 fc (mdF 12 8 nc qc cc pc .none)) (inv:InvS N (shapeN nodes)) (hz:nodes.length≤8) (hcy:cycF (suOf (nodes.map (·.1))) 100 (nodes.map (·.1.i)) []=some fin) (M:Lump H0 (adr fr) h (srtF w nv ns CS CN x dx n2i nodes .none po nf)) (hR:∀ h' t' rd,Step (adr fr) h (srtF w nv ns CS CN x dx n2i nodes .none po nf) h' (srtF w nv ns CS CN x dx n2i nodes (.ref rd) po nf++[(rd,ListP ((rdOf (nodes.map (·.1))).map nv))])→R (.ok (.ret .none)) (sh g t' h')),codeAny (model P w) A (.call (.ref f) ⟨[.ref x],[]⟩) R (sh g t h)
end
namespace prep_call
def zq0:=fun zk0=>(by
 intro A fr g K CS CN nv ns N x dx R h t f fc name qual nc qc cd pm cc pc n2i n nodes po nf fin rm hfr al low hf V CN' MC hfc inv hz hcy M hR
 refine s_enterQ V.bs low hf hfr al rm.room rfl (fun Q E q=>by rw [bPR]; exact Yn q) fun env A' h1 t₁ QQ EE ee hA qr qn H hF=>?_
 have rm':Rm A' (n + 5):=hA ▸ rm.deeper env
 clear hA
 subst ee
 generalize h.objs.size=L at H hF
 replace H:=H.own M
 generalize eX:(srtF w nv ns CS CN x dx n2i nodes .none po nf).map (·.1)=X at H
 obtain ⟨u1,u2,D2⟩:=SDP.at' (H.at (i:=1) rfl)
 revert rm hfr al low hf V CN' MC hfc inv hz hcy M hR qr qn rm' hF eX H D2
 have zd0:Nat:=0
 revert A fr g K CS CN nv ns N x dx R h f fc name qual nc qc cd pm cc pc n2i n nodes po nf fin A' h1 t₁ QQ EE L X u1 u2 zd0
 exact zk0:prep_call_S)
namespace zp0
@[irreducible] def zc:=pick39 zq0 (by (repeat any_goals apply np)<;>first | exact neW | exact neA | exact neD | exact neS | infer_instance | exact ⟨by constructor<;>exact default⟩)
def A:=zc.1.1
def fr:=zc.1.2.1
def g:=zc.1.2.2.1
def K:=zc.1.2.2.2.1
def CS:=zc.1.2.2.2.2.1
def CN:=zc.1.2.2.2.2.2.1
def nv:=zc.1.2.2.2.2.2.2
def ns:=zc.2.1.1
def N:=zc.2.1.2.1
def x:=zc.2.1.2.2.1
def dx:=zc.2.1.2.2.2.1
def R:=zc.2.1.2.2.2.2.1
def h:=zc.2.1.2.2.2.2.2.1
def f:=zc.2.1.2.2.2.2.2.2
def fc:=zc.2.2.1.1
def name:=zc.2.2.1.2.1
def qual:=zc.2.2.1.2.2.1
def nc:=zc.2.2.1.2.2.2.1
def qc:=zc.2.2.1.2.2.2.2.1
def cd:=zc.2.2.1.2.2.2.2.2.1
def pm:=zc.2.2.1.2.2.2.2.2.2
def cc:=zc.2.2.2.1.1
def pc:=zc.2.2.2.1.2.1
def n2i:=zc.2.2.2.1.2.2.1
def n:=zc.2.2.2.1.2.2.2.1
def nodes:=zc.2.2.2.1.2.2.2.2.1
def po:=zc.2.2.2.1.2.2.2.2.2.1
def nf:=zc.2.2.2.1.2.2.2.2.2.2
def fin:=zc.2.2.2.2.1.1
def A':=zc.2.2.2.2.1.2.1
def h1:=zc.2.2.2.2.1.2.2.1
def t₁:=zc.2.2.2.2.1.2.2.2.1
def QQ:=zc.2.2.2.2.1.2.2.2.2.1
def EE:=zc.2.2.2.2.1.2.2.2.2.2.1
def L:=zc.2.2.2.2.1.2.2.2.2.2.2
def X:=zc.2.2.2.2.2.1
def u1:=zc.2.2.2.2.2.2.1
def u2:=zc.2.2.2.2.2.2.2.1
def zd0:=zc.2.2.2.2.2.2.2.2
def zq :=
 all39 zq0 A fr g K CS CN nv ns N x dx R h f fc name qual nc qc cd pm cc pc n2i n nodes po nf fin A' h1 t₁ QQ EE L X u1 u2 zd0 (by with_unfolding_all rfl) (by
 intro rm hfr al low hf V CN' MC hfc inv hz hcy M hR qr qn rm' hF eX H D2
 refine Yh (Zh (Yg ?_))
 refine s_attr V.sk.k (V.X0.keeps H.low) V.sk.a2 (H.at (i:=0) rfl) D2 (fun Q q=>s_ld H q) rfl rfl fun t2=>?_
 refine Zg (isNot_none (Yi ?_))
 rw [if_neg (by decide)]
 refine Ym ?_
 have n2:(n2i == sysModules)=false:=V.bs.ns (H.hi (n2i,_) (Yr (i:=2) rfl))
 refine Yh (Yl (s_comp [] ?_))
 refine s_values' H (H.at (i:=2) rfl) n2 (fun Q q=>s_n2i V.sk (V.X0.keeps H.low) (H.at (i:=0) rfl) (H.at (i:=1) rfl) (fun Q q=>s_ld H q) q) fun h3 t3 H3=>?_
 have nVw:h.get? h1.objs.size=none:=H.notOld (Yy (Zf _))
 generalize h1.objs.size=vw at H3 nVw ⊢
 obtain ⟨ep,he⟩:=(H3.at (i:=3) rfl).fixEp
 have H3':=H3.upd 3 rfl (fun _ _ _ e=>e) he
 refine wpAny_pyIter_values (H3'.at (i:=0) rfl) (H3'.at (i:=3) rfl).dictAt ?_
 have H4:=H3'.push { cls:=.type "dict_valueiterator",data:=.fields #[.ref n2i,.int 0 0,.int (kvsOf ns nodes).length 0,.int ep 0] } (p:=ValIP n2i 0 (kvsOf ns nodes).length ep) ⟨rfl,rfl⟩
 have nIt:h.get? h3.objs.size=none:=H3.notOld (Yy (Zf _))
 generalize h3.objs.size=it at H4 nIt ⊢
 generalize eFc:((vw,ViewP n2i)::(x,InP CS dx #[])::(dx,SDP n2i .none po nf)::(n2i,DictEP w (kvsOf ns nodes) ep)::nodes.flatMap (ndF nv CN):Fs)=Fc
 replace H4:=St.perm H4 (G:=(it,ValIP n2i 0 (kvsOf ns nodes).length ep)::Fc) (by rw [← eFc,List.append_nil]; exact List.Perm.refl _)
 have mD:(n2i,DictEP w (kvsOf ns nodes) ep)∈Fc:=by rw [← eFc]; simp
 have mN:∀ m∈nodes,∀ y∈ndF nv CN m,y∈Fc:=fun m hm y hy=>by
  rw [← eFc]
  exact Yb _ (Yb _ (Yb _ (Yb _ (List.mem_flatMap.mpr ⟨m,hm,hy⟩))))
 refine s_compIn H4 (Itr.vals rm'.1 it n2i (kvsOf ns nodes) ep) nIt (fun i vs F=>F=Fc∧vs=(rdOf ((nodes.map (·.1)).take i)).map nv) ⟨rfl,rfl⟩ (fun C D i vs F m h j S=>?_) (fun i vs F j=>?_) (fun C D i v vs F h5 t5 m hi hv j hm H5=>?_) (fun D vs F h5 t5 j H5=>?_) (by rfl) (by rfl) (by rfl)
 ·obtain ⟨rfl,_⟩:=j
  exact S.has _ (Yb _ (Yb _ (Yb _ mD)))
 ·obtain ⟨_,rfl⟩:=j
  rw [Yp]
  refine Ye (rdOf_len _) ?_
  rw [List.length_take,Yp]; lia
 ·obtain ⟨rfl,rfl⟩:=j
  have hin:i < nodes.length:=by rw [← kvs_len (ns:=ns)]; exact hi
  have hmem:=List.getElem_mem hin
  have hv':v=.ref nodes[i].2.1:=by
   unfold kvsOf at hv
   rw [Zc,Yj hin] at hv
   exact Zj hv
  have hps:(nodes.map (·.1))[i]? = some nodes[i].1:=by rw [Zc,Yj hin]; rfl
  have hr:=rdOf_snoc _ i _ hps
  generalize nodes[i]=mm at hmem hv' hr
  subst hv'
  have ob:∀ y∈ndF nv CN mm,Is h5 y.1 y.2:=fun y hy=>H5.has _ (Yb _ (Yb _ (Yb _ (mN mm hmem y hy))))
  refine s_if1 (Yg (Attribute_any_ (s_ldm (H5.at (i:=0) rfl) hm (s_npGetO V.nk (V.X0.keeps H5.low) ob fun t0 t6=>wpAny_Constant_int (PySem.P.eq_int (Yi ?_))))))
  cases hb:mm.1.np == 0 with
  | false =>
   rw [hb,if_neg Yk,List.append_nil] at hr
   rw [if_neg Yk]
   exact ⟨_,_,_,rfl,H5,rfl,by rw [hr]⟩
  | true =>
   rw [hb,if_pos rfl] at hr
   rw [if_pos rfl]
   refine Attribute_any_ (s_ldm (H5.at (i:=0) rfl) hm (s_noGetO V.nk (V.X0.keeps H5.low) ob (V.nm.handed (inv.wf mm hmem)) fun t7=>?_))
   exact ⟨_,_,_,rfl,H5,rfl,by rw [hr,Yt]; rfl⟩
 ·obtain ⟨rfl,rfl⟩:=j
  rw [List.take_of_length_le (by rw [Yp,kvs_len]; exact Zf _)] at H5
  rw [← eFc] at H5
  have z:=(H5.upd 4 rfl (fun _ _ _ e=>e) (H5.at (i:=4) rfl).anyEp).sub (F':=(D,ListP ((rdOf (nodes.map (·.1))).map nv))::srtF w nv ns CS CN x dx n2i nodes .none po nf) ((List.sublist_cons_self _ _).cons_cons _) (fun y hy hX=>by
   rcases Yu.mp hy with rfl | hy
   ·exact Yc
   rcases Yu.mp hy with rfl | hy
   ·rw [← eX] at hX
    obtain ⟨q,hq,e⟩:=Yx.mp hX
    obtain ⟨o,eo,_⟩:=M.has q hq
    rw [e,nVw] at eo; cases eo
   ·exact Yb _ hy)
  have H6:=z.perm (G:=srtF w nv ns CS CN x dx n2i nodes .none po nf++[(D,ListP ((rdOf (nodes.map (·.1))).map nv))]) (Zi (l₁:=[_]) (l₂:=srtF w nv ns CS CN x dx n2i nodes .none po nf))
  refine s_ld H6 (s_rdSet V.sk V.X0 H6 fun h7 t7 H7=>?_)
  obtain ⟨u1,u2,D7⟩:=SDP.at' (H7.at (i:=1) rfl)
  refine Yh (Yq (s_meth0 V.sk.k (V.X0.keeps H7.low) MC hfc (H7.at (i:=0) rfl) D7 rfl (fun Q q=>s_ld H7 q) H7.low ?_))
  refine cyc_call (n:=n) (rm'.le (by exact Za (by decide) _)) hF H7.al H7.low hfc V CN' inv hz hcy H7.lump fun h8 t8 K8=>?_
  refine s_st (H7.call K8) fun h9 t9 H9=>?_
  refine Yh (Zh (Zv (s_ld H9 (wpAny_of_eq (a:=false) rfl ?_))))
  rw [if_neg Yk]
  refine Ym (Ym (qn _ (hR h9 _ D ?_)))
  rw [← eX] at H9
  refine St.toStep (G':=srtF w nv ns CS CN x dx n2i nodes (.ref D) po nf++[(D,ListP ((rdOf (nodes.map (·.1))).map nv))]) (R:=[]) (by rw [List.append_nil]; exact H9) fun b hb=>?_
  rw [Yt]
  exact Zr _ hb)
end zp0
end prep_call
section
variable {A:Around} {B:Heap} {fa X:List Addr} {L:Addr} {fr:List Env} {g:Array GenState} {nv:Nat→Value} {N:Nat} {E:Value→Shared→Prop} {env:Env} {x:Str} {fd:FuncData} {R:Result→Shared→Prop} {Q:Value→Shared→Prop} {pos:Pos} {e:Expr} {ys:List Value} {nodes:Nodes} {value:Expr} {b:Addr} {e2:Expr} {t0:Tok} {j:Nat} {e1:Expr} {args:Args} {binds:List (Str×Value)} {k:Nat} {a f:Addr} {body:List Stmt} {F:Fs} {l:List (Str×Value)} {i:Nat} {xs vs:List Value} {ss:List Str} {v:Value} {s:Shared} {h:Heap} {t:Nat}
theorem prep_call:prep_call_S:=@Wr.out _ prep_call.zp0.zq
noncomputable def leS (a b:Str):Prop:=ltCps b.cps.toList a.cps.toList=false
theorem leS_trans {a b c:Str} (h1:leS a b) (h2:leS b c):leS a c:=by
 unfold leS at *
 rw [ltCps_eq] at *
 simp only [decide_eq_false_iff_not] at *
 exact fun h=>h1 (List.lt_of_le_of_lt (List.not_lt.mp h2) h)
theorem leS_anti {a b:Str} (h1:leS a b) (h2:leS b a):a=b:=by
 unfold leS at *
 rw [ltCps_eq] at *
 simp only [decide_eq_false_iff_not] at *
 have h:=List.le_antisymm (List.not_lt.mp h1) (List.not_lt.mp h2)
 obtain ⟨a⟩:=a
 obtain ⟨b⟩:=b
 congr 1
 exact Array.toList_inj.mp h
theorem rising_pw:∀ (r:List Str) (p:Str),risingS p r=true→(p::r).Pairwise leS
 | [],p,_=>List.pairwise_singleton _ _
 | x::r,p,h=>by
  unfold risingS at h
  obtain ⟨h1,h2⟩:=Bool.and_eq_true_iff.mp h
  have ih:=rising_pw r x h2
  have px:leS p x:=by simpa [leS] using h1
  refine List.pairwise_cons.mpr ⟨fun y hy=>?_,ih⟩
  rcases Yu.mp hy with rfl | hy
  ·exact px
  ·exact leS_trans px (List.rel_of_pairwise_cons ih hy)
theorem sortedS_pw {l:List Str} (h:sortedS l=true):l.Pairwise leS:=by
 cases l with
 | nil=>exact List.Pairwise.nil
 | cons x r=>exact rising_pw r x h
theorem sorted_unique {l1 l2:List Str} (h1:sortedS l1=true) (h2:sortedS l2=true) (p:l1.Perm l2):l1=l2 :=
 p.eq_of_pairwise (le:=leS) (fun a b _ _ x y=>leS_anti x y) (sortedS_pw h1) (sortedS_pw h2)
theorem Strs.are:∀ {vs ss},Strs vs ss→StrsAre vs ss
 | [],[],_=>.nil
 | [],_::_,h=>by simp [Strs] at h
 | _::_,[],h=>by simp [Strs] at h
 | v::vs,s::ss,h=>by
  have h1:sOf v=some s:=by simp [Strs] at h; exact h.1
  have h2:Strs vs ss:=by simp [Strs] at h ⊢; exact h.2
  obtain ⟨t,rfl⟩:=sOf_some h1
  exact .cons s t h2.are
theorem strs_of {vs ss} (h:StrsAre vs ss):Strs vs ss:=by
 induction h with
 | nil=>rfl
 | cons y t r ih =>
  unfold Strs at *
  rw [Zq,ih]; rfl
theorem s_sortS {F l}
  (H:St H0 B fa X L l F h) (ha:Is h a (ListP vs)) (hs:Strs vs ss) (hz:vs.length < 64)
  (k:∀ b vs' ss' h',Strs vs' ss'→ss'.Perm ss→sortedS ss'=true→St H0 B fa X L l ((b,ListP vs')::F) h'→Q (.ref b) (sh g t h')) :
  wpAny (model P w) A (call (.builtin "sorted") [.ref a]) Q E (sh g t h):=by
 refine sorted_strs ha.list hs.are hz fun out ss' a1 a2 a3=>?_
 obtain ⟨e,he⟩:=sortedAll_at h vs out
 refine k _ out.toList ss' _ (strs_of a1) a2 a3 (H.add (.of fun b o q _=>sortedAll_old q) (Yy (Nat.le_succ _)) ⟨_,he,e,by simp [seqObj]⟩)
theorem Is.tupT {xs} (x:Is h a (TupP xs)):IsTup h a xs.toArray:=by obtain ⟨_,e,n,q⟩:=x; exact ⟨_,e,by rw [q],n,by rw [q]⟩
theorem s_subC {c:Const} {kd:Nat} {p:Pos} (h:wpAny (model P w) A (eval value env) (fun o s1=>wpAny (model P w) A (eval (.Constant c kd p) env) (fun i s2=>SubscriptOn (model P w) A o i Q E s2) E s1) E s) :
  wpAny (model P w) A (eval (.Subscript value (.Constant c kd p) pos) env) Q E s :=
 Subscript_ (Ze h (fun o s1 h₁=>Ze h₁ (fun i s2 h₂=>(by obtain ⟨_,_,hl,hT,hg⟩:=h₂; exact tail_any (ops:=[o,i]) hT hl hg rfl)) fun _ _ e=>e) fun _ _ e=>e)
theorem s_subN {p:Pos} (h:wpAny (model P w) A (eval value env) (fun o s1=>wpAny (model P w) A (eval (.Name x p) env) (fun i s2=>SubscriptOn (model P w) A o i Q E s2) E s1) E s) :
  wpAny (model P w) A (eval (.Subscript value (.Name x p) pos) env) Q E s :=
 Subscript_ (Ze h (fun o s1 h₁=>Ze h₁ (fun i s2 h₂=>(by obtain ⟨_,_,hl,hT,hg⟩:=h₂; exact tail_any (ops:=[o,i]) hT hl hg rfl)) fun _ _ e=>e) fun _ _ e=>e)
theorem s_tat (ha:Is h a (TupP xs)) (hi:i < 2 ^ 62) (hv:xs[i]? = some v) (k:Q v (sh g t h)) :
  SubscriptOn (model P w) A (.ref a) (.int i t0) Q E (sh g t h):=by
 have hl:i < xs.length:=(List.getElem?_eq_some_iff.mp hv).1
 refine ⟨"tuple",_,PySem.F.slot_tuple_getitem.lookup,ha.tupT.typeIs,getItem_tuple (j:=i) ha.tupT (by exact Int.natCast_nonneg _) (by lia) ?_ (by simpa using hv) k⟩
 unfold seqIndex?
 simp only [List.size_toArray]
 split<;>first | lia | (split<;>first | lia | (congr 1; lia) | simp_all)
theorem s_append {xs':List Value} (H:St H0 B fa X L l F h) (i:Nat) (e:F[i]? = some (a,ListP xs)) (ex:xs++[v]=xs') (hz:xs.length≤10000)
  (k:∀ h' t',St H0 B fa X L l (F.set i (a,ListP xs')) h'→Q .none (sh g t' h')):wpAny (model P w) A (call (.builtin "list.append") [.ref a,v]) Q E (sh g t h):=by
 subst ex
 refine wpAny_list_append_plain (H.at e).plain (fun h' pl sb=>k h' _ (H.upd i e (fun b o hb e=>(sb.2 b hb).trans e) (isPlain (by simpa using pl)))) (by simp only [List.size_toArray]; exact Ye hz (by decide))
theorem s_isTup (ha:Is h a (TupP xs)) (k:Q (.bool true) (sh g t h)):wpAny (model P w) A (call (.builtin "isinstance") [.ref a,.type "tuple"]) Q E (sh g t h) :=
 call_isinstance_yes (Tx := "tuple") ha.tupT.typeIs (by kernel_rfl) (by kernel_rfl) k
theorem s_addList (H:St H0 B fa X L l F h) (ha:Is h a (ListP xs)) (hb:Is h b (ListP ys)) (hz:xs.length + ys.length≤10000)
  (k:∀ h',St H0 B fa X L l ((h.objs.size,ListP (xs++ys))::F) h'→Q (.ref h.objs.size) (sh g t h')) :
  wpAny (model P w) A (binaryOp .Add (.ref a) (.ref b)) Q E (sh g t h):=by
 obtain ⟨_,ho,n,rfl⟩:=ha
 obtain ⟨_,ho2,n2,rfl⟩:=hb
 have e:xs.toArray++ys.toArray=(xs++ys).toArray:=by simp
 refine concat_meets ⟨_,ho,rfl⟩ ⟨_,ho2,rfl⟩ noFill_list_add seq_list_add PySem.F.slot_list_add PySem.F.entry_list_add (PySem.F.args_list_add_2 _ _) (list_addW a b xs.toArray ys.toArray n n2 none none #[] #[] (by simp only [List.size_toArray]; exact Ye hz (by decide))) ⟨ho,ho2,?_⟩
 rw [e]
 exact k _ (H.push _ ⟨0,rfl⟩)
theorem s_listTup (H:St H0 B fa X L l F h) (ha:Is h a (TupP xs)) (hz:xs.length≤10000)
  (k:∀ h',St H0 B fa X L l ((h.objs.size,ListP xs)::F) h'→Q (.ref h.objs.size) (sh g t h')) :
  wpAny (model P w) A (call (.type "list") [.ref a]) Q E (sh g t h):=by
 obtain ⟨_,ho,n,rfl⟩:=ha
 refine call_list_seq (hsz:=by simp only [List.size_toArray]; exact Ye hz (by decide)) a (.inr rfl) ho rfl rfl fun h' c' kk hn=>?_
 exact k h' ((H.same kk).put (H.notOld (Yy (Zf _))) (H.al.notIn (Yy (Zf _))) (fun hm=>by
  obtain ⟨y,hy,e⟩:=Yx.mp hm
  have:=(H.has y hy).lt
  rw [e] at this; exact absurd this (Nat.lt_irrefl _)) (none_of fun o e=>absurd (Heap.lt_size (H.low _ _ e)) (Nat.lt_irrefl _)) ⟨_,hn,_,rfl⟩)
theorem s_starL {Q:List Value→Shared→Prop} (H:St H0 B fa X L l F h) (ha:Is h a (ListP xs)) (hz:xs.length≤10000) (k:∀ h',St H0 B fa X L l F h'→Q xs (sh g t h')):StarOf (model P w) A E (.ref a) Q (sh g t h):=by
 obtain ⟨_,ho,n,rfl⟩:=ha
 have z:wpAny (model P w) A (collect (.ref a)) Q E (sh g t h):=wpAny_collect_seq (hsz:=by simp only [List.size_toArray]; exact Ye hz (by decide)) a (.inl rfl) ho rfl rfl fun h' kk=>k h' (H.same kk)
 unfold StarOf notIterableAtAll
 exact Yd (wpAny_specialOf ⟨_,ho,rfl⟩ PySem.F.slot_list_iter.lookup (Yn ⟨rfl,z⟩))
theorem s_starT {Q:List Value→Shared→Prop} (H:St H0 B fa X L l F h) (ha:Is h a (TupP xs)) (hz:xs.length≤10000) (k:∀ h',St H0 B fa X L l F h'→Q xs (sh g t h')):StarOf (model P w) A E (.ref a) Q (sh g t h):=by
 obtain ⟨_,ho,n,rfl⟩:=ha
 have z:wpAny (model P w) A (collect (.ref a)) Q E (sh g t h):=wpAny_collect_seq (hsz:=by simp only [List.size_toArray]; exact Ye hz (by decide)) a (.inr rfl) ho rfl rfl fun h' kk=>k h' (H.same kk)
 unfold StarOf notIterableAtAll
 exact Yd (wpAny_specialOf ⟨_,ho,rfl⟩ PySem.F.slot_tuple_iter.lookup (Yn ⟨rfl,z⟩))
theorem s_neList (ha:Is h a (ListP xs)) (hb:Is h b (ListP ys)) (hz:xs.length=ys.length) (hu:A.units < cLine)
  (he:∀ j (h1:j < xs.length) (h2:j < ys.length),SeqAt.EqAt A.in1 (sh g t h) xs[j] ys[j] true) (k:Q (.bool false) (sh g t h)) :
  wpAny (model P w) A (compareOp .NotEq (.ref a) (.ref b)) Q E (sh g t h):=by
 have z:=SeqAt.RcNeAt.lists (A:=A) (s:=(sh g t h)) (e:=fun _=>true) ha.list hb.list (by simpa using hz) hu (fun j h1 h2=>by simpa using he j (by simpa using h1) (by simpa using h2)) P w E Q
 exact z (by rw [List.all_eq_true.mpr (fun _ _=>rfl)]; exact k)
theorem s_neStrs (ha:Is h a (ListP xs)) (hb:Is h b (ListP ys)) (hx:Strs xs ss) (hy:Strs ys ss) (hu:A.units < cLine) (k:Q (.bool false) (sh g t h)) :
  wpAny (model P w) A (compareOp .NotEq (.ref a) (.ref b)) Q E (sh g t h):=by
 have hz:xs.length=ys.length:=hx.len.trans hy.len.symm
 refine s_neList ha hb hz hu (fun j h1 h2=>?_) k
 have h3:j < ss.length:=by rw [← hx.len]; exact h1
 have e1:sOf xs[j]=some ss[j]:=by
  have:=congrArg (fun l=>l[j]?) hx
  simpa [Zc,Yj h1,Yj h3] using this
 have e2:sOf ys[j]=some ss[j]:=by
  have:=congrArg (fun l=>l[j]?) hy
  simpa [Zc,Yj h2,Yj h3] using this
 have:=hx.eq (A:=A.in1) (s:=(sh g t h)) (List.getElem_mem h1) e2
 rwa [show eS xs[j] ys[j]=true from by simp [eS,e1,e2]] at this
theorem s_starBound {x:Value} {args:List Expr} {q:Addr} (hf:Fn H0 f fd) (hst:(backTo pos (starEach args env)).any (·.1)=true)
  (k:wpAny (model P w) A (evalArgs (.ref q) true (backTo pos (starEach args env)) []) (fun a s1=>(∀ a o,H0.get? a=some o→s1.heap.get? a=some o)∧Is s1.heap q (fun o=>o=methodObj (.ref f) x)∧codeAny (model P w) A (.call (.ref f) ⟨x::a.pos,a.kw⟩) (back Q E) s1) E s) :
  wpAny (model P w) A (callWith pos (.ref q) [] (backTo pos (starEach args env)) []) Q E s:=by
 obtain ⟨of,hof,hd⟩:=hf.1
 refine ks_call (P:=fun h=>h.get? q=some (methodObj (.ref f) x)∧h.get? f=some of) hst (fun h X=>⟨.boundFrame,.inr (.inr rfl),(Looks.ld (part:=none) X.1).andThen ?_⟩) (Ze k (fun a s1 r=>?_) fun _ _ e=>e)
 ·refine (Looks.ld (part:=none) X.2).andThen ?_
  rw [hd]
  exact .now
 ·obtain ⟨low,⟨o,ho,rfl⟩,r⟩:=r
  exact ⟨⟨ho,low _ _ hof⟩,wpAny_call (method_call ho r)⟩
theorem s_cons {st:Stmt} {rest:List Stmt} {Q:Flow→Shared→Prop} (k:∀ Q':Flow→Shared→Prop,(∀ s',wpAny (model P w) A (execs rest env) Q E s'→Q' .next s')→(∀ v s',Q (.ret v) s'→Q' (.ret v) s')→wpAny (model P w) A (exec st env) Q' E s):wpAny (model P w) A (execs (st::rest) env) Q E s:=Yh (k _ (fun _ x=>x) (fun _ _ x=>x))
theorem s_star2 {p:Pos} {f:Value} {Q:Args→Shared→Prop} (k:wpAny (model P w) A (eval e1 env) (fun v1 s1=>wpAny (model P w) A (eval e2 env) (fun v2 s2=>StarOf (model P w) A E v2 (fun vs s3=>Q ⟨v1::vs,[]⟩ s3) s2) E s1) E s)
  (he:autoParam (starEach [e1,.Starred e2 p] env=[(false,eval e1 env),(true,eval e2 env)]) tR):wpAny (model P w) A (evalArgs f true (backTo pos (starEach [e1,.Starred e2 p] env)) []) Q E s:=by
 rw [he]
 refine Zx (Yz (Ze k (fun v1 s1 q=>?_) fun _ _ e=>e))
 refine ks_spliced (Ze q (fun v2 s2 q=>?_) fun _ _ e=>e)
 unfold StarOf at q ⊢
 refine Ze q (fun b s3 r=>⟨r.1,Ze r.2 (fun vs s4 z=>?_) fun _ _ e=>e⟩) fun _ _ e=>e
 refine Zn ?_
 rw [List.append_nil]
 exact z
theorem s_star1 {p:Pos} {f:Value} {Q:Args→Shared→Prop} (k:wpAny (model P w) A (eval e env) (fun v s1=>StarOf (model P w) A E v (fun vs s2=>Q ⟨vs,[]⟩ s2) s1) E s)
  (he:autoParam (starEach [.Starred e p] env=[(true,eval e env)]) tR):wpAny (model P w) A (evalArgs f true (backTo pos (starEach [.Starred e p] env)) []) Q E s:=by
 rw [he]
 exact ks_lone k
noncomputable def predsOf (N:Nat) (lt:Nat→Nat→Bool) (one:Nat):List Nat:=(List.range N).filter fun o=>lt o one
noncomputable def addsP (N:Nat) (lt:Nat→Nat→Bool) (k:Nat):List PN:=(List.range k).foldl (fun ps one=>addP ps one (predsOf N lt one)) []
noncomputable def okI (N:Nat) (ps:List (Nat×List Nat)):Bool:=ps.all fun p=>decide (p.1 < N) && decide (p.2.length≤1000) && p.2.all fun q=>decide (q < N) && ps.any fun p=>p.1 == q
noncomputable abbrev shp (ps:List PN):List (Nat×List Nat):=ps.map fun p=>(p.i,p.su)
structure LS where
 ps:List PN
 rl:List Nat
 po:Int
 nf:Int
 out:List Nat
noncomputable def okR (N:Nat) (s:LS):Bool:=decide (s.rl.length≤50) && s.rl.all fun q=>decide (q < N) && s.ps.any fun p=>p.i == q
noncomputable def stepK (held:Nat) (s:(List PN×List Nat)×Int) (j:Nat):(List PN×List Nat)×Int:=if j == held then s else (done1 s.1 j,s.2 + 1)
noncomputable def okK (held:Nat):(List PN×List Nat)×Int→List Nat→Bool
 | _,[]=>true
 | s,j::js=>(j == held || (npOf s.1.1 j == some (-1) && decide (s.1.2.length≤1000))) && okK held (stepK held s j) js
noncomputable def turnA (held:Nat) (s:LS):LS :=
 let d:=s.rl.foldl (stepK held) ((readyP s.ps s.rl,[]),s.nf)
 ⟨d.1.1,d.1.2,s.po + s.rl.length,d.2,s.out++s.rl⟩
noncomputable def okA (N held:Nat) (s:LS):Bool:=okR N s && okK held ((readyP s.ps s.rl,[]),s.nf) s.rl
noncomputable def turnB (s:LS):LS :=
 let d:=doneP (readyP s.ps s.rl,[]) s.rl
 ⟨d.1,d.2,s.po + s.rl.length,s.nf + s.rl.length,s.out++s.rl⟩
noncomputable def okB (N:Nat) (s:LS):Bool:=okR N s && okD (readyP s.ps s.rl,[]) s.rl
noncomputable def runL (ok:LS→Bool) (turn:LS→LS):Nat→LS→Option LS
 | 0,s=>some s
 | k + 1,s=>if ok s then runL ok turn k (turn s) else none
noncomputable def late1 (N:Nat) (lt:Nat→Nat→Bool) (held:Nat):Option LS :=
 let ps:=addsP N lt N
 if okI N (shp ps) && decide (ps.length≤8) && (cycF (suOf ps) 100 (ps.map (·.i)) []).isSome then runL (okA N held) (turnA held) N ⟨ps,rdOf ps,0,0,[]⟩ else none
noncomputable def late2 (N held:Nat) (s:LS):Option LS :=
 if (decide (s.nf < s.po) || !s.rl.isEmpty) && decide (s.rl.length≤1000) && okD (s.ps,s.rl) [held] then
  let d:=doneP (s.ps,s.rl) [held]
  runL (okB N) turnB N ⟨d.1,d.2,s.po,s.nf + 1,[]⟩
 else none
noncomputable def lateP (N:Nat) (lt:Nat→Nat→Bool) (held:Nat):Option (List Nat) :=
 match late1 N lt held with
 | none=>none
 | some s1=>match late2 N held s1 with
  | none=>none
  | some s2=>if !(decide (s2.nf < s2.po) || !s2.rl.isEmpty) && decide (s2.rl.length≤1000) && (s1.out++s2.out).isPerm (List.range N) then some s2.out else none
theorem lateP_some {lt:Nat→Nat→Bool} {held:Nat} {late:List Nat} (h:lateP N lt held=some late):E2 fun s1 s2=>late1 N lt held=some s1∧late2 N held s1=some s2∧(decide (s2.nf < s2.po) || !s2.rl.isEmpty)=false∧s2.rl.length≤1000∧(s1.out++s2.out).Perm (List.range N)∧late=s2.out:=by
 unfold lateP at h
 split at h
 ·cases h
 rename_i s1 e1
 split at h
 ·cases h
 rename_i s2 e2
 split at h
 ·rename_i q
  simp only [Bool.and_eq_true,Bool.not_eq_true',decide_eq_true_eq,List.isPerm_iff] at q
  exact ⟨s1,s2,e1,e2,q.1.1,q.1.2,q.2,(Zj h).symm⟩
 ·cases h
theorem late1_some {lt:Nat→Nat→Bool} {held:Nat} {s1:LS} (h:late1 N lt held=some s1):okI N (shp (addsP N lt N))=true∧(addsP N lt N).length≤8∧(∃ fin,cycF (suOf (addsP N lt N)) 100 ((addsP N lt N).map (·.i)) []=some fin) ∧
  runL (okA N held) (turnA held) N ⟨addsP N lt N,rdOf (addsP N lt N),0,0,[]⟩=some s1:=by
 unfold late1 at h
 dsimp only at h
 split at h
 ·rename_i q
  simp only [Bool.and_eq_true,decide_eq_true_eq] at q
  exact ⟨q.1.1,q.1.2,Option.isSome_iff_exists.mp q.2,h⟩
 ·cases h
theorem late2_some {held:Nat} {s s2:LS} (h:late2 N held s=some s2):(decide (s.nf < s.po) || !s.rl.isEmpty)=true∧s.rl.length≤1000∧okD (s.ps,s.rl) [held]=true ∧
  runL (okB N) turnB N ⟨(doneP (s.ps,s.rl) [held]).1,(doneP (s.ps,s.rl) [held]).2,s.po,s.nf + 1,[]⟩=some s2:=by
 unfold late2 at h
 split at h
 ·rename_i q
  simp only [Bool.and_eq_true,decide_eq_true_eq] at q
  exact ⟨q.1.1,q.1.2,q.2,h⟩
 ·cases h
theorem runL_succ {ok:LS→Bool} {turn:LS→LS} {s r:LS} (h:runL ok turn (k + 1) s=some r):ok s=true∧runL ok turn k (turn s)=some r:=by
 unfold runL at h
 split at h
 ·rename_i q; exact ⟨q,h⟩
 ·cases h
theorem shp_modI {f:PN→PN} (hf:∀ p,((f p).i,(f p).su)=(p.i,p.su)):∀ {ps:List PN} {i:Nat},shp (modI ps i f)=shp ps
 | [],_=>rfl
 | p::ps,i=>by
  unfold modI
  split
  ·show ((f p).i,(f p).su)::_=_
   rw [hf]; rfl
  ·show (p.i,p.su)::shp (modI ps i f)=_
   rw [shp_modI hf]; rfl
theorem shp_readyP:∀ {ready:List Nat} {ps:List PN},shp (readyP ps ready)=shp ps
 | [],_=>rfl
 | q::r,ps=>(shp_readyP (ready:=r)).trans (shp_modI (f:=fun p=>⟨p.i,-1,p.su⟩) (fun _=>rfl))
theorem shp_of:shp (nodes.map (·.1))=(shapeN nodes).map fun p=>(p.1,p.2.1):=by
 unfold shp shapeN
 rw [List.map_map,List.map_map]; rfl
theorem inv_of (h:okI N (shp (nodes.map (·.1)))=true):InvS N (shapeN nodes):=by
 rw [shp_of] at h
 unfold okI at h
 intro p hp
 have z:=List.all_eq_true.mp h (p.1,p.2.1) (Yx.mpr ⟨p,hp,rfl⟩)
 simp only [Bool.and_eq_true,decide_eq_true_eq] at z
 refine ⟨z.1.1,z.1.2,fun q hq=>?_⟩
 have y:=List.all_eq_true.mp z.2 q hq
 simp only [Bool.and_eq_true,decide_eq_true_eq,List.any_map] at y
 exact ⟨y.1,y.2⟩
theorem shp_fold (f:List PN×List Nat→Nat→List PN×List Nat) (hf:∀ s q,shp (f s q).1=shp s.1):∀ (qs:List Nat) (s:List PN×List Nat),shp (qs.foldl f s).1=shp s.1
 | [],_=>rfl
 | q::qs,s=>(shp_fold f hf qs (f s q)).trans (hf s q)
theorem shp_done1 (s:List PN×List Nat) (j:Nat):shp (done1 s j).1=shp s.1:=by
 unfold done1
 rw [shp_fold subD (fun s q=>shp_modI (f:=fun p=>⟨p.i,p.np - 1,p.su⟩) (fun _=>rfl))]
 exact shp_modI (f:=fun p=>⟨p.i,-2,p.su⟩) (fun _=>rfl)
theorem shp_doneP (s:List PN×List Nat) (js:List Nat):shp (doneP s js).1=shp s.1:=shp_fold done1 shp_done1 js s
theorem shp_stepK (held:Nat) (s:(List PN×List Nat)×Int) (j:Nat):shp (stepK held s j).1.1=shp s.1.1:=by
 unfold stepK
 split
 ·rfl
 ·exact shp_done1 _ _
theorem preds_lt {lt:Nat→Nat→Bool} {one:Nat}:∀ q∈predsOf N lt one,q < N:=fun q hq=>Ua.mp (List.mem_filter.mp hq).1
theorem preds_len {lt:Nat→Nat→Bool} {one:Nat}:(predsOf N lt one).length≤N:=by
 refine Ye (List.length_filter_le _ _) ?_
 rw [List.length_range]; exact Zf _
theorem addP_b {N one b:Nat} (h1:one < N):∀ (preds:List Nat) (ps:List PN),(∀ q∈preds,q < N)→SuB b ps→WfP N ps →
  (preds.foldl (fun ps q=>modI (getI ps q) q fun p=>⟨p.i,p.np,p.su++[one]⟩) ps).length≤ps.length + preds.length∧SuB (b + preds.length) (preds.foldl (fun ps q=>modI (getI ps q) q fun p=>⟨p.i,p.np,p.su++[one]⟩) ps)∧WfP N (preds.foldl (fun ps q=>modI (getI ps q) q fun p=>⟨p.i,p.np,p.su++[one]⟩) ps)
 | [],ps,_,hs,hw=>⟨Zf _,hs,hw⟩
 | q::qs,ps,hq,hs,hw=>by
  have z:=addP_b (b:=b + 1) h1 qs (modI (getI ps q) q fun p=>⟨p.i,p.np,p.su++[one]⟩) (fun r hr=>hq r (Yb _ hr)) (su_modI (c:=1) (fun p=>by simp) (su_getI hs)) (wf_modI (f:=fun p=>⟨p.i,p.np,p.su++[one]⟩) (fun _=>rfl) (wf_getI hw (hq q Yc)))
  obtain ⟨z1,z2,z3⟩:=z
  rw [List.foldl_cons,List.length_cons]
  refine ⟨?_,?_,z3⟩
  ·rw [len_modI] at z1
   have:=len_getI (ps:=ps) (i:=q)
   lia
  ·rw [show b + (qs.length + 1)=b + 1 + qs.length from by lia]
   exact z2
theorem adds_b {N:Nat} {lt:Nat→Nat→Bool}:∀ k,k≤N→(addsP N lt k).length≤k * (N + 1)∧SuB (k * N) (addsP N lt k)∧WfP N (addsP N lt k)
 | 0,_=>⟨Nat.le_of_eq (by unfold addsP; simp),fun p hp=>by unfold addsP at hp; simp at hp,fun p hp=>by unfold addsP at hp; simp at hp⟩
 | k + 1,hk=>by
  obtain ⟨z1,z2,z3⟩:=adds_b (N:=N) (lt:=lt) k (by exact Nat.le_of_lt ‹_›)
  have e:addsP N lt (k + 1)=addP (addsP N lt k) k (predsOf N lt k):=by
   unfold addsP
   rw [List.range_succ,List.foldl_append]; rfl
  rw [e]
  have hs0:SuB (k * N) (modI (getI (addsP N lt k) k) k fun p=>⟨p.i,p.np + (predsOf N lt k).length,p.su⟩):=su_modI (c:=0) (fun p=>by simp) (su_getI z2)
  have y:=addP_b (N:=N) (one:=k) (b:=k * N) (by exact Nat.lt_of_lt_of_le (Nat.lt_succ_self _) ‹_›) (predsOf N lt k) (modI (getI (addsP N lt k) k) k fun p=>⟨p.i,p.np + (predsOf N lt k).length,p.su⟩) preds_lt hs0 (wf_modI (f:=fun p=>⟨p.i,p.np + (predsOf N lt k).length,p.su⟩) (fun _=>rfl) (wf_getI z3 (Nat.lt_of_lt_of_le (Nat.lt_succ_self k) hk)))
  obtain ⟨y1,y2,y3⟩:=y
  have pl:=preds_len (N:=N) (lt:=lt) (one:=k)
  refine ⟨?_,?_,y3⟩
  ·refine Ye y1 ?_
   rw [len_modI]
   have:=len_getI (ps:=addsP N lt k) (i:=k)
   have e2:(k + 1) * (N + 1)=k * (N + 1) + (N + 1):=by rw [Nat.succ_mul]
   lia
  ·intro p hp
   have:=y2 p hp
   have e2:(k + 1) * N=k * N + N:=by rw [Nat.succ_mul]
   lia
theorem okK_at {held:Nat} {js:List Nat} {s:(List PN×List Nat)×Int} (h:okK held s (j::js)=true):(j=held∨(npOf s.1.1 j=some (-1)∧s.1.2.length≤1000))∧okK held (stepK held s j) js=true:=by
 unfold okK at h
 simpa using h
theorem nm_ne {ns:Nat→Str} (nm:Nm nv ns N) (hi:i < N) (hj:j < N):((ns i).cps.toList != (ns j).cps.toList)=(i != j):=by
 by_cases h:i=j
 ·subst h; simp
 ·have:ns i≠ns j:=fun e=>h (nm.inj _ _ hi hj e)
  have h2:(ns i).cps.toList≠(ns j).cps.toList:=fun e=>this (by
   cases h1:ns i; cases h3:ns j
   rw [h1,h3] at e
   congr 1
   exact Array.toList_inj.mp e)
  rw [bne_iff_ne.mpr h2,bne_iff_ne.mpr h]
theorem s_enterCQ (cs:List (Str×Addr)) (b:Bs H0 mg mb) (low:∀ a o,H0.get? a=some o→h.get? a=some o) (hf:Fn H0 f fd)
  (hfr:Frs A fr) (al:Alive H0 (adr fr) h) (hroom:A.depth < recursionLimit) (hbody:fd.body=.stmts body)
  (hbind:∀ (Q:List (Str×Value)→Shared→Prop) (E:Value→Shared→Prop),Q binds (sh g t h)→wpAny (model P w) A.in1 (bindArgs fd args) Q E (sh g t h))
  (k:∀ env A' h₁ t₁ (Q:Flow→Shared→Prop) (E:Value→Shared→Prop),env=envC fd h.objs.size f cs→A'=A.deeper env→(∀ v s,R (.ok (.ret v)) s→Q (.ret v) s)→(∀ s,R (.ok (.ret .none)) s→Q .next s) →
   St H0 h (adr fr) [] h.objs.size ((binds.filter fun x:Str×Value=>decide (fd.scope.names.lookup x.1=some NameKind.local)).reverse++[]) (cs.map fun x=>(x.2,CellP (bindC (envC fd h.objs.size f cs).kindOf binds (fun _=>none) x.1))) h₁→Frs A' (env::fr) →
   wpAny (model P w) A' (execs body env) Q E (sh g t₁ h₁))
  (hcs:autoParam (cellsFrom (h.objs.size + 1) fd.scope.names []=cs) tR) (hnd:autoParam (decide ((cs.map (·.1)).Nodup)=true) tR)
  (hkind:autoParam ((binds.map (·.1)).all (fun x=>decide (fd.scope.names.lookup x=some .local) || (decide (fd.scope.names.lookup x=some .cell) && (cs.lookup x).isSome))=true) tR)
  (hcl:autoParam (fd.closure=[]) tR) (hco:autoParam (fd.scope.isCoroutine=false) tR) (hgen:autoParam (fd.scope.isGenerator=false) tR) (hk:autoParam (fd.scope.kind=.function) tR) :
  codeAny (model P w) A (.call (.ref f) args) R (sh g t h) :=
 s_enterC cs b low hf hfr al hroom hbody hbind (fun h₁ t₁ H F=>k _ _ h₁ t₁ _ _ rfl rfl (fun _ _ r=>r) (fun _ r=>r) H F) hcs hnd hkind hcl hco hgen hk
theorem s_list1'
  (k:wpAny (model P w) A (eval e env) (fun v s₁=>E2 fun h₁ t₁=>s₁=(sh g t₁ h₁)∧Q (.ref h₁.objs.size) (sh g t₁ (h₁.push { cls:=.type "list",data:=.seq [v].toArray }))) E s)
  (hs:autoParam (backTo pos (starEach [e] env)=[(false,eval e env)]) tR):wpAny (model P w) A (eval (.List [e] pos) env) Q E s :=
 s_list1 (Ze k (fun v s₁ q=>by obtain ⟨h₁,t₁,rfl,q⟩:=q; exact q) fun _ _ e=>e) hs
theorem b44 (name:Str) (cd pm kwd v u x:Value):bindArgs (fdF 44 name cd pm kwd) ⟨[v,u,x],[]⟩=pure [(("names" : Str),v),(("spans" : Str),u),(("held" : Str),x)]:=by rfl
structure SpansOf (fa:List Addr) (h:Heap) (sp:Addr) (N:Nat) (b e:Nat→Int):Prop where
 ob:∃ xs:List Value,Ob fa h sp (ListP xs)∧xs.length=N∧∀ i,i < N→E3 fun a t u=>xs[i]? = some (.ref a)∧Ob fa h a (TupP [.int (b i) t,.int (e i) u])
theorem range_at (h:i < N):((List.range N).map nv)[i]? = some (nv i):=by
 rw [Zc,List.getElem?_range h]; rfl
theorem preds_snoc {p:Nat→Bool}:(List.range (i + 1)).filter p=(List.range i).filter p++(if p i then [i] else []):=by
 rw [List.range_succ,List.filter_append]
 congr 1
 cases h:p i<;>simp [h]
theorem strs_map {nv:Nat→Value} {ns:Nat→Str} {N:Nat} (nm:Nm nv ns N):∀ {js:List Nat},(∀ j∈js,j < N)→Strs (js.map nv) (js.map ns)
 | [],_=>rfl
 | j::js,h=>by
  have ih:=strs_map nm (js:=js) fun q hq=>h q (Yb _ hq)
  obtain ⟨t,e⟩:=nm.v j (h j Yc)
  unfold Strs at *
  rw [Zq,Zq,ih,e]; rfl
structure LateN (H0:Heap) (K:Frag) (mg mb:Str→Option Value) (CS:Addr):Prop where
 cs:mg "TopologicalSorter" = some (.ref CS)
 kp:keepIn K (.ref CS)=true
 mks:makesIn K CS=true
 ini:E6 fun f name qual cd pm dt=>MethK K CS "__init__" f∧Fn H0 f (mdF 12 0 name qual cd pm (.ref dt))∧Is H0 dt (TupP [.none])
 add:E5 fun f name qual cd pm=>MethK K CS "add" f∧Fn H0 f (mdF 12 2 name qual cd pm .none)
 prep:E5 fun f name qual cd pm=>MethK K CS "prepare" f∧Fn H0 f (mdF 12 3 name qual cd pm .none)
 rdy:E5 fun f name qual cd pm=>MethK K CS "get_ready" f∧Fn H0 f (mdF 12 4 name qual cd pm .none)
 act:E5 fun f name qual cd pm=>MethK K CS "is_active" f∧Fn H0 f (mdF 12 5 name qual cd pm .none)
 done:E5 fun f name qual cd pm=>MethK K CS "done" f∧Fn H0 f (mdF 12 7 name qual cd pm .none)
 cyc:E5 fun f name qual cd pm=>MethK K CS "_find_cycle" f∧Fn H0 f (mdF 12 8 name qual cd pm .none)
 i0:mg "isinstance" = none
 i1:mb "isinstance" = some (.builtin "isinstance")
 so0:mg "sorted" = none
 so1:mb "sorted" = some (.builtin "sorted")
 l0:mg "list" = none
 l1:mb "list" = some (.type "list")
noncomputable def late_call_S:Prop:=∀ {A:Around} {fr:List Env} {g} {K:Frag} {CS CN:Addr} {nv:Nat→Value} {ns:Nat→Str} {N:Nat} {R:Result→Shared→Prop} {h:Heap} {t} {f na sp:Addr} {name:Str} {cd pm kwd:Value} {n hd:Nat} {b e:Nat→Int} {late:List Nat} (rm:Rm A (n + 12)) (hfr:Frs A fr) (al:Alive H0 (adr fr) h) (low:∀ a o,H0.get? a=some o→h.get? a=some o) (hf:Fn H0 f (fdF 44 name cd pm kwd)) (V:SrtEnv2 K H0 mg mb CN CS nv ns N) (CN':CycN mg mb) (LN:LateN H0 K mg mb CS) (NR:NamesR mg mb) (hN:N≤8) (hh:hd < N) (ha:Ob (adr fr) h na (ListP ((List.range N).map nv))) (hsp:SpansOf (adr fr) h sp N b e) (hl:lateP N (fun o i=>decide (e o < b i)) hd=some late) (hR:∀ h' t' a,Kp (adr fr) [] h h'→h.get? a=none→Is h' a (ListP (late.map nv))→R (.ok (.ret (.ref a))) (sh g t' h')),codeAny (model P w) A (.call (.ref f) ⟨[.ref na,.ref sp,nv hd],[]⟩) R (sh g t h)
end
namespace late_call
def zq0:=fun zk0=>(by
 intro A fr g K CS CN nv ns N R h t f na sp name cd pm kwd n hd b e late rm hfr al low hf V CN' LN NR hN hh ha hsp hl hR
 obtain ⟨xs,hs,hxl,hx⟩:=hsp.ob
 obtain ⟨s1,s2,e1,e2,act2,z2,perm,rfl⟩:=lateP_some hl
 obtain ⟨ok0,len0,⟨fin,cyc⟩,run1⟩:=late1_some e1
 obtain ⟨act1,z1,okd,run2⟩:=late2_some e2
 generalize elt:(fun o i=>decide (e o < b i))=lt at *
 refine s_enterCQ [("one",h.objs.size + 3),("spans",h.objs.size + 2),("names",h.objs.size + 1)] V.bs low hf hfr al rm.room rfl (fun _ _ q=>by rw [b44]; exact Yn q) fun env A' h₁ t₁ QQ EE ee hA qr qn H hF=>?_
 have rm':Rm A' (n + 11):=hA ▸ rm.deeper env
 clear hA
 subst ee
 generalize h.objs.size=L at H hF ⊢
 replace H:St H0 h (adr fr) [] L [("held",nv hd)] [(L + 3,CellP none),(L + 2,CellP (some (.ref sp))),(L + 1,CellP (some (.ref na)))] h₁:=H
 revert rm hfr al low hf V CN' LN NR hN hh ha hsp hs hxl hx e2 act2 z2 perm hR act1 z1 okd run2 elt e1 hl ok0 len0 run1 cyc qr qn rm' hF H
 revert s1 s2
 have zd0:Nat:=0
 have zd1:Nat:=0
 have zd2:Nat:=0
 revert A fr g K CS CN nv ns N R h f na sp name cd pm kwd n hd b e xs fin lt A' h₁ t₁ QQ EE L zd0 zd1 zd2
 exact zk0:late_call_S)
namespace zp0
@[irreducible] def zc:=pick34 zq0 (by (repeat any_goals apply np)<;>first | exact neW | exact neA | exact neD | exact neS | infer_instance | exact ⟨by constructor<;>exact default⟩)
def A:=zc.1.1
def fr:=zc.1.2.1
def g:=zc.1.2.2.1
def K:=zc.1.2.2.2.1
def CS:=zc.1.2.2.2.2.1
def CN:=zc.1.2.2.2.2.2.1
def nv:=zc.1.2.2.2.2.2.2
def ns:=zc.2.1.1
def N:=zc.2.1.2.1
def R:=zc.2.1.2.2.1
def h:=zc.2.1.2.2.2.1
def f:=zc.2.1.2.2.2.2.1
def na:=zc.2.1.2.2.2.2.2.1
def sp:=zc.2.1.2.2.2.2.2.2
def name:=zc.2.2.1.1
def cd:=zc.2.2.1.2.1
def pm:=zc.2.2.1.2.2.1
def kwd:=zc.2.2.1.2.2.2.1
def n:=zc.2.2.1.2.2.2.2.1
def hd:=zc.2.2.1.2.2.2.2.2.1
def b:=zc.2.2.1.2.2.2.2.2.2
def e:=zc.2.2.2.1.1
def xs:=zc.2.2.2.1.2.1
def fin:=zc.2.2.2.1.2.2.1
def lt:=zc.2.2.2.1.2.2.2.1
def A':=zc.2.2.2.1.2.2.2.2.1
def h₁:=zc.2.2.2.1.2.2.2.2.2.1
def t₁:=zc.2.2.2.1.2.2.2.2.2.2
def QQ:=zc.2.2.2.2.1
def EE:=zc.2.2.2.2.2.1
def L:=zc.2.2.2.2.2.2.1
def zd0:=zc.2.2.2.2.2.2.2.1
def zd1:=zc.2.2.2.2.2.2.2.2.1
def zd2:=zc.2.2.2.2.2.2.2.2.2
def zq :=
 all34 zq0 A fr g K CS CN nv ns N R h f na sp name cd pm kwd n hd b e xs fin lt A' h₁ t₁ QQ EE L zd0 zd1 zd2 (by with_unfolding_all rfl) (by
 intro s1 s2 rm hfr al low hf V CN' LN NR hN hh ha hsp hs hxl hx e2 act2 z2 perm hR act1 z1 okd run2 elt e1 hl ok0 len0 run1 cyc qr qn rm' hF H
 obtain ⟨fI,nI,qI,cI,pI,dt,MI,hfI,hdt⟩:=LN.ini
 obtain ⟨fA,nA,qA,cA,pA,MA,hfA⟩:=LN.add
 refine s_cons fun _ q1 _=>(Yq (Zb (s_gname V.bs H.low LN.cs ?_)))
 refine callWith_K0 (V.X0.keeps H.low) LN.kp ?_
 refine sorter_new (n:=n) (CN:=CN) (nv:=nv) (ns:=ns) (rm'.le (by exact Za (by decide) _)) hF rfl V.bs V.X0 V.sk LN.mks MI hfI hdt H fun x dx n2i h₂ t2 H2=>?_
 refine s_st H2 fun h3 t3 H3=>q1 _ ?_
 replace H3:=H3.perm Zi
 refine s_cons fun _ q1 _=>(wpAny_For ?_)
 refine s_type1 V.bs H3.low NR.r0 NR.r1 ?_
 refine s_lenv V.bs H3.low NR.n0 NR.n1 (H3.old ha) (by simp; exact Ye hN (by decide)) (fun Q q=>s_ldc (c:=L + 1) (v:=.ref na) (H3.at (i:=2) rfl) q) fun t0 t4=>?_
 rw [Yp,List.length_range]
 refine s_iterRange H3 (by exact Ye hN (by decide)) fun it t5 h5 H5=>?_
 refine s_forQ (Itr.range rm'.1 it N) (fun k h'=>E3 fun l nodes oc=>A4 (St H0 h (adr fr) [] L l ((it,RngP k N)::(L + 3,CellP oc)::(L + 2,CellP (some (.ref sp)))::(L + 1,CellP (some (.ref na)))::srtF w nv ns CS CN x dx n2i nodes .none 0 0) h') (nodes.map (·.1)=addsP N lt k) (l.lookup ("sorter" : Str)=some (.ref x)) (l.lookup ("held" : Str)=some (nv hd))) (fun k h' j=>?_) (fun k v h' t' h'' Q1 E1 hk hv j hit sb k1 _ _ _=>?_) (fun h' t' h'' j sb=>?_) ⟨_,[],_,H5,rfl,by rfl,by rfl⟩
 ·obtain ⟨l,nodes,oc,H',_⟩:=j
  exact ⟨H'.at (i:=0) rfl,trivial⟩
 ·obtain ⟨l,nodes,oc,H',en,m1,m2⟩:=j
  obtain ⟨tk,rfl⟩:=hv
  have H6:=H'.upd 0 rfl sb hit
  refine Zl (s_stc H6 1 fun h7 t7 H7=>?_)
  obtain ⟨b1,b2,b3⟩:=adds_b (N:=N) (lt:=lt) k (Nat.le_of_lt hk)
  replace H7:=H7.perm (G:=srtF w nv ns CS CN x dx n2i nodes .none 0 0++[(it,RngP (k + 1) N),(L + 3,CellP (some (.int (k:Nat) tk))),(L + 2,CellP (some (.ref sp))),(L + 1,CellP (some (.ref na)))]) (Zi (l₁:=[_,_,_,_]))
  obtain ⟨u1,u2,D7⟩:=SDP.at' (H7.at (i:=1) rfl)
  refine s_cons fun _ q1 _=>(wpAny_Expr_any (s_methS (s_ld H7 (i_bound V.sk.k H7 (V.X0.keeps H7.low) MA rfl (H7.at (i:=0) rfl) D7 rfl fun h8 t8 H8=>?_) (hv:=m1))))
  generalize h7.objs.size=bm at H8 ⊢
  replace H8:=H8.perm ((Zi (l₂:=[(it,RngP (k + 1) N),(L + 3,CellP (some (.int (k:Nat) tk))),(L + 2,CellP (some (.ref sp))),(L + 1,CellP (some (.ref na)))])).cons _)
  obtain ⟨ak,ta,ua,ek,oak⟩:=hx k hk
  refine s_starBound (x:=.ref x) hfA (by rfl) (s_star2 ?_)
  refine Zk (s_ldc (c:=L + 1) (v:=.ref na) (H8.at (i:=4) rfl) (s_ldc (c:=L + 3) (v:=.int (k:Nat) tk) (H8.at (i:=2) rfl) (s_at (H8.old ha) (by exact Ye (Ye ‹_› ‹_›) (by decide)) (range_at hk) ?_)))
  refine s_comp [("spans",L + 2),("one",L + 3),("names",L + 1)] ?_
  refine s_type1 V.bs H8.low NR.r0 NR.r1 ?_
  refine s_lenv V.bs H8.low NR.n0 NR.n1 (H8.old ha) (by simp; exact Ye hN (by decide)) (fun Q q=>s_ldc (c:=L + 1) (v:=.ref na) (H8.at (i:=4) rfl) q) fun t0 t9=>?_
  rw [Yp,List.length_range]
  refine s_iterRange H8 (by exact Ye hN (by decide)) fun it2 t9 h9 H9=>?_
  refine s_compIn H9 (Itr.range rm'.1 it2 N) (H9.fresh (i:=0) rfl) (fun i vs F=>(vs=((List.range i).filter fun o=>lt o k).map nv∧i≤N)∧F=(bm,fun o=>o=methodObj (.ref fA) (.ref x))::(it,RngP (k + 1) N)::(L + 3,CellP (some (.int (k:Nat) tk)))::(L + 2,CellP (some (.ref sp)))::(L + 1,CellP (some (.ref na)))::srtF w nv ns CS CN x dx n2i nodes .none 0 0) ⟨⟨rfl,Zs _⟩,rfl⟩ (fun _ _ _ _ _ _ _ _ _=>trivial) (fun i vs F j=>?_) (fun C D i v vs F h4 t4 m hi hv j hm H4=>?_) (fun D vs F h4 t4 j H4=>?_) (by rfl) (by rfl) (by rfl)
  ·obtain ⟨⟨rfl,hi⟩,_⟩:=j
   rw [Yp]
   exact Ye (List.length_filter_le _ _) (by rw [List.length_range]; exact Ye (Ye ‹_› ‹_›) (by decide))
  ·obtain ⟨⟨rfl,_⟩,rfl⟩:=j
   obtain ⟨ti,rfl⟩:=hv
   obtain ⟨ai,t1',u1',ei,oai⟩:=hx i hi
   refine s_if1 (Yg ?_)
   refine s_subC (Zk (s_ldc (c:=L + 2) (v:=.ref sp) (H4.at (i:=6) rfl) (s_ldm (H4.at (i:=0) rfl) hm (s_at (H4.old hs) (by exact Ye (Ye ‹_› ‹_›) (by decide)) ei (wpAny_Constant_int (s_tat (i:=1) (H4.old oai) (by decide) rfl ?_))))))
   refine s_subC (Zk (s_ldc (c:=L + 2) (v:=.ref sp) (H4.at (i:=6) rfl) (s_ldc (c:=L + 3) (v:=.int (k:Nat) tk) (H4.at (i:=5) rfl) (s_at (H4.old hs) (by exact Ye (Ye ‹_› ‹_›) (by decide)) ek (wpAny_Constant_int (s_tat (i:=0) (H4.old oak) (by decide) rfl ?_))))))
   refine PySem.P.lt_int (Yi ?_)
   have eq:decide (e i < b k)=lt i k:=by rw [← elt]
   rw [eq]
   have sn:=preds_snoc (p:=fun o=>lt o k) (i:=i)
   cases hb:lt i k with
   | false =>
    rw [hb,if_neg Yk,List.append_nil] at sn
    rw [if_neg Yk]
    exact ⟨_,_,_,rfl,H4,⟨by rw [sn],hi⟩,rfl⟩
   | true =>
    rw [hb,if_pos rfl] at sn
    rw [if_pos rfl]
    refine Zk (s_ldc (c:=L + 1) (v:=.ref na) (H4.at (i:=7) rfl) (s_ldm (H4.at (i:=0) rfl) hm (s_at (H4.old ha) (by exact Ye (Ye ‹_› ‹_›) (by decide)) (range_at hi) ?_)))
    exact ⟨_,_,_,rfl,H4,⟨by rw [sn,Yt]; rfl,hi⟩,rfl⟩
  ·obtain ⟨⟨rfl,_⟩,rfl⟩:=j
   have pl:=preds_len (N:=N) (lt:=lt) (one:=k)
   have eN:N≤8:=hN
   have mulb:k * (N + 1)≤8 * 9:=Nat.mul_le_mul (by exact Ye (Nat.le_of_lt hk) eN) (by exact Nat.lt_succ_of_le ‹_›)
   have mulc:k * N≤8 * 8:=Nat.mul_le_mul (by exact Ye (Nat.le_of_lt hk) eN) (by exact eN)
   refine s_starL H4 (H4.at (i:=0) rfl) (by rw [Yp]; exact Ye pl (by exact Ye eN (by decide))) fun h10 H10=>?_
   have H11:=H10.perm (G:=srtF w nv ns CS CN x dx n2i nodes .none 0 0++[(D,ListP ((predsOf N lt k).map nv)),(bm,fun o=>o=methodObj (.ref fA) (.ref x)),(it,RngP (k + 1) N),(L + 3,CellP (some (.int (k:Nat) tk))),(L + 2,CellP (some (.ref sp))),(L + 1,CellP (some (.ref na)))]) (Zi (l₁:=[_,_,_,_,_,_]))
   refine ⟨H11.low,H10.at (i:=1) rfl,?_⟩
   refine add_call (n:=n) (rm'.le (by exact Za (by decide) _)) hF H11.al H11.low hfA V.toSrtEnv hk preds_lt (Wf.of en b3) (by rw [len_nodes en]; exact Ye (Ye ‹_› ‹_›) (by decide)) (Ye pl (by exact Ye eN (by decide))) (by rw [en]; exact fun p hp=>Ye (b2 p hp) (by exact Ye mulc (by decide))) H11.lump fun h12 t12 nodes' S12 en'=>?_
   have H13:=H11.step S12
   have H14:=(H13.perm (G:=(D,ListP ((predsOf N lt k).map nv))::(bm,fun o=>o=methodObj (.ref fA) (.ref x))::(it,RngP (k + 1) N)::(L + 3,CellP (some (.int (k:Nat) tk)))::(L + 2,CellP (some (.ref sp)))::(L + 1,CellP (some (.ref na)))::srtF w nv ns CS CN x dx n2i nodes' .none 0 0) (Zi (l₂:=[_,_,_,_,_,_])))
   have H15:=(H14.lose (h':=h12) (H14.fresh (i:=0) rfl) (fun _ _ _ e=>e))
   have H16:=(H15.lose (h':=h12) (H15.fresh (i:=0) rfl) (fun _ _ _ e=>e))
   refine q1 _ (Ym <| k1 _ _ ⟨_,_,_,H16,?_,m1,m2⟩)
   rw [en',en]
   unfold addsP
   rw [List.range_succ,List.foldl_append]; rfl
 ·obtain ⟨l,nodes,oc,H',en,m1,m2⟩:=j
  have H6:=H'.lose (H'.fresh (i:=0) rfl) sb
  refine q1 _ ?_
  clear q1 H H2 H3 H5 H'
  obtain ⟨fP,nP,qP,cP,pP,MP,hfP⟩:=LN.prep
  obtain ⟨fC,nC,qC,cC,pC,MC,hfC⟩:=LN.cyc
  have inv0:InvS N (shapeN nodes):=inv_of (by rw [en]; exact ok0)
  have H7:=H6.perm (G:=srtF w nv ns CS CN x dx n2i nodes .none 0 0++[(L + 3,CellP oc),(L + 2,CellP (some (.ref sp))),(L + 1,CellP (some (.ref na)))]) (Zi (l₁:=[_,_,_]))
  obtain ⟨u1,u2,D7⟩:=SDP.at' (H7.at (i:=1) rfl)
  refine s_cons fun _ q1 _=>(Yq (s_list1' (g:=g) ?_))
  refine s_meth0 V.sk.k (V.X0.keeps H7.low) MP hfP (H7.at (i:=0) rfl) D7 rfl (fun Q q=>s_ld H7 q (hv:=m1)) H7.low ?_
  refine prep_call (n:=n + 5) (rm'.le (by exact Zf _)) hF H7.al H7.low hfP V CN' MC hfC inv0 (by rw [len_nodes en]; exact len0) (by rw [en,show nodes.map (·.1.i)=(nodes.map (·.1)).map (·.i) from by rw [List.map_map]; rfl,en]; exact cyc) H7.lump fun h8 t8 rd S8=>?_
  rw [en] at S8
  have H8:=(H7.step S8).push { cls:=.type "list",data:=.seq [Value.none].toArray } (p:=ListP (List.replicate 1 .none)) ⟨0,rfl⟩
  refine ⟨h8,t8,rfl,?_⟩
  generalize h8.objs.size=an at H8 ⊢
  refine s_st H8 fun h9 t9 H9=>q1 _ ?_
  clear q1 H8 H7 H6
  refine s_cons fun _ q1 _=>(Yq (wpAny_List (Zn ⟨Zs _,?_⟩)))
  have H10:=H9.push { cls:=.type "list",data:=.seq ([]:List Value).toArray } (p:=ListP (([]:List Nat).map nv)) ⟨0,rfl⟩
  generalize h9.objs.size=ea at H10 ⊢
  refine s_st H10 fun h11 t11 H11=>q1 _ ?_
  clear q1 H9 H10
  obtain ⟨fG,nG,qG,cG,pG,MG,hfG⟩:=LN.rdy
  obtain ⟨fD,nD,qD,cD,pD,MD,hfD⟩:=LN.done
  have H12:=H11.perm (G:=(an,ListP (List.replicate 1 .none))::(ea,ListP (([]:List Nat).map nv))::(L + 3,CellP oc)::(L + 2,CellP (some (.ref sp)))::(L + 1,CellP (some (.ref na)))::(srtF w nv ns CS CN x dx n2i nodes (.ref rd) 0 0++[(rd,ListP ((rdOf (addsP N lt N)).map nv))])) ((List.Perm.swap _ _ _).trans ((List.perm_append_comm.cons _).cons _))
  refine s_cons fun _ q1 _=>(wpAny_For ?_)
  refine s_type1 V.bs H12.low NR.r0 NR.r1 ?_
  refine s_lenv V.bs H12.low NR.n0 NR.n1 (H12.old ha) (by simp; exact Ye hN (by decide)) (fun Q q=>s_ldc (c:=L + 1) (v:=.ref na) (H12.at (i:=4) rfl) q) fun t0 t4=>?_
  rw [Yp,List.length_range]
  refine s_iterRange H12 (by exact Ye hN (by decide)) fun it2 t5 h5 H5=>?_
  clear H11
  refine s_forQ (Itr.range rm'.1 it2 N) (fun k h'=>E4 fun l nodes c (s:LS)=>A10 (St H0 h (adr fr) [] L l ((it2,RngP k N)::(an,ListP (List.replicate c .none))::(ea,ListP (s.out.map nv))::(L + 3,CellP oc)::(L + 2,CellP (some (.ref sp)))::(L + 1,CellP (some (.ref na)))::(srtF w nv ns CS CN x dx n2i nodes (.ref rd) s.po s.nf++[(rd,ListP (s.rl.map nv))])) h') (runL (okA N hd) (turnA hd) (N - k) s=some s1) (okI N (shp s.ps)=true) (nodes.map (·.1)=s.ps) (c≤1 + 51 * k) (s.out.length≤50 * k) (l.lookup ("sorter" : Str)=some (.ref x)) (l.lookup ("held" : Str)=some (nv hd)) (l.lookup ("answers" : Str)=some (.ref an)) (l.lookup ("early" : Str)=some (.ref ea))) (fun k h' j=>?_) (fun k v h' t' h'' Q1 E1 hk hv j hit sb k1 _ _ _=>?_) (fun h' t' h'' j sb=>?_) ⟨_,nodes,1,⟨addsP N lt N,rdOf (addsP N lt N),0,0,[]⟩,H5,run1,ok0,en,by exact Zf _,by simp,m1,m2,by rfl,by rfl⟩
  ·obtain ⟨l,nodes,c,s,H',_⟩:=j
   exact ⟨H'.at (i:=0) rfl,trivial⟩
  ·clear q1 H5 H12 D7 en m1 m2 S8
   clear inv0 nodes
   obtain ⟨l,nodes,c,s,H',run,oki,en,hc,ho,m1,m2,m3,m4⟩:=j
   obtain ⟨tk,rfl⟩:=hv
   have H6:=H'.upd 0 rfl sb hit
   clear H'
   obtain ⟨j,ej⟩:∃ j,N - k=j + 1:=⟨N - k - 1,by exact sb3 ‹_›⟩
   rw [ej] at run
   obtain ⟨okt,run'⟩:=runL_succ run
   replace ej:N - (k + 1)=j:=by exact sb1 ‹_›
   unfold okA okR at okt
   simp only [Bool.and_eq_true,decide_eq_true_eq,List.all_eq_true] at okt
   obtain ⟨⟨okl,okr⟩,okk⟩:=okt
   refine Zl (s_st H6 fun h7 t7 H7=>?_)
   replace H7:=H7.perm (G:=(srtF w nv ns CS CN x dx n2i nodes (.ref rd) s.po s.nf++[(rd,ListP (s.rl.map nv))])++[(it2,RngP (k + 1) N),(an,ListP (List.replicate c .none)),(ea,ListP (s.out.map nv)),(L + 3,CellP oc),(L + 2,CellP (some (.ref sp))),(L + 1,CellP (some (.ref na)))]) (Zi (l₁:=[_,_,_,_,_,_]))
   obtain ⟨u1,u2,D7⟩:=SDP.at' (H7.at (i:=1) rfl)
   refine s_cons fun _ q1 _=>(Yq ?_)
   refine s_meth0 V.sk.k (V.X0.keeps H7.low) MG hfG (H7.at (i:=0) rfl) D7 rfl (fun Q q=>s_ld H7 q (hv:=m1)) H7.low ?_
   refine getready_call (n:=n) (rm'.le (by exact Za (by decide) _)) hF H7.al H7.low hfG V (by exact Ye ‹_› (by decide)) (inv_of (by rw [en]; exact oki)).wf (fun q hq=>⟨(okr q hq).1,by rw [en]; exact (okr q hq).2⟩) H7.lump fun h8 t8 tup nodes1 S8 en1=>?_
   rw [en] at en1
   have H8:=(H7.step S8).perm (G:=(tup,TupP (s.rl.map nv))::(it2,RngP (k + 1) N)::(an,ListP (List.replicate c .none))::(ea,ListP (s.out.map nv))::(L + 3,CellP oc)::(L + 2,CellP (some (.ref sp)))::(L + 1,CellP (some (.ref na)))::(srtF w nv ns CS CN x dx n2i nodes1 (.ref rd) (s.po + s.rl.length) s.nf++[(rd,ListP (([]:List Nat).map nv))])) (by
    rw [show ∀ (a:Fs) (u v:Addr×OP),a++[u,v]=(a++[u])++[v] from fun a u v=>by simp]
    rw [List.append_assoc]
    exact Zi)
   refine s_st H8 fun h9 t9 H9=>q1 _ ?_
   clear q1 H7 H8 H6
   refine s_cons fun _ q1 _=>(wpAny_Expr_any (wpAny_Call_append (by rfl) (by rfl) (by rfl) (by rfl) (s_ld H9 ⟨_,_,rfl,(H9.at (i:=2) rfl).plainL,wpAny_IfExp (Zv (s_bcall2 V.bs H9.low LN.i0 LN.i1 (s_ld H9 (s_bname V.bs H9.low V.t0 V.t1 (s_isTup (H9.at (i:=0) rfl) (Yi ?_))))))⟩ (hv:=m3))))
   rw [if_pos rfl]
   refine Zg (s_append (xs':=List.replicate (c + 1) .none) H9 2 rfl (by rw [List.replicate_succ']) (by rw [List.length_replicate]; lia) fun h10 tt H10=>q1 _ ?_)
   clear q1 H9
   refine s_cons fun _ q1 _=>(wpAny_For (s_ld H10 (wpAny_pyIter_tuple (H10.at (i:=0) rfl).tup ?_)))
   have H11:=H10.push { cls:=.type "tuple_iterator",data:=.fields #[.ref tup,.int 0 0] } (p:=TIterP tup 0) ⟨rfl,rfl⟩
   generalize h10.objs.size=it3 at H11 ⊢
   replace H11:St H0 h (adr fr) [] L (_::_::l) ((it3,TIterP tup 0)::(tup,TupP (s.rl.map nv))::(it2,RngP (k + 1) N)::(an,ListP (List.replicate (c + 1) .none))::(ea,ListP (s.out.map nv))::(L + 3,CellP oc)::(L + 2,CellP (some (.ref sp)))::(L + 1,CellP (some (.ref na)))::(srtF w nv ns CS CN x dx n2i nodes1 (.ref rd) (s.po + s.rl.length) s.nf++[(rd,ListP (([]:List Nat).map nv))])) _:=H11
   rw [show s.out=s.out++s.rl.take 0 from by simp] at H11
   generalize edf:s.rl.foldl (stepK hd) ((readyP s.ps s.rl,[]),s.nf)=dfin
   have efin:turnA hd s=⟨dfin.1.1,dfin.1.2,s.po + s.rl.length,dfin.2,s.out++s.rl⟩:=by unfold turnA; rw [edf]
   rw [efin] at run'
   clear run efin
   refine s_forQ (Itr.tuple rm'.1 it3 tup (s.rl.map nv)) (fun k2 h'=>E4 fun l nodes c (dk:(List PN×List Nat)×Int)=>A10 (St H0 h (adr fr) [] L l ((it3,TIterP tup k2)::(tup,TupP (s.rl.map nv))::(it2,RngP (k + 1) N)::(an,ListP (List.replicate c .none))::(ea,ListP ((s.out++s.rl.take k2).map nv))::(L + 3,CellP oc)::(L + 2,CellP (some (.ref sp)))::(L + 1,CellP (some (.ref na)))::(srtF w nv ns CS CN x dx n2i nodes (.ref rd) (s.po + s.rl.length) dk.2++[(rd,ListP (dk.1.2.map nv))])) h') (okK hd dk (s.rl.drop k2)=true) ((s.rl.drop k2).foldl (stepK hd) dk=dfin) (okI N (shp dk.1.1)=true) (nodes.map (·.1)=dk.1.1) (c≤2 + 51 * k + k2) (l.lookup ("sorter" : Str)=some (.ref x)) (l.lookup ("held" : Str)=some (nv hd)) (l.lookup ("answers" : Str)=some (.ref an)) (l.lookup ("early" : Str)=some (.ref ea))) (fun k h' j=>?_) (fun k2 v h' t' h'' Q2 E₂ hk2 hv j hit sb k3 _ _ _=>?_) (fun h' t' h'' j sb=>?_) ⟨_,nodes1,c + 1,((readyP s.ps s.rl,[]),s.nf),H11,okk,edf,by rw [shp_readyP]; exact oki,en1,by lia,m1,m2,m3,m4⟩
   ·obtain ⟨l,nodes,c,dk,H',_⟩:=j
    exact ⟨H'.at (i:=0) rfl,H'.at (i:=1) rfl⟩
   ·clear q1 H11 H10 D7 en m1 m2 m3 m4 S8 en1 edf okk
    clear l nodes nodes1 c hc
    obtain ⟨l,nodes,c,dk,H',okk,edf,oki,en,hc,m1,m2,m3,m4⟩:=j
    have hk2':k2 < s.rl.length:=by simpa using hk2
    have hv':nv s.rl[k2]=v:=by simpa [Zc,Yj hk2'] using hv
    have hjN:=(okr _ (List.getElem_mem hk2')).1
    have tk:s.rl.take (k2 + 1)=s.rl.take k2++[s.rl[k2]]:=by rw [List.take_add_one,Yj hk2']; rfl
    have dr:s.rl.drop k2=s.rl[k2]::s.rl.drop (k2 + 1):=List.drop_eq_getElem_cons hk2'
    generalize s.rl[k2]=j at hv' hjN tk dr
    subst hv'
    rw [dr] at okk edf
    obtain ⟨okj,okk'⟩:=okK_at okk
    rw [List.foldl_cons] at edf
    have H6:=H'.upd 0 rfl sb hit
    clear H' hit sb okk
    refine Zl (s_st H6 fun h7 t7 H7=>?_)
    refine s_cons fun _ q1 _=>(wpAny_Expr_any (wpAny_Call_append (by rfl) (by rfl) (by rfl) (by rfl) (s_ld H7 ⟨_,_,rfl,(H7.at (i:=4) rfl).plainL,s_ld H7 ?_⟩ (hv:=m4))))
    have tkl:(s.out++s.rl.take k2).length≤500:=by
     rw [Zw,List.length_take]; lia
    refine s_append (xs':=(s.out++s.rl.take (k2 + 1)).map nv) H7 4 rfl (by rw [tk,← List.append_assoc,Yt (l₁:=s.out++s.rl.take k2)]; rfl) (by rw [Yp]; exact Ye ‹_› (by decide)) fun h8 tt H8=>q1 _ ?_
    clear q1 H7 H6
    obtain ⟨tj,evj⟩:=V.nm.v j hjN
    obtain ⟨th,evh⟩:=V.nm.v hd hh
    refine s_cons fun _ q1 _=>(Zh (Yg (s_ld H8 (s_ld H8 ?_ (hv:=m2)))))
    rw [evj,evh]
    refine PySem.P.ne_str (Yi ?_)
    rw [nm_ne V.nm hjN hh]
    by_cases hjh:j=hd
    ·subst hjh
     rw [if_neg (by simp)]
     refine Ym (q1 _ (Ym (k3 _ _ ⟨_,nodes,c,dk,H8,?_,?_,oki,en,by exact Nat.le_succ_of_le ‹_›,m1,m2,m3,m4⟩)))
     ·unfold stepK at okk'; rw [if_pos (by simp)] at okk'; exact okk'
     ·unfold stepK at edf; rw [if_pos (by simp)] at edf; exact edf
    ·have hne:(j == hd)=false:=Zp.mpr hjh
     have stp:stepK hd dk j=(done1 dk.1 j,dk.2 + 1):=by unfold stepK; rw [hne,if_neg Yk]
     rw [stp] at okk' edf
     obtain ⟨npj,lnj⟩:=okj.resolve_left hjh
     rw [if_pos (by simp [hjh])]
     have H9:=H8.perm (G:=(srtF w nv ns CS CN x dx n2i nodes (.ref rd) (s.po + s.rl.length) dk.2++[(rd,ListP (dk.1.2.map nv))])++[(it3,TIterP tup (k2 + 1)),(tup,TupP (s.rl.map nv)),(it2,RngP (k + 1) N),(an,ListP (List.replicate c .none)),(ea,ListP ((s.out++s.rl.take (k2 + 1)).map nv)),(L + 3,CellP oc),(L + 2,CellP (some (.ref sp))),(L + 1,CellP (some (.ref na)))]) (Zi (l₁:=[_,_,_,_,_,_,_,_]))
     have iA:Is h8 an (ListP (List.replicate c .none)):=H8.at (i:=3) rfl
     clear H8
     obtain ⟨u1,u2,D9⟩:=SDP.at' (H9.at (i:=1) rfl)
     refine s_cons fun _ q2 _=>(wpAny_Expr_any (wpAny_Call_append (by rfl) (by rfl) (by rfl) (by rfl) (s_ld H9 ⟨_,_,rfl,iA.plainL,?_⟩ (hv:=m3))))
     refine s_meth1 V.sk.k (V.X0.keeps H9.low) MD hfD (H9.at (i:=0) rfl) D9 rfl (fun Q q=>s_ld H9 q (hv:=m1)) (s_ld H9 ⟨H9.low,?_⟩)
     refine done_call (n:=n) (js:=[j]) (rm'.le (by exact Za (by decide) _)) hF H9.al H9.low hfD V (by simp) (by exact Ye ‹_› (by decide)) (inv_of (by rw [en]; exact oki)) (fun q hq=>by rw [Zu.mp hq]; exact hjN) (by rw [en]; unfold okD; rw [npj]; rfl) H9.lump fun h10 t10 nodes' S10 en' _=>?_
     rw [en] at S10 en'
     have H11:=(H9.step S10).perm (G:=(an,ListP (List.replicate c .none))::(it3,TIterP tup (k2 + 1))::(tup,TupP (s.rl.map nv))::(it2,RngP (k + 1) N)::(ea,ListP ((s.out++s.rl.take (k2 + 1)).map nv))::(L + 3,CellP oc)::(L + 2,CellP (some (.ref sp)))::(L + 1,CellP (some (.ref na)))::(srtF w nv ns CS CN x dx n2i nodes' (.ref rd) (s.po + s.rl.length) (dk.2 + 1)++[(rd,ListP ((done1 dk.1 j).2.map nv))])) (Zi.trans (List.perm_middle (l₁:=[_,_,_])))
     refine s_append (xs':=List.replicate (c + 1) .none) H11 0 rfl (by rw [List.replicate_succ']) (by rw [List.length_replicate]; lia) fun h12 tt H12=>q2 _ ?_
     replace H12:=H12.perm (List.perm_middle (l₁:=[_,_,_])).symm
     refine Ym (q1 _ (Ym (k3 _ _ ⟨_,nodes',c + 1,(done1 dk.1 j,dk.2 + 1),H12,okk',edf,?_,en',by exact Nat.lt_succ_of_le ‹_›,m1,m2,m3,m4⟩)))
     rw [shp_done1]; exact oki
   ·clear H11 H10 D7 en m1 m2 m3 m4 S8 en1 edf okk
    clear l nodes nodes1 c hc
    obtain ⟨l,nodes,c,dk,H',okk,edf,oki,en,hc,m1,m2,m3,m4⟩:=j
    rw [Yp] at H' okk edf hc
    rw [List.drop_length] at edf
    rw [List.take_length] at H'
    replace edf:dk=dfin:=edf
    subst edf
    have H6:=H'.lose (H'.fresh (i:=0) rfl) sb
    have H7:=H6.lose (h':=h'') (H6.fresh (i:=0) rfl) (fun _ _ _ e=>e)
    refine q1 _ (Ym (k1 _ _ ⟨_,nodes,c,_,H7,by rw [ej]; exact run',oki,en,by lia,?_,m1,m2,m3,m4⟩))
    rw [Zw]; exact Nat.add_le_add ‹_› ‹_›
  ·clear H5 H12 D7 en m1 m2 S8
   clear inv0 nodes
   obtain ⟨l,nodes,c,s,H',run,oki,en,hc,ho,m1,m2,m3,m4⟩:=j
   rw [Nat.sub_self] at run
   obtain rfl:s=s1:=Zj run
   have H6:=H'.lose (H'.fresh (i:=0) rfl) sb
   refine q1 _ ?_
   clear q1 H' run sb
   obtain ⟨fT,nT,qT,cT,pT,MT,hfT⟩:=LN.act
   have H7:=H6.perm (G:=(srtF w nv ns CS CN x dx n2i nodes (.ref rd) s.po s.nf++[(rd,ListP (s.rl.map nv))])++[(an,ListP (List.replicate c .none)),(ea,ListP (s.out.map nv)),(L + 3,CellP oc),(L + 2,CellP (some (.ref sp))),(L + 1,CellP (some (.ref na)))]) (Zi (l₁:=[_,_,_,_,_]))
   obtain ⟨u1,u2,D7⟩:=SDP.at' (H7.at (i:=1) rfl)
   refine s_cons fun _ q1 _=>(wpAny_Expr_any (wpAny_Call_append (by rfl) (by rfl) (by rfl) (by rfl) (s_ld H7 ⟨_,_,rfl,(H6.at (i:=0) rfl).plainL,wpAny_IfExp (Yg ?_)⟩ (hv:=m3))))
   refine s_meth0 V.sk.k (V.X0.keeps H7.low) MT hfT (H7.at (i:=0) rfl) D7 rfl (fun Q q=>s_ld H7 q (hv:=m1)) H7.low ?_
   refine isact_call (n:=n) (rm'.le (by exact Za (by decide) _)) hF H7.al H7.low hfT V z1 H7.lump fun h8 t8 K8=>?_
   rw [act1]
   refine wpAny_Constant_bool (wpAny_is_plain (by rfl) (Yi ?_))
   rw [if_pos (by rfl)]
   have H8:=H6.call K8
   clear H6 H7 K8
   refine Zg (s_append (xs':=List.replicate (c + 1) .none) H8 0 rfl (by rw [List.replicate_succ']) (by rw [List.length_replicate]; lia) fun h9 tt H9=>q1 _ ?_)
   clear q1 H8
   have H10:=H9.perm (G:=(srtF w nv ns CS CN x dx n2i nodes (.ref rd) s.po s.nf++[(rd,ListP (s.rl.map nv))])++[(an,ListP (List.replicate (c + 1) .none)),(ea,ListP (s.out.map nv)),(L + 3,CellP oc),(L + 2,CellP (some (.ref sp))),(L + 1,CellP (some (.ref na)))]) (Zi (l₁:=[_,_,_,_,_]))
   obtain ⟨u1,u2,D10⟩:=SDP.at' (H10.at (i:=1) rfl)
   refine s_cons fun _ q1 _=>(wpAny_Expr_any (wpAny_Call_append (by rfl) (by rfl) (by rfl) (by rfl) (s_ld H10 ⟨_,_,rfl,(H9.at (i:=0) rfl).plainL,?_⟩ (hv:=m3))))
   refine s_meth1 V.sk.k (V.X0.keeps H10.low) MD hfD (H10.at (i:=0) rfl) D10 rfl (fun Q q=>s_ld H10 q (hv:=m1)) (s_ld H10 ⟨H10.low,?_⟩ (hv:=m2))
   refine done_call (n:=n) (js:=[hd]) (rm'.le (by exact Za (by decide) _)) hF H10.al H10.low hfD V (by simp) (by exact Ye ‹_› (by decide)) (inv_of (by rw [en]; exact oki)) (fun q hq=>by rw [Zu.mp hq]; exact hh) (by rw [en]; exact okd) H10.lump fun h11 t11 nodes' S11 en' sh'=>?_
   clear sh'
   rw [en] at S11 en'
   have H11:=(H10.step S11).perm (G:=(an,ListP (List.replicate (c + 1) .none))::(ea,ListP (s.out.map nv))::(L + 3,CellP oc)::(L + 2,CellP (some (.ref sp)))::(L + 1,CellP (some (.ref na)))::(srtF w nv ns CS CN x dx n2i nodes' (.ref rd) s.po (s.nf + 1)++[(rd,ListP ((doneP (s.ps,s.rl) [hd]).2.map nv))])) Zi
   clear H9 H10 S11 D10 D7
   refine s_append (xs':=List.replicate (c + 1 + 1) .none) H11 0 rfl (by rw [List.replicate_succ' (n:=c + 1)]) (by rw [List.length_replicate]; lia) fun h12 tt H12=>q1 _ ?_
   clear q1 H11
   refine s_cons fun _ q1 _=>(Yq (wpAny_List (Zn ⟨Zs _,?_⟩)))
   have H13:=H12.push { cls:=.type "list",data:=.seq ([]:List Value).toArray } (p:=ListP (([]:List Nat).map nv)) ⟨0,rfl⟩
   have nla:h.get? h12.objs.size=none:=H12.notOld (Yy (Zf _))
   dsimp only
   generalize h12.objs.size=la at H13 nla ⊢
   refine s_st H13 fun h14 t14 H14=>q1 _ ?_
   clear q1 H12 H13
   have oki':okI N (shp (doneP (s.ps,s.rl) [hd]).1)=true:=by rw [shp_doneP]; exact oki
   generalize doneP (s.ps,s.rl) [hd]=d0 at run2 H14 en' oki'
   have ho':s.out.length≤400:=Ye ho (by lia)
   replace hc:c + 1 + 1≤420:=by lia
   generalize c + 1 + 1=c0 at H14 hc
   refine s_cons fun _ q1 _=>(wpAny_For ?_)
   refine s_type1 V.bs H14.low NR.r0 NR.r1 ?_
   refine s_lenv V.bs H14.low NR.n0 NR.n1 (H14.old ha) (by simp; exact Ye ‹_› (by decide)) (fun Q q=>s_ldc (c:=L + 1) (v:=.ref na) (H14.at (i:=5) rfl) q) fun t0 t4=>?_
   rw [Yp,List.length_range]
   refine s_iterRange H14 (by exact Ye ‹_› (by decide)) fun it4 t5 h5 H5=>?_
   refine s_forQ (Itr.range rm'.1 it4 N) (fun k h'=>E5 fun l nodes c la (r:LS)=>A11 (St H0 h (adr fr) [] L l ((it4,RngP k N)::(la,ListP (r.out.map nv))::(an,ListP (List.replicate c .none))::(ea,ListP (s.out.map nv))::(L + 3,CellP oc)::(L + 2,CellP (some (.ref sp)))::(L + 1,CellP (some (.ref na)))::(srtF w nv ns CS CN x dx n2i nodes (.ref rd) r.po r.nf++[(rd,ListP (r.rl.map nv))])) h') (runL (okB N) turnB (N - k) r=some s2) (okI N (shp r.ps)=true) (nodes.map (·.1)=r.ps) (c≤420 + k) (r.out.length≤50 * k) (l.lookup ("sorter" : Str)=some (.ref x)) (l.lookup ("held" : Str)=some (nv hd)) (l.lookup ("answers" : Str)=some (.ref an)) (l.lookup ("early" : Str)=some (.ref ea)) (l.lookup ("late" : Str)=some (.ref la))) (fun k h' j=>?_) (fun k v h' t' h'' Q1 E1 hk hv j hit sb k1 _ _ _=>?_) (fun h' t' h'' j sb=>?_) ⟨_,nodes',c0,la,⟨d0.1,d0.2,s.po,s.nf + 1,[]⟩,H5,run2,oki',en',by exact Ye ‹_› (by decide),by simp,m1,m2,m3,m4,by rfl⟩
   ·obtain ⟨l,nodes,c,la,r,H',_⟩:=j
    exact ⟨H'.at (i:=0) rfl,trivial⟩
   ·clear q1 H5 H14 oki oki' en en' m1 m2 m3 m4 nla
    clear l nodes nodes' c0 hc
    obtain ⟨l,nodes,c,la,r,H',run,oki,en,hc,hro,m1,m2,m3,m4,m5⟩:=j
    obtain ⟨tk,rfl⟩:=hv
    have H6:=H'.upd 0 rfl sb hit
    clear H'
    obtain ⟨j,ej⟩:∃ j,N - k=j + 1:=⟨N - k - 1,by exact sb3 ‹_›⟩
    rw [ej] at run
    obtain ⟨okt,run'⟩:=runL_succ run
    replace ej:N - (k + 1)=j:=by exact sb1 ‹_›
    unfold okB okR at okt
    simp only [Bool.and_eq_true,decide_eq_true_eq,List.all_eq_true] at okt
    obtain ⟨⟨okl,okr⟩,okk⟩:=okt
    refine Zl (s_st H6 fun h7 t7 H7=>?_)
    replace H7:=H7.perm (G:=(srtF w nv ns CS CN x dx n2i nodes (.ref rd) r.po r.nf++[(rd,ListP (r.rl.map nv))])++[(it4,RngP (k + 1) N),(la,ListP (r.out.map nv)),(an,ListP (List.replicate c .none)),(ea,ListP (s.out.map nv)),(L + 3,CellP oc),(L + 2,CellP (some (.ref sp))),(L + 1,CellP (some (.ref na)))]) (Zi (l₁:=[_,_,_,_,_,_,_]))
    obtain ⟨u1,u2,D7⟩:=SDP.at' (H7.at (i:=1) rfl)
    refine s_cons fun _ q1 _=>(Yq ?_)
    refine s_meth0 V.sk.k (V.X0.keeps H7.low) MG hfG (H7.at (i:=0) rfl) D7 rfl (fun Q q=>s_ld H7 q (hv:=m1)) H7.low ?_
    refine getready_call (n:=n) (rm'.le (by exact Za (by decide) _)) hF H7.al H7.low hfG V (by exact Ye ‹_› (by decide)) (inv_of (by rw [en]; exact oki)).wf (fun q hq=>⟨(okr q hq).1,by rw [en]; exact (okr q hq).2⟩) H7.lump fun h8 t8 tup nodes1 S8 en1=>?_
    rw [en] at en1
    have H8:=(H7.step S8).perm (G:=(tup,TupP (r.rl.map nv))::(it4,RngP (k + 1) N)::(la,ListP (r.out.map nv))::(an,ListP (List.replicate c .none))::(ea,ListP (s.out.map nv))::(L + 3,CellP oc)::(L + 2,CellP (some (.ref sp)))::(L + 1,CellP (some (.ref na)))::(srtF w nv ns CS CN x dx n2i nodes1 (.ref rd) (r.po + r.rl.length) r.nf++[(rd,ListP (([]:List Nat).map nv))])) (by
     rw [show ∀ (a:Fs) (u v:Addr×OP),a++[u,v]=(a++[u])++[v] from fun a u v=>by simp]
     rw [List.append_assoc]
     exact Zi)
    refine s_st H8 fun h9 t9 H9=>q1 _ ?_
    clear q1 H7 H8 H6 D7 S8
    refine s_cons fun _ q1 _=>(Yq (wpAny_BinOp (s_ld H9 (s_type1 V.bs H9.low LN.l0 LN.l1 (s_ld H9 ?_)) (hv:=m5))))
    refine s_listTup H9 (H9.at (i:=0) rfl) (by rw [Yp]; exact Ye ‹_› (by decide)) fun h10 H10=>?_
    generalize h9.objs.size=lg at H10 ⊢
    refine s_addList H10 (H10.at (i:=3) rfl) (H10.at (i:=0) rfl) (by rw [Yp,Yp]; lia) fun h11 H11=>?_
    generalize h10.objs.size=la' at H11 ⊢
    rw [← Yt] at H11
    refine s_st H11 fun h12 t12 H12=>q1 _ ?_
    clear q1 H9 H10 H11
    have iT:Is h12 tup (TupP (r.rl.map nv)):=H12.at (i:=2) rfl
    have iA:Is h12 an (ListP (List.replicate c .none)):=H12.at (i:=5) rfl
    have H13:=H12.perm (G:=(srtF w nv ns CS CN x dx n2i nodes1 (.ref rd) (r.po + r.rl.length) r.nf++[(rd,ListP (([]:List Nat).map nv))])++[(la',ListP ((r.out++r.rl).map nv)),(lg,ListP (r.rl.map nv)),(tup,TupP (r.rl.map nv)),(it4,RngP (k + 1) N),(la,ListP (r.out.map nv)),(an,ListP (List.replicate c .none)),(ea,ListP (s.out.map nv)),(L + 3,CellP oc),(L + 2,CellP (some (.ref sp))),(L + 1,CellP (some (.ref na)))]) (Zi (l₁:=[_,_,_,_,_,_,_,_,_,_]))
    obtain ⟨u1,u2,D13⟩:=SDP.at' (H13.at (i:=1) rfl)
    refine s_cons fun _ q1 _=>(wpAny_Expr_any (wpAny_Call_append (by rfl) (by rfl) (by rfl) (by rfl) (s_ld H13 ⟨_,_,rfl,iA.plainL,?_⟩ (hv:=m3))))
    refine s_methS (s_ld H13 (i_bound V.sk.k H13 (V.X0.keeps H13.low) MD rfl (H13.at (i:=0) rfl) D13 rfl fun h14 t14 H14=>?_) (hv:=m1))
    generalize h12.objs.size=bm at H14 ⊢
    refine s_starBound (x:=.ref x) hfD (by rfl) (s_star1 (s_ld H14 ?_))
    refine s_starT H14 (H14.has (tup,_) (Yb _ (Ys _ (Yr (i:=2) rfl)))) (by rw [Yp]; exact Ye ‹_› (by decide)) fun h15 H15=>?_
    have H16:=H15.perm (G:=(srtF w nv ns CS CN x dx n2i nodes1 (.ref rd) (r.po + r.rl.length) r.nf++[(rd,ListP (([]:List Nat).map nv))])++[(bm,fun o=>o=methodObj (.ref fD) (.ref x)),(la',ListP ((r.out++r.rl).map nv)),(lg,ListP (r.rl.map nv)),(tup,TupP (r.rl.map nv)),(it4,RngP (k + 1) N),(la,ListP (r.out.map nv)),(an,ListP (List.replicate c .none)),(ea,ListP (s.out.map nv)),(L + 3,CellP oc),(L + 2,CellP (some (.ref sp))),(L + 1,CellP (some (.ref na)))]) List.perm_middle.symm
    refine ⟨H16.low,H15.at (i:=0) rfl,?_⟩
    refine done_call (n:=n) (js:=r.rl) (rm'.le (by exact Za (by decide) _)) hF H16.al H16.low hfD V (by exact Ye ‹_› (by decide)) (by simp) (inv_of (by rw [en1,shp_readyP]; exact oki)) (fun q hq=>(okr q hq).1) (by rw [en1]; exact okk) H16.lump fun h17 t17 nodes2 S17 en2 sh2=>?_
    clear sh2
    rw [en1] at S17 en2
    have H17:=(H16.step S17).perm Zi
    have H18:=H17.lose (h':=h17) (H17.fresh (i:=0) rfl) (fun _ _ _ e=>e)
    replace H18:=H18.perm ((List.perm_middle (l₁:=[_])).trans (List.Perm.refl _))
    have H19:=H18.lose (h':=h17) (H18.fresh (i:=0) rfl) (fun _ _ _ e=>e)
    replace H19:=H19.perm ((List.perm_middle (l₁:=[_])).trans (List.Perm.refl _))
    have H20:=H19.lose (h':=h17) (H19.fresh (i:=0) rfl) (fun _ _ _ e=>e)
    replace H20:=H20.perm (List.perm_middle (l₁:=[_,_]))
    have H21:=H20.lose (h':=h17) (H20.fresh (i:=0) rfl) (fun _ _ _ e=>e)
    replace H21:=H21.perm (List.Perm.swap _ _ _)
    clear H12 H13 H14 H15 H16 H17 H18 H19 H20 S17 iT
    refine s_append (xs':=List.replicate (c + 1) .none) H21 2 rfl (by rw [List.replicate_succ']) (by rw [List.length_replicate]; lia) fun h22 tt H22=>q1 _ ?_
    refine Ym (k1 _ _ ⟨_,nodes2,c + 1,la',turnB r,H22,by rw [ej]; exact run',?_,en2,by exact Nat.lt_succ_of_le ‹_›,?_,m1,m2,m3,m4,by rfl⟩)
    ·show okI N (shp (doneP (readyP r.ps r.rl,[]) r.rl).1)=true
     rw [shp_doneP]
     exact (congrArg (okI N) shp_readyP).trans oki
    ·show (r.out++r.rl).length≤_
     rw [Zw]; exact Nat.add_le_add ‹_› ‹_›
   ·clear H5 H14 oki oki' en en' m1 m2 m3 m4 nla
    clear l nodes nodes' c0 hc
    obtain ⟨l,nodes,c,la,r,H',run,oki,en,hc,hro,m1,m2,m3,m4,m5⟩:=j
    rw [Nat.sub_self] at run
    obtain rfl:r=s2:=Zj run
    have H6:=H'.lose (H'.fresh (i:=0) rfl) sb
    refine q1 _ ?_
    clear q1 H' run sb
    have H7:=H6.perm (G:=(srtF w nv ns CS CN x dx n2i nodes (.ref rd) r.po r.nf++[(rd,ListP (r.rl.map nv))])++[(la,ListP (r.out.map nv)),(an,ListP (List.replicate c .none)),(ea,ListP (s.out.map nv)),(L + 3,CellP oc),(L + 2,CellP (some (.ref sp))),(L + 1,CellP (some (.ref na)))]) (Zi (l₁:=[_,_,_,_,_,_]))
    obtain ⟨u1,u2,D7⟩:=SDP.at' (H7.at (i:=1) rfl)
    refine s_cons fun _ q1 _=>(wpAny_Expr_any (wpAny_Call_append (by rfl) (by rfl) (by rfl) (by rfl) (s_ld H7 ⟨_,_,rfl,(H6.at (i:=1) rfl).plainL,wpAny_IfExp (Yg ?_)⟩ (hv:=m3))))
    refine s_meth0 V.sk.k (V.X0.keeps H7.low) MT hfT (H7.at (i:=0) rfl) D7 rfl (fun Q q=>s_ld H7 q (hv:=m1)) H7.low ?_
    refine isact_call (n:=n) (rm'.le (by exact Za (by decide) _)) hF H7.al H7.low hfT V z2 H7.lump fun h8 t8 K8=>?_
    rw [act2]
    refine wpAny_Constant_bool (wpAny_is_plain (by rfl) (Yi ?_))
    rw [if_pos (by rfl)]
    have H8:=H6.call K8
    clear H6 H7 K8 D7
    refine Zg (s_append (xs':=List.replicate (c + 1) .none) H8 1 rfl (by rw [List.replicate_succ']) (by rw [List.length_replicate]; lia) fun h9 tt H9=>q1 _ ?_)
    clear q1 H8
    have lt1:∀ j∈s.out++r.out,j < N:=fun j hj=>Ua.mp (perm.mem_iff.mp hj)
    have st1:=strs_map V.nm lt1
    have st2:=strs_map V.nm (js:=List.range N) fun j hj=>Ua.mp hj
    have ln1:(s.out++r.out).length=N:=by rw [perm.length_eq,List.length_range]
    refine s_cons fun _ q1 _=>(Zh (isTrue_or (Yg (s_ld H9 (wpAny_BinOp ?_) (hv:=m3)))))
    refine s_list1' (g:=g) (Zg ⟨_,_,rfl,?_⟩)
    have H10:=H9.push { cls:=.type "list",data:=.seq ([.none]:List Value).toArray } (p:=ListP [.none]) ⟨0,rfl⟩
    refine s_lenv V.bs H10.low NR.n0 NR.n1 (H10.at (i:=2) rfl) (by rw [List.length_replicate]; lia) (fun Q q=>s_ld H10 q (hv:=m3)) fun t0 t11=>?_
    rw [List.length_replicate]
    refine s_mulList H10 (H10.at (i:=0) rfl) rfl (by simp; lia) (by lia) fun h12 H12=>?_
    refine s_neList (H12.at (i:=3) rfl) (H12.at (i:=0) rfl) (by simp) (rm'.le (by exact Za (by decide) _):Rm _ (n + 1)).u (fun j h1 h2=>?_) ?_
    ·have e1:(List.replicate (c + 1) Value.none)[j]=.none:=by simp
     have e2:((List.replicate (c + 1) [Value.none]).flatten)[j]=.none:=by
      have:=List.getElem_mem h2
      simp only [List.mem_flatten,List.mem_replicate] at this
      obtain ⟨l,⟨_,rfl⟩,q⟩:=this
      exact Zu.mp q
     rw [e1,e2]
     exact SeqAt.EqAt.same _
    refine Yi ?_
    rw [if_neg Yk]
    clear H9 H10
    refine isTrue_or (Yg (Zb (s_bname V.bs H12.low LN.so0 LN.so1 (callWith_builtin1 (wpAny_BinOp (s_ld H12 (s_ld H12 ?_ (hv:=m5)) (hv:=m4)))))))
    refine s_addList H12 (H12.at (i:=4) rfl) (H12.at (i:=2) rfl) (by rw [Zw] at ln1; rw [Yp,Yp]; lia) fun h13 H13=>?_
    rw [← Yt] at H13
    refine s_sortS H13 (H13.at (i:=0) rfl) st1 (by rw [Yp]; lia) fun b1 vs1 ss1 h14 p1 p2 p3 H14=>?_
    refine Zb (s_bname V.bs H14.low LN.so0 LN.so1 (PySem.callWith_builtin1 (s_ldc (c:=L + 1) (v:=.ref na) (H14.at (i:=9) rfl) ?_)))
    refine s_sortS H14 (H14.old ha) st2 (by rw [Yp,List.length_range]; lia) fun b2 vs2 ss2 h15 r1 r2 r3 H15=>?_
    obtain rfl:ss1=ss2:=sorted_unique p3 r3 ((p2.trans (perm.map ns)).trans r2.symm)
    refine s_neStrs (H15.at (i:=1) rfl) (H15.at (i:=0) rfl) p1 r1 (rm'.le (by lia):Rm _ (n + 1)).u (Yi ?_)
    rw [if_neg Yk]
    refine isTrue_or_nil ?_
    rw [if_neg Yk]
    refine Ym (q1 _ ?_)
    have iL:Is h15 la (ListP (r.out.map nv)):=H15.at (i:=5) rfl
    have nla:=H15.fresh (i:=5) rfl
    exact Yh (Zd (s_ld H15 (qr _ _ (hR h15 _ la H15.kp nla iL)) (hv:=m5))))
end zp0
end late_call
section
variable {A:Around} {B:Heap} {fa X:List Addr} {L:Addr} {g:Array GenState} {N:Nat} {E:Value→Shared→Prop} {env:Env} {x:Str} {R:Result→Shared→Prop} {Q:Value→Shared→Prop} {pos:Pos} {b:Addr} {x1:Nat} {e2:Expr} {y:Str} {it:Addr} {p2 p1:Pos} {t0:Tok} {j:Nat} {e1:Expr} {ks:List Int} {k:Nat} {a:Addr} {body:List Stmt} {F:Fs} {l:List (Str×Value)} {i:Nat} {xs vs:List Value} {v:Value} {s:Shared} {h:Heap} {t:Nat}
theorem late_call:late_call_S:=@Wr.out _ late_call.zp0.zq
section
variable {key:Nat→Nat} {cmp:Nat→Nat→(Bool→Shared→Prop)→Shared→Prop} {I:Shared→Prop}
noncomputable def Srt (key:Nat→Nat) (p:Array Nat) (n:Nat):Prop:=∀ i j,i≤j→j < n→key (p.getD i 0)≤key (p.getD j 0)
noncomputable def PermR (N:Nat) (p:Array Nat):Prop:=p.Perm (List.toArray (List.range N))
theorem PermR.size {p:Array Nat} (h:PermR N p):p.size=N:=by rw [Array.Perm.size_eq h]; simp
theorem PermR.lt {p:Array Nat} (h:PermR N p) (hN:0 < N) (i:Nat):p.getD i 0 < N:=by
 by_cases hi:i < p.size
 ·have m:p.getD i 0∈p.toList:=by
   rw [Array.getD_eq_getD_getElem?,Array.getElem?_eq_getElem hi]
   simp
  have:=(Array.perm_iff_toList_perm.mp h).mem_iff.mp m
  simpa using this
 ·rw [Array.getD_eq_getD_getElem?,Array.getElem?_eq_none (by lia)]
  exact hN
noncomputable abbrev Asks (key:Nat→Nat) (N:Nat) (cmp:Nat→Nat→(Bool→Shared→Prop)→Shared→Prop) (I:Shared→Prop):Prop :=
 ∀ i j C s,i < N→j < N→I s→(∀ s',I s'→C (decide (key i < key j)) s')→cmp i j C s
theorem asc_ok (hc:Asks key N cmp I) {p:Array Nat} (hp:PermR N p) (hN:0 < N) {Q:Nat→Shared→Prop}:∀ f n s,1≤n→n + f=N→Srt key p n→I s→(∀ m s',n≤m→m≤N→Srt key p m→(m < N→key (p.getD m 0) < key (p.getD (m - 1) 0))→I s'→Q m s')→(kas_asc p f n).kasWp cmp Q s:=by
 intro f
 induction f with
 | zero=>exact fun n s h1 hn hs hi k=>k n s (Zf _) (Nat.le_of_eq hn) hs (fun z=>absurd hn (Nat.ne_of_lt z)) hi
 | succ f ih =>
  intro n s h1 hn hs hi k
  show cmp _ _ _ s
  refine hc _ _ _ s (hp.lt hN n) (hp.lt hN (n - 1)) hi fun s' hi'=>?_
  by_cases q:key (p.getD n 0) < key (p.getD (n - 1) 0)
  ·rw [decide_eq_true q]
   exact k n s' (Zf _) (hn ▸ Nat.le_add_right n (f + 1)) hs (fun _=>q) hi'
  ·rw [decide_eq_false q]
   refine ih (n + 1) s' (Nat.le_succ_of_le h1) ((Nat.succ_add_eq_add_succ n f).trans hn) (fun i j hij hj=>?_) hi' fun m s'' a b c e d=>k m s'' (Nat.le_of_succ_le a) b c e d
   rcases Nat.lt_or_eq_of_le (Nat.le_of_lt_succ hj) with hjn | rfl
   ·exact hs i j hij hjn
   ·rcases Nat.lt_or_eq_of_le hij with hin | rfl
    ·exact Ye (hs i (j - 1) (Nat.le_sub_one_of_lt hin) (Nat.sub_lt h1 Nat.one_pos)) (Nat.le_of_not_lt q)
    ·exact Zf _
theorem mid {l r f:Nat} (h:¬ l≥r) (z:r - l≤f + 1):A4 (l≤(l + r) / 2) ((l + r) / 2 < r) ((l + r) / 2 - l≤f) (r - ((l + r) / 2 + 1)≤f):=by
 have h:=Nat.lt_of_not_le h
 have a:l≤(l + r) / 2:=(Nat.le_div_iff_mul_le Nat.two_pos).mpr (by rw [Nat.mul_two]; exact Za (Nat.le_of_lt h) l)
 have b:(l + r) / 2 < r:=(Nat.div_lt_iff_lt_mul Nat.two_pos).mpr (by rw [Nat.mul_two]; exact Nat.add_lt_add_right h r)
 generalize (l + r) / 2=m at a b ⊢
 exact ⟨a,b,Nat.le_of_lt_succ (Nat.lt_of_lt_of_le (Nat.sub_lt_sub_right a b) z),Nat.le_of_lt_succ (Nat.lt_of_lt_of_le (Nat.sub_lt_sub_left h (Nat.lt_succ_of_le a)) z)⟩
theorem place_ok (hc:Asks key N cmp I) {p:Array Nat} (hp:PermR N p) (hN:0 < N) (hs:Srt key p k) {Q:Nat→Shared→Prop}:∀ f l r s,l≤r→r≤k→r - l≤f→(∀ i,i < l→key (p.getD i 0)≤key (p.getD k 0))→(∀ i,r≤i→i < k→key (p.getD k 0) < key (p.getD i 0))→I s →
   (∀ m s',m≤k→(∀ i,i < m→key (p.getD i 0)≤key (p.getD k 0))→(∀ i,m≤i→i < k→key (p.getD k 0) < key (p.getD i 0))→I s'→Q m s')→(kas_place p k f l r).kasWp cmp Q s:=by
 intro f
 induction f with
 | zero =>
  intro l r s h1 h2 h3 h4 h5 hi q
  obtain rfl:=Nat.le_antisymm h1 (Nat.sub_eq_zero_iff_le.mp (Nat.le_zero.mp h3))
  exact q l s h2 h4 h5 hi
 | succ f ih =>
  intro l r s h1 h2 h3 h4 h5 hi q
  show (if l≥r then KasT.ret l else _:KasT Nat).kasWp cmp Q s
  by_cases hlr:l≥r
  ·rw [if_pos hlr]
   obtain rfl:=Nat.le_antisymm h1 hlr
   exact q l s h2 h4 h5 hi
  ·rw [if_neg hlr]
   obtain ⟨g1,g2,g3,g4⟩:=mid hlr h3
   refine hc _ _ _ s (hp.lt hN k) (hp.lt hN _) hi fun s' hi'=>?_
   generalize (l + r) / 2=m at g1 g2 g3 g4 ⊢
   by_cases c:key (p.getD k 0) < key (p.getD m 0)
   ·rw [decide_eq_true c]
    exact ih l m s' g1 (Ye (Nat.le_of_lt g2) h2) g3 h4 (fun i h6 h7=>Nat.lt_of_lt_of_le c (hs _ _ h6 h7)) hi' q
   ·rw [decide_eq_false c]
    exact ih (m + 1) r s' g2 h2 g4 (fun i h6=>Ye (hs i m (Nat.le_of_lt_succ h6) (Nat.lt_of_lt_of_le g2 h2)) (Nat.le_of_not_lt c)) h5 hi' q
theorem ins_le {g A:Nat→Nat} {m x:Nat} (at':∀ i,A i=if i=m then x else if m < i∧i≤k then g (i - 1) else g i) (h1:∀ i,i < m→key (g i)≤key x) (h2:∀ i,m≤i→i < k→key x < key (g i))
  (hs:∀ i j,i≤j→j < k→key (g i)≤key (g j)) (hm:m≤k) (hij:i≤j) (hj:j≤k):key (A i)≤key (A j):=by
 have lo:∀ i,i < m→A i=g i:=fun i h=>by rw [at',if_neg (Nat.ne_of_lt h),if_neg fun z=>Nat.lt_asymm h z.1]
 have mi:A m=x:=by rw [at',if_pos rfl]
 have hi:∀ i,m < i→i≤k→A i=g (i - 1):=fun i h z=>by rw [at',if_neg (Nat.ne_of_gt h),if_pos ⟨h,z⟩]
 have pj:∀ {j},m < j→j≤k→m≤j - 1∧j - 1 < k:=fun h z=>⟨Nat.le_sub_one_of_lt h,Nat.lt_of_lt_of_le (Nat.sub_lt (Nat.zero_lt_of_lt h) Nat.one_pos) z⟩
 rcases Nat.lt_trichotomy i m with a | rfl | a
 ·rw [lo i a]
  rcases Nat.lt_trichotomy j m with b | rfl | b
  ·rw [lo j b]; exact hs i j hij (Nat.lt_of_lt_of_le b hm)
  ·rw [mi]; exact h1 i a
  ·rw [hi j b hj]; exact hs i _ (Ye (Nat.le_of_lt a) (pj b hj).1) (pj b hj).2
 ·rcases Nat.lt_or_eq_of_le hij with b | rfl
  ·rw [mi,hi j b hj]; exact Nat.le_of_lt (h2 _ (pj b hj).1 (pj b hj).2)
  ·exact Zf _
 ·have b:=Nat.lt_of_lt_of_le a hij
  rw [hi i a (Ye hij hj),hi j b hj]
  exact hs _ _ (Nat.sub_le_sub_right hij 1) (pj b hj).2
theorem bin_ok (hc:Asks key N cmp I) (hN:0 < N) {Q:Array Nat→Shared→Prop}:∀ f p k s,k + f=N→PermR N p→Srt key p k→I s→(∀ p' s',PermR N p'→Srt key p' N→I s'→Q p' s')→(kas_bin f p k).kasWp cmp Q s:=by
 intro f
 induction f with
 | zero=>exact fun p k s hk hp hs hi q=>q p s hp (hk ▸ hs) hi
 | succ f ih =>
  intro p k s hk hp hs hi q
  show ((kas_place p k k 0 k).bind _).kasWp cmp Q s
  rw [KasT.kasWp_bind]
  refine place_ok hc hp hN hs k 0 k s (Zs _) (Zf _) (Zf _) (fun i h=>absurd h (Nat.not_lt_zero _)) (fun i h1 h2=>absurd h2 (Nat.not_lt_of_le h1)) hi fun m s' hm h1 h2 hi'=>?_
  have kz:k < p.size:=by rw [hp.size,← hk]; exact Nat.lt_add_of_pos_right (Nat.succ_pos f)
  have at':∀ i,(bubble p k (k - m)).getD i 0=if i=m then p.getD k 0 else if m < i∧i≤k then p.getD (i - 1) 0 else p.getD i 0:=fun i=>by
   rw [Array.getD_eq_getD_getElem?,getElem?_bubble kz (k - m) (Nat.sub_le _ _),Nat.sub_sub_self hm]
   by_cases z:i=m
   ·rw [if_pos z,if_pos z,← Array.getD_eq_getD_getElem?]
   ·rw [if_neg z,if_neg z]
    by_cases y:m < i∧i≤k
    ·rw [if_pos y,if_pos y,← Array.getD_eq_getD_getElem?]
    ·rw [if_neg y,if_neg y,← Array.getD_eq_getD_getElem?]
  exact ih _ (k + 1) s' ((Nat.succ_add_eq_add_succ k f).trans hk) ((bubble_perm p k (k - m)).trans hp) (fun i j hij hj=>ins_le (A:=fun i=>(bubble p k (k - m)).getD i 0) (g:=fun i=>p.getD i 0) at' h1 h2 hs hm hij (Nat.le_of_lt_succ hj)) hi' q
theorem sort_ok (hc:Asks key N cmp I) (h2:2≤N) (h01:key 0 < key 1) {Q:Array Nat→Shared→Prop} (hi:I s) (hinj:∀ i j,i < N→j < N→key i=key j→i=j) (q:∀ p' s',PermR N p'→Srt key p' N→I s'→Q p' s'):(kas_sort N).kasWp cmp Q s:=by
 have hp:PermR N (List.toArray (List.range N)):=Array.Perm.refl _
 have hN:0 < N:=Nat.lt_of_lt_of_le Nat.two_pos h2
 have gd:∀ i,i < N→(List.toArray (List.range N)).getD i 0=i:=fun i h=>by
  rw [Array.getD_eq_getD_getElem?,List.getElem?_toArray,List.getElem?_range h]; rfl
 show ((kas_count N (List.range N).toArray).bind _).kasWp cmp Q s
 rw [KasT.kasWp_bind]
 show ((kas_asc _ _ 1).bind _).kasWp cmp _ s
 rw [KasT.kasWp_bind]
 refine asc_ok hc hp hN (N - 1) 1 s (Zf _) (Nat.add_sub_of_le hN) (fun i j hij hj=>by rw [Nat.lt_one_iff.mp hj] at hij ⊢; rw [Nat.le_zero.mp hij]; exact Zf _) hi fun m s' m1 m2 hs hm hi'=>?_
 generalize (List.range N).toArray=p at hp gd hs hm ⊢
 rcases Nat.lt_or_eq_of_le m2 with hlt | rfl
 ·have m3:1 < m:=by
   rcases Nat.lt_or_eq_of_le m1 with h | rfl
   ·exact h
   ·have:=hm hlt
    rw [gd 1 hlt,gd 0 hN] at this
    exact absurd h01 (Nat.lt_asymm this)
  rw [if_neg fun z=>Nat.ne_of_lt hlt (beq_iff_eq.mp z),if_pos m3]
  have lm:m - 1 < N:=Nat.lt_of_le_of_lt (Nat.sub_le _ _) hlt
  refine hc _ _ _ s' (hp.lt hN 0) (hp.lt hN (m - 1)) hi' fun s'' hi''=>?_
  have c:key (p.getD 0 0) < key (p.getD (m - 1) 0):=by
   refine Nat.lt_of_le_of_ne (hs 0 (m - 1) (Zs _) (Nat.sub_lt m1 Nat.one_pos)) fun e=>?_
   rw [gd 0 hN,gd (m - 1) lm] at e
   exact absurd (hinj 0 (m - 1) hN lm e) (Nat.ne_of_lt (Nat.sub_pos_of_lt m3))
  rw [decide_eq_true c]
  show (if m < N then kas_bin (N - max m 1) _ (max m 1) else KasT.ret _:KasT (Array Nat)).kasWp cmp Q s''
  rw [if_pos hlt,Nat.max_eq_left m1]
  exact bin_ok hc hN _ _ m s'' (Nat.add_sub_of_le m2) hp hs hi'' q
 ·rw [if_pos (beq_self_eq_true m)]
  show (if m < m then _ else KasT.ret _:KasT (Array Nat)).kasWp cmp Q s'
  rw [if_neg (Nat.lt_irrefl _)]
  exact q _ s' hp hs hi'
end
noncomputable def newsOf (h:Heap) (L:Addr):List (Addr×Obj):=(List.range h.objs.size).filterMap fun a=>if a=L then none else (h.get? a).map fun o=>(a,o)
theorem mem_newsOf {p:Addr×Obj}:p∈newsOf h L↔p.1≠L∧h.get? p.1=some p.2:=by
 unfold newsOf
 rw [List.mem_filterMap]
 constructor
 ·rintro ⟨a,_,e⟩
  by_cases q:a=L
  ·rw [if_pos q] at e; cases e
  ·rw [if_neg q] at e
   obtain ⟨o,ho,rfl⟩:=Zt.mp e
   exact ⟨q,ho⟩
 ·rintro ⟨q,e⟩
  exact ⟨p.1,Ua.mpr (Heap.lt_size e),by rw [if_neg q,e]; rfl⟩
noncomputable def lexB (a b:Int×Int×Int):Bool:=if a.1 == b.1 then (if a.2.1 == b.2.1 then (if a.2.2 == b.2.2 then false else decide (a.2.2 < b.2.2)) else decide (a.2.1 < b.2.1)) else decide (a.1 < b.1)
noncomputable def Tup3 (c:Int×Int×Int):OP:=fun o=>E3 fun t u v=>TupP [.int c.1 t,.int c.2.1 u,.int c.2.2 v] o
theorem tup_lt {c c':Int×Int×Int} {Q:Bool→Shared→Prop} (ha:Is h a (Tup3 c)) (hb:Is h b (Tup3 c')) (q:Q (lexB c c') (sh g t h)) :
  wpAny (model P w) A (keyLt' (tuples' true) (.ref a) (.ref b)) Q E (sh g t h):=by
 obtain ⟨_,e1,t1,t2,t3,n,rfl⟩:=ha
 obtain ⟨_,e2,u1,u2,u3,k,rfl⟩:=hb
 unfold lexB at q
 refine kat_lt (b:=true) e1 rfl e2 rfl ?_
 refine kat_cons (wpAny_eqBool_int (kat_go (fun e=>kat_yes ?_) fun e=>kat_no ?_))
 ·rw [e,if_pos rfl] at q
  refine kat_cons (wpAny_eqBool_int (kat_go (fun e=>kat_yes ?_) fun e=>kat_no ?_))
  ·rw [e,if_pos rfl] at q
   refine kat_cons (wpAny_eqBool_int (kat_go (fun e=>kat_yes ?_) fun e=>kat_no ?_))
   ·rw [e,if_pos rfl] at q
    exact kat_nil q
   ·rw [e,if_neg Yk] at q
    exact kat_one _ _ (PySem.P.lt_int q)
  ·rw [e,if_neg Yk] at q
   exact kat_one _ _ (PySem.P.lt_int q)
 ·rw [e,if_neg Yk] at q
  exact oneLt_int q
theorem katTups_of {h:Heap} {C:Nat→Int×Int×Int} {ad:Nat→Addr} (hx:∀ i,i < N→Is h (ad i) (Tup3 (C i))):∀ k,k≤N→∃ fs,KatTups h ((List.range' (N - k) k).map fun i=>.ref (ad i)) fs∧fs.length=k∧∀ v∈fs,E2 fun x t=>v=.int x t
 | 0,_=>⟨[],trivial,rfl,fun v hv=>by simp at hv⟩
 | k + 1,hk=>by
  obtain ⟨fs,z1,z2,z3⟩:=katTups_of hx k (by exact Nat.le_of_lt ‹_›)
  obtain ⟨_,e1,t1,t2,t3,n,rfl⟩:=hx (N - (k + 1)) (by lia)
  rw [List.range'_succ,Zq,show N - (k + 1) + 1=N - k by lia]
  exact ⟨_::fs,KatTups.cons e1 rfl rfl rfl z1,by rw [List.length_cons,z2],fun v hv=>by
   rcases Yu.mp hv with rfl | hv
   ·exact ⟨_,_,rfl⟩
   ·exact z3 v hv⟩
theorem s_sortT {F l} {ad:Nat→Addr} {C:Nat→Int×Int×Int} {key:Nat→Nat}
  (H:St H0 B fa X L l F h) (ha:Is h a (ListP ((List.range N).map fun i=>.ref (ad i)))) (h2:2≤N) (h64:N < 64) (hx:∀ i,i < N→Is h (ad i) (Tup3 (C i))) (hk:∀ i j,i < N→j < N→lexB (C i) (C j)=decide (key i < key j))
  (h01:key 0 < key 1) (hinj:∀ i j,i < N→j < N→key i=key j→i=j)
  (q:∀ b p h' t',PermR N p→Srt key p N→St H0 B fa X L l ((b,ListP (p.toList.map fun i=>.ref (ad i)))::F) h'→Q (.ref b) (sh g t' h')) :
  wpAny (model P w) A (call (.builtin "sorted") [.ref a]) Q E (sh g t h):=by
 have F0:Fr {} L h (fun x=>l.lookup x):=⟨H.lo,fun b o e=>by simp [Heap.get?] at e,Zs _⟩
 have N0:News {} L h (newsOf h L):=fun p hp=>⟨(mem_newsOf.mp hp).2,(mem_newsOf.mp hp).1,by simp [Heap.get?]⟩
 have nL:∀ i,i < N→ad i≠L:=fun i hi e=>by
  obtain ⟨o,ho,_,_,_,_,rfl⟩:=hx i hi
  obtain ⟨o',es,ep,e',r,_⟩:=H.lo
  rw [e,e'] at ho
  cases ho
  simp at r
 have vlen:((List.range N).map fun i=>Value.ref (ad i)).length=N:=by simp
 have vat:∀ i,i < N→((List.range N).map fun i=>Value.ref (ad i)).getD i .none=.ref (ad i):=fun i hi=>by simp [hi]
 refine kat_sorted F0 N0 ha.list (by rw [vlen]; exact h2) (by rw [vlen]; exact h64) fun D e1 h' F' N' hD=>?_
 have at':∀ i,i < N→Is h' (ad i) (Tup3 (C i)):=fun i hi=>(hx i hi).at fun o e=>(N' (ad i,o) (Yb _ (mem_newsOf.mpr ⟨nL i hi,e⟩))).1
 obtain ⟨fs,z1,z2,z3⟩:=katTups_of at' N (Zf _)
 rw [Nat.sub_self,← List.range_eq_range'] at z1
 refine kat_kind (T:=.type "int") z1 (by lia) (fun v hv=>by obtain ⟨x,t,rfl⟩:=z3 v hv; exact Looks.of_pure rfl) (by decide) ?_
 rw [show (Value.type "int" != Value.type "tuple")=true by decide,vlen]
 refine sort_ok (key:=key) (I:=fun s'=>∃ t',s'=(sh g t' h')) (fun i j K s hi hj hI hC=>?_) h2 h01 ⟨_,rfl⟩ hinj fun p s' hp hs hI=>?_
 ·obtain ⟨t',rfl⟩:=hI
  unfold kas_ask
  rw [vat i hi,vat j hj]
  refine tup_lt (at' i hi) (at' j hj) ?_
  rw [hk i j hi hj]
  exact hC _ ⟨_,rfl⟩
 ·obtain ⟨t',rfl⟩:=hI
  refine KasFin.intro F' N' (UpdF.head fun p hp=>Nat.ne_of_lt (hD p hp)) fun h'' c F'' N''=>?_
  have em:(p.toList.map fun i=>((List.range N).map fun i=>Value.ref (ad i)).getD i .none)=p.toList.map fun i=>.ref (ad i):=List.map_congr_left fun i hi=>vat i (by
   have:=(Array.perm_iff_toList_perm.mp hp).mem_iff.mp hi
   simpa using this)
  rw [em] at N''
  have sb:∀ b o,b≠L→h.get? b=some o→h''.get? b=some o:=fun b o hb e=>(N'' (b,o) (Yb _ (mem_newsOf.mpr ⟨hb,e⟩))).1
  obtain ⟨d1,d2,_⟩:=N'' (D,_) Yc
  have nD:h.get? D=none:=none_of fun o e=>absurd (hD (D,o) (mem_newsOf.mpr ⟨d2,e⟩)) (Nat.lt_irrefl _)
  refine q D p h'' _ hp hs ((H.names F''.ns sb).put (H.notOld nD) (H.al.notIn nD) (fun hm=>?_) (none_of fun o e=>by have:=H.low _ _ e; rw [nD] at this; cases this) ⟨_,d1,c,rfl⟩)
  obtain ⟨y,hy,e⟩:=Yx.mp hm
  obtain ⟨o,ho,_⟩:=H.has y hy
  rw [e,nD] at ho; cases ho
theorem s_forT {elts:List Expr} (bs:Nat→Addr) (hb:∀ i (hi:i < xs.length),xs[i]=.ref (bs i)) (hh:A.handled=none) (J:Nat→Heap→Prop)
  (hJ:∀ i h,J i h→Is h it (IterP a i)∧Is h a (ListP xs))
  (turn:∀ i h t h' (Q:Flow→Shared→Prop) (E:Value→Shared→Prop),i < xs.length→J i h→Is h' it (IterP a (i + 1))→(∀ b o,b≠it→h.get? b=some o→h'.get? b=some o) →
   (∀ h3 t3,J (i + 1) h3→Q .next (sh g t3 h3)) →
   wpAny (model P w) A (assign (.Tuple elts x1 pos) env (.ref (bs i))) (fun _ s2=>wpAny (model P w) A (execs body env) Q E s2) E (sh g t h'))
  (done:∀ h t h',J xs.length h→(∀ b o,b≠it→h.get? b=some o→h'.get? b=some o)→R (.ok .next) (sh g t h'))
  (h0:J 0 h):codeAny (model P w) A (.forLoop (.Tuple elts x1 pos) (.ref it) body [] env) R (sh g t h):=by
 refine codeAny_forLoop_any (fun k s=>E3 fun h t i=>A4 (s=(sh g t h)) (i≤xs.length) (k=xs.length + 1 - i) (J i h)) ?_ (xs.length + 1) ⟨h,t,0,rfl,Zs _,rfl,h0⟩
 rintro k s ⟨h,t,i,rfl,hi,rfl,hj⟩
 obtain ⟨h1,h2⟩:=hJ i h hj
 have I:=Itr.list hh it a xs
 by_cases hlt:i < xs.length
 ·refine I.item i h g t _ _ hlt h1 h2 fun h' v t' hit sb hv=>?_
  have:v=.ref (bs i):=by
   have hv':xs[i]? = some v:=hv
   rw [Yj hlt,hb i hlt] at hv'
   exact (Zj hv').symm
  subst this
  exact wpAny_letOwnedTupleGo_listiter hit.iter (turn i h t' h' _ _ hlt hj hit sb (fun h3 t3 j=>⟨xs.length + 1 - (i + 1),by exact Nat.sub_lt_sub_left (Nat.lt_succ_of_lt ‹_›) (Nat.lt_succ_self _),h3,t3,i + 1,rfl,hlt,rfl,j⟩))
 ·have e:i=xs.length:=Nat.le_antisymm hi (Nat.le_of_not_lt hlt)
  subst e
  exact I.fin h g t _ _ h1 h2 fun h' he=>Ym (done h t h' hj he)
theorem s_unpack3 {z:Str} {p3:Pos} {u w':Value} {Q:Unit→Shared→Prop} (H:St H0 B fa X env.locals l F h) (hh:A.handled=none) (ha:Is h a (TupP [u,v,w']))
  (k:∀ h' t',St H0 B fa X env.locals ((z,w')::(y,v)::(x,u)::l) F h'→Q () (sh g t' h'))
  (l1:autoParam (env.kindOf x=some .local) tR) (l2:autoParam (env.kindOf y=some .local) tR) (l3:autoParam (env.kindOf z=some .local) tR)
  (hp:autoParam ((env.scope.kind == .class || (env.scope.kind == .module && env.locals != env.globals))=false) tR) :
  wpAny (model P w) A (assign (.Tuple [.Name x p1,.Name y p2,.Name z p3] x1 pos) env (.ref a)) Q E (sh g t h):=by
 refine PySem.wpAny_assign_Tuple hh ha.tup rfl rfl fun h' sb=>?_
 have H1:=H.same fun b o e=>sb b o (Nat.ne_of_lt (Heap.lt_size e)) e
 show wpAny _ _ (do holding [v,w'] (assign (.Name x p1) env u); holding [w'] (assign (.Name y p2) env v); holding [] (assign (.Name z p3) env w'); pure ()) _ _ _
 refine Yd (wpAny_holding (Zl (s_st H1 (fun h₂ t2 H2=>?_) l1 hp)))
 refine Yd (wpAny_holding (Zl (s_st H2 (fun h3 t3 H3=>?_) l2 hp)))
 refine Yd (wpAny_holding (Zl (s_st H3 (fun h4 t4 H4=>?_) l3 hp)))
 exact Yn (k h4 t4 H4)
theorem s_setL {Q:Unit→Shared→Prop} (H:St H0 B fa X L l F h) (n:Nat) (e:F[n]? = some (a,ListP xs)) (hi:i < xs.length) (hz:xs.length≤1000)
  (k:∀ h',St H0 B fa X L l (F.set n (a,ListP (xs.set i v))) h'→Q () (sh g t h')):wpAny (model P w) A (setItem (.ref a) (.int i t0) v) Q E (sh g t h):=by
 have ha:=H.at e
 have hl:=ha.list
 obtain ⟨o,ho,nt,rfl⟩:=ha
 obtain ⟨x,ex⟩:∃ x:Int,x=i:=⟨_,rfl⟩
 rw [← ex]
 unfold setItem
 try with_reducible refine wpAny_holding ?_
 first | refine Yd (Yn ?_) | skip
 refine Yd (wpAny_sequenceKey hl.typeIs (by decide) ?_)
 refine Yd (wpAny_callSpecial?_slot (name:=Str.ofString "__setitem__") hl.typeIs PySem.F.slot_list_setitem (wpAny_call_entry PySem.F.slot_list_setitem hl.typeIs PySem.F.entry_list_setitem ?_ (PySem.F.args_list_setitem_3 _ _ _)))
 show wpAny _ _ (Builtin.List.listSubscript? (.int x t0) >>= _) _ _ _
 refine Yd (wpAny_listSubscript_int (fitsIndex_of (by lia) (by lia)) ?_)
 subst ex
 have hx':xs.toArray[i]? = some xs[i]:=by simp [hi]
 show wpAny _ _ ((seqItemAt a i >>= fun r=>pure (r.map (i,·))) >>= _) _ _ _
 refine Yd (Yd (wpAny_seqItemAt ho rfl (Yn ?_)))
 rw [hx']
 show wpAny _ _ (setSeqItemAt a i v >>= _) _ _ _
 have H':=H.upd n e (h':=h.update a (Obj.mapSeq (·.setIfInBounds i v))) (p':=ListP (xs.set i v)) (fun b o hb e=>(Zm _ _ (Ne.symm hb)).trans e) (isPlain ⟨_,by simpa using IsL.update ho (·.setIfInBounds i v)⟩)
 refine Yd (wpAny_setSeqItemAt ho rfl ?_)
 first
  | exact Yd (Yn (Yn ⟨.none,rfl,Yn (k _ H')⟩))
  | exact Yn ⟨.none,rfl,Yn (k _ H')⟩
theorem s_ci {k:Int} {kd:Nat} {p:Pos} (q:∀ t0 t',Q (.int k t0) (sh g t' h)):wpAny (model P w) A (eval (.Constant (.int k) kd p) env) Q E (sh g t h):=wpAny_Constant_int (q _ _)
theorem s_tuple3 {e3:Expr}
  (k:wpAny (model P w) A (eval e1 env) (fun v1 s1=>wpAny (model P w) A (eval e2 env) (fun v2 s2=>wpAny (model P w) A (eval e3 env) (fun v3 s3=>E2 fun h3 t3=>s3=(sh g t3 h3)∧Q (.ref h3.objs.size) (sh g t3 (h3.push { cls:=.type "tuple",data:=.seq [v1,v2,v3].toArray }))) E s2) E s1) E s)
  (hs:autoParam (backTo pos (starEach [e1,e2,e3] env)=[(false,eval e1 env),(false,eval e2 env),(false,eval e3 env)]) tR):wpAny (model P w) A (eval (.Tuple [e1,e2,e3] x1 pos) env) Q E s:=by
 refine wpAny_Tuple_spliced ?_
 rw [hs]
 refine Yz (Ze k (fun v1 s1 q=>Yz (Ze q (fun v2 s2 q=>Yz (Ze q (fun v3 s3 q=>Zn ?_) fun _ _ e=>e)) fun _ _ e=>e)) fun _ _ e=>e)
 obtain ⟨h3,t3,rfl,q⟩:=q
 exact ⟨by show 3≤sizeLine; decide,q⟩
theorem b45 (name:Str) (cd pm kwd v:Value):bindArgs (fdF 45 name cd pm kwd) ⟨[v],[]⟩=pure [(("spans" : Str),v)]:=by rfl
noncomputable def iOf (v:Value):Option Int:=by
 cases v
 case int k _=>exact some k
 all_goals exact none
theorem iOf_some {k:Int} (h:iOf v=some k):∃ t,v=.int k t:=by
 cases v
 case int x t=>exact ⟨t,congrArg (Value.int · t) (Zj h)⟩
 all_goals exact nS h
noncomputable def Ints (vs:List Value) (ks:List Int):Prop:=vs.map iOf=ks.map some
theorem Ints.len {vs ks} (h:Ints vs ks):vs.length=ks.length:=by have:=congrArg List.length h; simpa using this
theorem Ints.at {k:Int} (h:Ints vs ks) (hk:ks[i]? = some k):∃ t,vs[i]? = some (Value.int k t):=by
 have e:=congrArg (fun l=>l[i]?) h
 simp only [Zc,hk,Option.map_some] at e
 obtain ⟨v,hv,e⟩:=Zt.mp e
 obtain ⟨t,rfl⟩:=iOf_some e
 exact ⟨t,hv⟩
theorem Ints.set (h:Ints vs ks) (i:Nat) (k:Int) (t:Tok):Ints (vs.set i (.int k t)) (ks.set i k):=by
 unfold Ints at *
 rw [List.map_set,List.map_set,h]; rfl
theorem ints_rep (n:Nat) (t:Tok):Ints (List.replicate n (.int 0 t)) (List.replicate n 0):=by
 unfold Ints
 rw [List.map_replicate,List.map_replicate]; rfl
noncomputable abbrev RS:=Int×Bool×List Int×List Int
noncomputable def rkStep (N:Nat) (s:RS) (i:Nat):RS :=
 if i < N then (if s.2.1 then s.1 + 1 else s.1,false,s.2.2.1.set i (if s.2.1 then s.1 + 1 else s.1),s.2.2.2)
 else (s.1,true,s.2.2.1,s.2.2.2.set (i - N) s.1)
noncomputable def rk0 (N:Nat):RS:=(0,false,List.replicate N 0,List.replicate N 0)
noncomputable def evC (N:Nat) (b e:Nat→Int) (i:Nat):Int×Int×Int:=if i < N then (b i,0,i) else (e (i - N),1,(i - N:Nat))
theorem flat_rep (n:Nat) (v:Value):(List.replicate n [v]).flatten=List.replicate n v:=by
 induction n with
 | zero=>rfl
 | succ n ih=>rw [List.replicate_succ,List.flatten_cons,ih,List.replicate_succ]; rfl
theorem s_list2
  (k:wpAny (model P w) A (eval e1 env) (fun v1 s1=>wpAny (model P w) A (eval e2 env) (fun v2 s2=>E2 fun h2 t2=>s2=(sh g t2 h2)∧Q (.ref h2.objs.size) (sh g t2 (h2.push { cls:=.type "list",data:=.seq [v1,v2].toArray }))) E s1) E s)
  (hs:autoParam (backTo pos (starEach [e1,e2] env)=[(false,eval e1 env),(false,eval e2 env)]) tR):wpAny (model P w) A (eval (.List [e1,e2] pos) env) Q E s:=by
 refine wpAny_List ?_
 rw [hs]
 refine Yz (Ze k (fun v1 s1 q=>Yz (Ze q (fun v2 s2 q=>Zn ?_) fun _ _ e=>e)) fun _ _ e=>e)
 obtain ⟨h2,t2,rfl,q⟩:=q
 exact ⟨by show 2≤sizeLine; decide,q⟩
theorem rk_len (s:RS) (i:Nat):(rkStep N s i).2.2.1.length=s.2.2.1.length∧(rkStep N s i).2.2.2.length=s.2.2.2.length:=by
 unfold rkStep
 split<;>simp
theorem ext_ad (ad:Nat→Addr) (i:Nat) (x:Addr):∃ ad':Nat→Addr,ad' i=x∧(∀ j,j < i→ad' j=ad j)∧(List.range i).map (fun j=>Value.ref (ad j))++[Value.ref x]=(List.range (i + 1)).map fun j=>Value.ref (ad' j):=by
 refine ⟨fun j=>if j=i then x else ad j,if_pos rfl,fun j hj=>if_neg (Nat.ne_of_lt hj),?_⟩
 rw [List.range_succ,Yt,List.map_singleton]
 congr 1
 ·exact List.map_congr_left fun j hj=>by dsimp only; rw [if_neg (Nat.ne_of_lt (Ua.mp hj))]
 ·dsimp only; rw [if_pos rfl]
structure RkJ (H0 h:Heap) (fr:List Env) (L it b rk rb re:Addr) (N:Nat) (p:Array Nat) (adf:Nat→Addr) (zz:Addr×OP) (F:Fs) (k:Nat) (h':Heap) (l:List (Str×Value)) (vb ve:List Value) (s:RS):Prop where
 H:St H0 h (adr fr) [] L l ((it,IterP b k)::(b,ListP (p.toList.map fun i=>Value.ref (adf i)))::(rk,ListP [.ref rb,.ref re])::(re,ListP ve)::zz::(rb,ListP vb)::F) h'
 hb:Ints vb s.2.2.1
 he:Ints ve s.2.2.2
 lb:s.2.2.1.length=N
 le:s.2.2.2.length=N
 run:s=(p.toList.take k).foldl (rkStep N) (rk0 N)
 l1:l.lookup ("ranks" : Str)=some (.ref rk)
 l2:∃ t,l.lookup ("rank" : Str)=some (.int s.1 t)
 l3:l.lookup ("ended" : Str)=some (.bool s.2.1)
noncomputable def ranks_call_S:Prop:=∀ {A:Around} {fr:List Env} {g} {N:Nat} {R:Result→Shared→Prop} {h:Heap} {t} {f sp:Addr} {name:Str} {cd pm kwd:Value} {n:Nat} {b e:Nat→Int} {key:Nat→Nat} (rm:Rm A (n + 3)) (hfr:Frs A fr) (al:Alive H0 (adr fr) h) (bs:Bs H0 mg mb) (low:∀ a o,H0.get? a=some o→h.get? a=some o) (hf:Fn H0 f (fdF 45 name cd pm kwd)) (NR:NamesR mg mb) (so0:mg "sorted" = none) (so1:mb "sorted" = some (.builtin "sorted")) (hN1:1≤N) (hN:N≤8) (hsp:SpansOf (adr fr) h sp N b e) (hk:∀ i j,i < N + N→j < N + N→lexB (evC N b e i) (evC N b e j)=decide (key i < key j)) (h01:key 0 < key 1) (hinj:∀ i j,i < N + N→j < N + N→key i=key j→i=j) (hR:∀ h' t' p rk rb re vb ve,PermR (N + N) p→Srt key p (N + N)→Kp (adr fr) [] h h'→[rk,rb,re].Nodup→(∀ a∈[rk,rb,re],h.get? a=none)→Is h' rk (ListP [.ref rb,.ref re])→Is h' rb (ListP vb)→Is h' re (ListP ve) →
   Ints vb (p.toList.foldl (rkStep N) (rk0 N)).2.2.1→Ints ve (p.toList.foldl (rkStep N) (rk0 N)).2.2.2→R (.ok (.ret (.ref rk))) (sh g t' h')),codeAny (model P w) A (.call (.ref f) ⟨[.ref sp],[]⟩) R (sh g t h)
end
namespace ranks_call
def zq0:=fun zk0=>(by
 intro A fr g N R h t f sp name cd pm kwd n b e key rm hfr al bs low hf NR so0 so1 hN1 hN hsp hk h01 hinj hR
 obtain ⟨xs,hs,hxl,hx⟩:=hsp.ob
 refine s_enterCQ [("spans",h.objs.size + 1)] bs low hf hfr al rm.room rfl (fun _ _ q=>by rw [b45]; exact Yn q) fun env A' h1 t1 QQ EE ee hA qr qn H hF=>?_
 have rm':Rm A' (n + 2):=hA ▸ rm.deeper env
 clear hA
 subst ee
 generalize h.objs.size=L at H hF ⊢
 replace H:St H0 h (adr fr) [] L [] [(L + 1,CellP (some (.ref sp)))] h1:=H
 revert rm hfr al bs low hf NR so0 so1 hN1 hN hsp hk h01 hinj hR hs hxl hx qr qn rm' hF H
 have zd0:Nat:=0
 have zd1:Nat:=0
 have zd2:Nat:=0
 have zd3:Nat:=0
 have zd4:Nat:=0
 have zd5:Nat:=0
 have zd6:Nat:=0
 have zd7:Nat:=0
 have zd8:Nat:=0
 have zd9:Nat:=0
 have zd10:Nat:=0
 revert A fr g N R h f sp name cd pm kwd n b e key xs A' h1 t1 QQ EE L zd0 zd1 zd2 zd3 zd4 zd5 zd6 zd7 zd8 zd9 zd10
 exact zk0:ranks_call_S)
namespace zp0
@[irreducible] def zc:=pick34 zq0 (by (repeat any_goals apply np)<;>first | exact neW | exact neA | exact neD | exact neS | infer_instance | exact ⟨by constructor<;>exact default⟩)
def A:=zc.1.1
def fr:=zc.1.2.1
def g:=zc.1.2.2.1
def N:=zc.1.2.2.2.1
def R:=zc.1.2.2.2.2.1
def h:=zc.1.2.2.2.2.2.1
def f:=zc.1.2.2.2.2.2.2
def sp:=zc.2.1.1
def name:=zc.2.1.2.1
def cd:=zc.2.1.2.2.1
def pm:=zc.2.1.2.2.2.1
def kwd:=zc.2.1.2.2.2.2.1
def n:=zc.2.1.2.2.2.2.2.1
def b:=zc.2.1.2.2.2.2.2.2
def e:=zc.2.2.1.1
def key:=zc.2.2.1.2.1
def xs:=zc.2.2.1.2.2.1
def A':=zc.2.2.1.2.2.2.1
def h1:=zc.2.2.1.2.2.2.2.1
def t1:=zc.2.2.1.2.2.2.2.2.1
def QQ:=zc.2.2.1.2.2.2.2.2.2
def EE:=zc.2.2.2.1.1
def L:=zc.2.2.2.1.2.1
def zd0:=zc.2.2.2.1.2.2.1
def zd1:=zc.2.2.2.1.2.2.2.1
def zd2:=zc.2.2.2.1.2.2.2.2.1
def zd3:=zc.2.2.2.1.2.2.2.2.2.1
def zd4:=zc.2.2.2.1.2.2.2.2.2.2
def zd5:=zc.2.2.2.2.1
def zd6:=zc.2.2.2.2.2.1
def zd7:=zc.2.2.2.2.2.2.1
def zd8:=zc.2.2.2.2.2.2.2.1
def zd9:=zc.2.2.2.2.2.2.2.2.1
def zd10:=zc.2.2.2.2.2.2.2.2.2
def zq :=
 all34 zq0 A fr g N R h f sp name cd pm kwd n b e key xs A' h1 t1 QQ EE L zd0 zd1 zd2 zd3 zd4 zd5 zd6 zd7 zd8 zd9 zd10 (by with_unfolding_all rfl) (by
 intro rm hfr al bs low hf NR so0 so1 hN1 hN hsp hk h01 hinj hR hs hxl hx qr qn rm' hF H
 refine s_cons fun _ q1 _=>(s_compAsg [("spans",L + 1)] ?_)
 refine s_type1 bs H.low NR.r0 NR.r1 ?_
 refine s_lenv bs H.low NR.n0 NR.n1 (H.old hs) (by lia) (fun Q q=>s_ldc (c:=L + 1) (v:=.ref sp) (H.at (i:=0) rfl) q) fun t0 t2=>?_
 rw [hxl]
 refine s_iterRange H (by exact Ye hN (by decide)) fun it t3 h3 H3=>?_
 refine s_compInU H3 (Itr.range rm'.1 it N) (H3.fresh (i:=0) rfl) (fun i vs F=>∃ ad:Nat→Addr,A4 (i≤N) (vs=(List.range i).map (fun j=>Value.ref (ad j))) ((∀ j,j < i→(ad j,Tup3 (evC N b e j))∈F)) ((L + 1,CellP (some (.ref sp)))∈F)) ⟨fun _=>0,Zs _,rfl,fun j hj=>absurd hj (Nat.not_lt_zero _),Zu.mpr rfl⟩ (fun _ _ _ _ _ _ _ _ _=>trivial) (fun i vs F j=>?_) (fun C D i v vs F h4 t4 m hi hv j hm H4=>?_) (fun D vs F h4 t4 j H4=>?_) (by rfl) (by rfl) (by rfl)
 ·obtain ⟨ad,hi,rfl,_⟩:=j
  rw [Yp,List.length_range]; exact Ye (Ye ‹_› ‹_›) (by decide)
 ·obtain ⟨ad,_,rfl,mt,mc⟩:=j
  obtain ⟨ti,rfl⟩:=hv
  obtain ⟨ai,t1',u1',ei,oai⟩:=hx i hi
  have ic:Is h4 (L + 1) (CellP (some (.ref sp))):=H4.has _ (Yb _ (Yb _ (Yb _ mc)))
  refine s_if0 (s_tuple3 (g:=g) ?_)
  refine s_subC (Zk (s_ldc ic (s_ldm (H4.at (i:=0) rfl) hm (s_at (H4.old hs) (by exact Ye (Ye ‹_› ‹_›) (by decide)) ei (s_ci fun _ _=>(s_tat (i:=0) (H4.old oai) (by decide) rfl ?_))))))
  refine s_ci fun tz _=>(s_ldm (H4.at (i:=0) rfl) hm ⟨_,_,rfl,?_⟩)
  have H5:=(H4.push { cls:=.type "tuple",data:=.seq [Value.int (b i) t1',.int 0 tz,.int (i:Nat) ti].toArray } (p:=Tup3 (evC N b e i)) (by unfold evC; rw [if_pos hi]; exact ⟨_,_,_,0,rfl⟩))
  replace H5:=H5.perm (List.perm_middle (l₁:=[_,_,_])).symm
  obtain ⟨ad',a1,a2,a3⟩:=ext_ad ad i h4.objs.size
  refine ⟨_,_,_,rfl,H5,ad',hi,a3,fun j hj=>?_,Yb _ mc⟩
  rcases Nat.lt_or_ge j i with q | q
  ·rw [a2 j q]; exact Yb _ (mt j q)
  ·rw [show j=i by exact Nat.le_antisymm (Nat.le_of_lt_succ ‹_›) ‹_›,a1]; exact Yc
 ·obtain ⟨ad,_,rfl,mt,mc⟩:=j
  refine q1 _ ?_
  clear q1
  refine s_cons fun _ q1 _=>(Yq (wpAny_BinOp (s_ld H4 (s_comp [("spans",L + 1)] ?_))))
  refine s_type1 bs H4.low NR.r0 NR.r1 ?_
  refine s_lenv bs H4.low NR.n0 NR.n1 (H4.old hs) (by lia) (fun Q q=>s_ldc (c:=L + 1) (v:=.ref sp) (H4.has _ (Yb _ mc)) q) fun t0 t2=>?_
  rw [hxl]
  refine s_iterRange H4 (by exact Ye hN (by decide)) fun it2 t5 h5 H5=>?_
  refine s_compIn H5 (Itr.range rm'.1 it2 N) (H5.fresh (i:=0) rfl) (fun i vs F'=>∃ ad2:Nat→Addr,A6 (i≤N) (vs=(List.range i).map (fun j=>Value.ref (ad2 j))) ((∀ j,j < i→(ad2 j,Tup3 (evC N b e (N + j)))∈F')) ((∀ j,j < N→(ad j,Tup3 (evC N b e j))∈F')) ((L + 1,CellP (some (.ref sp)))∈F') ((D,ListP ((List.range N).map fun j=>Value.ref (ad j)))∈F')) ⟨fun _=>0,Zs _,rfl,fun j hj=>absurd hj (Nat.not_lt_zero _),fun j hj=>Yb _ (mt j hj),Yb _ mc,Yc⟩ (fun _ _ _ _ _ _ _ _ _=>trivial) (fun i vs F j=>?_) (fun C D' i v vs F h6 t6 m hi hv j hm H6=>?_) (fun D' vs F h6 t6 j H6=>?_) (by rfl) (by rfl) (by rfl)
  ·obtain ⟨ad2,hi,rfl,_⟩:=j
   rw [Yp,List.length_range]; lia
  ·obtain ⟨ad2,_,rfl,mt2,mt1,mc,mD⟩:=j
   obtain ⟨ti,rfl⟩:=hv
   obtain ⟨ai,t1',u1',ei,oai⟩:=hx i hi
   have ic:Is h6 (L + 1) (CellP (some (.ref sp))):=H6.has _ (Yb _ (Yb _ (Yb _ mc)))
   refine s_if0 (s_tuple3 (g:=g) ?_)
   refine s_subC (Zk (s_ldc ic (s_ldm (H6.at (i:=0) rfl) hm (s_at (H6.old hs) (by lia) ei (s_ci fun _ _=>(s_tat (i:=1) (H6.old oai) (by decide) rfl ?_))))))
   refine s_ci fun tz _=>(s_ldm (H6.at (i:=0) rfl) hm ⟨_,_,rfl,?_⟩)
   have H7:=(H6.push { cls:=.type "tuple",data:=.seq [Value.int (e i) u1',.int 1 tz,.int (i:Nat) ti].toArray } (p:=Tup3 (evC N b e (N + i))) (by unfold evC; rw [if_neg (by lia),Nat.add_sub_cancel_left]; exact ⟨_,_,_,0,rfl⟩))
   replace H7:=H7.perm (List.perm_middle (l₁:=[_,_,_])).symm
   obtain ⟨ad',a1,a2,a3⟩:=ext_ad ad2 i h6.objs.size
   refine ⟨_,_,_,rfl,H7,ad',hi,a3,fun j hj=>?_,fun j hj=>Yb _ (mt1 j hj),Yb _ mc,Yb _ mD⟩
   rcases Nat.lt_or_ge j i with q | q
   ·rw [a2 j q]; exact Yb _ (mt2 j q)
   ·rw [show j=i by exact Nat.le_antisymm (Nat.le_of_lt_succ ‹_›) ‹_›,a1]; exact Yc
  ·clear mt mc H4 H5
   obtain ⟨ad2,_,rfl,mt2,mt1,mc,mD⟩:=j
   refine s_addList H6 (H6.has _ (Yb _ mD)) (H6.at (i:=0) rfl) (by simp; lia) fun h7 H7=>?_
   obtain ⟨adf,hadf⟩:∃ adf:Nat→Addr,∀ i,adf i=if i < N then ad i else ad2 (i - N):=⟨_,fun _=>rfl⟩
   have le:(List.range N).map (fun j=>Value.ref (ad j))++(List.range N).map (fun j=>Value.ref (ad2 j))=(List.range (N + N)).map fun i=>Value.ref (adf i):=by
    rw [List.range_add,Yt,List.map_map]
    congr 1
    ·exact List.map_congr_left fun j hj=>by rw [hadf,if_pos (Ua.mp hj)]
    ·exact List.map_congr_left fun j hj=>by show _=Value.ref (adf (N + j)); rw [hadf,if_neg (by lia),Nat.add_sub_cancel_left]
   rw [le] at H7
   have mt:∀ i,i < N + N→(adf i,Tup3 (evC N b e i))∈F:=fun i hi=>by
    rw [hadf]
    by_cases q:i < N
    ·rw [if_pos q]; exact mt1 i q
    ·rw [if_neg q]
     have:=mt2 (i - N) (by exact sb5 ‹_› ‹_›)
     rwa [show N + (i - N)=i by exact sb6 ‹_›] at this
   clear le mt1 mt2 hadf mD
   refine s_st H7 fun h8 t8 H8=>q1 _ ?_
   clear q1 H6 H7
   have mc':∀ {G:Fs},(L + 1,CellP (some (.ref sp)))∈G++F:=fun {G}=>Ys _ mc
   refine s_cons fun _ q1 _=>(Yq (s_list2 (g:=g) (wpAny_BinOp ?_)))
   refine s_list1' (g:=g) (s_ci fun tz1 _=>⟨_,_,rfl,?_⟩)
   have H9:=H8.push { cls:=.type "list",data:=.seq [Value.int 0 tz1].toArray } (p:=ListP [.int 0 tz1]) ⟨0,rfl⟩
   refine s_lenv bs H9.low NR.n0 NR.n1 (H9.old hs) (by lia) (fun Q q=>s_ldc (c:=L + 1) (v:=.ref sp) (H9.has _ (mc' (G:=[_,_,_]))) q) fun t0 t9=>?_
   rw [hxl]
   refine s_mulList H9 (H9.at (i:=0) rfl) rfl (by simp; exact Ye hN (by decide)) (by exact Ye hN (by decide)) fun h10 H10=>?_
   rw [flat_rep] at H10
   generalize (h8.push { cls:=.type "list",data:=.seq [Value.int 0 tz1].toArray }).objs.size=rb at H10 ⊢
   refine wpAny_BinOp ?_
   refine s_list1' (g:=g) (s_ci fun tz2 _=>⟨_,_,rfl,?_⟩)
   have H11:=H10.push { cls:=.type "list",data:=.seq [Value.int 0 tz2].toArray } (p:=ListP [.int 0 tz2]) ⟨0,rfl⟩
   refine s_lenv bs H11.low NR.n0 NR.n1 (H11.old hs) (by lia) (fun Q q=>s_ldc (c:=L + 1) (v:=.ref sp) (H11.has _ (mc' (G:=[_,_,_,_,_]))) q) fun t0 t11=>?_
   rw [hxl]
   refine s_mulList H11 (H11.at (i:=0) rfl) rfl (by simp; exact Ye hN (by decide)) (by exact Ye hN (by decide)) fun h12 H12=>?_
   rw [flat_rep] at H12
   refine ⟨_,_,rfl,?_⟩
   generalize (h10.push { cls:=.type "list",data:=.seq [Value.int 0 tz2].toArray }).objs.size=re at H12 ⊢
   have H13:=H12.push { cls:=.type "list",data:=.seq [Value.ref rb,.ref re].toArray } (p:=ListP [.ref rb,.ref re]) ⟨0,rfl⟩
   generalize h12.objs.size=rk at H13 ⊢
   refine s_st H13 fun h14 t14 H14=>q1 _ ?_
   clear q1 H8 H9 H10 H11 H12 H13
   refine s_cons fun _ q1 _=>(Yq (s_ci fun _ _=>(s_st H14 fun h15 t15 H15=>q1 _ ?_)))
   clear q1 H14
   refine s_cons fun _ q1 _=>(Yq (wpAny_Constant_bool (s_st H15 fun h16 t16 H16=>q1 _ ?_)))
   clear q1 H15
   refine s_cons fun _ q1 _=>(wpAny_For (Zb (s_bname bs H16.low so0 so1 (PySem.callWith_builtin1 (s_ld H16 ?_)))))
   refine s_sortT H16 (H16.at (i:=5) rfl) (by lia) (by lia) (fun i hi=>H16.has _ (Ys [_,_,_,_,_,_,_] (mt i hi))) hk h01 hinj fun sb p h17 t17 hp hsr H17=>?_
   have psz:p.toList.length=N + N:=by rw [Array.length_toList]; exact hp.size
   refine wpAny_pyIter_list (H17.at (i:=0) rfl).list ?_
   have H18:=H17.push { cls:=.type "list_iterator",data:=.fields #[.ref sb,.int 0 0] } (p:=IterP sb 0) ⟨rfl,rfl⟩
   generalize h17.objs.size=it3 at H18 ⊢
   obtain ⟨zz,FF,H18,mtF⟩:E2 fun (zz:Addr×OP) (FF:Fs)=>St H0 h (adr fr) [] L _ ((it3,IterP sb 0)::(sb,ListP (p.toList.map fun i=>Value.ref (adf i)))::(rk,ListP [.ref rb,.ref re])::(re,ListP (List.replicate N (.int 0 tz2)))::zz::(rb,ListP (List.replicate N (.int 0 tz1)))::FF) _∧∀ i,i < N + N→(adf i,Tup3 (evC N b e i))∈FF:=⟨_,_,H18,fun i hi=>Ys [_,_,_] (mt i hi)⟩
   refine s_forT (a:=sb) (xs:=p.toList.map fun i=>Value.ref (adf i)) (fun k=>adf (p.toList.getD k 0)) (fun i hi=>by
    rw [Yp] at hi
    rw [List.getElem_map,Yo,Yj hi]; rfl) rm'.1 (fun k h'=>E4 fun l vb ve s=>RkJ H0 h fr L it3 sb rk rb re N p adf zz FF k h' l vb ve s) (fun k h' j=>?_) (fun k h' t' h'' Q1 E1 hkk j hit sbb k1=>?_) (fun h' t' h'' j sbb=>?_) ⟨_,_,_,rk0 N,⟨H18,ints_rep N _,ints_rep N _,List.length_replicate,List.length_replicate,rfl,by rfl,⟨_,by rfl⟩,by rfl⟩⟩
   ·obtain ⟨l,vb,ve,s,j⟩:=j
    exact ⟨j.H.at (i:=0) rfl,j.H.at (i:=1) rfl⟩
   ·obtain ⟨l,vb,ve,s,j⟩:=j
    rw [Yp] at hkk
    have H2:=j.H.upd 0 rfl sbb hit
    have hrun:=j.run
    obtain ⟨hb,he,lb,le,l1,⟨tr,l2⟩,l3⟩:=j.hb,j.he,j.lb,j.le,j.l1,j.l2,j.l3
    clear j
    rw [Yo,Yj hkk]
    have tk:p.toList.take (k + 1)=p.toList.take k++[p.toList[k]]:=by rw [List.take_add_one,Yj hkk]; rfl
    have hi:p.toList[k] < N + N:=by
     have:=hp.lt (by exact Nat.le_add_right_of_le ‹_›) k
     rwa [Array.getD_eq_getD_getElem?,← Array.getElem?_toList,Yj hkk] at this
    generalize p.toList[k]=i at tk hi ⊢
    have run':rkStep N s i=(p.toList.take (k + 1)).foldl (rkStep N) (rk0 N):=by rw [tk,List.foldl_append,← hrun]; rfl
    have fi:=H2.has (adf i,Tup3 (evC N b e i)) (Ys [_,_,_,_,_,_] (mtF i hi))
    clear hrun tk
    by_cases q:i < N
    ·unfold evC at fi
     rw [if_pos q] at fi
     obtain ⟨_,eo,ta,tb,tc,tp⟩:=fi
     refine s_unpack3 H2 rm'.1 ⟨_,eo,tp⟩ fun h3 t3 H3=>?_
     clear H2 eo tp
     refine s_cons fun Q3 q3 _=>?_
     have tail:∀ h4 t l r tr,St H0 h (adr fr) [] L l ((it3,IterP sb (k + 1))::(sb,ListP (p.toList.map fun i=>Value.ref (adf i)))::(rk,ListP [.ref rb,.ref re])::(re,ListP ve)::zz::(rb,ListP vb)::FF) h4→l.lookup ("ranks" : Str)=some (.ref rk)→l.lookup ("rank" : Str)=some (.int r tr)→l.lookup ("kind" : Str)=some (.int 0 tb)→l.lookup ("at" : Str)=some (.int (i:Nat) tc)→r=(if s.2.1 then s.1 + 1 else s.1)→Q3 .next (sh g t h4):=fun h4 t4 l r tr H4 n1 n2 n3 n4 er=>by
      refine q3 _ (s_cons fun _ q4 _=>(Yq (wpAny_Compare1 (s_ld H4 (s_ci fun _ _=>(eq_int (s_st H4 fun h5 t5 H5=>q4 _ ?_))) (hv:=n3)))))
      refine s_cons fun _ q5 _=>(wpAny_Assign_Subscript (s_ld H5 (Zk (s_ld H5 (s_ld H5 (s_at (xs:=[.ref rb,.ref re]) (i:=0) (H5.at (i:=2) rfl) (by decide) rfl (s_ld H5 ?_ (hv:=n4))) (hv:=n3)) (hv:=n1))) (hv:=n2)))
      refine s_setL H5 5 rfl (by rw [hb.len,lb]; exact q) (by rw [hb.len,lb]; exact Ye hN (by decide)) fun h6 H6=>q5 _ (Ym (k1 _ _ ?_))
      have es:rkStep N s i=(r,false,s.2.2.1.set i r,s.2.2.2):=by unfold rkStep; rw [if_pos q,er]
      exact ⟨_,_,_,_,⟨H6,by rw [es]; exact hb.set i r tr,by rw [es]; exact he,by rw [es]; simpa using lb,by rw [es]; exact le,run',n1,⟨tr,by rw [es]; exact n2⟩,by rw [es]; rfl⟩⟩
     refine Zh (isTrue_and (Yg (s_ld H3 (s_ci fun _ _=>(eq_int (Yi ?_))))))
     rw [if_pos (by rfl)]
     refine isTrue_and (Zv (s_ld H3 (Yi ?_) (hv:=l3)))
     cases hE:s.2.1 with
     | true =>
      rw [if_pos rfl]
      refine isTrue_and_nil ?_
      rw [if_pos rfl]
      refine s_cons fun _ q4 _=>(Yq (wpAny_BinOp (s_ld H3 (s_ci fun _ _=>(PySem.P.add_int (s_st H3 fun h4 t4 H4=>q4 _ (Ym ?_)))) (hv:=l2))))
      exact tail _ _ (_::_::_::_::l) _ _ H4 l1 (by rfl) (by rfl) (by rfl) (by rw [hE,if_pos rfl])
     | false =>
      rw [if_neg Yk,if_neg Yk]
      refine Ym ?_
      exact tail _ _ (_::_::_::l) _ _ H3 l1 l2 (by rfl) (by rfl) (by rw [hE,if_neg Yk])
    ·unfold evC at fi
     rw [if_neg q] at fi
     obtain ⟨_,eo,ta,tb,tc,tp⟩:=fi
     refine s_unpack3 H2 rm'.1 ⟨_,eo,tp⟩ fun h3 t3 H3=>?_
     clear H2 eo tp
     refine s_cons fun Q3 q3 _=>?_
     refine Zh (isTrue_and (Yg (s_ld H3 (s_ci fun _ _=>(eq_int (Yi ?_))))))
     rw [if_neg (by dsimp only; decide),if_neg Yk]
     refine Ym (q3 _ ?_)
     refine s_cons fun _ q4 _=>(Yq (wpAny_Compare1 (s_ld H3 (s_ci fun _ _=>(eq_int (s_st H3 fun h5 t5 H5=>q4 _ ?_))))))
     refine s_cons fun _ q5 _=>(wpAny_Assign_Subscript (s_ld H5 (Zk (s_ld H5 (s_ld H5 (s_at (xs:=[.ref rb,.ref re]) (i:=1) (H5.at (i:=2) rfl) (by decide) rfl (s_ld H5 ?_))) (hv:=l1))) (hv:=l2)))
     refine s_setL H5 3 rfl (by rw [he.len,le]; exact sb5 ‹_› ‹_›) (by rw [he.len,le]; exact Ye hN (by decide)) fun h6 H6=>q5 _ (Ym (k1 _ _ ?_))
     have es:rkStep N s i=(s.1,true,s.2.2.1,s.2.2.2.set (i - N) s.1):=by unfold rkStep; rw [if_neg q]
     exact ⟨_,_,_,_,⟨H6,by rw [es]; exact hb,by rw [es]; exact he.set _ _ tr,by rw [es]; exact lb,by rw [es]; simpa using le,run',l1,⟨tr,by rw [es]; exact l2⟩,by rw [es]; rfl⟩⟩
   ·obtain ⟨l,vb,ve,s,j⟩:=j
    have H2:=j.H.lose (j.H.fresh (i:=0) rfl) sbb
    have hrun:=j.run
    rw [Yp,List.take_length] at hrun
    refine q1 _ (Yh (Zd (s_ld H2 (qr _ _ ?_) (hv:=j.l1))))
    have nd:=H2.nd
    refine hR h'' _ p rk rb re vb ve hp hsr H2.kp ?_ ?_ (H2.at (i:=1) rfl) (H2.at (i:=4) rfl) (H2.at (i:=2) rfl) (hrun ▸ j.hb) (hrun ▸ j.he)
    ·simp only [List.nodup_cons,Yu,List.not_mem_nil,or_false,not_or,not_false_eq_true,List.nodup_nil,and_true]
     exact ⟨⟨H2.ne (i:=1) (j:=4) rfl rfl (by decide),H2.ne (i:=1) (j:=2) rfl rfl (by decide)⟩,H2.ne (i:=4) (j:=2) rfl rfl (by decide)⟩
    ·intro a ha
     simp only [Yu,List.not_mem_nil,or_false] at ha
     rcases ha with rfl | rfl | rfl
     ·exact H2.fresh (i:=1) rfl
     ·exact H2.fresh (i:=4) rfl
     ·exact H2.fresh (i:=2) rfl)
end zp0
end ranks_call
section
variable {A:Around} {B:Heap} {fa X:List Addr} {L:Addr} {fr:List Env} {g:Array GenState} {E:Value→Shared→Prop} {env:Env} {x name:Str} {cd pm kwd:Value} {R:Result→Shared→Prop} {Q:Value→Shared→Prop} {pos:Pos} {e value:Expr} {ws:List Value} {apos:Pos} {a f:Addr} {F:Fs} {n:Nat} {l:List (Str×Value)} {i:Nat} {vs:List Value} {ss:List Str} {v:Value} {s:Shared} {h:Heap} {t:Nat}
theorem ranks_call:ranks_call_S:=@Wr.out _ ranks_call.zp0.zq
noncomputable def constC (e:Expr):Option Const:=by
 cases e
 case Constant c _ _=>exact some c
 all_goals exact none
theorem constC_some {c:Const} (h:constC e=some c):E2 fun k p=>e=.Constant c k p:=by
 cases e
 case Constant c k p=>exact ⟨k,p,congrArg (Expr.Constant · k p) (Zj h)⟩
 all_goals exact nS h
noncomputable def strC (c:Const):Option Str:=by
 cases c
 case str s=>exact some s
 all_goals exact none
noncomputable def constS (e:Expr):Option Str:=(constC e).bind strC
theorem constS_some {s:Str} (h:constS e=some s):E2 fun k p=>e=.Constant (.str s) k p:=by
 obtain ⟨c,h1,h2⟩:=Zy.mp h
 obtain ⟨k,p,rfl⟩:=constC_some h1
 cases c
 case str x=>exact ⟨k,p,congrArg (fun z=>Expr.Constant (.str z) k p) (Zj h2)⟩
 all_goals exact nS h2
theorem s_csl {Q:List Value→Shared→Prop}:∀ (es:List Expr) (ss:List Str) (t:Nat) (_:es.map constS=ss.map some) (_:∀ vs t',Strs vs ss→Q vs (sh g t' h)),wpAny (model P w) A (spliced (es.map fun e=>(false,eval e env))) Q E (sh g t h)
 | [],[],t,_,q=>Zn (q [] t rfl)
 | [],_::_,_,hc,_=>by cases hc
 | _::_,[],_,hc,_=>by cases hc
 | e::es,s::ss,t,hc,q=>by
  rw [Zq,Zq,List.cons.injEq] at hc
  obtain ⟨k,p,rfl⟩:=constS_some hc.1
  refine Yz (Zo (s_csl (Q:=fun vs s'=>Q (.str s t::vs) s') es ss (t + 1) hc.2 fun vs t' hs=>q _ _ ?_))
  unfold Strs at *
  rw [Zq,Zq,hs]; rfl
theorem s_listStrs {es:List Expr} (H:St H0 B fa X L l F h) (hc:autoParam (es.map constS=ss.map some) tR) (hz:autoParam (es.length≤1000) tD)
  (hs:autoParam (backTo pos (starEach es env)=es.map fun e=>(false,eval e env)) tR)
  (k:∀ vs h' t',Strs vs ss→St H0 B fa X L l ((h.objs.size,ListP vs)::F) h'→Q (.ref h.objs.size) (sh g t' h')):wpAny (model P w) A (eval (.List es pos) env) Q E (sh g t h):=by
 refine wpAny_List ?_
 rw [hs]
 refine s_csl es ss t hc fun vs t' hv=>⟨?_,k vs _ t' hv (H.push _ ⟨0,rfl⟩)⟩
 have:=congrArg List.length hc
 rw [Yp,Yp] at this
 have e2:=hv.len
 exact Ye (by lia:vs.length≤1000) (by decide)
noncomputable def lawWords:List Str:=["it's", "a", "", "b c", "\\\""]
theorem b40 (name:Str) (cd pm kwd:Value):bindArgs (fdF 40 name cd pm kwd) ⟨[],[]⟩=pure []:=by rfl
theorem words_call {g} {t}
  (rm:Rm A (n + 1)) (hfr:Frs A fr) (al:Alive H0 (adr fr) h) (bs:Bs H0 mg mb) (low:∀ a o,H0.get? a=some o→h.get? a=some o) (hf:Fn H0 f (fdF 40 name cd pm kwd))
  (hR:∀ h' t' a vs,Kp (adr fr) [] h h'→h.get? a=none→Is h' a (ListP vs)→Strs vs lawWords→R (.ok (.ret (.ref a))) (sh g t' h')) :
  codeAny (model P w) A (.call (.ref f) ⟨[],[]⟩) R (sh g t h):=by
 refine s_enterQ bs low hf hfr al rm.room rfl (fun _ _ q=>by rw [b40]; exact Yn q) fun env A' h₁ t1 QQ EE ee hA qr qn H hF=>?_
 subst ee
 refine Yh (Zd (s_listStrs (ss:=lawWords) H (k:=fun vs h₂ t2 hv H2=>qr _ _ (hR h₂ t2 _ vs H2.kp (H2.fresh (i:=0) rfl) (H2.at (i:=0) rfl) hv))))
theorem s_inStrs (ha:Is h a (ListP vs)) (hs:Strs vs ss) (hx:sOf v=some x) (k:Q (.bool (ss.any fun y=>y == x)) (sh g t h)) :
  wpAny (model P w) A (compareOp .In v (.ref a)) Q E (sh g t h):=by
 refine SeqAt.in_listAt (fun y=>eS y v) ha.list (fun y hy=>hs.eq (by simpa using hy) hx) ?_
 have:=hs.any x v hx
 rw [show (vs.toArray.any fun y=>eS y v)=vs.any fun y=>eS y v from by simp,this]
 exact k
theorem Strs.at (hs:Strs vs ss) (h1:i < vs.length) (h2:i < ss.length):sOf vs[i]=some ss[i]:=by
 have:=congrArg (fun l=>l[i]?) hs
 simpa [Zc,Yj h1,Yj h2] using this
theorem s_index {o:Expr} (ha:Is h a (ListP vs)) (hs:Strs vs ss) (hx:sOf v=some x) (hm:x∈ss) (hz:vs.length≤1000)
  (e1:∀ Q:Value→Shared→Prop,Q (.ref a) (sh g t h)→wpAny (model P w) A (eval o env) Q E (sh g t h))
  (e2:∀ Q:Value→Shared→Prop,Q v (sh g t h)→wpAny (model P w) A (eval e env) Q E (sh g t h))
  (k:∀ t0 t',Q (.int (ss.idxOf x:Nat) t0) (sh g t' h))
  (hbase:autoParam (attributeBase o "index" env (eval o env)=eval o env) tR) (hline:autoParam ((apos.endLine == pos.line)=true) tR) (htrees:autoParam (backTo pos (starEach [e] env)=[(false,eval e env)]) tR) :
  wpAny (model P w) A (eval (.Call (.Attribute o "index" apos) [e] [] pos) env) Q E (sh g t h):=by
 obtain ⟨_,ho,n,rfl⟩:=ha
 have hj:ss.idxOf x < ss.length:=List.idxOf_lt_length_iff.mpr hm
 have hl:=hs.len
 refine wpAny_Call_method1_late hbase hline htrees (e1 _ ⟨"list", "list.index",PySem.F.plainAttrs_list,PySem.F.slot_list_index,PySem.F.type_list_index,⟨_,ho,rfl⟩,?_,?_⟩)
 ·rintro a ⟨⟩
  exact ⟨_,ho,rfl⟩
 refine method_meetsIn PySem.F.slot_list_index PySem.F.entry_list_index rfl (Zx (Yz (e2 _ (Zn ⟨rfl,⟨_,ho,rfl⟩,PySem.F.args_list_index_2 _ _,_,(SeqAt.list_indexAt a vs.toArray n none #[] v (fun y=>eS y v) (ss.idxOf x) (by simp; lia) (by lia) ?_ ?_) P w,ho,fun y hy=>hs.eq (by simpa using hy) hx,k _ _⟩))))
 ·have:=hs.at (i:=ss.idxOf x) (by lia) hj
  show eS _ _=true
  unfold eS
  simp only [List.getElem_toArray]
  rw [this,hx]
  simp
 ·intro m hm' hlt
  have h2:m < ss.length:=by simp at hm'; exact Nat.lt_of_lt_of_eq ‹_› ‹_›
  have:=hs.at (i:=m) (by exact Nat.lt_of_lt_of_le (Nat.lt_succ_self _) ‹_›) h2
  show eS _ _=false
  unfold eS
  simp only [List.getElem_toArray]
  rw [this,hx]
  have:=List.not_of_lt_findIdx (p:=fun y=>y == x) (xs:=ss) hlt
  simpa using this
theorem s_subG {slice:Expr} (h:wpAny (model P w) A (eval value env) (fun o s1=>wpAny (model P w) A (eval slice env) (fun i s2=>SubscriptOn (model P w) A o i Q E s2) E s1) E s)
  (hs:autoParam (∀ o i,subscripted slice false o i=operate [o,i] (getItem o i)) tI) :
  wpAny (model P w) A (eval (.Subscript value slice pos) env) Q E s :=
 Subscript_ (Ze h (fun o s1 h₁=>Ze h₁ (fun i s2 h₂=>(by obtain ⟨_,_,hl,hT,hg⟩:=h₂; exact tail_any (ops:=[o,i]) hT hl hg (hs o i))) fun _ _ e=>e) fun _ _ e=>e)
theorem b49 (name:Str) (cd pm kwd v u x:Value):bindArgs (fdF 49 name cd pm kwd) ⟨[v,u,x],[]⟩=pure [(("names" : Str),v),(("begins" : Str),u),(("ends" : Str),x)]:=by rfl
noncomputable def wcond (nsl:List Str) (LB:List Int) (r:Nat) (w:Str):Bool:=(nsl.any fun y=>y == w) && LB.getD (nsl.idxOf w) 0 == (r:Int)
noncomputable def lineP (nsl:List Str) (LB LE:List Int) (n:Nat):List Str:=(List.range n).flatMap fun r=>lawWords.filter (wcond nsl LB r)++lawWords.filter (wcond nsl LE r)
theorem lineP_succ (nsl:List Str) (LB LE:List Int) (n:Nat):lineP nsl LB LE (n + 1)=lineP nsl LB LE n++(lawWords.filter (wcond nsl LB n)++lawWords.filter (wcond nsl LE n)):=by
 unfold lineP
 rw [List.range_succ,List.flatMap_append]; simp
theorem Strs.app {ts:List Str} (h:Strs vs ss) (h2:Strs ws ts):Strs (vs++ws) (ss++ts):=by
 unfold Strs at *
 rw [Yt,Yt,h,h2]
theorem filt_snoc {p:Str→Bool} (h:i < ss.length):(ss.take (i + 1)).filter p=(ss.take i).filter p++(if p ss[i] then [ss[i]] else []):=by
 rw [List.take_add_one,Yj h,List.filter_append]
 congr 1
 cases q:p ss[i]<;>simp [q]
structure LnJ (H0 h:Heap) (fr:List Env) (L it na ba ea:Addr) (N:Nat) (nsl:List Str) (LB LE:List Int) (k:Nat) (h':Heap) (l:List (Str×Value)) (FF:Fs) (oc:Option Value) (ln:Addr) (vs:List Value):Prop where
 H:St H0 h (adr fr) [] L l ((it,RngP k N)::(L + 4,CellP oc)::FF) h'
 m0:(ln,ListP vs)∈FF
 m1:(L + 1,CellP (some (.ref na)))∈FF
 m2:(L + 2,CellP (some (.ref ba)))∈FF
 m3:(L + 3,CellP (some (.ref ea)))∈FF
 st:Strs vs (lineP nsl LB LE k)
 lk:l.lookup ("line" : Str)=some (.ref ln)
 ln:vs.length≤10 * k
noncomputable def line_call_S:Prop:=∀ {A:Around} {fr:List Env} {g} {N:Nat} {R:Result→Shared→Prop} {h:Heap} {t} {f fw na ba ea:Addr} {name nw:Str} {cd pm kwd cw pw kw:Value} {n:Nat} {nvs vb ve:List Value} {nsl:List Str} {LB LE:List Int} (rm:Rm A (n + 3)) (hfr:Frs A fr) (al:Alive H0 (adr fr) h) (bs:Bs H0 mg mb) (low:∀ a o,H0.get? a=some o→h.get? a=some o) (hf:Fn H0 f (fdF 49 name cd pm kwd)) (NR:NamesR mg mb) (hfw:Fn H0 fw (fdF 40 nw cw pw kw)) (hw:mg "_law_words" = some (.ref fw)) (hN:N≤8) (ha:Ob (adr fr) h na (ListP nvs)) (hb:Ob (adr fr) h ba (ListP vb)) (he:Ob (adr fr) h ea (ListP ve)) (hn:Strs nvs nsl) (hnN:nsl.length=N) (ib:Ints vb LB) (ie:Ints ve LE) (lb:LB.length=N) (le:LE.length=N) (hR:∀ h' t' a vs,Kp (adr fr) [] h h'→h.get? a=none→Is h' a (ListP vs)→Strs vs (lineP nsl LB LE N)→vs.length≤100→R (.ok (.ret (.ref a))) (sh g t' h')),codeAny (model P w) A (.call (.ref f) ⟨[.ref na,.ref ba,.ref ea],[]⟩) R (sh g t h)
end
namespace line_call
def zq0:=fun zk0=>(by
 intro A fr g N R h t f fw na ba ea name nw cd pm kwd cw pw kw n nvs vb ve nsl LB LE rm hfr al bs low hf NR hfw hw hN ha hb he hn hnN ib ie lb le hR
 have nlen:nvs.length=N:=hn.len.trans hnN
 refine s_enterCQ [("rank",h.objs.size + 4),("ends",h.objs.size + 3),("begins",h.objs.size + 2),("names",h.objs.size + 1)] bs low hf hfr al rm.room rfl (fun _ _ q=>by rw [b49]; exact Yn q) fun env A' h1 t1 QQ EE ee hA qr qn H hF=>?_
 have rm':Rm A' (n + 2):=hA ▸ rm.deeper env
 clear hA
 subst ee
 generalize h.objs.size=L at H hF ⊢
 replace H:St H0 h (adr fr) [] L [] [(L + 4,CellP none),(L + 3,CellP (some (.ref ea))),(L + 2,CellP (some (.ref ba))),(L + 1,CellP (some (.ref na)))] h1:=H
 revert rm hfr al bs low hf NR hfw hw hN ha hb he hn hnN ib ie lb le hR nlen qr qn rm' hF H
 have zd0:Nat:=0
 have zd1:Nat:=0
 revert A fr g N R h f fw na ba ea name nw cd pm kwd cw pw kw n nvs vb ve nsl LB LE A' h1 t1 QQ EE L zd0 zd1
 exact zk0:line_call_S)
namespace zp0
@[irreducible] def zc:=pick34 zq0 (by (repeat any_goals apply np)<;>first | exact neW | exact neA | exact neD | exact neS | infer_instance | exact ⟨by constructor<;>exact default⟩)
def A:=zc.1.1
def fr:=zc.1.2.1
def g:=zc.1.2.2.1
def N:=zc.1.2.2.2.1
def R:=zc.1.2.2.2.2.1
def h:=zc.1.2.2.2.2.2.1
def f:=zc.1.2.2.2.2.2.2
def fw:=zc.2.1.1
def na:=zc.2.1.2.1
def ba:=zc.2.1.2.2.1
def ea:=zc.2.1.2.2.2.1
def name:=zc.2.1.2.2.2.2.1
def nw:=zc.2.1.2.2.2.2.2.1
def cd:=zc.2.1.2.2.2.2.2.2
def pm:=zc.2.2.1.1
def kwd:=zc.2.2.1.2.1
def cw:=zc.2.2.1.2.2.1
def pw:=zc.2.2.1.2.2.2.1
def kw:=zc.2.2.1.2.2.2.2.1
def n:=zc.2.2.1.2.2.2.2.2.1
def nvs:=zc.2.2.1.2.2.2.2.2.2
def vb:=zc.2.2.2.1.1
def ve:=zc.2.2.2.1.2.1
def nsl:=zc.2.2.2.1.2.2.1
def LB:=zc.2.2.2.1.2.2.2.1
def LE:=zc.2.2.2.1.2.2.2.2.1
def A':=zc.2.2.2.1.2.2.2.2.2.1
def h1:=zc.2.2.2.1.2.2.2.2.2.2
def t1:=zc.2.2.2.2.1
def QQ:=zc.2.2.2.2.2.1
def EE:=zc.2.2.2.2.2.2.1
def L:=zc.2.2.2.2.2.2.2.1
def zd0:=zc.2.2.2.2.2.2.2.2.1
def zd1:=zc.2.2.2.2.2.2.2.2.2
def zq :=
 all34 zq0 A fr g N R h f fw na ba ea name nw cd pm kwd cw pw kw n nvs vb ve nsl LB LE A' h1 t1 QQ EE L zd0 zd1 (by with_unfolding_all rfl) (by
 intro rm hfr al bs low hf NR hfw hw hN ha hb he hn hnN ib ie lb le hR nlen qr qn rm' hF H
 refine s_cons fun _ q1 _=>(Yq (wpAny_List (Zn ⟨Zs _,?_⟩)))
 have H2:=H.push { cls:=.type "list",data:=.seq ([]:List Value).toArray } (p:=ListP []) ⟨0,rfl⟩
 dsimp only
 generalize h1.objs.size=ln at H2 ⊢
 refine s_st H2 fun h3 t3 H3=>q1 _ ?_
 clear q1 H H2
 refine s_cons fun _ q1 _=>(wpAny_For ?_)
 refine s_type1 bs H3.low NR.r0 NR.r1 ?_
 refine s_lenv bs H3.low NR.n0 NR.n1 (H3.old ha) (by lia) (fun Q q=>s_ldc (c:=L + 1) (v:=.ref na) (H3.at (i:=4) rfl) q) fun t0 t4=>?_
 rw [nlen]
 refine s_iterRange H3 (by exact Ye hN (by decide)) fun it t5 h5 H5=>?_
 refine s_forQ (Itr.range rm'.1 it N) (fun k h'=>E5 fun l FF oc ln vs=>LnJ H0 h fr L it na ba ea N nsl LB LE k h' l FF oc ln vs) (fun k h' j=>?_) (fun k v h' t' h'' Q1 E1 hk hv j hit sb k1 _ _ _=>?_) (fun h' t' h'' j sb=>?_) ⟨_,_,_,ln,[],⟨H5.perm (G:=(it,RngP 0 N)::(L + 4,CellP none)::(ln,ListP [])::[(L + 3,CellP (some (.ref ea))),(L + 2,CellP (some (.ref ba))),(L + 1,CellP (some (.ref na)))]) ((List.Perm.swap _ _ _).cons _),Yc,Yr (i:=3) rfl,Yr (i:=2) rfl,Yr (i:=1) rfl,rfl,by rfl,Zs _⟩⟩
 ·obtain ⟨l,FF,oc,ln,vs,j⟩:=j
  exact ⟨j.H.at (i:=0) rfl,trivial⟩
 ·clear q1 H5 H3
  clear ln
  obtain ⟨l,FF,oc,ln,vs,j⟩:=j
  obtain ⟨tk,rfl⟩:=hv
  have H6:=j.H.upd 0 rfl sb hit
  obtain ⟨m0,m1,m2,m3,st,lk,lnz⟩:=j.m0,j.m1,j.m2,j.m3,j.st,j.lk,j.ln
  clear j hit sb
  refine Zl (s_stc H6 1 fun h7 t7 H7=>?_)
  clear H6
  refine s_cons fun _ q1 _=>(Yq (wpAny_BinOp (s_ld H7 (s_comp [("rank",L + 4),("names",L + 1),("begins",L + 2)] ?_) (hv:=lk))))
  refine Zb (s_gname bs H7.low hw (s_fcall hfw (PySem.evalArgs_none ⟨H7.low,?_⟩)))
  refine words_call (n:=n) (rm'.le (by exact Za (by decide) _)) hF H7.al bs H7.low hfw fun h8 t8 wa wvs K8 nw8 iw hwv=>?_
  have H8:=H7.add K8 nw8 iw
  have wlen:wvs.length=5:=hwv.len
  refine wpAny_pyIter_list (H8.at (i:=0) rfl).list ?_
  have H9:=H8.push { cls:=.type "list_iterator",data:=.fields #[.ref wa,.int 0 0] } (p:=IterP wa 0) ⟨rfl,rfl⟩
  generalize h8.objs.size=itw at H9 ⊢
  obtain ⟨FX,eFX,H9⟩:∃ FX:Fs,FX=(wa,ListP wvs)::(it,RngP (k + 1) N)::(L + 4,CellP (some (.int (k:Nat) tk)))::FF∧St H0 h (adr fr) [] L _ ((itw,IterP wa 0)::FX) _:=⟨_,rfl,H9⟩
  have xw:(wa,ListP wvs)∈FX:=by rw [eFX]; exact Yc
  have xr:(L + 4,CellP (some (.int (k:Nat) tk)))∈FX:=by rw [eFX]; exact Yr (i:=2) rfl
  have xf:∀ {y},y∈FF→y∈FX:=fun {y} hy=>by rw [eFX]; exact Yb _ (Yb _ (Yb _ hy))
  refine s_compIn H9 (Itr.list rm'.1 itw wa wvs) (H9.fresh (i:=0) rfl) (fun i vs F=>Strs vs ((lawWords.take i).filter (wcond nsl LB k))∧F=FX) ⟨rfl,rfl⟩ (fun C D i vs F m h j S=>by
   obtain ⟨_,rfl⟩:=j
   exact S.has _ (Yb _ (Yb _ (Yb _ xw)))) (fun i vs F j=>?_) (fun C D i v vs F h4 t4 m hi hv j hm H4=>?_) (fun D vs' F h4 t4 j H4=>?_) (by rfl) (by rfl) (by rfl)
  ·rw [j.1.len]
   exact Ye (List.length_filter_le _ _) (Ye (List.length_take_le' _ _) (by decide))
  ·obtain ⟨sv,eF⟩:=j
   rw [eF] at H4
   clear eF F
   have hi5:i < lawWords.length:=by rw [wlen] at hi; exact hi
   have hv':wvs[i]? = some v:=hv
   rw [Yj hi] at hv'
   obtain rfl:=Zj hv'
   have ev:=hwv.at hi hi5
   have sn:=filt_snoc (p:=wcond nsl LB k) hi5
   generalize lawWords[i]=x at ev sn
   have mem:∀ {y},y∈FX→∀ {a b c},y∈a::b::c::FX:=fun {y} hy {a b c}=>Yb _ (Yb _ (Yb _ hy))
   refine s_if1 (isTrue_and (Yg (s_ldm (H4.at (i:=0) rfl) hm (s_ldc (c:=L + 1) (v:=.ref na) (H4.has _ (mem (xf m1))) (s_inStrs (H4.old ha) hn ev (Yi ?_))))))
   cases hb1:nsl.any fun y=>y == x with
   | false =>
    rw [if_neg Yk,if_neg Yk]
    refine ⟨_,_,_,rfl,H4,?_,rfl⟩
    rw [sn,show wcond nsl LB k x=false from by unfold wcond; rw [hb1]; rfl,if_neg Yk,List.append_nil]; exact sv
   | true =>
    rw [if_pos rfl]
    have xm:x∈nsl:=by
     obtain ⟨y,hy,e⟩:=List.any_eq_true.mp hb1
     rw [← eq_of_beq e]; exact hy
    have hix:nsl.idxOf x < N:=by rw [← hnN]; exact List.idxOf_lt_length_iff.mpr xm
    have ek:LB[nsl.idxOf x]? = some (LB.getD (nsl.idxOf x) 0):=by rw [Yo,Yj (by lia)]; rfl
    obtain ⟨tb,eb⟩:=ib.at ek
    refine isTrue_and (Yg (s_subG (s_ldc (c:=L + 2) (v:=.ref ba) (H4.has _ (mem (xf m2))) (s_index (H4.old ha) hn ev xm (by lia) (fun Q q=>s_ldc (c:=L + 1) (v:=.ref na) (H4.has _ (mem (xf m1))) q) (fun Q q=>s_ldm (H4.at (i:=0) rfl) hm q) fun t0 t5=>s_at (H4.old hb) (by exact Ye (Ye ‹_› ‹_›) (by decide)) eb ?_))))
    refine s_ldc (c:=L + 4) (v:=.int (k:Nat) tk) (H4.has _ (mem xr)) (PySem.P.eq_int (Yi ?_))
    have ew:wcond nsl LB k x=(LB.getD (nsl.idxOf x) 0 == (k:Int)):=by unfold wcond; rw [hb1,Bool.true_and]
    rw [← ew]
    cases hb2:wcond nsl LB k x with
    | false =>
     rw [hb2,if_neg Yk,List.append_nil] at sn
     rw [if_neg Yk,if_neg Yk]
     exact ⟨_,_,_,rfl,H4,by rw [sn]; exact sv,rfl⟩
    | true =>
     rw [hb2,if_pos rfl] at sn
     rw [if_pos rfl]
     refine isTrue_and_nil ?_
     rw [if_pos rfl]
     refine s_ldm (H4.at (i:=0) rfl) hm ⟨_,_,_,rfl,H4,?_,rfl⟩
     rw [sn]
     exact sv.app (by unfold Strs; rw [List.map_singleton,ev]; rfl)
  ·obtain ⟨sv,eF⟩:=j
   rw [eF] at H4
   clear eF F
   rw [wlen,show lawWords.take 5=lawWords from rfl] at sv
   have zv:vs'.length≤5:=by
    rw [sv.len]; exact Ye (List.length_filter_le _ _) (by decide)
   refine s_addList H4 (H4.has _ (Yb _ (xf m0))) (H4.at (i:=0) rfl) (by lia) fun h10 H10=>?_
   generalize h4.objs.size=ln2 at H10 ⊢
   refine s_st H10 fun h11 t11 H11=>q1 _ ?_
   have st2:=st.app sv
   have lnz2:(vs++vs').length≤10 * k + 5:=by rw [Zw]; exact Nat.add_le_add ‹_› ‹_›
   clear q1 H7 H8 H9 H4 H10 K8 nw8 iw hwv wlen sv zv st lnz m0
   have H12:=H11.perm (G:=(it,RngP (k + 1) N)::(L + 4,CellP (some (.int (k:Nat) tk)))::(ln2,ListP (vs++vs'))::(D,ListP vs')::(wa,ListP wvs)::FF) (by
    rw [eFX]
    exact (Zi (l₁:=[_,_,_]) (l₂:=[_,_])).append_right FF)
   have m0:(ln2,ListP (vs++vs'))∈(ln2,ListP (vs++vs'))::(D,ListP vs')::(wa,ListP wvs)::FF:=Yc
   replace m1:(L + 1,CellP (some (.ref na)))∈(ln2,ListP (vs++vs'))::(D,ListP vs')::(wa,ListP wvs)::FF:=Yb _ (Yb _ (Yb _ m1))
   replace m2:(L + 2,CellP (some (.ref ba)))∈(ln2,ListP (vs++vs'))::(D,ListP vs')::(wa,ListP wvs)::FF:=Yb _ (Yb _ (Yb _ m2))
   replace m3:(L + 3,CellP (some (.ref ea)))∈(ln2,ListP (vs++vs'))::(D,ListP vs')::(wa,ListP wvs)::FF:=Yb _ (Yb _ (Yb _ m3))
   clear xw xr xf H11
   generalize (ln2,ListP (vs++vs'))::(D,ListP vs')::(wa,ListP wvs)::FF=F2 at H12 m0 m1 m2 m3
   generalize vs++vs'=vs at *
   clear eFX
   clear FX
   replace lk:List.lookup ("line" : Str) ((("line" : Str),Value.ref ln2)::l)=some (.ref ln2):=by rfl
   generalize (("line" : Str),Value.ref ln2)::l=l at *
   refine s_cons fun _ q1 _=>(Yq (wpAny_BinOp (s_ld H12 (s_comp [("rank",L + 4),("names",L + 1),("ends",L + 3)] ?_) (hv:=lk))))
   refine Zb (s_gname bs H12.low hw (s_fcall hfw (PySem.evalArgs_none ⟨H12.low,?_⟩)))
   refine words_call (n:=n) (rm'.le (by exact Za (by decide) _)) hF H12.al bs H12.low hfw fun h8 t8 wa wvs K8 nw8 iw hwv=>?_
   have H8:=H12.add K8 nw8 iw
   have wlen:wvs.length=5:=hwv.len
   refine wpAny_pyIter_list (H8.at (i:=0) rfl).list ?_
   have H9:=H8.push { cls:=.type "list_iterator",data:=.fields #[.ref wa,.int 0 0] } (p:=IterP wa 0) ⟨rfl,rfl⟩
   generalize h8.objs.size=itw at H9 ⊢
   obtain ⟨FX,eFX,H9⟩:∃ FX:Fs,FX=(wa,ListP wvs)::(it,RngP (k + 1) N)::(L + 4,CellP (some (.int (k:Nat) tk)))::F2∧St H0 h (adr fr) [] L _ ((itw,IterP wa 0)::FX) _:=⟨_,rfl,H9⟩
   have xw:(wa,ListP wvs)∈FX:=by rw [eFX]; exact Yc
   have xr:(L + 4,CellP (some (.int (k:Nat) tk)))∈FX:=by rw [eFX]; exact Yr (i:=2) rfl
   have xf:∀ {y},y∈F2→y∈FX:=fun {y} hy=>by rw [eFX]; exact Yb _ (Yb _ (Yb _ hy))
   refine s_compIn H9 (Itr.list rm'.1 itw wa wvs) (H9.fresh (i:=0) rfl) (fun i vs F=>Strs vs ((lawWords.take i).filter (wcond nsl LE k))∧F=FX) ⟨rfl,rfl⟩ (fun C D i vs F m h j S=>by
    obtain ⟨_,rfl⟩:=j
    exact S.has _ (Yb _ (Yb _ (Yb _ xw)))) (fun i vs F j=>?_) (fun C D i v vs F h4 t4 m hi hv j hm H4=>?_) (fun D vs' F h4 t4 j H4=>?_) (by rfl) (by rfl) (by rfl)
   ·rw [j.1.len]
    exact Ye (List.length_filter_le _ _) (Ye (List.length_take_le' _ _) (by decide))
   ·obtain ⟨sv,eF⟩:=j
    rw [eF] at H4
    clear eF F
    have hi5:i < lawWords.length:=by rw [wlen] at hi; exact hi
    have hv':wvs[i]? = some v:=hv
    rw [Yj hi] at hv'
    obtain rfl:=Zj hv'
    have ev:=hwv.at hi hi5
    have sn:=filt_snoc (p:=wcond nsl LE k) hi5
    generalize lawWords[i]=x at ev sn
    have mem:∀ {y},y∈FX→∀ {a b c},y∈a::b::c::FX:=fun {y} hy {a b c}=>Yb _ (Yb _ (Yb _ hy))
    refine s_if1 (isTrue_and (Yg (s_ldm (H4.at (i:=0) rfl) hm (s_ldc (c:=L + 1) (v:=.ref na) (H4.has _ (mem (xf m1))) (s_inStrs (H4.old ha) hn ev (Yi ?_))))))
    cases hb1:nsl.any fun y=>y == x with
    | false =>
     rw [if_neg Yk,if_neg Yk]
     refine ⟨_,_,_,rfl,H4,?_,rfl⟩
     rw [sn,show wcond nsl LE k x=false from by unfold wcond; rw [hb1]; rfl,if_neg Yk,List.append_nil]; exact sv
    | true =>
     rw [if_pos rfl]
     have xm:x∈nsl:=by
      obtain ⟨y,hy,e⟩:=List.any_eq_true.mp hb1
      rw [← eq_of_beq e]; exact hy
     have hix:nsl.idxOf x < N:=by rw [← hnN]; exact List.idxOf_lt_length_iff.mpr xm
     have ek:LE[nsl.idxOf x]? = some (LE.getD (nsl.idxOf x) 0):=by rw [Yo,Yj (by lia)]; rfl
     obtain ⟨tb,eb⟩:=ie.at ek
     refine isTrue_and (Yg (s_subG (s_ldc (c:=L + 3) (v:=.ref ea) (H4.has _ (mem (xf m3))) (s_index (H4.old ha) hn ev xm (by lia) (fun Q q=>s_ldc (c:=L + 1) (v:=.ref na) (H4.has _ (mem (xf m1))) q) (fun Q q=>s_ldm (H4.at (i:=0) rfl) hm q) fun t0 t5=>s_at (H4.old he) (by exact Ye (Ye ‹_› ‹_›) (by decide)) eb ?_))))
     refine s_ldc (c:=L + 4) (v:=.int (k:Nat) tk) (H4.has _ (mem xr)) (PySem.P.eq_int (Yi ?_))
     have ew:wcond nsl LE k x=(LE.getD (nsl.idxOf x) 0 == (k:Int)):=by unfold wcond; rw [hb1,Bool.true_and]
     rw [← ew]
     cases hb2:wcond nsl LE k x with
     | false =>
      rw [hb2,if_neg Yk,List.append_nil] at sn
      rw [if_neg Yk,if_neg Yk]
      exact ⟨_,_,_,rfl,H4,by rw [sn]; exact sv,rfl⟩
     | true =>
      rw [hb2,if_pos rfl] at sn
      rw [if_pos rfl]
      refine isTrue_and_nil ?_
      rw [if_pos rfl]
      refine s_ldm (H4.at (i:=0) rfl) hm ⟨_,_,_,rfl,H4,?_,rfl⟩
      rw [sn]
      exact sv.app (by unfold Strs; rw [List.map_singleton,ev]; rfl)
   ·obtain ⟨sv,eF⟩:=j
    rw [eF] at H4
    clear eF F
    rw [wlen,show lawWords.take 5=lawWords from rfl] at sv
    have zv:vs'.length≤5:=by
     rw [sv.len]; exact Ye (List.length_filter_le _ _) (by decide)
    refine s_addList H4 (H4.has _ (Yb _ (xf m0))) (H4.at (i:=0) rfl) (by lia) fun h10 H10=>?_
    generalize h4.objs.size=ln2 at H10 ⊢
    refine s_st H10 fun h11 t11 H11=>q1 _ ?_
    have st2:=st2.app sv
    have lnz2:(vs++vs').length≤10 * (k + 1):=by rw [Zw]; lia
    clear q1 H12 H8 H9 H4 H10 K8 nw8 iw hwv wlen sv zv m0
    refine Ym (k1 _ _ ⟨_,(ln2,ListP (vs++vs'))::(D,ListP vs')::(wa,ListP wvs)::F2,_,ln2,vs++vs',⟨H11.perm (by
     rw [eFX]
     exact (Zi (l₁:=[_,_,_]) (l₂:=[_,_])).append_right F2),Yc,Yb _ (Yb _ (Yb _ m1)),Yb _ (Yb _ (Yb _ m2)),Yb _ (Yb _ (Yb _ m3)),by rw [lineP_succ,← List.append_assoc]; exact st2,by rfl,by exact lnz2⟩⟩)
 ·obtain ⟨l,FF,oc,ln,vs,j⟩:=j
  have H6:=j.H.lose (j.H.fresh (i:=0) rfl) sb
  have mm:(ln,ListP vs)∈(L + 4,CellP oc)::FF:=Yb _ j.m0
  refine q1 _ (Yh (Zd (s_ld H6 (qr _ _ (hR h'' _ ln vs H6.kp ?_ (H6.has _ mm) j.st (by have:=j.ln; lia))) (hv:=j.lk))))
  rcases H6.new _ mm with q | q
  ·simp at q
  ·exact q)
end zp0
end line_call
section
variable {A:Around} {B:Heap} {fa X:List Addr} {L:Addr} {fr:List Env} {g:Array GenState} {K:Frag} {CI:Addr} {E:Value→Shared→Prop} {env:Env} {dx:Addr} {name qual:Str} {cd pm kwd:Value} {R:Result→Shared→Prop} {Q:Value→Shared→Prop} {pos:Pos} {e value:Expr} {t0:Tok} {dt:Addr} {ws:List Value} {ks:List Int} {buf:Str} {k:Nat} {f:Addr} {F:Fs} {n:Nat} {l:List (Str×Value)} {v:Value} {h:Heap} {t:Nat}
theorem line_call:line_call_S:=@Wr.out _ line_call.zp0.zq
noncomputable def cellBase:List Int:=[0,1,2,1,3,2,0,4,3,4,15897]
noncomputable def cellStep (ks:List Int) (c:List Int) (i:Nat):List Int:=c.set (i % 11) (c.getD (i % 11) 0 + ks.getD i 0)
noncomputable def cellsP (ks:List Int) (n:Nat):List Int:=(List.range n).foldl (cellStep ks) cellBase
theorem cells_len (ks:List Int) (n:Nat):(cellsP ks n).length=11:=by
 unfold cellsP
 induction n with
 | zero=>rfl
 | succ n ih=>rw [List.range_succ,List.foldl_append]; show (cellStep ks _ n).length=11; unfold cellStep; rw [List.length_set]; exact ih
noncomputable def intC (c:Const):Option Int:=by
 cases c
 case int s=>exact some s
 all_goals exact none
noncomputable def constI (e:Expr):Option Int:=(constC e).bind intC
theorem constI_some {s:Int} (h:constI e=some s):E2 fun k p=>e=.Constant (.int s) k p:=by
 obtain ⟨c,h1,h2⟩:=Zy.mp h
 obtain ⟨k,p,rfl⟩:=constC_some h1
 cases c
 case int x=>exact ⟨k,p,congrArg (fun z=>Expr.Constant (.int z) k p) (Zj h2)⟩
 all_goals exact nS h2
theorem s_cil {A:Around} {g:Array GenState} {env:Env} {E:Value→Shared→Prop} {h:Heap} {Q:List Value→Shared→Prop}:∀ (es:List Expr) (ks:List Int) (t:Nat) (_:es.map constI=ks.map some) (_:∀ vs t',Ints vs ks→Q vs (sh g t' h)),wpAny (model P w) A (spliced (es.map fun e=>(false,eval e env))) Q E (sh g t h)
 | [],[],t,_,q=>Zn (q [] t rfl)
 | [],_::_,_,hc,_=>by cases hc
 | _::_,[],_,hc,_=>by cases hc
 | e::es,k::ks,t,hc,q=>by
  rw [Zq,Zq,List.cons.injEq] at hc
  obtain ⟨kd,p,rfl⟩:=constI_some hc.1
  refine Yz (s_ci fun t0 t1=>s_cil (Q:=fun vs s'=>Q (.int k t0::vs) s') es ks t1 hc.2 fun vs t' hs=>q _ _ ?_)
  unfold Ints at *
  rw [Zq,Zq,hs]; rfl
theorem s_listInts {es:List Expr} (H:St H0 B fa X L l F h) (hc:autoParam (es.map constI=ks.map some) tR) (hz:autoParam (es.length≤1000) tD)
  (hs:autoParam (backTo pos (starEach es env)=es.map fun e=>(false,eval e env)) tR)
  (k:∀ vs h' t',Ints vs ks→St H0 B fa X L l ((h.objs.size,ListP vs)::F) h'→Q (.ref h.objs.size) (sh g t' h')):wpAny (model P w) A (eval (.List es pos) env) Q E (sh g t h):=by
 refine wpAny_List ?_
 rw [hs]
 refine s_cil es ks t hc fun vs t' hv=>⟨?_,k vs _ t' hv (H.push _ ⟨0,rfl⟩)⟩
 have:=congrArg List.length hc
 rw [Yp,Yp] at this
 have e2:=hv.len
 exact Ye (by lia:vs.length≤1000) (by decide)
theorem b39 (name:Str) (cd pm kwd v:Value):bindArgs (fdF 39 name cd pm kwd) ⟨[v],[]⟩=pure [(("script" : Str),v)]:=by rfl
theorem mod11 (i:Nat):((i:Nat):Int).fmod 11=((i % 11:Nat):Int):=by
 rw [Int.fmod_eq_emod_of_nonneg _ (by decide)]; rfl
structure ClJ (H0 h:Heap) (fr:List Env) (L it cl sc:Addr) (n:Nat) (ks:List Int) (k:Nat) (h':Heap) (l:List (Str×Value)) (vs:List Value):Prop where
 H:St H0 h (adr fr) [] L l [(it,RngP k n),(cl,ListP vs)] h'
 iv:Ints vs (cellsP ks k)
 l1:l.lookup ("cells" : Str)=some (.ref cl)
 l2:l.lookup ("script" : Str)=some (.ref sc)
theorem cells_call {g} {t} {sc:Addr}
  (rm:Rm A (n + 1)) (hfr:Frs A fr) (al:Alive H0 (adr fr) h) (bs:Bs H0 mg mb) (low:∀ a o,H0.get? a=some o→h.get? a=some o) (hf:Fn H0 f (fdF 39 name cd pm kwd)) (NR:NamesR mg mb)
  (ha:Ob (adr fr) h sc (ListP ws)) (hw:Ints ws ks) (hz:ks.length≤1000)
  (hR:∀ h' t' a vs,Kp (adr fr) [] h h'→h.get? a=none→Is h' a (ListP vs)→Ints vs (cellsP ks ks.length)→R (.ok (.ret (.ref a))) (sh g t' h')) :
  codeAny (model P w) A (.call (.ref f) ⟨[.ref sc],[]⟩) R (sh g t h):=by
 have wl:=hw.len
 refine s_enterQ bs low hf hfr al rm.room rfl (fun _ _ q=>by rw [b39]; exact Yn q) fun env A' h₁ t1 QQ EE ee hA qr qn H hF=>?_
 have rm':Rm A' n:=hA ▸ rm.deeper env
 clear hA
 subst ee
 generalize h.objs.size=L at H hF ⊢
 refine s_cons ?_
 intro _ q1 _
 refine Yq ?_
 refine s_listInts (E:=EE) (ks:=cellBase) H ?_ ?_ ?_ ?_
 ·kernel_rfl
 ·decide
 ·rfl
 intro vs h₂ t2 hv0 H2
 generalize h₁.objs.size=cl at H2 ⊢
 refine s_st H2 fun h3 t3 H3=>q1 _ ?_
 clear q1 H H2
 refine s_cons fun _ q1 _=>(wpAny_For ?_)
 refine s_type1 bs H3.low NR.r0 NR.r1 ?_
 refine s_lenv bs H3.low NR.n0 NR.n1 (H3.old ha) (by lia) (fun Q q=>s_ld H3 q) fun t0 t4=>?_
 rw [wl]
 refine s_iterRange H3 (by exact hz) fun it t5 h5 H5=>?_
 refine s_forQ (Itr.range rm'.1 it ks.length) (fun k h'=>E2 fun l vs=>ClJ H0 h fr L it cl sc ks.length ks k h' l vs) (fun k h' j=>?_) (fun k v h' t' h'' Q1 E1 hk hv j hit sb k1 _ _ _=>?_) (fun h' t' h'' j sb=>?_) ⟨_,vs,⟨H5,hv0,by rfl,by rfl⟩⟩
 ·obtain ⟨l,vs,j⟩:=j
  exact ⟨j.H.at (i:=0) rfl,trivial⟩
 ·clear q1 H5 H3 hv0
  clear vs
  obtain ⟨l,vs,j⟩:=j
  obtain ⟨tk,rfl⟩:=hv
  have H6:=j.H.upd 0 rfl sb hit
  obtain ⟨iv,l1,l2⟩:=j.iv,j.l1,j.l2
  clear j hit sb
  refine Zl (s_st H6 fun h7 t7 H7=>?_)
  have cz:=cells_len ks k
  have km:k % 11 < 11:=Nat.mod_lt _ (by decide)
  have e1:(cellsP ks k)[k % 11]? = some ((cellsP ks k).getD (k % 11) 0):=by rw [Yo,Yj (by lia)]; rfl
  have e2:ks[k]? = some (ks.getD k 0):=by rw [Yo,Yj hk]; rfl
  obtain ⟨ta,ea⟩:=iv.at e1
  obtain ⟨tb,eb⟩:=hw.at e2
  refine s_cons fun _ q2 _=>(wpAny_Assign_Subscript (wpAny_BinOp (s_subG (s_ld H7 (wpAny_BinOp (s_ld H7 (s_ci fun _ _=>mod_int' (by decide) ?_))) (hv:=l1)))))
  rw [mod11]
  refine s_at (H7.at (i:=1) rfl) (by exact Nat.lt_of_lt_of_le km (by decide)) ea ?_
  refine Zk (s_ld H7 (s_ld H7 (s_at (H7.old ha) (by exact Ye (Ye ‹_› ‹_›) (by decide)) eb (PySem.P.add_int ?_))) (hv:=l2))
  refine s_ld H7 (wpAny_BinOp (s_ld H7 (s_ci fun _ _=>mod_int' (by decide) ?_))) (hv:=l1)
  rw [mod11]
  refine s_setL H7 1 rfl (by rw [iv.len,cz]; exact km) (by rw [iv.len,cz]; decide) fun h8 H8=>q2 _ (Ym (k1 _ _ ⟨_,_,⟨H8,?_,l1,l2⟩⟩))
  have es:cellsP ks (k + 1)=(cellsP ks k).set (k % 11) ((cellsP ks k).getD (k % 11) 0 + ks.getD k 0):=by
   unfold cellsP
   rw [List.range_succ,List.foldl_append]; rfl
  rw [es]
  exact iv.set _ _ _
 ·obtain ⟨l,vs,j⟩:=j
  have H6:=j.H.lose (j.H.fresh (i:=0) rfl) sb
  exact q1 _ (Yh (Zd (s_ld H6 (qr _ _ (hR h'' _ cl vs H6.kp (H6.fresh (i:=0) rfl) (H6.at (i:=0) rfl) j.iv)) (hv:=j.l1))))
noncomputable def lawWr:List (List Str):=[["'it'\"'\"'s'", "\"it's\"", "it\\'s"],["a", "\"a\"", "\\a"],["''", "\"\"", "''\"\""],["'b c'", "\"b c\"", "b\\ c"],["'\\\"'", "\"\\\\\\\"\"", "\\\\\\\""]]
theorem b41 (name:Str) (cd pm kwd:Value):bindArgs (fdF 41 name cd pm kwd) ⟨[],[]⟩=pure []:=by rfl
theorem writings_call {g} {t}
  (rm:Rm A (n + 1)) (hfr:Frs A fr) (al:Alive H0 (adr fr) h) (bs:Bs H0 mg mb) (low:∀ a o,H0.get? a=some o→h.get? a=some o) (hf:Fn H0 f (fdF 41 name cd pm kwd))
  (hR:∀ h' t' a (xs:List Value),Kp (adr fr) [] h h'→h.get? a=none→Is h' a (ListP xs)→(∀ (i:Nat) (ws:List Str),lawWr[i]? = some ws→E2 fun b vs=>xs[i]? = some (Value.ref b)∧h.get? b=none∧Is h' b (ListP vs)∧Strs vs ws)→R (.ok (.ret (.ref a))) (sh g t' h')) :
  codeAny (model P w) A (.call (.ref f) ⟨[],[]⟩) R (sh g t h):=by
 refine s_enterQ bs low hf hfr al rm.room rfl (fun _ _ q=>by rw [b41]; exact Yn q) fun env A' h₁ t1 QQ EE ee hA qr qn H hF=>?_
 subst ee
 refine Yh ?_
 refine Zd ?_
 refine wpAny_List ?_
 refine Yz ?_
 refine s_listStrs (E:=EE) (ss:=["'it'\"'\"'s'", "\"it's\"", "it\\'s"]) H rfl (by decide) rfl ?_
 intro v1 h₂ t2 s1 H2
 refine Yz ?_
 refine s_listStrs (E:=EE) (ss:=["a", "\"a\"", "\\a"]) H2 rfl (by decide) rfl ?_
 intro v2 h3 t3 s2 H3
 refine Yz ?_
 refine s_listStrs (E:=EE) (ss:=["''", "\"\"", "''\"\""]) H3 rfl (by decide) rfl ?_
 intro v3 h4 t4 s3 H4
 refine Yz ?_
 refine s_listStrs (E:=EE) (ss:=["'b c'", "\"b c\"", "b\\ c"]) H4 rfl (by decide) rfl ?_
 intro v4 h5 t5 s4 H5
 refine Yz ?_
 refine s_listStrs (E:=EE) (ss:=["'\\\"'", "\"\\\\\\\"\"", "\\\\\\\""]) H5 rfl (by decide) rfl ?_
 intro v5 h6 t6 s5 H6
 refine Zn ⟨by show 5≤sizeLine; decide,?_⟩
 have H7:=H6.push { cls:=.type "list",data:=.seq [Value.ref h₁.objs.size,.ref h₂.objs.size,.ref h3.objs.size,.ref h4.objs.size,.ref h5.objs.size].toArray } (p:=ListP [Value.ref h₁.objs.size,.ref h₂.objs.size,.ref h3.objs.size,.ref h4.objs.size,.ref h5.objs.size]) ⟨0,rfl⟩
 refine qr _ _ (hR _ _ _ _ H7.kp (H7.fresh (i:=0) rfl) (H7.at (i:=0) rfl) fun i ws hi=>?_)
 rcases i with _ | _ | _ | _ | _ | i
 ·cases hi; exact ⟨_,v1,rfl,H7.fresh (i:=5) rfl,H7.at (i:=5) rfl,s1⟩
 ·cases hi; exact ⟨_,v2,rfl,H7.fresh (i:=4) rfl,H7.at (i:=4) rfl,s2⟩
 ·cases hi; exact ⟨_,v3,rfl,H7.fresh (i:=3) rfl,H7.at (i:=3) rfl,s3⟩
 ·cases hi; exact ⟨_,v4,rfl,H7.fresh (i:=2) rfl,H7.at (i:=2) rfl,s4⟩
 ·cases hi; exact ⟨_,v5,rfl,H7.fresh (i:=1) rfl,H7.at (i:=1) rfl,s5⟩
 ·simp [lawWr] at hi
section
open PySem.Builtin PySem.Builtin.Str
theorem slice_ij (x:Str) (i j:Nat) (hi:i≤j) (hj:j≤x.length):Txt.slice x (some i) (some j)=⟨((x.cps.toList.drop i).take (j - i)).toArray⟩:=by
 have e:strSliceIndices (some (i:Int)) (some (j:Int)) 1 x.length=sliceRange (i:Int) (j:Int) 1:=by
  unfold strSliceIndices
  simp only [show (1:Int) > 0 by decide,if_true]
  have h1:¬ ((i:Int) < 0):=by lia
  have h2:¬ ((j:Int) < 0):=by lia
  simp only [h1,h2,if_false]
  congr 1<;>lia
 unfold Txt.slice
 rw [e]
 have hp:(sliceRange (i:Int) (j:Int) 1).filterMap (x.cps[·]?)=(x.cps.toList.drop i).take (j - i):=by
  simp only [sliceRange_one,pick_run]
 split
 ·rename_i h
  have hl:(sliceRange (i:Int) (j:Int) 1).length=j - i:=by
   unfold sliceRange
   simp only [show (1:Int) > 0 by decide,if_true,Yp,List.length_range]
   split<;>lia
  rw [hl] at h
  simp only [Bool.and_eq_true,beq_iff_eq] at h
  have h0:i=0:=by lia
  have h1:j=x.length:=by lia
  subst h0
  rw [List.drop_zero,List.take_of_length_le (by show x.cps.toList.length≤_; rw [Array.length_toList]; show x.length≤_; exact Nat.le_of_eq (Eq.symm ‹_›))]
 ·rw [hp]
theorem slice_m1 (x:Str) (n:Nat) (hx:x.length=n + 1):Txt.slice x none (some (-1))=⟨(x.cps.toList.take n).toArray⟩:=by
 have e:strSliceIndices none (some (-1)) 1 x.length=sliceRange ((0:Nat):Int) (n:Int) 1:=by
  unfold strSliceIndices
  simp only [show (1:Int) > 0 by decide,if_true,show ((-1:Int) < 0) by decide]
  congr 1
  lia
 unfold Txt.slice
 rw [e]
 have hp:(sliceRange ((0:Nat):Int) (n:Int) 1).filterMap (x.cps[·]?)=x.cps.toList.take n:=by
  rw [sliceRange_one,pick_run,List.drop_zero,Nat.sub_zero]
 have hl:(sliceRange ((0:Nat):Int) (n:Int) 1).length=n:=by rw [sliceRange_one]; simp
 rw [hl,hp,if_neg]
 simp only [Bool.and_eq_true,beq_iff_eq]
 lia
end
section
open PySem.Builtin PySem.Builtin.Str
theorem s_slS {lo up:Option Expr} {p:Pos} (x:Str) (_H:St H0 B fa X L l F h) (hz:x.length≤10000)
  (k:wpAny (model P w) A (eval value env) (fun o s1=>∃ tx,o=.str x tx∧wpAny (model P w) A (evalPart lo env) (fun vl s2=>wpAny (model P w) A (evalPart up env) (fun vu s3 =>
   E4 fun (li:Option (Int×Tok)) (ui:Option (Int×Tok)) (h3:Heap) (t3:Nat)=>s3=(sh g t3 h3)∧vl=partValue li∧vu=partValue ui∧St H0 B fa X L l F h3∧∀ h' t0 t',St H0 B fa X L l F h'→Q (.str (Txt.slice x (li.map (·.1)) (ui.map (·.1))) t0) (sh g t' h')) E s2) E s1) E (sh g t h)) :
  wpAny (model P w) A (eval (.Subscript value (.Slice lo up none p) pos) env) Q E (sh g t h):=by
 refine Subscript_ (Ze k (fun o s1 q=>?_) fun _ _ e=>e)
 obtain ⟨tx,rfl,q⟩:=q
 refine wpAny_Slice (Ze q (fun vl s2 q=>Ze q (fun vu s3 q=>evalPart_none_step ?_) fun _ _ e=>e) fun _ _ e=>e)
 obtain ⟨li,ui,h3,t3,rfl,rfl,rfl,H,q⟩:=q
 refine tail_any (ops:=[.ref h3.objs.size,.str x tx]) (typeIs_str _ x tx) PySem.F.slot_str_getitem.lookup ?_ rfl
 refine wpAny_getItem_str_slice (l:=li) (u:=ui) (st:=none) ⟨_,Heap.get?_push_size _ rfl,rfl,rfl⟩ rfl ?_
 have fit:(Txt.slice x (li.map (·.1)) (ui.map (·.1))).length≤sizeLine:=Ye (Txt.slice_le x _ _) (Ye hz (by decide))
 have H':=H.same (h':=h3.push { cls:=.type "slice",data:=.fields #[partValue li,partValue ui,.none] }) (fun b o e=>Yv _ e)
 exact post_val_or_str ⟨fit,fun t0 k=>q _ t0 k H'⟩
end
section
open PySem.Builtin PySem.Builtin.Str
theorem slice1 (x:Str) (i:Nat) (h:i < x.length):Txt.slice (Txt.slice x (some i) (some ((i + 1:Nat):Int))++(" " : Str)) none (some (-1))=⟨((x.cps.toList.drop i).take 1).toArray⟩:=by
 rw [slice_ij x i (i + 1) (by exact Nat.le_add_right _ _) (by exact ‹_›),Nat.add_sub_cancel_left]
 have hl:((x.cps.toList.drop i).take 1).length=1:=by
  have:x.cps.toList.length=x.length:=by rw [Array.length_toList]; rfl
  rw [List.length_take,List.length_drop]; lia
 have e:((⟨((x.cps.toList.drop i).take 1).toArray⟩:Str)++(" " : Str))=⟨((x.cps.toList.drop i).take 1++[32]).toArray⟩:=by
  show (⟨_++_⟩:Str)=_
  congr 1
  apply Array.toList_inj.mp
  rw [Array.toList_append]
  rfl
 rw [e,slice_m1 _ 1 (by show (List.toArray _).size=_; rw [List.size_toArray,Zw,hl]; rfl)]
 congr 1
 rw [List.take_append_of_le_length (by exact Nat.le_of_eq hl.symm),List.take_of_length_le (by exact Nat.le_of_eq hl)]
theorem b16 (name:Str) (cd pm kwd v u:Value):bindArgs (fdF 16 name cd pm kwd) ⟨[v,u],[]⟩=pure [(("n" : Str),v),(("what" : Str),u)]:=by rfl
structure NamesX (mg mb:Str→Option Value):Prop where
 ty0:mg "type" = none
 ty1:mb "type" = some (.type "type")
 in0:mg "int" = none
 in1:mb "int" = some (.type "int")
 bo0:mg "bool" = none
 bo1:mb "bool" = some (.type "bool")
 n0:mg "len" = none
 n1:mb "len" = some (.builtin "len")
theorem index_call {g} {t} {u:Value}
  (rm:Rm A (n + 1)) (hfr:Frs A fr) (al:Alive H0 (adr fr) h) (bs:Bs H0 mg mb) (low:∀ a o,H0.get? a=some o→h.get? a=some o) (hf:Fn H0 f (fdF 16 name cd pm kwd)) (NX:NamesX mg mb) (hk:k≤1000)
  (hR:∀ h' t' t1,Kp (adr fr) [] h h'→R (.ok (.ret (.int k t1))) (sh g t' h')) :
  codeAny (model P w) A (.call (.ref f) ⟨[.int k t0,u],[]⟩) R (sh g t h):=by
 refine s_enterQ bs low hf hfr al rm.room rfl (fun _ _ q=>by rw [b16]; exact Yn q) fun env A' h₁ t₁ QQ EE ee hA qr qn H hF=>?_
 subst ee
 generalize h.objs.size=L at H hF ⊢
 refine s_cons ?_
 intro _ q1 _
 refine Zh (isTrue_and (Yg (s_type1 bs H.low NX.ty0 NX.ty1 (s_ld H (call_type_of (x:=.int k t0) (Tx := "int") (typeIs_int _ _ _) (by decide) (s_bname bs H.low NX.in0 NX.in1 (wpAny_isNot_plain (by rfl) (Yi ?_))))))))
 rw [if_neg (by decide),if_neg (by decide)]
 refine Ym (q1 _ ?_)
 refine s_cons ?_
 intro _ q1 _
 refine Yq (s_type1 bs H.low NX.in0 NX.in1 (s_ld H (call_int_int ?_)))
 refine s_st H fun h₂ t2 H2=>q1 _ ?_
 refine s_cons ?_
 intro _ q1 _
 refine Zh (isTrue_or (Yg (s_ld H2 (s_ci fun _ _=>PySem.P.gt_int (Yi ?_)))))
 rw [if_neg (by simp; lia)]
 refine isTrue_or (Yg (s_ld H2 (wpAny_UnaryOp (s_ci fun _ _=>PySem.P.neg_int (PySem.P.lt_int (Yi ?_))))))
 rw [if_neg (by simp<;>lia)]
 refine isTrue_or_nil ?_
 rw [if_neg (by decide)]
 refine Ym (q1 _ (Yh (Zd (s_ld H2 (qr _ _ (hR h₂ _ _ H2.kp))))))
end
noncomputable abbrev SioA (t1 t2 t3:Tok) (buf:Str) (pos:Nat):List (Str×Value):=[("_StringIO__newline",.str "\n" t1),("_StringIO__buf",.str buf t2),("_StringIO__pos",.int pos t3)]
noncomputable def SioP (buf:Str) (pos:Nat):OP:=fun o=>E3 fun t1 t2 t3=>AtP (SioA t1 t2 t3 buf pos) o
theorem SioP.at' {pos:Nat} (x:Is h dx (SioP buf pos)):E3 fun t1 t2 t3=>Is h dx (AtP (SioA t1 t2 t3 buf pos)):=by obtain ⟨o,e,t1,t2,t3,r⟩:=x; exact ⟨t1,t2,t3,o,e,r⟩
structure SioK (K:Frag) (CI:Addr):Prop where
 k:ClsK K CI true
 a1:findIn K (.ref CI) "_StringIO__newline" = some none
 a2:findIn K (.ref CI) "_StringIO__buf" = some none
 a3:findIn K (.ref CI) "_StringIO__pos" = some none
noncomputable def sioF (CI x dx:Addr) (buf:Str) (pos:Nat):Fs:=[(x,InP CI dx #[]),(dx,SioP buf pos)]
theorem bCK (name qual:Str) (cd pm v:Value):bindArgs (mdF 22 3 name qual cd pm .none) ⟨[v],[]⟩=pure [(("self" : Str),v)]:=by rfl
theorem check_call {g} {x:Addr} {t} {pos:Nat}
  (rm:Rm A (n + 1)) (hfr:Frs A fr) (al:Alive H0 (adr fr) h) (bs:Bs H0 mg mb) (low:∀ a o,H0.get? a=some o→h.get? a=some o) (hf:Fn H0 f (mdF 22 3 name qual cd pm .none)) (X0:K.In H0) (sk:SioK K CI)
  (M:Lump H0 (adr fr) h (sioF CI x dx buf pos)) (hR:∀ h' t',Kp (adr fr) [] h h'→R (.ok (.ret .none)) (sh g t' h')) :
  codeAny (model P w) A (.call (.ref f) ⟨[.ref x],[]⟩) R (sh g t h):=by
 refine s_enterQ bs low hf hfr al rm.room rfl (fun _ _ q=>by rw [bCK]; exact Yn q) fun env A' h1 t₁ QQ EE ee hA qr qn H hF=>?_
 subst ee
 generalize h.objs.size=L at H hF ⊢
 have ob:∀ y∈sioF CI x dx buf pos,Is h1 y.1 y.2:=fun y hy=>H.old ⟨M.has y hy,M.nf y hy⟩
 have oX:Is h1 x (InP CI dx #[]):=ob _ Yc
 obtain ⟨u1,u2,u3,oD⟩:=SioP.at' (ob (dx,SioP buf pos) (Yr (i:=1) rfl))
 refine s_cons ?_
 intro _ q1 _
 refine Zh (Yg (s_attr sk.k (X0.keeps H.low) sk.a2 oX oD (fun Q q=>s_ld H q) rfl rfl fun t₂=>Zg (is_none (Yi ?_))))
 rw [if_neg (by simp)]
 exact Ym (q1 _ (Ym (qn _ (hR h1 _ H.kp))))
theorem bRD {g} {t} {u:Value} {v0:Value} (hd:Is h dt (TupP [v0])) (Q:List (Str×Value)→Shared→Prop) (E:Value→Shared→Prop)
 (hq:Q [("self",v),("size",u)] (sh g t h)):wpAny (model P w) A (bindArgs (mdF 22 25 name qual cd pm (.ref dt)) ⟨[v,u],[]⟩) Q E (sh g t h):=by
 obtain ⟨o,ho,n,rfl⟩:=hd
 exact wl1 ho hq (by kernel_rfl)
noncomputable def chAt (buf:Str) (pos:Nat):Str:=⟨((buf.cps.toList.drop pos).take 1).toArray⟩
theorem chAt_end {pos:Nat} (h:buf.length≤pos):chAt buf pos=⟨#[]⟩:=by
 unfold chAt
 rw [List.drop_of_length_le (by rw [Array.length_toList]; exact h)]; rfl
structure ReadK (H0:Heap) (K:Frag) (mg:Str→Option Value) (CI:Addr):Prop where
 ix:E5 fun f name cd pm kwd=>mg "_index" = some (.ref f)∧Fn H0 f (fdF 16 name cd pm kwd)
 ck:E5 fun f name qual cd pm=>MethK K CI "_StringIO__check" f∧Fn H0 f (mdF 22 3 name qual cd pm .none)
noncomputable def read_call_S:Prop:=∀ {A:Around} {fr:List Env} {g} {K:Frag} {CI x dx:Addr} {R:Result→Shared→Prop} {h:Heap} {t} {f:Addr} {name qual:Str} {cd pm:Value} {dt:Addr} {v0:Value} {buf:Str} {pos n:Nat} {tz:Tok} (rm:Rm A (n + 2)) (hfr:Frs A fr) (al:Alive H0 (adr fr) h) (bs:Bs H0 mg mb) (low:∀ a o,H0.get? a=some o→h.get? a=some o) (hf:Fn H0 f (mdF 22 25 name qual cd pm (.ref dt))) (hdt:Is H0 dt (TupP [v0])) (X0:K.In H0) (sk:SioK K CI) (NX:NamesX mg mb) (RK:ReadK H0 K mg CI) (hz:buf.length≤9000) (hp:pos≤buf.length) (M:Lump H0 (adr fr) h (sioF CI x dx buf pos)) (hR:∀ h' t' tc,Step (adr fr) h (sioF CI x dx buf pos) h' (sioF CI x dx buf (if pos < buf.length then pos + 1 else pos))→R (.ok (.ret (.str (chAt buf pos) tc))) (sh g t' h')),codeAny (model P w) A (.call (.ref f) ⟨[.ref x,.int 1 tz],[]⟩) R (sh g t h)
end
namespace read_call
def zq0:=fun zk0=>(by
 intro A fr g K CI x dx R h t f name qual cd pm dt v0 buf pos n tz rm hfr al bs low hf hdt X0 sk NX RK hz hp M hR
 refine s_enterQ bs low hf hfr al rm.room rfl (fun Q E q=>bRD (hdt.at fun o e=>low _ _ e) Q E q) fun env A' h1 t₁ QQ EE ee hA qr qn H hF=>?_
 have rm':Rm A' (n + 1):=hA ▸ rm.deeper env
 clear hA
 subst ee
 generalize h.objs.size=L at H hF ⊢
 obtain ⟨fi,ni,ci,pi,ki,hi,hfi⟩:=RK.ix
 obtain ⟨fc,nc,qc,cc,pc,MC,hfc⟩:=RK.ck
 have H1:St H0 h (adr fr) [x,dx] L _ (sioF CI x dx buf pos++[]) h1:=H.own M
 revert rm hfr al bs low hf hdt X0 sk NX RK hz hp M hR qr qn rm' H hF hi hfi MC hfc H1
 have zd0:Nat:=0
 have zd1:Nat:=0
 have zd2:Nat:=0
 revert A fr g K CI x dx R h f name qual cd pm dt v0 buf pos n tz A' h1 t₁ QQ EE L fi ni ci pi ki fc nc qc cc pc zd0 zd1 zd2
 exact zk0:read_call_S)
namespace zp0
@[irreducible] def zc:=pick39 zq0 (by (repeat any_goals apply np)<;>first | exact neW | exact neA | exact neD | exact neS | infer_instance | exact ⟨by constructor<;>exact default⟩)
def A:=zc.1.1
def fr:=zc.1.2.1
def g:=zc.1.2.2.1
def K:=zc.1.2.2.2.1
def CI:=zc.1.2.2.2.2.1
def x:=zc.1.2.2.2.2.2.1
def dx:=zc.1.2.2.2.2.2.2
def R:=zc.2.1.1
def h:=zc.2.1.2.1
def f:=zc.2.1.2.2.1
def name:=zc.2.1.2.2.2.1
def qual:=zc.2.1.2.2.2.2.1
def cd:=zc.2.1.2.2.2.2.2.1
def pm:=zc.2.1.2.2.2.2.2.2
def dt:=zc.2.2.1.1
def v0:=zc.2.2.1.2.1
def buf:=zc.2.2.1.2.2.1
def pos:=zc.2.2.1.2.2.2.1
def n:=zc.2.2.1.2.2.2.2.1
def tz:=zc.2.2.1.2.2.2.2.2.1
def A':=zc.2.2.1.2.2.2.2.2.2
def h1:=zc.2.2.2.1.1
def t₁:=zc.2.2.2.1.2.1
def QQ:=zc.2.2.2.1.2.2.1
def EE:=zc.2.2.2.1.2.2.2.1
def L:=zc.2.2.2.1.2.2.2.2.1
def fi:=zc.2.2.2.1.2.2.2.2.2.1
def ni:=zc.2.2.2.1.2.2.2.2.2.2
def ci:=zc.2.2.2.2.1.1
def pi:=zc.2.2.2.2.1.2.1
def ki:=zc.2.2.2.2.1.2.2.1
def fc:=zc.2.2.2.2.1.2.2.2.1
def nc:=zc.2.2.2.2.1.2.2.2.2.1
def qc:=zc.2.2.2.2.1.2.2.2.2.2.1
def cc:=zc.2.2.2.2.1.2.2.2.2.2.2
def pc:=zc.2.2.2.2.2.1
def zd0:=zc.2.2.2.2.2.2.1
def zd1:=zc.2.2.2.2.2.2.2.1
def zd2:=zc.2.2.2.2.2.2.2.2
def zq :=
 all39 zq0 A fr g K CI x dx R h f name qual cd pm dt v0 buf pos n tz A' h1 t₁ QQ EE L fi ni ci pi ki fc nc qc cc pc zd0 zd1 zd2 (by with_unfolding_all rfl) (by
 intro rm hfr al bs low hf hdt X0 sk NX RK hz hp M hR qr qn rm' H hF hi hfi MC hfc H1
 refine s_cons ?_
 intro _ q1 _
 refine Zh (Yg (s_ld H1 (Zg (is_none (Yi ?_)))))
 rw [if_neg (by simp)]
 refine Ym (q1 _ ?_)
 clear q1
 refine s_cons ?_
 intro _ q1 _
 refine Yq (s_call2 bs H1.low hi hfi (s_ld H1 (Zo ⟨H1.low,?_⟩)))
 refine index_call (n:=n) (k:=1) rm' hF H1.al bs H1.low hfi NX (by decide) fun h₂ t₂ ti K2=>?_
 refine s_st (H1.call K2) fun h3 t₃ H3=>q1 _ ?_
 clear q1
 obtain ⟨u1,u2,u3,D3⟩:=SioP.at' (H3.at (i:=1) rfl)
 refine s_cons ?_
 intro _ q1 _
 refine wpAny_Expr_any (s_meth0 sk.k (X0.keeps H3.low) MC hfc (H3.at (i:=0) rfl) D3 rfl (fun Q q=>s_ld H3 q) H3.low ?_)
 refine check_call (n:=n) rm' hF H3.al bs H3.low hfc X0 sk H3.lump fun h4 t4 K4=>?_
 have H4:=H3.call K4
 refine q1 _ ?_
 clear q1 H3 D3 H1 H
 obtain ⟨u1,u2,u3,D4⟩:=SioP.at' (H4.at (i:=1) rfl)
 refine s_cons ?_
 intro _ q1 _
 refine Yq (s_attr sk.k (X0.keeps H4.low) sk.a3 (H4.at (i:=0) rfl) D4 (fun Q q=>s_ld H4 q) rfl rfl fun t5=>?_)
 refine s_st H4 fun h6 t6 H6=>q1 _ ?_
 clear q1 D4 H4
 obtain ⟨u1,u2,u3,D6⟩:=SioP.at' (H6.at (i:=1) rfl)
 refine s_cons ?_
 intro _ q1 _
 refine Yq (Zb (s_bname bs H6.low NX.n0 NX.n1 (PySem.callWith_builtin1 ?_)))
 refine s_attr sk.k (X0.keeps H6.low) sk.a2 (H6.at (i:=0) rfl) D6 (fun Q q=>s_ld H6 q) rfl rfl fun t7=>?_
 refine PySem.P.len_str (by lia) ?_
 refine s_st H6 fun h8 t8 H8=>q1 _ ?_
 clear q1 D6 H6
 refine s_cons ?_
 intro _ q1 q2
 refine Zh (Yg (s_ld H8 (s_ld H8 (PySem.P.ge_int (Yi ?_)))))
 by_cases hlt:pos < buf.length
 ·rw [if_neg (by simp; exact hlt)]
  refine Ym (q1 _ ?_)
  clear q1 q2
  rw [if_pos hlt] at hR
  refine s_cons ?_
  intro Q3 q3 _
  have fin:∀ h9 t9 ts l,St H0 h (adr fr) [x,dx] L l (sioF CI x dx buf pos++[]) h9→l.lookup ("self" : Str)=some (.ref x)→(∃ tt,l.lookup ("start" : Str)=some (.int (pos:Nat) tt))→l.lookup ("stop" : Str)=some (.int ((pos + 1:Nat):Int) ts)→Q3 .next (sh g t9 h9):=by
   intro h9 t9 ts l H9 m1 m2 m3
   obtain ⟨tt,m2⟩:=m2
   obtain ⟨u1,u2,u3,D9⟩:=SioP.at' (H9.at (i:=1) rfl)
   refine q3 _ ?_
   refine s_cons ?_
   intro _ q4 _
   refine Yl (s_ld H9 (s_ld H9 (i_set sk.k (X0.keeps H9.low) (taker_none sk.a3) (H9.at (i:=0) rfl) D9 (Yw (by rfl)) fun h' t' i' k'=>q4 _ ?_) (hv:=m1)) (hv:=m3))
   have H10:St H0 h (adr fr) [x,dx] L l (sioF CI x dx buf (pos + 1)++[]) h':=H9.upd 1 rfl k' (p':=SioP buf (pos + 1)) (i'.mono fun o q=>⟨u1,u2,ts,q⟩)
   obtain ⟨u1,u2,u3,D10⟩:=SioP.at' (H10.at (i:=1) rfl)
   have zl:(Txt.slice buf (some pos) (some ((pos + 1:Nat):Int))).length≤9000:=Ye (Txt.slice_le _ _ _) hz
   have z2:(Txt.slice buf (some pos) (some ((pos + 1:Nat):Int))++(" " : Str)).length≤10000:=by rw [size_cat]; show _ + 1≤_; exact Nat.lt_of_le_of_lt ‹_› (by decide)
   refine Yh (Zd (s_slS _ H10 z2 ?_))
   refine wpAny_BinOp (s_slS buf H10 (by exact Ye hz (by decide)) ?_)
   refine s_attr sk.k (X0.keeps H10.low) sk.a2 (H10.at (i:=0) rfl) D10 (fun Q q=>s_ld H10 q (hv:=m1)) rfl rfl fun t11=>⟨_,rfl,evalPart_some_step (s_ld H10 (evalPart_some_step (s_ld H10 ⟨some (pos,tt),some (((pos + 1:Nat):Int),ts),_,_,rfl,rfl,rfl,H10,fun h12 t0 t12 H12=>?_⟩ (hv:=m3))) (hv:=m2))⟩
   refine Zo (PySem.SB.add (fun ty ky=>⟨ty,rfl,evalPart_none_step (evalPart_some_step (wpAny_UnaryOp (s_ci fun _ _=>PySem.P.neg_int ⟨none,some (-1,_),_,_,rfl,rfl,rfl,H12,fun h13 tc t13 H13=>?_⟩)))⟩) ?_)
   ·simp only [Option.map_some,Option.map_none]
    rw [slice1 buf pos hlt]
    exact qr _ _ (hR h13 _ _ (St.toStep (G:=sioF CI x dx buf pos) (R:=[]) H13 fun b hb=>hb))
   ·exact Ye (by rw [size_cat] at z2; exact z2) (by decide)
  refine Zh (isTrue_and (Yg (s_ld H8 (s_ci fun _ _=>PySem.P.ge_int (Yi ?_)))))
  rw [if_pos (by decide)]
  refine isTrue_and (Yg (wpAny_BinOp (s_ld H8 (s_ld H8 (PySem.P.add_int (s_ld H8 (PySem.P.lt_int (Yi ?_))))))))
  by_cases h2:pos + 1 < buf.length
  ·rw [if_pos (by simp; exact Int.ofNat_le.mpr ‹_›)]
   refine isTrue_and_nil ?_
   rw [if_pos rfl]
   refine s_cons ?_
   intro _ q4 _
   refine Yq (wpAny_BinOp (s_ld H8 (s_ld H8 (PySem.P.add_int (s_st H8 fun h9 t9 H9=>q4 _ (Ym ?_))))))
   exact fin _ _ _ _ H9 (by rfl) ⟨_,by rfl⟩ (by rfl)
  ·rw [if_neg (by simp; lia),if_neg Yk]
   refine Ym ?_
   have e:buf.length=pos + 1:=by exact Nat.le_antisymm (Nat.le_of_not_lt ‹_›) ‹_›
   exact fin _ _ _ _ H8 (by rfl) ⟨_,by rfl⟩ (by rw [← e]; rfl)
 ·rw [if_pos (by simp; exact Nat.le_of_not_lt ‹_›)]
  have e:=chAt_end (buf:=buf) (pos:=pos) (by exact Nat.le_of_not_lt ‹_›)
  have hr:=hR h8 (t8 + 1) t8
  rw [if_neg hlt,e] at hr
  refine Yh (Zd (Zo (q2 _ _ (qr _ _ (hr (St.toStep (G:=sioF CI x dx buf pos) (R:=[]) H8 fun b hb=>hb)))))))
end zp0
end read_call
section
variable {A:Around} {B:Heap} {X':List Addr} {fr:List Env} {g:Array GenState} {K:Frag} {CI CL:Addr} {E:Value→Shared→Prop} {env:Env} {x:Str} {dx:Addr} {name qual:Str} {cd pm:Value} {R:Result→Shared→Prop} {Q:Value→Shared→Prop} {pos:Pos} {e:Expr} {cp:Pos} {fs:Addr} {tk:Str} {wss:Bool} {x1:Nat} {com y:Str} {pl:Sem Bool} {CT CB:Addr} {sl:Array (Option Value)} {dt pb:Addr} {st:Option Str} {sx C CO:Addr} {apos:Pos} {sdx:Addr} {buf:Str} {a f:Addr} {F:Fs} {n:Nat} {l:List (Str×Value)} {vs:List Value} {v:Value} {s:Shared} {h' h:Heap} {t:Nat}
theorem read_call:read_call_S:=@Wr.out _ read_call.zp0.zq
structure IoCls (h:Heap) (CI CT CO:Addr):Prop where
 i:E3 fun d c s=>h.get? CI=some ⟨.type "type",d,.cls c,s⟩∧c.mro=[.ref CI,.ref CT,.ref CO,.type "object"]∧c.bases=[.ref CT]∧c.slotNames=[]∧(s[4]?).join=some .none∧c.abstract=false∧c.hasDel=false
 t:E3 fun d c s=>h.get? CT=some ⟨.type "type",d,.cls c,s⟩∧c.mro=[.ref CT,.ref CO,.type "object"]∧c.bases=[.ref CO]∧c.slotNames=[]∧(s[4]?).join=some .none
 o:E3 fun d c s=>h.get? CO=some ⟨.type "type",d,.cls c,s⟩∧c.mro=[.ref CO,.type "object"]∧c.bases=[.type "object"]∧c.slotNames=[]∧(s[4]?).join=some .none
theorem IoCls.keeps (x:IoCls h CI CT CO) (k:∀ b o,h.get? b=some o→h'.get? b=some o):IoCls h' CI CT CO where
 i:=by obtain ⟨d,c,s,e,r⟩:=x.i; exact ⟨d,c,s,k _ _ e,r⟩
 t:=by obtain ⟨d,c,s,e,r⟩:=x.t; exact ⟨d,c,s,k _ _ e,r⟩
 o:=by obtain ⟨d,c,s,e,r⟩:=x.o; exact ⟨d,c,s,k _ _ e,r⟩
structure SioN (K:Frag) (CI:Addr):Prop where
 s1:mroIn K CI (.ref CI)=some true
 s2:mroIn K CI (.type "object")=some true
 cl:specialIn K (.ref CI) "__call__" = some (some (.builtin "type.__call__"))
 ins:instIn K (.ref CI) (.type "type")=some true
 rd:readsIn K CI (.type "type")=true
theorem new_S (x:IoCls h CI CT CO)
  (hq:R (.ok (.ret (.ref (h.objs.size + 1)))) (sh g t ((h.push emptyDict).push (instObj CI h.objs.size)))) :
  codeAny (model P w) A (.call (.builtin "object.__new__") ⟨[.ref CI],[]⟩) R (sh g t h):=by
 obtain ⟨d1,c1,s1,e,e1,e2,e3,e4,e5,e6⟩:=x.i
 obtain ⟨d2,c2,s2,f,f1,f2,f3,f4⟩:=x.t
 obtain ⟨d3,c3,s3,k,k1,k2,k3,k4⟩:=x.o
 have e:=clsAt e e1 e2 e3 e4 e5 e6
 have f:=clsAt f f1 f2 f3 f4 rfl rfl
 have k:=clsAt k k1 k2 k3 k4 rfl rfl
 rw [← Heap.size_push h emptyDict] at hq
 have e':((h.push emptyDict).push (instObj CI h.objs.size)).get? CI=some _:=Yv _ (Yv _ e)
 refine codeAny_call_builtin_code (Code.quiet_builtin _ PySem.F.objNew.quiet) (wm_tab [_,_,_] [0,0,0,0,0,0,1,1,2,2,1,1,1,2,2,2,2,2] (r:=()) (s':=(sh g t h)) (asT e (asT f (asT k asN))) ?_ (by kernel_rfl))
 refine codeAny_builtin PySem.F.objNew.entry (wm_tab [_,_,_,_] [0,0,0,0,0,1,1,2,2,1,1,1,2,2,2,2,2,0,3] (r:=.done (.ret (.ref (h.push emptyDict).objs.size))) (s':=(sh g t ((h.push emptyDict).push (instObj CI h.objs.size)))) (asT e (asT f (asT k (asT e' asN)))) ?_ (by kernel_rfl))
 exact hq
theorem bNW {g} {x:Value} {t} (Q:List (Str×Value)→Shared→Prop) (E:Value→Shared→Prop)
 (hq:Q [("cls",x),("args",.ref h.objs.size),("kwargs",.ref (h.push { cls:=.type "tuple",data:=.seq [v].toArray }).objs.size)] (sh g t ((h.push { cls:=.type "tuple",data:=.seq [v].toArray }).push { cls:=.type "dict",data:=.dict #[] }))):wpAny (model P w) A (bindArgs (mdF 18 1 name qual cd pm .none) ⟨[x,v],[]⟩) Q E (sh g t h):=by
 have e:bindArgs (mdF 18 1 name qual cd pm .none) ⟨[x,v],[]⟩=newTuple [v] >>= fun tv=>alloc { cls:=.type "dict",data:=.dict #[] } >>= fun d=>pure [(("cls" : Str),x),("args",tv),("kwargs",.ref d)]:=by kernel_rfl
 rw [e]
 exact Yd (wpAny_newObj_type (Yd (wpAny_alloc (Yn hq))) (by show 1≤sizeLine; decide))
structure IoTop (H0:Heap) (mg mb:Str→Option Value) (K:Frag) (CI CT CO CB:Addr):Prop where
 ic:IoCls H0 CI CT CO
 n:SioN K CI
 gb:mg "BytesIO" = some (.ref CB)
 gs:mg "StringIO" = some (.ref CI)
 o0:mg "object" = none
 o1:mb "object" = some (.type "object")
 b:∃ o,H0.get? CB=some o∧o.cls≠.type "tuple"
 ne:CI≠CB
 top:H0.get? (H0.objs.size - 1)≠none
 ob:findCls K (.type "object") (.type "type") "__new__" = some (.val (.builtin "object.__new__"))
theorem ionew_call {g} {t}
  (rm:Rm A (n + 1)) (hfr:Frs A fr) (al:Alive H0 (adr fr) h) (bs:Bs H0 mg mb) (low:∀ a o,H0.get? a=some o→h.get? a=some o) (hf:Fn H0 f (mdF 18 1 name qual cd pm .none)) (X0:K.In H0) (T:IoTop H0 mg mb K CI CT CO CB)
  (hR:∀ h' t' x dx,Kp (adr fr) [] h h'→h.get? x=none→h.get? dx=none→x≠dx→Is h' x (InP CI dx #[])→Is h' dx (AtP [])→R (.ok (.ret (.ref x))) (sh g t' h')) :
  codeAny (model P w) A (.call (.ref f) ⟨[.ref CI,v],[]⟩) R (sh g t h):=by
 have kk:∀ b o,h.get? b=some o→((h.push { cls:=.type "tuple",data:=.seq [v].toArray }).push { cls:=.type "dict",data:=.dict #[] }).get? b=some o:=fun b o e=>Yv _ (Yv _ e)
 refine s_enterVQ bs low hf hfr al rm.room rfl (h':=(h.push { cls:=.type "tuple",data:=.seq [v].toArray }).push { cls:=.type "dict",data:=.dict #[] }) (a:=h.objs.size) (p:=fun _=>True) kk (Yy (Zf _)) ⟨_,Yv _ (Heap.get?_push_size _ rfl),trivial⟩ (fun Q E q=>bNW Q E q) fun env A' h1 t1 QQ EE ee hA qr qn H1 hF=>?_
 clear hA
 subst ee
 have hL:H0.objs.size≤((h.push { cls:=.type "tuple",data:=.seq [v].toArray }).push { cls:=.type "dict",data:=.dict #[] }).objs.size:=by
  obtain ⟨o,e⟩:=Option.ne_none_iff_exists'.mp T.top
  exact Nat.le_of_pred_lt (Heap.lt_size (kk _ _ (low _ _ e)))
 generalize ((h.push { cls:=.type "tuple",data:=.seq [v].toArray }).push { cls:=.type "dict",data:=.dict #[] }).objs.size=L at H1 hF hL ⊢
 obtain ⟨dI,cI,sI,eI,_⟩:=T.ic.i
 obtain ⟨oB,eB,nB⟩:=T.b
 refine s_cons ?_
 intro _ q1 _
 refine Zh (isTrue_and (Yg (s_ld H1 (s_gname bs H1.low T.gb (wpAny_isNot_ref_other T.ne (H1.low _ _ eI) (H1.low _ _ eB) (by simp) (Yi ?_))))))
 rw [if_pos rfl]
 refine isTrue_and (Yg (s_ld H1 (s_gname bs H1.low T.gs (wpAny_isNot_ref_self (Yi ?_)))))
 rw [if_neg Yk,if_neg Yk]
 refine Ym (q1 _ ?_)
 refine s_cons ?_
 intro _ q1 q2
 refine Zd (MethodCall_ (s_bname bs H1.low T.o0 T.o1 ?_) (by rfl))
 have F0:Fr H0 L h1 _:=⟨H1.lo,H1.low,hL⟩
 apply method_type F0 X0
 ·kernel_rfl
 ·kernel_rfl
 ·exact T.ob
 ·rfl
 refine callWith_builtin rfl (Zx (Yz (s_ld H1 (Zn (wpAny_call (new_S (T.ic.keeps H1.low) ?_))))))
 have H2:=H1.push emptyDict (p:=AtP []) ⟨#[],_,rfl,fun e he=>absurd he (by simp),List.Pairwise.nil,fun _=>rfl⟩
 have H3:=H2.push (instObj CI h1.objs.size) (p:=InP CI h1.objs.size #[]) rfl
 dsimp only
 rw [← Heap.size_push h1 emptyDict]
 refine q2 _ _ (qr _ _ (hR _ _ _ _ H3.kp (H3.fresh (i:=0) rfl) (H3.fresh (i:=1) rfl) (H3.ne (i:=0) (j:=1) rfl rfl (by decide)) (H3.at (i:=0) rfl) (H3.at (i:=1) rfl)))
structure NamesY (mg mb:Str→Option Value):Prop where
 ty0:mg "type" = none
 ty1:mb "type" = some (.type "type")
 s0:mg "str" = none
 s1:mb "str" = some (.type "str")
 i0:mg "isinstance" = none
 i1:mb "isinstance" = some (.builtin "isinstance")
 l0:mg "list" = none
 l1:mb "list" = some (.type "list")
theorem bTL (name qual:Str) (cd pm v u:Value):bindArgs (mdF 22 2 name qual cd pm .none) ⟨[v,u],[]⟩=pure [(("self" : Str),v),(("s" : Str),u)]:=by rfl
theorem transl_call {g} {x:Addr} {t} {pos:Nat}
  (rm:Rm A (n + 1)) (hfr:Frs A fr) (al:Alive H0 (adr fr) h) (bs:Bs H0 mg mb) (low:∀ a o,H0.get? a=some o→h.get? a=some o) (hf:Fn H0 f (mdF 22 2 name qual cd pm .none)) (X0:K.In H0) (sk:SioK K CI)
  (M:Lump H0 (adr fr) h (sioF CI x dx buf pos)) (hR:∀ h' t',Kp (adr fr) [] h h'→R (.ok (.ret v)) (sh g t' h')) :
  codeAny (model P w) A (.call (.ref f) ⟨[.ref x,v],[]⟩) R (sh g t h):=by
 refine s_enterQ bs low hf hfr al rm.room rfl (fun _ _ q=>by rw [bTL]; exact Yn q) fun env A' h1 t1 QQ EE ee hA qr qn H hF=>?_
 subst ee
 generalize h.objs.size=L at H hF ⊢
 have ob:∀ y∈sioF CI x dx buf pos,Is h1 y.1 y.2:=fun y hy=>H.old ⟨M.has y hy,M.nf y hy⟩
 have oX:Is h1 x (InP CI dx #[]):=ob _ Yc
 obtain ⟨u1,u2,u3,oD⟩:=SioP.at' (ob (dx,SioP buf pos) (Yr (i:=1) rfl))
 refine s_cons ?_
 intro _ q1 _
 refine Yq (s_attr sk.k (X0.keeps H.low) sk.a1 oX oD (fun Q q=>s_ld H q) rfl rfl fun t2=>s_st H fun h2 t3 H2=>q1 _ ?_)
 refine s_cons ?_
 intro _ q1 _
 refine Zh (Yg (s_ld H2 (Zg (is_none (Yi ?_)))))
 rw [if_neg (by simp)]
 refine Ym (q1 _ ?_)
 refine s_cons ?_
 intro _ q1 _
 refine Zh (isTrue_or (Yg (s_ld H2 (Zo (PySem.P.eq_str (Yi ?_))))))
 rw [if_neg (by decide)]
 refine isTrue_or (Yg (s_ld H2 (Zo (PySem.P.eq_str (Yi ?_)))))
 rw [if_neg (by decide)]
 refine isTrue_or_nil ?_
 rw [if_neg Yk]
 refine Ym (q1 _ (Yh (Zd (s_ld H2 (qr _ _ (hR h2 _ H2.kp))))))
theorem bSI {g} {x:Value} {t} {ta tb:Tok} (hd:Is h dt (TupP [.str "" ta,.str "\n" tb])) (Q:List (Str×Value)→Shared→Prop) (E:Value→Shared→Prop)
 (hq:Q [("self",x),("initial_value",v),("newline",.str "\n" tb)] (sh g t h)):wpAny (model P w) A (bindArgs (mdF 22 1 name qual cd pm (.ref dt)) ⟨[x,v],[]⟩) Q E (sh g t h):=by
 obtain ⟨o,ho,n,rfl⟩:=hd
 exact wl1 ho hq (by kernel_rfl)
theorem sioinit_call {g} {x:Addr} {t} {ft:Addr} {nt qt:Str} {ct pt:Value} {ta tb tv:Tok}
  (rm:Rm A (n + 2)) (hfr:Frs A fr) (al:Alive H0 (adr fr) h) (bs:Bs H0 mg mb) (low:∀ a o,H0.get? a=some o→h.get? a=some o) (hf:Fn H0 f (mdF 22 1 name qual cd pm (.ref dt))) (hdt:Is H0 dt (TupP [.str "" ta,.str "\n" tb])) (X0:K.In H0) (sk:SioK K CI) (NY:NamesY mg mb)
  (MT:MethK K CI "_StringIO__translated" ft) (hft:Fn H0 ft (mdF 22 2 nt qt ct pt .none))
  (M:Lump H0 (adr fr) h [(x,InP CI dx #[]),(dx,AtP [])]) (hR:∀ h' t',Step (adr fr) h [(x,InP CI dx #[]),(dx,AtP [])] h' (sioF CI x dx buf 0)→R (.ok (.ret .none)) (sh g t' h')) :
  codeAny (model P w) A (.call (.ref f) ⟨[.ref x,.str buf tv],[]⟩) R (sh g t h):=by
 refine s_enterQ bs low hf hfr al rm.room rfl (fun Q E q=>bSI (hdt.at fun o e=>low _ _ e) Q E q) fun env A' h1 t1 QQ EE ee hA qr qn H0' hF=>?_
 have rm':Rm A' (n + 1):=hA ▸ rm.deeper env
 clear hA
 subst ee
 generalize h.objs.size=L at H0' hF ⊢
 have H:St H0 h (adr fr) [x,dx] L _ ([(x,InP CI dx #[]),(dx,AtP [])]++[]) h1:=H0'.own M
 refine s_cons ?_
 intro _ q1 _
 refine Zh (isTrue_and (Yg (s_ld H (Zg (isNot_none (Yi ?_))))))
 rw [if_pos (by simp)]
 refine isTrue_and (Yg (s_type1 bs H.low NY.ty0 NY.ty1 (s_ld H (call_type_of (x:=.str "\n" tb) (Tx := "str") (typeIs_str _ _ _) (by decide) (s_bname bs H.low NY.s0 NY.s1 (wpAny_isNot_plain (by rfl) (Yi ?_)))))))
 rw [if_neg (by decide),if_neg Yk]
 refine Ym (q1 _ ?_)
 refine s_cons ?_
 intro _ q1 _
 refine Zh (isTrue_and (Yg (s_ld H (Zg (isNot_none (Yi ?_))))))
 rw [if_pos (by simp)]
 refine isTrue_and (Yg (s_ld H (Zo (PySem.P.ne_str (Yi ?_)))))
 rw [if_pos (by decide)]
 refine isTrue_and (Yg (s_ld H (Zo (PySem.P.ne_str (Yi ?_)))))
 rw [if_neg (by decide),if_neg Yk]
 refine Ym (q1 _ ?_)
 refine s_cons ?_
 intro _ q1 _
 refine Zh (isTrue_and (Yg (s_ld H (Zg (isNot_none (Yi ?_))))))
 rw [if_pos (by simp)]
 refine isTrue_and (Yg (s_type1 bs H.low NY.ty0 NY.ty1 (s_ld H (call_type_of (x:=.str buf tv) (Tx := "str") (typeIs_str _ _ _) (by decide) (s_bname bs H.low NY.s0 NY.s1 (wpAny_isNot_plain (by rfl) (Yi ?_)))))))
 rw [if_neg (by decide),if_neg Yk]
 refine Ym (q1 _ ?_)
 clear q1 H0'
 refine s_cons ?_
 intro _ q1 _
 refine Yl (s_ld H (s_ld H (i_set sk.k (X0.keeps H.low) (taker_none sk.a1) (H.at (i:=0) rfl) (H.at (i:=1) rfl) (Yw (by rfl)) fun h2 t2 i2 k2=>q1 _ ?_)))
 have H2:=H.upd 1 rfl k2 (p':=AtP [("_StringIO__newline",.str "\n" tb)]) i2
 clear q1 H i2 k2
 refine s_cons ?_
 intro _ q1 _
 refine Yl (Zo (s_ld H2 (i_set sk.k (X0.keeps H2.low) (taker_none sk.a2) (H2.at (i:=0) rfl) (H2.at (i:=1) rfl) (Yw (by rfl)) fun h3 t3 i3 k3=>q1 _ ?_)))
 have H3:=H2.upd 1 rfl k3 (p':=AtP [("_StringIO__newline",.str "\n" tb),("_StringIO__buf",.str "" t2)]) i3
 clear q1 H2 i3 k3
 refine s_cons ?_
 intro _ q1 _
 refine Yl (s_ci fun tp _=>(s_ld H3 (i_set sk.k (X0.keeps H3.low) (taker_none sk.a3) (H3.at (i:=0) rfl) (H3.at (i:=1) rfl) (Yw (by rfl)) fun h4 t4 i4 k4=>q1 _ ?_)))
 have H4:=H3.upd 1 rfl k4 (p':=SioP "" 0) (i4.mono fun o q=>⟨tb,t2,tp,q⟩)
 clear q1 H3 i4 k4
 replace H4:St H0 h (adr fr) [x,dx] L _ (sioF CI x dx "" 0++[]) h4:=H4
 refine s_cons ?_
 intro _ q1 _
 refine Zh (Yg (s_ld H4 (Zg (isNot_none (Yi ?_)))))
 rw [if_pos (by simp)]
 refine s_cons ?_
 intro _ q2 _
 obtain ⟨u1,u2,u3,D4⟩:=SioP.at' (H4.at (i:=1) rfl)
 refine Yl (s_meth1 sk.k (X0.keeps H4.low) MT hft (H4.at (i:=0) rfl) D4 rfl (fun Q q=>s_ld H4 q) (s_ld H4 ⟨H4.low,?_⟩))
 refine transl_call (n:=n) rm' hF H4.al bs H4.low hft X0 sk H4.lump fun h5 t5 K5=>?_
 have H5:=H4.call K5
 obtain ⟨u1,u2,u3,D5⟩:=SioP.at' (H5.at (i:=1) rfl)
 refine s_ld H5 (i_set sk.k (X0.keeps H5.low) (taker_none sk.a2) (H5.at (i:=0) rfl) D5 (Yw (by rfl)) fun h6 t6 i6 k6=>q2 _ (Ym (q1 _ (Ym (qn _ (hR h6 _ ?_))))))
 have H6:=H5.upd 1 rfl k6 (p':=SioP buf 0) (i6.mono fun o q=>⟨u1,tv,u3,q⟩)
 exact St.toStep (G:=[(x,InP CI dx #[]),(dx,AtP [])]) (G':=sioF CI x dx buf 0) (R:=[]) H6 fun b hb=>hb
structure IoNew (H0:Heap) (mg mb:Str→Option Value) (K:Frag) (CI CT CO CB:Addr):Prop extends IoTop H0 mg mb K CI CT CO CB where
 nw:E7 fun p f rest name qual cd pm=>findCls K (.ref CI) (.type "type") "__new__" = some (.get (.builtin "staticmethod.__get__") (.ref p) .none (.ref CI))∧recIn K p "staticmethod" = some (.ref f::rest)∧Fn H0 f (mdF 18 1 name qual cd pm .none)
theorem s_makeS {F l} {fI:Addr}
  (rm:Rm A (n + 2)) (hfr:Frs A (env::fr)) (he:env.frame=some env.locals) (bs:Bs H0 mg mb) (X0:K.In H0) (T:IoNew H0 mg mb K CI CT CO CB) (MI:MethK K CI "__init__" fI) (H:St H0 B (adr fr) X' env.locals l F h)
  (q:∀ x dx h' t',h.get? x=none→h.get? dx=none→St H0 B (adr fr) X' env.locals l ((x,InP CI dx #[])::(dx,AtP [])::F) h' →
   codeAny (model P w) (A.under (mkC CI [v] [])) (.call (.ref fI) ⟨[.ref x,v],[]⟩) (InitBack x (back Q E)) (sh g t' h')) :
  wpAny (model P w) A (call (.ref CI) [v]) Q E (sh g t h):=by
 have ea:adr (env::fr)=env.locals::adr fr:=by show List.filterMap _ _=_; rw [List.filterMap_cons,he]
 have X:=X0.keeps H.low
 obtain ⟨pS,fN,rest,name,qual,cd',pm,nw1,nw2,hfn⟩:=T.nw
 obtain ⟨od,cd,sl,hC,e1,e2,e3,e4,e5,e6⟩:=(T.ic.keeps H.low).i
 have made:Looks (model P w) h (Bind.madeBy (.ref CI)) none:=fun A Q E s k q=>wm_tab [_] [0,0] (asT (k _ _ (clsAt hC e1 e2 e3 e4 e5 e6)) asN) q (by kernel_rfl)
 have call:Looks (model P w) h (specialOf (.ref CI) "__call__") (some (.builtin "type.__call__")):=looks_specialIn X T.n.cl
 have typ:Looks (model P w) h (isInstance (.ref CI) (.type "type")) true:=looks_instIn X T.n.ins
 refine wpAny_call ?_
 refine codeAny_of_tree ?_
 show wpAny _ _ (callAny (.ref CI) _) _ _ _
 refine nd_load hC ?_
 show wpAny _ _ (callAny.viaDunder (.ref CI) _) _ _ _
 unfold callAny.viaDunder
 refine Yd (call.at ?_)
 dsimp only
 rw [tc_bind]
 refine Yd (Yn (Yd (Yn ?_)))
 refine Yn (a:=Fin.again (.call (.builtin "type.__call__") ⟨[.ref CI,v],[]⟩)) (And.intro rfl ?_)
 refine codeAny_call_builtin_at (Code.quiet_builtin _ (by decide +kernel)) entry_typeCall (check_slot tc_kind tc_split typ (tc_args _ _ _) ?_)
 unfold Builtin.«type.__call__»
 have e1':cd.mro.isEmpty=false:=by rw [e1]; rfl
 have hm:Looks (model P w) h (mroOf (.ref CI)) cd.mro:=((Looks.ld (part:=none) hC).andThen .now).andThen .now
 iterate 9 (first | simp only [e1',Bool.false_eq_true,if_false] | lk)
 apply cls_bind X T.n.rd nw1
 refine wpAny_call (sm_get X nw2 ?_)
 refine handed_on rfl ?_
 have al':Alive H0 (adr (env::fr)) h:=by rw [ea]; exact H.al
 refine Yd (wpAny_holding (wpAny_call ?_))
 refine ionew_call (n:=n) (rm.under CI [v] []) (hfr.under CI [v] []) al' bs H.low hfn X0 T.toIoTop fun h' t' x dx K n1 n2 nxd ix idx=>?_
 rw [ea] at K
 have H1:=(H.call K).put (H.notOld n2) (H.al.notIn n2) (fun hm=>by
  obtain ⟨y,hy,e⟩:=Yx.mp hm
  obtain ⟨o,ho,_⟩:=H.has y hy
  rw [e,n2] at ho; cases ho) (none_of fun o e=>by have:=H.low _ _ e; rw [n2] at this; cases this) idx
 have H2:=H1.put (H.notOld n1) (H.al.notIn n1) (fun hm=>by
  rcases Yu.mp hm with e | hm
  ·exact nxd e
  obtain ⟨y,hy,e⟩:=Yx.mp hm
  obtain ⟨o,ho,_⟩:=H.has y hy
  rw [e,n1] at ho; cases ho) (none_of fun o e=>by have:=H.low _ _ e; rw [n1] at this; cases this) ix
 have X':=X0.keeps H2.low
 obtain ⟨ox,eox,rfl⟩:=ix
 have tx:Looks (model P w) h' (typeOf (.ref x)) (.ref CI):=(Looks.ld eox).andThen .now
 have sx:Looks (model P w) h' (isSubtype (.ref CI) (.ref CI)) true:=looks_mroIn X' T.n.s1
 have hi:=looks_findIn (M:=model P w) X' MI.fa
 have hb:=bind_fn (M:=model P w) X' (.ref x) MI.ty
 unfold isInstance callSpecial? specialOf
 repeat (first | with_reducible refine wpAny_call ?_ | lk)
 refine codeAny_mono (q x dx h' t' n1 n2 H2) fun r s' z=>?_
 rcases r with e | (v | _ | _ | _)<;>first | exact z | exact z.elim | skip
 obtain ⟨rfl,z⟩:=z
 exact Yn (Yn z)
noncomputable def deqObj:Obj:={ cls:=.type "collections.deque",data:=.fields #[.none,rawInt 0] }
noncomputable def DeqP:OP:=fun o=>o=deqObj
theorem deq_slot_init:Slot "collections.deque" "__init__" "collections.deque.__init__" :=
 .of (owner := "collections.deque") (n := "__init__") (by rw [typeLookup_type,builtinLookup_eq_fast]; kernel_rfl) (by decide +kernel) (by decide +kernel) (by decide +kernel)
  (by first | exact .inl (by decide +kernel) | exact .inr (by decide +kernel)) (by rw [isSubtype_type]; kernel_rfl)
theorem deq_slot_len:Slot "collections.deque" "__len__" "collections.deque.__len__" :=
 .of (owner := "collections.deque") (n := "__len__") (by rw [typeLookup_type,builtinLookup_eq_fast]; kernel_rfl) (by decide +kernel) (by decide +kernel) (by decide +kernel)
  (by first | exact .inl (by decide +kernel) | exact .inr (by decide +kernel)) (by rw [isSubtype_type]; kernel_rfl)
theorem deq_mro:mroOf (.type "collections.deque")=pure [.type "collections.deque",.type "object"]:=by rw [mroOf_type]; kernel_rfl
theorem deq_new:typeLookup (.type "collections.deque") "__new__" = pure (some (.builtin "collections.deque.__new__")):=by rw [typeLookup_type,builtinLookup_eq_fast]; kernel_rfl
theorem deq_bool:typeLookup (.type "collections.deque") "__bool__" = pure none:=by rw [typeLookup_type,builtinLookup_eq_fast]; kernel_rfl
theorem deq_sub:isSubtype (.type "collections.deque") (.type "collections.deque")=pure true:=by rw [isSubtype_type]; kernel_rfl
theorem deq_called:TypeCalled "collections.deque" "collections.deque.__new__" "collections.deque.__init__" :=
 ⟨by decide +kernel,by decide +kernel,⟨_,_,deq_mro⟩,madeBy_type deq_mro deq_new (by decide +kernel),by decide +kernel,by rw [isSubtype_type]; kernel_rfl,deq_slot_init⟩
theorem deq_entry_new:entryFor table "collections.deque.__new__" = some Builtin.«collections.deque.__new__» := entryFor_of_tree (by kernel_rfl)
theorem deq_entry_init:entryFor table "collections.deque.__init__" = some Builtin.«collections.deque.__init__» := entryFor_of_tree (by kernel_rfl)
theorem deq_entry_len:entryFor table "collections.deque.__len__" = some Builtin.«collections.deque.__len__» := entryFor_of_tree (by kernel_rfl)
theorem deq_typeCall:checkTypeCall "collections.deque" ⟨[],[]⟩=pure ():=by kernel_rfl
theorem deq_newCall:checkBuiltinCall "collections.deque.__new__" ⟨[.type "collections.deque"],[]⟩=pure ():=by kernel_rfl
theorem deq_owner:Manifest.owners.lookup (String.ofList ['e','u','q','e','d','.','s','n','o','i','t','c','e','l','l','o','c'].reverse)=some Manifest.sig_collections_deque:=by kernel_rfl
theorem deq_args_init (v:Value):argsOk "collections.deque.__init__" ⟨[v],[]⟩:=by
 unfold argsOk; rw [signature?_of (id := "collections.deque.__init__") (n:=['_', '_', 't', 'i', 'n', 'i', '_', '_']) (o:=['e','u','q','e','d','.','s','n','o','i','t','c','e','l','l','o','c']) (by kernel_rfl) deq_owner]; kernel_rfl
theorem deq_args_len (v:Value):argsOk "collections.deque.__len__" ⟨[v],[]⟩:=by
 unfold argsOk; rw [signature?_of (id := "collections.deque.__len__") (n:=['_', '_', 'n', 'e', 'l', '_', '_']) (o:=['e','u','q','e','d','.','s','n','o','i','t','c','e','l','l','o','c']) (by kernel_rfl) deq_owner]; kernel_rfl
theorem deq_plain_new:plainId "collections.deque.__new__" = true:=by decide +kernel
theorem s_deque
  (q:∀ h' t',(∀ b o,h.get? b=some o→h'.get? b=some o)→h.get? h.objs.size=none→Is h' h.objs.size DeqP→h'.objs.size=h.objs.size + 1→Q (.ref h.objs.size) (sh g t' h')) :
  wpAny (model P w) A (call (.type "collections.deque") []) Q E (sh g t h):=by
 have hS:(h.push deqObj).get? h.objs.size=some deqObj:=Heap.get?_push_size h rfl
 refine callType_codes (Q₁:=fun obj s1=>obj=.ref h.objs.size∧s1=(sh g t (h.push deqObj))) deq_called deq_typeCall deq_entry_init ?_ ?_
 ·refine codeAny_call_builtin deq_plain_new deq_entry_new (wpAny_of_eq deq_newCall ?_)
  exact wm_tab [] [] (r:=.done (.ret (.ref h.objs.size))) (s':=(sh g t (h.push deqObj))) asN ⟨rfl,rfl⟩ (by kernel_rfl)
 ·rintro obj s1 ⟨rfl,rfl⟩
  refine ⟨⟨_,hS,rfl⟩,deq_args_init _,?_⟩
  have hS2:=Heap.get?_update_self (Obj.mapFields fun (x:Array Value)=>x.setIfInBounds 0 Value.none) hS rfl
  refine wm_tab [_,_] [0,0,1] (r:=.done (.ret .none)) (s':=(sh g t ((h.push deqObj).update h.objs.size (Obj.mapFields fun (x:Array Value)=>x.setIfInBounds 0 Value.none)))) (asT hS (asT hS2 asN)) ?_ (by kernel_rfl)
  refine ⟨rfl,q _ _ (fun b o e=>?_) (Yy (Zf _)) ⟨_,hS2,rfl⟩ ?_⟩
  ·exact (Zm _ _ (Ne.symm (Nat.ne_of_lt (Heap.lt_size e)))).trans (Yv _ e)
  ·rw [Heap.size_update]; exact Heap.size_push _ _
theorem s_deqFalse {Q:Bool→Shared→Prop} (ho:Is h a DeqP)
  (q:∀ t',Q false (sh g t' h)) :
  wpAny (model P w) A (truthy (.ref a)) Q E (sh g t h):=by
 obtain ⟨o,e,rfl⟩:=ho
 have hT:∀ t',Shared.TypeIs (sh g t' h) (.ref a) "collections.deque" := fun _=>⟨_,e,rfl⟩
 have key:wpAny (model P w) A (runValue (.builtin "len" ⟨[.ref a],[]⟩)) (fun r s'=>∃ t',r=.int 0 t'∧Q false s') E (sh g t h):=by
  refine wpAny_runValue (codeAny_builtin entry_len ?_)
  rw [Around.under_plainId plain_len _]
  unfold Builtin.«len»
  refine Yd (m:=oneArg "len" _) (Yn ?_)
  refine Yd (m:=callSpecial? (.ref a) (Str.ofString "__len__")) (wpAny_callSpecial?_slot (name:=Str.ofString "__len__") (hT _) deq_slot_len
   (wpAny_call_entry deq_slot_len (hT _) deq_entry_len ?_ (deq_args_len _)))
  unfold Builtin.«collections.deque.__len__» Builtin.Deque.size
  repeat lk
  refine ⟨_,rfl,Yd (wpAny_holding (Yn ?_))⟩
  refine Yd (wpAny_letGo ?_)
  show wpAny _ _ (if ((0:Nat):Int) < 0 then _ else _) _ _ _
  rw [if_neg (by exact by decide)]
  show wpAny _ _ (if ((0:Nat):Int)≥2 ^ 63 then _ else _) _ _ _
  rw [if_neg (by exact by decide)]
  exact Yd (wpAny_mkInt (Yn ⟨_,rfl,q _⟩))
 unfold truthy
 refine Yd (wpAny_callSpecial?_none (name:=Str.ofString "__bool__") (hT _) deq_bool ?_)
 refine Yd (wpAny_specialOf (name:=Str.ofString "__len__") (hT _) deq_slot_len.lookup ?_)
 exact Yd (Ze key (fun r s' h'=>by obtain ⟨t',rfl,hq⟩:=h'; exact Yn hq) fun _ _ e=>e)
structure LxS where
 st:Option Str
 tk:Str
 q:Bool
 e:Str
noncomputable def lxWs:Str := " \t\r\n"
noncomputable def lxQu:Str := "'\""
noncomputable def lxEs:Str := "\\"
noncomputable def lxEq:Str := "\""
noncomputable def lxW:Str:=("abcdfeghijklmnopqrstuvwxyzABCDEFGHIJKLMNOPQRSTUVWXYZ0123456789_" : Str)++("ßàáâãäåæçèéêëìíîïðñòóôõöøùúûüýþÿÀÁÂÃÄÅÆÇÈÉÊËÌÍÎÏÐÑÒÓÔÕÖØÙÚÛÜÝÞ" : Str)
noncomputable def lxStep (s:LxS) (c:Str):Option (Bool×LxS) :=
 if c = "\n" then none else
 match s.st with
 | none=>some (false,⟨none, "",s.q,s.e⟩)
 | some st =>
  if st = " " then
   if c = "" then some (false,⟨none,s.tk,s.q,s.e⟩)
   else if Txt.contains lxWs c then none
   else if Txt.contains "" c then none
   else if Txt.contains lxEs c then some (true,⟨some c,s.tk,s.q, "a"⟩)
   else if Txt.contains lxW c then some (true,⟨some "a",c,s.q,s.e⟩)
   else if Txt.contains lxQu c then some (true,⟨some c,s.tk,s.q,s.e⟩)
   else none
  else if Txt.contains lxQu st then
   if c = "" then none
   else if c=st then some (true,⟨some "a",s.tk,true,s.e⟩)
   else if Txt.contains lxEs c && Txt.contains lxEq st then some (true,⟨some c,s.tk,true,st⟩)
   else some (true,⟨some st,s.tk++c,true,s.e⟩)
  else if Txt.contains lxEs st then
   if c = "" then none
   else if Txt.contains lxQu s.e && (decide (c≠st) && decide (c≠s.e)) then none
   else some (true,⟨some s.e,s.tk++c,s.q,s.e⟩)
  else if st = "a" then
   if c = "" then some (false,⟨none,s.tk,s.q,s.e⟩)
   else if Txt.contains lxWs c then (if decide (s.tk ≠ "") || s.q then some (false,⟨some " ",s.tk,s.q,s.e⟩) else none)
   else if Txt.contains "" c then none
   else if Txt.contains lxQu c then some (true,⟨some c,s.tk,s.q,s.e⟩)
   else if Txt.contains lxEs c then some (true,⟨some c,s.tk,s.q, "a"⟩)
   else some (true,⟨some "a",s.tk++c,s.q,s.e⟩)
  else none
noncomputable def lxRun:List Nat→LxS→Option (LxS×List Nat)
 | [],s=>match lxStep s ⟨#[]⟩ with
  | some (false,s')=>some (s',[])
  | _=>none
 | x::r,s=>match lxStep s ⟨#[x]⟩ with
  | some (false,s')=>some (s',r)
  | some (true,s')=>lxRun r s'
  | none=>none
noncomputable def lxRes (s:LxS):Option Str:=if !s.q && decide (s.tk = "") then none else some s.tk
noncomputable def stV:Option Str→Tok→Value
 | none,_=>.none
 | some s,t=>.str s t
noncomputable def lexA (T:Nat→Tok) (sx pb fs:Addr) (com:Str) (wss:Bool) (st:Option Str) (tk:Str):List (Str×Value) :=
 [("instream",.ref sx),("infile",.none),("posix",.bool true),("eof",.none),("commenters",.str com (T 4)),("wordchars",.str lxW (T 5)),("whitespace",.str lxWs (T 6)),("whitespace_split",.bool wss),("quotes",.str lxQu (T 8)),("escape",.str lxEs (T 9)),("escapedquotes",.str lxEq (T 10)),("state",stV st (T 11)),("pushback",.ref pb),("lineno",.int 1 (T 13)),("debug",.int 0 (T 14)),("token",.str tk (T 15)),("filestack",.ref fs),("source",.none),("_punctuation_chars",.str "" (T 18))]
noncomputable def upd (T:Nat→Tok) (i:Nat) (t:Tok):Nat→Tok:=fun j=>if j=i then t else T j
noncomputable def LexP (sx pb fs:Addr) (com:Str) (wss:Bool) (st:Option Str) (tk:Str):OP:=fun o=>∃ T,AtP (lexA T sx pb fs com wss st tk) o
theorem LexP.at' (x:Is h dx (LexP sx pb fs com wss st tk)):∃ T,Is h dx (AtP (lexA T sx pb fs com wss st tk)):=by obtain ⟨o,e,T,r⟩:=x; exact ⟨T,o,e,r⟩
section
variable (T:Nat→Tok) (sx pb fs:Addr) (com:Str) (wss:Bool) (st:Option Str) (tk:Str)
theorem lex_putSt (s:Option Str) (t:Tok):put (lexA T sx pb fs com wss st tk) "state" (stV s t)=lexA (upd T 11 t) sx pb fs com wss s tk:=by cases s<;>kernel_rfl
theorem lex_putTk (s:Str) (t:Tok):put (lexA T sx pb fs com wss st tk) "token" (.str s t)=lexA (upd T 15 t) sx pb fs com wss st s:=by kernel_rfl
theorem lex_putCo (s:Str) (t:Tok):put (lexA T sx pb fs com wss st tk) "commenters" (.str s t)=lexA (upd T 4 t) sx pb fs s wss st tk:=by kernel_rfl
theorem lex_putWs (b:Bool):put (lexA T sx pb fs com wss st tk) "whitespace_split" (.bool b)=lexA T sx pb fs com b st tk:=by kernel_rfl
end
noncomputable def lexF (CL CI x dx sx sdx pb fs:Addr) (com:Str) (wss:Bool) (st:Option Str) (tk:Str) (buf:Str) (pos:Nat):Fs :=
 [(x,InP CL dx #[]),(dx,LexP sx pb fs com wss st tk),(sx,InP CI sdx #[]),(sdx,SioP buf pos),(pb,DeqP),(fs,DeqP)]
structure LexK (K:Frag) (H0:Heap) (CL:Addr):Prop where
 k:ClsK K CL true
 a0:findIn K (.ref CL) "instream" = some none
 a1:findIn K (.ref CL) "infile" = some none
 a2:findIn K (.ref CL) "posix" = some none
 a3:findIn K (.ref CL) "eof" = some none
 a4:findIn K (.ref CL) "commenters" = some none
 a5:findIn K (.ref CL) "wordchars" = some none
 a6:findIn K (.ref CL) "whitespace" = some none
 a7:findIn K (.ref CL) "whitespace_split" = some none
 a8:findIn K (.ref CL) "quotes" = some none
 a9:findIn K (.ref CL) "escape" = some none
 a10:findIn K (.ref CL) "escapedquotes" = some none
 a11:findIn K (.ref CL) "state" = some none
 a12:findIn K (.ref CL) "pushback" = some none
 a13:findIn K (.ref CL) "lineno" = some none
 a14:findIn K (.ref CL) "debug" = some none
 a15:findIn K (.ref CL) "token" = some none
 a16:findIn K (.ref CL) "filestack" = some none
 a17:findIn K (.ref CL) "source" = some none
 a18:findIn K (.ref CL) "_punctuation_chars" = some none
 pc:E7 fun p f rest name qual cd pm=>findIn K (.ref CL) "punctuation_chars" = some (some (.ref p))∧recIn K p "property" = some (.ref f::rest)∧Fn H0 f (mdF 32 1 name qual cd pm .none)
structure LxE (H0:Heap) (mg mb:Str→Option Value) (K:Frag) (CL CI:Addr):Prop where
 bs:Bs H0 mg mb
 X0:K.In H0
 lk:LexK K H0 CL
 sk:SioK K CI
 nx:NamesX mg mb
 rk:ReadK H0 K mg CI
 rd:E7 fun f name qual cd pm dt v0=>MethK K CI "read" f∧Fn H0 f (mdF 22 25 name qual cd pm (.ref dt))∧Is H0 dt (TupP [v0])
section
variable {T:Nat→Tok}
theorem lx0:(lexA T sx pb fs com wss st tk).lookup ("instream" : Str)=some (Value.ref sx):=by kernel_rfl
theorem lx2:(lexA T sx pb fs com wss st tk).lookup ("posix" : Str)=some (Value.bool true):=by kernel_rfl
theorem lx3:(lexA T sx pb fs com wss st tk).lookup ("eof" : Str)=some Value.none:=by kernel_rfl
theorem lx4:(lexA T sx pb fs com wss st tk).lookup ("commenters" : Str)=some (Value.str com (T 4)):=by kernel_rfl
theorem lx5:(lexA T sx pb fs com wss st tk).lookup ("wordchars" : Str)=some (Value.str lxW (T 5)):=by kernel_rfl
theorem lx6:(lexA T sx pb fs com wss st tk).lookup ("whitespace" : Str)=some (Value.str lxWs (T 6)):=by kernel_rfl
theorem lx7:(lexA T sx pb fs com wss st tk).lookup ("whitespace_split" : Str)=some (Value.bool wss):=by kernel_rfl
theorem lx8:(lexA T sx pb fs com wss st tk).lookup ("quotes" : Str)=some (Value.str lxQu (T 8)):=by kernel_rfl
theorem lx9:(lexA T sx pb fs com wss st tk).lookup ("escape" : Str)=some (Value.str lxEs (T 9)):=by kernel_rfl
theorem lx10:(lexA T sx pb fs com wss st tk).lookup ("escapedquotes" : Str)=some (Value.str lxEq (T 10)):=by kernel_rfl
theorem lx11:(lexA T sx pb fs com wss st tk).lookup ("state" : Str)=some (stV st (T 11)):=by kernel_rfl
theorem lx12:(lexA T sx pb fs com wss st tk).lookup ("pushback" : Str)=some (Value.ref pb):=by kernel_rfl
theorem lx14:(lexA T sx pb fs com wss st tk).lookup ("debug" : Str)=some (Value.int 0 (T 14)):=by kernel_rfl
theorem lx15:(lexA T sx pb fs com wss st tk).lookup ("token" : Str)=some (Value.str tk (T 15)):=by kernel_rfl
theorem lx16:(lexA T sx pb fs com wss st tk).lookup ("filestack" : Str)=some (Value.ref fs):=by kernel_rfl
theorem lx17:(lexA T sx pb fs com wss st tk).lookup ("source" : Str)=some Value.none:=by kernel_rfl
theorem lx18:(lexA T sx pb fs com wss st tk).lookup ("_punctuation_chars" : Str)=some (Value.str "" (T 18)):=by kernel_rfl
theorem lxP:(lexA T sx pb fs com wss st tk).lookup ("punctuation_chars" : Str)=none:=by kernel_rfl
end
theorem stV_in (st:Option Str) (t:Tok):handedIn (stV st t)=true:=by cases st<;>rfl
noncomputable def nxt (buf:Str) (pos:Nat):Nat:=if pos < buf.length then pos + 1 else pos
section
variable {x:Addr}
theorem s_methT {args:List Expr} (k:ClsK K C true) (X:K.In h) (M:MethK K C name f) (I:Is h x (InP C dx sl)) (D:Is h dx (AtP l)) (hv:l.lookup name=none) (e1:∀ Q:Value→Shared→Prop,(∀ t',Q (.ref x) (sh g t' h))→wpAny (model P w) A (eval e env) Q E (sh g t h))
  (q:∀ t',wpAny (model P w) A (callWith pos (.ref f) [.ref x] (backTo pos (starEach args env)) []) Q E (sh g t' h))
  (he:autoParam (eval (.Call (.Attribute e name apos) args [] pos) env=(do
   let ov ← eval e env
   standAt apos.atName
   let (f,first) ← holding [ov] (getMethod ov name pl)
   callWith pos f first (backTo pos (starEach args env)) [])) tR):wpAny (model P w) A (eval (.Call (.Attribute e name apos) args [] pos) env) Q E (sh g t h) :=
 MethodCall_ (e1 _ fun t'=>i_meth k X M.fa M.ty I D hv (q t')) he
end
theorem bPC (name qual:Str) (cd pm v:Value):bindArgs (mdF 32 1 name qual cd pm .none) ⟨[v],[]⟩=pure [(("self" : Str),v)]:=by rfl
theorem punct_call {g} {x:Addr} {t} {pos:Nat}
  (rm:Rm A (n + 1)) (hfr:Frs A fr) (al:Alive H0 (adr fr) h) (L:LxE H0 mg mb K CL CI) (low:∀ a o,H0.get? a=some o→h.get? a=some o) (hf:Fn H0 f (mdF 32 1 name qual cd pm .none))
  (M:Lump H0 (adr fr) h (lexF CL CI x dx sx sdx pb fs com wss st tk buf pos)) (hR:∀ h' t' tc,Kp (adr fr) [] h h'→R (.ok (.ret (.str "" tc))) (sh g t' h')) :
  codeAny (model P w) A (.call (.ref f) ⟨[.ref x],[]⟩) R (sh g t h):=by
 refine s_enterQ L.bs low hf hfr al rm.room rfl (fun _ _ q=>by rw [bPC]; exact Yn q) fun env A' h1 t1 QQ EE ee hA qr qn H hF=>?_
 subst ee
 generalize h.objs.size=Lo at H hF ⊢
 obtain ⟨T,oD⟩:=LexP.at' (H.old ⟨M.has (dx,LexP sx pb fs com wss st tk) (Yr (i:=1) rfl),M.nf _ (Yr (i:=1) rfl)⟩)
 refine Yh (Zd (s_attr L.lk.k (L.X0.keeps H.low) L.lk.a18 (H.old ⟨M.has _ Yc,M.nf _ Yc⟩) oD (fun Q q=>s_ld H q) lx18 rfl fun t2=>qr _ _ (hR h1 _ _ H.kp)))
section
variable {p:Addr}
theorem pr_ty (h:recIn K p "property" = some vs):typeIn K (.ref p)=some (.type "property"):=by
 cases q:K.lookup p with
 | none=>rw [recIn,q] at h; cases h
 | some o =>
  rw [recIn,q] at h
  obtain ⟨c,d,dt,s⟩:=o
  cases c
  case type n =>
   cases dt
   case fields ws =>
    have h:(if n == "property" then some ws.toList else none)=some vs:=h
    show (K.lookup p).map (·.cls)=_
    rw [q]
    by_cases z:(n == "property")=true
    ·rw [beq_iff_eq.mp z]; rfl
    ·rw [if_neg z] at h; cases h
   all_goals exact nS h
  all_goals exact nS h
theorem lk_pr_get:findIn K (.type "property") "__get__" = some (some (.builtin "property.__get__")):=by show fastLookup _ _=_; kernel_rfl
theorem lk_pr_set:∃ v,findIn K (.type "property") "__set__" = some (some v):=⟨.builtin "property.__set__",by show fastLookup _ _=_; kernel_rfl⟩
theorem pr_get (h:recIn K p "property" = some vs):specialIn K (.ref p) "__get__" = some (some (.builtin "property.__get__")):=by unfold specialIn; rw [pr_ty h,Option.bind_some]; exact lk_pr_get
theorem pr_takes (h:recIn K p "property" = some vs):takesIn K (.ref p)=some true:=by
 obtain ⟨v,e⟩:=lk_pr_set (K:=K)
 unfold takesIn specialIn
 rw [pr_ty h]
 simp only [Option.bind_some,e]
end
section
variable {x:Addr} {R:Fs} {pos:Nat}
theorem s_lx {ap np:Pos} {v:(Nat→Tok)→Value} (L:LxE H0 mg mb K CL CI) (H:St H0 B (adr fr) X' env.locals l (lexF CL CI x dx sx sdx pb fs com wss st tk buf pos++R) h) (hl:l.lookup ("self" : Str)=some (.ref x)) (hn:findIn K (.ref CL) name=some none)
  (hv:∀ T,(lexA T sx pb fs com wss st tk).lookup name=some (v T)) (hh:∀ T,handedIn (v T)=true) (q:∀ T t',Q (v T) (sh g t' h))
  (hk:autoParam (env.scope.kind=.function) tR) (hlo:autoParam (env.kindOf "self" = some .local) tR)
  (he:autoParam (eval (.Attribute (.Name "self" np) name ap) env=(do
   let o ← eval (.Name "self" np) env
   standAt ap.atName
   let r ← holding [o] (getAttr o name true)
   letTemporaryGo (.Name "self" np) o r
   pure r)) tU):wpAny (model P w) A (eval (.Attribute (.Name "self" np) name ap) env) Q E (sh g t h):=by
 obtain ⟨T,oD⟩:=LexP.at' (H.at (i:=1) rfl)
 exact s_attr L.lk.k (L.X0.keeps H.low) hn (H.at (i:=0) rfl) oD (fun Q q=>s_ld H q hl hk hlo) (hv T) (hh T) (q T) he
theorem s_setSt {Q:Unit→Shared→Prop} (L:LxE H0 mg mb K CL CI) (H:St H0 B (adr fr) X' env.locals l (lexF CL CI x dx sx sdx pb fs com wss st tk buf pos++R) h) (s':Option Str) (tt:Tok)
  (q:∀ h' t',St H0 B (adr fr) X' env.locals l (lexF CL CI x dx sx sdx pb fs com wss s' tk buf pos++R) h'→Q () (sh g t' h')):wpAny (model P w) A (setAttr (.ref x) "state" (stV s' tt)) Q E (sh g t h):=by
 obtain ⟨T,oD⟩:=LexP.at' (H.at (i:=1) rfl)
 refine i_set L.lk.k (L.X0.keeps H.low) (taker_none L.lk.a11) (H.at (i:=0) rfl) oD (Yw (by rfl)) fun h' t' i' k'=>q _ _ ?_
 exact H.upd 1 rfl k' (p':=LexP sx pb fs com wss s' tk) (i'.mono fun o z=>⟨_,by rw [lex_putSt] at z; exact z⟩)
theorem s_setTk {tk':Str} {tt:Tok} {Q:Unit→Shared→Prop} (L:LxE H0 mg mb K CL CI) (H:St H0 B (adr fr) X' env.locals l (lexF CL CI x dx sx sdx pb fs com wss st tk buf pos++R) h)
  (q:∀ h' t',St H0 B (adr fr) X' env.locals l (lexF CL CI x dx sx sdx pb fs com wss st tk' buf pos++R) h'→Q () (sh g t' h')):wpAny (model P w) A (setAttr (.ref x) "token" (.str tk' tt)) Q E (sh g t h):=by
 obtain ⟨T,oD⟩:=LexP.at' (H.at (i:=1) rfl)
 refine i_set L.lk.k (L.X0.keeps H.low) (taker_none L.lk.a15) (H.at (i:=0) rfl) oD (Yw (by rfl)) fun h' t' i' k'=>q _ _ ?_
 exact H.upd 1 rfl k' (p':=LexP sx pb fs com wss st tk') (i'.mono fun o z=>⟨_,by rw [lex_putTk] at z; exact z⟩)
theorem s_punct {ap np:Pos} (rm:Rm A (n + 2)) (hF:Frs A (env::fr)) (he':env.frame=some env.locals) (L:LxE H0 mg mb K CL CI) (H:St H0 B (adr fr) X' env.locals l (lexF CL CI x dx sx sdx pb fs com wss st tk buf pos++R) h) (hl:l.lookup ("self" : Str)=some (.ref x))
  (q:∀ h' t' tc,St H0 B (adr fr) X' env.locals l (lexF CL CI x dx sx sdx pb fs com wss st tk buf pos++R) h'→Q (.str "" tc) (sh g t' h'))
  (hk:autoParam (env.scope.kind=.function) tR) (hlo:autoParam (env.kindOf "self" = some .local) tR)
  (he:autoParam (eval (.Attribute (.Name "self" np) "punctuation_chars" ap) env=(do
   let o ← eval (.Name "self" np) env
   standAt ap.atName
   let r ← holding [o] (getAttr o "punctuation_chars" true)
   letTemporaryGo (.Name "self" np) o r
   pure r)) tU):wpAny (model P w) A (eval (.Attribute (.Name "self" np) "punctuation_chars" ap) env) Q E (sh g t h):=by
 have ea:adr (env::fr)=env.locals::adr fr:=by show List.filterMap _ _=_; rw [List.filterMap_cons,he']
 obtain ⟨p,f,rest,name,qual,cd,pm,p1,p2,hf⟩:=L.lk.pc
 have X:=L.X0.keeps H.low
 obtain ⟨o1,e1,rfl⟩:=H.at (i:=0) rfl
 obtain ⟨oD,eD,aD⟩:=H.at (i:=1) rfl
 have I:Is h x (InP CL dx #[]):=⟨_,e1,rfl⟩
 refine Attribute_any_ (s_ld H ?_ hl hk hlo) he
 obtain ⟨cdd,hc,_,_⟩:=L.lk.k.cd
 refine get_bind (s:=(sh g t h)) X (I.inst eD) L.lk.k.ga (g:=.builtin "property.__get__") (a:=.ref p) ?_ L.lk.k.gk ?_
 ·exact bind_to hc (bind_to p1 (bind_to (pr_get p2) (bind_to (pr_takes p2) rfl)))
 refine wpAny_call (prop_get (s:=(sh g (t + 1) h)) X p2 ?_)
 refine punct_call (n:=n) rm.in1 (fr:=env::fr) hF (by rw [ea]; exact H.al) L H.low hf (by rw [ea]; exact H.lump) fun h' t' tc Kp=>?_
 rw [ea] at Kp
 exact handed_on rfl (q _ _ _ (H.call Kp))
end
noncomputable def rtWhile:Expr×List Stmt×List Stmt:=match (mtp 32 6).2.1[2]? with
 | some s=>stWh s
 | none=>(default,[],[])
theorem s_consB {st:Stmt} {rest:List Stmt} {Q:Flow→Shared→Prop} (k:∀ Q':Flow→Shared→Prop,(∀ s',wpAny (model P w) A (execs rest env) Q E s'→Q' .next s')→(∀ s',Q .brk s'→Q' .brk s')→(∀ s',Q .cont s'→Q' .cont s')→wpAny (model P w) A (exec st env) Q' E s):wpAny (model P w) A (execs (st::rest) env) Q E s:=Yh (k _ (fun _ x=>x) (fun _ x=>x) (fun _ x=>x))
theorem str_eqb (x y:Str):(x.cps.toList == y.cps.toList)=decide (x=y):=by
 by_cases q:x=y
 ·subst q; simp
 ·rw [decide_eq_false q,Zp]
  intro e
  apply q
  cases x; cases y
  simp only [Str.mk.injEq]
  exact Array.toList_inj.mp e
theorem t_eqS {t:Tok} {u:Tok} {Q:Bool→Shared→Prop} (q:Q (decide (x=y)) s):wpAny (model P w) A (compareOp .Eq (.str x t) (.str y u)) (fun c s'=>wpAny (model P w) A (truthy c) Q E s') E s :=
 PySem.P.eq_str (by rw [str_eqb]; exact Yi q)
theorem t_neS {t:Tok} {u:Tok} {Q:Bool→Shared→Prop} (q:Q (decide (x≠y)) s):wpAny (model P w) A (compareOp .NotEq (.str x t) (.str y u)) (fun c s'=>wpAny (model P w) A (truthy c) Q E s') E s :=
 PySem.P.ne_str (by
  have:(x.cps.toList != y.cps.toList)=decide (x≠y):=by
   show (!(x.cps.toList == y.cps.toList))=_
   rw [str_eqb]
   by_cases q:x=y
   ·rw [decide_eq_true q,decide_eq_false (fun z=>z q)]; rfl
   ·rw [decide_eq_false q,decide_eq_true (by exact q)]; rfl
  rw [this]; exact Yi q)
theorem t_inS {t:Tok} {u:Tok} {Q:Bool→Shared→Prop} (q:Q (Txt.contains x y) s):wpAny (model P w) A (compareOp .In (.str y u) (.str x t)) (fun c s'=>wpAny (model P w) A (truthy c) Q E s') E s :=
 PySem.SB.contains (Yi q)
theorem t_niS {t:Tok} {u:Tok} {Q:Bool→Shared→Prop} (q:Q (!Txt.contains x y) s):wpAny (model P w) A (compareOp .NotIn (.str y u) (.str x t)) (fun c s'=>wpAny (model P w) A (truthy c) Q E s') E s :=
 PySem.SB.notContains (Yi q)
theorem t_tS {tx:Tok} {Q:Bool→Shared→Prop} (hz:x.length≤10000) (q:∀ t',Q (decide (x ≠ "")) (sh g t' h)):wpAny (model P w) A (truthy (.str x tx)) Q E (sh g t h):=by
 refine PySem.P.truthy_str (by lia) ?_
 have:((x.length:Int) != 0)=decide (x ≠ ""):=by
  by_cases e:x = ""
  ·subst e; decide
  ·have:x.length≠0:=fun z=>e (by
    cases x with | mk c=>exact congrArg Str.mk (Array.eq_empty_of_size_eq_zero z))
   rw [decide_eq_true (by exact e)]
   exact bne_iff_ne.mpr (by lia)
 rw [this]
 exact q _
section
variable {x:Addr} {R:Fs} {pos:Nat}
theorem s_lxrd {ap np ap2 pos':Pos} (rm:Rm A (n + 2)) (hF:Frs A (env::fr)) (he':env.frame=some env.locals) (L:LxE H0 mg mb K CL CI) (H:St H0 B (adr fr) X' env.locals l (lexF CL CI x dx sx sdx pb fs com wss st tk buf pos++R) h) (hl:l.lookup ("self" : Str)=some (.ref x))
  (hz:buf.length≤9000) (hp:pos≤buf.length)
  (q:∀ h' t' tc,St H0 B (adr fr) X' env.locals l (lexF CL CI x dx sx sdx pb fs com wss st tk buf (nxt buf pos)++R) h'→Q (.str (chAt buf pos) tc) (sh g t' h'))
  (hk:autoParam (env.scope.kind=.function) tR) (hlo:autoParam (env.kindOf "self" = some .local) tR)
  (hs:autoParam (backTo pos' (starEach [.Constant (.int 1) 0 cp] env)=[(false,eval (.Constant (.int 1) 0 cp) env)]) tR)
  (he0:autoParam (eval (.Attribute (.Name "self" np) "instream" ap) env=(do
   let o ← eval (.Name "self" np) env
   standAt ap.atName
   let r ← holding [o] (getAttr o "instream" true)
   letTemporaryGo (.Name "self" np) o r
   pure r)) tU)
  (he:autoParam (eval (.Call (.Attribute (.Attribute (.Name "self" np) "instream" ap) "read" ap2) [.Constant (.int 1) 0 cp] [] pos') env=(do
   let ov ← eval (.Attribute (.Name "self" np) "instream" ap) env
   standAt ap2.atName
   let (f,first) ← holding [ov] (getMethod ov "read" pl)
   callWith pos' f first (backTo pos' (starEach [.Constant (.int 1) 0 cp] env)) [])) tR):wpAny (model P w) A (eval (.Call (.Attribute (.Attribute (.Name "self" np) "instream" ap) "read" ap2) [.Constant (.int 1) 0 cp] [] pos') env) Q E (sh g t h):=by
 have ea:adr (env::fr)=env.locals::adr fr:=by show List.filterMap _ _=_; rw [List.filterMap_cons,he']
 obtain ⟨f,name,qual,cd,pm,dt,v0,MR,hf,hdt⟩:=L.rd
 obtain ⟨u1,u2,u3,D⟩:=SioP.at' (H.at (i:=3) rfl)
 refine s_methT L.sk.k (L.X0.keeps H.low) MR (H.at (i:=2) rfl) D (by rfl) (fun Q q=>s_lx L H hl L.lk.a0 (fun _=>lx0) (fun _=>rfl) (fun _ t'=>q t') hk hlo he0) (fun t1=>?_) he
 rw [hs]
 refine s_fcall hf (Zx (Yz (s_ci fun ti t2=>Zn ⟨H.low,?_⟩)))
 have H1:St H0 B (adr fr) X' env.locals l (sioF CI sx sdx buf pos++([(x,InP CL dx #[]),(dx,LexP sx pb fs com wss st tk),(pb,DeqP),(fs,DeqP)]++R)) h:=H.perm (Zi (l₁:=[(x,InP CL dx #[]),(dx,LexP sx pb fs com wss st tk)]) (l₂:=sioF CI sx sdx buf pos) |>.append_right ([(pb,DeqP),(fs,DeqP)]++R))
 refine read_call (n:=n) rm hF (by rw [ea]; exact H1.al) L.bs H1.low hf hdt L.X0 L.sk L.nx L.rk hz hp (by rw [ea]; exact H1.lump) fun h' t' tc S=>?_
 rw [ea] at S
 have H2:=H1.step S
 exact q _ _ _ (H2.perm (Zi (l₂:=[(x,InP CL dx #[]),(dx,LexP sx pb fs com wss st tk)]) (l₁:=sioF CI sx sdx buf (nxt buf pos)) |>.append_right ([(pb,DeqP),(fs,DeqP)]++R)))
end
structure RtL (l:List (Str×Value)) (x:Addr) (q:Bool) (e:Str):Prop where
 s:l.lookup ("self" : Str)=some (.ref x)
 q:l.lookup ("quoted" : Str)=some (.bool q)
 e:∃ te,l.lookup ("escapedstate" : Str)=some (.str e te)
theorem chAt_le (buf:Str) (pos:Nat):(chAt buf pos).length≤1:=by
 show ((buf.cps.toList.drop pos).take 1).toArray.size≤1
 rw [List.size_toArray]
 exact List.length_take_le _ _
theorem s_one {st:Stmt} {Q:Flow→Shared→Prop} (k:wpAny (model P w) A (exec st env) Q E s):wpAny (model P w) A (execs [st] env) Q E s :=
 Yh (Ze k (fun f s' q=>by cases f<;>first | exact Ym q | exact q) fun _ _ e=>e)
section
variable {x:Addr} {R:Fs} {pos:Nat}
theorem s_tkAdd {np ap vp ps:Pos} {c:Str} {tc:Tok} {Q:Flow→Shared→Prop} (L:LxE H0 mg mb K CL CI) (H:St H0 B (adr fr) X' env.locals l (lexF CL CI x dx sx sdx pb fs com wss st tk buf pos++R) h) (hl:l.lookup ("self" : Str)=some (.ref x)) (hn:l.lookup ("nextchar" : Str)=some (.str c tc)) (hz:tk.length + c.length≤10000)
  (q:∀ h' t',St H0 B (adr fr) X' env.locals l (lexF CL CI x dx sx sdx pb fs com wss st (tk++c) buf pos++R) h'→Q .next (sh g t' h'))
  (hk:autoParam (env.scope.kind=.function) tR) (hlo:autoParam (env.kindOf "self" = some .local) tR) (hlo2:autoParam (env.kindOf "nextchar" = some .local) tR):wpAny (model P w) A (exec (.AugAssign (.Attribute (.Name "self" np) "token" ap) .Add (.Name "nextchar" vp) ps) env) Q E (sh g t h):=by
 obtain ⟨T,oD⟩:=LexP.at' (H.at (i:=1) rfl)
 refine wpAny_AugAssign_AttributeAny (s_ld H (i_get L.lk.k (L.X0.keeps H.low) L.lk.a15 (H.at (i:=0) rfl) oD lx15 rfl fun t1=>s_ld H (PySem.SB.iadd (fun t2 t3=>s_setTk L H fun h' t' H'=>q _ _ H') (Ye hz (by decide))) hn hk hlo2) hl hk hlo)
theorem s_inAC {a b:Str} {ka kb:Nat} {pa pb' ps:Pos} {v:Str} {tv:Tok} {Q:Bool→Shared→Prop} (H:St H0 B (adr fr) X' env.locals l F h)
  (q:∀ h' t',St H0 B (adr fr) X' env.locals l F h'→Q ([a,b].any fun y=>y == v) (sh g t' h'))
  (hs:autoParam (backTo ps (starEach [.Constant (.str a) ka pa,.Constant (.str b) kb pb'] env)=[(false,eval (.Constant (.str a) ka pa) env),(false,eval (.Constant (.str b) kb pb') env)]) tR) :
  wpAny (model P w) A (eval (.Tuple [.Constant (.str a) ka pa,.Constant (.str b) kb pb'] x1 ps) env) (fun r s2=>wpAny (model P w) A (compareOp .In (.str v tv) r) (fun c s3=>wpAny (model P w) A (truthy c) Q E s3) E s2) E (sh g t h):=by
 refine wpAny_Tuple_spliced ?_
 rw [hs]
 refine Yz (Zo (Yz (Zo (Zn ⟨by show 2≤sizeLine; decide,?_⟩))))
 have S:Strs [Value.str a t,Value.str b (t + 1)] [a,b]:=rfl
 have H1:=H.push { cls:=.type "tuple",data:=.seq [Value.str a t,Value.str b (t + 1)].toArray } (p:=TupP [Value.str a t,Value.str b (t + 1)]) ⟨0,rfl⟩
 have n:h.get? h.objs.size=none:=Yy (Zf _)
 have H2:=H1.lose (H.notOld n) (fun _ _ _ e=>e)
 refine SeqAt.in_tupleAt (fun y=>eS y (.str v tv)) (H1.at (i:=0) rfl).tup (fun y hy=>S.eq (by simpa using hy) rfl) (Yi ?_)
 rw [show ([Value.str a t,Value.str b (t + 1)].toArray.any fun y=>eS y (.str v tv))=[Value.str a t,Value.str b (t + 1)].any fun y=>eS y (.str v tv) from by simp,S.any v _ rfl]
 exact q _ _ H2
end
noncomputable def rt_turn_S:Prop:=∀ {A:Around} {B:Heap} {X':List Addr} {fr:List Env} {g:Array GenState} {E:Value→Shared→Prop} {K:Frag} {CI CL x dx:Addr} {R:Fs} {l:List (Str×Value)} {h:Heap} {t:Nat} {sx sdx pb fs Lo f:Addr} {st:Option Str} {tk buf e name qual:Str} {cd pm:Value} {pos n:Nat} {q go:Bool} {s':LxS} {Q:Flow→Shared→Prop} (rm:Rm A (n + 2)) (hF:Frs A (envF (mdF 32 6 name qual cd pm .none) Lo f::fr)) (L:LxE H0 mg mb K CL CI) (H:St H0 B (adr fr) X' Lo l (lexF CL CI x dx sx sdx pb fs "" true st tk buf pos++R) h) (lo:RtL l x q e) (hz:buf.length≤9000) (hp:pos≤buf.length) (ht:tk.length≤9000) (hs:lxStep ⟨st,tk,q,e⟩ (chAt buf pos)=some (go,s')) (k:∀ h' t' l' fl,St H0 B (adr fr) X' Lo l' (lexF CL CI x dx sx sdx pb fs "" true s'.st s'.tk buf (nxt buf pos)++R) h'→RtL l' x s'.q s'.e→fl=(if go then .next else .brk)→Q fl (sh g t' h')),wpAny (model P w) A (execs rtWhile.2.1 (envF (mdF 32 6 name qual cd pm .none) Lo f)) Q E (sh g t h)
end
namespace rt_turn
def zq0:=fun zk0=>(by
 intro A B X' fr g E K CI CL x dx R l h t sx sdx pb fs Lo f st tk buf e name qual cd pm pos n q go s' Q rm hF L H lo hz hp ht hs k
 revert rm hF L H lo hz hp ht hs k
 revert st q
 have zd0:Nat:=0
 revert A B X' fr g E K CI CL x dx R l h t sx sdx pb fs Lo f tk buf e name qual cd pm pos n go s' Q zd0
 exact zk0:rt_turn_S)
namespace zp0
@[irreducible] def zc:=pick34 zq0 (by (repeat any_goals apply np)<;>first | exact neW | exact neA | exact neD | exact neS | infer_instance | exact ⟨by constructor<;>exact default⟩)
def A:=zc.1.1
def B:=zc.1.2.1
def X':=zc.1.2.2.1
def fr:=zc.1.2.2.2.1
def g:=zc.1.2.2.2.2.1
def E:=zc.1.2.2.2.2.2.1
def K:=zc.1.2.2.2.2.2.2
def CI:=zc.2.1.1
def CL:=zc.2.1.2.1
def x:=zc.2.1.2.2.1
def dx:=zc.2.1.2.2.2.1
def R:=zc.2.1.2.2.2.2.1
def l:=zc.2.1.2.2.2.2.2.1
def h:=zc.2.1.2.2.2.2.2.2
def t:=zc.2.2.1.1
def sx:=zc.2.2.1.2.1
def sdx:=zc.2.2.1.2.2.1
def pb:=zc.2.2.1.2.2.2.1
def fs:=zc.2.2.1.2.2.2.2.1
def Lo:=zc.2.2.1.2.2.2.2.2.1
def f:=zc.2.2.1.2.2.2.2.2.2
def tk:=zc.2.2.2.1.1
def buf:=zc.2.2.2.1.2.1
def e:=zc.2.2.2.1.2.2.1
def name:=zc.2.2.2.1.2.2.2.1
def qual:=zc.2.2.2.1.2.2.2.2.1
def cd:=zc.2.2.2.1.2.2.2.2.2.1
def pm:=zc.2.2.2.1.2.2.2.2.2.2
def pos:=zc.2.2.2.2.1
def n:=zc.2.2.2.2.2.1
def go:=zc.2.2.2.2.2.2.1
def s':=zc.2.2.2.2.2.2.2.1
def Q:=zc.2.2.2.2.2.2.2.2.1
def zd0:=zc.2.2.2.2.2.2.2.2.2
def zq1 :=
 fun zk1=>all34 zq0 A B X' fr g E K CI CL x dx R l h t sx sdx pb fs Lo f tk buf e name qual cd pm pos n go s' Q zd0 (by with_unfolding_all rfl) (by
 intro st q rm hF L H lo hz hp ht hs k
 refine s_consB ?_
 intro _ q1 _ _
 refine Zh (isTrue_and (Zv (s_punct (n:=n) rm hF rfl L H lo.s fun h1 t1 tc H₁=>t_tS (by decide) fun t2=>?_)))
 rw [if_neg (by decide),if_neg Yk]
 clear H
 refine s_consB ?_
 intro _ q2 _ _
 refine Yq (s_lxrd (n:=n) rm hF rfl L H₁ lo.s hz hp fun h3 t3 tc H3=>s_st H3 fun h4 t4 H=>q2 _ (Ym (q1 _ ?_)))
 clear q1 q2 H₁ H3
 have m4:List.lookup ("nextchar" : Str) ((("nextchar" : Str),Value.str (chAt buf pos) tc)::l)=some (.str (chAt buf pos) tc):=by rfl
 have lo':RtL ((("nextchar" : Str),Value.str (chAt buf pos) tc)::l) x q e:=⟨lo.s,lo.q,lo.e⟩
 have hc1:=chAt_le buf pos
 generalize (("nextchar" : Str),Value.str (chAt buf pos) tc)::l=l1 at H m4 lo'
 generalize nxt buf pos=pos' at H k
 generalize chAt buf pos=c at hs m4 hc1
 clear lo hp
 refine s_consB ?_
 intro _ q1 _ _
 refine Zh (Yg (s_ld H (Zo (t_eqS ?_)) (hv:=m4)))
 by_cases c0:c = "\n"
 ·unfold lxStep at hs; rw [if_pos c0] at hs; cases hs
 rw [decide_eq_false c0,if_neg Yk]
 refine Ym (q1 _ ?_)
 clear q1
 refine s_consB ?_
 intro _ q1 _ _
 refine Zh (Yg (s_lx L H lo'.s L.lk.a14 (fun _=>lx14) (fun _=>rfl) fun T t5=>s_ci fun _ _=>PySem.P.ge_int (Yi ?_)))
 rw [if_neg (by decide)]
 refine Ym (q1 _ ?_)
 clear q1
 unfold lxStep at hs
 rw [if_neg c0] at hs
 have nx:∀ {st':Option Str} {tk' e':Str} {q' b:Bool} {fl:Flow} {h':Heap} {t':Nat} {l':List (Str×Value)},St H0 B (adr fr) X' Lo l' (lexF CL CI x dx sx sdx pb fs "" true st' tk' buf pos'++R) h'→RtL l' x q' e'→some (b,(⟨st',tk',q',e'⟩:LxS))=some (go,s')→fl=(if b then .next else .brk)→Q fl (sh g t' h'):=by
  intro st' tk' e' q' b fl h' t' l' a r hs z
  have e1:b=go:=congrArg Prod.fst (Zj hs)
  have e2:_=s':=congrArg Prod.snd (Zj hs)
  exact k _ _ _ _ (by rw [← e2]; exact a) (by rw [← e2]; exact r) (by rw [← e1]; exact z)
 clear k
 refine s_one (Zh (Yg (s_lx L H lo'.s L.lk.a11 (fun _=>lx11) (fun _=>stV_in _ _) fun T t5=>Zg (is_none (Yi ?_)))))
 cases st with
 | none =>
  rw [if_pos (by rfl)]
  refine s_consB ?_
  intro _ q1 _ _
  refine Yl (Zo (s_ld H (s_setTk L H fun h6 t6 H6=>q1 _ ?_) (hv:=lo'.s)))
  exact s_one (wpAny_Break (nx H6 lo' hs rfl))
 | some st =>
 rw [if_neg (by rintro ⟨⟩)]
 dsimp only at hs
 rename_i zi1_0 zi1_1 zi1_2 zi1_3 zi1_4 zi1_5 zi1_6 zi1_7 zi1_8 zi1_9 zi1_10 zi1_11 zi1_12 zi1_13 zi1_14 zi1_15; clear zi1_0 zi1_1 zi1_4 zi1_5 zi1_7 zi1_8 zi1_10 zi1_11
 revert rm hF L hz ht lo' m4 hc1 c0 nx H hs
 revert q
 revert tc h4 t4 l1 pos' c t5 st
 exact zk1)
def zr1:=fun zk1=>@Wr.out _ (zq1 zk1)
namespace zp1
@[irreducible] def zc:=pick8 zp0.zr1 (by (repeat any_goals apply np)<;>first | exact neW | exact neA | exact neD | exact neS | infer_instance | exact ⟨by constructor<;>exact default⟩)
def tc:=zc.1.1
def h4:=zc.1.2.1
def t4:=zc.1.2.2.1
def l1:=zc.1.2.2.2.1
def pos':=zc.1.2.2.2.2.1
def c:=zc.1.2.2.2.2.2.1
def t5:=zc.1.2.2.2.2.2.2
def st:=zc.2
def zq :=
 all8 zp0.zr1 tc h4 t4 l1 pos' c t5 st (by with_unfolding_all rfl) (by
 intro q rm hF L hz ht lo' m4 hc1 c0 nx H hs
 refine s_one (Zh (Yg (s_lx L H lo'.s L.lk.a11 (fun _=>lx11) (fun _=>stV_in _ _) fun T t5=>Zo (t_eqS ?_))))
 by_cases e1:st = " "
 ·rw [if_pos e1] at hs
  rw [decide_eq_true e1,if_pos rfl]
  refine s_one (Zh (isTrue_not (Zv (s_ld H (t_tS (by exact Ye ‹_› (by decide)) fun t6=>?_) (hv:=m4)))))
  by_cases c1:c = ""
  ·rw [if_pos c1] at hs
   rw [decide_eq_false (fun z=>z c1),if_pos (by rfl)]
   refine s_consB ?_
   intro _ q1 _ _
   refine Yl (Zg (s_ld H (s_setSt L H none 0 fun h6 t6 H6=>q1 _ ?_) (hv:=lo'.s)))
   exact s_one (wpAny_Break (nx H6 lo' hs rfl))
  rw [if_neg c1] at hs
  rw [decide_eq_true (by exact c1),if_neg (by decide)]
  refine s_one (Zh (Yg (s_ld H (s_lx L H lo'.s L.lk.a6 (fun _=>lx6) (fun _=>rfl) fun T t5=>t_inS ?_) (hv:=m4))))
  by_cases c2:Txt.contains lxWs c=true
  ·rw [if_pos c2] at hs; cases hs
  rw [if_neg c2] at hs ⊢
  refine s_one (Zh (Yg (s_ld H (s_lx L H lo'.s L.lk.a4 (fun _=>lx4) (fun _=>rfl) fun T t5=>t_inS ?_) (hv:=m4))))
  by_cases c3:Txt.contains "" c=true
  ·rw [if_pos c3] at hs; cases hs
  rw [if_neg c3] at hs ⊢
  refine s_one (Zh (isTrue_and (Zv (s_lx L H lo'.s L.lk.a2 (fun _=>lx2) (fun _=>rfl) fun T t5=>Yi ?_))))
  rw [if_pos rfl]
  refine isTrue_and (Yg (s_ld H (s_lx L H lo'.s L.lk.a9 (fun _=>lx9) (fun _=>rfl) fun T t5=>t_inS ?_) (hv:=m4)))
  by_cases c4:Txt.contains lxEs c=true
  ·rw [if_pos c4] at hs ⊢
   refine isTrue_and_nil ?_
   rw [if_pos rfl]
   refine s_consB ?_
   intro _ q1 _ _
   refine Yq (Zo (s_st H fun h6 t6 H6=>q1 _ ?_))
   exact s_one (Yl (s_ld H6 (s_ld H6 (s_setSt L H6 (some c) tc fun h7 t7 H7=>nx H7 ⟨lo'.s,lo'.q,_,rfl⟩ hs rfl) (hv:=lo'.s)) (hv:=m4)))
  rw [if_neg c4] at hs ⊢
  rw [if_neg Yk]
  refine s_one (Zh (Yg (s_ld H (s_lx L H lo'.s L.lk.a5 (fun _=>lx5) (fun _=>rfl) fun T t5=>t_inS ?_) (hv:=m4))))
  by_cases c5:Txt.contains lxW c=true
  ·rw [if_pos c5] at hs ⊢
   refine s_consB ?_
   intro _ q1 _ _
   refine Yl (s_ld H (s_ld H (s_setTk L H fun h6 t6 H6=>q1 _ ?_) (hv:=lo'.s)) (hv:=m4))
   exact s_one (Yl (Zo (s_ld H6 (s_setSt L H6 (some "a") t6 fun h7 t7 H7=>nx H7 lo' hs rfl) (hv:=lo'.s))))
  rw [if_neg c5] at hs ⊢
  refine s_one (Zh (Yg (s_ld H (s_punct (n:=n) rm hF rfl L H lo'.s fun h6 t6 tz H6=>t_inS ?_) (hv:=m4))))
  rw [if_neg c3]
  clear H
  refine s_one (Zh (Yg (s_ld H6 (s_lx L H6 lo'.s L.lk.a8 (fun _=>lx8) (fun _=>rfl) fun T t5=>t_inS ?_) (hv:=m4))))
  by_cases c6:Txt.contains lxQu c=true
  ·rw [if_pos c6] at hs ⊢
   refine s_consB ?_
   intro _ q1 _ _
   refine Zh (isTrue_not (Zv (s_lx L H6 lo'.s L.lk.a2 (fun _=>lx2) (fun _=>rfl) fun T t5=>Yi ?_)))
   rw [if_neg (by decide)]
   refine Ym (q1 _ ?_)
   exact s_one (Yl (s_ld H6 (s_ld H6 (s_setSt L H6 (some c) tc fun h7 t7 H7=>nx H7 lo' hs rfl) (hv:=lo'.s)) (hv:=m4)))
  rw [if_neg c6] at hs
  cases hs
 rw [if_neg e1] at hs
 rw [decide_eq_false e1,if_neg Yk]
 refine s_one (Zh (Yg (s_lx L H lo'.s L.lk.a11 (fun _=>lx11) (fun _=>stV_in _ _) fun T t5=>s_lx L H lo'.s L.lk.a8 (fun _=>lx8) (fun _=>rfl) fun T t5=>t_inS ?_)))
 by_cases e2:Txt.contains lxQu st=true
 ·rw [if_pos e2] at hs ⊢
  refine s_consB ?_
  intro _ q1 _ _
  refine Yq (wpAny_Constant_bool (s_st H fun h6 t6 H6=>q1 _ ?_))
  clear H q1
  have lo6:RtL ((("quoted" : Str),Value.bool true)::l1) x true e:=⟨lo'.s,rfl,lo'.e⟩
  have m6:List.lookup ("nextchar" : Str) ((("quoted" : Str),Value.bool true)::l1)=some (.str c tc):=m4
  generalize (("quoted" : Str),Value.bool true)::l1=l2 at H6 lo6 m6
  clear lo' m4
  refine s_consB ?_
  intro _ q1 _ _
  refine Zh (isTrue_not (Zv (s_ld H6 (t_tS (by exact Ye ‹_› (by decide)) fun t6=>?_) (hv:=m6))))
  by_cases c1:c = ""
  ·rw [if_pos c1] at hs; cases hs
  rw [if_neg c1] at hs
  rw [decide_eq_true (by exact c1),if_neg (by decide)]
  refine Ym (q1 _ ?_)
  clear q1
  refine s_one (Zh (Yg (s_ld H6 (s_lx L H6 lo6.s L.lk.a11 (fun _=>lx11) (fun _=>stV_in _ _) fun T t5=>t_eqS ?_) (hv:=m6))))
  by_cases c2:c=st
  ·rw [if_pos c2] at hs
   rw [decide_eq_true c2,if_pos rfl]
   refine s_one (Zh (isTrue_not (Zv (s_lx L H6 lo6.s L.lk.a2 (fun _=>lx2) (fun _=>rfl) fun T t5=>Yi ?_))))
   rw [if_neg (by decide)]
   exact s_one (Yl (Zo (s_ld H6 (s_setSt L H6 (some "a") _ fun h7 t7 H7=>nx H7 lo6 hs rfl) (hv:=lo6.s))))
  rw [if_neg c2] at hs
  rw [decide_eq_false c2,if_neg Yk]
  refine s_one (Zh (isTrue_and (Zv (s_lx L H6 lo6.s L.lk.a2 (fun _=>lx2) (fun _=>rfl) fun T t5=>Yi ?_))))
  rw [if_pos rfl]
  refine isTrue_and (Yg (s_ld H6 (s_lx L H6 lo6.s L.lk.a9 (fun _=>lx9) (fun _=>rfl) fun T t5=>t_inS ?_) (hv:=m6)))
  have add:∀ t5 {Q':Flow→Shared→Prop} {np ap vp ps:Pos},some (true,(⟨some st,tk++c,true,e⟩:LxS))=some (go,s')→(∀ s,Q .next s→Q' .next s)→wpAny (model P w) A (exec (.AugAssign (.Attribute (.Name "self" np) "token" ap) .Add (.Name "nextchar" vp) ps) (envF (mdF 32 6 name qual cd pm .none) Lo f)) Q' E (sh g t5 h6):=by
   intro t5 Q' np ap vp ps z qz
   exact s_tkAdd L H6 lo6.s m6 (by lia) fun h7 t7 H7=>qz _ (nx H7 lo6 z rfl)
  by_cases c4:Txt.contains lxEs c=true
  ·rw [if_pos c4]
   refine isTrue_and (Yg (s_lx L H6 lo6.s L.lk.a11 (fun _=>lx11) (fun _=>stV_in _ _) fun T t5=>s_lx L H6 lo6.s L.lk.a10 (fun _=>lx10) (fun _=>rfl) fun T t5=>t_inS ?_))
   by_cases c5:Txt.contains lxEq st=true
   ·rw [c4,c5,if_pos (by rfl)] at hs
    rw [if_pos c5]
    refine isTrue_and_nil ?_
    rw [if_pos rfl]
    refine s_consB ?_
    intro _ q1 _ _
    refine Yq (s_lx L H6 lo6.s L.lk.a11 (fun _=>lx11) (fun _=>stV_in _ _) fun T t5=>s_st H6 fun h7 t7 H7=>q1 _ ?_)
    exact s_one (Yl (s_ld H7 (s_ld H7 (s_setSt L H7 (some c) tc fun h8 t8 H8=>nx H8 ⟨lo6.s,lo6.q,_,rfl⟩ hs rfl) (hv:=lo6.s)) (hv:=m6)))
   rw [if_neg c5,if_neg Yk]
   rw [Bool.not_eq_true] at c5
   rw [c5,Bool.and_false,if_neg Yk] at hs
   exact s_one (add _ hs fun _ z=>z)
  rw [if_neg c4,if_neg Yk]
  rw [Bool.not_eq_true] at c4
  rw [c4,Bool.false_and,if_neg Yk] at hs
  exact s_one (add _ hs fun _ z=>z)
 rw [if_neg e2] at hs ⊢
 refine s_one (Zh (Yg (s_lx L H lo'.s L.lk.a11 (fun _=>lx11) (fun _=>stV_in _ _) fun T t5=>s_lx L H lo'.s L.lk.a9 (fun _=>lx9) (fun _=>rfl) fun T t5=>t_inS ?_)))
 obtain ⟨te,le⟩:=lo'.e
 by_cases e3:Txt.contains lxEs st=true
 ·rw [if_pos e3] at hs ⊢
  refine s_consB ?_
  intro _ q1 _ _
  refine Zh (isTrue_not (Zv (s_ld H (t_tS (by exact Ye ‹_› (by decide)) fun t6=>?_) (hv:=m4))))
  by_cases c1:c = ""
  ·rw [if_pos c1] at hs; cases hs
  rw [if_neg c1] at hs
  rw [decide_eq_true (by exact c1),if_neg (by decide)]
  refine Ym (q1 _ ?_)
  clear q1
  have rest:∀ t5 {Q':Flow→Shared→Prop} {np ap vp ps np2 ap2 vp2 ps2:Pos},some (true,(⟨some e,tk++c,q,e⟩:LxS))=some (go,s')→(∀ s,Q .next s→Q' .next s)→wpAny (model P w) A (execs [.AugAssign (.Attribute (.Name "self" np) "token" ap) .Add (.Name "nextchar" vp) ps,.Assign [.Attribute (.Name "self" np2) "state" ap2] (.Name "escapedstate" vp2) ps2] (envF (mdF 32 6 name qual cd pm .none) Lo f)) Q' E (sh g t5 h4):=by
   intro t5 Q' np ap vp ps np2 ap2 vp2 ps2 z qz
   refine s_consB ?_
   intro _ q1 _ _
   refine s_tkAdd L H lo'.s m4 (by lia) fun h7 t7 H7=>q1 _ ?_
   exact s_one (Yl (s_ld H7 (s_ld H7 (s_setSt L H7 (some e) te fun h8 t8 H8=>qz _ (nx H8 lo' z rfl)) (hv:=lo'.s)) (hv:=le)))
  refine s_consB ?_
  intro _ q1 _ _
  refine Zh (isTrue_and (Yg (s_ld H (s_lx L H lo'.s L.lk.a8 (fun _=>lx8) (fun _=>rfl) fun T t5=>t_inS ?_) (hv:=le))))
  by_cases c4:Txt.contains lxQu e=true
  ·rw [if_pos c4]
   refine isTrue_and (Yg (s_ld H (s_lx L H lo'.s L.lk.a11 (fun _=>lx11) (fun _=>stV_in _ _) fun T t5=>t_neS ?_) (hv:=m4)))
   by_cases c5:c=st
   ·rw [decide_eq_false (fun z=>z c5),Bool.false_and,Bool.and_false,if_neg Yk] at hs
    rw [decide_eq_false (fun z=>z c5),if_neg Yk,if_neg Yk]
    exact Ym (q1 _ (rest _ hs fun _ z=>z))
   rw [decide_eq_true (by exact c5),if_pos rfl]
   refine isTrue_and (Yg (s_ld H (s_ld H (t_neS ?_) (hv:=le)) (hv:=m4)))
   by_cases c6:c=e
   ·rw [decide_eq_false (p:=c≠e) (fun z=>z c6),Bool.and_false,Bool.and_false,if_neg Yk] at hs
    rw [decide_eq_false (fun z=>z c6),if_neg Yk,if_neg Yk]
    exact Ym (q1 _ (rest _ hs fun _ z=>z))
   ·rw [c4,decide_eq_true (p:=c≠st) c5,decide_eq_true (p:=c≠e) c6,if_pos (by rfl)] at hs
    cases hs
  rw [if_neg c4,if_neg Yk]
  rw [Bool.not_eq_true] at c4
  rw [c4,Bool.false_and,if_neg Yk] at hs
  exact Ym (q1 _ (rest _ hs fun _ z=>z))
 rw [if_neg e3] at hs ⊢
 by_cases e4:st = "a"
 ·rw [e4] at hs H
  rw [if_pos rfl] at hs
  refine s_one (Zh (Yg (s_lx L H lo'.s L.lk.a11 (fun _=>lx11) (fun _=>stV_in _ _) fun T t5=>s_inAC H fun h5 t6 H5=>?_)))
  rw [if_pos (by decide)]
  clear H
  refine s_one (Zh (isTrue_not (Zv (s_ld H5 (t_tS (by exact Ye ‹_› (by decide)) fun t6=>?_) (hv:=m4)))))
  by_cases c1:c = ""
  ·rw [if_pos c1] at hs
   rw [decide_eq_false (fun z=>z c1),if_pos (by rfl)]
   refine s_consB ?_
   intro _ q1 _ _
   refine Yl (Zg (s_ld H5 (s_setSt L H5 none 0 fun h6 t6 H6=>q1 _ ?_) (hv:=lo'.s)))
   exact s_one (wpAny_Break (nx H6 lo' hs rfl))
  rw [if_neg c1] at hs
  rw [decide_eq_true (by exact c1),if_neg (by decide)]
  refine s_one (Zh (Yg (s_ld H5 (s_lx L H5 lo'.s L.lk.a6 (fun _=>lx6) (fun _=>rfl) fun T t5=>t_inS ?_) (hv:=m4))))
  by_cases c2:Txt.contains lxWs c=true
  ·rw [if_pos c2] at hs ⊢
   refine s_consB ?_
   intro _ q1 _ _
   refine Zh (Yg (s_lx L H5 lo'.s L.lk.a14 (fun _=>lx14) (fun _=>rfl) fun T t5=>s_ci fun _ _=>PySem.P.ge_int (Yi ?_)))
   rw [if_neg (by decide)]
   refine Ym (q1 _ ?_)
   clear q1
   refine s_consB ?_
   intro _ q1 _ _
   refine Yl (Zo (s_ld H5 (s_setSt L H5 (some " ") _ fun h6 t6 H6=>q1 _ ?_) (hv:=lo'.s)))
   have br:some (false,(⟨some " ",tk,q,e⟩:LxS))=some (go,s')→∀ t7,Q .brk (sh g t7 h6):=by
    intro z t7
    exact nx H6 lo' z rfl
   refine s_one (Zh (isTrue_or (Zv (s_lx L H6 lo'.s L.lk.a15 (fun _=>lx15) (fun _=>rfl) fun T t5=>t_tS (by exact Ye ‹_› (by decide)) fun t8=>?_))))
   by_cases c3:tk = ""
   ·rw [decide_eq_false (fun z=>z c3),Bool.false_or] at hs
    rw [decide_eq_false (fun z=>z c3),if_neg Yk]
    refine isTrue_or (isTrue_and (Zv (s_lx L H6 lo'.s L.lk.a2 (fun _=>lx2) (fun _=>rfl) fun T t5=>Yi ?_)))
    rw [if_pos rfl]
    refine isTrue_and (Zv (s_ld H6 (Yi ?_) (hv:=lo'.q)))
    cases q with
    | false=>rw [if_neg Yk] at hs; cases hs
    | true =>
     rw [if_pos rfl] at hs ⊢
     refine isTrue_and_nil ?_
     rw [if_pos rfl,if_pos rfl]
     exact s_one (wpAny_Break (br hs _))
   ·rw [decide_eq_true (p:=tk ≠ "") c3,Bool.true_or,if_pos rfl] at hs
    rw [decide_eq_true (p:=tk ≠ "") c3,if_pos rfl,if_pos rfl]
    exact s_one (wpAny_Break (br hs _))
  rw [if_neg c2] at hs ⊢
  refine s_one (Zh (Yg (s_ld H5 (s_lx L H5 lo'.s L.lk.a4 (fun _=>lx4) (fun _=>rfl) fun T t5=>t_inS ?_) (hv:=m4))))
  by_cases c3:Txt.contains "" c=true
  ·rw [if_pos c3] at hs; cases hs
  rw [if_neg c3] at hs ⊢
  refine s_one (Zh (Yg (s_lx L H5 lo'.s L.lk.a11 (fun _=>lx11) (fun _=>stV_in _ _) fun T t5=>Zo (t_eqS ?_))))
  rw [if_neg (by decide)]
  refine s_one (Zh (isTrue_and (Zv (s_lx L H5 lo'.s L.lk.a2 (fun _=>lx2) (fun _=>rfl) fun T t5=>Yi ?_))))
  rw [if_pos rfl]
  refine isTrue_and (Yg (s_ld H5 (s_lx L H5 lo'.s L.lk.a8 (fun _=>lx8) (fun _=>rfl) fun T t5=>t_inS ?_) (hv:=m4)))
  by_cases c4:Txt.contains lxQu c=true
  ·rw [if_pos c4] at hs ⊢
   refine isTrue_and_nil ?_
   rw [if_pos rfl]
   exact s_one (Yl (s_ld H5 (s_ld H5 (s_setSt L H5 (some c) tc fun h7 t7 H7=>nx H7 lo' hs rfl) (hv:=lo'.s)) (hv:=m4)))
  rw [if_neg c4] at hs ⊢
  rw [if_neg Yk]
  refine s_one (Zh (isTrue_and (Zv (s_lx L H5 lo'.s L.lk.a2 (fun _=>lx2) (fun _=>rfl) fun T t5=>Yi ?_))))
  rw [if_pos rfl]
  refine isTrue_and (Yg (s_ld H5 (s_lx L H5 lo'.s L.lk.a9 (fun _=>lx9) (fun _=>rfl) fun T t5=>t_inS ?_) (hv:=m4)))
  by_cases c5:Txt.contains lxEs c=true
  ·rw [if_pos c5] at hs ⊢
   refine isTrue_and_nil ?_
   rw [if_pos rfl]
   refine s_consB ?_
   intro _ q1 _ _
   refine Yq (Zo (s_st H5 fun h6 t6 H6=>q1 _ ?_))
   exact s_one (Yl (s_ld H6 (s_ld H6 (s_setSt L H6 (some c) tc fun h7 t7 H7=>nx H7 ⟨lo'.s,lo'.q,_,rfl⟩ hs rfl) (hv:=lo'.s)) (hv:=m4)))
  rw [if_neg c5] at hs ⊢
  rw [if_neg Yk]
  refine s_one (Zh (isTrue_or (Yg (s_ld H5 (s_lx L H5 lo'.s L.lk.a5 (fun _=>lx5) (fun _=>rfl) fun T t5=>t_inS ?_) (hv:=m4)))))
  by_cases c6:Txt.contains lxW c=true
  ·rw [if_pos c6,if_pos rfl]
   exact s_one (s_tkAdd L H5 lo'.s m4 (by lia) fun h7 t7 H7=>nx H7 lo' hs rfl)
  rw [if_neg c6]
  refine isTrue_or (Yg (s_ld H5 (s_lx L H5 lo'.s L.lk.a8 (fun _=>lx8) (fun _=>rfl) fun T t5=>t_inS ?_) (hv:=m4)))
  rw [if_neg c4]
  refine isTrue_or (isTrue_and (Zv (s_lx L H5 lo'.s L.lk.a7 (fun _=>lx7) (fun _=>rfl) fun T t5=>Yi ?_)))
  rw [if_pos rfl]
  refine isTrue_and (Yg (s_ld H5 (s_punct (n:=n) rm hF rfl L H5 lo'.s fun h6 t6 tz H6=>t_niS ?_) (hv:=m4)))
  rw [Bool.not_eq_true] at c3
  rw [c3,if_pos (by rfl)]
  refine isTrue_and_nil ?_
  rw [if_pos rfl,if_pos rfl]
  exact s_one (s_tkAdd L H6 lo'.s m4 (by lia) fun h7 t7 H7=>nx H7 lo' hs rfl)
 ·rw [if_neg e4] at hs
  cases hs)
end zp1
end zp0
end rt_turn
section
variable {A:Around} {B:Heap} {fa X X':List Addr} {fr:List Env} {g:Array GenState} {K:Frag} {CI CL:Addr} {E:Value→Shared→Prop} {dx:Addr} {name qual:Str} {cd pm:Value} {R:Result→Shared→Prop} {fs:Addr} {tk:Str} {wss:Bool} {pb:Addr} {st:Option Str} {sx sdx:Addr} {buf com:Str} {f:Addr} {F:Fs} {n:Nat} {l:List (Str×Value)} {s:Shared} {h:Heap} {t:Nat}
theorem rt_turn:rt_turn_S:=@Wr.out _ rt_turn.zp0.zp1.zq
theorem app_len (a b:Str):(a++b).length=a.length + b.length:=size_cat a b
noncomputable def LenOk (n:Nat) (r:Option (Bool×LxS)):Prop:=∀ p,r=some p→p.2.tk.length≤n
theorem len_none:LenOk n none:=fun _ h=>by cases h
theorem len_some {b:Bool} {st tk q e} (h:tk.length≤n):LenOk n (some (b,⟨st,tk,q,e⟩)):=fun _ h'=>by cases h'; exact h
theorem len_ite {c:Prop} [Decidable c] {x y} (hx:LenOk n x) (hy:LenOk n y):LenOk n (if c then x else y):=by split<;>assumption
theorem lxStep_len {s s':LxS} {c:Str} {go:Bool} (h:lxStep s c=some (go,s')):s'.tk.length≤s.tk.length + c.length:=by
 refine (?_:LenOk (s.tk.length + c.length) (lxStep s c)) _ h
 clear h
 obtain ⟨st,tk,q,e⟩:=s
 have h0:tk.length≤tk.length + c.length:=Nat.le_add_right _ _
 have h1:(tk++c).length≤tk.length + c.length:=Nat.le_of_eq (app_len _ _)
 have h2:c.length≤tk.length + c.length:=Nat.le_add_left _ _
 have h3:Str.length "" ≤ tk.length + c.length:=Zs _
 cases st with
 | none=>exact len_ite len_none (len_some h3)
 | some st =>
  unfold lxStep
  dsimp only
  repeat' first | exact len_none | exact len_some h0 | exact len_some h1 | exact len_some h2 | apply len_ite
theorem chAt_nil {pos:Nat} (h:buf.cps.toList.drop pos=[]):chAt buf pos=⟨#[]⟩:=by unfold chAt; rw [h]; rfl
theorem chAt_cons {x:Nat} {pos:Nat} {r:List Nat} (h:buf.cps.toList.drop pos=x::r):chAt buf pos=⟨#[x]⟩∧pos < buf.length∧buf.cps.toList.drop (pos + 1)=r:=by
 refine ⟨by unfold chAt; rw [h]; rfl,?_,?_⟩
 ·by_cases q:pos < buf.length
  ·exact q
  ·rw [List.drop_of_length_le (by rw [Array.length_toList]; exact Nat.le_of_not_lt q)] at h; cases h
 ·rw [← List.drop_drop,h]; rfl
theorem drop_nil {pos:Nat} (h:buf.cps.toList.drop pos=[]) (hp:pos≤buf.length):¬ pos < buf.length:=by
 have:=congrArg List.length h
 rw [List.length_drop,Array.length_toList] at this
 have e:buf.cps.size=buf.length:=rfl
 rw [e] at this
 simp at this; lia
theorem rt_loop {x:Addr} {R:Fs} {Rr:Result→Shared→Prop} {Lo:Addr} {e:Str} {pos:Nat} {q:Bool} {s':LxS} {rest:List Nat}
  (rm:Rm A (n + 2)) (hF:Frs A (envF (mdF 32 6 name qual cd pm .none) Lo f::fr)) (L:LxE H0 mg mb K CL CI) (H:St H0 B (adr fr) X' Lo l (lexF CL CI x dx sx sdx pb fs "" true st tk buf pos++R) h)
  (lo:RtL l x q e) (hz:buf.length≤9000) (hp:pos≤buf.length) (ht:tk.length≤pos)
  (hs:lxRun (buf.cps.toList.drop pos) ⟨st,tk,q,e⟩=some (s',rest))
  (k:∀ h' t' l' pos',St H0 B (adr fr) X' Lo l' (lexF CL CI x dx sx sdx pb fs "" true s'.st s'.tk buf pos'++R) h'→RtL l' x s'.q s'.e→buf.cps.toList.drop pos'=rest→pos'≤buf.length→s'.tk.length≤10000→Rr (.ok .next) (sh g t' h')) :
  codeAny (model P w) A (.whileLoop rtWhile.1 rtWhile.2.1 rtWhile.2.2 (envF (mdF 32 6 name qual cd pm .none) Lo f)) Rr (sh g t h):=by
 refine codeAny_whileLoop (fun m s=>E8 fun h t l st tk q e pos=>A7 (s=(sh g t h)) (m=buf.length - pos) (St H0 B (adr fr) X' Lo l (lexF CL CI x dx sx sdx pb fs "" true st tk buf pos++R) h) (RtL l x q e) (pos≤buf.length) (tk.length≤pos) (lxRun (buf.cps.toList.drop pos) ⟨st,tk,q,e⟩=some (s',rest))) ?_ _ ⟨h,t,l,st,tk,q,e,pos,rfl,rfl,H,lo,hp,ht,hs⟩
 rintro m s ⟨h,t,l,st,tk,q,e,pos,rfl,rfl,H,lo,hp,ht,hs⟩
 refine Zv (wpAny_Constant_bool (Yi ?_))
 rw [if_pos rfl]
 cases hd:buf.cps.toList.drop pos with
 | nil =>
  rw [hd] at hs
  unfold lxRun at hs
  have hn:=drop_nil hd hp
  split at hs
  ·rename_i s1 z
   cases hs
   rw [← chAt_nil hd] at z
   have hl:=lxStep_len z
   have:=chAt_le buf pos
   refine rt_turn (n:=n) rm hF L H lo hz hp (by lia) z fun h' t' l' fl H' lo' hfl=>?_
   rw [if_neg Yk] at hfl
   subst hfl
   unfold nxt at H'
   rw [if_neg hn] at H'
   exact k _ _ _ _ H' lo' hd hp (by simp only at hl; lia)
  ·cases hs
 | cons c r =>
  rw [hd] at hs
  unfold lxRun at hs
  obtain ⟨hc,hlt,hr⟩:=chAt_cons hd
  split at hs
  ·rename_i s1 z
   cases hs
   rw [← hc] at z
   have hl:=lxStep_len z
   have:=chAt_le buf pos
   refine rt_turn (n:=n) rm hF L H lo hz hp (by lia) z fun h' t' l' fl H' lo' hfl=>?_
   rw [if_neg Yk] at hfl
   subst hfl
   unfold nxt at H'
   rw [if_pos hlt] at H'
   exact k _ _ _ _ H' lo' hr hlt (by simp only at hl; lia)
  ·rename_i s1 z
   rw [← hc] at z
   have hl:=lxStep_len z
   have:=chAt_le buf pos
   refine rt_turn (n:=n) rm hF L H lo hz hp (by lia) z fun h' t' l' fl H' lo' hfl=>?_
   rw [if_pos rfl] at hfl
   subst hfl
   unfold nxt at H'
   rw [if_pos hlt] at H'
   refine ⟨_,?_,_,_,_,_,_,_,_,_,rfl,rfl,H',lo',hlt,by simp only at hl; lia,by rw [hr]; exact hs⟩
   exact sb2 ‹_›
  ·cases hs
theorem bRT (name qual:Str) (cd pm v:Value):bindArgs (mdF 32 6 name qual cd pm .none) ⟨[v],[]⟩=pure [(("self" : Str),v)]:=by rfl
theorem rt_call {g} {x:Addr} {t} {pos:Nat} {s':LxS} {rest:List Nat}
  (rm:Rm A (n + 3)) (hfr:Frs A fr) (al:Alive H0 (adr fr) h) (L:LxE H0 mg mb K CL CI) (low:∀ a o,H0.get? a=some o→h.get? a=some o) (hf:Fn H0 f (mdF 32 6 name qual cd pm .none))
  (hz:buf.length≤9000) (hp:pos≤buf.length) (hs:lxRun (buf.cps.toList.drop pos) ⟨st, "",false, " "⟩=some (s',rest))
  (M:Lump H0 (adr fr) h (lexF CL CI x dx sx sdx pb fs "" true st "" buf pos))
  (hR:∀ h' t' tr pos',Step (adr fr) h (lexF CL CI x dx sx sdx pb fs "" true st "" buf pos) h' (lexF CL CI x dx sx sdx pb fs "" true s'.st "" buf pos')→buf.cps.toList.drop pos'=rest→pos'≤buf.length→R (.ok (.ret (stV (lxRes s') tr))) (sh g t' h')) :
  codeAny (model P w) A (.call (.ref f) ⟨[.ref x],[]⟩) R (sh g t h):=by
 refine s_enterQ L.bs low hf hfr al rm.room rfl (fun _ _ q=>by rw [bRT]; exact Yn q) fun env A' h₁ t1 QQ EE ee hA qr qn H0' hF=>?_
 have rm':Rm A' (n + 2):=hA ▸ rm.deeper env
 clear hA
 subst ee
 generalize h.objs.size=Lo at H0' hF ⊢
 have H:St H0 h (adr fr) [x,dx,sx,sdx,pb,fs] Lo _ (lexF CL CI x dx sx sdx pb fs "" true st "" buf pos++[]) h₁:=H0'.own M
 refine s_cons ?_
 intro _ q1 _
 refine Yq (wpAny_Constant_bool (s_st H fun h₂ t2 H2=>q1 _ ?_))
 refine s_cons ?_
 intro _ q2 _
 refine Yq (Zo (s_st H2 fun h₃ t3 H3=>q2 _ ?_))
 clear q1 q2 H H2 H0'
 refine s_cons ?_
 intro _ q1 _
 refine wpAny_While (rt_loop (e := " ") (q:=false) rm' hF L H3 ⟨by rfl,by rfl,_,by rfl⟩ hz hp (Zs _) hs fun h4 t4 l4 pos' H4 lo hd hp' ht=>q1 _ ?_)
 clear q1 H3
 refine s_cons ?_
 intro _ q1 _
 refine Yq (s_lx L H4 lo.s L.lk.a15 (fun _=>lx15) (fun _=>rfl) fun T t5=>s_st H4 fun h5 t6 H5=>q1 _ ?_)
 refine s_cons ?_
 intro _ q2 _
 refine Yl (Zo (s_ld H5 (s_setTk L H5 fun h6 t6 H6=>q2 _ ?_) (hv:=lo.s)))
 clear q1 q2 H4 H5
 have fin:∀ h7 t7 l7 tr,St H0 h (adr fr) [x,dx,sx,sdx,pb,fs] Lo l7 (lexF CL CI x dx sx sdx pb fs "" true s'.st "" buf pos'++[]) h7→l7.lookup ("self" : Str)=some (.ref x)→l7.lookup ("result" : Str)=some (stV (lxRes s') tr) →
   wpAny (model P w) A' (execs ((mtp 32 6).2.1.drop 6) (envF (mdF 32 6 name qual cd pm .none) Lo f)) QQ EE (sh g t7 h7):=by
  intro h7 t7 l7 tr H7 m1 m2
  refine s_cons ?_
  intro _ q1 _
  refine Zh (Yg (s_lx L H7 m1 L.lk.a14 (fun _=>lx14) (fun _=>rfl) fun T t5=>s_ci fun _ _=>PySem.P.gt_int (Yi ?_)))
  rw [if_neg (by decide)]
  refine Ym (q1 _ ?_)
  refine Yh (Zd (s_ld H7 (qr _ _ (hR _ _ _ _ (St.toStep (G:=lexF CL CI x dx sx sdx pb fs "" true st "" buf pos) (R:=[]) H7 fun b hb=>hb) hd hp')) (hv:=m2)))
 refine s_cons ?_
 intro _ q1 _
 refine Zh (isTrue_and (Zv (s_lx L H6 lo.s L.lk.a2 (fun _=>lx2) (fun _=>rfl) fun T t5=>Yi ?_)))
 rw [if_pos rfl]
 refine isTrue_and (isTrue_not (Zv (s_ld H6 (Yi ?_) (hv:=lo.q))))
 unfold lxRes at fin hR
 cases hq:s'.q with
 | true =>
  rw [hq,Bool.not_true,Bool.false_and,if_neg Yk] at fin
  rw [Bool.not_true,if_neg Yk,if_neg Yk]
  exact Ym (q1 _ (fin _ _ _ _ H6 lo.s (by rfl)))
 | false =>
  rw [hq,Bool.not_false,Bool.true_and] at fin
  rw [Bool.not_false,if_pos rfl]
  refine isTrue_and (Yg (s_ld H6 (Zo (t_eqS ?_))))
  by_cases e:s'.tk = ""
  ·rw [decide_eq_true e,if_pos rfl] at fin
   rw [decide_eq_true e,if_pos rfl]
   refine isTrue_and_nil ?_
   rw [if_pos rfl]
   exact s_one (Yq (Zg (s_st H6 fun h7 t7 H7=>q1 _ (fin _ _ _ 0 H7 lo.s (by rfl)))))
  ·rw [decide_eq_false e,if_neg Yk] at fin
   rw [decide_eq_false e,if_neg Yk,if_neg Yk]
   exact Ym (q1 _ (fin _ _ _ _ H6 lo.s (by rfl)))
structure LexM (H0:Heap) (mg mb:Str→Option Value) (K:Frag) (CL:Addr):Prop where
 rt:E5 fun f name qual cd pm=>MethK K CL "read_token" f∧Fn H0 f (mdF 32 6 name qual cd pm .none)
 gt:E5 fun f name qual cd pm=>MethK K CL "get_token" f∧Fn H0 f (mdF 32 5 name qual cd pm .none)
 nx:E5 fun f name qual cd pm=>MethK K CL "__next__" f∧Fn H0 f (mdF 32 10 name qual cd pm .none)
 it:E5 fun f name qual cd pm=>MethK K CL "__iter__" f∧Fn H0 f (mdF 32 9 name qual cd pm .none)
 si0:mg "StopIteration" = none
 si1:mb "StopIteration" = some (.type "StopIteration")
theorem lxR {T:Nat→Tok}:(lexA T sx pb fs com wss st tk).lookup ("read_token" : Str)=none:=by kernel_rfl
theorem lxG {T:Nat→Tok}:(lexA T sx pb fs com wss st tk).lookup ("get_token" : Str)=none:=by kernel_rfl
theorem bGT (name qual:Str) (cd pm v:Value):bindArgs (mdF 32 5 name qual cd pm .none) ⟨[v],[]⟩=pure [(("self" : Str),v)]:=by rfl
theorem bNX (name qual:Str) (cd pm v:Value):bindArgs (mdF 32 10 name qual cd pm .none) ⟨[v],[]⟩=pure [(("self" : Str),v)]:=by rfl
theorem bIT (name qual:Str) (cd pm v:Value):bindArgs (mdF 32 9 name qual cd pm .none) ⟨[v],[]⟩=pure [(("self" : Str),v)]:=by rfl
theorem t_eqN (o:Option Str) {t:Tok} {Q:Bool→Shared→Prop} (q:Q o.isNone s):wpAny (model P w) A (compareOp .Eq (stV o t) .none) (fun c s'=>wpAny (model P w) A (truthy c) Q E s') E s:=by
 cases o with
 | none=>exact EqNone.eq_none_none (Yi q)
 | some x=>exact EqNone.eq_str_none (Yi q)
theorem gt_call {g} {x:Addr} {t} {pos:Nat} {s':LxS} {rest:List Nat}
  (rm:Rm A (n + 4)) (hfr:Frs A fr) (al:Alive H0 (adr fr) h) (L:LxE H0 mg mb K CL CI) (LM:LexM H0 mg mb K CL) (low:∀ a o,H0.get? a=some o→h.get? a=some o) (hf:Fn H0 f (mdF 32 5 name qual cd pm .none))
  (hz:buf.length≤9000) (hp:pos≤buf.length) (hs:lxRun (buf.cps.toList.drop pos) ⟨st, "",false, " "⟩=some (s',rest))
  (M:Lump H0 (adr fr) h (lexF CL CI x dx sx sdx pb fs "" true st "" buf pos))
  (hR:∀ h' t' tr pos',Step (adr fr) h (lexF CL CI x dx sx sdx pb fs "" true st "" buf pos) h' (lexF CL CI x dx sx sdx pb fs "" true s'.st "" buf pos')→buf.cps.toList.drop pos'=rest→pos'≤buf.length→R (.ok (.ret (stV (lxRes s') tr))) (sh g t' h')) :
  codeAny (model P w) A (.call (.ref f) ⟨[.ref x],[]⟩) R (sh g t h):=by
 obtain ⟨fR,nR,qR,cR,pR,MR,hfR⟩:=LM.rt
 refine s_enterQ L.bs low hf hfr al rm.room rfl (fun _ _ q=>by rw [bGT]; exact Yn q) fun env A' h1 t1 QQ EE ee hA qr qn H0' hF=>?_
 have rm':Rm A' (n + 3):=hA ▸ rm.deeper env
 clear hA
 subst ee
 generalize h.objs.size=Lo at H0' hF ⊢
 have H:St H0 h (adr fr) [x,dx,sx,sdx,pb,fs] Lo _ (lexF CL CI x dx sx sdx pb fs "" true st "" buf pos++[]) h1:=H0'.own M
 refine s_cons ?_
 intro _ q1 _
 refine Zh (Zv (s_lx L H (by rfl) L.lk.a12 (fun _=>lx12) (fun _=>rfl) fun T t5=>s_deqFalse (H.at (i:=4) rfl) fun t6=>?_))
 rw [if_neg Yk]
 refine Ym (q1 _ ?_)
 refine s_cons ?_
 intro _ q2 _
 obtain ⟨T,oD⟩:=LexP.at' (H.at (i:=1) rfl)
 refine Yq (s_meth0 L.lk.k (L.X0.keeps H.low) MR hfR (H.at (i:=0) rfl) oD lxR (fun Q q=>s_ld H q) H.low ?_)
 refine rt_call (n:=n) rm' hF H.al L H.low hfR hz hp hs H.lump fun h2 t2 tr pos' S hd hp'=>?_
 refine s_st (H.step S) fun h3 t3 H3=>q2 _ ?_
 clear q1 q2 H H0' S oD
 refine s_cons ?_
 intro _ q1 _
 refine Zh (Yg (s_lx L H3 (by rfl) L.lk.a17 (fun _=>lx17) (fun _=>rfl) fun T t5=>Zg (isNot_none (Yi ?_))))
 rw [if_neg (by decide)]
 refine Ym (q1 _ ?_)
 clear q1
 have fin:∀ t4,R (.ok (.ret (stV (lxRes s') tr))) (sh g t4 h3):=fun t4=>hR _ _ _ _ (St.toStep (G:=lexF CL CI x dx sx sdx pb fs "" true st "" buf pos) (R:=[]) H3 fun b hb=>hb) hd hp'
 refine s_cons ?_
 intro _ q1 q2
 refine wpAny_While (codeAny_whileLoop (fun _ s=>∃ t,s=(sh g t h3)) (fun m s=>?_) 0 ⟨_,rfl⟩)
 rintro ⟨t4,rfl⟩
 refine Yg (s_ld H3 (s_lx L H3 (by rfl) L.lk.a3 (fun _=>lx3) (fun _=>rfl) fun T t5=>t_eqN _ ?_))
 cases hr:lxRes s' with
 | none =>
  rw [hr] at fin
  rw [show (none:Option Str).isNone=true from rfl,if_pos rfl]
  refine s_one (Zh (isTrue_not (Zv (s_lx L H3 (by rfl) L.lk.a16 (fun _=>lx16) (fun _=>rfl) fun T t5=>s_deqFalse (H3.at (i:=5) rfl) fun t6=>?_))))
  rw [Bool.not_false,if_pos rfl]
  exact s_one (Zd (s_lx L H3 (by rfl) L.lk.a3 (fun _=>lx3) (fun _=>rfl) fun T t7=>q2 _ _ (qr _ _ (fin _))))
 | some tok =>
  rw [hr] at fin
  rw [show (some tok).isNone=false from rfl,if_neg Yk]
  refine Ym (q1 _ ?_)
  refine s_cons ?_
  intro _ q3 _
  refine Zh (Yg (s_lx L H3 (by rfl) L.lk.a14 (fun _=>lx14) (fun _=>rfl) fun T t5=>s_ci fun _ _=>PySem.P.ge_int (Yi ?_)))
  rw [if_neg (by decide)]
  refine Ym (q3 _ ?_)
  exact Yh (Zd (s_ld H3 (qr _ _ (fin _)) (hv:=by rw [hr]; rfl)))
theorem St.rebase {Lo:Addr} (H:St H0 B fa X Lo l F h):St H0 (wipe h [Lo]) fa [] Lo l [] h where
 lo:=H.lo
 Ln:=wipe_in h Yc
 has:=fun _ m=>nomatch m
 nd:=List.nodup_nil
 low:=H.low
 hi:=fun _ m=>nomatch m
 nf:=fun _ m=>nomatch m
 keep:=fun b o e _=>.of (wipe_some e).2
 new:=fun _ m=>nomatch m
 al:=H.al
theorem St.toStepW {R:Fs} {Lo:Addr} {G G':Fs} (H:St H0 B fa (G.map (·.1)) Lo l (G'++R) h) (sub:∀ b∈G.map (·.1),b∈G'.map (·.1)):Step fa B G (wipe h [Lo]) G':=by
 have S:=H.toStep sub
 have keep:∀ b o,b≠Lo→h.get? b=some o→(wipe h [Lo]).get? b=some o:=fun b o hb e=>(wipe_out h (by simpa using hb)).trans e
 refine ⟨fun b o e n=>?_,fun x hx=>?_,S.nd,S.sub,S.new⟩
 ·obtain ⟨sl,e1,e2⟩:=S.kp b o e n
  exact ⟨sl,keep b _ (fun q=>by rw [q,H.Ln] at e; cases e) e1,e2⟩
 ·exact (S.has x hx).at fun o e=>keep _ o (fun q=>H.nf x (Zr _ hx) (q ▸ Yc)) e
theorem nx_call {g} {x:Addr} {t} {pos:Nat} {s':LxS} {rest:List Nat}
  (rm:Rm A (n + 5)) (hfr:Frs A fr) (al:Alive H0 (adr fr) h) (L:LxE H0 mg mb K CL CI) (LM:LexM H0 mg mb K CL) (low:∀ a o,H0.get? a=some o→h.get? a=some o) (hf:Fn H0 f (mdF 32 10 name qual cd pm .none))
  (hz:buf.length≤9000) (hp:pos≤buf.length) (hs:lxRun (buf.cps.toList.drop pos) ⟨st, "",false, " "⟩=some (s',rest))
  (M:Lump H0 (adr fr) h (lexF CL CI x dx sx sdx pb fs "" true st "" buf pos))
  (hR:∀ tok,lxRes s'=some tok→∀ h' t' tr pos',Step (adr fr) h (lexF CL CI x dx sx sdx pb fs "" true st "" buf pos) h' (lexF CL CI x dx sx sdx pb fs "" true s'.st "" buf pos')→buf.cps.toList.drop pos'=rest→pos'≤buf.length→R (.ok (.ret (.str tok tr))) (sh g t' h'))
  (hE:lxRes s'=none→∀ hm h' t' e pos',Step (adr fr) h (lexF CL CI x dx sx sdx pb fs "" true st "" buf pos) hm (lexF CL CI x dx sx sdx pb fs "" true s'.st "" buf pos')→Fl fr e "StopIteration" .none hm h'→R (.error (.ref e)) (sh g t' h')) :
  codeAny (model P w) A (.call (.ref f) ⟨[.ref x],[]⟩) R (sh g t h):=by
 obtain ⟨fR,nR,qR,cR,pR,MR,hfR⟩:=LM.gt
 refine s_enterW L.bs low hf hfr al rm.room rfl (fun _ _ q=>by rw [bNX]; exact Yn q) fun h1 t1 H0' hF=>?_
 have rm':=rm.deeper (envF (mdF 32 10 name qual cd pm .none) h.objs.size f)
 generalize h.objs.size=Lo at H0' hF rm' ⊢
 have H:St H0 h (adr fr) [x,dx,sx,sdx,pb,fs] Lo _ (lexF CL CI x dx sx sdx pb fs "" true st "" buf pos++[]) h1:=H0'.own M
 refine s_cons ?_
 intro _ q2 _
 obtain ⟨T,oD⟩:=LexP.at' (H.at (i:=1) rfl)
 refine Yq (s_meth0 L.lk.k (L.X0.keeps H.low) MR hfR (H.at (i:=0) rfl) oD lxG (fun Q q=>s_ld H q) H.low ?_)
 refine gt_call (n:=n) rm' hF H.al L LM H.low hfR hz hp hs H.lump fun h2 t2 tr pos' S hd hp'=>?_
 refine s_st (H.step S) fun h3 t3 H3=>q2 _ ?_
 clear q2 H H0' S oD
 refine s_cons ?_
 intro _ q1 _
 refine Zh (Yg (s_ld H3 (s_lx L H3 (by rfl) L.lk.a3 (fun _=>lx3) (fun _=>rfl) fun T t5=>t_eqN _ ?_)))
 cases hr:lxRes s' with
 | none =>
  rw [show (none:Option Str).isNone=true from rfl,if_pos rfl]
  refine Yh (owsi_raiseC rm'.1 (s_bname L.bs H3.low LM.si0 LM.si1 ⟨rfl,rfl⟩) fun h4 e me=>?_)
  refine (?_:wpAny _ _ (leaving _ _) _ _ _)
  unfold leaving
  refine Yd (fl_note hF H3.al rfl me.newExc fun h5 x5=>fl_land x5 H3.al fun h6 x6=>?_)
  exact hE hr _ _ _ _ _ (St.toStepW (G:=lexF CL CI x dx sx sdx pb fs "" true st "" buf pos) (R:=[]) H3 fun b hb=>hb) (Fl.out H3.rebase rfl x6)
 | some tok =>
  rw [show (some tok).isNone=false from rfl,if_neg Yk]
  refine Ym (q1 _ ?_)
  exact Yh (Zd (s_ld H3 (hR _ hr _ _ _ _ (St.toStep (G:=lexF CL CI x dx sx sdx pb fs "" true st "" buf pos) (R:=[]) H3 fun b hb=>hb) hd hp') (hv:=by rw [hr]; rfl)))
theorem it_call {g} {x:Addr} {t}
  (rm:Rm A (n + 1)) (hfr:Frs A fr) (al:Alive H0 (adr fr) h) (bs:Bs H0 mg mb) (low:∀ a o,H0.get? a=some o→h.get? a=some o) (hf:Fn H0 f (mdF 32 9 name qual cd pm .none))
  (hR:∀ h' t',Kp (adr fr) [] h h'→R (.ok (.ret (.ref x))) (sh g t' h')) :
  codeAny (model P w) A (.call (.ref f) ⟨[.ref x],[]⟩) R (sh g t h):=by
 refine s_enterQ bs low hf hfr al rm.room rfl (fun _ _ q=>by rw [bIT]; exact Yn q) fun env A' h1 t1 QQ EE ee hA qr qn H hF=>?_
 subst ee
 exact Yh (Zd (s_ld H (qr _ _ (hR _ _ H.kp))))
noncomputable def lxAll:Nat→List Nat→Option Str→Option (List Str)
 | 0,_,_=>none
 | k + 1,r,st=>match lxRun r ⟨st, "",false, " "⟩ with
  | none=>none
  | some (s',r')=>match lxRes s' with
   | none=>some []
   | some tok=>(lxAll k r' s'.st).map (tok::·)
structure LexI (K:Frag) (CL:Addr):Prop where
 h1:findIn K (.ref CL) "__len__" = some none
 h2:findIn K (.ref CL) "__length_hint__" = some none
noncomputable def s_listLex_S:Prop:=∀ {A:Around} {B:Heap} {X':List Addr} {fr:List Env} {g:Array GenState} {env:Env} {E:Value→Shared→Prop} {K:Frag} {CI CL x dx:Addr} {R:Fs} {l:List (Str×Value)} {h:Heap} {t:Nat} {sx sdx pb fs:Addr} {st:Option Str} {buf:Str} {pos n k:Nat} {ws:List Str} {Q:Value→Shared→Prop} (rm:Rm A (n + 7)) (hF:Frs A (env::fr)) (he:env.frame=some env.locals) (hL:H0.objs.size≤env.locals) (L:LxE H0 mg mb K CL CI) (LM:LexM H0 mg mb K CL) (LI:LexI K CL) (H:St H0 B (adr fr) X' env.locals l (lexF CL CI x dx sx sdx pb fs "" true st "" buf pos++R) h) (hz:buf.length≤9000) (hp:pos≤buf.length) (hw:lxAll k (buf.cps.toList.drop pos) st=some ws) (hk:ws.length≤1000) (q:∀ h' t' vs st' pos',Strs vs ws→St H0 B (adr fr) X' env.locals l (lexF CL CI x dx sx sdx pb fs "" true st' "" buf pos'++((h.objs.size,ListP vs)::R)) h'→Q (.ref h.objs.size) (sh g t' h')),wpAny (model P w) A (call (.type "list") [.ref x]) Q E (sh g t h)
end
namespace s_listLex
def zq0:=fun zk0=>(by
 intro A B X' fr g env E K CI CL x dx R l h t sx sdx pb fs st buf pos n k ws Q rm hF he hL L LM LI H hz hp hw hk q
 have ea:adr (env::fr)=env.locals::adr fr:=by show List.filterMap _ _=_; rw [List.filterMap_cons,he]
 obtain ⟨fN,nN,qN,cN,pN,MN,hfN⟩:=LM.nx
 obtain ⟨fI,nI,qI,cI,pI,MI,hfI⟩:=LM.it
 have nx:x≠h.objs.size:=Nat.ne_of_lt (H.at (i:=0) rfl).lt
 generalize eS:h.objs.size=S at q nx
 have inst:∀ {l' st' pos' F' h'},St H0 B (adr fr) X' env.locals l' (lexF CL CI x dx sx sdx pb fs "" true st' "" buf pos'++F') h'→∃ od,InstAt h' x { cls:=.ref CL,dict:=some dx,data:=.plain,slots:=#[] } CL (some od):=fun H=>by
  obtain ⟨od,e,_⟩:=H.at (i:=1) rfl
  exact ⟨od,(H.at (i:=0) rfl).inst e⟩
 revert rm hF he hL L LM LI H hz hp hw hk ea MN hfN MI hfI eS q nx inst
 have zd0:Nat:=0
 revert A B X' fr g env E K CI CL x dx R l h t sx sdx pb fs st buf pos n k ws Q fN nN qN cN pN fI nI qI cI pI S zd0
 exact zk0:s_listLex_S)
namespace zp0
@[irreducible] def zc:=pick39 zq0 (by (repeat any_goals apply np)<;>first | exact neW | exact neA | exact neD | exact neS | infer_instance | exact ⟨by constructor<;>exact default⟩)
def A:=zc.1.1
def B:=zc.1.2.1
def X':=zc.1.2.2.1
def fr:=zc.1.2.2.2.1
def g:=zc.1.2.2.2.2.1
def env:=zc.1.2.2.2.2.2.1
def E:=zc.1.2.2.2.2.2.2
def K:=zc.2.1.1
def CI:=zc.2.1.2.1
def CL:=zc.2.1.2.2.1
def x:=zc.2.1.2.2.2.1
def dx:=zc.2.1.2.2.2.2.1
def R:=zc.2.1.2.2.2.2.2.1
def l:=zc.2.1.2.2.2.2.2.2
def h:=zc.2.2.1.1
def t:=zc.2.2.1.2.1
def sx:=zc.2.2.1.2.2.1
def sdx:=zc.2.2.1.2.2.2.1
def pb:=zc.2.2.1.2.2.2.2.1
def fs:=zc.2.2.1.2.2.2.2.2.1
def st:=zc.2.2.1.2.2.2.2.2.2
def buf:=zc.2.2.2.1.1
def pos:=zc.2.2.2.1.2.1
def n:=zc.2.2.2.1.2.2.1
def k:=zc.2.2.2.1.2.2.2.1
def ws:=zc.2.2.2.1.2.2.2.2.1
def Q:=zc.2.2.2.1.2.2.2.2.2.1
def fN:=zc.2.2.2.1.2.2.2.2.2.2
def nN:=zc.2.2.2.2.1.1
def qN:=zc.2.2.2.2.1.2.1
def cN:=zc.2.2.2.2.1.2.2.1
def pN:=zc.2.2.2.2.1.2.2.2.1
def fI:=zc.2.2.2.2.1.2.2.2.2.1
def nI:=zc.2.2.2.2.1.2.2.2.2.2.1
def qI:=zc.2.2.2.2.1.2.2.2.2.2.2
def cI:=zc.2.2.2.2.2.1
def pI:=zc.2.2.2.2.2.2.1
def S:=zc.2.2.2.2.2.2.2.1
def zd0:=zc.2.2.2.2.2.2.2.2
def zq :=
 all39 zq0 A B X' fr g env E K CI CL x dx R l h t sx sdx pb fs st buf pos n k ws Q fN nN qN cN pN fI nI qI cI pI S zd0 (by with_unfolding_all rfl) (by
 intro rm hF he hL L LM LI H hz hp hw hk ea MN hfN MI hfI eS q nx inst
 refine s_listCall (n:=ws.length) (tv:=.ref CL) eS H (fun h₂ t2 Q' E' kk qq=>?_) rfl rfl (fun z=>by injection z with z; exact nx z)
  (fun it h3=>it=.ref x∧St H0 B (adr fr) X' env.locals l (lexF CL CI x dx sx sdx pb fs "" true st "" buf pos++((S,ListP [])::R)) h3)
  (fun it i vs h3=>E3 fun st' pos' m=>it=.ref x∧vs.length=i∧i≤ws.length∧Strs vs (ws.take i)∧lxAll m (buf.cps.toList.drop pos') st'=some (ws.drop i)∧pos'≤buf.length∧St H0 B (adr fr) X' env.locals l (lexF CL CI x dx sx sdx pb fs "" true st' "" buf pos'++((S,ListP vs)::R)) h3)
  (fun h₂ t2 Q' E' H2 qq=>?_) (fun it h3 t3 Q' E' m qq=>?_) (fun it h3 m=>?_) (fun it i vs h' j=>?_) (fun it i vs h₁ t1 E' hi j=>?_) (fun it vs h₁ t1 Q' E' j qq=>?_)
 ·obtain ⟨o1,e1,rfl⟩:=H.at (i:=0) rfl
  have l0:Looks (model P w) h₂ (typeOf (.ref x)) (.ref CL):=(Looks.ld (part:=none) (kk _ _ e1)).andThen .now
  exact l0.here (s:=(sh g t2 h₂)) qq
 ·have H3:=H2.perm (G:=lexF CL CI x dx sx sdx pb fs "" true st "" buf pos++((S,ListP [])::R)) List.perm_middle.symm
  obtain ⟨od,I⟩:=inst H3
  have F0:Fr H0 env.locals h₂ _:=⟨H2.lo,H2.low,hL⟩
  refine owit_iter (s:=(sh g t2 h₂)) F0 L.X0 I MI.fa (by unfold isFn; rw [MI.ty]; rfl) (wpAny_call ?_)
  refine it_call (n:=n + 4) (A:=A.in1.in1) (fr:=env::fr) (rm.in1.in1.le (by exact Zf _)) hF (by rw [ea]; exact H2.al) L.bs H2.low hfI fun h4 t4 K₄=>?_
  rw [ea] at K₄
  have H4:=H3.call K₄
  obtain ⟨od,I⟩:=inst H4
  exact owit_it (s:=(sh g t4 h4)) ⟨H4.lo,H4.low,hL⟩ L.X0 I MN.fa (qq _ _ _ ⟨rfl,H4⟩)
 ·obtain ⟨rfl,m⟩:=m
  obtain ⟨o1,e1,rfl⟩:=m.at (i:=0) rfl
  have X:=L.X0.keeps m.low
  have l0:Looks (model P w) h3 (typeOf (.ref x)) (.ref CL):=(Looks.ld (part:=none) e1).andThen .now
  have l1:Looks (model P w) h3 (specialOf (.ref x) "__len__") none:=by
   show Looks _ _ (typeOf (.ref x) >>= fun t=>typeLookup t "__len__") none
   exact l0.andThen (looks_findIn (M:=model P w) X LI.h1)
  have l2:Looks (model P w) h3 (specialOf (.ref x) "__length_hint__") none:=by
   show Looks _ _ (typeOf (.ref x) >>= fun t=>typeLookup t "__length_hint__") none
   exact l0.andThen (looks_findIn (M:=model P w) X LI.h2)
  unfold Builtin.List.listLengthHint
  repeat lk
  exact qq _ _
 ·obtain ⟨rfl,m⟩:=m
  exact ⟨m.at (i:=6) rfl,fun h4 i4 k4=>⟨st,pos,k,rfl,rfl,Zs _,rfl,hw,hp,m.upd 6 rfl k4 i4⟩⟩
 ·obtain ⟨st',pos',m,rfl,hl,hi,_,_,_,j⟩:=j
  exact ⟨j.at (i:=6) rfl,by lia⟩
 ·obtain ⟨st',pos',m,rfl,hl,hle,hv,hm,hp',j⟩:=j
  obtain ⟨od,I⟩:=inst j
  have F0:Fr H0 env.locals h₁ _:=⟨j.lo,j.low,hL⟩
  cases m with
  | zero=>cases hm
  | succ m =>
  unfold lxAll at hm
  rw [List.drop_eq_getElem_cons hi] at hm
  split at hm
  ·cases hm
  rename_i s' r' hrun
  split at hm
  ·cases hm
  rename_i tok hres
  obtain ⟨wr,hwr,e0⟩:=Zt.mp hm
  injection e0 with e1 e2
  subst e2
  refine owit_next (s:=(sh g t1 h₁)) F0 L.X0 I MN.fa (by unfold isFn; rw [MN.ty]; rfl) (wpAny_call ?_)
  refine nx_call (n:=n) (A:=A.in1.in1) (fr:=env::fr) (rm.in1.in1) hF (by rw [ea]; exact j.al) L LM j.low hfN hz hp' hrun (by rw [ea]; exact j.lump) (fun tok' ht' h4 t4 tr p4 S4 hd4 hp4=>?_) (fun ht'=>?_)
  ·rw [hres] at ht'
   cases ht'
   rw [ea] at S4
   have j4:=j.step S4
   refine ⟨_,h4,t4,rfl,rfl,j4.at (i:=6) rfl,fun h5 i5 k5=>⟨s'.st,p4,m,rfl,by simp [hl],hi,?_,by rw [hd4]; exact hwr,hp4,j4.upd 6 rfl k5 i5⟩⟩
   rw [List.take_succ_eq_append_getElem hi,← e1]
   exact hv.app rfl
  ·rw [hres] at ht'; cases ht'
 ·obtain ⟨st',pos',m,rfl,hl,hle,hv,hm,hp',j⟩:=j
  obtain ⟨od,I⟩:=inst j
  have F0:Fr H0 env.locals h₁ _:=⟨j.lo,j.low,hL⟩
  cases m with
  | zero=>cases hm
  | succ m =>
  unfold lxAll at hm
  rw [List.drop_length] at hm
  rw [List.take_length] at hv
  split at hm
  ·cases hm
  rename_i s' r' hrun
  split at hm
  ·rename_i hres
   refine owit_next (s:=(sh g t1 h₁)) F0 L.X0 I MN.fa (by unfold isFn; rw [MN.ty]; rfl) (wpAny_call ?_)
   refine nx_call (n:=n) (A:=A.in1.in1) (fr:=env::fr) (rm.in1.in1) hF (by rw [ea]; exact j.al) L LM j.low hfN hz hp' hrun (by rw [ea]; exact j.lump) (fun tok' ht' h4 t4 tr p4 S4 hd4 hp4=>?_) (fun _ hm h4 t4 e p4 S4 x4=>?_)
   ·rw [hres] at ht'; cases ht'
   ·rw [ea] at S4
    have j4:=j.step S4
    have K4:=x4.kp
    rw [ea] at K4
    have j5:=j4.call K4
    refine wpAny_isInstance x4.typeIs isSubtype_stop ?_
    exact qq _ _ (q _ _ _ _ _ hv j5)
  ·obtain ⟨_,_,e0⟩:=Zt.mp hm
   cases e0)
end zp0
end s_listLex
section
variable {A:Around} {B:Heap} {fa X':List Addr} {L:Addr} {fr:List Env} {g:Array GenState} {K:Frag} {CI CL:Addr} {E:Value→Shared→Prop} {env:Env} {x:Str} {dx:Addr} {name qual:Str} {cd pm:Value} {Q:Value→Shared→Prop} {pos:Pos} {y:Str} {CT CB dt C CO:Addr} {buf:Str} {F:Fs} {n:Nat} {l:List (Str×Value)} {v:Value} {h:Heap} {t:Nat}
theorem s_listLex:s_listLex_S:=@Wr.out _ s_listLex.zp0.zq
theorem put_new:∀ {l:List (Str×Value)} {n:Str} {v:Value},(l.all fun p=>!(p.1 == n))=true→put l n v=l++[(n,v)]
 | [],_,_,_=>rfl
 | (k,u)::r,n,v,h=>by
  rw [List.all_cons,Bool.and_eq_true,Bool.not_eq_true'] at h
  have:(n == k)=false:=by
   have:=Zp.mp h.1
   exact Zp.mpr fun e=>this e.symm
  unfold put
  rw [this,if_neg Yk,put_new h.2]; rfl
theorem isStr_type:typeOf (.type "str")=pure (.type "type"):=by kernel_rfl
theorem isStr_str:isSubtype (.type "str") (.type "str")=pure true:=by rw [isSubtype_type]; kernel_rfl
section
variable {x:Addr} {R:Fs} {la:List (Str×Value)}
theorem s_setNew {Q:Unit→Shared→Prop} (k:ClsK K C true) (X:K.In h) (hn:findIn K (.ref C) name=some none) (H:St H0 B fa X' L l ((x,InP C dx #[])::(dx,AtP la)::R) h) (hz:la.length≤100) (ha:(la.all fun p=>!(p.1 == name))=true)
  (q:∀ h' t',St H0 B fa X' L l ((x,InP C dx #[])::(dx,AtP (la++[(name,v)]))::R) h'→Q () (sh g t' h')):wpAny (model P w) A (setAttr (.ref x) name v) Q E (sh g t h):=by
 refine i_set k X (taker_none hn) (H.at (i:=0) rfl) (H.at (i:=1) rfl) hz fun h' t' i' k'=>q _ _ ?_
 rw [put_new ha] at i'
 exact H.upd 1 rfl k' i'
end
theorem bLI {g} {x:Value} {t} (hd:Is h dt (TupP [.none,.none,.bool false,.bool false])) (Q:List (Str×Value)→Shared→Prop) (E:Value→Shared→Prop)
 (hq:Q [("self",x),("instream",v),("infile",.none),("posix",.bool true),("punctuation_chars",.bool false)] (sh g t h)):wpAny (model P w) A (bindArgs (mdF 32 0 name qual cd pm (.ref dt)) ⟨[x,v],[("posix",.bool true)]⟩) Q E (sh g t h):=by
 obtain ⟨o,ho,n,rfl⟩:=hd
 exact wl1 ho hq (by kernel_rfl)
structure LexC (H0:Heap) (mg mb:Str→Option Value) (K:Frag) (CL CI CT CO CB:Addr):Prop where
 io:IoNew H0 mg mb K CI CT CO CB
 si:E8 fun f name qual cd pm dt ta tb=>MethK K CI "__init__" f∧Fn H0 f (mdF 22 1 name qual cd pm (.ref dt))∧Is H0 dt (TupP [.str "" ta,.str "\n" tb])
 tr:E5 fun f name qual cd pm=>MethK K CI "_StringIO__translated" f∧Fn H0 f (mdF 22 2 name qual cd pm .none)
 kS:keepIn K (.ref CI)=true
 kL:keepIn K (.ref CL)=true
 mL:makesIn K CL=true
 ny:NamesY mg mb
 dq:mg "deque" = some (.type "collections.deque")
 li:E6 fun f name qual cd pm dt=>MethK K CL "__init__" f∧Fn H0 f (mdF 32 0 name qual cd pm (.ref dt))∧Is H0 dt (TupP [.none,.none,.bool false,.bool false])
theorem s_newSio {tv:Tok} (rm:Rm A (n + 4)) (hF:Frs A (env::fr)) (he:env.frame=some env.locals) (L:LxE H0 mg mb K CL CI) (LC:LexC H0 mg mb K CL CI CT CO CB) (H:St H0 B (adr fr) X' env.locals l F h)
  (q:∀ sx sdx h' t',St H0 B (adr fr) X' env.locals l (F++sioF CI sx sdx buf 0) h'→Q (.ref sx) (sh g t' h')):wpAny (model P w) A (call (.ref CI) [.str buf tv]) Q E (sh g t h):=by
 have ea:adr (env::fr)=env.locals::adr fr:=by show List.filterMap _ _=_; rw [List.filterMap_cons,he]
 obtain ⟨fI,nI,qI,cI,pI,dt,ta,tb,MI,hfI,hdt⟩:=LC.si
 obtain ⟨ft,nt,qt,ct,pt,MT,hft⟩:=LC.tr
 refine s_makeS (n:=n + 2) rm hF he L.bs L.X0 LC.io MI H fun sx sdx h1 t1 n1 n2 H1=>?_
 refine sioinit_call (n:=n + 1) (rm.under CI _ _) (hF.under CI _ _) (by rw [ea]; exact H1.al) L.bs H1.low hfI hdt L.X0 L.sk LC.ny MT hft (by rw [ea]; exact St.lump (G:=[(sx,InP CI sdx #[]),(sdx,AtP [])]) H1) fun h2 t2 S=>?_
 rw [ea] at S
 exact ⟨rfl,q _ _ _ _ ((St.step (G:=[(sx,InP CI sdx #[]),(sdx,AtP [])]) H1 S).perm Zi)⟩
theorem s_newDeq {np:Pos} (L:LxE H0 mg mb K CL CI) (LC:LexC H0 mg mb K CL CI CT CO CB) (H:St H0 B (adr fr) X' env.locals l F h)
  (q:∀ pb h' t',St H0 B (adr fr) X' env.locals l (F++[(pb,DeqP)]) h'→Q (.ref pb) (sh g t' h'))
  (hk:autoParam (env.scope.kind=.function) tR) (hl:autoParam (env.kindOf "deque" = some .globalImplicit) tR) (hg:autoParam (env.globals=mainGlobals) tR):wpAny (model P w) A (eval (.Call (.Name "deque" np) [] [] pos) env) Q E (sh g t h) :=
 Call_Name0 (s_gname L.bs H.low LC.dq (PyProof.Rows.callWith_type rfl (evalArgs_nil3 (s_deque fun h' t' kk n I _=>q _ _ _ ((H.add (.of fun b o e _=>kk b o e) n I).perm (Zi (l₁:=[_]))))) ) hk hl hg)
theorem s_cs {k:Str} {kd:Nat} {p:Pos} (q:∀ t0 t',Q (.str k t0) (sh g t' h)):wpAny (model P w) A (eval (.Constant (.str k) kd p) env) Q E (sh g t h):=Zo (q _ _)
theorem s_iadd {tx ty:Tok} (hz:x.length + y.length≤10000) (q:∀ t0 t',Q (.str (x++y) t0) (sh g t' h)):wpAny (model P w) A (inplaceOp .Add (.str x tx) (.str y ty)) Q E (sh g t h):=PySem.SB.iadd (fun _ _=>q _ _) (Ye hz (by decide))
noncomputable def li_call_S:Prop:=∀ {A:Around} {fr:List Env} {g} {K:Frag} {CI CL CT CO CB x dx:Addr} {R:Result→Shared→Prop} {h:Heap} {t} {f:Addr} {name qual:Str} {cd pm:Value} {dt:Addr} {buf:Str} {tv:Tok} {n:Nat} (rm:Rm A (n + 5)) (hfr:Frs A fr) (al:Alive H0 (adr fr) h) (L:LxE H0 mg mb K CL CI) (LC:LexC H0 mg mb K CL CI CT CO CB) (low:∀ a o,H0.get? a=some o→h.get? a=some o) (hf:Fn H0 f (mdF 32 0 name qual cd pm (.ref dt))) (hdt:Is H0 dt (TupP [.none,.none,.bool false,.bool false])) (M:Lump H0 (adr fr) h [(x,InP CL dx #[]),(dx,AtP [])]) (hR:∀ h' t' sx sdx pb fs,Step (adr fr) h [(x,InP CL dx #[]),(dx,AtP [])] h' (lexF CL CI x dx sx sdx pb fs "#" false (some " ") "" buf 0)→R (.ok (.ret .none)) (sh g t' h')),codeAny (model P w) A (.call (.ref f) ⟨[.ref x,.str buf tv],[("posix",.bool true)]⟩) R (sh g t h)
end
namespace li_call
def zq0:=fun zk0=>(by
 intro A fr g K CI CL CT CO CB x dx R h t f name qual cd pm dt buf tv n rm hfr al L LC low hf hdt M hR
 refine s_enterQ L.bs low hf hfr al rm.room rfl (fun Q E q=>bLI (hdt.at fun o e=>low _ _ e) Q E q) fun env A' h1 t1 QQ EE ee hA qr qn H0' hF=>?_
 have rm':Rm A' (n + 4):=hA ▸ rm.deeper env
 clear hA
 subst ee
 generalize h.objs.size=Lo at H0' hF ⊢
 have H:St H0 h (adr fr) [x,dx] Lo _ ([(x,InP CL dx #[]),(dx,AtP [])]++[]) h1:=H0'.own M
 clear H0'
 clear rm hfr al low hf hdt M qr
 revert L LC hR qn rm' hF H
 have zd0:Nat:=0
 have zd1:Nat:=0
 have zd2:Nat:=0
 have zd3:Nat:=0
 have zd4:Nat:=0
 have zd5:Nat:=0
 have zd6:Nat:=0
 revert fr g K CI CL CT CO CB x dx R h f name qual cd pm dt buf tv n A' h1 t1 QQ EE Lo zd0 zd1 zd2 zd3 zd4 zd5 zd6
 exact zk0:li_call_S)
namespace zp0
@[irreducible] def zc:=pick34 zq0 (by (repeat any_goals apply np)<;>first | exact neW | exact neA | exact neD | exact neS | infer_instance | exact ⟨by constructor<;>exact default⟩)
def fr:=zc.1.1
def g:=zc.1.2.1
def K:=zc.1.2.2.1
def CI:=zc.1.2.2.2.1
def CL:=zc.1.2.2.2.2.1
def CT:=zc.1.2.2.2.2.2.1
def CO:=zc.1.2.2.2.2.2.2
def CB:=zc.2.1.1
def x:=zc.2.1.2.1
def dx:=zc.2.1.2.2.1
def R:=zc.2.1.2.2.2.1
def h:=zc.2.1.2.2.2.2.1
def f:=zc.2.1.2.2.2.2.2.1
def name:=zc.2.1.2.2.2.2.2.2
def qual:=zc.2.2.1.1
def cd:=zc.2.2.1.2.1
def pm:=zc.2.2.1.2.2.1
def dt:=zc.2.2.1.2.2.2.1
def buf:=zc.2.2.1.2.2.2.2.1
def tv:=zc.2.2.1.2.2.2.2.2.1
def n:=zc.2.2.1.2.2.2.2.2.2
def A':=zc.2.2.2.1.1
def h1:=zc.2.2.2.1.2.1
def t1:=zc.2.2.2.1.2.2.1
def QQ:=zc.2.2.2.1.2.2.2.1
def EE:=zc.2.2.2.1.2.2.2.2.1
def Lo:=zc.2.2.2.1.2.2.2.2.2.1
def zd0:=zc.2.2.2.1.2.2.2.2.2.2
def zd1:=zc.2.2.2.2.1
def zd2:=zc.2.2.2.2.2.1
def zd3:=zc.2.2.2.2.2.2.1
def zd4:=zc.2.2.2.2.2.2.2.1
def zd5:=zc.2.2.2.2.2.2.2.2.1
def zd6:=zc.2.2.2.2.2.2.2.2.2
def zq :=
 all34 zq0 fr g K CI CL CT CO CB x dx R h f name qual cd pm dt buf tv n A' h1 t1 QQ EE Lo zd0 zd1 zd2 zd3 zd4 zd5 zd6 (by with_unfolding_all rfl) (by
 intro L LC hR qn rm' hF H
 refine s_cons ?_
 intro _ q1 _
 refine Zh (Zv (s_bcall2 L.bs H.low LC.ny.i0 LC.ny.i1 (s_ld H (s_bname L.bs H.low LC.ny.s0 LC.ny.s1 (call_isinstance_yes (Tx := "str") (typeIs_str _ _ _) isStr_type isStr_str (Yi ?_))))))
 rw [if_pos rfl]
 refine s_one (Yq (Zb (s_gname L.bs H.low LC.io.gs (callWith_K (h₀:=H0) L.X0 LC.kS (Yz (s_ld H (Zn ⟨L.X0.keeps H.low,?_⟩)))))))
 refine s_newSio (n:=n) rm' hF rfl L LC H fun sx sdx h2 t2 H2=>s_st H2 fun h3 t3 H3=>q1 _ ?_
 clear q1 H H2
 replace H3:St H0 h (adr fr) [x,dx] Lo _ ((x,InP CL dx #[])::(dx,AtP [])::sioF CI sx sdx buf 0) h3:=H3
 refine s_cons ?_
 intro _ q1 _
 refine Zh (Yg (s_ld H3 (Zg (isNot_none (Yi ?_)))))
 rw [if_pos (by rfl)]
 refine s_cons ?_
 intro _ q2 _
 refine Yl (s_ld H3 (s_ld H3 (s_setNew L.lk.k (L.X0.keeps H3.low) L.lk.a0 H3 (Yw (by rfl)) (by rfl) fun h4 t4 H4=>q2 _ ?_)))
 clear q2 H3
 refine s_one (Yl (s_ld H4 (s_ld H4 (s_setNew L.lk.k (L.X0.keeps H4.low) L.lk.a1 H4 (Yw (by rfl)) (by rfl) fun h5 t5 H5=>q1 _ ?_))))
 clear q1 H4
 refine s_cons ?_
 intro _ q1 _
 refine Yl (s_ld H5 (s_ld H5 (s_setNew L.lk.k (L.X0.keeps H5.low) L.lk.a2 H5 (Yw (by rfl)) (by rfl) fun h6 t6 H6=>q1 _ ?_)))
 clear q1 H5
 refine s_cons ?_
 intro _ q1 _
 refine Zh (Zv (s_ld H6 (Yi ?_)))
 rw [if_pos rfl]
 refine s_one (Yl (Zg (s_ld H6 (s_setNew L.lk.k (L.X0.keeps H6.low) L.lk.a3 H6 (Yw (by rfl)) (by rfl) fun h7 t7 H7=>q1 _ ?_))))
 clear q1 H6
 refine s_cons ?_
 intro _ q1 _
 refine Yl (s_cs fun tc1 _=>(s_ld H7 (s_setNew L.lk.k (L.X0.keeps H7.low) L.lk.a4 H7 (Yw (by rfl)) (by rfl) fun h8 t8 H8=>q1 _ ?_)))
 clear q1 H7
 refine s_cons ?_
 intro _ q1 _
 refine Yl (s_cs fun tc2 _=>(s_ld H8 (s_setNew L.lk.k (L.X0.keeps H8.low) L.lk.a5 H8 (Yw (by rfl)) (by rfl) fun h9 t9 H9=>q1 _ ?_)))
 clear q1 H8
 refine s_cons ?_
 intro _ q1 _
 refine Zh (Zv (s_attr L.lk.k (L.X0.keeps H9.low) L.lk.a2 (H9.at (i:=0) rfl) (H9.at (i:=1) rfl) (fun Q q=>s_ld H9 q) rfl rfl fun t10=>Yi ?_))
 rw [if_pos rfl]
 refine s_one (wpAny_AugAssign_AttributeAny (s_ld H9 (i_get L.lk.k (L.X0.keeps H9.low) L.lk.a5 (H9.at (i:=0) rfl) (H9.at (i:=1) rfl) rfl rfl fun t11=>s_cs fun _ _=>s_iadd (by decide) fun tw _=>i_set L.lk.k (L.X0.keeps H9.low) (taker_none L.lk.a5) (H9.at (i:=0) rfl) (H9.at (i:=1) rfl) (Yw (by rfl)) fun h10 t12 i' k'=>q1 _ ?_)))
 clear q1
 have H10:St H0 h (adr fr) [x,dx] Lo _ ((x,InP CL dx #[])::(dx,AtP [("instream",.ref sx),("infile",.none),("posix",.bool true),("eof",.none),("commenters",.str "#" tc1),("wordchars",.str lxW tw)])::sioF CI sx sdx buf 0) h10:=H9.upd 1 rfl k' i'
 clear H9 i' k'
 refine s_cons ?_
 intro _ q1 _
 refine Yl (s_cs fun tc3 _=>(s_ld H10 (s_setNew L.lk.k (L.X0.keeps H10.low) L.lk.a6 H10 (Yw (by rfl)) (by rfl) fun h11 t14 H11=>q1 _ ?_)))
 clear q1 H10
 refine s_cons ?_
 intro _ q1 _
 refine Yl (wpAny_Constant_bool (s_ld H11 (s_setNew L.lk.k (L.X0.keeps H11.low) L.lk.a7 H11 (Yw (by rfl)) (by rfl) fun h12 t15 H12=>q1 _ ?_)))
 clear q1 H11
 refine s_cons ?_
 intro _ q1 _
 refine Yl (s_cs fun tc4 _=>(s_ld H12 (s_setNew L.lk.k (L.X0.keeps H12.low) L.lk.a8 H12 (Yw (by rfl)) (by rfl) fun h13 t16 H13=>q1 _ ?_)))
 clear q1 H12
 refine s_cons ?_
 intro _ q1 _
 refine Yl (s_cs fun tc5 _=>(s_ld H13 (s_setNew L.lk.k (L.X0.keeps H13.low) L.lk.a9 H13 (Yw (by rfl)) (by rfl) fun h14 t17 H14=>q1 _ ?_)))
 clear q1 H13
 refine s_cons ?_
 intro _ q1 _
 refine Yl (s_cs fun tc6 _=>(s_ld H14 (s_setNew L.lk.k (L.X0.keeps H14.low) L.lk.a10 H14 (Yw (by rfl)) (by rfl) fun h15 t18 H15=>q1 _ ?_)))
 clear q1 H14
 refine s_cons ?_
 intro _ q1 _
 refine Yl (s_cs fun tc7 _=>(s_ld H15 (s_setNew L.lk.k (L.X0.keeps H15.low) L.lk.a11 H15 (Yw (by rfl)) (by rfl) fun h16 t19 H16=>q1 _ ?_)))
 clear q1 H15
 refine s_cons ?_
 intro _ q1 _
 refine Yl (s_newDeq L LC H16 fun da12 h17 t20 H17=>?_)
 replace H17:St H0 h (adr fr) [x,dx] Lo _ (_::_::_) h17:=H17
 refine s_ld H17 (s_setNew L.lk.k (L.X0.keeps H17.low) L.lk.a12 H17 (Yw (by rfl)) (by rfl) fun h18 t21 H18=>q1 _ ?_)
 clear q1 H16 H17
 refine s_cons ?_
 intro _ q1 _
 refine Yl (s_ci fun tia13 _=>s_ld H18 (s_setNew L.lk.k (L.X0.keeps H18.low) L.lk.a13 H18 (Yw (by rfl)) (by rfl) fun h19 t22 H19=>q1 _ ?_))
 clear q1 H18
 refine s_cons ?_
 intro _ q1 _
 refine Yl (s_ci fun tia14 _=>s_ld H19 (s_setNew L.lk.k (L.X0.keeps H19.low) L.lk.a14 H19 (Yw (by rfl)) (by rfl) fun h20 t23 H20=>q1 _ ?_))
 clear q1 H19
 refine s_cons ?_
 intro _ q1 _
 refine Yl (s_cs fun tc8 _=>(s_ld H20 (s_setNew L.lk.k (L.X0.keeps H20.low) L.lk.a15 H20 (Yw (by rfl)) (by rfl) fun h21 t24 H21=>q1 _ ?_)))
 clear q1 H20
 refine s_cons ?_
 intro _ q1 _
 refine Yl (s_newDeq L LC H21 fun da16 h22 t25 H22=>?_)
 replace H22:St H0 h (adr fr) [x,dx] Lo _ (_::_::_) h22:=H22
 refine s_ld H22 (s_setNew L.lk.k (L.X0.keeps H22.low) L.lk.a16 H22 (Yw (by rfl)) (by rfl) fun h23 t26 H23=>q1 _ ?_)
 clear q1 H21 H22
 refine s_cons ?_
 intro _ q1 _
 refine Yl (Zg (s_ld H23 (s_setNew L.lk.k (L.X0.keeps H23.low) L.lk.a17 H23 (Yw (by rfl)) (by rfl) fun h24 t27 H24=>q1 _ ?_)))
 clear q1 H23
 refine s_cons ?_
 intro _ q1 _
 refine Zh (isTrue_not (Zv (s_ld H24 (Yi ?_))))
 rw [if_pos (by rfl)]
 refine s_one (Yq (s_cs fun tc9 _=>(s_st H24 fun h25 t28 H25=>q1 _ ?_)))
 clear q1 H24
 refine s_cons ?_
 intro _ q1 _
 refine Yl (s_ld H25 (s_ld H25 (s_setNew L.lk.k (L.X0.keeps H25.low) L.lk.a18 H25 (Yw (by rfl)) (by rfl) fun h26 t29 H26=>q1 _ ?_)))
 clear q1 H25
 refine s_one (Zh (Zv (s_ld H26 (t_tS (x := "") (by decide) fun _=>?_))))
 rw [if_neg (by decide)]
 refine Ym (qn _ (hR _ _ sx sdx da12 da16 ?_))
 have HF:St H0 h (adr fr) [x,dx] Lo _ (lexF CL CI x dx sx sdx da12 da16 "#" false (some " ") "" buf 0++[]) h26:=H26.upd 1 rfl (fun _ _ _ e=>e) (p':=LexP sx da12 da16 "#" false (some " ") "") ((H26.at (i:=1) rfl).mono fun o z=>⟨fun i=>([0,0,0,0,tc1,tw,tc3,0,tc4,tc5,tc6,tc7,0,tia13,tia14,tc8,0,0,tc9]:List Tok).getD i 0,z⟩)
 exact St.toStep (G:=[(x,InP CL dx #[]),(dx,AtP [])]) (R:=[]) HF fun b hb=>Zr _ hb)
end zp0
end li_call
section
variable {A:Around} {B:Heap} {fa X:List Addr} {L:Addr} {fr:List Env} {g:Array GenState} {K:Frag} {CI CL CS CN:Addr} {nv:Nat→Value} {N:Nat} {E:Value→Shared→Prop} {env:Env} {x:Str} {fd:FuncData} {name qual:Str} {cd pm kwd:Value} {R:Result→Shared→Prop} {Q:Value→Shared→Prop} {pos:Pos} {e:Expr} {na:Addr} {ys:List Value} {fs:Addr} {S:List (List Str)} {py:Pos} {W:List Str} {LB:List Int} {β:Type} {IP:Nat→OP} {e2:Expr} {p1:Pos} {id:String} {Old:Heap→Prop} {ifs:List Expr} {CB:Addr} {elt:Expr} {M:Model} {st:Option Str} {bi:Addr} {cenv:Env} {CO:Addr} {apos:Pos} {PI:Nat→OP} {ks:List Int} {buf:Str} {scope:Scope} {cp:Pos} {tk:Str} {ρ:List (Str×Value)} {value:Expr} {px:Pos} {b:Addr} {x1:Nat} {o:Obj} {y:Str} {it:Addr} {p2:Pos} {CT:Addr} {cl:List (Str×Addr)} {j:Nat} {dt:Addr} {nvs ws:List Value} {α:Type} {e1:Expr} {self:Value} {NM:List Str} {k:Nat} {a f:Addr} {body:List Stmt} {F:Fs} {G:GenE} {n:Nat} {l:List (Str×Value)} {i:Nat} {xs vs:List Value} {ss:List Str} {v:Value} {s:Shared} {h' h:Heap} {t:Nat}
theorem li_call:li_call_S:=@Wr.out _ li_call.zp0.zq
theorem b33 {g} {t} (hd:Is h dt (TupP [.bool false,.bool true])) (Q:List (Str×Value)→Shared→Prop) (E:Value→Shared→Prop)
 (hq:Q [("s",v),("comments",.bool false),("posix",.bool true)] (sh g t h)):wpAny (model P w) A (bindArgs { fdF 33 name cd pm kwd with defaults:=.ref dt } ⟨[v],[]⟩) Q E (sh g t h):=by
 obtain ⟨o,ho,n,rfl⟩:=hd
 exact wl1 ho hq (by kernel_rfl)
theorem split_call {g} {t} {tv:Tok} {ws:List Str}
  (rm:Rm A (n + 9)) (hfr:Frs A fr) (al:Alive H0 (adr fr) h) (L:LxE H0 mg mb K CL CI) (LC:LexC H0 mg mb K CL CI CT CO CB) (LM:LexM H0 mg mb K CL) (LI:LexI K CL) (low:∀ a o,H0.get? a=some o→h.get? a=some o) (hf:Fn H0 f { fdF 33 name cd pm kwd with defaults:=.ref dt }) (hdt:Is H0 dt (TupP [.bool false,.bool true]))
  (gl:mg "shlex" = some (.ref CL)) (top:H0.get? (H0.objs.size - 1)≠none) (hz:buf.length≤9000) (hw:lxAll k buf.cps.toList (some " ")=some ws) (hk:ws.length≤1000)
  (hR:∀ h' t' a vs,Kp (adr fr) [] h h'→h.get? a=none→Is h' a (ListP vs)→Strs vs ws→R (.ok (.ret (.ref a))) (sh g t' h')) :
  codeAny (model P w) A (.call (.ref f) ⟨[.str buf tv],[]⟩) R (sh g t h):=by
 obtain ⟨fI,nI,qI,cI,pI,dI,MI,hfI,hdI⟩:=LC.li
 refine s_enterQ L.bs low hf hfr al rm.room rfl (fun Q E q=>b33 (hdt.at fun o e=>low _ _ e) Q E q) fun env A' h1 t1 QQ EE ee hA qr qn H hF=>?_
 have rm':Rm A' (n + 8):=hA ▸ rm.deeper env
 clear hA
 subst ee
 have hL:H0.objs.size≤h.objs.size:=by
  obtain ⟨o,e⟩:=Option.ne_none_iff_exists'.mp top
  exact Nat.le_of_pred_lt (Heap.lt_size (low _ _ e))
 generalize h.objs.size=Lo at H hF hL ⊢
 refine s_cons ?_
 intro _ q1 _
 refine Zh (Yg (s_ld H (Zg (is_none (Yi ?_)))))
 rw [if_neg (by rintro ⟨⟩)]
 refine Ym (q1 _ ?_)
 clear q1
 refine s_cons ?_
 intro _ q1 _
 refine Yq ?_
 refine (?_:wpAny _ _ (eval (.Name _ _) _ >>= fun f=>callWith _ f [] _ _) _ _ _)
 refine Yd (s_gname L.bs H.low gl ?_)
 refine callWith_KW (M:=model P w) (h₀:=H0) L.X0 LC.kL (by rfl) (Yz (s_ld H (Zn (kwAll_cons (s_ld H (kwAll_nil ⟨L.X0.keeps H.low,?_⟩))))))
 refine s_make H (L.X0.keeps H.low) LC.mL MI fun x dx h2 n1 n2 H2=>?_
 refine li_call (n:=n + 2) (rm'.under CL _ _) (hF.under CL _ _) H2.al L LC H2.low hfI hdI (St.lump (G:=[(x,InP CL dx #[]),(dx,AtP [])]) H2) fun h3 t3 sx sdx pb fs S=>⟨rfl,?_⟩
 refine s_st (St.step (G:=[(x,InP CL dx #[]),(dx,AtP [])]) H2 S) fun h4 t4 H4=>q1 _ ?_
 clear q1 S H2 H
 refine s_cons ?_
 intro _ q1 _
 obtain ⟨T,oD⟩:=LexP.at' (H4.at (i:=1) rfl)
 refine Yl (wpAny_Constant_bool (s_ld H4 (i_set L.lk.k (L.X0.keeps H4.low) (taker_none L.lk.a7) (H4.at (i:=0) rfl) oD (Yw (by rfl)) fun h5 t5 i' k'=>q1 _ ?_)))
 rw [lex_putWs] at i'
 have H5:=H4.upd 1 rfl k' (p':=LexP sx pb fs "#" true (some " ") "") (i'.mono fun o z=>⟨T,z⟩)
 clear q1 i' k' oD H4
 refine s_cons ?_
 intro _ q1 _
 refine Zh (isTrue_not (Zv (s_ld H5 (Yi ?_))))
 rw [if_pos (by rfl)]
 obtain ⟨T',oD⟩:=LexP.at' (H5.at (i:=1) rfl)
 refine s_one (Yl (s_cs fun tc _=>s_ld H5 (i_set L.lk.k (L.X0.keeps H5.low) (taker_none L.lk.a4) (H5.at (i:=0) rfl) oD (Yw (by rfl)) fun h6 t6 i' k'=>q1 _ ?_)))
 rw [lex_putCo] at i'
 have H6:St H0 h (adr fr) [] Lo _ (lexF CL CI x dx sx sdx pb fs "" true (some " ") "" buf 0++[]) h6:=H5.upd 1 rfl k' (p':=LexP sx pb fs "" true (some " ") "") (i'.mono fun o z=>⟨_,z⟩)
 clear q1 i' k' oD H5
 refine Yh (Zd (s_type1 L.bs H6.low LC.ny.l0 LC.ny.l1 (s_ld H6 ?_)))
 refine s_listLex (n:=n + 1) rm' hF rfl hL L LM LI H6 hz (Zs _) hw hk fun h7 t7 vs st' pos' hv H7=>?_
 exact qr _ _ (hR _ _ _ _ H7.kp (H7.fresh (i:=6) rfl) (H7.at (i:=6) rfl) hv)
theorem s_compLoopC
  {iter:Expr} {D cx:Addr} {vals:Nat→Value→Prop}
  (I:Itr w A it n IP vals Old) (J:Nat→List Value→Fs→Prop) (hit:B.get? it=none)
  (hOld:∀ i vs F m vx h,J i vs F→St H0 B fa X L l ((cenv.locals,NsP m)::(D,ListP vs)::(it,IP i)::(cx,CellP vx)::F) h→Old h)
  (hlen:∀ i vs F,J i vs F→vs.length≤1000)
  (turn:∀ i v vs F h t (m:Str→Option Value),i < n→vals i v→J i vs F→St H0 B fa X L l ((cenv.locals,NsP m)::(D,ListP vs)::(it,IP (i + 1))::(cx,CellP (some v))::F) h →
   wpAny (model P w) A (forIn ifs true fun c r=>if r=true then do let ok ← isTrue c cenv (eval c cenv); pure (ForInStep.yield ok) else pure (ForInStep.yield r)) (fun ok s3 =>
      if ok=true then wpAny (model P w) A (eval elt cenv) (fun y s4=>E3 fun h4 t4 F4=>s4=(sh g t4 h4)∧St H0 B fa X L l ((cenv.locals,NsP m)::(D,ListP vs)::(it,IP (i + 1))::(cx,CellP (some v))::F4) h4∧J (i + 1) (vs++[y]) F4) (fun _ _=>False) s3
      else E3 fun h3 t3 F3=>s3=(sh g t3 h3)∧St H0 B fa X L l ((cenv.locals,NsP m)::(D,ListP vs)::(it,IP (i + 1))::(cx,CellP (some v))::F3) h3∧J (i + 1) vs F3) (fun _ _=>False) (sh g t h))
  (done:∀ vs F h t m vx,J n vs F→St H0 B fa X L l ((cenv.locals,NsP m)::(D,ListP vs)::(cx,CellP vx)::F) h→R (.ok .next) (sh g t h))
  (hl:cenv.kindOf x=some .cell) (hkc:cenv.scope.kind=.function) (hcx:cenv.cells.lookup x=some cx)
  {m:Str→Option Value} {vx:Option Value} (h0:J 0 vs F) (H:St H0 B fa X L l ((cenv.locals,NsP m)::(D,ListP vs)::(it,IP 0)::(cx,CellP vx)::F) h)
  (ht:autoParam (∀ v,letOwnedTupleGo (.Name x px) (.ref it) v=pure ()) tI) :
  codeAny (model P w) A (.compLoop (.ListComp elt [⟨.Name x px,iter,ifs,0⟩] scope pos) 0 (.ref it) (.ref D) cenv) R (sh g t h):=by
 refine codeAny_compLoop_tests (fun k s=>E7 fun h t i vs F m vx=>A5 (s=(sh g t h)) (i≤n) (k=n + 1 - i) (J i vs F) (St H0 B fa X L l ((cenv.locals,NsP m)::(D,ListP vs)::(it,IP i)::(cx,CellP vx)::F) h)) ?_ (n + 1) ⟨h,t,0,vs,F,m,vx,rfl,Zs _,rfl,h0,H⟩ ht
 rintro k s ⟨h,t,i,vs,F,m,vx,rfl,hi,rfl,hj,H⟩
 have o:=hOld i vs F m vx h hj H
 by_cases hlt:i < n
 ·refine I.item i h g t _ _ hlt (H.at (i:=2) rfl) o fun h' v t' hit sb hv=>?_
  have H1:=H.upd 2 rfl sb hit
  refine Zl (wpAny_storeName_cell hkc hl hcx (H1.at (i:=3) rfl).cell fun h2 q2 sb2=>?_)
  have H2:=H1.upd 3 rfl (fun b o hb ho=>(sb2.2 b hb).trans ho) (p':=CellP (some v)) q2
  refine Ze (turn i v vs F h2 _ _ hlt hv hj H2) (fun ok s3 q=>?_) fun _ _ e=>e.elim
  cases ok with
  | false =>
   rw [if_neg Yk] at q ⊢
   obtain ⟨h3,t3,F3,rfl,H3,j3⟩:=q
   exact ⟨n + 1 - (i + 1),by exact Nat.sub_lt_sub_left (Nat.lt_succ_of_lt ‹_›) (Nat.lt_succ_self _),h3,t3,i + 1,vs,F3,_,_,rfl,hlt,rfl,j3,H3⟩
  | true =>
   rw [if_pos rfl] at q ⊢
   refine Ze q (fun y s4 q=>?_) fun _ _ e=>e.elim
   obtain ⟨h4,t4,F4,rfl,H4,j4⟩:=q
   refine wpAny_list_append_plain (H4.at (i:=1) rfl).plain (fun h5 pl sb5=>?_) (by have:=hlen i vs F hj; simp only [List.size_toArray]; exact Ye this (by decide))
   have H5:=H4.upd 1 rfl (fun b o hb ho=>(sb5.2 b hb).trans ho) (p':=ListP (vs++[y])) (isPlain (by simpa using pl))
   exact ⟨n + 1 - (i + 1),by exact Nat.sub_lt_sub_left (Nat.lt_succ_of_lt ‹_›) (Nat.lt_succ_self _),h5,t4,i + 1,vs++[y],F4,_,_,rfl,hlt,rfl,j4,H5⟩
 ·have e:i=n:=Nat.le_antisymm hi (Nat.le_of_not_lt hlt)
  subst e
  refine I.fin h g t _ _ (H.at (i:=2) rfl) o fun h' sb=>?_
  refine done vs F h' t m vx hj (H.chg [it] _ ?_ ?_ (fun b hb hn=>?_) (fun b o hb e=>sb b o (fun q=>hb (by simp [q])) e) ?_)
  ·intro b hb
   simp only [Zu] at hb
   subst hb; simp
  ·exact (List.Sublist.refl _).cons₂ _ |>.trans (by simp)
  ·have:b=it:=by
    simp only [Zq,Yu,not_or] at hb hn
    rcases hb with q | q | q | q | q
    ·exact absurd q hn.1
    ·exact absurd q hn.2.1
    ·exact q
    ·exact absurd q hn.2.2.1
    ·exact absurd q hn.2.2.2
   rw [this]; exact hit
  ·intro y hy
   have hne:y.1≠it:=fun q=>by
    have nd:=H.nd
    simp only [Zq,List.nodup_cons,Yu,not_or] at nd
    rcases Yu.mp hy with rfl | hy
    ·exact nd.1.2.1 q
    rcases Yu.mp hy with rfl | hy
    ·exact nd.2.1.1 q
    rcases Yu.mp hy with rfl | hy
    ·exact nd.2.2.1.1 q.symm
    ·exact nd.2.2.1.2 (q ▸ Yx.mpr ⟨y,hy,rfl⟩)
   refine (H.has y ?_).at fun o e=>sb _ o hne e
   rcases Yu.mp hy with rfl | hy
   ·exact Yc
   rcases Yu.mp hy with rfl | hy
   ·exact Yb _ Yc
   ·exact Yb _ (Yb _ (Yb _ hy))
theorem newEnvC {globals:Addr} {Q:Env→Shared→Prop}
  (hcell:∀ n acc,cellsFrom n scope.names acc=(x,n)::acc) (hpush:∀ h:Heap,pushCells h scope.names=h.push { cls:=.type "cell",data:=.cell none })
  (q:Q (newEnv scope h.objs.size globals ((x,h.objs.size + 1)::cl) qual none .none (some env) bi) (sh g t ((h.push { cls:=.type "dict",data:=.dict #[] }).push { cls:=.type "cell",data:=.cell none }))) :
  wpAny M A (newFunctionEnv scope globals cl [] qual none .none (some env) bi) Q E (sh g t h):=by
 simp only [newFunctionEnv,Option.isSome_some,if_true]
 refine Yd (wpAny_alloc ?_)
 refine Yd (wpAny_layCells _ (fun name kind cells=>by cases hkc:kind == NameKind.cell<;>simp [hkc]) _ _ _ _ ?_)
 rw [hcell,hpush]
 refine Yd ?_
 rw [List.forIn_nil]
 refine Yn (Yn ?_)
 rw [show ({ cls:=.type "dict",data:=.dict #[] }:Obj) = { cls:=.type "dict",data:=.dict #[] } from rfl] at q
 rw [show (Shared.mk (h.push { cls:=.type "dict",data:=.dict #[] }) g d t os).heap.objs.size=h.objs.size + 1 from Heap.size_push ..]
 exact q
theorem s_compCoreC {RR:Value→Addr→Result→Shared→Prop}
  {iter:Expr} {vals:Nat→Value→Prop}
  (H:St H0 B fa X L l ((it,IP 0)::F) h) (I:Itr w A it n IP vals Old) (hit:B.get? it=none) (J:Nat→List Value→Fs→Prop) (h0:J 0 [] F)
  (hOld:∀ C D cx i vs F m vx h,J i vs F→St H0 B fa X L l ((C,NsP m)::(D,ListP vs)::(it,IP i)::(cx,CellP vx)::F) h→Old h)
  (hlen:∀ i vs F,J i vs F→vs.length≤1000)
  (turn:∀ C D cx i v vs F h t (m:Str→Option Value),i < n→vals i v→J i vs F→St H0 B fa X L l ((C,NsP m)::(D,ListP vs)::(it,IP (i + 1))::(cx,CellP (some v))::F) h →
   wpAny (model P w) A (forIn ifs true fun c r=>if r=true then do let ok ← isTrue c (compEnvC scope ((x,cx)::cl) C env) (eval c (compEnvC scope ((x,cx)::cl) C env)); pure (ForInStep.yield ok) else pure (ForInStep.yield r)) (fun ok s3 =>
      if ok=true then wpAny (model P w) A (eval elt (compEnvC scope ((x,cx)::cl) C env)) (fun y s4=>E3 fun h4 t4 F4=>s4=(sh g t4 h4)∧St H0 B fa X L l ((C,NsP m)::(D,ListP vs)::(it,IP (i + 1))::(cx,CellP (some v))::F4) h4∧J (i + 1) (vs++[y]) F4) (fun _ _=>False) s3
      else E3 fun h3 t3 F3=>s3=(sh g t3 h3)∧St H0 B fa X L l ((C,NsP m)::(D,ListP vs)::(it,IP (i + 1))::(cx,CellP (some v))::F3) h3∧J (i + 1) vs F3) (fun _ _=>False) (sh g t h))
  (done:∀ C D cx vs F h' t' m vx,J n vs F→B.get? C=none→B.get? cx=none→St H0 B fa X L l ((C,NsP m)::(D,ListP vs)::(cx,CellP vx)::F) h'→RR (.ref D) C (.ok .next) (sh g t' h'))
  (hcell:∀ n acc,cellsFrom n scope.names acc=(x,n)::acc) (hpush:∀ h:Heap,pushCells h scope.names=h.push { cls:=.type "cell",data:=.cell none }) (hk:scope.kind=.function) (hl:(relabel scope env).names.lookup x=some .cell) :
  wpAny (model P w) A (newList []) (fun acc s3=>wpAny (model P w) A (newFunctionEnv scope env.globals cl [] env.qual none .none (some env) bi) (fun cenv s4 =>
   codeAny (model P w) A (.compStart (.ListComp elt [⟨.Name x px,iter,ifs,0⟩] scope pos) 0 (.ref it) acc { cenv with scope:=relabel scope env }) (RR acc cenv.locals) s4) E s3) E (sh g t h):=by
 refine wpAny_newList ?_ (Zs _)
 have H1:=H.push { cls:=.type "list",data:=.seq ([]:List Value).toArray } (p:=ListP []) ⟨0,rfl⟩
 refine newEnvC hcell hpush ?_
 have H2:=(H1.push { cls:=.type "dict",data:=.dict #[] } (p:=NsP fun _=>none) ⟨#[],_,rfl,fun e he=>absurd he (by simp),fun _=>rfl⟩).push { cls:=.type "cell",data:=.cell none } (p:=CellP none) rfl
 rw [Heap.size_push (h.push { cls:=.type "list",data:=.seq ([]:List Value).toArray })] at H2
 have nC:=H1.notOld (Yy (Zf _))
 have nX:=H1.notOld (Yy (Nat.le_succ _))
 generalize (h.push { cls:=.type "list",data:=.seq ([]:List Value).toArray }).objs.size=C at H2 nC nX ⊢
 generalize eD:h.objs.size=D at H2 ⊢
 have H3:=H2.perm (G:=(C,NsP fun _=>none)::(D,ListP [])::(it,IP 0)::(C + 1,CellP none)::F) (by
  refine (List.Perm.swap _ _ _).trans (.cons _ ((List.Perm.swap _ _ _).trans (.cons _ (List.Perm.swap _ _ _)))))
 have loop:∀ t',codeAny (model P w) A (.compLoop (.ListComp elt [⟨.Name x px,iter,ifs,0⟩] scope pos) 0 (.ref it) (.ref D) (compEnvC scope ((x,C + 1)::cl) C env)) (RR (.ref D) C) (sh g t' _):=fun t'=>by
  refine s_compLoopC (cx:=C + 1) (cenv:=compEnvC scope ((x,C + 1)::cl) C env) I J hit (fun i vs F m vx h j S=>hOld _ _ _ i vs F m vx h j S) hlen (fun i v vs F h t m a b c S=>turn _ _ _ i v vs F h t m a b c S) (fun vs F h' t' m vx j S=>?_) hl hk (by show List.lookup x ((x,C + 1)::cl)=_; rw [List.lookup_cons,beq_self_eq_true]) h0 H3
  exact done _ _ _ vs F h' t' m vx j nC nX S
 exact codeAny_compStart_list (loop _) (I.self 0 _ _ _ _ _ (H3.at (i:=2) rfl) (loop _))
theorem s_compInUC {Q:Flow→Shared→Prop}
  {iter:Expr} {vals:Nat→Value→Prop}
  (H:St H0 B fa X env.locals l ((it,IP 0)::F) h) (I:Itr w A it n IP vals Old) (hit:B.get? it=none) (J:Nat→List Value→Fs→Prop) (h0:J 0 [] F)
  (hOld:∀ C D cx i vs F m vx h,J i vs F→St H0 B fa X env.locals l ((C,NsP m)::(D,ListP vs)::(it,IP i)::(cx,CellP vx)::F) h→Old h)
  (hlen:∀ i vs F,J i vs F→vs.length≤1000)
  (turn:∀ C D cx i v vs F h t (m:Str→Option Value),i < n→vals i v→J i vs F→St H0 B fa X env.locals l ((C,NsP m)::(D,ListP vs)::(it,IP (i + 1))::(cx,CellP (some v))::F) h →
   wpAny (model P w) A (forIn ifs true fun c r=>if r=true then do let ok ← isTrue c (compEnvC scope ((x,cx)::cl) C env) (eval c (compEnvC scope ((x,cx)::cl) C env)); pure (ForInStep.yield ok) else pure (ForInStep.yield r)) (fun ok s3 =>
      if ok=true then wpAny (model P w) A (eval elt (compEnvC scope ((x,cx)::cl) C env)) (fun y s4=>E3 fun h4 t4 F4=>s4=(sh g t4 h4)∧St H0 B fa X env.locals l ((C,NsP m)::(D,ListP vs)::(it,IP (i + 1))::(cx,CellP (some v))::F4) h4∧J (i + 1) (vs++[y]) F4) (fun _ _=>False) s3
      else E3 fun h3 t3 F3=>s3=(sh g t3 h3)∧St H0 B fa X env.locals l ((C,NsP m)::(D,ListP vs)::(it,IP (i + 1))::(cx,CellP (some v))::F3) h3∧J (i + 1) vs F3) (fun _ _=>False) (sh g t h))
  (k:∀ D vs F h' t',J n vs F→St H0 B fa X env.locals ((y,.ref D)::l) ((D,ListP vs)::F) h'→Q .next (sh g t' h'))
  (hcell:∀ n acc,cellsFrom n scope.names acc=(x,n)::acc) (hpush:∀ h:Heap,pushCells h scope.names=h.push { cls:=.type "cell",data:=.cell none }) (hk:scope.kind=.function) (hl:(relabel scope env).names.lookup x=some .cell)
  (hy:autoParam (env.kindOf y=some .local) tR) (hp:autoParam ((env.scope.kind == .class || (env.scope.kind == .module && env.locals != env.globals))=false) tR) :
  CompU w A E Q env y py elt iter x px ifs scope pos cl (.ref it) (sh g t h) :=
 s_compCoreC (RR:=compPost (model P w) A E (some (assign (.Name y py) env)) fun _ s'=>Q .next s') H I hit J h0 hOld hlen turn (fun C D cx vs F h' t' m vx j n n2 S=>Zl (s_st S (fun h2 t2 S2=>⟨m,(S2.at (i:=0) rfl).ns,fun h'' sb'=>k _ vs F h'' t2 j (((S2.lose n fun b o hb ho=>(sb'.2 b hb).trans ho).perm (List.Perm.swap _ _ _)).lose n2 fun _ _ _ e=>e)⟩) hy hp)) hcell hpush hk hl
section
open PySem.Builtin PySem.Builtin.Re
noncomputable def reCode:List Int:=[14,17,4,1,1,21,9,0,604043296,1,0,0,0,0,0,8,4,0,13,14,21,9,0,604043296,1,0,0,0,0,0,8,4,0,1]
noncomputable def PatP (tc:Addr):OP:=fun o=>E5 fun p t1 t2 t3 t4=>o = { cls:=.type "re.Pattern",data:=.fields #[.str p t1,.int 256 t2,.int 0 t3,.none,.none,.ref tc,.int 0 t4] }
noncomputable def reM (s:Str):Sre.M:=Sre.forSearch (reCode.toArray.map (·.toNat)) s.cps 0 0 s.cps.size false
theorem pl_re:plainId "re.Pattern.search" = true:=by decide +kernel
theorem en_re:entryFor table "re.Pattern.search" = some Builtin.«re.Pattern.search» := entryFor_of_tree (by kernel_rfl)
theorem wp_rules {A:Around} {E:Value→Shared→Prop} {M:Model} {s:Shared} (c:Nat→Bool) (f:Nat→String) (Q:PUnit→Shared→Prop) (q:Q ⟨⟩ s):∀ l:List Nat,wpAny M A (forIn l PUnit.unit fun i _=>if c i=true then do rule (f i); pure (ForInStep.yield PUnit.unit) else pure (ForInStep.yield PUnit.unit)) Q E s
 | []=>by rw [List.forIn_nil]; exact Yn q
 | i::r=>by
  rw [List.forIn_cons]
  refine Yd ?_
  by_cases h:c i=true
  ·rw [if_pos h]; exact Yd (wpAny_rule (Yn (wp_rules c f Q q r)))
  ·rw [if_neg h]; exact Yn (wp_rules c f Q q r)
theorem re_run {m0 m:Sre.M} {b:Bool} (hd:reDrive (2 ^ 64) m0=pure m) (ho:m.outcome=some (if b then .matched else .failed)) (Q:Option Sre.M→Shared→Prop) (q:Q (if b then some m else none) s) :
  wpAny M A (reRunToEnd m0) Q E s:=by
 unfold reRunToEnd
 rw [hd]
 refine Yd (Yn (Yd (wp_rules _ _ _ ?_ _)))
 rw [ho]
 cases b<;>exact Yn q
theorem re_target {pa tc:Addr} {s:Str} {ts:Tok} {Q:ReTarget→Shared→Prop}
  (h2:Is h pa (PatP tc)) (h3:Is h tc (TupP vs)) (h4:vs.map reRawOf=reCode)
  (q:Q { pattern:=.ref pa,string:=.str s ts,code:=reCode.toArray.map (·.toNat),text:=s.cps,kind:=0,groups:=0,pos:=0,lim:=min (2 ^ 63 - 1) s.cps.size } (sh g t h)) :
  wpAny (model P w) A (reTarget "re.Pattern.search" "search" ⟨[.ref pa,.str s ts],[]⟩) Q E (sh g t h):=by
 obtain ⟨o2,e2,p,t1,t2,t3,t4,rfl⟩:=h2
 obtain ⟨o3,e3,n,rfl⟩:=h3
 refine wm_tab [_,_] [0,1] (r:={ pattern:=.ref pa,string:=.str s ts,code:=(vs.toArray.map reRawOf).map (·.toNat),text:=s.cps,kind:=0,groups:=0,pos:=min (Int.toNat 0) s.cps.size,lim:=min (2 ^ 63 - 1) s.cps.size }) (s':=(sh g t h)) (asT e2 (asT e3 asN)) ?_ (by kernel_rfl)
 rw [show vs.toArray.map reRawOf=reCode.toArray from by rw [← h4]; simp,show min (Int.toNat 0) s.cps.size=0 from Nat.zero_min _]
 exact q
structure ReK (H0:Heap) (mg:Str→Option Value):Prop where
 f:E4 fun bm pa tc vs=>mg "_find_unsafe" = some (.ref bm)∧Is H0 bm (BoundP "re.Pattern.search" (.ref pa))∧Is H0 pa (PatP tc)∧Is H0 tc (TupP vs)∧vs.map reRawOf=reCode
theorem bo_callW {u:Addr} {b:Builtin} (ho:Is s.heap u (BoundP id self)) (hq:plainId id=true) (hb:entryFor table id=some b)
  (hc:∀ (Q':Unit→Shared→Prop) E',Q' () s→wpAny (model P w) A.in1 (checkBoundCall id ⟨self::vs,[]⟩) Q' E' s)
  (k:wpAny (model P w) A.in1 (b ⟨self::vs,[]⟩) (fun fin s'=>match fin with | .done f=>wants Q E (.ok f) s' | .again c'=>c'.quiet=true∧codeAny (model P w) A c' (wants Q E) s') (fun e s'=>wants Q E (.error e) s') s) :
  wpAny (model P w) A (call (.ref u) vs) Q E s:=by
 obtain ⟨o,ho,rfl⟩:=ho
 refine wpAny_call (codeAny_of_tree ?_)
 show wpAny _ A.in1 (callAny (.ref u) ⟨vs,[]⟩) _ _ s
 refine nd_load ho ?_
 refine Yd (m:=checkBoundCall id ⟨self::vs,[]⟩) (hc _ _ ?_)
 refine Yd (Yn (Yn ?_))
 exact ⟨plainId_quiet hq _,codeAny_builtin hb (by rw [Around.under_plainId hq]; exact k)⟩
theorem re_check {pa tc:Addr} {s:Str} {ts:Tok} {Q:Unit→Shared→Prop} (h2:Is h pa (PatP tc)) (q:Q () (sh g t h)) :
  wpAny (model P w) A (checkBoundCall "re.Pattern.search" ⟨[.ref pa,.str s ts],[]⟩) Q E (sh g t h):=by
 obtain ⟨o2,e2,p,t1,t2,t3,t4,rfl⟩:=h2
 exact wm_tab [_] [0,0,0] (asT e2 asN) q (by kernel_rfl)
theorem find_call {bm pa tc:Addr} {s:Str} {ts:Tok} {m:Sre.M} {b:Bool}
  (h1:Is h bm (BoundP "re.Pattern.search" (.ref pa))) (h2:Is h pa (PatP tc)) (h3:Is h tc (TupP vs)) (h4:vs.map reRawOf=reCode) (hz:s.length≤10000)
  (hd:reDrive (2 ^ 64) (reM s)=pure m) (ho:m.outcome=some (if b then .matched else .failed))
  (q0:b=false→∀ t',Q .none (sh g t' h)) (q1:b=true→∀ h' t' a,(∀ b o,h.get? b=some o→h'.get? b=some o)→Q (.ref a) (sh g t' h')) :
  wpAny (model P w) A (call (.ref bm) [.str s ts]) Q E (sh g t h):=by
 refine bo_callW h1 pl_re en_re (fun Q' E' q=>re_check h2 q) ?_
 show wpAny _ _ (reTarget "re.Pattern.search" "search" ⟨[.ref pa,.str s ts],[]⟩ >>= fun t=>reAnswer t (Sre.forSearch t.code t.text t.groups t.pos t.lim false)) _ _ _
 refine Yd (re_target h2 h3 h4 ?_)
 unfold reAnswer
 dsimp only
 rw [show min (2 ^ 63 - 1) s.cps.size=s.cps.size from Nat.min_eq_right (by have:s.cps.size=s.length:=rfl; exact Ye hz (by decide))]
 refine Yd (re_run hd ho _ ?_)
 cases b with
 | false=>exact Yn (q0 rfl _)
 | true =>
  rw [if_pos rfl]
  refine (show wpAny _ _ (reNewMatch (.ref pa) (.str s ts) 0 0 s.cps.size m >>= ret) _ _ _ from ?_)
  refine Yd ?_
  unfold reNewMatch
  dsimp only
  refine (show wpAny _ _ (newTuple [rawInt m.start,rawInt m.handed] >>= fun tv=>newFields "re.Match" [.str s ts,.ref pa,rawInt 0,rawInt s.cps.size,rawInt m.lastindex,tv]) _ _ _ from ?_)
  refine Yd (wpAny_newObj_type ?_ (by size_fits))
  refine wpAny_newObj_type (Yn (q1 rfl _ _ _ fun b o e=>Yv _ (Yv _ e))) (by size_fits)
end
section
open PySem.Builtin PySem.Builtin.Re
noncomputable def reB (s:Str):Bool:=match ((reM s).runFor reTurnSteps).outcome with
 | some .matched=>true
 | _=>false
noncomputable def quo (s:Str):Str:=if s = "" then "''" else if reB s then ("'" : Str)++Txt.replace s "'" "'\"'\"'" ++ ("'" : Str) else s
noncomputable def QuoOk (s:Str):Prop:=s.length≤100∧(s ≠ "" → ∃ m,reDrive (2 ^ 64) (reM s)=pure m∧m.outcome=some (if reB s then .matched else .failed))∧(quo s).length≤1000
theorem b37 (name:Str) (cd pm kwd v:Value):bindArgs (fdF 37 name cd pm kwd) ⟨[v],[]⟩=pure [(("s" : Str),v)]:=by rfl
theorem quote_call {g} {t} {s:Str} {ts:Tok}
  (rm:Rm A (n + 1)) (hfr:Frs A fr) (al:Alive H0 (adr fr) h) (bs:Bs H0 mg mb) (RK:ReK H0 mg) (low:∀ a o,H0.get? a=some o→h.get? a=some o) (hf:Fn H0 f (fdF 37 name cd pm kwd)) (hs:QuoOk s)
  (hR:∀ h' t' tr,Kp (adr fr) [] h h'→R (.ok (.ret (.str (quo s) tr))) (sh g t' h')) :
  codeAny (model P w) A (.call (.ref f) ⟨[.str s ts],[]⟩) R (sh g t h):=by
 obtain ⟨hz,hm,hq⟩:=hs
 refine s_enterQ bs low hf hfr al rm.room rfl (fun _ _ q=>by rw [b37]; exact Yn q) fun env A' h1 t1 QQ EE ee hA qr qn H hF=>?_
 subst ee
 generalize h.objs.size=Lo at H hF ⊢
 unfold quo at hR hq
 refine s_cons ?_
 intro _ q1 q2
 refine Zh (isTrue_not (Zv (s_ld H (t_tS (x:=s) (by exact Ye hz (by decide)) fun t2=>?_))))
 by_cases e:s = ""
 ·rw [if_pos e] at hR
  rw [decide_eq_false (fun z=>z e),if_pos (by rfl)]
  exact s_one (Zd (s_cs fun tc t3=>q2 _ _ (qr _ _ (hR _ _ _ H.kp))))
 rw [if_neg e] at hR hq
 rw [decide_eq_true (p:=s ≠ "") e,if_neg (by decide)]
 refine Ym (q1 _ ?_)
 clear q1 q2
 obtain ⟨m,hd,ho⟩:=hm e
 obtain ⟨bm,pa,tc,vs,g1,g2,g3,g4,g5⟩:=RK.f
 refine s_cons ?_
 intro _ q1 q2
 refine Zh (Yg (Zb (s_gname bs H.low g1 (bo_callWith rfl (Zx (Yz (s_ld H (Zn ⟨g2.at fun o e=>H.low _ _ e,?_⟩))))))))
 refine find_call (g2.at fun o e=>H.low _ _ e) (g3.at fun o e=>H.low _ _ e) (g4.at fun o e=>H.low _ _ e) g5 (by exact Ye hz (by decide)) hd ho (fun hb t3=>?_) (fun hb h2 t3 a kk=>?_)
 ·rw [hb,if_neg Yk] at hR
  refine Zg (is_none (Yi ?_))
  rw [if_pos (by rfl)]
  exact s_one (Zd (s_ld H (q2 _ _ (qr _ _ (hR _ _ _ H.kp)))))
 ·rw [hb,if_pos rfl] at hR hq
  refine Zg (is_none (Yi ?_))
  rw [if_neg (by rintro ⟨⟩)]
  refine Ym (q1 _ ?_)
  have H2:=H.call (h':=h2) (.of fun b o e _=>kk b o e)
  rw [app_len,app_len] at hq
  refine Yh (Zd (wpAny_BinOp (wpAny_BinOp (Zo ?_))))
  refine MethodCall_ (s_ld H2 (GM.replace ?_)) (by rfl)
  refine callWith_method1 (Yz ?_)
  refine Zo (pos:=default) (k:=0) ?_
  refine Yz ?_
  refine Zo (pos:=default) (k:=0) ?_
  refine Zn ?_
  refine SC.replace (Nat.succ_ne_zero _) (Nat.succ_ne_zero _) (Nat.ne_of_lt (Nat.lt_succ_self _)) (by decide) ?_ fun tr k=>?_
  ·have:("'\"'\"'" : Str).length=5:=rfl
   rw [this]; lia
  refine PySem.SB.add (fun ty ky=>Zo (PySem.SB.add (fun tz kz=>qr _ _ (hR _ _ _ H2.kp)) ?_)) ?_
  ·rw [app_len]; exact Ye hq (by decide)
  ·exact Ye (Ye (Nat.le_add_right _ _) hq) (by decide)
end
section
open Sem (wp)
structure GenE where
 fr:List Env
 C:Addr
 it:Addr
 la:Addr
 vs:List Value
 ss:List Str
 f:Str→Str
structure GenE.Good (G:GenE) (i:Nat) (h:Heap):Prop where
 low:∀ a o,H0.get? a=some o→h.get? a=some o
 al:Alive H0 (adr G.fr) h
 c:∃ m,Is h G.C (NsP m)
 it:Is h G.it (IterP G.la i)
 ls:Is h G.la (ListP G.vs)
structure GenE.Ok (G:GenE):Prop where
 s:Strs G.vs G.ss
 cf:G.C ∉ adr G.fr
 cn:H0.get? G.C=none
 itc:G.it≠G.C
 itf:G.it ∉ adr G.fr
 itn:H0.get? G.it=none
 lc:G.la≠G.C
 li:G.la≠G.it
 lf:G.la ∉ adr G.fr
noncomputable def GenE.Y (G:GenE):Protocol:=fun m s0 v s1 kap=>E5 fun i h1 t1 x tr=>i + m + 1=G.ss.length∧s1 = { s0 with heap:=h1,toks:=t1 }∧G.ss[i]? = some x∧v=.str (G.f x) tr∧Kp (adr G.fr) [G.C,G.it] s0.heap h1∧(∃ m,Is h1 G.C (NsP m))∧Is h1 G.it (IterP G.la (i + 1)) ∧
 ∀ s'':Shared,G.Good (i + 1) s''.heap→s''.drawn=s0.drawn→s''.os=s0.os→kap (.send .none) s''
noncomputable def GenE.En (G:GenE):GenEnd:=fun n s0 r s1=>r=.ok .next∧(n=0∧E2 fun h1 t1=>s1 = { s0 with heap:=h1,toks:=t1 }∧Kp (adr G.fr) [G.C,G.it] s0.heap h1)
noncomputable def GenE.Elt (G:GenE) (w:World) (n:Nat) (cenv:Env) (elt:Expr):Prop:=∀ (A':Around) E' (h:Heap) gg t x tx m,Rm A' (n + 1)→Frs A' (cenv::G.fr)→(∀ a o,H0.get? a=some o→h.get? a=some o)→Alive H0 (adr (cenv::G.fr)) h→Is h cenv.locals (NsP m)→m ("arg" : Str)=some (.str x tx)→x∈G.ss →
 wpAny (model P w) A' (eval elt cenv) (fun y s'=>E3 fun h' t' tr=>s'=(sh gg t' h')∧y=.str (G.f x) tr∧Kp (adr (cenv::G.fr)) [] h h') E' (sh gg t h)
end
section
open Sem (wp)
variable {iter:Expr}
noncomputable abbrev gLoop (elt iter:Expr) (px:Pos) (scope:Scope) (pos:Pos) (it:Addr) (cenv:Env):Code:=.compLoop (.GeneratorExp elt [⟨.Name "arg" px,iter,[],0⟩] scope pos) 0 (.ref it) .none cenv
theorem g_seg (rm:Rm A (n + 2)) (hF:Frs A G.fr) (ok:G.Ok) (he:G.Elt w n cenv elt) (hC:cenv.locals=G.C) (hfr:cenv.frame=some G.C) (hk:cenv.scope.kind=.function)
  (hx:cenv.kindOf "arg" = some .local) (hco:cenv.scope.isCoroutine=false) :
  ∀ (k i:Nat) (s0 s:Shared),G.ss.length - i=k→i≤G.ss.length→G.Good i s.heap→s.gens=s0.gens→s.drawn=d→s0.drawn=d→s.os=os→s0.os=os→Kp (adr G.fr) [G.C,G.it] s0.heap s.heap →
   Seg (model P w) A G.En G.Y (G.ss.length - i) s0 (gLoop elt iter px scope pos G.it cenv) ((model P w).den (gLoop elt iter px scope pos G.it cenv)) [] s:=by
 have hh':(A.over (gLoop elt iter px scope pos G.it cenv) []).handled=none:=rm.1
 have hlen:=ok.s.len
 have I:=Itr.list hh' G.it G.la G.vs
 have frm:∀ c:Code,c=gLoop elt iter px scope pos G.it cenv→Rm (A.over c []) (n + 1)∧Frs (A.over c []) (cenv::G.fr):=by
  rintro c rfl
  have r1:=rm.2.1
  have r2:=rm.2.2
  refine ⟨⟨rm.1,?_,?_⟩,?_,?_⟩
  ·show A.depth + 0 + 1 + (n + 1)≤_; lia
  ·show A.units + 0 + 3 + 20 * (n + 1)≤_; lia
  ·show pushEnvs [cenv] (pushEnvs [] A.frames)=_
   rw [hF.1]; rfl
  ·intro e m
   rcases Yu.mp m with rfl | m
   ·exact ⟨by rw [hk]; decide,_,hfr⟩
   ·exact hF.2 e m
 intro k
 induction k with
 | zero =>
  intro i s0 s hk' hi good e1 e2 e3 e4 e5 kp
  have hin:i=G.ss.length:=by exact sb4 ‹_› ‹_›
  subst hin
  show Seg _ A _ _ _ s0 _ ((compTurn (.GeneratorExp elt [⟨.Name "arg" px,iter,[],0⟩] scope pos) 0 (.ref G.it) .none cenv).onRaise (leaving cenv)) [] s
  rw [compTurn_gen,Sem.onRaise_eq_wrap]
  refine seg_bind_wrap (wpAny_standAt ?_)
  obtain ⟨h,g,dd,t,oo⟩:=s
  rw [← hlen] at good
  simp only at e2 e4
  subst e2 e4
  refine seg_bind_wrap (I.fin h g t _ _ good.it good.ls fun h' sb=>?_)
  refine seg_end (.ok .next) ⟨rfl,by exact hk',h',t,?_,fun b o e nx=>?_⟩
  ·obtain ⟨_,_,_,_,_⟩:=s0
   simp only at e1 e3 e5 ⊢
   rw [e1,e3,e5]
  ·obtain ⟨sl,q1,q2⟩:=kp b o e nx
   exact ⟨sl,sb _ _ (fun z=>nx (by simp [z])) q1,q2⟩
 | succ k ih =>
  intro i s0 s hk' hi good e1 e2 e3 e4 e5 kp
  have hlt:i < G.ss.length:=by exact Nat.lt_of_sub_eq_succ ‹_›
  have hn:G.ss.length - i=(G.ss.length - (i + 1)) + 1:=by exact sb3 ‹_›
  rw [hn]
  show Seg _ A _ _ _ s0 _ ((compTurn (.GeneratorExp elt [⟨.Name "arg" px,iter,[],0⟩] scope pos) 0 (.ref G.it) .none cenv).onRaise (leaving cenv)) [] s
  rw [compTurn_gen,Sem.onRaise_eq_wrap]
  refine seg_bind_wrap (wpAny_standAt ?_)
  obtain ⟨h,g,dd,t,oo⟩:=s
  simp only at e1 e2 e4 good kp
  subst e2 e4
  obtain ⟨m0,c0⟩:=good.c
  refine seg_bind_wrap (I.item i h g t _ _ (by lia) good.it good.ls fun h1 v t1 hit1 sb₁ hv=>?_)
  obtain ⟨x,tx,hx2,rfl⟩:=ok.s.get hv
  refine seg_bind_wrap (wpAny_of_eq (rfl:letOwnedTupleGo (.Name "arg" px) (.ref G.it) (.str x tx)=pure ()) ?_)
  have c1:Is h1 G.C (NsP m0):=c0.at fun o e=>sb₁ _ o (Ne.symm ok.itc) e
  refine seg_bind_wrap (Zl (wpAny_storeName_local (by exact hx) (by rw [hC]; exact c1.ns) (fun h2 ns2 sb2=>?_) (by rw [hk]; rfl)))
  rw [hC] at ns2 sb2
  have k2:∀ b o,b≠G.C→b≠G.it→h.get? b=some o→h2.get? b=some o:=fun b o n1 n2 e=>(sb2.2 b n1).trans (sb₁ b o n2 e)
  refine seg_bind_wrap ?_
  rw [List.forIn_nil]
  refine Yn ?_
  have hy:∀ v,yieldOut cenv v=yieldValue v:=fun v=>by simp only [yieldOut,hco,Bool.false_eq_true,if_false]
  simp only [if_true,hy]
  rw [Sem.bind_eq_wrap',Sem.bind_eq_wrap',Sem.wrap_wrap,Sem.wrap_wrap]
  obtain ⟨r1,r2⟩:=frm _ rfl
  have ac:adr (cenv::G.fr)=G.C::adr G.fr:=by show List.filterMap _ _=_; rw [List.filterMap_cons,hfr]
  have low2:∀ a o,H0.get? a=some o→h2.get? a=some o:=fun a o e=>k2 a o (fun z=>by rw [z,ok.cn] at e; cases e) (fun z=>by rw [z,ok.itn] at e; cases e) (good.low a o e)
  have al2:Alive H0 (adr (cenv::G.fr)) h2:=by
   rw [ac]
   intro b hb
   rcases Yu.mp hb with rfl | hb
   ·obtain ⟨o,es,ep,e,dt,_⟩:=ns2
    exact ⟨ok.cn,o,e,fun vs z=>by rw [dt] at z; cases z⟩
   ·obtain ⟨z1,z2⟩:=good.al b hb
    exact ⟨z1,z2.at fun o e=>k2 b o (fun q=>ok.cf (q ▸ hb)) (fun q=>ok.itf (q ▸ hb)) e⟩
  refine seg_wrap (Ze (he _ _ h2 g _ x tx _ r1 r2 low2 al2 (by rw [hC]; exact isNs ns2) (by simp) (Yr hx2)) (fun y s4 h4=>?_) fun _ _ e=>e)
  obtain ⟨h3,t3,tr,rfl,rfl,K3⟩:=h4
  rw [ac] at K3
  have i3:Is h3 G.it (IterP G.la (i + 1)):=(hit1.at fun o e=>(sb2.2 _ ok.itc).trans e).at fun o e=>K3.all e (by simp only [Yu,not_or]; exact ⟨ok.itc,ok.itf⟩)
  have c3:∃ m,Is h3 G.C (NsP m):=by
   obtain ⟨o,e,es,ep,dt,r⟩:=isNs ns2
   obtain ⟨sl,e3,_⟩:=K3 _ o e (by simp)
   exact ⟨_,_,e3,es,ep,dt,r⟩
  refine seg_at (seg_yield rfl rfl rfl ⟨i,h3,t3,x,tr,by lia,?_,hx2,rfl,fun b o e nx=>?_,c3,i3,fun s'' gd z1 z2=>?_⟩)
  ·obtain ⟨_,_,_,_,_⟩:=s0
   simp only at e1 e3 e5 ⊢
   rw [e1,e3,e5]
  ·obtain ⟨sl,q1,q2⟩:=kp b o e nx
   have n1:b≠G.C:=fun z=>nx (by simp [z])
   have n2:b≠G.it:=fun z=>nx (by simp [z])
   obtain ⟨sl',q3,q4⟩:=K3 b _ (k2 b _ n1 n2 q1) (by simp)
   exact ⟨sl',q3,fun nf=>(q4 (by simp only [Yu,not_or]; exact ⟨n1,nf⟩)).trans (q2 nf)⟩
  ·exact seg_again rfl (ih (i + 1) s'' s'' (by exact sb1 ‹_›) hlt gd rfl (z1.trans e3) (z1.trans e3) (z2.trans e5) (z2.trans e5) (Kp.refl _ _ _))
end
section
open Sem (wp)
variable {gi:Nat} {iter:Expr}
noncomputable abbrev gStart (elt iter:Expr) (px:Pos) (scope:Scope) (pos:Pos) (it:Addr) (cenv:Env):Code:=.compStart (.GeneratorExp elt [⟨.Name "arg" px,iter,[],0⟩] scope pos) 0 (.ref it) .none cenv
noncomputable def GoesAt (w:World) (A:Around) (G:GenE) (i:Nat) (gs:GenState):Prop:=∀ s'':Shared,G.Good i s''.heap→s''.drawn=d→s''.os=os→gs.Goes (model P w) A.in1 G.En G.Y (G.ss.length - i) (.send .none) s''
theorem g_fresh (rm:Rm A.in1 (n + 2)) (hF:Frs A G.fr) (ok:G.Ok) (he:G.Elt w n cenv elt) (hC:cenv.locals=G.C) (hfr:cenv.frame=some G.C) (hk:cenv.scope.kind=.function)
  (hx:cenv.kindOf "arg" = some .local) (hco:cenv.scope.isCoroutine=false):GoesAt w A G 0 (.fresh (gStart elt iter px scope pos G.it cenv)):=by
 intro s'' gd e1 e2
 refine ⟨rfl,?_⟩
 have loop:Seg (model P w) A.in1 G.En G.Y (G.ss.length - 0) s'' (gLoop elt iter px scope pos G.it cenv) ((model P w).den (gLoop elt iter px scope pos G.it cenv)) [] s'' :=
  g_seg (A:=A.in1) rm hF ok he hC hfr hk hx hco _ 0 s'' s'' rfl (Zs _) gd rfl e1 e1 e2 e2 (Kp.refl _ _ _)
 show Seg _ A.in1 _ _ _ s'' _ ((compStart (.GeneratorExp elt [⟨.Name "arg" px,iter,[],0⟩] scope pos) 0 (.ref G.it) .none cenv).onRaise (leaving cenv)) [] s''
 unfold compStart
 rw [Sem.onRaise_eq_wrap]
 show Seg _ A.in1 _ _ _ s'' _ ((ask >>= _).wrap _ _ _ _) [] s''
 refine seg_bind_wrap (wpAny_askSetting ?_)
 obtain ⟨h,g,dd,t,oo⟩:=s''
 split
 ·exact seg_again rfl loop
 ·refine seg_bind_wrap (wpAny_rule ?_)
  show Seg _ A.in1 _ _ _ _ _ ((standAt iter.pos >>= _).wrap _ _ _ _) [] _
  exact seg_bind_wrap (wpAny_standAt (seg_bind_wrap (wpAny_pyIter_listiter gd.it.iter (seg_again rfl loop))))
theorem setG (g0:Array GenState) (x y:GenState):(g0.push x).setIfInBounds g0.size y=g0.push y:=by
 apply Array.ext
 ·simp
 ·intro j h1 h2
  simp only [Array.size_push] at h2
  rw [Array.getElem_setIfInBounds (by simpa using h2)]
  by_cases q:g0.size=j
  ·subst q; simp
  ·rw [if_neg q,Array.getElem_push_lt (by lia),Array.getElem_push_lt (by lia)]
noncomputable def GenP (gi:Nat):OP:=fun o=>o.cls=.type "generator" ∧ E2 fun nm qn=>o.data=.fields #[.int gi 0,nm,qn]∧o.slots=#[]
theorem Is.gen {gi:Nat} (x:Is h a (GenP gi)):h.IsGen a gi:=by obtain ⟨o,e,c,nm,qn,r⟩:=x; exact ⟨o,nm,qn,e,c,r⟩
theorem g_item {g0:Array GenState} {gs:GenState} {Q:Option Value→Shared→Prop} (rm:Rm A (n + 1)) (hi:i < G.ss.length) (gd:G.Good i h) (ia:Is h a (GenP g0.size)) (goes:GoesAt w A G i gs) (hl:h.NoLimit)
  (q:∀ x tr h₁ t1 gs',G.ss[i]? = some x→Kp (adr G.fr) [G.C,G.it] h h₁→(∃ m,Is h₁ G.C (NsP m))→Is h₁ G.it (IterP G.la (i + 1))→GoesAt w A G (i + 1) gs'→Q (some (.str (G.f x) tr)) (sh (g0.push gs') t1 h₁)) :
  wpAny (model P w) A (pyNext (.ref a)) Q E (sh (g0.push gs) t h):=by
 obtain ⟨m,hm⟩:∃ m,G.ss.length - i=m + 1:=⟨G.ss.length - i - 1,by exact sb3 ‹_›⟩
 refine wpAny_pyNext_genexp (n:=m + 1) (P:=fun n s0 s1=>n=0∧E2 fun h₁ t1=>s1 = { s0 with heap:=h₁,toks:=t1 }∧Kp (adr G.fr) [G.C,G.it] s0.heap h₁) (Y:=G.Y) rm.1 hl rm.room ia.gen (by simp) (hm ▸ goes _ gd rfl rfl) (fun v s1 gs' hv=>?_) (fun s1 hp h' hk=>absurd hp.1 (Nat.succ_ne_zero m))
 obtain ⟨i',h₁,t1,x,tr,e1,rfl,e2,rfl,K,c,it,kap⟩:=hv
 have:i'=i:=by lia
 subst this
 have e:G.ss.length - (i' + 1)=m:=by exact sb1 ‹_›
 simp only [Shared.setGen,setG]
 refine q x tr h₁ t1 gs' e2 K c it fun s'' gd' z1 z2=>?_
 rw [e]
 exact kap s'' gd' z1 z2
theorem g_done {g0:Array GenState} {gs:GenState} {Q:Option Value→Shared→Prop} (rm:Rm A (n + 1)) (gd:G.Good G.ss.length h) (ia:Is h a (GenP g0.size)) (goes:GoesAt w A G G.ss.length gs) (hl:h.NoLimit)
  (q:∀ h₁ t1,Kp (adr G.fr) [G.C,G.it] h h₁→Q none (sh (g0.push .finished) t1 h₁)) :
  wpAny (model P w) A (pyNext (.ref a)) Q E (sh (g0.push gs) t h):=by
 have hg:=goes (sh ((g0.push gs).setIfInBounds g0.size .running) t h) gd rfl rfl
 rw [Nat.sub_self] at hg
 refine wpAny_pyNext_genexp (n:=0) (P:=fun n s0 s1=>n=0∧E2 fun h₁ t1=>s1 = { s0 with heap:=h₁,toks:=t1 }∧Kp (adr G.fr) [G.C,G.it] s0.heap h₁) (Y:=G.Y) rm.1 hl rm.room ia.gen (by simp) hg (fun v s1 gs' hv=>?_) (fun s1 hp h' hk=>?_)
 ·obtain ⟨i',_,_,_,_,e1,_,_,_,_,_,_,kap⟩:=hv
  exact (kap (sh (#[]) t h) (by rw [show i' + 1=G.ss.length by exact e1]; exact gd) rfl rfl).elim
 ·obtain ⟨_,h₁,t1,rfl,K⟩:=hp
  simp only [Shared.setGen,setG]
  exact q _ _ fun b o e nx=>by
   obtain ⟨sl,q1,q2⟩:=K b o e nx
   exact ⟨sl,hk _ _ q1,q2⟩
end
section
open Builtin Builtin.Str Builtin.Int
variable {R:Fs}
noncomputable def CP:OP:=fun o=>∃ m,NsP m o
theorem St.dropK {R:Fs} {G:Fs} (H:St H0 B fa X L l (G++R) h) (K:Kp (L::fa) (G.map (·.1)) h h') (n:∀ b∈G.map (·.1),B.get? b=none):St H0 B fa X L l R h':=by
 have nd:=H.nd
 rw [Yt] at nd
 obtain ⟨_,nR,dis⟩:=List.nodup_append.mp nd
 have RG:∀ x∈R,x.1 ∉ G.map (·.1):=fun x hx m=>dis _ m _ (Yx.mpr ⟨x,hx,rfl⟩) rfl
 have inG:∀ b∈G.map (·.1),b ∉ L::fa∧H0.get? b=none:=fun b hb=>by
  obtain ⟨y,hy,rfl⟩:=Yx.mp hb
  exact ⟨H.nf y (Zr _ hy),H.hi y (Zr _ hy)⟩
 exact {
  lo:=Heap.Ns.nr H.lo fun o e=>by
   obtain ⟨sl,e',_⟩:=K L o e (fun m=>(inG _ m).1 Yc)
   exact ⟨sl,e'⟩
  Ln:=H.Ln
  has:=fun x hx=>(H.has x (Ys _ hx)).at fun o e=>(K _ o e (RG x hx)).same (H.nf x (Ys _ hx))
  nd:=nR
  low:=fun b o e=>(K b o (H.low b o e) (fun m=>by have:=(inG _ m).2; rw [e] at this; cases this)).same fun m=>by have:=(H.al b m).1; rw [e] at this; cases this
  hi:=fun x hx=>H.hi x (Ys _ hx)
  nf:=fun x hx=>H.nf x (Ys _ hx)
  keep:=fun b o e nb=>by
   have nG:b ∉ G.map (·.1):=fun m=>by have:=n b m; rw [e] at this; cases this
   refine (H.keep b o e (by rw [Yt]; exact fun m=>(Zz.mp m).elim nG nb)).trans fun o' e'=>?_
   obtain ⟨sl,q1,q2⟩:=K b o' e' nG
   exact ⟨sl,q1,fun nf=>q2 fun m=>(Yu.mp m).elim (fun z=>by rw [z,H.Ln] at e; cases e) nf⟩
  new:=fun x hx=>H.new x (Ys _ hx)
  al:=fun b m=>by
   obtain ⟨z1,o,e,z2⟩:=H.al b m
   obtain ⟨sl,q1,_⟩:=K b o e fun mG=>(inG _ mG).1 m
   exact ⟨z1,_,q1,z2⟩ }
structure GJ (w:World) (A:Around) (G:GenE) (B:Heap) (fr:List Env) (X:List Addr) (L:Addr) (l:List (Str×Value)) (R:Fs) (a S:Addr) (g0:Array GenState) (i:Nat) (vs:List Value) (g:Array GenState) (h:Heap):Prop where
 g:∃ gs,g=g0.push gs∧GoesAt w A G i gs
 st:St H0 B (adr fr) X L l ((G.C,CP)::(G.it,IterP G.la i)::(S,ListP vs)::(a,GenP g0.size)::R) h
 vs:Strs vs ((G.ss.take i).map G.f)
 le:i≤G.ss.length
structure GBase (G:GenE) (mg mb:Str→Option Value) (B:Heap) (fr:List Env) (env:Env) (X:List Addr):Prop where
 ok:G.Ok
 gfr:G.fr=env::fr
 he:env.frame=some env.locals
 bs:Bs H0 mg mb
 la:Ob (adr fr) B G.la (ListP G.vs)
 lx:G.la ∉ X
theorem st_good {S:Addr} {g0:Array GenState} (gb:GBase G mg mb B fr env X) (H:St H0 B (adr fr) X env.locals l ((G.C,CP)::(G.it,IterP G.la i)::(S,ListP vs)::(a,GenP g0.size)::R) h):G.Good i h where
 low:=H.low
 al:=by
  rw [gb.gfr]
  have ea:adr (env::fr)=env.locals::adr fr:=by show List.filterMap _ _=_; rw [List.filterMap_cons,gb.he]
  rw [ea]; exact H.al
 c:=by obtain ⟨o,e,m,r⟩:=H.at (i:=0) rfl; exact ⟨m,o,e,r⟩
 it:=H.at (i:=1) rfl
 ls:=H.oldX gb.la gb.lx
theorem gj_loop {Rr:Result→Shared→Prop} {S:Addr} {g0:Array GenState} {res:Value} (rm:Rm A (n + 4)) (gb:GBase G mg mb B fr env X) (hz:G.ss.length≤1000) (nC:B.get? G.C=none) (nI:B.get? G.it=none)
  (fin:∀ vs h t,Strs vs (G.ss.map G.f)→St H0 B (adr fr) X env.locals l ((S,ListP vs)::(a,GenP g0.size)::R) h→Rr (.ok (.ret res)) (sh (g0.push .finished) t h)) :
  ∀ k i vs g h t,G.ss.length - i=k→GJ w A.in1 G B fr X env.locals l R a S g0 i vs g h→codeAny (model P w) A (.builtin "list.extend.loop" ⟨[.ref S,.ref a,res],[]⟩) Rr (sh g t h):=by
 have ea:adr G.fr=env.locals::adr fr:=by rw [gb.gfr]; show List.filterMap _ _=_; rw [List.filterMap_cons,gb.he]
 intro k
 induction k with
 | zero =>
  intro i vs g h t hk ⟨⟨gs,hg,goes⟩,st,hv,le⟩
  have:i=G.ss.length:=by exact sb4 ‹_› ‹_›
  subst this
  subst hg
  refine codeAny_builtin F.entry_extend_loop ?_
  rw [Around.under_plainId F.plain_extend_loop _]
  show wpAny _ A.in1 (pyNext (.ref a) >>= _) _ _ _
  refine Yd (g_done (n:=n + 2) rm.in1 (st_good gb st) (st.at (i:=3) rfl) goes (gb.bs.lim.keeps st.low) fun h1 t1 K=>Yn ?_)
  rw [ea] at K
  rw [List.take_length] at hv
  exact fin vs h1 _ hv (St.dropK (G:=[(G.C,CP),(G.it,IterP G.la G.ss.length)]) st K fun b hb=>by
   simp only [Zq,List.map_nil,Yu,List.not_mem_nil,or_false] at hb
   rcases hb with rfl | rfl
   ·exact nC
   ·exact nI)
 | succ k ih =>
  intro i vs g h t hk ⟨⟨gs,hg,goes⟩,st,hv,le⟩
  subst hg
  have hi:i < G.ss.length:=by exact Nat.lt_of_sub_eq_succ ‹_›
  have hl:=hv.len
  rw [Yp,List.length_take] at hl
  refine codeAny_builtin F.entry_extend_loop ?_
  rw [Around.under_plainId F.plain_extend_loop _]
  show wpAny _ A.in1 (pyNext (.ref a) >>= _) _ _ _
  refine Yd (g_item (n:=n + 2) rm.in1 hi (st_good gb st) (st.at (i:=3) rfl) goes (gb.bs.lim.keeps st.low) fun x tr h1 t1 gs' hx K c it goes'=>?_)
  rw [ea] at K
  have st1:St H0 B (adr fr) X env.locals l ((G.C,CP)::(G.it,IterP G.la (i + 1))::(S,ListP vs)::(a,GenP g0.size)::R) h1:=by
   refine St.step (G:=[(G.C,CP),(G.it,IterP G.la i)]) (G':=[(G.C,CP),(G.it,IterP G.la (i + 1))]) st ⟨K,fun y hy=>?_,?_,fun b hb=>hb,fun b hb=>.inl hb⟩
   ·simp only [Yu,List.not_mem_nil,or_false] at hy
    rcases hy with rfl | rfl
    ·obtain ⟨m,o,e,r⟩:=c
     exact ⟨o,e,m,r⟩
    ·exact it
   ·simpa using Ne.symm gb.ok.itc
  obtain ⟨o,ho,nt,rfl⟩:=st1.at (i:=2) rfl
  show wpAny _ A.in1 (updateSeq S (·.push (Value.str (G.f x) tr)) >>= _) _ _ _
  refine Yd ?_
  have e:=IsL.update ho (fun xs=>xs.push (Value.str (G.f x) tr))
  have e1:vs.toArray.push (Value.str (G.f x) tr)=(vs++[Value.str (G.f x) tr]).toArray:=by simp
  have st2:=st1.upd 2 rfl (h':=h1.update S (Obj.mapSeq fun xs=>xs.push (Value.str (G.f x) tr))) (p':=ListP (vs++[Value.str (G.f x) tr])) (fun b o hb e=>(Zm _ _ (Ne.symm hb)).trans e) (isPlain ⟨_,by rw [e1] at e; exact e⟩)
  refine wpAny_updateSeq ho rfl (Yn ⟨plainId_quiet F.plain_extend_loop _,ih (i + 1) _ _ _ _ (by exact sb1 ‹_›) ⟨⟨gs',rfl,goes'⟩,st2,?_,hi⟩⟩)
   (by simp only [List.size_toArray]; have:vs.length≤1000:=(by lia); exact Ye this (by decide)) (by show (vs.toArray.push _).size≤sizeLine + 1; simp only [Array.size_push,List.size_toArray]; have:vs.length + 1≤1001:=(by lia); exact Ye this (by decide))
  rw [List.take_succ_eq_append_getElem hi,Yt]
  refine hv.app ?_
  obtain ⟨_,q⟩:=List.getElem?_eq_some_iff.mp hx
  rw [q]; rfl
end
section
open Builtin Builtin.Str Builtin.Int
variable {R:Fs}
theorem s_joinGen {g0:Array GenState} {gs:GenState} {sep:Str} {ts:Tok} (rm:Rm A (n + 5)) (gb:GBase G mg mb B fr env X) (hz:G.ss.length≤1000) (nC:B.get? G.C=none) (nI:B.get? G.it=none) (nA:B.get? a=none)
  (goes:GoesAt w A.in1.in1 G 0 gs) (H:St H0 B (adr fr) X env.locals l ((G.C,CP)::(G.it,IterP G.la 0)::(a,GenP g0.size)::R) h) (hj:JoinOk sep (G.ss.map G.f)=true)
  (q:∀ h' t' tr,St H0 B (adr fr) X env.locals l R h'→Q (.str (Txt.join sep (G.ss.map G.f)) tr) (sh (g0.push .finished) t' h')) :
  wpAny (model P w) A (call (.builtin "str.join") [.str sep ts,.ref a]) Q E (sh (g0.push gs) t h):=by
 have ig:=(H.at (i:=2) rfl).gen
 have hT:∀ h' t' gg,h'.IsGen a g0.size→Shared.TypeIs (sh gg t' h') (.ref a) "generator" := fun h' t' gg x=>x.typeIs
 refine wpAny_call (codeAny_call_builtin F.slot_str_join.plain F.entry_str_join (F.slot_str_join.check _ _ _ _ _ _ _ _ (typeIs_str _ _ _) (F.args_str_join_2 _ _) ?_))
 rw [join_tree_other]
 refine Yd (wpAny_typeOf (hT _ _ _ ig) ?_)
 show wpAny _ A.in1 ((pyIter (.ref a)).tryCatch _ >>= fun it=>collect it >>= fun items=>joinTail sep items) _ _ _
 refine Yd (wpAny_tryCatch (wpAny_pyIter_gen ig ?_))
 refine Yd ?_
 unfold collect
 refine Yd (wpAny_runValue (codeAny_builtin F.entry_proto_collect ?_))
 rw [Around.under_plainId F.plain_proto_collect _]
 show wpAny _ A.in1.in1 (newList [] >>= fun l=>again (.builtin "list.__iadd__" ⟨[l,.ref a],[]⟩)) _ _ _
 refine Yd (wpAny_newObj_type ?_)
 refine Yn ⟨plainId_quiet F.plain_list_iadd _,codeAny_builtin F.entry_list_iadd ?_⟩
 rw [Around.under_plainId F.plain_list_iadd _]
 have H1:=H.push { cls:=.type "list",data:=.seq ([]:List Value).toArray } (p:=ListP []) ⟨0,rfl⟩
 have hSa:h.objs.size≠a:=fun z=>Nat.lt_irrefl _ (z ▸ (H.at (i:=2) rfl).lt)
 have nS:=H.notOld (Yy (Zf _))
 generalize h.objs.size=S at H1 hSa nS ⊢
 have ig1:=(H1.at (i:=3) rfl).gen
 show wpAny _ A.in1.in1 (Builtin.List.listExtendWith (.ref S) (.ref a) (.ref S)) _ _ _
 unfold Builtin.List.listExtendWith
 refine Yd (wpAny_typeOf (hT _ _ _ ig1) ?_)
 have h1:Builtin.List.listSameRef (.ref S) (.ref a)=false:=by simp [Builtin.List.listSameRef,hSa]
 have h2:(Value.type "generator" == Value.type "list")=false:=by decide
 have h3:(Value.type "generator" == Value.type "tuple")=false:=by decide
 simp only [h1,h2,h3,Bool.or_false,Bool.false_eq_true,if_false]
 refine Yd (wpAny_pyIter_gen ig1 ?_)
 refine Yd (wpAny_holding ?_)
 unfold Builtin.List.listLengthHint
 refine Yd (wpAny_specialOf (hT _ _ _ ig1) F.gen_no_len ?_)
 show wpAny _ A.in1.in1 (specialOf (Value.ref a) (Str.ofString "__length_hint__") >>= _) _ _ _
 refine Yd (wpAny_specialOf (hT _ _ _ ig1) F.gen_no_hint ?_)
 refine Yn ?_
 show wpAny _ A.in1.in1 (rule "list.extend.makes-room" >>= fun _=>Builtin.List.listTouch (.ref S) >>= fun _ =>
  again (.builtin "list.extend.loop" ⟨[.ref S,.ref a,.ref S],[]⟩)) _ _ _
 refine Yd (wpAny_rule ?_)
 obtain ⟨o,ho,nt,rfl⟩:=H1.at (i:=0) rfl
 refine Yd ?_
 show wpAny _ A.in1.in1 (updateSeq S (·.push .none) >>= fun _=>updateSeq S (·.pop)) _ _ _
 refine Yd (wpAny_updateSeq ho rfl ?_)
 have hS2:=IsL.update ho (fun xs=>xs.push Value.none)
 refine wpAny_updateSeq (hz:=by show (#[]:Array Value).push .none |>.size |> (·≤_); decide) hS2 rfl ?_
 have hS3:=IsL.update hS2 (fun xs=>xs.pop)
 have H2:=H1.upd 0 rfl (p':=ListP []) (fun b o hb e=>(Zm _ _ (Ne.symm hb)).trans ((Zm _ _ (Ne.symm hb)).trans e)) (isPlain ⟨_,hS3⟩)
 have H3:St H0 B (adr fr) X env.locals l ((G.C,CP)::(G.it,IterP G.la 0)::(S,ListP [])::(a,GenP g0.size)::R) _:=H2.perm ((List.Perm.swap _ _ _).trans (.cons _ (List.Perm.swap _ _ _)))
 refine Yn ⟨plainId_quiet F.plain_extend_loop _,gj_loop (A:=A.in1) (n:=n) (R:=R) (l:=l) (X:=X) (B:=B) (fr:=fr) (env:=env) (g0:=g0) rm.in1 gb hz nC nI (fun vs h₃ t3 hv H3=>?_) _ 0 [] _ _ _ rfl ⟨⟨gs,rfl,goes⟩,H3,rfl,Zs _⟩⟩
 obtain ⟨o,ho,nt,rfl⟩:=H3.at (i:=0) rfl
 show wpAny _ A.in1 (load S >>= _) _ _ _
 refine Yd (wpAny_load ho ?_)
 refine Yn ?_
 obtain ⟨lv,hl⟩:=exists_strValues vs fun v hm=>by
  obtain ⟨s,_,e⟩:=hv.mem hm
  cases v with
  | str y u=>exact ⟨y,u,rfl⟩
  | _=>cases e
 have hlv:lv.map (·.1)=G.ss.map G.f:=by
  have:vs.map sOf=(G.ss.map G.f).map some:=hv
  rw [← hl] at this
  have e2:(strValues lv).map sOf=(lv.map (·.1)).map some:=by
   unfold strValues
   rw [List.map_map,List.map_map]
   rfl
  rw [e2] at this
  exact (List.map_inj_right (fun _ _ z=>Zj z)).mp this
 rw [← hlv] at hj q
 unfold JoinOk at hj
 rw [Bool.not_eq_true'] at hj
 have g:Gives (joinTail sep (strValues lv)) (joinMade sep lv):=by
  have g0:=gives_joinTail sep lv hj
  cases lv with
  | nil=>exact g0
  | cons p r=>cases r with
   | nil=>exact g0
   | cons q r'=>exact g0
 show wpAny _ A.in1 (joinTail sep vs.toArray.toList) _ _ _
 rw [List.toList_toArray,← hl]
 have H4:=(H3.lose nS fun _ _ _ e=>e).lose nA fun _ _ _ e=>e
 exact g P w A (wants Q E) _ (post_join lv ⟨joinFit_length hj,fun t' k=>q _ _ _ H4⟩)
end
noncomputable def TabP (ps:Array Value):OP:=fun o=>o = { cls:=.none,data:=.fields ps }
noncomputable def CodeP (pt:Addr):OP:=fun o=>o.cls=.type "code" ∧ E8 fun vs file tf flags tg inF text tt=>o.data=.fields vs∧vs[11]? = some (.ref pt)∧vs.getD 18 .none=.str file tf∧vs.getD 7 .none=.int flags tg∧vs.getD 9 .none=.bool inF∧vs.getD 10 .none=.int text tt
theorem isCode {cc pt:Addr} (hc:Is h cc (CodeP pt)) (hp:Is h pt (TabP #[])) (n:cc≠pt):h.IsCode cc pt #[]∧h.TableAt cc pt #[]:=by
 obtain ⟨o,e,c1,vs,file,tf,flags,tg,inF,text,tt,c2,c3,c4,c5,c6,c7⟩:=hc
 obtain ⟨o2,e2,rfl⟩:=hp
 exact ⟨⟨o,vs,file,tf,flags,tg,inF,text,tt,_,e,c2,by rw [Array.getD_eq_getD_getElem?,c3]; rfl,c4,c5,c6,c7,e2,rfl,trivial,n⟩,⟨o,vs,e,c1,c2,c3⟩,e2⟩
structure JoinK (H0:Heap) (mg mb:Str→Option Value) (cc pt fq:Addr):Prop where
 bs:Bs H0 mg mb
 re:ReK H0 mg
 kcc:Is H0 cc (CodeP pt)
 ne:cc≠pt
 kq:mg "quote" = some (.ref fq)
 kfq:E4 fun name cd pm kwd=>Fn H0 fq (fdF 37 name cd pm kwd)
 bi:E2 fun bm o=>mg "__builtins__" = some (.ref bm)∧bm≠builtinsNs∧H0.get? bm=some o∧o.cls=.type "module" ∧ o.dict=some builtinsNs∧o.data=.plain
theorem b34 (name:Str) (cd pm kwd v:Value):bindArgs (fdF 34 name cd pm kwd) ⟨[v],[]⟩=pure [(("split_command" : Str),v)]:=by rfl
theorem join_call {g} {t} {cc pt fq la:Addr}
  (rm:Rm A (n + 8)) (hfr:Frs A fr) (al:Alive H0 (adr fr) h) (K:JoinK H0 mg mb cc pt fq) (low:∀ a o,H0.get? a=some o→h.get? a=some o) (hf:Fn H0 f (fdF 34 name (.ref cc) pm kwd))
  (M:Lump H0 (adr fr) h [(pt,TabP #[])]) (ha:Ob (adr fr) h la (ListP vs)) (hn:la≠pt) (hs:Strs vs ss) (hq:∀ s∈ss,QuoOk s) (hz:ss.length≤1000) (hj:JoinOk " " (ss.map quo)=true)
  (hR:∀ h' t' tr ps,Step (adr fr) h [(pt,TabP #[])] h' [(pt,TabP ps)]→R (.ok (.ret (.str (Txt.join " " (ss.map quo)) tr))) (sh (g.push .finished) t' h')) :
  codeAny (model P w) A (.call (.ref f) ⟨[.ref la],[]⟩) R (sh g t h):=by
 refine s_enterQ K.bs low hf hfr al rm.room rfl (fun _ _ q=>by rw [b34]; exact Yn q) fun env A' h1 t1 QQ EE ee hA qr qn H0' hF=>?_
 have rm':Rm A' (n + 7):=hA ▸ rm.deeper env
 clear hA
 subst ee
 generalize h.objs.size=Lo at H0' hF ⊢
 have H:St H0 h (adr fr) [pt] Lo _ ([(pt,TabP #[])]++[]) h1:=H0'.own M
 clear H0'
 refine Yh (Zd (MethodCall_ (s_cs fun tc t2=>GM.join ?_) (by rfl)))
 refine callWith_method1 (Yz ?_)
 refine wpAny_GeneratorExp_make (cl:=[]) (by rfl) (by rfl) (by decide) (by rfl) (by rfl) rm'.room (s_ld H ?_) (by intro _; rfl)
 have la1:=H.oldX ha (by simpa using hn)
 refine wpAny_pyIter_list la1.list ?_
 have H1:=H.push { cls:=.type "list_iterator",data:=.fields #[.ref la,.int 0 0] } (p:=IterP la 0) ⟨rfl,rfl⟩
 refine ⟨K.bs.lim.keeps H1.low,?_⟩
 have nI:=H.notOld (Yy (Zf _))
 generalize h1.objs.size=it at H1 nI ⊢
 obtain ⟨ic,tb⟩:=isCode (K.kcc.at fun o e=>H1.low _ _ e) (H1.at (i:=1) rfl) K.ne
 refine wpAny_genexprCodeX (c:=cc) (P:=pt) (ps:=#[]) rfl ic tb rfl fun c' h2 t3 ext _ _ _ _ tb' _=>?_
 have H2:=H1.upd 1 rfl (fun b o hb e=>ext b o hb e) (p':=TabP (#[]++#[rawInt _,rawInt _,.ref c'])) ⟨_,tb'.2,rfl⟩
 clear H1 ic tb tb' ext
 generalize (#[]++#[rawInt _,rawInt _,Value.ref c'])=ps at H2
 obtain ⟨bm,bo,b1,b2,b3,b4,b5,b6⟩:=K.bi
 refine wpAny_builtinsFor (m:=mg) (K.bs.g.keeps H2.low) b1 b2 (H2.low _ _ b3) b4 b5 b6 ?_
 intro h3 hn' hs'
 have nC:=H2.notOld (Yy (Zf _))
 have H3:=(H2.push { cls:=.type "frame",data:=.dict #[] } (p:=fun _=>True) trivial).upd 0 rfl (fun b o hb ho=>(hs'.2 b hb).trans ho) (p':=CP) ((by obtain ⟨o,e,r⟩:=isNs hn'; exact ⟨o,e,_,r⟩))
 generalize h2.objs.size=C at H3 nC hn' hs' ⊢
 have nA:=H3.notOld (Yy (Zf _))
 refine Zn ?_
 have mk:∀ nm qn,St H0 h (adr fr) [pt] Lo _ ((C,CP)::(it,IterP la 0)::(h3.objs.size,GenP g.size)::[(pt,TabP ps)]) (h3.push { cls:=.type "generator",data:=.fields #[.int g.size 0,nm,qn] }):=fun nm qn =>
  (H3.push { cls:=.type "generator",data:=.fields #[.int g.size 0,nm,qn] } (p:=GenP g.size) ⟨rfl,nm,qn,rfl,rfl⟩).perm ((List.Perm.swap _ _ _).trans (.cons _ (List.Perm.swap _ _ _)))
 have mk0:=mk .none .none
 have ea:adr (envF (fdF 34 name (.ref cc) pm kwd) Lo f::fr)=Lo::adr fr:=rfl
 have hLa:∀ b,h.get? b=none→la≠b:=by
  rintro b e rfl
  obtain ⟨o,e',_⟩:=ha.1
  rw [e'] at e; cases e
 have gb:GBase { fr:=envF (fdF 34 name (.ref cc) pm kwd) Lo f::fr,C:=C,it:=it,la:=la,vs:=vs,ss:=ss,f:=quo } mg mb h fr (envF (fdF 34 name (.ref cc) pm kwd) Lo f) [pt]:={
  ok:={ s:=hs,cf:=mk0.nf (C,CP) Yc,cn:=mk0.hi (C,CP) Yc,itc:=mk0.ne (i:=1) (j:=0) rfl rfl (by decide),itf:=mk0.nf (it,IterP la 0) (Yr (i:=1) rfl),itn:=mk0.hi (it,IterP la 0) (Yr (i:=1) rfl),lc:=hLa _ nC,li:=hLa _ nI,lf:=fun m=>(Yu.mp m).elim (hLa _ mk0.Ln) ha.2 }
  gfr:=rfl
  he:=rfl
  bs:=K.bs
  la:=ha
  lx:=by simpa using hn }
 obtain ⟨nq,cq,pq,kq,hfq⟩:=K.kfq
 refine s_joinGen (A:=A') (n:=n + 2) rm' gb hz nC nI nA ?_ (mk _ _) hj fun h' t' tr H'=>qr _ _ (hR _ _ _ ps (St.toStep (G:=[(pt,TabP #[])]) (G':=[(pt,TabP ps)]) (R:=[]) H' fun b hb=>hb))
 refine g_fresh (A:=A'.in1.in1) (n:=n) (rm'.in1.in1.in1.le (by exact Za (by decide) _)) hF gb.ok (fun A2 E' h5 gg t5 x tx m rm2 F2 low2 al2 hC hm hx=>?_) rfl rfl rfl rfl rfl
 exact s_call1 K.bs low2 K.kq hfq (s_ldm hC hm ⟨low2,quote_call (n:=n) rm2 F2 al2 K.bs K.re low2 hfq (hq x hx) fun h' t' tr kk=>⟨h',t',tr,rfl,rfl,kk⟩⟩)
structure VS (env:Env) (l:List (Str×Value)) (F:Fs) (ρ:List (Str×Value)):Prop where
 loc:∀ x v,ρ.lookup x=some v→env.kindOf x=some .local→l.lookup x=some v
 cel:∀ x v c,ρ.lookup x=some v→env.kindOf x=some .cell→env.cells.lookup x=some c→(c,CellP (some v))∈F
 all:∀ x c,env.cells.lookup x=some c→∃ v0,(c,CellP v0)∈F
 inj:∀ x y c,env.cells.lookup x=some c→env.cells.lookup y=some c→x=y
noncomputable def NC (p:OP):Prop:=∀ o,p o→∀ v,o.data≠.cell v
noncomputable def Kf (F F':Fs):Prop:=∀ a p,(a,p)∈F→NC p→(a,p)∈F'
theorem nc_list (vs:List Value):NC (ListP vs):=fun _ ⟨_,e⟩ v z=>by rw [e] at z; cases z
theorem Kf.of {F':Fs} (h:∀ y∈F,y∈F'):Kf F F':=fun a p m _=>h _ m
theorem Kf.trans {K G:Fs} (a:Kf F G) (b:Kf G K):Kf F K:=fun x p m n=>b x p (a x p m n) n
theorem VS.mono {F':Fs} (V:VS env l F ρ) (h:∀ y∈F,y∈F'):VS env l F' ρ:=⟨V.loc,fun x v c a b e=>h _ (V.cel x v c a b e),fun x c e=>(by obtain ⟨v,m⟩:=V.all x c e; exact ⟨v,h _ m⟩),V.inj⟩
theorem St.mem {p:OP} (H:St H0 B fa X L l F h) (m:(a,p)∈F):Is h a p:=H.has _ m
theorem St.obM {p:OP} (H:St H0 B fa X L l F h) (m:(a,p)∈F):Ob (L::fa) h a p:=⟨H.has _ m,H.nf _ m⟩
section
variable {PP:Fs}
theorem s_ldv (H:St H0 B fa X env.locals l F h) (V:VS env l F ρ) (k:Q v (sh g t h)) (hv:autoParam (ρ.lookup x=some v) tR)
  (hl:autoParam (env.kindOf x=some .local∨(env.kindOf x=some .cell∧∃ c,env.cells.lookup x=some c)) tF)
  (hk:autoParam (env.scope.kind=.function) tR) (hd:autoParam ((x == ("__debug__" : Str))=false) tD):wpAny (model P w) A (eval (.Name x pos) env) Q E (sh g t h):=by
 rcases hl with hl | ⟨hl,c,hc⟩
 ·exact s_ld H k (V.loc x v hv hl) hk hl hd
 ·exact s_ldc (H.mem (V.cel x v c hv hl hc)) k hc hk hl hd
theorem s_stv {Q:Unit→Shared→Prop} (H:St H0 B fa X env.locals l (PP++F) h) (V:VS env l F ρ)
  (k:∀ h' t' l' F',Kf F F'→VS env l' F' ((x,v)::ρ)→St H0 B fa X env.locals l' (PP++F') h'→Q () (sh g t' h'))
  (hl:autoParam (env.kindOf x=some .local∨(env.kindOf x=some .cell∧∃ c,env.cells.lookup x=some c)) tF)
  (hk:autoParam (env.scope.kind=.function) tR) (hp:autoParam ((env.scope.kind == .class || (env.scope.kind == .module && env.locals != env.globals))=false) tR):wpAny (model P w) A (storeName env x v) Q E (sh g t h):=by
 have look:∀ y u,((x,v)::ρ).lookup y=some u→(y=x∧u=v)∨(y≠x∧ρ.lookup y=some u):=fun y u e=>by
  rw [List.lookup_cons] at e
  by_cases q:y=x
  ·rw [beq_iff_eq.mpr q] at e; exact .inl ⟨q,(Zj e).symm⟩
  ·rw [Zp.mpr q] at e; exact .inr ⟨q,e⟩
 rcases hl with hl | ⟨hl,c,hc⟩
 ·refine s_st H (fun h' t' H'=>k h' t' _ F (.of fun _ m=>m) ⟨fun y u e z=>?_,fun y u c e z q=>?_,V.all,V.inj⟩ H') hl hp
  ·rw [List.lookup_cons]
   rcases look y u e with ⟨rfl,rfl⟩ | ⟨n,e⟩
   ·rw [beq_self_eq_true]
   ·rw [Zp.mpr n]; exact V.loc y u e z
  ·rcases look y u e with ⟨rfl,rfl⟩ | ⟨n,e⟩
   ·rw [hl] at z; cases z
   ·exact V.cel y u c e z q
 ·obtain ⟨v0,m⟩:=V.all x c hc
  obtain ⟨i,hi⟩:=List.mem_iff_getElem?.mp m
  have e1:(PP++F)[PP.length + i]? = some (c,CellP v0):=by rw [List.getElem?_append_right (Nat.le_add_right _ _),Nat.add_sub_cancel_left]; exact hi
  have e2:(PP++F).set (PP.length + i) (c,CellP (some v))=PP++F.set i (c,CellP (some v)):=by
   rw [List.set_append_right _ _ (Nat.le_add_right _ _),Nat.add_sub_cancel_left]
  have keep:∀ y∈F,y.1≠c→y∈F.set i (c,CellP (some v)):=fun y hy n=>by
   obtain ⟨j,hj⟩:=List.mem_iff_getElem?.mp hy
   have:i≠j:=fun z=>by rw [z,hj] at hi; injection hi with hi; exact n (congrArg Prod.fst hi)
   exact Yr (i:=j) (by rw [List.getElem?_set_ne this]; exact hj)
  have here:(c,CellP (some v))∈F.set i (c,CellP (some v)):=Yr (i:=i) (by rw [List.getElem?_set_self (List.getElem?_eq_some_iff.mp hi).1])
  refine s_stc H (PP.length + i) (fun h' t' H'=>k h' t' l (F.set i (c,CellP (some v))) (fun a p ma np=>?_) ⟨fun y u e z=>?_,fun y u c' e z q=>?_,fun y c' q=>?_,V.inj⟩ (e2 ▸ H')) e1 hc hl hk
  ·by_cases q:a=c
   ·subst q
    obtain ⟨o,eo,po⟩:=H.has (a,p) (Ys _ ma)
    obtain ⟨o',eo',po'⟩:=H.has (a,CellP v0) (Ys _ m)
    rw [eo] at eo'; cases eo'
    exact (np o po v0 po').elim
   ·exact keep _ ma q
  ·rcases look y u e with ⟨rfl,rfl⟩ | ⟨n,e⟩
   ·rw [hl] at z; cases z
   ·exact V.loc y u e z
  ·rcases look y u e with ⟨rfl,rfl⟩ | ⟨n,e⟩
   ·rw [hc] at q; cases q; exact here
   ·exact keep _ (V.cel y u c' e z q) fun w=>n (V.inj y x c (w ▸ q) hc)
  ·by_cases w:c'=c
   ·exact ⟨_,by rw [w]; exact here⟩
   ·obtain ⟨v1,m1⟩:=V.all y c' q
    exact ⟨v1,keep _ m1 w⟩
end
theorem rev10 (xs:List Value) (h:xs.length=10):slicePick xs.toArray none none (some (-1))=xs.reverse.toArray:=by
 have e:xs=(List.range 10).map fun i=>xs.getD i .none:=by
  apply List.ext_getElem
  ·rw [Yp,List.length_range,h]
  ·intro i h1 _
   rw [List.getElem_map,List.getElem_range,Yo,Yj h1]; rfl
 generalize (fun i=>xs.getD i Value.none)=f at e
 subst e
 kernel_rfl
noncomputable def ItemsF (F:Fs) (xs:List Value) (n:Nat) (PI:Nat→OP):Prop:=xs.length=n∧∀ i,i < n→E2 fun (a:Addr) (p:OP)=>xs[i]? = some (Value.ref a)∧(a,p)∈F∧NC p∧∀ o,p o→PI i o
noncomputable def RowI (S:List (List Str)) (i:Nat):OP:=fun o=>∃ vs,ListP vs o∧Strs vs (S.getD i [])
theorem ItemsF.kf {F':Fs} (r:ItemsF F xs n PI) (k:Kf F F'):ItemsF F' xs n PI:=⟨r.1,fun i h=>(by obtain ⟨a,p,e,m,z,q⟩:=r.2 i h; exact ⟨a,p,e,k _ _ m z,z,q⟩)⟩
theorem ItemsF.snoc {a:Nat} {p:OP} (r:ItemsF F xs i PI) (np:NC p) (z:∀ o,p o→PI i o):ItemsF ((a,p)::F) (xs++[Value.ref a]) (i + 1) PI:=by
 refine ⟨by simp [r.1],fun j h=>?_⟩
 by_cases q:j < i
 ·obtain ⟨a',p',e',m,n',z'⟩:=r.2 j q
  exact ⟨a',p',by rw [List.getElem?_append_left (by rw [r.1]; exact q)]; exact e',Yb _ m,n',z'⟩
 ·have:j=i:=by lia
  subst this
  exact ⟨a,p,by rw [List.getElem?_append_right (Nat.le_of_eq r.1)]; simp [r.1],Yc,np,z⟩
theorem ItemsF.get (r:ItemsF F xs n PI) (H:St H0 B fa X L l F h) (hi:i < n):∃ a,xs[i]? = some (Value.ref a)∧Ob (L::fa) h a (PI i) :=
 (by obtain ⟨a,_,e,m,_,q⟩:=r.2 i hi; exact ⟨a,e,(H.mem m).mono q,H.nf _ m⟩)
theorem s_rev10 {k0:Nat} {p:Pos} (H:St H0 B fa X L l F h) (ha:Is h a (ListP xs)) (hz:xs.length=10)
  (e1:∀ Q:Value→Shared→Prop,Q (.ref a) (sh g t h)→wpAny (model P w) A (eval value env) Q E (sh g t h))
  (k:∀ b h' t',St H0 B fa X L l ((b,ListP xs.reverse)::F) h'→Q (.ref b) (sh g t' h'))
  (ht:autoParam (∀ o r,letTemporaryGo value o r=pure ()) tI) :
  wpAny (model P w) A (eval (.Subscript value (.Slice none none (some (.UnaryOp .USub (.Constant (.int 1) k0 p) p1)) p2) pos) env) Q E (sh g t h):=by
 refine wpAny_Subscript_Slice_step PySem.F.slot_list_getitem.lookup (e1 _ ?_) ht
 refine wpAny_Slice (evalPart_none_step (evalPart_none_step (evalPart_some_step (wpAny_UnaryOp (s_ci fun t0 t1=>PySem.P.neg_int ?_)))))
 have kp:∀ b o,h.get? b=some o→(h.push { cls:=.type "slice",data:=.fields #[.none,.none,.int (-1) t1] }).get? b=some o:=fun b o e=>Yv _ e
 have ha':=ha.at (fun o e=>kp a o e)
 refine ⟨ha'.list.typeIs,wpAny_getItem_list_slice ha'.list (Heap.IsSliceOf.new _ _ _ _) .none .none (.int _ _) (by simp) ?_ (by simp only [List.size_toArray]; rw [hz]; decide)⟩
 rw [rev10 xs hz]
 exact k _ _ _ ((H.same kp).push _ ⟨0,rfl⟩)
theorem s_rowsCore {sp:Pos} {iter:Expr} {sa:Addr} {RR:Value→Addr→Result→Shared→Prop}
  (H:St H0 B fa X env.locals l F h) (hh:A.handled=none) (old:∀ F' h',(∀ y∈F,y∈F')→St H0 B fa X env.locals l F' h'→Is h' sa (ListP xs)) (hz:xs.length≤1000)
  (el:∀ (i:Nat) v C m G h t E',xs[i]? = some v→m x=some v→(∀ y∈F,y∈G)→(C,NsP m)∈G→St H0 B fa X env.locals l G h→wpAny (model P w) A (eval elt (compEnvC scope cl C env)) (fun r s'=>E4 fun a p h' t'=>r=.ref a∧s'=(sh g t' h')∧St H0 B fa X env.locals l ((a,p)::G) h'∧NC p∧∀ o,p o→PI i o) E' (sh g t h))
  (done:∀ C D vs F' h' t' m,ItemsF F' vs xs.length PI→(∀ y∈F,y∈F')→B.get? C=none→St H0 B fa X env.locals l ((C,NsP m)::(D,ListP vs)::F') h'→RR (.ref D) C (.ok .next) (sh g t' h'))
  (hk:scope.kind=.function) (hcell:scope.names.all (fun x=>decide (x.2≠.cell))=true) (hl:(relabel scope env).names.lookup x=some .local) :
  wpAny (model P w) A (pyIter (.ref sa)) (fun it s2=>wpAny (model P w) A (newList []) (fun acc s3=>wpAny (model P w) A (newFunctionEnv scope env.globals cl [] env.qual none .none (some env) bi) (fun cenv s4 =>
   codeAny (model P w) A (.compStart (.ListComp elt [⟨.Name x px,iter,[],0⟩] scope pos) 0 it acc { cenv with scope:=relabel scope env }) (RR acc cenv.locals) s4) E s3) E s2) E (sh g t h):=by
 refine wpAny_pyIter_list (old F h (fun _ m=>m) H).list ?_
 have H1:=H.push { cls:=.type "list_iterator",data:=.fields #[.ref sa,.int 0 0] } (p:=IterP sa 0) ⟨rfl,rfl⟩
 have nI:=H.notOld (Yy (Zf _))
 generalize h.objs.size=it at H1 nI ⊢
 refine s_compCore (RR:=RR) H1 (Itr.list hh it sa xs) nI (fun i vs F'=>ItemsF F' vs i PI∧(∀ y∈F,y∈F')∧i≤xs.length) ⟨⟨rfl,fun i e=>absurd e (Nat.not_lt_zero _)⟩,fun _ m=>m,Zs _⟩
  (fun C D i vs F' m h j S=>old _ _ (fun y hy=>Yb _ (Yb _ (Yb _ (j.2.1 y hy)))) S)
  (fun i vs F' j=>j.1.1 ▸ Ye j.2.2 hz) (fun C D i v vs F' h2 t2 m hi hv j hm H2=>?_) (fun C D vs F' h2 t2 m j nC H2=>done C D vs F' h2 t2 m j.1 j.2.1 nC H2) hcell hk hl
 rw [List.forIn_nil]
 refine Yn ?_
 rw [if_pos rfl]
 obtain ⟨j1,j2,j3⟩:=j
 refine Ze (el i v C m _ h2 _ _ hv hm (fun y hy=>Yb _ (Yb _ (Yb _ (j2 y hy)))) Yc H2) (fun r s' q=>?_) fun _ _ e=>e
 obtain ⟨a,p,h3,t3,rfl,rfl,H3,np,z⟩:=q
 exact ⟨h3,t3,(a,p)::F',rfl,H3.perm ((List.Perm.swap _ _ _).trans (.cons _ ((List.Perm.swap _ _ _).trans (.cons _ (List.Perm.swap _ _ _))))),j1.snoc np z,fun y hy=>Yb _ (j2 y hy),hi⟩
theorem s_rowsU {srcN:Str} {sp spos:Pos} (cl:List (Str×Addr)) {sa:Addr} {Q:Flow→Shared→Prop}
  (H:St H0 B fa X env.locals l F h) (V:VS env l F ρ) (hh:A.handled=none) (esrc:ρ.lookup srcN=some (.ref sa)) (old:∀ F' h',(∀ y∈F,y∈F')→St H0 B fa X env.locals l F' h'→Is h' sa (ListP xs)) (hz:xs.length≤1000)
  (el:∀ (i:Nat) v C m G h t E',xs[i]? = some v→m x=some v→(∀ y∈F,y∈G)→(C,NsP m)∈G→St H0 B fa X env.locals l G h→wpAny (model P w) A (eval elt (compEnvC scope cl C env)) (fun r s'=>E4 fun a p h' t'=>r=.ref a∧s'=(sh g t' h')∧St H0 B fa X env.locals l ((a,p)::G) h'∧NC p∧∀ o,p o→PI i o) E' (sh g t h))
  (k:∀ D vs F' h' t' l',ItemsF F' vs xs.length PI→Kf F F'→(D,ListP vs)∈F'→VS env l' F' ((y,.ref D)::ρ)→St H0 B fa X env.locals l' F' h'→Q .next (sh g t' h'))
  (hsw:autoParam (swapsWith (.ListComp elt [⟨.Name x px,.Name srcN sp,[],0⟩] scope pos) (some (.Name y py)) spos.line env=pure true) tR)
  (hclos:autoParam (closureFor scope env=pure cl) tR) (hk:autoParam (scope.kind=.function) tR) (hnames:autoParam (scope.names.all (fun x=>!decide (x.2=.local) || decide (scope.names.lookup x.1=some .local))=true) tR)
  (hs:autoParam (∀ v,foldedSetIterable (.Name srcN sp) env v=pure v) tI)
  (hcell:autoParam (scope.names.all (fun x=>decide (x.2≠.cell))=true) tR) (hl:autoParam ((relabel scope env).names.lookup x=some .local) tR)
  (hsl:autoParam (env.kindOf srcN=some .local∨(env.kindOf srcN=some .cell∧∃ c,env.cells.lookup srcN=some c)) tF)
  (hy:autoParam (env.kindOf y=some .local) tR)
  (hke:autoParam (env.scope.kind=.function) tR) (hd:autoParam ((srcN == ("__debug__" : Str))=false) tD) (hp:autoParam ((env.scope.kind == .class || (env.scope.kind == .module && env.locals != env.globals))=false) tR) :
  wpAny (model P w) A (exec (.Assign [.Name y py] (.ListComp elt [⟨.Name x px,.Name srcN sp,[],0⟩] scope pos) spos) env) Q E (sh g t h):=by
 refine s_compAsg cl (s_ldv H V (s_rowsCore (PI:=PI) (sp:=sp) H hh old hz el (fun C D vs F' h2 t2 m it sub nC H2=>?_) hk hcell hl) esrc hsl hke hd) hsw hclos hk hnames hs
 have V2:VS env l ((D,ListP vs)::F') ρ:=V.mono fun y hy=>Yb _ (sub y hy)
 refine Zl (s_stv (PP:=[(C,NsP m)]) H2 V2 (fun h3 t3 l3 F3 kf V3 H3=>⟨m,(H3.at (i:=0) rfl).ns,fun h4 sb=>k D vs F3 h4 t3 l3 ?_ ?_ ?_ V3 (H3.lose nC fun b o hb ho=>(sb.2 b hb).trans ho)⟩) (.inl hy) hke hp)
 ·exact (it.kf (.of fun y hy=>Yb _ hy)).kf kf
 ·exact (Kf.of fun y hy=>Yb _ (sub y hy)).trans kf
 ·exact kf _ _ Yc (nc_list vs)
theorem s_rowsE {srcN:Str} {sp:Pos} (cl:List (Str×Addr)) {sa:Addr}
  (H:St H0 B fa X env.locals l F h) (V:VS env l F ρ) (hh:A.handled=none) (esrc:ρ.lookup srcN=some (.ref sa)) (old:∀ F' h',(∀ y∈F,y∈F')→St H0 B fa X env.locals l F' h'→Is h' sa (ListP xs)) (hz:xs.length≤1000)
  (el:∀ (i:Nat) v C m G h t E',xs[i]? = some v→m x=some v→(∀ y∈F,y∈G)→(C,NsP m)∈G→St H0 B fa X env.locals l G h→wpAny (model P w) A (eval elt (compEnvC scope cl C env)) (fun r s'=>E4 fun a p h' t'=>r=.ref a∧s'=(sh g t' h')∧St H0 B fa X env.locals l ((a,p)::G) h'∧NC p∧∀ o,p o→PI i o) E' (sh g t h))
  (k:∀ D vs F' h' t',ItemsF F' vs xs.length PI→(∀ y∈F,y∈F')→(D,ListP vs)∈F'→St H0 B fa X env.locals l F' h'→Q (.ref D) (sh g t' h'))
  (hclos:autoParam (closureFor scope env=pure cl) tR) (hk:autoParam (scope.kind=.function) tR) (hnames:autoParam (scope.names.all (fun x=>!decide (x.2=.local) || decide (scope.names.lookup x.1=some .local))=true) tR)
  (hs:autoParam (∀ v,foldedSetIterable (.Name srcN sp) env v=pure v) tI)
  (hcell:autoParam (scope.names.all (fun x=>decide (x.2≠.cell))=true) tR) (hl:autoParam ((relabel scope env).names.lookup x=some .local) tR)
  (hsl:autoParam (env.kindOf srcN=some .local∨(env.kindOf srcN=some .cell∧∃ c,env.cells.lookup srcN=some c)) tF)
  (hke:autoParam (env.scope.kind=.function) tR) (hd:autoParam ((srcN == ("__debug__" : Str))=false) tD) :
  wpAny (model P w) A (eval (.ListComp elt [⟨.Name x px,.Name srcN sp,[],0⟩] scope pos) env) Q E (sh g t h):=by
 refine s_comp cl (s_ldv H V (s_rowsCore (PI:=PI) (sp:=sp) H hh old hz el (fun C D vs F' h2 t2 m it sub nC H2=>?_) hk hcell hl) esrc hsl hke hd) hclos hk hnames hs
 exact ⟨m,(H2.at (i:=0) rfl).ns,fun h4 sb=>k D vs _ h4 t2 (it.kf (.of fun y hy=>Yb _ hy)) (fun y hy=>Yb _ (sub y hy)) Yc (H2.lose nC fun b o hb ho=>(sb.2 b hb).trans ho)⟩
noncomputable abbrev csH (L:Addr):List (Str×Addr):=[("kinds_ahead",L + 7),("kinds_after",L + 6),("at",L + 5),("after",L + 4),("spans",L + 3),("names",L + 2),("words",L + 1)]
noncomputable abbrev eH (name:Str) (cd pm kwd:Value) (L f:Addr):Env:=envC (fdF 50 name cd pm kwd) L f (csH L)
noncomputable def bW (W:List Str) (x:Str):Int:=(W.idxOf x:Nat)
noncomputable def eW (W:List Str) (x:Str):Int:=9 - (W.reverse.idxOf x:Nat)
noncomputable def SpanI (W NM:List Str) (i:Nat):OP:=fun o=>E2 fun t u=>TupP [.int (bW W (NM.getD i "")) t,.int (eW W (NM.getD i "")) u] o
theorem nc_tup (xs:List Value):NC (TupP xs):=fun _ ⟨_,e⟩ v z=>by rw [e] at z; cases z
theorem s_tuple2
  (k:wpAny (model P w) A (eval e1 env) (fun v1 s1=>wpAny (model P w) A (eval e2 env) (fun v2 s2=>E2 fun h3 t₃=>s2=(sh g t₃ h3)∧Q (.ref h3.objs.size) (sh g t₃ (h3.push { cls:=.type "tuple",data:=.seq [v1,v2].toArray }))) E s1) E (sh g t h))
  (hs:autoParam (backTo pos (starEach [e1,e2] env)=[(false,eval e1 env),(false,eval e2 env)]) tR):wpAny (model P w) A (eval (.Tuple [e1,e2] x1 pos) env) Q E (sh g t h):=by
 refine wpAny_Tuple_spliced ?_
 rw [hs]
 refine Yz (Ze k (fun v1 s1 q=>Yz (Ze q (fun v2 s2 q=>Zn ?_) fun _ _ e=>e)) fun _ _ e=>e)
 obtain ⟨h3,t₃,rfl,q⟩:=q
 exact ⟨by show 2≤sizeLine; decide,q⟩
theorem s_indexG {o:Expr} (hx:sOf v=some x) (hm:x∈ss)
  (e1:wpAny (model P w) A (eval o env) (fun ov s1=>E4 fun a vs h1 t1=>ov=.ref a∧s1=(sh g t1 h1)∧Is h1 a (ListP vs)∧Strs vs ss∧vs.length≤1000∧(∀ Q:Value→Shared→Prop,Q v (sh g t1 h1)→wpAny (model P w) A (eval e env) Q E (sh g t1 h1))∧∀ t0 t',Q (.int (ss.idxOf x:Nat) t0) (sh g t' h1)) E (sh g t h))
  (hbase:autoParam (attributeBase o "index" env (eval o env)=eval o env) tR) (hline:autoParam ((apos.endLine == pos.line)=true) tR) (htrees:autoParam (backTo pos (starEach [e] env)=[(false,eval e env)]) tR) :
  wpAny (model P w) A (eval (.Call (.Attribute o "index" apos) [e] [] pos) env) Q E (sh g t h):=by
 refine wpAny_Call_method1_late hbase hline htrees (Ze e1 (fun ov s1 q=>?_) fun _ _ e=>e)
 obtain ⟨a,vs,h1,t1,rfl,rfl,⟨_,ho,n,rfl⟩,hs,hz,e2,k⟩:=q
 have hj:ss.idxOf x < ss.length:=List.idxOf_lt_length_iff.mpr hm
 have hl:=hs.len
 refine ⟨"list", "list.index",PySem.F.plainAttrs_list,PySem.F.slot_list_index,PySem.F.type_list_index,⟨_,ho,rfl⟩,?_,?_⟩
 ·rintro a ⟨⟩
  exact ⟨_,ho,rfl⟩
 refine method_meetsIn PySem.F.slot_list_index PySem.F.entry_list_index rfl (Zx (Yz (e2 _ (Zn ⟨rfl,⟨_,ho,rfl⟩,PySem.F.args_list_index_2 _ _,_,(SeqAt.list_indexAt a vs.toArray n none #[] v (fun y=>eS y v) (ss.idxOf x) (by simp; lia) (by lia) ?_ ?_) P w,ho,fun y hy=>hs.eq (by simpa using hy) hx,k _ _⟩))))
 ·have:=hs.at (i:=ss.idxOf x) (by lia) hj
  show eS _ _=true
  unfold eS
  simp only [List.getElem_toArray]
  rw [this,hx]
  simp
 ·intro m hm' hlt
  have h2:m < ss.length:=by simp at hm'; exact Nat.lt_of_lt_of_eq ‹_› ‹_›
  have:=hs.at (i:=m) (by exact Nat.lt_of_lt_of_le (Nat.lt_succ_self _) ‹_›) h2
  show eS _ _=false
  unfold eS
  simp only [List.getElem_toArray]
  rw [this,hx]
  have:=List.not_of_lt_findIdx (p:=fun y=>y == x) (xs:=ss) hlt
  simpa using this
theorem strs_rev (h:Strs vs ss):Strs vs.reverse ss.reverse:=by
 unfold Strs at h ⊢
 rw [List.map_reverse,List.map_reverse,h]
theorem holds_spans {g} {t} {wa:Addr} {wvs:List Value} {Q:Flow→Shared→Prop}
  (hh:A.handled=none) (H:St H0 B (adr fr) [] L l F h) (V:VS (eH name cd pm kwd L f) l F ρ) (r1:ρ.lookup ("words" : Str)=some (.ref wa)) (r2:ρ.lookup ("names" : Str)=some (.ref na))
  (oW:Ob (adr fr) B wa (ListP wvs)) (oN:Ob (adr fr) B na (ListP nvs)) (sW:Strs wvs W) (sN:Strs nvs NM) (hW:W.length=10) (hN:NM.length≤8) (sub:∀ x∈NM,x∈W)
  (k:∀ D vs F' h' t' l',ItemsF F' vs NM.length (SpanI W NM)→Kf F F'→(D,ListP vs)∈F'→VS (eH name cd pm kwd L f) l' F' (("spans",.ref D)::ρ)→St H0 B (adr fr) [] L l' F' h'→wpAny (model P w) A (execs ((fnp 50).2.1.drop 1) (eH name cd pm kwd L f)) Q E (sh g t' h')) :
  wpAny (model P w) A (execs (fnp 50).2.1 (eH name cd pm kwd L f)) Q E (sh g t h):=by
 have lW:=sW.len
 have lN:=sN.len
 refine s_cons ?_
 intro _ q1 _
 refine Yq ?_
 refine s_rowsE (PI:=SpanI W NM) [("words",L + 1)] H V hh r2 (fun F' h' _ S=>S.old oN) (by lia) (fun i v C m G h1 t1 E' hv hm sub' mC H1=>?_) fun D vs F' h' t' it sub' mD H'=>?_
 ·have mW:=sub' _ (V.cel "words" _ _ r1 (by rfl) (by rfl))
  obtain ⟨x,tx,hx,rfl⟩:=sN.get hv
  have hxN:NM.getD i "" = x:=by rw [Yo,hx]; rfl
  have hxW:=sub x (Yr hx)
  refine s_tuple2 ?_
  refine s_indexG (ss:=W) (v:=.str x tx) rfl hxW (s_ldc (c:=L + 1) (v:=.ref wa) (H1.mem mW) ⟨wa,wvs,h1,_,rfl,rfl,H1.old oW,sW,by lia,fun Q q=>s_ldm (H1.mem mC) hm q,fun t0 t2=>?_⟩)
  refine wpAny_BinOp (s_ci fun t3 t4=>?_)
  refine s_indexG (ss:=W.reverse) (v:=.str x tx) rfl (by rwa [List.mem_reverse]) ?_
  refine s_rev10 H1 (H1.old oW) (by lia) (fun Q q=>s_ldc (c:=L + 1) (v:=.ref wa) (H1.mem mW) q) fun b h₂ t2 H2=>?_
  refine ⟨b,wvs.reverse,h₂,_,rfl,rfl,H2.at (i:=0) rfl,strs_rev sW,by rw [List.length_reverse]; lia,fun Q q=>s_ldm (H2.mem (Yb _ mC)) hm q,fun t5 t6=>PySem.P.sub_int ⟨h₂,_,rfl,?_⟩⟩
  have H3:=(H2.lose (H2.fresh (i:=0) rfl) fun _ _ _ e=>e).push { cls:=.type "tuple",data:=.seq [Value.int (W.idxOf x:Nat) t0,.int (9 - (W.reverse.idxOf x:Nat)) t6].toArray } (p:=TupP [.int (W.idxOf x:Nat) t0,.int (9 - (W.reverse.idxOf x:Nat)) t6]) ⟨0,rfl⟩
  exact ⟨_,_,_,_,rfl,rfl,H3,nc_tup _,fun o p=>⟨t0,t6,by rw [hxN]; exact p⟩⟩
 ·refine s_stv (PP:=[]) H' (V.mono sub') fun h₂ t2 l2 F2 kf V2 H2=>q1 _ ?_
  rw [lN] at it
  exact k D vs F2 h₂ t2 l2 (it.kf kf) ((Kf.of sub').trans kf) (kf _ _ mD (nc_list vs)) V2 H2
noncomputable def FnAt (H0:Heap) (mg:Str→Option Value) (i:Nat) (x:Str):Prop:=E5 fun f name cd pm kwd=>mg x=some (.ref f)∧Fn H0 f (fdF i name cd pm kwd)
structure LawE (H0:Heap) (mg mb:Str→Option Value) (K:Frag) (CN CS:Addr):Prop where
 bs:Bs H0 mg mb
 nr:NamesR mg mb
 cy:CycN mg mb
 ln:LateN H0 K mg mb CS
 srt:∀ nv ns N,Nm nv ns N→SrtEnv2 K H0 mg mb CN CS nv ns N
 so0:mg "sorted" = none
 so1:mb "sorted" = some (.builtin "sorted")
 late:FnAt H0 mg 44 "_law_late"
 ranks:FnAt H0 mg 45 "_law_ranks"
noncomputable def nvOf (nvs:List Value) (i:Nat):Value:=nvs.getD i .none
theorem nvOf_map (nvs:List Value):nvs=(List.range nvs.length).map (nvOf nvs):=by
 apply List.ext_getElem
 ·simp
 ·intro i h1 _
  rw [List.getElem_map,List.getElem_range]
  unfold nvOf
  rw [Yo,Yj h1]; rfl
theorem nmOf (h:Strs nvs NM) (nd:NM.Nodup):Nm (nvOf nvs) (fun i=>NM.getD i "") NM.length where
 v:=fun i hi=>by
  have hl:=h.len
  have hv:nvs[i]? = some (nvOf nvs i):=by unfold nvOf; rw [Yo,Yj (by lia)]; rfl
  obtain ⟨x,t,hx,e⟩:=h.get hv
  exact ⟨t,by rw [e,Yo,hx]; rfl⟩
 inj:=fun i j hi hj e=>by
  rw [Yo,Yo,Yj hi,Yj hj] at e
  exact (List.getElem_inj nd).mp e
theorem spansOf {sp:Addr} (H:St H0 B fa X L l F h) (it:ItemsF F xs NM.length (SpanI W NM)) (m:(sp,ListP xs)∈F) :
  SpansOf (L::fa) h sp NM.length (fun i=>bW W (NM.getD i "")) (fun i=>eW W (NM.getD i "")):=⟨xs,H.obM m,it.1,fun i hi=>by
 obtain ⟨a,e,⟨o,eo,t,u,p⟩,nf⟩:=it.get H hi
 exact ⟨a,t,u,e,⟨o,eo,p⟩,nf⟩⟩
theorem ItemsF.sub {F':Fs} (r:ItemsF F xs n PI) (k:∀ y∈F,y∈F'):ItemsF F' xs n PI:=r.kf (.of k)
theorem holds_after {g} {K CS CN} {t} {sp:Addr} {late:Nat→List Nat} {Q:Flow→Shared→Prop}
  (rm:Rm A (n + 12)) (hF:Frs A (eH name cd pm kwd L f::fr)) (LE:LawE H0 mg mb K CN CS) (H:St H0 B (adr fr) [] L l F h) (V:VS (eH name cd pm kwd L f) l F ρ) (r2:ρ.lookup ("names" : Str)=some (.ref na)) (r3:ρ.lookup ("spans" : Str)=some (.ref sp))
  (oN:Ob (adr fr) B na (ListP nvs)) (sN:Strs nvs NM) (hN:NM.length≤8) (nd:NM.Nodup) (it:ItemsF F xs NM.length (SpanI W NM)) (mS:(sp,ListP xs)∈F)
  (hl:∀ i,i < NM.length→lateP NM.length (fun o j=>decide (eW W (NM.getD o "") < bW W (NM.getD j ""))) i=some (late i))
  (k:∀ D vs F' h' t' l',ItemsF F' vs NM.length (fun i=>ListP ((late i).map (nvOf nvs)))→Kf F F'→(D,ListP vs)∈F'→VS (eH name cd pm kwd L f) l' F' (("after",.ref D)::ρ)→St H0 B (adr fr) [] L l' F' h'→wpAny (model P w) A (execs ((fnp 50).2.1.drop 2) (eH name cd pm kwd L f)) Q E (sh g t' h')) :
  wpAny (model P w) A (execs ((fnp 50).2.1.drop 1) (eH name cd pm kwd L f)) Q E (sh g t h):=by
 have lN:=sN.len
 have ea:adr (eH name cd pm kwd L f::fr)=L::adr fr:=rfl
 obtain ⟨fl,nl,cl,pl,kl,hfl,fnl⟩:=LE.late
 refine s_cons ?_
 intro _ q1 _
 refine Yq ?_
 refine s_rowsE (PI:=fun i=>ListP ((late i).map (nvOf nvs))) [("spans",L + 3),("names",L + 2)] H V rm.1 r2 (fun F' h' _ S=>S.old oN) (by lia) (fun i v C m G h₁ t1 E' hv hm sub' mC H1=>?_) fun D vs F' h' t' it' sub' mD H'=>?_
 ·have mN:=sub' _ (V.cel "names" _ _ r2 (by rfl) (by rfl))
  have mP:=sub' _ (V.cel "spans" _ _ r3 (by rfl) (by rfl))
  have hi:i < NM.length:=by have:=(List.getElem?_eq_some_iff.mp hv).1; exact Nat.lt_of_lt_of_eq ‹_› ‹_›
  obtain rfl:nvOf nvs i=v:=by unfold nvOf; rw [Yo,hv]; rfl
  refine Zb (s_gname LE.bs H1.low hfl (s_fcall fnl (Zx (Yz ?_))))
  refine s_ldc (c:=L + 2) (v:=.ref na) (H1.mem mN) (Yz (s_ldc (c:=L + 3) (v:=.ref sp) (H1.mem mP) (Yz (s_ldm (H1.mem mC) hm (Zn ⟨H1.low,?_⟩)))))
  refine late_call (n:=n) (N:=NM.length) rm hF H1.al H1.low fnl (LE.srt _ _ _ (nmOf sN nd)) LE.cy LE.ln LE.nr hN hi (by rw [ea,← lN,← nvOf_map]; exact H1.oldO oN) (spansOf H1 (it.sub sub') (sub' _ mS)) (hl i hi) fun h2 t2 a K2 n2 i2=>?_
  exact ⟨a,_,h2,t2,rfl,rfl,H1.add K2 n2 i2,nc_list _,fun o p=>p⟩
 ·refine s_stv (PP:=[]) H' (V.mono sub') fun h2 t2 l2 F2 kf V2 H2=>q1 _ ?_
  rw [lN] at it'
  exact k D vs F2 h2 t2 l2 (it'.kf kf) ((Kf.of sub').trans kf) (kf _ _ mD (nc_list vs)) V2 H2
theorem VS.drop (V:VS env l F ((x,v)::ρ)) (n:ρ.lookup x=none):VS env l F ρ:=by
 have e:∀ y u,ρ.lookup y=some u→((x,v)::ρ).lookup y=some u:=fun y u h=>by
  rw [List.lookup_cons,Zp.mpr fun z=>by rw [z,n] at h; cases h]; exact h
 exact ⟨fun y u h=>V.loc y u (e y u h),fun y u c h=>V.cel y u c (e y u h),V.all,V.inj⟩
theorem s_pickCore {iter tst:Expr} {p:Nat→Bool} {RR:Value→Addr→Result→Shared→Prop}
  (H:St H0 B fa X L l ((it,RngP 0 N)::F) h) (hh:A.handled=none) (nI:B.get? it=none) (hz:N≤1000)
  (el:∀ (i:Nat) tk C m G h t (Q':Bool→Shared→Prop) E',i < N→m x=some (.int (i:Nat) tk)→(∀ y∈F,y∈G)→(C,NsP m)∈G→St H0 B fa X L l G h→(∀ t',Q' (p i) (sh g t' h))→wpAny (model P w) A (isTrue tst (compEnvC scope cl C env) (eval tst (compEnvC scope cl C env))) Q' E' (sh g t h))
  (en:∀ (i:Nat) tk C m G h t (Q':Value→Shared→Prop) E',i < N→m x=some (.int (i:Nat) tk)→(∀ y∈F,y∈G)→(C,NsP m)∈G→St H0 B fa X L l G h→Q' (nv i) (sh g t h)→wpAny (model P w) A (eval elt (compEnvC scope cl C env)) Q' E' (sh g t h))
  (done:∀ C D h' t' m,B.get? C=none→St H0 B fa X L l ((C,NsP m)::(D,ListP (((List.range N).filter p).map nv))::F) h'→RR (.ref D) C (.ok .next) (sh g t' h'))
  (hk:scope.kind=.function) (hcell:scope.names.all (fun x=>decide (x.2≠.cell))=true) (hl:(relabel scope env).names.lookup x=some .local) :
  wpAny (model P w) A (newList []) (fun acc s3=>wpAny (model P w) A (newFunctionEnv scope env.globals cl [] env.qual none .none (some env) bi) (fun cenv s4 =>
   codeAny (model P w) A (.compStart (.ListComp elt [⟨.Name x px,iter,[tst],0⟩] scope pos) 0 (.ref it) acc { cenv with scope:=relabel scope env }) (RR acc cenv.locals) s4) E s3) E (sh g t h):=by
 refine s_compCore (RR:=RR) H (Itr.range hh it N) nI (fun i vs F'=>(vs=((List.range i).filter p).map nv∧i≤N)∧F'=F) ⟨⟨rfl,Zs _⟩,rfl⟩ (fun _ _ _ _ _ _ _ _ _=>trivial)
  (fun i vs F' j=>?_) (fun C D i v vs F' h2 t2 m hi hv j hm H2=>?_) (fun C D vs F' h2 t2 m j nC H2=>?_) hcell hk hl
 ·obtain ⟨⟨rfl,hi⟩,_⟩:=j
  rw [Yp]
  exact Ye (List.length_filter_le _ _) (by rw [List.length_range]; exact Ye hi hz)
 ·obtain ⟨⟨rfl,_⟩,rfl⟩:=j
  obtain ⟨tk,rfl⟩:=hv
  have sub:∀ y∈F',y∈(C,NsP m)::(D,ListP (((List.range i).filter p).map nv))::(it,RngP (i + 1) N)::F':=fun y hy=>Yb _ (Yb _ (Yb _ hy))
  refine s_if1 (el i tk C m _ h2 _ _ _ hi hm sub Yc H2 fun t3=>?_)
  have sn:=preds_snoc (p:=p) (i:=i)
  cases hb:p i with
  | false =>
   rw [hb,if_neg Yk,List.append_nil] at sn
   rw [if_neg Yk]
   exact ⟨_,_,_,rfl,H2,⟨by rw [sn],hi⟩,rfl⟩
  | true =>
   rw [hb,if_pos rfl] at sn
   rw [if_pos rfl]
   refine en i tk C m _ h2 _ _ _ hi hm sub Yc H2 ?_
   exact ⟨_,_,_,rfl,H2,⟨by rw [sn,Yt]; rfl,hi⟩,rfl⟩
 ·obtain ⟨⟨rfl,_⟩,rfl⟩:=j
  exact done C D h2 t2 m nC H2
theorem VS.bindL (V:VS env l F ρ) (hl:env.kindOf x=some .local):VS env ((x,v)::l) F ((x,v)::ρ):=by
 have look:∀ y u,((x,v)::ρ).lookup y=some u→(y=x∧u=v)∨(y≠x∧ρ.lookup y=some u):=fun y u e=>by
  rw [List.lookup_cons] at e
  by_cases q:y=x
  ·rw [beq_iff_eq.mpr q] at e; exact .inl ⟨q,(Zj e).symm⟩
  ·rw [Zp.mpr q] at e; exact .inr ⟨q,e⟩
 refine ⟨fun y u e z=>?_,fun y u c e z q=>?_,V.all,V.inj⟩
 ·rw [List.lookup_cons]
  rcases look y u e with ⟨rfl,rfl⟩ | ⟨n,e⟩
  ·rw [beq_self_eq_true]
  ·rw [Zp.mpr n]; exact V.loc y u e z
 ·rcases look y u e with ⟨rfl,rfl⟩ | ⟨n,e⟩
  ·rw [hl] at z; cases z
  ·exact V.cel y u c e z q
section
variable {PP:Fs}
theorem s_stvL {Q:Unit→Shared→Prop} (H:St H0 B fa X env.locals l (PP++F) h) (V:VS env l F ρ)
  (k:∀ h' t' l',VS env l' F ((x,v)::ρ)→St H0 B fa X env.locals l' (PP++F) h'→Q () (sh g t' h'))
  (hl:autoParam (env.kindOf x=some .local) tR) (hp:autoParam ((env.scope.kind == .class || (env.scope.kind == .module && env.locals != env.globals))=false) tR):wpAny (model P w) A (storeName env x v) Q E (sh g t h) :=
 s_st H (fun h' t' H'=>k h' t' _ (V.bindL hl) H') hl hp
end
theorem holds_check {g} {K CS CN} {t} {sp af:Addr} {as:List Value} {late:Nat→List Nat} {Q:Flow→Shared→Prop}
  (rm:Rm A (n + 12)) (LE:LawE H0 mg mb K CN CS) (H:St H0 B (adr fr) [] L l F h) (V:VS (eH name cd pm kwd L f) l F ρ) (r2:ρ.lookup ("names" : Str)=some (.ref na)) (r3:ρ.lookup ("spans" : Str)=some (.ref sp)) (r4:ρ.lookup ("after" : Str)=some (.ref af)) (x1:ρ.lookup ("at" : Str)=none) (x2:ρ.lookup ("due" : Str)=none)
  (oN:Ob (adr fr) B na (ListP nvs)) (sN:Strs nvs NM) (hN:NM.length≤8) (nd:NM.Nodup) (it:ItemsF F xs NM.length (SpanI W NM)) (mS:(sp,ListP xs)∈F) (ia:ItemsF F as NM.length (fun i=>ListP ((late i).map (nvOf nvs)))) (mA:(af,ListP as)∈F)
  (hlt:∀ i,i < NM.length→∀ j∈late i,j < NM.length)
  (hp:∀ i,i < NM.length→(late i).Perm ((List.range NM.length).filter fun o=>decide (bW W (NM.getD o "") > eW W (NM.getD i ""))))
  (k:∀ F' h' t' l',Kf F F'→VS (eH name cd pm kwd L f) l' F' ρ→St H0 B (adr fr) [] L l' F' h'→wpAny (model P w) A (execs ((fnp 50).2.1.drop 3) (eH name cd pm kwd L f)) Q E (sh g t' h')) :
  wpAny (model P w) A (execs ((fnp 50).2.1.drop 2) (eH name cd pm kwd L f)) Q E (sh g t h):=by
 have lN:=sN.len
 have nm:=nmOf sN nd
 have hnv:∀ i,i < NM.length→nvs[i]? = some (nvOf nvs i):=fun i hi=>by unfold nvOf; rw [Yo,Yj (by lia)]; rfl
 refine s_cons ?_
 intro _ q1 q2
 refine wpAny_For ?_
 refine s_type1 LE.bs H.low LE.nr.r0 LE.nr.r1 ?_
 refine s_lenv LE.bs H.low LE.nr.n0 LE.nr.n1 (H.old oN) (by lia) (fun Q q=>s_ldv H V q r2) fun t0 t1=>?_
 rw [lN]
 refine s_iterRange H (by exact Ye hN (by decide)) fun ir t2 h2 H2=>?_
 refine s_forQ (Itr.range rm.1 ir NM.length) (fun i h'=>E2 fun l' F'=>A3 (St H0 B (adr fr) [] L l' ((ir,RngP i NM.length)::F') h') (VS (eH name cd pm kwd L f) l' F' ρ) (Kf F F')) (fun i h' j=>?_) (fun i v h3 t3 h4 Q1 E1 hi hv j hit sb k1 k2 k3 k4=>?_) (fun h3 t3 h4 j sb=>?_) ⟨l,F,H2,V,.of fun _ m=>m⟩
 ·obtain ⟨l',F',S,_⟩:=j
  exact ⟨S.at (i:=0) rfl,trivial⟩
 ·obtain ⟨l',F',S,V',kf⟩:=j
  obtain ⟨tk,rfl⟩:=hv
  have S1:=S.upd 0 rfl sb hit
  refine Zl (s_stv (PP:=[(ir,RngP (i + 1) NM.length)]) S1 V' fun h5 t5 l5 F5 kf5 V5 H5=>?_)
  have kf':=kf.trans kf5
  clear S S1 V' kf kf5
  have V5':=V5.mono (F':=(ir,RngP (i + 1) NM.length)::F5) fun y hy=>Yb _ hy
  refine s_cons ?_
  intro _ q3 _
  refine s_compAsg [("spans",L + 3),("names",L + 2),("at",L + 5)] ?_
  refine s_type1 LE.bs H5.low LE.nr.r0 LE.nr.r1 ?_
  have r2':((("at" : Str),Value.int (i:Nat) tk)::ρ).lookup ("names" : Str)=some (.ref na):=r2
  refine s_lenv LE.bs H5.low LE.nr.n0 LE.nr.n1 (H5.old oN) (by lia) (fun Q q=>s_ldv H5 V5' q r2') fun t0' t6=>?_
  rw [lN]
  refine s_iterRange H5 (by exact Ye hN (by decide)) fun it2 t7 h7 H7=>?_
  have mN:=V5'.cel "names" _ _ r2' (by rfl) (by rfl)
  have mP:=V5'.cel "spans" (.ref sp) _ r3 (by rfl) (by rfl)
  have mT:=V5'.cel "at" (.int (i:Nat) tk) _ rfl (by rfl) (by rfl)
  have mS':=Yb (ir,RngP (i + 1) NM.length) (kf' _ _ mS (nc_list xs))
  have it':=(it.kf kf').sub (F':=(ir,RngP (i + 1) NM.length)::F5) fun y hy=>Yb _ hy
  refine s_pickCore (N:=NM.length) (nv:=nvOf nvs) (p:=fun o=>decide (bW W (NM.getD o "") > eW W (NM.getD i ""))) (RR:=compPost (model P w) A E1 (some (assign (.Name "due" _) _)) fun _ s'=>_) H7 rm.1 (H7.fresh (i:=0) rfl) (by exact Ye hN (by decide))
   (fun j tj C m G h8 t8 Q' E' hj hm sub mC H8 qq=>?_) (fun j tj C m G h8 t8 Q' E' hj hm sub mC H8 qq=>?_) (fun C D h8 t8 m nC H8=>?_) (by rfl) (by rfl) (by rfl)
  ·obtain ⟨aj,ej,⟨oj,eoj,tj1,tj2,pj⟩,_⟩:=(it'.sub sub).get H8 hj
   obtain ⟨ai,ei,⟨oi,eoi,ti1,ti2,pi⟩,_⟩:=(it'.sub sub).get H8 hi
   refine Yg ?_
   refine s_subC (Zk (s_ldc (c:=L + 3) (v:=.ref sp) (H8.mem (sub _ mP)) (s_ldm (H8.mem mC) hm (s_at (H8.mem (sub _ mS')) (by exact Ye (Ye ‹_› ‹_›) (by decide)) ej (wpAny_Constant_int (s_tat (i:=0) (⟨oj,eoj,pj⟩:Is _ _ _) (by decide) rfl ?_))))))
   refine s_subC (Zk (s_ldc (c:=L + 3) (v:=.ref sp) (H8.mem (sub _ mP)) (s_ldc (c:=L + 5) (v:=.int (i:Nat) tk) (H8.mem (sub _ mT)) (s_at (H8.mem (sub _ mS')) (by exact Ye (Ye ‹_› ‹_›) (by decide)) ei (wpAny_Constant_int (s_tat (i:=1) (⟨oi,eoi,pi⟩:Is _ _ _) (by decide) rfl ?_))))))
   exact PySem.P.gt_int (Yi (qq _))
  ·exact Zk (s_ldc (c:=L + 2) (v:=.ref na) (H8.mem (sub _ mN)) (s_ldm (H8.mem mC) hm (s_at (i:=j) (H8.old oN) (by exact Ye (Ye ‹_› ‹_›) (by decide)) (hnv j hj) qq)))
  ·obtain ⟨dvs,hdv⟩:∃ dvs,dvs=((List.range NM.length).filter fun o=>decide (bW W (NM.getD o "") > eW W (NM.getD i ""))).map (nvOf nvs):=⟨_,rfl⟩
   rw [← hdv] at H8
   refine Zl (s_stvL (PP:=[(C,NsP m),(D,ListP dvs),(ir,RngP (i + 1) NM.length)]) (F:=F5) H8 V5 fun h9 t9 l9 V9' H9=>⟨m,(H9.at (i:=0) rfl).ns,fun h10 sb'=>q3 _ ?_⟩)
   have S9:=H9.lose nC fun b o hb ho=>(sb'.2 b hb).trans ho
   have V9:=V9'.mono (F':=(D,ListP dvs)::(ir,RngP (i + 1) NM.length)::F5) fun y hy=>Yb _ (Yb _ hy)
   clear H9 sb' H8 H7 H5
   have mD:(D,ListP dvs)∈(D,ListP dvs)::(ir,RngP (i + 1) NM.length)::F5:=Yc
   have kf'':=kf'.trans (Kf.of (F':=(D,ListP dvs)::(ir,RngP (i + 1) NM.length)::F5) fun y hy=>Yb _ (Yb _ hy))
   have mA':=kf'' _ _ mA (nc_list as)
   obtain ⟨aa,ea,oa⟩:=(ia.kf kf'').get S9 hi
   have st1:=strs_map nm (js:=late i) (hlt i hi)
   have st2:=hdv ▸ strs_map nm (js:=(List.range NM.length).filter fun o=>decide (bW W (NM.getD o "") > eW W (NM.getD i ""))) fun j hj=>by simpa using (List.mem_filter.mp hj).1
   have ll:(late i).length≤8:=by have:=(hp i hi).length_eq; have:=List.length_filter_le (fun o=>decide (bW W (NM.getD o "") > eW W (NM.getD i ""))) (List.range NM.length); rw [List.length_range] at this; lia
   refine s_one (Zh (Yg (Zb (s_bname LE.bs S9.low LE.so0 LE.so1 (PySem.callWith_builtin1 ?_)))))
   refine Zk (s_ldv S9 V9 (v:=.ref af) (s_ldv S9 V9 (v:=.int (i:Nat) tk) (s_at (i:=i) (S9.mem mA') (by exact Ye (Ye ‹_› ‹_›) (by decide)) ea ?_)) r4)
   refine s_sortS S9 oa.1 st1 (by rw [Yp]; exact Nat.lt_of_le_of_lt ll (by decide)) fun b1 vs1 ss1 h11 p1 p2 p3 H11=>?_
   refine Zb (s_bname LE.bs H11.low LE.so0 LE.so1 (PySem.callWith_builtin1 (s_ldv H11 (V9.mono fun y hy=>Yb _ hy) (v:=.ref D) ?_)))
   refine s_sortS H11 (H11.mem (Yb _ mD)) st2 (by rw [hdv,Yp]; have:=(hp i hi).length_eq; lia) fun b2 vs2 ss2 h12 q1 q2 q3' H12=>?_
   obtain rfl:ss1=ss2:=sorted_unique p3 q3' ((p2.trans ((hp i hi).map _)).trans q2.symm)
   refine s_neStrs (H12.at (i:=1) rfl) (H12.at (i:=0) rfl) p1 q1 (rm.le (by exact Za (by decide) _):Rm _ (n + 1)).u (Yi ?_)
   rw [if_neg Yk]
   exact Ym (k1 _ _ ⟨l9,F5,((H12.lose (H12.fresh (i:=0) rfl) fun _ _ _ e=>e).lose (H11.fresh (i:=0) rfl) fun _ _ _ e=>e).lose (S9.fresh (i:=0) rfl) (fun _ _ _ e=>e),(V9'.drop x2).drop x1,kf'⟩)
 ·obtain ⟨l',F',S,V',kf⟩:=j
  exact q1 _ (k F' _ _ l' kf V' (S.lose (S.fresh (i:=0) rfl) sb))
noncomputable def aheadP (late:Nat→List Nat) (N i:Nat):List Nat:=(List.range N).filter fun o=>(late o).contains i
theorem holds_ahead {g} {K CS CN} {t} {af:Addr} {as:List Value} {late:Nat→List Nat} {Q:Flow→Shared→Prop}
  (rm:Rm A (n + 12)) (LE:LawE H0 mg mb K CN CS) (H:St H0 B (adr fr) [] L l F h) (V:VS (eH name cd pm kwd L f) l F ρ) (r2:ρ.lookup ("names" : Str)=some (.ref na)) (r4:ρ.lookup ("after" : Str)=some (.ref af))
  (oN:Ob (adr fr) B na (ListP nvs)) (sN:Strs nvs NM) (hN:NM.length≤8) (nd:NM.Nodup) (ia:ItemsF F as NM.length (fun i=>ListP ((late i).map (nvOf nvs)))) (mA:(af,ListP as)∈F)
  (hlt:∀ i,i < NM.length→∀ j∈late i,j < NM.length)
  (k:∀ D vs F' h' t' l',ItemsF F' vs NM.length (fun i=>ListP ((aheadP late NM.length i).map (nvOf nvs)))→(∀ y∈F,y∈F')→(D,ListP vs)∈F'→VS (eH name cd pm kwd L f) l' F' (("ahead",.ref D)::ρ)→St H0 B (adr fr) [] L l' F' h'→wpAny (model P w) A (execs ((fnp 50).2.1.drop 4) (eH name cd pm kwd L f)) Q E (sh g t' h')) :
  wpAny (model P w) A (execs ((fnp 50).2.1.drop 3) (eH name cd pm kwd L f)) Q E (sh g t h):=by
 have lN:=sN.len
 have nm:=nmOf sN nd
 have hnv:∀ i,i < NM.length→nvs[i]? = some (nvOf nvs i):=fun i hi=>by unfold nvOf; rw [Yo,Yj (by lia)]; rfl
 refine s_cons ?_
 intro _ q1 _
 refine s_compAsg [("names",L + 2),("after",L + 4)] (s_ldv H V ?_ r2)
 refine wpAny_pyIter_list (H.old oN).list ?_
 have H1:=H.push { cls:=.type "list_iterator",data:=.fields #[.ref na,.int 0 0] } (p:=IterP na 0) ⟨rfl,rfl⟩
 have nI:=H.notOld (Yy (Zf _))
 generalize h.objs.size=it at H1 nI ⊢
 refine s_compInUC H1 (Itr.list rm.1 it na nvs) nI (fun i vs F'=>ItemsF F' vs i (fun i=>ListP ((aheadP late NM.length i).map (nvOf nvs)))∧(∀ y∈F,y∈F')∧i≤NM.length) ⟨⟨rfl,fun i e=>absurd e (Nat.not_lt_zero _)⟩,fun _ m=>m,Zs _⟩
  (fun C D cx i vs F' m vx h j S=>S.old oN) (fun i vs F' j=>by have:=j.1.1; have:=j.2.2; lia) (fun C D cx i v vs F' h2 t2 m hi hv j H2=>?_) (fun D vs F' h2 t2 j H2=>?_) (fun _ _=>rfl) (fun _=>rfl) (by rfl) (by rfl)
 ·rw [List.forIn_nil]
  refine Yn ?_
  rw [if_pos rfl]
  obtain ⟨j1,j2,j3⟩:=j
  rw [lN] at hi
  obtain rfl:nvOf nvs i=v:=by unfold nvOf; rw [Yo,hv]; rfl
  obtain ⟨tx,ex⟩:=nm.v i hi
  have subG:∀ y∈F,y∈(C,NsP m)::(D,ListP vs)::(it,IterP na (i + 1))::(cx,CellP (some (nvOf nvs i)))::F':=fun y hy=>Yb _ (Yb _ (Yb _ (Yb _ (j2 y hy))))
  have mN:=subG _ (V.cel "names" _ _ r2 (by rfl) (by rfl))
  have mT:=subG _ (V.cel "after" _ _ r4 (by rfl) (by rfl))
  have mX:(cx,CellP (some (nvOf nvs i)))∈(C,NsP m)::(D,ListP vs)::(it,IterP na (i + 1))::(cx,CellP (some (nvOf nvs i)))::F':=Yr (i:=3) rfl
  refine s_comp [("names",L + 2),("name",cx),("after",L + 4)] ?_
  refine s_type1 LE.bs H2.low LE.nr.r0 LE.nr.r1 ?_
  refine s_lenv LE.bs H2.low LE.nr.n0 LE.nr.n1 (H2.old oN) (by lia) (fun Q q=>s_ldc (c:=L + 2) (v:=.ref na) (H2.mem mN) q) fun t0' t6=>?_
  rw [lN]
  refine s_iterRange H2 (by exact Ye hN (by decide)) fun it2 t7 h7 H7=>?_
  refine s_pickCore (N:=NM.length) (nv:=nvOf nvs) (p:=fun o=>(late o).contains i) (RR:=compPost (model P w) A (fun _ _=>False) none _) H7 rm.1 (H7.fresh (i:=0) rfl) (by exact Ye hN (by decide))
   (fun o tj C2 m2 G h8 t8 Q' E' hj hm sub mC H8 qq=>?_) (fun o tj C2 m2 G h8 t8 Q' E' hj hm sub mC H8 qq=>?_) (fun C2 D2 h8 t8 m2 nC H8=>?_) (by rfl) (by rfl) (by rfl)
  ·obtain ⟨ao,eo,oo⟩:=((ia.sub subG).sub sub).get H8 hj
   have st:=strs_map nm (js:=late o) (hlt o hj)
   refine Yg (s_ldc (c:=cx) (v:=nvOf nvs i) (H8.mem (sub _ mX)) ?_)
   refine Zk (s_ldc (c:=L + 4) (v:=.ref af) (H8.mem (sub _ mT)) (s_ldm (H8.mem mC) hm (s_at (i:=o) (H8.mem (sub _ (subG _ mA))) (by exact Ye (Ye ‹_› ‹_›) (by decide)) eo ?_)))
   refine s_inStrs (x:=NM.getD i "") oo.1 st (by rw [ex]; rfl) (Yi ?_)
   have:(((late o).map fun j=>NM.getD j "").any fun y=>y == NM.getD i "")=(late o).contains i:=by
    rw [Bool.eq_iff_iff,List.any_eq_true,List.contains_iff_mem]
    constructor
    ·rintro ⟨y,hy,e⟩
     obtain ⟨j,hj',rfl⟩:=Yx.mp hy
     exact nm.inj j i (hlt o hj j hj') hi (by simpa using e) ▸ hj'
    ·exact fun hm'=>⟨_,Yx.mpr ⟨i,hm',rfl⟩,by simp⟩
   rw [this]; exact qq _
  ·exact Zk (s_ldc (c:=L + 2) (v:=.ref na) (H8.mem (sub _ mN)) (s_ldm (H8.mem mC) hm (s_at (i:=o) (H8.old oN) (by exact Ye (Ye ‹_› ‹_›) (by decide)) (hnv o hj) qq)))
  ·refine ⟨m2,(H8.at (i:=0) rfl).ns,fun h9 sb=>?_⟩
   have S:=H8.lose nC fun b o hb ho=>(sb.2 b hb).trans ho
   refine ⟨h9,_,(D2,ListP ((aheadP late NM.length i).map (nvOf nvs)))::F',rfl,S.perm ?_,j1.snoc (nc_list _) (fun o p=>p),fun y hy=>Yb _ (j2 y hy),hi⟩
   exact (List.Perm.swap _ _ _).trans (.cons _ ((List.Perm.swap _ _ _).trans (.cons _ ((List.Perm.swap _ _ _).trans (.cons _ (List.Perm.swap _ _ _))))))
 ·obtain ⟨j1,j2,j3⟩:=j
  rw [lN] at j1
  exact q1 _ (k D vs _ h2 t2 _ (j1.sub fun y hy=>Yb _ hy) (fun y hy=>Yb _ (j2 y hy)) Yc ((V.bindL (by rfl)).mono fun y hy=>Yb _ (j2 y hy)) H2)
noncomputable def rowOf (xs:List Value) (S:List (List Str)) (y:Value):List Str:=S.getD (xs.idxOf y) []
noncomputable def RowsAt (h:Heap) (xs:List Value) (S:List (List Str)):Prop:=xs.length=S.length∧∀ i,i < xs.length→∃ a,xs[i]? = some (Value.ref a)∧Is h a (RowI S i)
theorem strs_uniq {s1 s2:List Str} {v1 v2:List Value} (x:Is h a (ListP v1)) (y:Is h a (ListP v2)) (h1:Strs v1 s1) (h2:Strs v2 s2):s1=s2:=by
 obtain ⟨_,e1,n1,rfl⟩:=x
 obtain ⟨_,e2,n2,q⟩:=y
 rw [e1] at e2
 injection e2 with e2
 rw [q] at e2
 have:v1=v2:=by injection e2 with _ _ e3; injection e3 with e3; simpa using e3
 subst this
 exact (List.map_inj_right fun _ _ z=>Zj z).mp (h1.symm.trans h2)
theorem rowI_row (x:Is h a (RowI S i)):∃ vs,Is h a (ListP vs)∧Strs vs (S.getD i []):=by obtain ⟨o,e,vs,p,z⟩:=x; exact ⟨vs,⟨o,e,p⟩,z⟩
theorem RowsAt.of (r:RowsAt h xs S) {y:Value} (hy:y∈xs):E2 fun a vs=>y=.ref a∧Is h a (ListP vs)∧Strs vs (rowOf xs S y):=by
 have hi:=List.idxOf_lt_length_iff.mpr hy
 obtain ⟨a,e,i⟩:=r.2 _ hi
 have:xs[xs.idxOf y]? = some y:=by rw [Yj hi,List.getElem_idxOf]
 rw [this] at e
 obtain ⟨vs,p,z⟩:=rowI_row i
 exact ⟨a,vs,Zj e,p,z⟩
theorem RowsAt.map (r:RowsAt h xs S):xs.map (rowOf xs S)=S:=by
 apply List.ext_getElem
 ·rw [Yp]; exact r.1
 ·intro i h1 h2
  rw [Yp] at h1
  rw [List.getElem_map]
  obtain ⟨a,e,z⟩:=r.2 i h1
  obtain ⟨vs,p,q⟩:=rowI_row z
  rw [Yj h1] at e
  injection e with e
  obtain ⟨a',vs',e',p',q'⟩:=r.of (y:=xs[i]) (List.getElem_mem h1)
  rw [e] at e'
  injection e' with e'
  subst e'
  have:=strs_uniq p' p q' q
  rw [this,Yo,Yj h2]; rfl
theorem row_eq {s1 s2:List Str} (ha:Is s.heap a (ListP vs)) (hb:Is s.heap b (ListP ws)) (h1:Strs vs s1) (h2:Strs ws s2) (hu:A.units < cLine):SeqAt.EqAt A s (.ref a) (.ref b) (s1 == s2):=by
 by_cases q:a=b
 ·subst q
  rw [strs_uniq ha hb h1 h2,beq_self_eq_true]
  exact SeqAt.EqAt.same _
 refine SeqAt.EqAt.of_refs q ?_
 have l1:=h1.len
 have l2:=h2.len
 by_cases hz:vs.length=ws.length
 ·have:=SeqAt.RcAt.lists (A:=A) (s:=s) (e:=fun j=>s1.getD j "" == s2.getD j "") ha.list hb.list (by simpa using hz) hu fun j g1 g2=>by
   have g1':j < vs.length:=by simpa using g1
   have g2':j < ws.length:=by simpa using g2
   have e1:=h1.at (i:=j) g1' (by lia)
   have e2:=h2.at (i:=j) g2' (by exact Nat.lt_of_lt_of_eq ‹_› ‹_›)
   have z:=h1.eq (A:=A.in1) (s:=s) (y:=vs[j]) (x:=ws[j]) (List.getElem_mem g1') e2
   have:eS vs[j] ws[j]=(s1.getD j "" == s2.getD j ""):=by
    show (sOf vs[j] == sOf ws[j])=_
    rw [e1,e2,Yo,Yo,Yj (by lia),Yj (by exact Nat.lt_of_lt_of_eq ‹_› ‹_›)]
    rfl
   rw [this] at z
   simpa using z
  have e:(List.range vs.toArray.size).all (fun j=>s1.getD j "" == s2.getD j "")=(s1 == s2):=by
   rw [Bool.eq_iff_iff,List.all_eq_true,beq_iff_eq]
   constructor
   ·intro h
    apply List.ext_getElem (by lia)
    intro j g1 g2
    have:=h j (by simp; lia)
    rw [beq_iff_eq,Yo,Yo,Yj g1,Yj g2] at this
    exact this
   ·rintro rfl j _
    exact beq_self_eq_true _
  rw [e] at this
  exact this
 ·have e:(s1 == s2)=false:=Zp.mpr fun e=>hz (by rw [l1,l2,e])
  rw [e]
  exact SeqAt.RcAt.lists_lengths ha.list hb.list (by simpa using hz) hu
theorem rows_eqAt (r:RowsAt s.heap xs S) (hu:A.units < cLine):∀ y∈xs,∀ x∈xs,SeqAt.EqAt A s y x (rowOf xs S y == rowOf xs S x):=by
 intro y hy x hx
 obtain ⟨a,vs,rfl,p,z⟩:=r.of hy
 obtain ⟨b,ws,rfl,p',z'⟩:=r.of hx
 exact row_eq p p' z z' hu
theorem dd_map [BEq β] (δ:Value→β) (xs:List Value):(dd (fun y x=>δ y == δ x) xs).map δ=ddl (xs.map δ):=by
 have:∀ (xs acc:List Value),(xs.foldl (fun acc x=>if acc.any (fun y=>δ y == δ x) then acc else acc++[x]) acc).map δ=(xs.map δ).foldl (fun acc x=>if acc.any (fun y=>y == x) then acc else acc++[x]) (acc.map δ):=by
  intro xs
  induction xs with
  | nil=>intro acc; rfl
  | cons x xs ih =>
   intro acc
   rw [List.foldl_cons,ih,Zq,List.foldl_cons,List.any_map]
   congr 1
   by_cases h:acc.any (fun y=>δ y == δ x)=true
   ·rw [if_pos h,if_pos (by exact h)]
   ·rw [if_neg h,if_neg (by exact h),Yt]; rfl
 exact this xs []
theorem s_unpackL2 {u:Value} {Q:Unit→Shared→Prop} (H:St H0 B fa X env.locals l F h) (hh:A.handled=none) (ha:Is h a (ListP [u,v]))
  (k:∀ h' t',St H0 B fa X env.locals ((y,v)::(x,u)::l) F h'→Q () (sh g t' h'))
  (l1:autoParam (env.kindOf x=some .local) tR) (l2:autoParam (env.kindOf y=some .local) tR)
  (hp:autoParam ((env.scope.kind == .class || (env.scope.kind == .module && env.locals != env.globals))=false) tR) :
  wpAny (model P w) A (assign (.Tuple [.Name x p1,.Name y p2] x1 pos) env (.ref a)) Q E (sh g t h):=by
 have hlt:a≠h.objs.size:=Nat.ne_of_lt ha.lt
 rw [arm_assign_Tuple]
 refine Yd (wpAny_standAt ?_)
 unfold unpack
 refine Yd (wpAny_holding ?_)
 show wpAny _ _ (unpackItems (.ref a) 2 none) _ _ _
 unfold unpackItems
 refine Yd ?_
 unfold notIterableAtAll
 refine Yd (wpAny_specialOf ha.list.typeIs PySem.F.slot_list_iter.lookup ?_)
 refine Yn ?_
 simp only [Bool.false_eq_true,if_false]
 refine Yd (wpAny_holding (wpAny_pyIter_list ha.list ?_))
 have I:=Itr.list hh h.objs.size a [u,v]
 have H1:=H.push { cls:=.type "list_iterator",data:=.fields #[.ref a,.int 0 0] } (p:=IterP a 0) ⟨rfl,rfl⟩
 have ha1:Is (h.push { cls:=.type "list_iterator",data:=.fields #[.ref a,.int 0 0] }) a (ListP [u,v]):=ha.at fun o e=>Yv _ e
 have nI:=H.notOld (Yy (Zf _))
 generalize h.objs.size=it at H1 nI I hlt ⊢
 dsimp only
 refine Yd (wpAny_holding ?_)
 show wpAny _ _ (do
  match ← pyNext (.ref it) with
  | none=>pure []
  | some v=>pure (v::(← holding [v] (draw (.ref it) 1)))) _ _ _
 refine Yd (I.item 0 _ _ _ _ _ (Yw (by rfl)) (H1.at (i:=0) rfl) ha1 fun h₂ v2 t2 i2 sb2 e2=>?_)
 cases e2
 have H2:=H1.upd 0 rfl sb2 i2
 have ha2:=ha1.at fun o e=>sb2 _ o hlt e
 dsimp only
 refine Yd (wpAny_holding ?_)
 show wpAny _ _ (do
  match ← pyNext (.ref it) with
  | none=>pure []
  | some v=>pure (v::(← holding [v] (draw (.ref it) 0)))) _ _ _
 refine Yd (I.item 1 _ _ _ _ _ (Yw (by rfl)) (H2.at (i:=0) rfl) ha2 fun h₃ v3 t3 i3 sb3 e3=>?_)
 cases e3
 have H3:=H2.upd 0 rfl sb3 i3
 have ha3:=ha2.at fun o e=>sb3 _ o hlt e
 dsimp only
 refine Yd (wpAny_holding ?_)
 show wpAny _ _ (pure []) _ _ _
 refine Yn (Yn (Yn ?_))
 rw [if_neg (show ¬ [u,v].length < 2 from Nat.lt_irrefl 2)]
 refine Yd (wpAny_holding (I.fin _ _ _ _ _ (H3.at (i:=0) rfl) ha3 fun h₄ sb4=>?_))
 have H4:=H3.lose nI sb4
 simp only [Option.isSome_none,Bool.false_eq_true,if_false]
 refine Yn ?_
 show wpAny _ _ (do holding [v] (assign (.Name x p1) env u); holding [] (assign (.Name y p2) env v); pure ()) _ _ _
 refine Yd (wpAny_holding (Zl (s_st H4 (fun h₅ t5 H5=>?_) l1 hp)))
 refine Yd (wpAny_holding (Zl (s_st H5 (fun h6 t6 H6=>?_) l2 hp)))
 exact Yn (k h6 t6 H6)
theorem s_sortRow {np rp:Pos} {m:Str→Option Value} {ra:List Str}
  (bs:Bs H0 mg mb) (so0:mg "sorted" = none) (so1:mb "sorted" = some (.builtin "sorted")) (H:St H0 B fa X L l F h) (mC:Is h cenv.locals (NsP m)) (hm:m ("row" : Str)=some (.ref a)) (ha:Is h a (ListP vs)) (hs:Strs vs ss) (hz:vs.length < 64) (hp:ra.Perm ss) (hr:sortedS ra=true)
  (k:∀ b p h' t',St H0 B fa X L l ((b,p)::F) h'→NC p→(∀ o,p o→∃ vs,ListP vs o∧Strs vs ra)→Q (.ref b) (sh g t' h'))
  (h1:autoParam (cenv.scope.kind=.function) tR) (h2:autoParam (cenv.kindOf "sorted" = some .globalImplicit) tR) (h3:autoParam (cenv.globals=mainGlobals) tR) (h4:autoParam (cenv.builtins=builtinsNs) tR) (h5:autoParam (cenv.kindOf "row" = some .local) tR)
  (hst:autoParam (starEach [.Name "row" rp] cenv=[(false,eval (.Name "row" rp) cenv)]) tR) :
  wpAny (model P w) A (eval (.Call (.Name "sorted" np) [.Name "row" rp] [] cp) cenv) Q E (sh g t h):=by
 refine Zb (s_bname bs H.low so0 so1 ?_ h1 h2 h3 h4)
 rw [hst]
 refine PySem.callWith_builtin1 (s_ldm mC hm ?_ h1 h5)
 refine s_sortS H ha hs hz fun b vs' ss' h' z p s H'=>?_
 obtain rfl:ss'=ra:=sorted_unique s hr (p.trans hp.symm)
 exact k b _ _ _ H' (nc_list _) fun o p=>⟨vs',p,z⟩
noncomputable def rowsS (r:Nat→List Str) (N:Nat):List (List Str):=(List.range N).map r
theorem rowsS_getD (r:Nat→List Str) (h:i < N):(rowsS r N).getD i []=r i:=by
 unfold rowsS
 rw [Yo,Zc,List.getElem?_range h]; rfl
theorem ItemsF.rows {r:Nat→List Str} (it:ItemsF F xs N (RowI (rowsS r N))) (H:St H0 B fa X L l F h):RowsAt h xs (rowsS r N):=by
 refine ⟨by rw [it.1]; simp [rowsS],fun i hi=>?_⟩
 obtain ⟨a,e,o,_⟩:=it.get H (it.1 ▸ hi)
 exact ⟨a,e,o⟩
theorem St.adds {B:Heap} {fa X:List Addr} {L:Addr} {F:Fs} {l:List (Str×Value)} {h h':Heap} (H:St H0 B fa X L l F h) (K:Kp (L::fa) [] h h'):∀ G:Fs,(G.map (·.1)).Nodup→(∀ x∈G,h.get? x.1=none)→(∀ x∈G,Is h' x.1 x.2)→St H0 B fa X L l (G++F) h'
 | [],_,_,_=>H.call K
 | x::G,nd,new,has=>by
  obtain ⟨n1,n2⟩:=List.nodup_cons.mp nd
  have nx:=new x Yc
  refine (St.adds H K G n2 (fun y hy=>new y (Yb _ hy)) fun y hy=>has y (Yb _ hy)).put (H.notOld nx) (H.al.notIn nx) (fun m=>?_) (none_of fun o e=>by have:=H.low _ _ e; rw [nx] at this; cases this) (has x Yc)
  rw [Yt] at m
  rcases Zz.mp m with m | m
  ·exact n1 m
  ·obtain ⟨y,hy,e⟩:=Yx.mp m
   obtain ⟨o,ho,_⟩:=H.has y hy
   rw [e,nx] at ho; cases ho
theorem holds_ranks {g} {K CS CN} {t} {sp:Addr} {key:Nat→Nat} {LE':List Int} {Q:Flow→Shared→Prop}
  (rm:Rm A (n + 12)) (hF:Frs A (eH name cd pm kwd L f::fr)) (LE:LawE H0 mg mb K CN CS) (H:St H0 B (adr fr) [] L l F h) (V:VS (eH name cd pm kwd L f) l F ρ) (r3:ρ.lookup ("spans" : Str)=some (.ref sp))
  (hN1:1≤NM.length) (hN:NM.length≤8) (it:ItemsF F xs NM.length (SpanI W NM)) (mS:(sp,ListP xs)∈F)
  (hk:∀ i j,i < NM.length + NM.length→j < NM.length + NM.length→lexB (evC NM.length (fun i=>bW W (NM.getD i "")) (fun i=>eW W (NM.getD i "")) i) (evC NM.length (fun i=>bW W (NM.getD i "")) (fun i=>eW W (NM.getD i "")) j)=decide (key i < key j)) (h01:key 0 < key 1) (hinj:∀ i j,i < NM.length + NM.length→j < NM.length + NM.length→key i=key j→i=j)
  (hr:∀ p:Array Nat,PermR (NM.length + NM.length) p→Srt key p (NM.length + NM.length)→(p.toList.foldl (rkStep NM.length) (rk0 NM.length)).2.2.1=LB∧(p.toList.foldl (rkStep NM.length) (rk0 NM.length)).2.2.2=LE')
  (k:∀ rb re vb ve F' h' t' l',(∀ y∈F,y∈F')→(rb,ListP vb)∈F'→(re,ListP ve)∈F'→Ints vb LB→Ints ve LE'→VS (eH name cd pm kwd L f) l' F' (("ends",.ref re)::("begins",.ref rb)::ρ)→St H0 B (adr fr) [] L l' F' h'→wpAny (model P w) A (execs ((fnp 50).2.1.drop 5) (eH name cd pm kwd L f)) Q E (sh g t' h')) :
  wpAny (model P w) A (execs ((fnp 50).2.1.drop 4) (eH name cd pm kwd L f)) Q E (sh g t h):=by
 obtain ⟨fk,nk,ck,pk,kk,hfk,fnk⟩:=LE.ranks
 refine s_cons ?_
 intro _ q1 _
 refine wpAny_Assign_stores ?_ rfl rfl
 refine Zb (s_gname LE.bs H.low hfk (s_fcall fnk (Zx (Yz (s_ldv H V (Zn ⟨H.low,?_⟩) r3)))))
 refine ranks_call (n:=n) (rm.le (by exact Za (by decide) _)) hF H.al LE.bs H.low fnk LE.nr LE.so0 LE.so1 hN1 hN (spansOf H it mS) hk h01 hinj fun h₂ t2 p rk rb re vb ve pr sr K nd new i1 i2 i3 n1 n2=>?_
 obtain ⟨e1,e2⟩:=hr p pr sr
 rw [e1] at n1
 rw [e2] at n2
 have H2:=H.adds K [(rk,ListP [.ref rb,.ref re]),(rb,ListP vb),(re,ListP ve)] nd (fun x hx=>by simp only [Yu,List.not_mem_nil,or_false] at hx; rcases hx with rfl | rfl | rfl<;>exact new _ (by simp)) (fun x hx=>by
  simp only [Yu,List.not_mem_nil,or_false] at hx
  rcases hx with rfl | rfl | rfl
  ·exact i1
  ·exact i2
  ·exact i3)
 refine s_unpackL2 (x1:=0) H2 rm.1 (H2.at (i:=0) rfl) fun h₃ t3 H3=>q1 _ ?_
 have sub:∀ y∈F,y∈[(rk,ListP [.ref rb,.ref re]),(rb,ListP vb),(re,ListP ve)]++F:=fun y hy=>Ys _ hy
 exact k rb re vb ve _ h₃ _ _ sub (Yr (i:=1) rfl) (Yr (i:=2) rfl) n1 n2 (((V.mono sub).bindL (by rfl)).bindL (by rfl)) H3
theorem s_sorted {srcN:Str} {sp spos np rp:Pos} {sa:Addr} {ix:Nat→List Nat} {RA:Nat→List Str} {Q:Flow→Shared→Prop}
  (bs:Bs H0 mg mb) (so0:mg "sorted" = none) (so1:mb "sorted" = some (.builtin "sorted")) (H:St H0 B (adr fr) [] L l F h) (V:VS (eH name cd pm kwd L f) l F ρ) (hh:A.handled=none) (esrc:ρ.lookup srcN=some (.ref sa)) (m:(sa,ListP xs)∈F) (it:ItemsF F xs N (fun i=>ListP ((ix i).map (nvOf nvs))))
  (hN:N≤8) (nm:Nm (nvOf nvs) (fun i=>NM.getD i "") N) (hlt:∀ i,i < N→∀ j∈ix i,j < N) (hlen:∀ i,i < N→(ix i).length≤8)
  (hp:∀ i,i < N→(RA i).Perm ((ix i).map fun j=>NM.getD j "")) (hs:∀ i,i < N→sortedS (RA i)=true)
  (k:∀ D vs F' h' t' l',ItemsF F' vs N (RowI (rowsS RA N))→Kf F F'→(D,ListP vs)∈F'→VS (eH name cd pm kwd L f) l' F' ((y,.ref D)::ρ)→St H0 B (adr fr) [] L l' F' h'→Q .next (sh g t' h'))
  (hsl:autoParam ((eH name cd pm kwd L f).kindOf srcN=some .local∨((eH name cd pm kwd L f).kindOf srcN=some .cell∧∃ c,(eH name cd pm kwd L f).cells.lookup srcN=some c)) tF)
  (hy:autoParam ((eH name cd pm kwd L f).kindOf y=some .local) tR) (hd:autoParam ((srcN == ("__debug__" : Str))=false) tD)
  (hsw:autoParam (swapsWith (.ListComp (.Call (.Name "sorted" np) [.Name "row" rp] [] cp) [⟨.Name "row" px,.Name srcN sp,[],0⟩] { kind:=.function,names:=[(".0",.local),("row",.local),("sorted",.globalImplicit)],isGenerator:=false,isCoroutine:=false } pos) (some (.Name y py)) spos.line (eH name cd pm kwd L f)=pure true) tR)
  (hfs:autoParam (∀ v,foldedSetIterable (.Name srcN sp) (eH name cd pm kwd L f) v=pure v) tI) :
  wpAny (model P w) A (exec (.Assign [.Name y py] (.ListComp (.Call (.Name "sorted" np) [.Name "row" rp] [] cp) [⟨.Name "row" px,.Name srcN sp,[],0⟩] { kind:=.function,names:=[(".0",.local),("row",.local),("sorted",.globalImplicit)],isGenerator:=false,isCoroutine:=false } pos) spos) (eH name cd pm kwd L f)) Q E (sh g t h):=by
 have lx:=it.1
 refine s_rowsU (PI:=RowI (rowsS RA N)) [] H V hh esrc (fun F' h' sub S=>S.mem (sub _ m)) (by lia) (fun i v C m G h1 t1 E' hv hm sub mC H1=>?_) (fun D vs F' h' t' l' it' kf m' V' H'=>k D vs F' h' t' l' (lx ▸ it') kf m' V' H') hsw (by rfl) (by rfl) (by rfl) hfs (by rfl) (by rfl) hsl hy rfl hd rfl
 have hi:i < N:=lx ▸ (List.getElem?_eq_some_iff.mp hv).1
 obtain ⟨a,e,o⟩:=(it.sub sub).get H1 hi
 rw [hv] at e; cases e
 refine s_sortRow (ra:=RA i) bs so0 so1 H1 (H1.mem mC) hm o.1 (strs_map nm (hlt i hi)) (by rw [Yp]; have:=hlen i hi; exact Nat.lt_of_le_of_lt this (by decide)) (hp i hi) (hs i hi) fun b p h2 t2 H2 np z=>⟨b,p,h2,t2,rfl,rfl,H2,np,fun o po=>?_⟩
 obtain ⟨vs,p1,p2⟩:=z o po
 exact ⟨vs,p1,by rw [rowsS_getD RA hi]; exact p2⟩
structure LawE2 (H0:Heap) (mg mb:Str→Option Value):Prop where
 unh:E5 fun f name cd pm kwd=>Fn H0 f (fdF 5 name cd pm kwd)∧Names mg mb f
 ded:E6 fun f name cd pm kd m=>mg "_deduplicate" = some (.ref f)∧Fn H0 f (fdF 4 name cd pm (.ref kd))∧H0.Ns kd m∧m "unhashable_fallback" = some (.bool false)
 cmp:FnAt H0 mg 6 "_compare_args_orderless"
 nd:NamesD mg mb
 te0:mg "TypeError" = none
 te1:mb "TypeError" = some (.type "TypeError")
 m0:mg "max" = none
 m1:mb "max" = some (.builtin "max")
 words:FnAt H0 mg 40 "_law_words"
 wrt:FnAt H0 mg 41 "_law_writings"
 met:FnAt H0 mg 42 "_law_met"
 refu:FnAt H0 mg 46 "_law_refused"
 alike:FnAt H0 mg 47 "_law_told_alike"
 apart:FnAt H0 mg 48 "_law_told_apart"
 line:FnAt H0 mg 49 "_law_line"
noncomputable def rowE (vs:List Value) (S:List (List Str)) (y x:Value):Bool:=rowOf vs S y == rowOf vs S x
noncomputable def RowsOb (fa:List Addr) (h:Heap) (xs:List Value) (S:List (List Str)):Prop:=xs.length=S.length∧∀ i,i < xs.length→∃ a,xs[i]? = some (Value.ref a)∧Ob fa h a (RowI S i)
theorem RowsOb.at (r:RowsOb fa h xs S) (k:∀ a p,Ob fa h a p→Is h' a p):RowsAt h' xs S :=
 ⟨r.1,fun i hi=>(by obtain ⟨a,e,o⟩:=r.2 i hi; exact ⟨a,e,k _ _ o⟩)⟩
theorem ItemsF.rob (it:ItemsF F xs S.length (RowI S)) (H:St H0 B fa X L l F h):RowsOb (L::fa) h xs S :=
 ⟨it.1,fun _ hi=>it.get H (it.1 ▸ hi)⟩
theorem s_fcallK {args:List (Bool×Sem Value)} {kws:List (Option Str×Sem Value)} {first:List Value} (hf:Fn H0 f fd)
  (h:wpAny (model P w) A (evalArgs (.ref f) true args kws) (fun x s1=>(∀ a o,H0.get? a=some o→s1.heap.get? a=some o)∧codeAny (model P w) A (.call (.ref f) ⟨first++x.pos,x.kw⟩) (back Q E) s1) E s) :
  wpAny (model P w) A (callWith pos (.ref f) first args kws) Q E s:=by
 obtain ⟨o,ho,hd⟩:=hf.1
 exact callWith_function_kw (o:=o) (fd:=fd) (Ze h (fun x s1 q=>⟨⟨q.1 _ _ ho,hd⟩,wpAny_call q.2⟩) fun _ _ e=>e)
theorem s_unh {np xp:Pos}
  (rm:Rm A (n + 12)) (hF:Frs A (eH name cd pm kwd L f::fr)) (bs:Bs H0 mg mb) (LE:LawE2 H0 mg mb) (H:St H0 B (adr fr) [] L l F h) (V:VS (eH name cd pm kwd L f) l F ρ) (hx:ρ.lookup x=some (.ref a)) (m:(a,ListP vs)∈F) (it:ItemsF F vs S.length (RowI S)) (hz:vs.length≤1000)
  (k:∀ b h' t',St H0 B (adr fr) [] L l ((b,ListP (dd (rowE vs S) vs))::F) h'→Q (.ref b) (sh g t' h'))
  (hl:autoParam ((eH name cd pm kwd L f).kindOf x=some .local) tR) (hd:autoParam ((x == ("__debug__" : Str))=false) tD) (hst:autoParam (starEach [.Name x xp] (eH name cd pm kwd L f)=[(false,eval (.Name x xp) (eH name cd pm kwd L f))]) tR) :
  wpAny (model P w) A (eval (.Call (.Name "_deduplicate_unhashable" np) [.Name x xp] [] cp) (eH name cd pm kwd L f)) Q E (sh g t h):=by
 obtain ⟨fu,nu,cu,pu,ku,hfu,N⟩:=LE.unh
 refine Zb (s_gname bs H.low N.u (s_fcall hfu ?_))
 rw [hst]
 refine Zx (Yz (s_ldv H V (Zn ⟨H.low,?_⟩) hx (.inl hl) rfl hd))
 have rob:=it.rob H
 refine dedup_call (e:=rowE vs S) (n:=n + 1) (rm.le (by lia):Rm A (n + 1 + 2)).rd (fun h' _=>.inl rm.1) hF H.al bs H.low hfu (H.obM m) (Ye hz (by decide)) (fun A' s' rd K=>rows_eqAt (rob.at fun a p o=>(Ob.kp (fa:=h.objs.size::L::adr fr) ⟨o.1,fun z=>?_⟩ K).1) rd.u) fun h' t' b K nb ib=>k b h' t' (H.add K nb ib)
 rcases Yu.mp z with z | z
 ·exact Nat.ne_of_lt o.1.lt z
 ·exact o.2 z
theorem s_fall {np xp k2 kp:Pos} {k1:Nat}
  (rm:Rm A (n + 12)) (hF:Frs A (eH name cd pm kwd L f::fr)) (bs:Bs H0 mg mb) (LE:LawE2 H0 mg mb) (H:St H0 B (adr fr) [] L l F h) (V:VS (eH name cd pm kwd L f) l F ρ) (hx:ρ.lookup x=some (.ref a)) (m:(a,ListP vs)∈F) (it:ItemsF F vs S.length (RowI S)) (hne:0 < vs.length) (hz:vs.length≤1000)
  (k:∀ b h' t',St H0 B (adr fr) [] L l ((b,ListP (dd (rowE vs S) vs))::F) h'→Q (.ref b) (sh g t' h'))
  (hl:autoParam ((eH name cd pm kwd L f).kindOf x=some .local) tR) (hd:autoParam ((x == ("__debug__" : Str))=false) tD) (hst:autoParam (starEach [.Name x xp] (eH name cd pm kwd L f)=(false,eval (.Name x xp) (eH name cd pm kwd L f))::starEach [] (eH name cd pm kwd L f)) tR) :
  wpAny (model P w) A (eval (.Call (.Name "_deduplicate" np) [.Name x xp] [⟨some "unhashable_fallback",.Constant (.bool true) k1 k2,kp⟩] cp) (eH name cd pm kwd L f)) Q E (sh g t h):=by
 obtain ⟨fu,nu,cu,pu,ku,hfu,N⟩:=LE.unh
 obtain ⟨fd,nd,cd',pd,kd,mk,hd',hfd,_,_⟩:=LE.ded
 have rob:=it.rob H
 obtain ⟨r,er,or⟩:=rob.2 0 hne
 obtain ⟨rs,pr,_⟩:=rowI_row or.1
 refine Zb (s_gname bs H.low hd' ?_)
 refine s_fcallK hfd (evalArgs_kw2 (by rfl) ?_ hst)
 rw [hst]
 refine Yz (s_ldv H V (Zn (kwAll_cons (wpAny_Constant_bool (kwAll_nil ⟨H.low,?_⟩)))) hx (.inl hl) rfl hd)
 refine ded_fall (e:=rowE vs S) (n:=n + 1) (rm.le (by lia)) hF H.al bs H.low hfd hfu N.u LE.nd LE.te0 LE.te1 (H.obM m) er ⟨pr,or.2⟩ (Ye hz (by decide)) (fun A' s' rd K=>rows_eqAt (rob.at K) rd.u) fun h' t' b K nb ib=>k b h' t' (H.add K nb ib)
theorem ItemsF.app {T:List (List Str)} (a:ItemsF F xs S.length (RowI S)) (b:ItemsF F ys T.length (RowI T)):ItemsF F (xs++ys) (S++T).length (RowI (S++T)):=by
 refine ⟨by rw [Zw,Zw,a.1,b.1],fun i hi=>?_⟩
 rw [Zw] at hi
 by_cases q:i < S.length
 ·obtain ⟨c,p,e,m,n,z⟩:=a.2 i q
  refine ⟨c,p,by rw [List.getElem?_append_left (by rw [a.1]; exact q)]; exact e,m,n,fun o po=>?_⟩
  obtain ⟨vs,p1,p2⟩:=z o po
  exact ⟨vs,p1,by rw [Yo,List.getElem?_append_left q,← Yo]; exact p2⟩
 ·have q':S.length≤i:=by exact Nat.le_of_not_lt ‹_›
  obtain ⟨c,p,e,m,n,z⟩:=b.2 (i - S.length) (by lia)
  refine ⟨c,p,by rw [List.getElem?_append_right (by rw [a.1]; exact q'),a.1]; exact e,m,n,fun o po=>?_⟩
  obtain ⟨vs,p1,p2⟩:=z o po
  exact ⟨vs,p1,by rw [Yo,List.getElem?_append_right q',← Yo]; exact p2⟩
theorem rowsS_len (r:Nat→List Str) (N:Nat):(rowsS r N).length=N:=by simp [rowsS]
theorem dd_le (e:Value→Value→Bool) (xs:List Value):(dd e xs).length≤xs.length:=by
 have:=dd_len e xs xs.length; rwa [List.take_length] at this
theorem s_ifOr2 {x y:Expr} {Q:Flow→Shared→Prop}
  (h:wpAny (model P w) A (isTrue x env (eval x env)) (fun c s=>c=false∧wpAny (model P w) A (isTrue y env (eval y env)) (fun c s=>c=false∧Q .next s) E s) E s) :
  wpAny (model P w) A (exec (.If (.BoolOp .Or [x,y] p1) body [] p2) env) Q E s :=
 Zh (isTrue_or (Ze h (fun _ _ ⟨e,q⟩=>e ▸ isTrue_or (Ze q (fun _ _ ⟨e,q⟩=>e ▸ isTrue_or_nil (Ym q)) fun _ _ e=>e)) fun _ _ e=>e))
theorem s_neSelf (ha:Is h a (ListP xs)) (hb:Is h b (ListP xs)) (hu:A.units < cLine) (k:Q (.bool false) (sh g t h)) :
  wpAny (model P w) A (compareOp .NotEq (.ref a) (.ref b)) Q E (sh g t h):=s_neList ha hb rfl hu (fun _ _ _=>SeqAt.EqAt.same _) k
theorem s_metC {np xp:Pos}
  (rm:Rm A (n + 12)) (hF:Frs A (eH name cd pm kwd L f::fr)) (bs:Bs H0 mg mb) (nr:NamesR mg mb) (LE:LawE2 H0 mg mb) (H:St H0 B (adr fr) [] L l F h) (V:VS (eH name cd pm kwd L f) l F ρ) (hx:ρ.lookup x=some (.ref a)) (m:(a,ListP vs)∈F) (it:ItemsF F vs S.length (RowI S)) (hz:vs.length≤1000)
  (k:∀ b h' t',St H0 B (adr fr) [] L l ((b,ListP (dd (rowE vs S) vs))::F) h'→Q (.ref b) (sh g t' h'))
  (hl:autoParam ((eH name cd pm kwd L f).kindOf x=some .local) tR) (hd:autoParam ((x == ("__debug__" : Str))=false) tD) (hst:autoParam (starEach [.Name x xp] (eH name cd pm kwd L f)=[(false,eval (.Name x xp) (eH name cd pm kwd L f))]) tR) :
  wpAny (model P w) A (eval (.Call (.Name "_law_met" np) [.Name x xp] [] cp) (eH name cd pm kwd L f)) Q E (sh g t h):=by
 obtain ⟨fu,nu,cu,pu,ku,hu,hfu⟩:=LE.met
 refine Zb (s_gname bs H.low hu (s_fcall hfu ?_))
 rw [hst]
 refine Zx (Yz (s_ldv H V (Zn ⟨H.low,?_⟩) hx (.inl hl) rfl hd))
 have rob:=it.rob H
 exact met_call (e:=rowE vs S) (n:=n + 1) (rm.le (by lia)) hF H.al bs H.low hfu nr (H.obM m) hz (fun A' s' rd K=>rows_eqAt (rob.at K) rd.u) (fun i x _=>dd_any (rowOf vs S) (vs.take i) x) fun h' t' b K nb ib=>k b h' t' (H.add K nb ib)
theorem holds_kinds {g} {t} {af ah:Addr} {ia ih:Nat→List Nat} {RA RH:Nat→List Str} {Q:Flow→Shared→Prop}
  (rm:Rm A (n + 13)) (hF:Frs A (eH name cd pm kwd L f::fr)) (bs:Bs H0 mg mb) (nr:NamesR mg mb) (so0:mg "sorted" = none) (so1:mb "sorted" = some (.builtin "sorted")) (LE:LawE2 H0 mg mb) (H:St H0 B (adr fr) [] L l F h) (V:VS (eH name cd pm kwd L f) l F ρ) (r4:ρ.lookup ("after" : Str)=some (.ref af)) (r5:ρ.lookup ("ahead" : Str)=some (.ref ah))
  (m1:(af,ListP xs)∈F) (m2:(ah,ListP ys)∈F) (i1:ItemsF F xs N (fun i=>ListP ((ia i).map (nvOf nvs)))) (i2:ItemsF F ys N (fun i=>ListP ((ih i).map (nvOf nvs))))
  (hN1:1≤N) (hN:N≤8) (nm:Nm (nvOf nvs) (fun i=>NM.getD i "") N) (la:∀ i,i < N→∀ j∈ia i,j < N) (lh:∀ i,i < N→∀ j∈ih i,j < N) (za:∀ i,i < N→(ia i).length≤8) (zh:∀ i,i < N→(ih i).length≤8)
  (pa:∀ i,i < N→(RA i).Perm ((ia i).map fun j=>NM.getD j "")) (sa:∀ i,i < N→sortedS (RA i)=true) (ph:∀ i,i < N→(RH i).Perm ((ih i).map fun j=>NM.getD j "")) (sRH:∀ i,i < N→sortedS (RH i)=true)
  (k:∀ ra rh ka kh va vh u1 u2 F' h' t' l',ItemsF F' va N (RowI (rowsS RA N))→ItemsF F' vh N (RowI (rowsS RH N))→Kf F F'→(ra,ListP va)∈F'→(rh,ListP vh)∈F'→(ka,ListP (dd (rowE va (rowsS RA N)) va))∈F'→(kh,ListP (dd (rowE vh (rowsS RH N)) vh))∈F' →
   VS (eH name cd pm kwd L f) l' F' (("met",u2)::("both",u1)::("kinds_ahead",.ref kh)::("kinds_after",.ref ka)::("rows_ahead",.ref rh)::("rows_after",.ref ra)::ρ)→St H0 B (adr fr) [] L l' F' h'→wpAny (model P w) A (execs ((fnp 50).2.1.drop 12) (eH name cd pm kwd L f)) Q E (sh g t' h')) :
  wpAny (model P w) A (execs ((fnp 50).2.1.drop 5) (eH name cd pm kwd L f)) Q E (sh g t h):=by
 have zA:=rowsS_len RA N
 have zH:=rowsS_len RH N
 refine s_cons ?_
 intro _ q1 _
 refine s_sorted bs so0 so1 H V rm.1 r4 m1 i1 hN nm la za pa sa fun ra va F1 h1 t1 l1 j1 k1 n1 V1 H1=>q1 _ ?_
 clear q1
 refine s_cons ?_
 intro _ q1 _
 refine s_sorted bs so0 so1 H1 V1 rm.1 (sa:=ah) r5 (k1 _ _ m2 (nc_list _)) (i2.kf k1) hN nm lh zh ph sRH fun rh vh F2 h2 t2 l2 j2 k2 n2 V2 H2=>q1 _ ?_
 clear q1 H1 V1
 have j1':=j1.kf k2
 have n1':=k2 _ _ n1 (nc_list _)
 have rm2:Rm A (n + 1 + 12):=rm
 refine s_cons ?_
 intro _ q1 _
 refine Yq (s_unh rm2 hF bs LE H2 V2 (x := "rows_after") (by rfl) n1' (S:=rowsS RA N) (by rw [zA]; exact j1') (by rw [j1.1]; exact Ye hN (by decide)) fun ka h3 t3 H3=>?_)
 refine s_stv (PP:=[]) H3 (V2.mono fun y hy=>Yb _ hy) fun h4 t4 l4 F4 k4 V4 H4=>q1 _ ?_
 clear q1 H3
 have k4':Kf F2 F4:=(Kf.of fun y hy=>Yb _ hy).trans k4
 have mka:=k4 _ _ Yc (nc_list _)
 refine s_cons ?_
 intro _ q1 _
 refine Yq (s_fall rm2 hF bs LE H4 V4 (x := "rows_ahead") (by rfl) (k4' _ _ n2 (nc_list _)) (S:=rowsS RH N) (by rw [zH]; exact j2.kf k4') (by rw [j2.1]; exact Nat.zero_lt_of_lt ‹_›) (by rw [j2.1]; exact Ye hN (by decide)) fun kh h5 t5 H5=>?_)
 refine s_stv (PP:=[]) H5 (V4.mono fun y hy=>Yb _ hy) fun h6 t6 l6 F6 k6 V6 H6=>q1 _ ?_
 clear q1 H5 H4
 have k6':Kf F4 F6:=(Kf.of fun y hy=>Yb _ hy).trans k6
 have mkh:=k6 _ _ Yc (nc_list _)
 have mka':=k6' _ _ mka (nc_list _)
 have j1'':=j1'.kf (k4'.trans k6')
 have j2'':=j2.kf (k4'.trans k6')
 have n1'':=(k4'.trans k6') _ _ n1' (nc_list _)
 have n2'':=(k4'.trans k6') _ _ n2 (nc_list _)
 have kk:=k1.trans (k2.trans (k4'.trans k6'))
 clear k1 k2 k4 k4' k6 k6' mka V4 V2 H2 j1 j1' j2 n1 n1' n2
 refine s_cons ?_
 intro _ q1 _
 refine Yq (wpAny_BinOp (s_ldv H6 V6 (v:=.ref ra) (s_ldv H6 V6 (v:=.ref rh) ?_)))
 refine s_addList H6 (H6.mem n1'') (H6.mem n2'') (by rw [j1''.1,j2''.1]; lia) fun h7 H7=>?_
 generalize h6.objs.size=bo at H7 ⊢
 refine s_stv (PP:=[]) H7 (V6.mono fun y hy=>Yb _ hy) fun h8 t8 l8 F8 k8 V8 H8=>q1 _ ?_
 clear q1 H7
 have k8':Kf F6 F8:=(Kf.of fun y hy=>Yb _ hy).trans k8
 have mbo:=k8 _ _ Yc (nc_list _)
 have j3:ItemsF F8 (va++vh) (rowsS RA N++rowsS RH N).length (RowI (rowsS RA N++rowsS RH N)):=((zA.symm ▸ j1''.kf k8':ItemsF F8 va (rowsS RA N).length (RowI (rowsS RA N)))).app (zH.symm ▸ j2''.kf k8')
 have z3:(va++vh).length≤1000:=by rw [Zw,j1''.1,j2''.1]; lia
 refine s_cons ?_
 intro _ q1 _
 refine Yq (s_metC rm2 hF bs nr LE H8 V8 (x := "both") (by rfl) mbo j3 z3 fun me h9 t9 H9=>?_)
 refine s_stv (PP:=[]) H9 (V8.mono fun y hy=>Yb _ hy) fun h10 t10 l10 F10 k10 V10 H10=>q1 _ ?_
 clear q1 H9 H8 H6 V8 V6
 have k10':Kf F8 F10:=(Kf.of fun y hy=>Yb _ hy).trans k10
 have mme:=k10 _ _ Yc (nc_list _)
 have mbo':=k10' _ _ mbo (nc_list _)
 have j4:=j3.kf k10'
 refine s_cons ?_
 intro _ q1 _
 refine s_ifOr2 (Yg (s_unh rm2 hF bs LE H10 V10 (x := "both") (by rfl) mbo' j4 z3 fun b1 h11 t11 H11=>?_))
 refine s_ldv H11 (V10.mono fun y hy=>Yb _ hy) (v:=.ref me) ?_
 refine s_neSelf (H11.at (i:=0) rfl) (H11.mem (Yb _ mme)) (rm.le (by exact Za (by decide) _):Rm A (n + 1)).u (Yi ⟨rfl,?_⟩)
 have H12:=H11.lose (H11.fresh (i:=0) rfl) fun _ _ _ e=>e
 refine Yg (s_fall rm2 hF bs LE H12 V10 (x := "both") (by rfl) mbo' j4 (by rw [Zw,j1''.1]; exact Nat.le_add_right_of_le ‹_›) z3 fun b2 h13 t13 H13=>?_)
 refine s_ldv H13 (V10.mono fun y hy=>Yb _ hy) (v:=.ref me) ?_
 refine s_neSelf (H13.at (i:=0) rfl) (H13.mem (Yb _ mme)) (rm.le (by exact Za (by decide) _):Rm A (n + 1)).u (Yi ⟨rfl,q1 _ ?_⟩)
 have kz:=k8'.trans k10'
 exact k ra rh ka kh va vh _ _ F10 h13 _ l10 (j1''.kf kz) (j2''.kf kz) (kk.trans kz) (kz _ _ n1'' (nc_list _)) (kz _ _ n2'' (nc_list _)) (kz _ _ mka' (nc_list _)) (kz _ _ mkh (nc_list _)) V10 (H13.lose (H13.fresh (i:=0) rfl) fun _ _ _ e=>e)
noncomputable def MaxIs (K:List Int) (M:Int):Prop:=(∃ i,i < K.length∧K.getD i 0=M)∧∀ i,i < K.length→K.getD i 0≤M
theorem Ints.get (h:Ints vs ks) (hi:i < vs.length):∃ t,vs[i]? = some (Value.int (ks.getD i 0) t):=by
 refine h.at ?_
 have:=h.len
 rw [Yo,Yj (by exact Nat.lt_of_lt_of_eq ‹_› ‹_›)]; rfl
theorem s_lenMax {p3 p4 p5 p6 p7 p8 p9:Pos} {k0:Nat} {vb:List Value} {Q:Bool→Shared→Prop}
  (hh:A.handled=none) (bs:Bs H0 mg mb) (nr:NamesR mg mb) (LE:LawE2 H0 mg mb) (H:St H0 B (adr fr) [] L l F h) (V:VS (eH name cd pm kwd L f) l F ρ) (hx:ρ.lookup x=some (.ref a)) (m:(a,ListP vs)∈F) (hz:vs.length≤1000) (hy:ρ.lookup y=some (.ref b)) (m2:(b,ListP vb)∈F) (ib:Ints vb LB) (hne:0 < LB.length)
  (hM:∀ M,MaxIs LB M→(vs.length:Int)=M + 1)
  (k:∀ h' t',St H0 B (adr fr) [] L l F h'→Q false (sh g t' h'))
  (hl:autoParam ((eH name cd pm kwd L f).kindOf x=some .local∨((eH name cd pm kwd L f).kindOf x=some .cell∧∃ c,(eH name cd pm kwd L f).cells.lookup x=some c)) tF) (hl2:autoParam ((eH name cd pm kwd L f).kindOf y=some .local) tR)
  (hd:autoParam ((x == ("__debug__" : Str))=false) tD) (hd2:autoParam ((y == ("__debug__" : Str))=false) tD) (hst:autoParam (starEach [.Name x p2] (eH name cd pm kwd L f)=[(false,eval (.Name x p2) (eH name cd pm kwd L f))]) tR) (hst2:autoParam (starEach [.Name y p5] (eH name cd pm kwd L f)=[(false,eval (.Name y p5) (eH name cd pm kwd L f))]) tR) :
  wpAny (model P w) A (isTrue (.Compare (.Call (.Name "len" p1) [.Name x p2] [] p3) [.NotEq] [.BinOp (.Call (.Name "max" p4) [.Name y p5] [] p6) .Add (.Constant (.int 1) k0 p7) p8] p9) (eH name cd pm kwd L f) (eval (.Compare (.Call (.Name "len" p1) [.Name x p2] [] p3) [.NotEq] [.BinOp (.Call (.Name "max" p4) [.Name y p5] [] p6) .Add (.Constant (.int 1) k0 p7) p8] p9) (eH name cd pm kwd L f))) Q E (sh g t h):=by
 refine Yg (s_lenv bs H.low nr.n0 nr.n1 (H.mem m) hz (fun Q q=>s_ldv H V q hx hl rfl hd) (fun t0 t1=>?_) rfl rfl rfl rfl hst)
 refine wpAny_BinOp (Zb (s_bname bs H.low LE.m0 LE.m1 ?_))
 rw [hst2]
 refine PySem.callWith_builtin1 (s_ldv H V ?_ hy (.inl hl2) rfl hd2)
 refine s_max H (H.mem m2) (fun i hi=>ib.get hi) (by rw [ib.len]; exact hne) hh fun M t2 t3 h2 H2 e1 e2=>?_
 rw [ib.len] at e1 e2
 refine s_ci fun t4 t5=>PySem.P.add_int (PySem.P.ne_int (Yi ?_))
 rw [bne_eq_false_iff_eq.mpr (hM M ⟨e1,e2⟩)]
 exact k _ _ H2
theorem s_notRef {p3 p4:Pos} {Q:Bool→Shared→Prop}
  (rm:Rm A (n + 12)) (hF:Frs A (eH name cd pm kwd L f::fr)) (bs:Bs H0 mg mb) (LE:LawE2 H0 mg mb) (H:St H0 B (adr fr) [] L l F h) (V:VS (eH name cd pm kwd L f) l F ρ) (hx:ρ.lookup x=some (.ref a)) (m:(a,ListP vs)∈F) (it:ItemsF F vs S.length (RowI S)) (hne:0 < vs.length)
  (k:∀ h' t',St H0 B (adr fr) [] L l F h'→Q false (sh g t' h'))
  (hl:autoParam ((eH name cd pm kwd L f).kindOf x=some .local) tR) (hd:autoParam ((x == ("__debug__" : Str))=false) tD) (hst:autoParam (starEach [.Name x p2] (eH name cd pm kwd L f)=[(false,eval (.Name x p2) (eH name cd pm kwd L f))]) tR) :
  wpAny (model P w) A (isTrue (.UnaryOp .Not (.Call (.Name "_law_refused" p1) [.Name x p2] [] p3) p4) (eH name cd pm kwd L f) (eval (.UnaryOp .Not (.Call (.Name "_law_refused" p1) [.Name x p2] [] p3) p4) (eH name cd pm kwd L f))) Q E (sh g t h):=by
 obtain ⟨fu,nu,cu,pu,ku,hu,hfu⟩:=LE.refu
 obtain ⟨fd,nd,cd',pd,kd,mk,hd',hfd,hk1,hk2⟩:=LE.ded
 have rob:=it.rob H
 obtain ⟨r,er,or⟩:=rob.2 0 hne
 obtain ⟨rs,pr,_⟩:=rowI_row or.1
 refine isTrue_not (Zv (Zb (s_gname bs H.low hu (s_fcall hfu ?_))))
 rw [hst]
 refine Zx (Yz (s_ldv H V (Zn ⟨H.low,?_⟩) hx (.inl hl) rfl hd))
 exact refused_call (n:=n) (rm.le (by exact Za (by decide) _)) hF H.al bs H.low hfu hfd hd' hk1 hk2 LE.nd LE.te0 LE.te1 (H.obM m) er ⟨pr,or.2⟩ fun h' t' K=>Yi (k h' _ (H.call K))
theorem holds_counts {g} {t} {ra rh ka kh rb re:Addr} {va vh vka vkh vb ve:List Value} {SA SH:List (List Str)} {LE':List Int} {Q:Flow→Shared→Prop}
  (rm:Rm A (n + 12)) (hF:Frs A (eH name cd pm kwd L f::fr)) (bs:Bs H0 mg mb) (nr:NamesR mg mb) (LE:LawE2 H0 mg mb) (H:St H0 B (adr fr) [] L l F h) (V:VS (eH name cd pm kwd L f) l F ρ)
  (r1:ρ.lookup ("rows_after" : Str)=some (.ref ra)) (r2:ρ.lookup ("rows_ahead" : Str)=some (.ref rh)) (r3:ρ.lookup ("kinds_after" : Str)=some (.ref ka)) (r4:ρ.lookup ("kinds_ahead" : Str)=some (.ref kh)) (r5:ρ.lookup ("begins" : Str)=some (.ref rb)) (r6:ρ.lookup ("ends" : Str)=some (.ref re))
  (m1:(ra,ListP va)∈F) (m2:(rh,ListP vh)∈F) (m3:(ka,ListP vka)∈F) (m4:(kh,ListP vkh)∈F) (m5:(rb,ListP vb)∈F) (m6:(re,ListP ve)∈F) (j1:ItemsF F va SA.length (RowI SA)) (j2:ItemsF F vh SH.length (RowI SH)) (n1:0 < va.length) (n2:0 < vh.length) (z1:vka.length≤1000) (z2:vkh.length≤1000)
  (i1:Ints vb LB) (i2:Ints ve LE') (e1:0 < LB.length) (e2:0 < LE'.length) (hA:∀ M,MaxIs LE' M→(vka.length:Int)=M + 1) (hH:∀ M,MaxIs LB M→(vkh.length:Int)=M + 1)
  (k:∀ h' t',St H0 B (adr fr) [] L l F h'→wpAny (model P w) A (execs ((fnp 50).2.1.drop 14) (eH name cd pm kwd L f)) Q E (sh g t' h')) :
  wpAny (model P w) A (execs ((fnp 50).2.1.drop 12) (eH name cd pm kwd L f)) Q E (sh g t h):=by
 refine s_cons ?_
 intro _ q1 _
 refine s_ifOr2 (s_lenMax rm.1 bs nr LE H V (x := "kinds_after") (y := "ends") r3 m3 z1 r6 m6 i2 e2 hA fun h1 t1 H1=>⟨rfl,?_⟩)
 refine s_lenMax rm.1 bs nr LE H1 V (x := "kinds_ahead") (y := "begins") r4 m4 z2 r5 m5 i1 e1 hH fun h2 t₂ H2=>⟨rfl,q1 _ ?_⟩
 clear q1
 refine s_cons ?_
 intro _ q1 _
 refine s_ifOr2 (s_notRef rm hF bs LE H2 V (x := "rows_after") r1 m1 j1 n1 fun h3 t₃ H3=>⟨rfl,?_⟩)
 exact s_notRef rm hF bs LE H3 V (x := "rows_ahead") r2 m2 j2 n2 fun h4 t₄ H4=>⟨rfl,q1 _ (k h4 t₄ H4)⟩
theorem ItemsF.rows' (it:ItemsF F xs S.length (RowI S)) (H:St H0 B fa X L l F h):RowsAt h xs S:=(it.rob H).at fun _ _ o=>o.1
theorem ints_snoc {T:Nat→Nat} (h:Ints vs ((List.range i).map fun i=>((T i:Nat):Int))) (t:Tok):Ints (vs++[Value.int ((T i:Nat):Int) t]) ((List.range (i + 1)).map fun i=>((T i:Nat):Int)):=by
 unfold Ints at *
 rw [List.range_succ,Yt,Yt,Yt,h]; rfl
noncomputable abbrev scIn:Scope:={ kind:=.function,names:=[(".0",.local),("kind",.local),("len",.globalImplicit),("row",.free)],isGenerator:=false,isCoroutine:=false }
noncomputable abbrev scOut (kn:Str):Scope:={ kind:=.function,names:=[(".0",.local),("row",.cell),("len",.globalImplicit),(kn,.free)],isGenerator:=false,isCoroutine:=false }
theorem s_told
  {kn:Str} {p3 p4 p5 p6 p7 p8 p9 p10 p11 p12 p13 p14:Pos} {op:CmpOp} (cb:Nat→Nat→Bool) {iter:Expr} {kc sa ka:Addr} {va vka:List Value} {SA:List (List Str)} {ia:Nat→List Nat} {Q:Flow→Shared→Prop}
  (hh:A.handled=none) (bs:Bs H0 mg mb) (nr:NamesR mg mb) (H:St H0 B (adr fr) [] L l ((it,IterP sa 0)::F) h) (hit:B.get? it=none) (mc:(kc,CellP (some (.ref ka)))∈F) (mk:(ka,ListP vka)∈F) (hz:vka.length≤1000) (hsub:∀ v∈vka,v∈va) (j:ItemsF F va SA.length (RowI SA)) (hS:∀ r∈SA,r.length≤1000)
  (ms:(sa,ListP xs)∈F) (i1:ItemsF F xs N (fun i=>ListP ((ia i).map (nvOf nvs)))) (hN:N≤8) (za:∀ i,i < N→(ia i).length≤8)
  (hcmp:∀ (a b:Nat) (t0 u0:Tok) (Q:Value→Shared→Prop) (E:Value→Shared→Prop) (s:Shared),Q (.bool (cb a b)) s→wpAny (model P w) A (compareOp op (.int (a:Int) t0) (.int (b:Int) u0)) Q E s)
  (k:∀ D vs h' t',Ints vs ((List.range N).map fun i=>((((vka.map (rowOf va SA)).filter fun r=>cb r.length (ia i).length).length:Nat):Int))→St H0 B (adr fr) [] L ((y,.ref D)::l) ((D,ListP vs)::F) h'→Q .next (sh g t' h'))
  (hy:(eH name cd pm kwd L f).kindOf y=some .local)
  (hkl:∀ C cx,(compEnvC (scOut kn) [(("row" : Str),cx),(kn,kc)] C (eH name cd pm kwd L f)).kindOf kn=some .cell) (hkc:∀ C cx,(compEnvC (scOut kn) [(("row" : Str),cx),(kn,kc)] C (eH name cd pm kwd L f)).cells.lookup kn=some kc) (hkd:(kn == ("__debug__" : Str))=false)
  (hfs:∀ C cx v,foldedSetIterable (.Name kn p3) (compEnvC (scOut kn) [(("row" : Str),cx),(kn,kc)] C (eH name cd pm kwd L f)) v=pure v)
  (hcf:∀ n acc,cellsFrom n (scOut kn).names acc=(("row" : Str),n)::acc) (hpc:∀ h:Heap,pushCells h (scOut kn).names=h.push { cls:=.type "cell",data:=.cell none }) (hrl:(relabel (scOut kn) (eH name cd pm kwd L f)).names.lookup ("row" : Str)=some .cell)
  (hclos:∀ C cx,closureFor scIn (compEnvC (scOut kn) [(("row" : Str),cx),(kn,kc)] C (eH name cd pm kwd L f))=pure [(("row" : Str),cx)])
  (hlen1:∀ C cx,(compEnvC (scOut kn) [(("row" : Str),cx),(kn,kc)] C (eH name cd pm kwd L f)).kindOf "len" = some .globalImplicit)
  (hlen2:∀ C2 C cx,(compEnvC scIn [(("row" : Str),cx)] C2 (compEnvC (scOut kn) [(("row" : Str),cx),(kn,kc)] C (eH name cd pm kwd L f))).kindOf "len" = some .globalImplicit) (hkk:∀ C2 C cx,(compEnvC scIn [(("row" : Str),cx)] C2 (compEnvC (scOut kn) [(("row" : Str),cx),(kn,kc)] C (eH name cd pm kwd L f))).kindOf "kind" = some .local) (hrr:∀ C2 C cx,(compEnvC scIn [(("row" : Str),cx)] C2 (compEnvC (scOut kn) [(("row" : Str),cx),(kn,kc)] C (eH name cd pm kwd L f))).kindOf "row" = some .cell) :
  CompU w A E Q (eH name cd pm kwd L f) y py (.Call (.Name "len" p1) [.ListComp (.Name "kind" p2) [⟨.Name "kind" p7,.Name kn p3,[.Compare (.Call (.Name "len" p4) [.Name "kind" p5] [] p6) [op] [.Call (.Name "len" p8) [.Name "row" p9] [] p10] p11],0⟩] scIn p12] [] p13) iter "row" px [] (scOut kn) p14 [(kn,kc)] (.ref it) (sh g t h):=by
 have lx:=i1.1
 refine s_compInUC H (Itr.list hh it sa xs) hit (fun i vs F'=>Ints vs ((List.range i).map fun i=>((((vka.map (rowOf va SA)).filter fun r=>cb r.length (ia i).length).length:Nat):Int))∧F'=F∧i≤N) ⟨rfl,rfl,Zs _⟩
  (fun C D cx i vs F' m vx h j S=>S.mem (Yb _ (Yb _ (Yb _ (Yb _ (j.2.1 ▸ ms)))))) (fun i vs F' j=>by have:=j.1.len; rw [Yp,List.length_range] at this; have:=j.2.2; lia) (fun C D cx i v vs F' h2 t2 m hi hv j' H2=>?_) (fun D vs F' h2 t2 j' H2=>?_) hcf hpc rfl hrl hy rfl
 ·rw [List.forIn_nil]
  refine Yn ?_
  rw [if_pos rfl]
  obtain ⟨j1,rfl,j3⟩:=j'
  rw [lx] at hi
  have sub:∀ y∈F',y∈(C,NsP m)::(D,ListP vs)::(it,IterP sa (i + 1))::(cx,CellP (some v))::F':=fun y hy=>Yb _ (Yb _ (Yb _ (Yb _ hy)))
  obtain ⟨a,e,o⟩:=(i1.sub sub).get H2 hi
  rw [hv] at e; cases e
  have li:((ia i).map (nvOf nvs)).length≤1000:=by rw [Yp]; have:=za i hi; exact Ye this (by decide)
  refine Zb (s_bname bs H2.low nr.n0 nr.n1 ?_ rfl (hlen1 C cx) rfl rfl)
  refine callWith_builtin rfl (Zx (Yz ?_))
  refine s_comp [(("row" : Str),cx)] (s_ldc (c:=kc) (v:=.ref ka) (H2.mem (sub _ mc)) ?_ (hkc C cx) rfl (hkl C cx) hkd) (hclos C cx) rfl (by rfl) (hfs C cx)
  refine wpAny_pyIter_list (H2.mem (sub _ mk)).list ?_
  have H3:=H2.push { cls:=.type "list_iterator",data:=.fields #[.ref ka,.int 0 0] } (p:=IterP ka 0) ⟨rfl,rfl⟩
  have nI:=H2.notOld (Yy (Zf _))
  generalize h2.objs.size=it2 at H3 nI ⊢
  obtain ⟨G,hG⟩:∃ G,G=(C,NsP m)::(D,ListP vs)::(it,IterP sa (i + 1))::(cx,CellP (some (Value.ref a)))::F':=⟨_,rfl⟩
  have mx:(cx,CellP (some (Value.ref a)))∈G:=hG ▸ Yr (i:=3) rfl
  rw [← hG] at H3 sub
  refine s_compIn H3 (Itr.list hh it2 ka vka) nI (fun q us F''=>us.length=(((vka.take q).map (rowOf va SA)).filter fun r=>cb r.length (ia i).length).length∧F''=G∧q≤vka.length) ⟨rfl,rfl,Zs _⟩
   (fun C2 D2 q us F'' m2 h j S=>S.mem (Yb _ (Yb _ (Yb _ (j.2.1 ▸ sub _ mk))))) (fun q us F'' j=>?_) (fun C2 D2 q v2 us F'' h4 t4 m2 hq hv2 jq hm2 H4=>?_) (fun D2 us F'' h4 t4 jq H4=>?_) (by rfl) rfl (by rfl)
  ·rw [j.1]
   refine Ye (List.length_filter_le _ _) ?_
   rw [Yp]
   exact Ye (List.length_take_le _ _) (Ye j.2.2 hz)
  ·obtain ⟨jq1,rfl,_⟩:=jq
   have sub2:∀ y∈F'',y∈(C2,NsP m2)::(D2,ListP us)::(it2,IterP ka (q + 1))::F'':=fun y hy=>Yb _ (Yb _ (Yb _ hy))
   have va2:v2∈va:=hsub _ (Yr hv2)
   obtain ⟨b,bvs,rfl,pb,sb⟩:=((j.sub fun y hy=>sub2 y (sub y hy)).rows' H4).of va2
   have lb:=sb.len
   have lr:(rowOf va SA (Value.ref b)).length≤1000:=by
    unfold rowOf
    rw [Yo]
    cases hz:SA[va.idxOf (Value.ref b)]? with
    | none=>exact Zs _
    | some r=>exact hS r (Yr hz)
   obtain ⟨a',e',o'⟩:=(i1.sub fun y hy=>sub2 y (sub y hy)).get H4 hi
   rw [hv] at e'; cases e'
   have et:vka.take (q + 1)=vka.take q++[Value.ref b]:=by
    rw [List.take_add_one,hv2]; rfl
   refine s_if1 (Yg (s_lenv bs H4.low nr.n0 nr.n1 pb (lb ▸ lr) (fun Q qq=>s_ldm (H4.at (i:=0) rfl) hm2 qq rfl (hkk C2 C cx)) (fun t0 t5=>?_) rfl (hlen2 C2 C cx) rfl rfl))
   refine s_lenv bs H4.low nr.n0 nr.n1 o'.1 li (fun Q qq=>s_ldc (c:=cx) (v:=.ref a) (H4.mem (sub2 _ mx)) qq (by rfl) rfl (hrr C2 C cx)) (fun t1 t6=>?_) rfl (hlen2 C2 C cx) rfl rfl
   rw [lb,Yp]
   refine hcmp _ _ _ _ _ _ _ (Yi ?_)
   cases hb:cb (rowOf va SA (Value.ref b)).length (ia i).length with
   | false =>
    rw [if_neg Yk]
    exact ⟨_,_,_,rfl,H4,by rw [et,Yt,List.filter_append,List.map_singleton,List.filter_cons_of_neg (by rw [hb]; exact Yk),List.filter_nil,List.append_nil]; exact jq1,rfl,hq⟩
   | true =>
    rw [if_pos rfl]
    refine s_ldm (H4.at (i:=0) rfl) hm2 ⟨_,_,_,rfl,H4,?_,rfl,hq⟩ rfl (hkk C2 C cx)
    rw [et,Yt,List.filter_append,List.map_singleton,List.filter_cons_of_pos (by exact hb),List.filter_nil,Zw,Zw,jq1]; rfl
  ·obtain ⟨jq1,rfl,_⟩:=jq
   rw [List.take_length] at jq1
   have H5:=H4.lose (H4.fresh (i:=0) rfl) fun _ _ _ e=>e
   have us1:us.length≤1000:=by rw [jq1]; refine Ye (List.length_filter_le _ _) ?_; rw [Yp]; exact hz
   refine Zn (call_len_list (H4.at (i:=0) rfl:Is _ _ _).list (by simp; lia) ?_)
   simp only [List.size_toArray]
   rw [jq1]
   exact ⟨_,_,_,rfl,hG ▸ H5,ints_snoc (T:=fun i=>((vka.map (rowOf va SA)).filter fun r=>cb r.length (ia i).length).length) j1 _,rfl,hi⟩
 ·obtain ⟨j1,rfl,j3⟩:=j'
  rw [lx] at j1
  exact k D vs h2 t2 j1 H2
theorem s_neInts (ha:Is h a (ListP xs)) (hb:Is h b (ListP ys)) (hx:Ints xs ks) (hy:Ints ys ks) (hu:A.units < cLine) (k:Q (.bool false) (sh g t h)) :
  wpAny (model P w) A (compareOp .NotEq (.ref a) (.ref b)) Q E (sh g t h):=by
 refine s_neList ha hb (hx.len.trans hy.len.symm) hu (fun j h1 h2=>?_) k
 obtain ⟨t1,e1⟩:=hx.get h1
 obtain ⟨t2,e2⟩:=hy.get h2
 rw [Yj h1] at e1
 rw [Yj h2] at e2
 rw [Zj e1,Zj e2]
 have:=SeqAt.EqAt.int_int (A:=A.in1) (s:=(sh g t h)) (ks.getD j 0) t1 (ks.getD j 0) t2
 rwa [beq_self_eq_true] at this
theorem holds_told {g} {t} {af ah ka kh rb re:Addr} {va vh vka vkh vb ve:List Value} {SA SH:List (List Str)} {ia ih:Nat→List Nat} {LE':List Int} {Q:Flow→Shared→Prop}
  (rm:Rm A (n + 12)) (bs:Bs H0 mg mb) (nr:NamesR mg mb) (H:St H0 B (adr fr) [] L l F h) (V:VS (eH name cd pm kwd L f) l F ρ)
  (r1:ρ.lookup ("after" : Str)=some (.ref af)) (r2:ρ.lookup ("ahead" : Str)=some (.ref ah)) (r3:ρ.lookup ("kinds_after" : Str)=some (.ref ka)) (r4:ρ.lookup ("kinds_ahead" : Str)=some (.ref kh)) (r5:ρ.lookup ("begins" : Str)=some (.ref rb)) (r6:ρ.lookup ("ends" : Str)=some (.ref re))
  (m1:(af,ListP xs)∈F) (m2:(ah,ListP ys)∈F) (m3:(ka,ListP vka)∈F) (m4:(kh,ListP vkh)∈F) (m5:(rb,ListP vb)∈F) (m6:(re,ListP ve)∈F) (i1:ItemsF F xs N (fun i=>ListP ((ia i).map (nvOf nvs)))) (i2:ItemsF F ys N (fun i=>ListP ((ih i).map (nvOf nvs))))
  (j1:ItemsF F va SA.length (RowI SA)) (j2:ItemsF F vh SH.length (RowI SH)) (u1:∀ v∈vka,v∈va) (u2:∀ v∈vkh,v∈vh) (z1:vka.length≤1000) (z2:vkh.length≤1000) (s1:∀ r∈SA,r.length≤1000) (s2:∀ r∈SH,r.length≤1000)
  (hN:N≤8) (za:∀ i,i < N→(ia i).length≤8) (zh:∀ i,i < N→(ih i).length≤8) (n5:Ints vb LB) (n6:Ints ve LE')
  (hE:((List.range N).map fun i=>((((vka.map (rowOf va SA)).filter fun r=>decide (r.length > (ia i).length)).length:Nat):Int))=LE') (hB:((List.range N).map fun i=>((((vkh.map (rowOf vh SH)).filter fun r=>decide (r.length < (ih i).length)).length:Nat):Int))=LB)
  (k:∀ te tb vte vtb F' h' t' l',(∀ y∈F,y∈F')→(te,ListP vte)∈F'→(tb,ListP vtb)∈F'→Ints vte LE'→Ints vtb LB→VS (eH name cd pm kwd L f) l' F' (("told_begins",.ref tb)::("told_ends",.ref te)::ρ)→St H0 B (adr fr) [] L l' F' h'→wpAny (model P w) A (execs ((fnp 50).2.1.drop 17) (eH name cd pm kwd L f)) Q E (sh g t' h')) :
  wpAny (model P w) A (execs ((fnp 50).2.1.drop 14) (eH name cd pm kwd L f)) Q E (sh g t h):=by
 refine s_cons ?_
 intro _ q1 _
 refine s_compAsg [("kinds_after",L + 6)] (s_ldv H V ?_ r1)
 refine wpAny_pyIter_list (H.mem m1).list ?_
 have H1:=H.push { cls:=.type "list_iterator",data:=.fields #[.ref af,.int 0 0] } (p:=IterP af 0) ⟨rfl,rfl⟩
 have nI:=H.notOld (Yy (Zf _))
 generalize h.objs.size=it at H1 nI ⊢
 refine s_told (N:=N) (fun a b=>decide (a > b)) rm.1 bs nr H1 nI (V.cel "kinds_after" _ _ r3 (by rfl) (by rfl)) m3 z1 u1 j1 s1 m1 i1 hN za (fun a b t0 u0 Q E s q=>PySem.P.gt_int ?_) (fun te vte h₂ t₂ n1 H2=>q1 _ ?_) (by rfl) (fun _ _=>rfl) (fun _ _=>rfl) (by decide) (fun _ _ _=>rfl) (fun _ _=>rfl) (fun _=>rfl) (by rfl) (fun _ _=>rfl) (fun _ _=>rfl) (fun _ _ _=>rfl) (fun _ _ _=>rfl) (fun _ _ _=>rfl)
 ·rw [show decide ((a:Int) > b)=decide (a > b) by simp]; exact q
 clear q1 H1 nI
 rw [hE] at n1
 have sub:∀ y∈F,y∈(te,ListP vte)::F:=fun y hy=>Yb _ hy
 have V2:=(V.bindL (x := "told_ends") (v:=.ref te) (by rfl)).mono sub
 refine s_cons ?_
 intro _ q1 _
 refine s_compAsg [("kinds_ahead",L + 7)] (s_ldv H2 V2 (v:=.ref ah) ?_ r2)
 refine wpAny_pyIter_list (H2.mem (sub _ m2)).list ?_
 have H3:=H2.push { cls:=.type "list_iterator",data:=.fields #[.ref ah,.int 0 0] } (p:=IterP ah 0) ⟨rfl,rfl⟩
 have nI:=H2.notOld (Yy (Zf _))
 generalize h₂.objs.size=it2 at H3 nI ⊢
 refine s_told (N:=N) (fun a b=>decide (a < b)) rm.1 bs nr H3 nI (V2.cel "kinds_ahead" _ _ r4 (by rfl) (by rfl)) (sub _ m4) z2 u2 (j2.sub sub) s2 (sub _ m2) (i2.sub sub) hN zh (fun a b t0 u0 Q E s q=>PySem.P.lt_int ?_) (fun tb vtb h4 t4 n2 H4=>q1 _ ?_) (by rfl) (fun _ _=>rfl) (fun _ _=>rfl) (by decide) (fun _ _ _=>rfl) (fun _ _=>rfl) (fun _=>rfl) (by rfl) (fun _ _=>rfl) (fun _ _=>rfl) (fun _ _ _=>rfl) (fun _ _ _=>rfl) (fun _ _ _=>rfl)
 ·rw [show decide ((a:Int) < b)=decide (a < b) by simp]; exact q
 clear q1 H3 nI
 rw [hB] at n2
 have sub2:∀ y∈(te,ListP vte)::F,y∈(tb,ListP vtb)::(te,ListP vte)::F:=fun y hy=>Yb _ hy
 have V4:=(V2.bindL (x := "told_begins") (v:=.ref tb) (by rfl)).mono sub2
 refine s_cons ?_
 intro _ q1 _
 refine s_ifOr2 (Yg (s_ldv H4 V4 (v:=.ref te) (s_ldv H4 V4 (v:=.ref re) ?_ r6)))
 refine s_neInts (H4.at (i:=1) rfl) (H4.mem (sub2 _ (sub _ m6))) n1 n6 (rm.le (by exact Za (by decide) _):Rm A (n + 1)).u (Yi ⟨rfl,?_⟩)
 refine Yg (s_ldv H4 V4 (v:=.ref tb) (s_ldv H4 V4 (v:=.ref rb) ?_ r5))
 refine s_neInts (H4.at (i:=0) rfl) (H4.mem (sub2 _ (sub _ m5))) n2 n5 (rm.le (by exact Za (by decide) _):Rm A (n + 1)).u (Yi ⟨rfl,q1 _ ?_⟩)
 exact k te tb vte vtb _ h4 _ _ (fun y hy=>sub2 _ (sub _ hy)) (Yr (i:=1) rfl) Yc n1 n2 V4 H4
theorem rowsOf {ix:Nat→List Nat} (it:ItemsF F xs N (fun i=>ListP ((ix i).map (nvOf nvs)))) (H:St H0 B fa X L l F h) (nm:Nm (nvOf nvs) (fun i=>NM.getD i "") N) (hlt:∀ i,i < N→∀ j∈ix i,j < N) (hlen:∀ i,i < N→(ix i).length≤8) :
  ∃ ad,RowsOf (L::fa) h xs ad (fun i=>(ix i).map (nvOf nvs)) (fun i=>(ix i).map fun j=>NM.getD j ""):=by
 have key:∀ i,∃ a:Addr,i < xs.length→xs[i]? = some (Value.ref a)∧Ob (L::fa) h a (ListP ((ix i).map (nvOf nvs))):=fun i=>by
  by_cases q:i < xs.length
  ·obtain ⟨a,e,o⟩:=it.get H (it.1 ▸ q)
   exact ⟨a,fun _=>⟨e,o⟩⟩
  ·exact ⟨0,fun z=>absurd z q⟩
 exact ⟨fun i=>(key i).choose,fun i hi=>((key i).choose_spec hi).1,fun i hi=>((key i).choose_spec hi).2,fun i hi=>strs_map nm (hlt i (it.1 ▸ hi)),fun i hi=>by rw [Yp]; have:=hlen i (it.1 ▸ hi); exact Ye this (by decide)⟩
theorem s_notAlike {p3 p4 p5:Pos} {vb:List Value} {ix:Nat→List Nat} {Q:Bool→Shared→Prop}
  (rm:Rm A (n + 12)) (hF:Frs A (eH name cd pm kwd L f::fr)) (bs:Bs H0 mg mb) (nr:NamesR mg mb) (LE:LawE2 H0 mg mb) (H:St H0 B (adr fr) [] L l F h) (V:VS (eH name cd pm kwd L f) l F ρ) (hx:ρ.lookup x=some (.ref a)) (hy:ρ.lookup y=some (.ref b)) (m:(a,ListP xs)∈F) (m2:(b,ListP vb)∈F)
  (it:ItemsF F xs N (fun i=>ListP ((ix i).map (nvOf nvs)))) (hN:N≤8) (nm:Nm (nvOf nvs) (fun i=>NM.getD i "") N) (hlt:∀ i,i < N→∀ j∈ix i,j < N) (hlen:∀ i,i < N→(ix i).length≤8) (ib:Ints vb LB) (lb:LB.length=N)
  (hall:∀ j i,j < N→i < j→cmpS (ddl ((ix i).map fun j=>NM.getD j "")) (ddl ((ix j).map fun j=>NM.getD j ""))=(LB.getD i 0 == LB.getD j 0))
  (k:∀ h' t',St H0 B (adr fr) [] L l F h'→Q false (sh g t' h'))
  (hl:autoParam ((eH name cd pm kwd L f).kindOf x=some .local∨((eH name cd pm kwd L f).kindOf x=some .cell∧∃ c,(eH name cd pm kwd L f).cells.lookup x=some c)) tF) (hl2:autoParam ((eH name cd pm kwd L f).kindOf y=some .local) tR)
  (hd:autoParam ((x == ("__debug__" : Str))=false) tD) (hd2:autoParam ((y == ("__debug__" : Str))=false) tD) (hst:autoParam (starEach [.Name x p2,.Name y p3] (eH name cd pm kwd L f)=[(false,eval (.Name x p2) (eH name cd pm kwd L f)),(false,eval (.Name y p3) (eH name cd pm kwd L f))]) tR) :
  wpAny (model P w) A (isTrue (.UnaryOp .Not (.Call (.Name "_law_told_alike" p1) [.Name x p2,.Name y p3] [] p4) p5) (eH name cd pm kwd L f) (eval (.UnaryOp .Not (.Call (.Name "_law_told_alike" p1) [.Name x p2,.Name y p3] [] p4) p5) (eH name cd pm kwd L f))) Q E (sh g t h):=by
 obtain ⟨fu,nu,cu,pu,ku,hfu,Nn⟩:=LE.unh
 obtain ⟨fq,nq,cq,pq,kq,hq,hfq⟩:=LE.alike
 obtain ⟨fc,nc,cc,pc,kc,hc,hfc⟩:=LE.cmp
 obtain ⟨ad,ro⟩:=rowsOf it H nm hlt hlen
 refine isTrue_not (Zv (Zb (s_gname bs H.low hq (s_fcall hfq ?_))))
 rw [hst]
 refine Zx (Yz (s_ldv H V (Yz (s_ldv H V (Zn ⟨H.low,?_⟩) hy (.inl hl2) rfl hd2)) hx hl rfl hd))
 refine alike_call (K:=fun i=>LB.getD i 0) (n:=n) (rm.le (by exact Za (by decide) _)) hF H.al bs H.low hfq hfc hc hfu Nn nr (H.obM m) (H.obM m2) (by rw [it.1]; exact Ye hN (by decide)) ro (fun i hi=>ib.get (by rw [ib.len,lb,← it.1]; exact hi)) (fun j i hj=>hall j i (it.1 ▸ hj)) fun h' t' K=>Yi (k h' _ (H.call K))
theorem holds_line {g} {t} {af ah rb re tb te:Addr} {vb ve vtb vte:List Value} {ia ih:Nat→List Nat} {LE':List Int} {Q:Flow→Shared→Prop}
  (rm:Rm A (n + 12)) (hF:Frs A (eH name cd pm kwd L f::fr)) (bs:Bs H0 mg mb) (nr:NamesR mg mb) (LE:LawE2 H0 mg mb) (H:St H0 B (adr fr) [] L l F h) (V:VS (eH name cd pm kwd L f) l F ρ)
  (r0:ρ.lookup ("names" : Str)=some (.ref na)) (r1:ρ.lookup ("after" : Str)=some (.ref af)) (r2:ρ.lookup ("ahead" : Str)=some (.ref ah)) (r5:ρ.lookup ("begins" : Str)=some (.ref rb)) (r6:ρ.lookup ("ends" : Str)=some (.ref re)) (r7:ρ.lookup ("told_begins" : Str)=some (.ref tb)) (r8:ρ.lookup ("told_ends" : Str)=some (.ref te))
  (oN:Ob (adr fr) B na (ListP nvs)) (sN:Strs nvs NM) (hN:NM.length≤8) (nd:NM.Nodup)
  (m1:(af,ListP xs)∈F) (m2:(ah,ListP ys)∈F) (m5:(rb,ListP vb)∈F) (m6:(re,ListP ve)∈F) (m7:(tb,ListP vtb)∈F) (m8:(te,ListP vte)∈F) (i1:ItemsF F xs NM.length (fun i=>ListP ((ia i).map (nvOf nvs)))) (i2:ItemsF F ys NM.length (fun i=>ListP ((ih i).map (nvOf nvs))))
  (la:∀ i,i < NM.length→∀ j∈ia i,j < NM.length) (lh:∀ i,i < NM.length→∀ j∈ih i,j < NM.length) (za:∀ i,i < NM.length→(ia i).length≤8) (zh:∀ i,i < NM.length→(ih i).length≤8)
  (n5:Ints vb LB) (n6:Ints ve LE') (n7:Ints vtb LB) (n8:Ints vte LE') (lb:LB.length=NM.length) (le:LE'.length=NM.length)
  (hA:∀ j i,j < NM.length→i < j→cmpS (ddl ((ia i).map fun j=>NM.getD j "")) (ddl ((ia j).map fun j=>NM.getD j ""))=(LE'.getD i 0 == LE'.getD j 0))
  (hH:∀ j i,j < NM.length→i < j→cmpS (ddl ((ih i).map fun j=>NM.getD j "")) (ddl ((ih j).map fun j=>NM.getD j ""))=(LB.getD i 0 == LB.getD j 0))
  (hP:∀ i j M,i < NM.length→j < NM.length→MaxIs LE' M→cmpS (ddl ((ia i).map fun j=>NM.getD j "")) (ddl ((ih j).map fun j=>NM.getD j ""))=(LE'.getD i 0 == M && LB.getD j 0 == 0))
  (k:∀ li vs h' t' l',Strs vs (lineP NM LB LE' NM.length)→vs.length≤100→VS (eH name cd pm kwd L f) l' ((li,ListP vs)::F) (("line",.ref li)::ρ)→St H0 B (adr fr) [] L l' ((li,ListP vs)::F) h'→wpAny (model P w) A (execs ((fnp 50).2.1.drop 20) (eH name cd pm kwd L f)) Q E (sh g t' h')) :
  wpAny (model P w) A (execs ((fnp 50).2.1.drop 17) (eH name cd pm kwd L f)) Q E (sh g t h):=by
 have nm:=nmOf sN nd
 obtain ⟨fu,nu,cu,pu,ku,hfu,Nn⟩:=LE.unh
 obtain ⟨fc,nc,cc,pc,kc,hc,hfc⟩:=LE.cmp
 obtain ⟨fq,nq,cq,pq,kq,hq,hfq⟩:=LE.apart
 obtain ⟨fl,nl,cl,pl,kl,hl,hfl⟩:=LE.line
 obtain ⟨fw,nw,cw,pw,kw,hw,hfw⟩:=LE.words
 refine s_cons ?_
 intro _ q1 _
 refine s_ifOr2 (s_notAlike rm hF bs nr LE H V (x := "after") (y := "ends") r1 r6 m1 m6 i1 hN nm la za n6 le hA fun h1 t1 H1=>⟨rfl,?_⟩)
 refine s_notAlike rm hF bs nr LE H1 V (x := "ahead") (y := "begins") r2 r5 m2 m5 i2 hN nm lh zh n5 lb hH fun h2 t2 H2=>⟨rfl,q1 _ ?_⟩
 clear q1 H1 H
 obtain ⟨ad,ro⟩:=rowsOf i1 H2 nm la za
 obtain ⟨ad2,ro2⟩:=rowsOf i2 H2 nm lh zh
 refine s_cons ?_
 intro _ q1 _
 refine Zh (isTrue_not (Zv (Zb (s_gname bs H2.low hq (s_fcall hfq (Zx (Yz (s_ldv H2 V (v:=.ref af) (Yz (s_ldv H2 V (v:=.ref ah) (Yz (s_ldv H2 V (v:=.ref rb) (Yz (s_ldv H2 V (v:=.ref re) (Zn ⟨H2.low,?_⟩) r6)) r5)) r2)) r1))))))))
 refine apart_call (KB:=fun i=>LB.getD i 0) (KE:=fun i=>LE'.getD i 0) (n:=n) (rm.le (by exact Za (by decide) _)) hF H2.al bs H2.low hfq hfc hc hfu Nn nr LE.m0 LE.m1 (H2.obM m1) (H2.obM m2) (H2.obM m5) (H2.obM m6) (by rw [i1.1]; exact Ye hN (by decide)) (by rw [i2.1]; exact Ye hN (by decide)) (by rw [n6.len,le,i1.1]) ro ro2 (fun i hi=>n5.get (by rw [n5.len,lb,← i2.1]; exact hi)) (fun i hi=>n6.get hi) (fun i j M hi hj e1 e2=>hP i j M (i1.1 ▸ hi) (i2.1 ▸ hj) ⟨by rwa [n6.len] at e1,by rwa [n6.len] at e2⟩) fun h3 t3 K=>Yi ?_
 have H3:=H2.call K
 rw [Bool.not_true,if_neg Yk]
 refine Ym (q1 _ ?_)
 clear q1 H2 K ro ro2
 refine s_cons ?_
 intro _ q1 _
 refine Yq (Zb (s_gname bs H3.low hl (s_fcall hfl (Zx (Yz (s_ldv H3 V (v:=.ref na) (Yz (s_ldv H3 V (v:=.ref tb) (Yz (s_ldv H3 V (v:=.ref te) (Zn ⟨H3.low,?_⟩) r8)) r7)) r0))))))
 refine line_call (n:=n) (rm.le (by exact Za (by decide) _)) hF H3.al bs H3.low hfl nr hfw hw hN (H3.oldO oN) (H3.obM m7) (H3.obM m8) sN rfl n7 n8 lb le fun h4 t4 li vs K4 n4 i4 s4 z4=>?_
 refine s_stvL (PP:=[]) (H3.add K4 n4 i4) (V.mono fun y hy=>Yb _ hy) fun h5 t5 l5 V5 H5=>q1 _ ?_
 exact k li vs h5 t5 l5 s4 z4 V5 H5
theorem strs_vals:∀ {vs:List Value} {ss:List Str},Strs vs ss→∃ l:List (Str×Tok),strValues l=vs∧l.map (·.1)=ss
 | [],ss,h=>by
  have:=congrArg List.length h
  simp at this
  exact ⟨[],rfl,by rw [List.eq_nil_of_length_eq_zero this.symm]; rfl⟩
 | v::vs,ss,h=>by
  cases ss with
  | nil=>have:=congrArg List.length h; simp at this
  | cons s ss =>
   unfold Strs at h
   rw [Zq,Zq] at h
   injection h with h1 h2
   obtain ⟨t,rfl⟩:=sOf_some h1
   obtain ⟨l,e1,e2⟩:=strs_vals (vs:=vs) (ss:=ss) h2
   exact ⟨(s,t)::l,by rw [← e1]; rfl,by rw [← e2]; rfl⟩
noncomputable def wrAt (i j:Nat):Str:=(lawWr.getD i []).getD j ""
section
variable {frs:List Env}
theorem s_wr {np:Pos}
  (rm:Rm A (n + 1)) (hF:Frs A frs) (ea:adr frs=L::fa) (bs:Bs H0 mg mb) (wr:FnAt H0 mg 41 "_law_writings") (H:St H0 B fa X L l F h) (hi:i < 5) (hj:j < 3)
  (k1:∀ G h₁ t1 (Q:Value→Shared→Prop),(∀ y∈F,y∈G)→St H0 B fa X L l G h₁→(∀ ti h₂ t2,St H0 B fa X L l G h₂→Q (.int (i:Nat) ti) (sh g t2 h₂))→wpAny (model P w) A (eval e1 env) Q E (sh g t1 h₁))
  (k2:∀ G h₁ t1 (Q:Value→Shared→Prop),(∀ y∈F,y∈G)→St H0 B fa X L l G h₁→(∀ ti h₂ t2,St H0 B fa X L l G h₂→Q (.int (j:Nat) ti) (sh g t2 h₂))→wpAny (model P w) A (eval e2 env) Q E (sh g t1 h₁))
  (k:∀ tv h' t',St H0 B fa X L l F h'→Q (.str (wrAt i j) tv) (sh g t' h'))
  (hs1:∀ o i,subscripted e1 false o i=operate [o,i] (getItem o i))
  (hs2:∀ (v:Expr) (s:Shared) (Q:Value→Shared→Prop),wpAny (model P w) A (eval v env) (fun o s1=>wpAny (model P w) A (eval e2 env) (fun i s2=>SubscriptOn (model P w) A o i Q E s2) E s1) E s→wpAny (model P w) A (eval (.Subscript v e2 p2) env) Q E s)
  (hk:env.scope.kind=.function) (hl:env.kindOf "_law_writings" = some .globalImplicit) (hg:env.globals=mainGlobals) :
  wpAny (model P w) A (eval (.Subscript (.Subscript (.Call (.Name "_law_writings" np) [] [] cp) e1 p1) e2 p2) env) Q E (sh g t h):=by
 obtain ⟨fq,nq,cq,pq,kq,hq,hfq⟩:=wr
 obtain ⟨ws,hws⟩:∃ ws,lawWr[i]? = some ws:=⟨_,Yj (show i < lawWr.length from hi)⟩
 have hwl:ws.length=3:=by
  have:∀ ws∈lawWr,ws.length=3:=by decide
  exact this ws (Yr hws)
 refine hs2 _ _ _ (s_subG (Zb (s_gname bs H.low hq (s_fcall hfq (evalArgs_nil3 ⟨H.low,?_⟩)) hk hl hg)) hs1)
 refine writings_call (n:=n) rm hF (ea ▸ H.al) bs H.low hfq fun h₁ t1 a xs K na ia rows=>?_
 obtain ⟨b,vs,eb,nb,ib,sb⟩:=rows i ws hws
 have ab:a≠b:=by
  rintro rfl
  obtain ⟨o,eo,z,po⟩:=ia
  obtain ⟨o',eo',z',po'⟩:=ib
  rw [eo] at eo'; cases eo'
  rw [po] at po'
  have:xs=vs:=by injection po' with _ _ e3; injection e3 with e3; simpa using e3
  subst this
  obtain ⟨x,tx,_,ex⟩:=sb.get eb
  cases ex
 rw [ea] at K
 have H1:=H.adds K [(a,ListP xs),(b,ListP vs)] (by simp [ab]) (fun x hx=>by
  simp only [Yu,List.not_mem_nil,or_false] at hx
  rcases hx with rfl | rfl
  ·exact na
  ·exact nb) (fun x hx=>by
  simp only [Yu,List.not_mem_nil,or_false] at hx
  rcases hx with rfl | rfl
  ·exact ia
  ·exact ib)
 have sub:∀ y∈F,y∈[(a,ListP xs),(b,ListP vs)]++F:=fun y hy=>Ys _ hy
 refine k1 _ h₁ _ _ sub H1 fun ti h₂ t2 H2=>?_
 refine s_at (H2.at (i:=0) rfl) (by exact Nat.lt_of_lt_of_le hi (by decide)) eb ?_
 refine k2 _ h₂ _ _ sub H2 fun tj h3 t3 H3=>?_
 have hv:=sb.len
 obtain ⟨x,tx,hx,ex⟩:=sb.get (Yj (show j < vs.length by lia))
 have ew:wrAt i j=x:=by
  have:lawWr.getD i []=ws:=by rw [Yo,hws]; rfl
  unfold wrAt
  rw [this,Yo,hx]; rfl
 refine s_at (H3.at (i:=1) rfl) (by exact Nat.lt_of_lt_of_le hj (by decide)) (Yj (show j < vs.length by lia)) ?_
 rw [ex,← ew]
 have nb':B.get? b=none:=H.notOld nb
 exact k tx h3 t3 ((H3.lose (H.notOld na) fun _ _ _ e=>e).lose nb' fun _ _ _ e=>e)
theorem s_wix {np ap p:Pos} {tx:Tok}
  (rm:Rm A (n + 1)) (hF:Frs A frs) (ea:adr frs=L::fa) (bs:Bs H0 mg mb) (wd:FnAt H0 mg 40 "_law_words") (H:St H0 B fa X L l F h) (hx:x∈lawWords)
  (e1:∀ G h₁ t1 (Q:Value→Shared→Prop),(∀ y∈F,y∈G)→St H0 B fa X L l G h₁→Q (.str x tx) (sh g t1 h₁)→wpAny (model P w) A (eval e env) Q E (sh g t1 h₁))
  (k:∀ t0 h' t',St H0 B fa X L l F h'→Q (.int (lawWords.idxOf x:Nat) t0) (sh g t' h'))
  (hk:env.scope.kind=.function) (hl:env.kindOf "_law_words" = some .globalImplicit) (hg:env.globals=mainGlobals)
  (hline:autoParam ((ap.endLine == p.line)=true) tR) (htrees:autoParam (backTo p (starEach [e] env)=[(false,eval e env)]) tR) :
  wpAny (model P w) A (eval (.Call (.Attribute (.Call (.Name "_law_words" np) [] [] cp) "index" ap) [e] [] p) env) Q E (sh g t h):=by
 obtain ⟨fq,nq,cq,pq,kq,hq,hfq⟩:=wd
 refine s_indexG (ss:=lawWords) (v:=.str x tx) rfl hx (Zb (s_gname bs H.low hq (s_fcall hfq (evalArgs_nil3 ⟨H.low,?_⟩)) hk hl hg)) rfl hline htrees
 refine words_call (n:=n) rm hF (ea ▸ H.al) bs H.low hfq fun h₁ t1 a vs K na ia sa=>?_
 rw [ea] at K
 have H1:=H.add K na ia
 have hl:=sa.len
 exact ⟨a,vs,h₁,_,rfl,rfl,ia,sa,by rw [hl]; decide,fun Q q=>e1 _ h₁ _ Q (fun y hy=>Yb _ hy) H1 q,fun t0 t'=>k t0 h₁ t' (H1.lose (H.notOld na) fun _ _ _ e=>e)⟩
end
noncomputable def plainOf (x:Str):Str:=wrAt (lawWords.idxOf x) 0
theorem holds_plain {g} {t} {la:Addr} {Q:Flow→Shared→Prop}
  (rm:Rm A (n + 12)) (hF:Frs A (eH name cd pm kwd L f::fr)) (bs:Bs H0 mg mb) (LE:LawE2 H0 mg mb) (H:St H0 B (adr fr) [] L l F h) (V:VS (eH name cd pm kwd L f) l F ρ)
  (r:ρ.lookup ("line" : Str)=some (.ref la)) (m:(la,ListP vs)∈F) (hs:Strs vs ss) (hz:vs.length≤100) (hw:∀ x∈ss,x∈lawWords)
  (k:∀ p ws h' t' l',Strs ws (ss.map plainOf)→VS (eH name cd pm kwd L f) l' ((p,ListP ws)::F) (("plain",.ref p)::ρ)→St H0 B (adr fr) [] L l' ((p,ListP ws)::F) h'→wpAny (model P w) A (execs ((fnp 50).2.1.drop 21) (eH name cd pm kwd L f)) Q E (sh g t' h')) :
  wpAny (model P w) A (execs ((fnp 50).2.1.drop 20) (eH name cd pm kwd L f)) Q E (sh g t h):=by
 have ln:=hs.len
 refine s_cons ?_
 intro _ q1 _
 refine s_compAsg [] (s_ldv H V ?_ r)
 refine wpAny_pyIter_list (H.mem m).list ?_
 have H1:=H.push { cls:=.type "list_iterator",data:=.fields #[.ref la,.int 0 0] } (p:=IterP la 0) ⟨rfl,rfl⟩
 have nI:=H.notOld (Yy (Zf _))
 generalize h.objs.size=it at H1 nI ⊢
 refine s_compInU H1 (Itr.list rm.1 it la vs) nI (fun i ws F'=>Strs ws ((ss.take i).map plainOf)∧F'=F∧i≤ss.length) ⟨rfl,rfl,Zs _⟩
  (fun C D i ws F' m' h j S=>S.mem (Yb _ (Yb _ (Yb _ (j.2.1 ▸ m))))) (fun i ws F' j=>by have:=j.1.len; rw [Yp,List.length_take] at this; lia) (fun C D i v ws F' h2 t2 m' hi hv j hm H2=>?_) (fun D ws F' h2 t2 j H2=>?_) (by rfl) (by rfl) (by rfl)
 ·rw [List.forIn_nil]
  refine Yn ?_
  rw [if_pos rfl]
  obtain ⟨j1,rfl,j3⟩:=j
  obtain ⟨x,tx,hx,rfl⟩:=hs.get hv
  have hxw:=hw x (Yr hx)
  refine s_wr (n:=n) (i:=lawWords.idxOf x) (j:=0) (rm.le (by exact Za (by decide) _)) hF rfl bs LE.wrt H2 (List.idxOf_lt_length_iff.mpr hxw) (by exact Nat.le_add_left _ _) (fun G h3 t3 Q' sub H3 q=>?_) (fun G h3 t3 Q' sub H3 q=>s_ci fun t4 t5=>q t4 _ _ H3) (fun tv h3 t3 H3=>?_) (fun _ _=>rfl) (fun _ _ _ q=>s_subC q) rfl (by rfl) rfl
  ·exact s_wix (n:=n) (x:=x) (tx:=tx) (rm.le (by exact Za (by decide) _)) hF rfl bs LE.words H3 hxw (fun G h4 t₄ Q'' sub' H4 q'=>s_ldm (H4.mem (sub' _ (sub _ Yc))) hm q') (fun t0 h' t' H'=>q t0 h' t' H') rfl (by rfl) rfl
  ·refine ⟨_,_,_,rfl,H3,?_,rfl,by have:=(List.getElem?_eq_some_iff.mp hx).1; exact ‹_›⟩
   have:ss.take (i + 1)=ss.take i++[x]:=by rw [List.take_add_one,hx]; rfl
   rw [this,Yt]
   unfold Strs at j1 ⊢
   rw [Yt,j1,Yt]; rfl
 ·obtain ⟨j1,rfl,_⟩:=j
  rw [ln,List.take_length] at j1
  exact q1 _ (k D ws h2 t2 _ j1 ((V.bindL (by rfl)).mono fun y hy=>Yb _ hy) H2)
theorem holds_ret {g} {t} {la pl fj:Addr} {nj:Str} {pj kj:Value} {cc pt fq:Addr} {Q:Flow→Shared→Prop}
  (rm:Rm A (n + 12)) (hF:Frs A (eH name cd pm kwd L f::fr)) (bs:Bs H0 mg mb) (K:JoinK H0 mg mb cc pt fq) (hj:mg "join_shlex" = some (.ref fj)) (hfj:Fn H0 fj (fdF 34 nj (.ref cc) pj kj)) (M:Lump H0 (adr fr) B [(pt,TabP #[])]) (H:St H0 B (adr fr) [] L l F h) (V:VS (eH name cd pm kwd L f) l F ρ)
  (r:ρ.lookup ("line" : Str)=some (.ref la)) (r2:ρ.lookup ("plain" : Str)=some (.ref pl)) (m:(la,ListP vs)∈F) (m2:(pl,ListP ws)∈F) (hs:Strs vs ss) (hs2:Strs ws (ss.map plainOf)) (hz:ss.length≤100) (hw:∀ x∈ss,x∈lawWords) (hq:∀ x∈lawWords,QuoOk x∧quo x=plainOf x) (hjo:JoinOk " " (ss.map quo)=true)
  (k:∀ h' t' ps,Step (adr fr) B [(pt,TabP #[])] h' [(pt,TabP ps)]→Q (.ret (.bool true)) (sh (g.push .finished) t' h')) :
  wpAny (model P w) A (execs ((fnp 50).2.1.drop 21) (eH name cd pm kwd L f)) Q E (sh g t h):=by
 have eq:ss.map quo=ss.map plainOf:=List.map_congr_left fun x hx=>(hq x (hw x hx)).2
 refine Yh (Zd (wpAny_Compare1 (Zb (s_gname bs H.low hj (s_fcall hfj (Zx (Yz (s_ldv H V (Zn ⟨H.low,?_⟩) r))))))))
 have H1:St H0 B (adr fr) [pt] L l ([(pt,TabP #[])]++F) h:=H.own M
 have lt:la≠pt:=by
  have:=H1.nd
  intro e
  rw [Yt] at this
  exact (List.nodup_append.mp this).2.2 pt Yc la (Yx.mpr ⟨_,m,rfl⟩) e.symm
 refine join_call (n:=n) (rm.le (by exact Za (by decide) _)) hF H1.al K H1.low hfj H1.lump (H1.obM (Ys _ m)) lt hs (fun x hx=>(hq x (hw x hx)).1) (by exact Ye hz (by decide)) hjo fun h2 t2 tr ps S=>?_
 have H2:St H0 B (adr fr) [pt] L l ([(pt,TabP ps)]++F) h2:=H1.step S
 have V2:VS (eH name cd pm kwd L f) l ([(pt,TabP ps)]++F) ρ:=V.mono fun y hy=>Ys _ hy
 refine MethodCall_ (s_cs fun tc t3=>GM.join ?_) (by rfl)
 refine callWith_method1 (Yz (s_ldv H2 V2 (v:=.ref pl) (Zn ?_) r2))
 obtain ⟨lt',e1,e2⟩:=strs_vals hs2
 refine SC.join (l:=lt') (texts:=ss.map plainOf) (e1 ▸ (H2.mem (Ys _ m2)).list) e2 (eq ▸ hjo) fun t' k'=>?_
 rw [eq]
 refine PySem.P.eq_str ?_
 rw [beq_self_eq_true]
 exact k _ _ ps (H2.toStep (G:=[(pt,TabP #[])]) (G':=[(pt,TabP ps)]) (R:=F) fun b hb=>hb)
structure HP (W NM:List Str) (late:Nat→List Nat) (key:Nat→Nat) (LB LE':List Int) (RA RH:Nat→List Str):Prop where
 n1:1≤NM.length
 n8:NM.length≤8
 nd:NM.Nodup
 hW:W.length=10
 sub:∀ x∈NM,x∈W
 hl:∀ i,i < NM.length→lateP NM.length (fun o j=>decide (eW W (NM.getD o "") < bW W (NM.getD j ""))) i=some (late i)
 due:∀ i,i < NM.length→(late i).Perm ((List.range NM.length).filter fun o=>decide (bW W (NM.getD o "") > eW W (NM.getD i "")))
 hk:∀ i j,i < NM.length + NM.length→j < NM.length + NM.length→lexB (evC NM.length (fun i=>bW W (NM.getD i "")) (fun i=>eW W (NM.getD i "")) i) (evC NM.length (fun i=>bW W (NM.getD i "")) (fun i=>eW W (NM.getD i "")) j)=decide (key i < key j)
 h01:key 0 < key 1
 hinj:∀ i j,i < NM.length + NM.length→j < NM.length + NM.length→key i=key j→i=j
 hr:∀ p:Array Nat,PermR (NM.length + NM.length) p→Srt key p (NM.length + NM.length)→(p.toList.foldl (rkStep NM.length) (rk0 NM.length)).2.2.1=LB∧(p.toList.foldl (rkStep NM.length) (rk0 NM.length)).2.2.2=LE'
 lb:LB.length=NM.length
 le:LE'.length=NM.length
 pa:∀ i,i < NM.length→(RA i).Perm ((late i).map fun j=>NM.getD j "")
 sa:∀ i,i < NM.length→sortedS (RA i)=true
 ph:∀ i,i < NM.length→(RH i).Perm ((aheadP late NM.length i).map fun j=>NM.getD j "")
 sh:∀ i,i < NM.length→sortedS (RH i)=true
 cA:∀ M,MaxIs LE' M→((ddl (rowsS RA NM.length)).length:Int)=M + 1
 cH:∀ M,MaxIs LB M→((ddl (rowsS RH NM.length)).length:Int)=M + 1
 tE:((List.range NM.length).map fun i=>((((ddl (rowsS RA NM.length)).filter fun r=>decide (r.length > (late i).length)).length:Nat):Int))=LE'
 tB:((List.range NM.length).map fun i=>((((ddl (rowsS RH NM.length)).filter fun r=>decide (r.length < (aheadP late NM.length i).length)).length:Nat):Int))=LB
 aA:∀ j i,j < NM.length→i < j→cmpS (ddl ((late i).map fun j=>NM.getD j "")) (ddl ((late j).map fun j=>NM.getD j ""))=(LE'.getD i 0 == LE'.getD j 0)
 aH:∀ j i,j < NM.length→i < j→cmpS (ddl ((aheadP late NM.length i).map fun j=>NM.getD j "")) (ddl ((aheadP late NM.length j).map fun j=>NM.getD j ""))=(LB.getD i 0 == LB.getD j 0)
 ap:∀ i j M,i < NM.length→j < NM.length→MaxIs LE' M→cmpS (ddl ((late i).map fun j=>NM.getD j "")) (ddl ((aheadP late NM.length j).map fun j=>NM.getD j ""))=(LE'.getD i 0 == M && LB.getD j 0 == 0)
theorem lookup_memC {x:Str} {c:Addr}:∀ {cs:List (Str×Addr)},cs.lookup x=some c→(x,c)∈cs
 | [],h=>by cases h
 | (y,v)::cs,h=>by
  rw [List.lookup_cons] at h
  cases e:x == y with
  | true=>rw [e] at h; cases h; rw [beq_iff_eq.mp e]; exact Yc
  | false=>rw [e] at h; exact Yb _ (lookup_memC h)
theorem inj_snd {x:Str} {c:Addr} {y:Str}:∀ {cs:List (Str×Addr)},(cs.map (·.2)).Nodup→(x,c)∈cs→(y,c)∈cs→x=y
 | [],_,h,_=>by cases h
 | (z,v)::cs,n,h1,h2=>by
  obtain ⟨n1,n2⟩:=List.nodup_cons.mp n
  rcases Yu.mp h1 with e1 | m1
  ·rcases Yu.mp h2 with e2 | m2
   ·exact (congrArg Prod.fst e1).trans (congrArg Prod.fst e2).symm
   ·injection e1 with _ e1; subst e1; exact (n1 (Yx.mpr ⟨_,m2,rfl⟩)).elim
  ·rcases Yu.mp h2 with e2 | m2
   ·injection e2 with _ e2; subst e2; exact (n1 (Yx.mpr ⟨_,m1,rfl⟩)).elim
   ·exact inj_snd n2 m1 m2
theorem b50 (name:Str) (cd pm kwd u v:Value):bindArgs (fdF 50 name cd pm kwd) ⟨[u,v],[]⟩=pure [(("words" : Str),u),(("names" : Str),v)]:=by rfl
noncomputable abbrev F0 (L wa na:Addr):Fs:=[(L + 7,CellP none),(L + 6,CellP none),(L + 5,CellP none),(L + 4,CellP none),(L + 3,CellP none),(L + 2,CellP (some (.ref na))),(L + 1,CellP (some (.ref wa)))]
theorem lk_cons {k:Str} {u v:α} {l:List (Str×α)} (h:((k,u)::l).lookup x=some v):(x=k∧v=u)∨l.lookup x=some v:=by
 rw [List.lookup_cons] at h
 cases e:x == k with
 | true=>rw [e] at h; exact .inl ⟨beq_iff_eq.mp e,(Zj h).symm⟩
 | false=>rw [e] at h; exact .inr h
theorem vs0 {wa:Addr}:VS (eH name cd pm kwd L f) [] (F0 L wa na) [(("words" : Str),.ref wa),(("names" : Str),.ref na)]:=by
 have two:∀ x v,[(("words" : Str),Value.ref wa),(("names" : Str),.ref na)].lookup x=some v→(x = "words" ∧ v=.ref wa)∨(x = "names" ∧ v=.ref na):=fun x v h=>by
  rcases lk_cons h with q | h
  ·exact .inl q
  ·rcases lk_cons h with q | h
   ·exact .inr q
   ·exact nS h
 refine ⟨fun x v h k=>?_,fun x v c h k q=>?_,fun x c h=>?_,fun x y c h1 h2=>?_⟩
 ·rcases two x v h with ⟨rfl,rfl⟩ | ⟨rfl,rfl⟩<;>cases k
 ·rcases two x v h with ⟨rfl,rfl⟩ | ⟨rfl,rfl⟩<;>cases q
  ·exact Yr (i:=6) rfl
  ·exact Yr (i:=5) rfl
 ·have h:(x,c)∈csH L:=lookup_memC h
  obtain ⟨i,hi⟩:=List.mem_iff_getElem?.mp h
  rcases i with _ | _ | _ | _ | _ | _ | _ | i<;>cases hi
  ·exact ⟨_,Yr (i:=0) rfl⟩
  ·exact ⟨_,Yr (i:=1) rfl⟩
  ·exact ⟨_,Yr (i:=2) rfl⟩
  ·exact ⟨_,Yr (i:=3) rfl⟩
  ·exact ⟨_,Yr (i:=4) rfl⟩
  ·exact ⟨_,Yr (i:=5) rfl⟩
  ·exact ⟨_,Yr (i:=6) rfl⟩
 ·have h1:(x,c)∈csH L:=lookup_memC h1
  have h2:(y,c)∈csH L:=lookup_memC h2
  refine inj_snd ?_ h1 h2
  have:((csH L).map (·.2))=[7,6,5,4,3,2,1].map (L + ·):=rfl
  rw [this]
  exact List.Pairwise.map _ (fun a b (q:a≠b) e=>q (Nat.add_left_cancel e)) (by decide)
theorem filter_le8 {p:Nat→Bool} (h:N≤8):((List.range N).filter p).length≤8:=Ye (List.length_filter_le _ _) (by rwa [List.length_range])
theorem filter_lt {p:Nat→Bool} (h:j∈(List.range N).filter p):j < N:=Ua.mp (List.mem_filter.mp h).1
theorem rows_le {RA:Nat→List Str} {ix:Nat→List Nat} (p:∀ i,i < N→(RA i).Perm ((ix i).map fun j=>NM.getD j "")) (z:∀ i,i < N→(ix i).length≤8):∀ r∈rowsS RA N,r.length≤1000:=fun r hr=>by
 obtain ⟨i,hi,rfl⟩:=Yx.mp hr
 have hi:=Ua.mp hi
 rw [(p i hi).length_eq,Yp]
 exact Ye (z i hi) (by decide)
theorem kinds_map (e:S.length=N) (it:ItemsF F xs N (RowI S)) (H:St H0 B fa X L l F h):(dd (rowE xs S) xs).map (rowOf xs S)=ddl S:=by
 subst e
 have:=dd_map (rowOf xs S) xs
 rw [(it.rows' H).map] at this
 exact this
theorem line_words (NM:List Str) (LB LE:List Int) (n:Nat):∀ x∈lineP NM LB LE n,x∈lawWords:=fun x hx=>by
 unfold lineP at hx
 obtain ⟨r,_,hx⟩:=List.mem_flatMap.mp hx
 rcases Zz.mp hx with hx | hx<;>exact (List.mem_filter.mp hx).1
theorem holds_call {g K CS CN} {t} {wa fj cc pt fq:Addr} {wvs:List Value} {late:Nat→List Nat} {key:Nat→Nat} {LE':List Int} {RA RH:Nat→List Str} {nj:Str} {pj kj:Value}
  (rm:Rm A (n + 14)) (hfr:Frs A fr) (al:Alive H0 (adr fr) h) (LE:LawE H0 mg mb K CN CS) (L2:LawE2 H0 mg mb) (JK:JoinK H0 mg mb cc pt fq) (hj:mg "join_shlex" = some (.ref fj)) (hfj:Fn H0 fj (fdF 34 nj (.ref cc) pj kj)) (low:∀ a o,H0.get? a=some o→h.get? a=some o) (hf:Fn H0 f (fdF 50 name cd pm kwd))
  (M:Lump H0 (adr fr) h [(pt,TabP #[])]) (oW:Ob (adr fr) h wa (ListP wvs)) (oN:Ob (adr fr) h na (ListP nvs)) (sW:Strs wvs W) (sN:Strs nvs NM)
  (p:HP W NM late key LB LE' RA RH) (hq:∀ x∈lawWords,QuoOk x∧quo x=plainOf x) (hjo:JoinOk " " ((lineP NM LB LE' NM.length).map quo)=true)
  (hR:∀ h' t' ps,Step (adr fr) h [(pt,TabP #[])] h' [(pt,TabP ps)]→R (.ok (.ret (.bool true))) (sh (g.push .finished) t' h')) :
  codeAny (model P w) A (.call (.ref f) ⟨[.ref wa,.ref na],[]⟩) R (sh g t h):=by
 refine s_enterCQ (csH h.objs.size) LE.bs low hf hfr al rm.room rfl (fun _ _ q=>by rw [b50]; exact Yn q) fun env A' h1 t1 QQ EE ee hA qr qn H hF=>?_
 have rm':Rm A' (n + 13):=hA ▸ rm.deeper env
 have rm2:Rm A' (n + 12):=rm'.le (Nat.le_succ _)
 clear hA
 subst ee
 generalize h.objs.size=L at H hF ⊢
 replace H:St H0 h (adr fr) [] L [] (F0 L wa na) h1:=H
 have nm:=nmOf sN p.nd
 have zA:=rowsS_len RA NM.length
 have zH:=rowsS_len RH NM.length
 have z1:∀ i,i < NM.length→(late i).length≤8:=fun i hi=>(p.due i hi).length_eq ▸ filter_le8 p.n8
 have z2:∀ i,i < NM.length→(aheadP late NM.length i).length≤8:=fun i _=>filter_le8 p.n8
 have l1:∀ i,i < NM.length→∀ j∈late i,j < NM.length:=fun i hi j hj=>filter_lt ((p.due i hi).mem_iff.mp hj)
 have l2:∀ i,i < NM.length→∀ j∈aheadP late NM.length i,j < NM.length:=fun i _ j hj=>filter_lt hj
 have lh:=p.n1
 refine holds_spans rm'.1 H vs0 rfl rfl oW oN sW sN p.hW p.n8 p.sub fun sp vsp F1 h1 t1 L1 i1 k1 m1 V1 H1=>?_
 refine holds_after rm2 hF LE H1 V1 (na:=na) rfl rfl oN sN p.n8 p.nd i1 m1 p.hl fun af vaf F2 h2 t2 L₂ i2 k2 m2 V2 H2=>?_
 have m1:=k2 _ _ m1 (nc_list _)
 have i1:=i1.kf k2
 refine holds_check rm2 LE H2 V2 (na:=na) (sp:=sp) (af:=af) rfl rfl rfl rfl rfl oN sN p.n8 p.nd i1 m1 i2 m2 l1 p.due fun F3 h3 t3 L3 k3 V3 H3=>?_
 have m1:=k3 _ _ m1 (nc_list _)
 have i1:=i1.kf k3
 have m2:=k3 _ _ m2 (nc_list _)
 have i2:=i2.kf k3
 refine holds_ahead rm2 LE H3 V3 (na:=na) (af:=af) rfl rfl oN sN p.n8 p.nd i2 m2 l1 fun ah vah F4 h4 t4 L4 i3 k4 m3 V4 H4=>?_
 have m1:=k4 _ m1
 have i1:=i1.sub k4
 have m2:=k4 _ m2
 have i2:=i2.sub k4
 refine holds_ranks rm2 hF LE H4 V4 (sp:=sp) rfl p.n1 p.n8 i1 m1 p.hk p.h01 p.hinj p.hr fun rb re vb ve F5 h5 t5 L5 k5 m4 m5 n4 n5 V5 H5=>?_
 have m2:=k5 _ m2
 have i2:=i2.sub k5
 have m3:=k5 _ m3
 have i3:=i3.sub k5
 clear H H1 H2 H3 H4 V1 V2 V3 V4 i1
 refine holds_kinds rm' hF LE.bs LE.nr LE.so0 LE.so1 L2 H5 V5 (af:=af) (ah:=ah) rfl rfl m2 m3 i2 i3 p.n1 p.n8 nm l1 l2 z1 z2 p.pa p.sa p.ph p.sh fun ra rh ka kh va vh u1 u2 F6 h6 t6 L6 j1 j2 k6 m6 m7 m8 m9 V6 H6=>?_
 have m2:=k6 _ _ m2 (nc_list _)
 have i2:=i2.kf k6
 have m3:=k6 _ _ m3 (nc_list _)
 have i3:=i3.kf k6
 have m4:=k6 _ _ m4 (nc_list _)
 have m5:=k6 _ _ m5 (nc_list _)
 have q1:=kinds_map zA j1 H6
 have q2:=kinds_map zH j2 H6
 have w1:=(Yp (rowOf va (rowsS RA NM.length)) (as:=dd (rowE va (rowsS RA NM.length)) va)).symm.trans (congrArg List.length q1)
 have w2:=(Yp (rowOf vh (rowsS RH NM.length)) (as:=dd (rowE vh (rowsS RH NM.length)) vh)).symm.trans (congrArg List.length q2)
 have y1:(dd (rowE va (rowsS RA NM.length)) va).length≤1000:=Ye (dd_le _ _) (by rw [j1.1]; exact Ye p.n8 (by decide))
 have y2:(dd (rowE vh (rowsS RH NM.length)) vh).length≤1000:=Ye (dd_le _ _) (by rw [j2.1]; exact Ye p.n8 (by decide))
 have j1':ItemsF F6 va (rowsS RA NM.length).length (RowI (rowsS RA NM.length)):=zA.symm ▸ j1
 have j2':ItemsF F6 vh (rowsS RH NM.length).length (RowI (rowsS RH NM.length)):=zH.symm ▸ j2
 refine holds_counts rm2 hF LE.bs LE.nr L2 H6 V6 (ra:=ra) (rh:=rh) (ka:=ka) (kh:=kh) (rb:=rb) (re:=re) rfl rfl rfl rfl rfl rfl m6 m7 m8 m9 m4 m5 j1' j2' (j1.1 ▸ lh) (j2.1 ▸ lh) y1 y2 n4 n5 (p.lb ▸ lh) (p.le ▸ lh) (fun M hM=>w1 ▸ p.cA M hM) (fun M hM=>w2 ▸ p.cH M hM) fun h7 t7 H7=>?_
 clear H6 H5 V5
 refine holds_told rm2 LE.bs LE.nr H7 V6 (af:=af) (ah:=ah) (ka:=ka) (kh:=kh) (rb:=rb) (re:=re) rfl rfl rfl rfl rfl rfl m2 m3 m8 m9 m4 m5 i2 i3 j1' j2' (fun v hv=>dd_sub hv) (fun v hv=>dd_sub hv) y1 y2 (rows_le p.pa z1) (rows_le p.ph z2) p.n8 z1 z2 n4 n5 (q1.symm ▸ p.tE) (q2.symm ▸ p.tB) fun te tb vte vtb F8 h8 t8 L8 k8 m10 m11 n10 n11 V8 H8=>?_
 refine holds_line rm2 hF LE.bs LE.nr L2 H8 V8 (na:=na) (af:=af) (ah:=ah) (rb:=rb) (re:=re) (tb:=tb) (te:=te) rfl rfl rfl rfl rfl rfl rfl oN sN p.n8 p.nd (k8 _ m2) (k8 _ m3) (k8 _ m4) (k8 _ m5) m11 m10 (i2.sub k8) (i3.sub k8) l1 l2 z1 z2 n4 n5 n11 n10 p.lb p.le p.aA p.aH p.ap fun li vl h9 t9 L9 sl zl V9 H9=>?_
 have lw:=line_words NM LB LE' NM.length
 refine holds_plain rm2 hF LE.bs L2 H9 V9 (la:=li) rfl Yc sl zl lw fun pl vp h10 t10 L10 sp' V10 H10=>?_
 exact holds_ret rm2 hF LE.bs JK hj hfj M H10 V10 (la:=li) (pl:=pl) rfl rfl (Yb _ Yc) Yc sl sp' (sl.len ▸ zl) lw hq hjo fun h' t' ps S=>qr _ _ (hR h' t' ps S)
noncomputable abbrev eJ (name:Str) (cd pm kwd:Value) (L f:Addr):Env:=envC (fdF 51 name cd pm kwd) L f [("cells",L + 1)]
noncomputable def wix (c:Int):Nat:=(c.fmod 5).toNat
theorem wix_eq (c:Int):c.fmod 5=(wix c:Nat):=(Int.toNat_of_nonneg (Int.fmod_nonneg_of_pos c (by decide))).symm
theorem wix_lt (c:Int):wix c < 5:=by have:=wix_eq c; have:=Int.fmod_lt_of_pos c (show (0:Int) < 5 by decide); lia
noncomputable def kix (c:Int) (i:Nat):Nat:=((c.fdiv (3 ^ i)).fmod 3).toNat
theorem kix_eq (c:Int) (i:Nat):(c.fdiv (3 ^ i)).fmod 3=(kix c i:Nat):=(Int.toNat_of_nonneg (Int.fmod_nonneg_of_pos _ (by decide))).symm
theorem kix_lt (c:Int) (i:Nat):kix c i < 3:=by have:=kix_eq c i; have:=Int.fmod_lt_of_pos (c.fdiv (3 ^ i)) (show (0:Int) < 3 by decide); lia
theorem pow3_small (c:Int) (h:i < 10):Builtin.divisionGoesByPylong c (3 ^ ((i:Nat):Int).toNat)=false:=by
 have k:∀ i,i < 10→((3:Int) ^ i).natAbs < 1073741824:=by decide
 exact PyProof.noPylong_small (k i h)
noncomputable def lawW (cs:List Int):List Str:=(cs.take 10).map fun c=>lawWords.getD (wix c) ""
noncomputable def lawQ (cs:List Int):List Str:=(List.range 10).map fun i=>wrAt (wix (cs.getD i 0)) (kix (cs.getD 10 0) i)
section
variable {frs:List Env}
theorem s_uptoC {k0:Nat} {p0 p:Pos} (H:St H0 B fa X L l F h) (ha:Is h a (ListP xs)) (hz:xs.length≤1000)
  (e1:∀ Q:Value→Shared→Prop,Q (.ref a) (sh g t h)→wpAny (model P w) A (eval value env) Q E (sh g t h))
  (k:∀ b h' t',St H0 B fa X L l ((b,ListP (xs.take i))::F) h'→Q (.ref b) (sh g t' h'))
  (ht:autoParam (∀ o r,letTemporaryGo value o r=pure ()) tI) :
  wpAny (model P w) A (eval (.Subscript value (.Slice none (some (.Constant (.int (i:Nat)) k0 p0)) none p) pos) env) Q E (sh g t h):=by
 refine wpAny_Subscript_Slice PySem.F.slot_list_getitem.lookup (e1 _ ?_) ht
 refine wpAny_Slice (evalPart_none_step (evalPart_some_step (s_ci fun t0 t1=>evalPart_none_step ?_)))
 have kp:∀ b o,h.get? b=some o→(h.push { cls:=.type "slice",data:=.fields #[.none,.int (i:Nat) t0,.none] }).get? b=some o:=fun b o e=>Yv _ e
 have ha':=ha.at (fun o e=>kp a o e)
 refine ⟨ha'.list.typeIs,wpAny_getItem_list_slice ha'.list (Heap.IsSliceOf.new _ _ _ _) .none (.int _ _) .none (by simp) ?_ (by simp only [List.size_toArray]; exact Ye hz (by decide))⟩
 rw [slicePick_upto']
 exact k _ _ _ ((H.same kp).push _ ⟨0,rfl⟩)
end
theorem law_lists {g} {t} {sc:Addr} {Q:Flow→Shared→Prop}
  (rm:Rm A (n + 12)) (hF:Frs A (eJ name cd pm kwd L f::fr)) (bs:Bs H0 mg mb) (nr:NamesR mg mb) (ce:FnAt H0 mg 39 "_law_cells") (wd:FnAt H0 mg 40 "_law_words") (wr:FnAt H0 mg 41 "_law_writings") (H:St H0 B (adr fr) [] L l ((L + 1,CellP none)::F) h) (l1:l.lookup ("script" : Str)=some (.ref sc)) (oS:Ob (adr fr) B sc (ListP ws)) (hw:Ints ws ks) (hz:ks.length≤1000)
  (k:∀ wa qa vw vq F' h' t' l',(∀ y∈F,y∈F')→(wa,ListP vw)∈F'→(qa,ListP vq)∈F'→Strs vw (lawW (cellsP ks ks.length))→Strs vq (lawQ (cellsP ks ks.length))→l'.lookup ("words" : Str)=some (.ref wa)→l'.lookup ("writings" : Str)=some (.ref qa)→St H0 B (adr fr) [] L l' F' h'→wpAny (model P w) A (execs ((fnp 51).2.1.drop 3) (eJ name cd pm kwd L f)) Q E (sh g t' h')) :
  wpAny (model P w) A (execs (fnp 51).2.1 (eJ name cd pm kwd L f)) Q E (sh g t h):=by
 obtain ⟨fc,nc,cc,pc,kc,hc,hfc⟩:=ce
 have zc:=cells_len ks ks.length
 obtain ⟨cs,hcs⟩:∃ cs,cs=cellsP ks ks.length:=⟨_,rfl⟩
 refine s_cons ?_
 intro _ q1 _
 refine Yq (Zb (s_gname bs H.low hc (s_fcall hfc (Zx (Yz (s_ld H (Zn ⟨H.low,?_⟩) l1))))))
 refine cells_call (n:=n) (rm.le (by exact Za (by decide) _)) hF H.al bs H.low hfc nr (H.oldO oS) hw hz fun h1 t₁ ca vc K nc ic sc=>?_
 rw [← hcs] at sc zc k
 have zv:vc.length=11:=sc.len.trans zc
 have H1:=H.add K nc ic
 refine s_stc H1 1 (fun h2 t2 H2=>q1 _ ?_) rfl rfl
 clear q1 H H1
 have mc:(L + 1,CellP (some (Value.ref ca)))∈(ca,ListP vc)::(L + 1,CellP (some (.ref ca)))::F:=Yr (i:=1) rfl
 refine s_cons ?_
 intro _ q1 _
 refine s_compAsg [] (s_uptoC (i:=10) H2 (H2.at (i:=0) rfl) (by lia) (fun Q q=>s_ldc (c:=L + 1) (v:=.ref ca) (H2.mem mc) q) fun sl h3 t3 H3=>?_)
 refine wpAny_pyIter_list (H3.at (i:=0) rfl:Is _ _ _).list ?_
 have H4:=H3.push { cls:=.type "list_iterator",data:=.fields #[.ref sl,.int 0 0] } (p:=IterP sl 0) ⟨rfl,rfl⟩
 have nI:=H3.notOld (Yy (Zf _))
 have nS:=H3.fresh (i:=0) rfl
 generalize h3.objs.size=it at H4 nI ⊢
 obtain ⟨G,hG⟩:∃ G,G=(sl,ListP (vc.take 10))::(ca,ListP vc)::(L + 1,CellP (some (Value.ref ca)))::F:=⟨_,rfl⟩
 have H4:St H0 B (adr fr) [] L l ((it,IterP sl 0)::G) _:=hG ▸ H4
 have mS:(sl,ListP (vc.take 10))∈G:=hG ▸ Yc
 refine s_compInU H4 (Itr.list rm.1 it sl (vc.take 10)) nI (fun i us F'=>Strs us ((lawW cs).take i)∧F'=G∧i≤10) ⟨rfl,rfl,Zs _⟩
  (fun C D i us F' m' h j S=>S.mem (Yb _ (Yb _ (Yb _ (j.2.1 ▸ mS))))) (fun i us F' j=>by have:=j.1.len; rw [List.length_take] at this; lia) (fun C D i v us F' h5 t5 m' hi hv j hm H5=>?_) (fun D us F' h5 t5 j H5=>?_) (by rfl) (by rfl) (by rfl)
 ·rw [List.forIn_nil]
  refine Yn ?_
  rw [if_pos rfl]
  obtain ⟨j1,rfl,j3⟩:=j
  have hi10:i < 10:=by rw [List.length_take] at hi; lia
  have hv':vc[i]? = some v:=by rw [List.getElem?_take_of_lt hi10] at hv; exact hv
  obtain ⟨tv,ev⟩:=sc.get (i:=i) (by lia)
  rw [hv'] at ev; cases ev
  obtain ⟨fw,nw,cw,pw,kw,hw',hfw⟩:=wd
  refine s_subG (Zb (s_gname bs H5.low hw' (s_fcall hfw (evalArgs_nil3 ⟨H5.low,?_⟩)) rfl (by rfl) rfl)) (by intro _ _; rfl)
  refine words_call (n:=n) (rm.le (by exact Za (by decide) _)) hF H5.al bs H5.low hfw fun h6 t₆ a vs K na ia sa=>?_
  have H6:=H5.add K na ia
  refine wpAny_BinOp (s_ldm (H6.at (i:=1) rfl) hm (s_ci fun t7 t8=>mod_int' (by decide) ?_))
  rw [wix_eq]
  have zl:=sa.len
  have wl:lawWords.length=5:=rfl
  have wlt:=wix_lt (cs.getD i 0)
  obtain ⟨x,tx,hx,ex⟩:=sa.get (Yj (show wix (cs.getD i 0) < vs.length by lia))
  refine s_at (H6.at (i:=0) rfl) (by exact Nat.lt_of_lt_of_le wlt (by decide)) (Yj (show wix (cs.getD i 0) < vs.length by lia)) ?_
  rw [ex]
  refine ⟨_,_,_,rfl,H6.lose (H5.notOld na) fun _ _ _ e=>e,?_,rfl,hi10⟩
  have hci:cs[i]? = some (cs.getD i 0):=by rw [Yo,Yj (by lia)]; rfl
  have e2:(lawW cs)[i]? = some x:=by
   unfold lawW
   rw [Zc,List.getElem?_take_of_lt hi10,hci,Option.map_some,Yo,hx]; rfl
  have:(lawW cs).take (i + 1)=(lawW cs).take i++[x]:=by rw [List.take_add_one,e2]; rfl
  rw [this]
  unfold Strs at j1 ⊢
  rw [Yt,j1,Yt]; rfl
 ·obtain ⟨j1,rfl,_⟩:=j
  have zt:(vc.take 10).length=10:=by rw [List.length_take]; lia
  have zW:(lawW cs).length=10:=by unfold lawW; rw [Yp,List.length_take]; lia
  rw [zt,List.take_of_length_le (by exact Nat.le_of_eq zW)] at j1
  refine q1 _ ?_
  clear q1 H4 H3 H2
  subst hG
  have mc':(L + 1,CellP (some (Value.ref ca)))∈(D,ListP us)::(sl,ListP (vc.take 10))::(ca,ListP vc)::(L + 1,CellP (some (Value.ref ca)))::F:=Yr (i:=3) rfl
  have mv':(ca,ListP vc)∈(D,ListP us)::(sl,ListP (vc.take 10))::(ca,ListP vc)::(L + 1,CellP (some (Value.ref ca)))::F:=Yr (i:=2) rfl
  refine s_cons ?_
  intro _ q1 _
  refine s_compAsg [("cells",L + 1)] (s_type1 bs H5.low nr.r0 nr.r1 (s_ci fun t6 t7=>?_))
  refine s_iterRange (n:=10) H5 (by exact Nat.le_add_left _ _) fun it2 t₇ h7 H7=>?_
  obtain ⟨G,hG⟩:∃ G,G=(D,ListP us)::(sl,ListP (vc.take 10))::(ca,ListP vc)::(L + 1,CellP (some (Value.ref ca)))::F:=⟨_,rfl⟩
  rw [← hG] at H7 mc' mv'
  refine s_compInU H7 (Itr.range rm.1 it2 10) (H7.fresh (i:=0) rfl) (fun i qs F'=>Strs qs ((lawQ cs).take i)∧F'=G∧i≤10) ⟨rfl,rfl,Zs _⟩
   (fun _ _ _ _ _ _ _ _ _=>trivial) (fun i us F' j=>by have:=j.1.len; rw [List.length_take] at this; lia) (fun C D2 i v qs F' h8 t₈ m' hi hv j hm H8=>?_) (fun D2 qs F' h8 t₈ j H8=>?_) (by rfl) (by rfl) (by rfl)
  ·rw [List.forIn_nil]
   refine Yn ?_
   rw [if_pos rfl]
   obtain ⟨j1,rfl,j3⟩:=j
   obtain ⟨ti,rfl⟩:=hv
   obtain ⟨tv,ev⟩:=sc.get (i:=i) (by lia)
   obtain ⟨tu,eu⟩:=sc.get (i:=10) (by exact Nat.le_of_eq (Eq.symm ‹_›))
   have sub:∀ y∈F',y∈(C,NsP m')::(D2,ListP qs)::(it2,RngP (i + 1) 10)::F':=fun y hy=>Yb _ (Yb _ (Yb _ hy))
   refine s_wr (n:=n) (i:=wix (cs.getD i 0)) (j:=kix (cs.getD 10 0) i) (rm.le (by exact Za (by decide) _)) hF rfl bs wr H8 (wix_lt _) (kix_lt _ _) (fun G h3 t3 Q' sub' H3 q=>?_) (fun G h3 t3 Q' sub' H3 q=>?_) (fun tv h3 t3 H3=>?_) (fun _ _=>rfl) (fun _ _ _ q=>s_subG q (by intro _ _; rfl)) rfl (by rfl) rfl
   ·refine wpAny_BinOp (Zk (s_ldc (c:=L + 1) (v:=.ref ca) (H3.mem (sub' _ (sub _ mc'))) (s_ldm (H3.mem (sub' _ Yc)) hm (s_at (H3.mem (sub' _ (sub _ mv'))) (by exact Nat.lt_of_le_of_lt j3 (by decide)) ev (s_ci fun t9 t10=>mod_int' (by decide) ?_)))))
    rw [wix_eq]
    exact q _ _ _ H3
   ·refine wpAny_BinOp (wpAny_BinOp (s_subC (s_ldc (c:=L + 1) (v:=.ref ca) (H3.mem (sub' _ (sub _ mc'))) (s_ci fun t9 t10=>s_at (i:=10) (H3.mem (sub' _ (sub _ mv'))) (by decide) eu (wpAny_BinOp (s_ci fun t11 t12=>s_ldm (H3.mem (sub' _ Yc)) hm (pow_int_small (by exact Int.natCast_nonneg _) (by lia) (by decide) (floordiv_int ?_ (s_ci fun t13 t14=>mod_int' (by decide) ?_) (.inl (pow3_small _ (by exact hi)))))))))))
    ·rw [Int.toNat_natCast]; exact Int.pow_ne_zero (by decide)
    ·rw [Int.toNat_natCast,kix_eq]
     exact q _ _ _ H3
   ·refine ⟨_,_,_,rfl,H3,?_,rfl,hi⟩
    have e2:(lawQ cs)[i]? = some (wrAt (wix (cs.getD i 0)) (kix (cs.getD 10 0) i)):=by
     unfold lawQ
     rw [Zc,List.getElem?_range hi]; rfl
    have:(lawQ cs).take (i + 1)=(lawQ cs).take i++[wrAt (wix (cs.getD i 0)) (kix (cs.getD 10 0) i)]:=by rw [List.take_add_one,e2]; rfl
    rw [this]
    unfold Strs at j1 ⊢
    rw [Yt,j1,Yt]; rfl
  ·obtain ⟨j2,rfl,_⟩:=j
   rw [List.take_of_length_le (show (lawQ cs).length≤10 by unfold lawQ; simp)] at j2
   refine q1 _ (k D D2 us qs _ h8 _ _ (fun y hy=>?_) ?_ Yc j1 j2 rfl rfl H8)
   ·rw [hG]
    exact Yb _ (Yb _ (Yb _ (Yb _ (Yb _ hy))))
   ·rw [hG]
    exact Yb _ Yc
theorem s_ifOr3 {x y z:Expr} {Q:Flow→Shared→Prop}
  (h:wpAny (model P w) A (isTrue x env (eval x env)) (fun c s=>c=false∧wpAny (model P w) A (isTrue y env (eval y env)) (fun c s=>c=false∧wpAny (model P w) A (isTrue z env (eval z env)) (fun c s=>c=false∧Q .next s) E s) E s) E s) :
  wpAny (model P w) A (exec (.If (.BoolOp .Or [x,y,z] p1) body [] p2) env) Q E s :=
 Zh (isTrue_or (Ze h (fun _ _ ⟨e,q⟩=>e ▸ isTrue_or (Ze q (fun _ _ ⟨e,q⟩=>e ▸ isTrue_or (Ze q (fun _ _ ⟨e,q⟩=>e ▸ isTrue_or_nil (Ym q)) fun _ _ e=>e)) fun _ _ e=>e)) fun _ _ e=>e))
structure LawE3 (H0:Heap) (mg mb:Str→Option Value):Prop where
 kept:FnAt H0 mg 43 "_law_kept_are"
 cells:FnAt H0 mg 39 "_law_cells"
 holds:FnAt H0 mg 50 "_law_holds"
 nk:NamesK mg mb
 l0:mg "list" = none
 l1:mb "list" = some (.type "list")
theorem b51 (name:Str) (cd pm kwd v:Value):bindArgs (fdF 51 name cd pm kwd) ⟨[v],[]⟩=pure [(("script" : Str),v)]:=by rfl
theorem law_call {g} {t} {sc fj cc pt fq:Addr} {nj nsp:Str} {pj kj cs' ps' ks':Value} {kk:Nat}
  (rm:Rm A (n + 15)) (hfr:Frs A fr) (al:Alive H0 (adr fr) h) (LE:LawE H0 mg mb K CN CS) (L2:LawE2 H0 mg mb) (L3:LawE3 H0 mg mb) (JK:JoinK H0 mg mb cc pt fq) (hj:mg "join_shlex" = some (.ref fj)) (hfj:Fn H0 fj (fdF 34 nj (.ref cc) pj kj))
  (X:LxE H0 mg mb K CL CI) (XC:LexC H0 mg mb K CL CI CT CO CB) (XM:LexM H0 mg mb K CL) (XI:LexI K CL) (hsp:mg "split" = some (.ref fs)) (hfs:Fn H0 fs { fdF 33 nsp cs' ps' ks' with defaults:=.ref dt }) (hdt:Is H0 dt (TupP [.bool false,.bool true])) (gl:mg "shlex" = some (.ref CL)) (top:H0.get? (H0.objs.size - 1)≠none)
  (low:∀ a o,H0.get? a=some o→h.get? a=some o) (hf:Fn H0 f (fdF 51 name cd pm kwd)) (M:Lump H0 (adr fr) h [(pt,TabP #[])])
  (oS:Ob (adr fr) h sc (ListP ws)) (hw:Ints ws ks) (hz:ks.length≤1000)
  (hlx:∀ cs:List Int,cs.length=11→lxAll kk (Txt.join " " (lawQ cs)).cps.toList (some " ")=some (lawW cs)∧(Txt.join " " (lawQ cs)).length≤9000∧JoinOk " " (lawQ cs)=true)
  (hp:∀ W:List Str,W.length=10→(∀ x∈W,x∈lawWords)→E6 fun late key LB LE' RA RH=>HP W (ddl W) late key LB LE' RA RH∧JoinOk " " ((lineP (ddl W) LB LE' (ddl W).length).map quo)=true)
  (hq:∀ x∈lawWords,QuoOk x∧quo x=plainOf x)
  (hR:∀ h' t' ps,Step (adr fr) h [(pt,TabP #[])] h' [(pt,TabP ps)]→R (.ok (.ret (.bool true))) (sh (g.push .finished) t' h')) :
  codeAny (model P w) A (.call (.ref f) ⟨[.ref sc],[]⟩) R (sh g t h):=by
 have bs:=LE.bs
 obtain ⟨cs,hcs⟩:∃ cs,cs=cellsP ks ks.length:=⟨_,rfl⟩
 have zc:cs.length=11:=hcs ▸ cells_len ks ks.length
 obtain ⟨x1,x2,x3⟩:=hlx cs zc
 have zW:(lawW cs).length=10:=by unfold lawW; rw [Yp,List.length_take]; lia
 have wW:∀ x∈lawW cs,x∈lawWords:=fun x hx=>by
  obtain ⟨c,_,rfl⟩:=Yx.mp hx
  have l5:wix c < lawWords.length:=wix_lt c
  rw [Yo,Yj l5]
  exact List.getElem_mem _
 obtain ⟨late,key,LB,LE',RA,RH,hp,hjo⟩:=hp (lawW cs) zW wW
 obtain ⟨fk,nk,ck,pk,kk',hk,hfk⟩:=L3.kept
 obtain ⟨fd,nd,cd',pd,kd,mk,hd',hfd,hk1,hk2⟩:=L2.ded
 obtain ⟨fm,nm,cm,pm',km,hm,hfm⟩:=L2.met
 obtain ⟨fh,nh,ch,ph,kh,hh,hfh⟩:=L3.holds
 refine s_enterCQ [("cells",h.objs.size + 1)] bs low hf hfr al rm.room rfl (fun _ _ q=>by rw [b51]; exact Yn q) fun env A' h1 t1 QQ EE ee hA qr qn H hF=>?_
 have rm':Rm A' (n + 14):=hA ▸ rm.deeper env
 clear hA
 subst ee
 generalize h.objs.size=L at H hF ⊢
 replace H:St H0 h (adr fr) [] L [("script",.ref sc)] [(L + 1,CellP none)] h1:=H
 refine law_lists (n:=n) (rm'.le (by exact Za (by decide) _)) hF bs LE.nr L3.cells L2.words L2.wrt H rfl oS hw hz fun wa qa vw vq F2 h2 t2 l2 sub m1 m2 s1 s2 e1 e2 H2=>?_
 rw [← hcs] at s1 s2
 clear H
 obtain ⟨lt,y1,y2⟩:=strs_vals s2
 refine s_cons ?_
 intro _ q1 _
 refine Yq (Zb (s_gname bs H2.low hsp (s_fcall hfs (Zx (Yz (MethodCall_ (s_cs fun tc t3=>GM.join ?_) (by rfl)))))))
 refine callWith_method1 (Yz (s_ld H2 (Zn ?_) e2))
 refine SC.join (l:=lt) (texts:=lawQ cs) (y1 ▸ (H2.mem m2).list) y2 x3 fun t' k'=>Zn ⟨H2.low,?_⟩
 refine split_call (n:=n) (rm'.le (by exact Za (by decide) _)) hF H2.al X XC XM XI H2.low hfs hdt gl top x2 x1 (by lia) fun h3 t3 ra vr K3 n3 i3 s3=>?_
 refine s_st (H2.add K3 n3 i3) fun h4 t4 H4=>q1 _ ?_
 clear q1 H2
 have zr:vr.length=10:=s3.len.trans zW
 have e1':(("read",Value.ref ra)::l2:List (Str×Value)).lookup ("words" : Str)=some (.ref wa):=e1
 refine s_cons ?_
 intro _ q1 _
 refine s_ifOr3 (Yg (s_ld H4 (s_ld H4 (s_neStrs (H4.at (i:=0) rfl) (H4.mem (Yb _ m1)) s3 s1 (rm'.le (by exact Za (by decide) _):Rm _ (n + 1)).u (Yi ⟨rfl,?_⟩)) e1')))
 refine isTrue_not (Zv (s_call1 bs H4.low hk hfk (s_ld H4 ⟨H4.low,?_⟩)))
 refine kept_call (n:=n) (rm'.le (by exact Za (by decide) _)) hF H4.al bs H4.low hfk hfd hd' hk1 hk2 hfm hm L2.nd LE.nr L3.nk L3.l0 L3.l1 (H4.ob (i:=0) rfl) s3 (by lia) fun h5 t5 K5=>Yi ⟨rfl,?_⟩
 have H5:=H4.call K5
 clear H4 K5
 refine isTrue_not (Zv (s_call1 bs H5.low hk hfk (s_rev10 H5 (H5.at (i:=0) rfl) zr (fun Q q=>s_ld H5 q) fun rv h6 t6 H6=>⟨H6.low,?_⟩)))
 refine kept_call (n:=n) (rm'.le (by lia)) hF H6.al bs H6.low hfk hfd hd' hk1 hk2 hfm hm L2.nd LE.nr L3.nk L3.l0 L3.l1 (H6.ob (i:=0) rfl) (strs_rev s3) (by rw [List.length_reverse]; lia) fun h7 t7 K7=>Yi ⟨rfl,q1 _ ?_⟩
 have H7:=(H6.call K7).lose (H6.fresh (i:=0) rfl) fun _ _ _ e=>e
 clear q1 H5 H6 K7
 refine Yh (Zd (Zb (s_gname bs H7.low hh (s_fcall hfh (Zx (Yz (s_ld H7 (Yz ?_))))))))
 refine s_type1 bs H7.low L3.l0 L3.l1 (s_call1 bs H7.low hd' hfd (s_ld H7 ⟨H7.low,?_⟩))
 refine ded_call (n:=n) (rm'.le (by lia)) hF H7.al bs H7.low hfd hk1 hk2 L2.nd (H7.ob (i:=0) rfl) s3 (by lia) fun h8 t8 b K8 n8 i8=>?_
 obtain ⟨ep,he⟩:=i8.fixEp
 have H8:=(H7.add K8 n8 he)
 have zd:(ddl (lawW cs)).length≤1000:=Ye hp.n8 (by decide)
 refine s_listDict bs H8 Yc (by rw [nones,Yp]; exact zd) rm'.1 fun vn h9 t9 hn' H9=>Zn ⟨H9.low,?_⟩
 have sn:Strs vn (ddl (lawW cs)):=by simpa [nones,List.map_map,Function.comp_def] using hn'
 generalize h8.objs.size=na at H9 ⊢
 have H':St H0 h (adr fr) [pt] L _ ([(pt,TabP #[])]++_) h9:=H9.own M
 refine holds_call (n:=n) rm' hF H'.al LE L2 JK hj hfj H'.low hfh H'.lump (H'.obM (Ys _ (Yr (i:=2) rfl))) (H'.obM (Ys _ Yc)) s3 sn hp hq hjo fun h' t' ps S=>?_
 exact qr _ _ (hR h' t' ps (St.toStep (G:=[(pt,TabP #[])]) (G':=[(pt,TabP ps)]) (H'.step S) fun b hb=>hb))
noncomputable def rAt (r:List Nat) (o:Nat):Nat:=r.getD o 0
noncomputable def ltR (r:List Nat) (o j:Nat):Bool:=decide (rAt r o≤j)
noncomputable def lateR (N:Nat) (r:List Nat) (i:Nat):List Nat:=(lateP N (ltR r) i).getD []
noncomputable def ahR (N:Nat) (r:List Nat) (i:Nat):List Nat:=(List.range N).filter fun o=>decide (rAt r o≤i)
noncomputable def bR (N:Nat) (r:List Nat) (j:Nat):Nat:=((List.range (j + 1)).filter fun k=>decide (0 < k) && (List.range N).any fun o=>rAt r o == k).length
noncomputable def eR (N:Nat) (r:List Nat) (o:Nat):Nat:=bR N r (rAt r o - 1)
noncomputable def cmpN:List Nat→List Nat→Bool
 | [],t=>t.isEmpty
 | x::xs,t=>if x∈t then cmpN xs (t.erase x) else false
noncomputable def ddi (e:Nat→Nat→Bool) (l:List Nat):List Nat:=l.foldl (fun acc x=>if acc.any (fun y=>e y x) then acc else acc++[x]) []
noncomputable def okV (N:Nat) (r:List Nat):Bool :=
 let ix:=List.range N
 let DA:=ddi (fun y x=>rAt r y == rAt r x) ix
 let DH:=ddi (fun y x=>(ahR N r y).length == (ahR N r x).length) ix
 ix.all fun i =>
  (lateP N (ltR r) i).isSome && (lateR N r i).isPerm (ix.filter fun o=>decide (rAt r i≤o)) &&
  (!(ix.all fun j=>decide (eR N r j≤eR N r i)) || (DA.length == eR N r i + 1 && ix.all fun k=>ix.all fun j=>cmpN (lateR N r k) (ahR N r j) == (eR N r k == eR N r i && bR N r j == 0))) &&
  (!(ix.all fun j=>decide (bR N r j≤bR N r i)) || DH.length == bR N r i + 1) &&
  (DA.filter fun k=>decide ((lateR N r k).length > (lateR N r i).length)).length == eR N r i &&
  (DH.filter fun k=>decide ((ahR N r k).length < (ahR N r i).length)).length == bR N r i &&
  ix.all fun j=>((ahR N r i).length == (ahR N r j).length) == (ahR N r i == ahR N r j) && (rAt r i == rAt r j) == ((lateR N r i).length == (lateR N r j).length) && cmpN (lateR N r i) (lateR N r j) == (eR N r i == eR N r j) && cmpN (ahR N r i) (ahR N r j) == (bR N r i == bR N r j)
noncomputable def allV (N:Nat):Nat→List Nat→Bool
 | 0,acc=>okV N acc
 | k + 1,acc=>(List.range' (acc.length + 1) (N - acc.length)).all fun v=>allV N k (acc++[v])
theorem allV_all:∀ (k:Nat) {acc r:List Nat},allV N k acc=true→r.length=k→acc.length + k=N→(∀ i,i < k→acc.length + i + 1≤rAt r i∧rAt r i≤N)→okV N (acc++r)=true:=by
 intro k
 induction k with
 | zero =>
  intro acc r h e _ _
  rw [List.eq_nil_of_length_eq_zero e,List.append_nil]; exact h
 | succ k ih =>
  intro acc r h e hl hr
  cases r with | nil=>cases e | cons v r=>?_
  have hv:=hr 0 (Nat.succ_pos k)
  have hv':acc.length + 1≤v∧v≤N:=hv
  have:=List.all_eq_true.mp h v (List.mem_range'_1.mpr ⟨hv'.1,by lia⟩)
  have z:=ih this (r:=r) (by simpa using e) (by simp; lia) (fun i hi=>by
   have:=hr (i + 1) (by exact Nat.lt_succ_of_le ‹_›)
   simp only [Zw,List.length_singleton]
   have e':rAt (v::r) (i + 1)=rAt r i:=rfl
   rw [e'] at this
   lia)
  rwa [List.append_assoc] at z
theorem ddl_rel [BEq α] (f:Nat→α) (e:Nat→Nat→Bool) (L:List Nat) (h:∀ i∈L,∀ j∈L,(f i == f j)=e i j):ddl (L.map f)=(ddi e L).map f:=by
 have key:∀ l acc:List Nat,(∀ i∈l,i∈L)→(∀ i∈acc,i∈L)→(l.map f).foldl (fun acc x=>if acc.any (fun y=>y == x) then acc else acc++[x]) (acc.map f)=(l.foldl (fun acc x=>if acc.any (fun y=>e y x) then acc else acc++[x]) acc).map f:=by
  intro l
  induction l with
  | nil=>intro acc _ _; rfl
  | cons x l ih =>
   intro acc hl ha
   have hx:=hl x Yc
   rw [Zq,List.foldl_cons,List.foldl_cons]
   have e1:(acc.map f).any (fun y=>y == f x)=acc.any (fun y=>e y x):=by
    rw [List.any_map]
    rw [Bool.eq_iff_iff,List.any_eq_true,List.any_eq_true]
    constructor
    ·rintro ⟨y,hy,q⟩; exact ⟨y,hy,by rw [← h y (ha y hy) x hx]; exact q⟩
    ·rintro ⟨y,hy,q⟩; exact ⟨y,hy,by rw [← h y (ha y hy) x hx] at q; exact q⟩
   rw [e1]
   cases acc.any (fun y=>e y x) with
   | true=>exact ih acc (fun i hi=>hl i (Yb _ hi)) ha
   | false =>
    have:acc.map f++[f x]=(acc++[x]).map f:=by rw [Yt]; rfl
    rw [if_neg Yk,if_neg Yk,this]
    refine ih _ (fun i hi=>hl i (Yb _ hi)) fun i hi=>?_
    rcases Zz.mp hi with hi | hi
    ·exact ha i hi
    ·rw [Zu.mp hi]; exact hx
 exact key L [] (fun _ m=>m) (fun _ m=>nomatch m)
theorem ddi_sub {l:List Nat} {e:Nat→Nat→Bool}:∀ i∈ddi e l,i∈l:=by
 have key:∀ l acc:List Nat,∀ i∈l.foldl (fun acc x=>if acc.any (fun y=>e y x) then acc else acc++[x]) acc,i∈acc∨i∈l:=by
  intro l
  induction l with
  | nil=>intro acc i h; exact .inl h
  | cons x l ih =>
   intro acc i h
   rw [List.foldl_cons] at h
   rcases ih _ i h with h | h
   ·split at h
    ·exact .inl h
    ·rcases Zz.mp h with h | h
     ·exact .inl h
     ·rw [Zu.mp h]; exact .inr Yc
   ·exact .inr (Yb _ h)
 exact fun i h=>(key l [] i h).resolve_left (fun m=>nomatch m)
theorem ddl_nodup {l:List Str} (h:l.Nodup):ddl l=l:=by
 have key:∀ l acc:List Str,(acc++l).Nodup→l.foldl (fun acc x=>if acc.any (fun y=>y == x) then acc else acc++[x]) acc=acc++l:=by
  intro l
  induction l with
  | nil=>intro acc _; rw [List.append_nil]; rfl
  | cons x l ih =>
   intro acc h
   have hx:acc.any (fun y=>y == x)=false:=by
    rw [List.any_eq_false]
    intro y hy q
    exact (List.nodup_append.mp h).2.2 y hy x Yc (beq_iff_eq.mp q)
   rw [List.foldl_cons,hx,if_neg Yk]
   have e:acc++x::l=(acc++[x])++l:=by rw [List.append_assoc]; rfl
   rw [e] at h ⊢
   exact ih _ h
 exact key l [] h
theorem cmp_map {N:Nat} {nm:Nat→Str} (inj:∀ i j,i < N→j < N→nm i=nm j→i=j):∀ l t:List Nat,(∀ i∈l,i < N)→(∀ i∈t,i < N)→cmpS (l.map nm) (t.map nm)=cmpN l t
 | [],t,_,_=>by
  show (t.map nm).isEmpty=t.isEmpty
  cases t<;>rfl
 | x::l,t,hl,ht=>by
  have hx:=hl x Yc
  have e1:nm x∈t.map nm↔x∈t:=⟨fun m=>by obtain ⟨y,hy,e⟩:=Yx.mp m; rw [inj x y hx (ht y hy) e.symm]; exact hy,fun m=>Yx.mpr ⟨x,m,rfl⟩⟩
  have e2:∀ t:List Nat,(∀ i∈t,i < N)→(t.map nm).erase (nm x)=(t.erase x).map nm:=by
   intro t
   induction t with
   | nil=>intro _; rfl
   | cons y t ih =>
    intro ht
    rw [Zq,List.erase_cons,List.erase_cons]
    by_cases q:y=x
    ·subst q; rw [beq_self_eq_true,beq_self_eq_true,if_pos rfl,if_pos rfl]
    ·rw [Zp.mpr q,Zp.mpr fun e=>q (inj y x (ht y Yc) hx e),if_neg Yk,if_neg Yk,Zq,ih fun i hi=>ht i (Yb _ hi)]
  show (if nm x∈t.map nm then cmpS (l.map nm) ((t.map nm).erase (nm x)) else false)=(if x∈t then cmpN l (t.erase x) else false)
  by_cases q:x∈t
  ·rw [if_pos q,if_pos (e1.mpr q),e2 t ht]
   exact cmp_map inj l _ (fun i hi=>hl i (Yb _ hi)) fun i hi=>ht i (List.mem_of_mem_erase hi)
  ·rw [if_neg q,if_neg fun m=>q (e1.mp m)]
theorem sort_ex:∀ l:List Str,∃ s:List Str,s.Perm l∧sortedS s=true:=by
 have ins:∀ (x:Str) (s:List Str),s.Pairwise leS→∃ s':List Str,s'.Perm (x::s)∧s'.Pairwise leS:=by
  intro x s
  induction s with
  | nil=>intro _; exact ⟨[x],.refl _,List.pairwise_singleton _ _⟩
  | cons y s ih =>
   intro h
   obtain ⟨h1,h2⟩:=List.pairwise_cons.mp h
   by_cases q:leS x y
   ·exact ⟨x::y::s,.refl _,List.pairwise_cons.mpr ⟨fun z hz=>by
     rcases Yu.mp hz with rfl | hz
     ·exact q
     ·exact leS_trans q (h1 z hz),h⟩⟩
   ·obtain ⟨s',p,w⟩:=ih h2
    have yx:leS y x:=by
     unfold leS at q ⊢
     rw [ltCps_eq] at q ⊢
     simp only [decide_eq_false_iff_not] at q ⊢
     exact fun z=>List.lt_asymm (Decidable.not_not.mp q) z
    exact ⟨y::s',(List.Perm.cons y p).trans (List.Perm.swap _ _ _),List.pairwise_cons.mpr ⟨fun z hz=>by
     rcases Yu.mp (p.mem_iff.mp hz) with rfl | hz
     ·exact yx
     ·exact h1 z hz,w⟩⟩
 have rise:∀ (r:List Str) (p:Str),(p::r).Pairwise leS→risingS p r=true:=by
  intro r
  induction r with
  | nil=>intro p _; rfl
  | cons x r ih =>
   intro p h
   obtain ⟨h1,h2⟩:=List.pairwise_cons.mp h
   unfold risingS
   rw [Bool.and_eq_true]
   exact ⟨by have:=h1 x Yc; simpa [leS] using this,ih x h2⟩
 intro l
 have:∃ s:List Str,s.Perm l∧s.Pairwise leS:=by
  induction l with
  | nil=>exact ⟨[],.refl _,List.Pairwise.nil⟩
  | cons x l ih =>
   obtain ⟨s,p,w⟩:=ih
   obtain ⟨s',p',w'⟩:=ins x s w
   exact ⟨s',p'.trans (p.cons x),w'⟩
 obtain ⟨s,p,w⟩:=this
 refine ⟨s,p,?_⟩
 cases s with
 | nil=>rfl
 | cons x r=>exact rise r x w
theorem bR_zero (N:Nat) (r:List Nat):bR N r 0=0:=rfl
theorem bR_succ (N:Nat) (r:List Nat) (j:Nat):bR N r (j + 1)=bR N r j + if (List.range N).any (fun o=>rAt r o == j + 1) then 1 else 0:=by
 unfold bR
 rw [List.range_succ (n:=j + 1),List.filter_append,Zw]
 congr 1
 cases h:(List.range N).any (fun o=>rAt r o == j + 1)<;>simp [h]
structure SpEv (N:Nat) (b e:Nat→Nat) (r:List Nat):Prop where
 mono:∀ i j,i < j→j < N→b i < b j
 be:∀ o,o < N→b o≤e o
 einj:∀ i j,i < N→j < N→e i=e j→i=j
 rr:∀ o j,o < N→j < N→(b j≤e o↔j < rAt r o)
 rN:∀ o,o < N→rAt r o≤N
noncomputable def keyE (N:Nat) (b e:Nat→Nat) (k:Nat):Nat:=if k < N then 2 * b k else 2 * e (k - N) + 1
theorem SpEv.binj {N b e r} (V:SpEv N b e r) (hi:i < N) (hj:j < N) (h:b i=b j):i=j:=by
 rcases Nat.lt_trichotomy i j with q | q | q
 ·have:=V.mono i j q hj; exact absurd ‹_› (Nat.ne_of_lt ‹_›)
 ·exact q
 ·have:=V.mono j i q hi; exact absurd ‹_› (Nat.ne_of_gt ‹_›)
theorem SpEv.r1 {N b e r} (V:SpEv N b e r) {o:Nat} (h:o < N):o + 1≤rAt r o:=(V.rr o o h h).mp (V.be o h)
theorem SpEv.kinj {N b e r} (V:SpEv N b e r) (i j:Nat) (hi:i < N + N) (hj:j < N + N) (h:keyE N b e i=keyE N b e j):i=j:=by
 unfold keyE at h
 split at h<;>split at h
 ·exact V.binj (by assumption) (by assumption) (by lia)
 ·lia
 ·lia
 ·have:=V.einj (i - N) (j - N) (by exact sb5 ‹_› ‹_›) (by exact sb5 ‹_› ‹_›) (by lia)
  exact sb7 ‹_› ‹_› ‹_›
theorem SpEv.k01 {N b e r} (V:SpEv N b e r) (h:1≤N):keyE N b e 0 < keyE N b e 1:=by
 unfold keyE
 rw [if_pos (show 0 < N from h)]
 have h0:=V.be 0 h
 split
 ·have:=V.mono 0 1 Nat.one_pos (by assumption); lia
 ·rw [show 1 - N=0 by lia]; lia
theorem SpEv.klex {N b e r} (V:SpEv N b e r) (i j:Nat) (hi:i < N + N) (hj:j < N + N) :
  lexB (evC N (fun i=>(b i:Int)) (fun i=>(e i:Int)) i) (evC N (fun i=>(b i:Int)) (fun i=>(e i:Int)) j)=decide (keyE N b e i < keyE N b e j):=by
 unfold evC keyE lexB
 by_cases h1:i < N<;>by_cases h2:j < N<;>simp only [h1,h2,if_true,if_false]
 ·by_cases q:b i=b j
  ·have:=V.binj h1 h2 q
   subst this
   simp
  ·have:¬ ((b i:Int)=(b j:Int)):=by lia
   simp [this]<;>lia
 ·by_cases q:b i=e (j - N)
  ·simp [q]
  ·have:¬ ((b i:Int)=(e (j - N):Int)):=by lia
   simp [this]<;>lia
 ·by_cases q:e (i - N)=b j
  ·simp [q]
  ·have:¬ ((e (i - N):Int)=(b j:Int)):=by lia
   simp [this]<;>lia
 ·by_cases q:e (i - N)=e (j - N)
  ·have:=V.einj (i - N) (j - N) (by exact sb5 ‹_› ‹_›) (by exact sb5 ‹_› ‹_›) q
   have:i=j:=by exact sb7 ‹_› ‹_› ‹_›
   subst this
   simp
  ·have:¬ ((e (i - N):Int)=(e (j - N):Int)):=by lia
   simp [this]<;>lia
structure RkInv (N:Nat) (r:List Nat) (done:List Nat) (s:RS) (jb:Nat):Prop where
 jN:jb≤N
 a:∀ j,j < N→(j∈done↔j < jb)
 rk:s.1=(bR N r (jb - 1):Nat)
 en:s.2.1=true↔∃ o,o < N∧N + o∈done∧rAt r o=jb
 lb:s.2.2.1.length=N
 vb:∀ j,j < jb→s.2.2.1[j]? = some ((bR N r j:Nat):Int)
 le:s.2.2.2.length=N
 ve:∀ o,o < N→N + o∈done→s.2.2.2[o]? = some ((eR N r o:Nat):Int)
theorem inv_step {N b e r} (V:SpEv N b e r) {done:List Nat} {jb:Nat} {s:RS} (I:RkInv N r done s jb) (hk:k < N + N)
  (lo:∀ i,i < N + N→(keyE N b e i < keyE N b e k↔i∈done)):∃ jb',RkInv N r (done++[k]) (rkStep N s k) jb':=by
 have nk:k ∉ done:=fun m=>by have:=(lo k hk).mpr m; exact absurd ‹_› (Nat.lt_irrefl _)
 by_cases hb:k < N
 ·have ka:keyE N b e k=2 * b k:=if_pos hb
  have ej:k=jb:=by
   have h1:¬ k < jb:=fun q=>nk ((I.a k hb).mpr q)
   have h2:¬ jb < k:=fun q=>by
    have hj:jb < N:=by exact Nat.lt_trans ‹_› ‹_›
    have:=(lo jb (by exact Nat.le_add_right_of_le ‹_›)).mp (by unfold keyE; rw [if_pos hj,if_pos hb]; have:=V.mono jb k q hb; lia)
    have:=(I.a jb hj).mp this
    exact absurd ‹_› (Nat.lt_irrefl _)
   exact Nat.le_antisymm (Nat.le_of_not_lt ‹_›) (Nat.le_of_not_lt ‹_›)
  subst ej
  have eo:∀ o,o < N→(N + o∈done↔rAt r o≤k):=fun o ho=>by
   rw [← lo (N + o) (by exact Nat.add_lt_add_left ‹_› _)]
   have k2:keyE N b e (N + o)=2 * e o + 1:=by unfold keyE; rw [if_neg (by lia),Nat.add_sub_cancel_left]
   rw [k2,ka]
   have:=V.rr o k ho hb
   lia
  have een:s.2.1=(List.range N).any (fun o=>rAt r o == k):=by
   rw [Bool.eq_iff_iff,I.en,List.any_eq_true]
   constructor
   ·rintro ⟨o,ho,_,e⟩; exact ⟨o,Ua.mpr ho,beq_iff_eq.mpr e⟩
   ·rintro ⟨o,ho,e⟩
    have ho:=Ua.mp ho
    have e:=beq_iff_eq.mp e
    exact ⟨o,ho,(eo o ho).mpr (Nat.le_of_eq e),e⟩
  have erk:(if s.2.1 then s.1 + 1 else s.1)=((bR N r k:Nat):Int):=by
   rw [een,I.rk]
   cases k with
   | zero =>
    have:(List.range N).any (fun o=>rAt r o == 0)=false:=by
     rw [List.any_eq_false]
     intro o ho q
     have:=V.r1 (Ua.mp ho)
     have:=beq_iff_eq.mp q
     lia
    rw [this]; rfl
   | succ k =>
    rw [bR_succ,Nat.add_sub_cancel]
    cases (List.range N).any (fun o=>rAt r o == k + 1)<;>simp
  refine ⟨k + 1,?_⟩
  unfold rkStep
  rw [if_pos hb,erk]
  exact {
   jN:=hb
   a:=fun j hj=>by
    rw [Zz,I.a j hj,Zu]; lia
   rk:=by rw [Nat.add_sub_cancel]
   en:=by
    constructor
    ·intro h; cases h
    ·rintro ⟨o,ho,m,e⟩
     rcases Zz.mp m with m | m
     ·have:=(eo o ho).mp m; lia
     ·have:=Zu.mp m; lia
   lb:=by rw [List.length_set]; exact I.lb
   vb:=fun j hj=>by
    by_cases q:j=k
    ·subst q; exact List.getElem?_set_self (by rw [I.lb]; exact hb)
    ·rw [List.getElem?_set_ne (Ne.symm q)]; exact I.vb j (by lia)
   le:=I.le
   ve:=fun o ho m=>by
    rcases Zz.mp m with m | m
    ·exact I.ve o ho m
    ·have:=Zu.mp m; lia }
 ·obtain ⟨o,rfl⟩:∃ o,k=N + o:=⟨k - N,by exact (sb6 ‹_›).symm⟩
  have ho:o < N:=by exact Nat.lt_of_add_lt_add_left ‹_›
  have k2:keyE N b e (N + o)=2 * e o + 1:=by unfold keyE; rw [if_neg hb,Nat.add_sub_cancel_left]
  have er:rAt r o=jb:=by
   have h:∀ i,i < N→(i < rAt r o↔i < jb):=fun i hi=>by
    rw [← V.rr o i ho hi,← I.a i hi,← lo i (by exact Nat.le_add_right_of_le ‹_›),k2]
    have:keyE N b e i=2 * b i:=if_pos hi
    rw [this]; lia
   have h1:=V.rN o ho
   have h2:=I.jN
   rcases Nat.lt_trichotomy (rAt r o) jb with q | q | q
   ·have:=(h (rAt r o) (by exact Nat.lt_of_lt_of_le q h2)).mpr q; exact absurd ‹_› (Nat.lt_irrefl _)
   ·exact q
   ·have:=(h jb (by exact Nat.lt_of_lt_of_le q h1)).mp q; exact absurd ‹_› (Nat.lt_irrefl _)
  refine ⟨jb,?_⟩
  unfold rkStep
  rw [if_neg hb,Nat.add_sub_cancel_left]
  exact {
   jN:=I.jN
   a:=fun j hj=>by
    rw [Zz,I.a j hj,Zu]; lia
   rk:=I.rk
   en:=⟨fun _=>⟨o,ho,Ys _ (Zu.mpr rfl),er⟩,fun _=>rfl⟩
   lb:=I.lb
   vb:=I.vb
   le:=by rw [List.length_set]; exact I.le
   ve:=fun o' ho' m=>by
    by_cases q:o'=o
    ·subst q
     rw [List.getElem?_set_self (by rw [I.le]; exact ho),I.rk]
     unfold eR
     rw [er]
    ·rw [List.getElem?_set_ne (Ne.symm q)]
     rcases Zz.mp m with m | m
     ·exact I.ve o' ho' m
     ·have:=Zu.mp m; lia }
theorem ev_fold {N b e r} (V:SpEv N b e r) (p:Array Nat) (hp:PermR (N + N) p) (hs:Srt (keyE N b e) p (N + N)) :
  (p.toList.foldl (rkStep N) (rk0 N)).2.2.1=(List.range N).map (fun j=>((bR N r j:Nat):Int))∧(p.toList.foldl (rkStep N) (rk0 N)).2.2.2=(List.range N).map (fun o=>((eR N r o:Nat):Int)):=by
 have sz:=hp.size
 have pm:p.toList.Perm (List.range (N + N)):=by have:=Array.perm_iff_toList_perm.mp hp; simpa using this
 have mem:∀ k,k∈p.toList↔k < N + N:=fun k=>by rw [pm.mem_iff,Ua]
 have nd:p.toList.Nodup:=pm.nodup_iff.mpr List.nodup_range
 have pw:p.toList.Pairwise (fun x y=>keyE N b e x < keyE N b e y):=by
  rw [List.pairwise_iff_getElem]
  intro i j hi hj q
  have hi':i < p.size:=by simpa using hi
  have hj':j < p.size:=by simpa using hj
  have h:=hs i j (Nat.le_of_lt q) (by exact Nat.lt_of_lt_of_eq ‹_› ‹_›)
  rw [Array.getD_eq_getD_getElem?,Array.getD_eq_getD_getElem?,Array.getElem?_eq_getElem hi',Array.getElem?_eq_getElem hj'] at h
  simp only [Option.getD_some] at h
  have h1:keyE N b e p.toList[i]≤keyE N b e p.toList[j]:=by simpa using h
  refine Nat.lt_of_le_of_ne h1 fun z=>?_
  have:=V.kinj _ _ ((mem _).mp (List.getElem_mem hi)) ((mem _).mp (List.getElem_mem hj)) z
  exact absurd ((List.getElem_inj nd).mp this) (Nat.ne_of_lt q)
 have key:∀ rest done s jb,done++rest=p.toList→RkInv N r done s jb→∃ jb',RkInv N r p.toList (rest.foldl (rkStep N) s) jb':=by
  intro rest
  induction rest with
  | nil=>intro done s jb h I; rw [List.append_nil] at h; exact ⟨jb,h ▸ I⟩
  | cons k rest ih =>
   intro done s jb h I
   have hk:k < N + N:=(mem k).mp (by rw [← h]; exact Ys _ Yc)
   rw [← h] at pw
   obtain ⟨_,w2,w3⟩:=List.pairwise_append.mp pw
   obtain ⟨w4,_⟩:=List.pairwise_cons.mp w2
   obtain ⟨jb',I'⟩:=inv_step V I hk fun i hi=>Iff.intro (fun q=>by
    have hm:=(mem i).mpr hi
    rw [← h] at hm
    rcases Zz.mp hm with m | m
    ·exact m
    ·rcases Yu.mp m with rfl | m
     ·exact absurd ‹_› (Nat.lt_irrefl _)
     ·have:=w4 i m; exact absurd ‹_ < _› (Nat.lt_asymm ‹_›)) (fun m=>w3 i m k Yc)
   rw [List.foldl_cons]
   exact ih (done++[k]) _ jb' (by rw [List.append_assoc]; exact h) I'
 obtain ⟨jb,I⟩:=key p.toList [] (rk0 N) 0 rfl {
  jN:=Zs _
  a:=fun j _=>Iff.intro (fun m=>absurd m List.not_mem_nil) (fun q=>absurd q (Nat.not_lt_zero _))
  rk:=rfl
  en:=Iff.intro (fun h=>by cases h) (fun ⟨_,_,m,_⟩=>absurd m (List.not_mem_nil))
  lb:=List.length_replicate
  vb:=fun j q=>absurd q (Nat.not_lt_zero _)
  le:=List.length_replicate
  ve:=fun _ _ m=>absurd m List.not_mem_nil }
 constructor
 ·apply List.ext_getElem?
  intro j
  by_cases hj:j < N
  ·rw [I.vb j ((I.a j hj).mp ((mem j).mpr (by exact Nat.le_add_right_of_le ‹_›))),Zc,List.getElem?_range hj]; rfl
  ·rw [List.getElem?_eq_none (by rw [I.lb]; exact Nat.le_of_not_lt ‹_›),List.getElem?_eq_none (by simp; exact Nat.le_of_not_lt ‹_›)]
 ·apply List.ext_getElem?
  intro o
  by_cases ho:o < N
  ·rw [I.ve o ho ((mem _).mpr (by exact Nat.add_lt_add_left ‹_› _)),Zc,List.getElem?_range ho]; rfl
  ·rw [List.getElem?_eq_none (by rw [I.le]; exact Nat.le_of_not_lt ‹_›),List.getElem?_eq_none (by simp; exact Nat.le_of_not_lt ‹_›)]
noncomputable def wrP (p:Nat×Nat):Str:=wrAt p.1 p.2
noncomputable def wdP (p:Nat×Nat):Str:=lawWords.getD p.1 ""
noncomputable def lx1 (r:List Nat) (st:Option Str):Option (Str×Option Str×List Nat):=(lxRun r ⟨st, "",false, " "⟩).bind fun x=>(lxRes x.1).map fun tk=>(tk,x.1.st,x.2)
theorem lxAll_cons {r r':List Nat} {st':Option Str} (h:lx1 r st=some (tk,st',r')):lxAll (k + 1) r st=(lxAll k r' st').map (tk::·):=by
 unfold lx1 at h
 obtain ⟨⟨s',r2⟩,e1,h⟩:=Zy.mp h
 obtain ⟨t2,e2,h⟩:=Zt.mp h
 cases h
 have e2:lxRes s'=some tk:=e2
 rw [lxAll,e1]
 dsimp only
 rw [e2]
noncomputable def okP (p:Nat×Nat):Prop:=p.1 < 5∧p.2 < 3
theorem lx_mid (p:Nat×Nat) (h:okP p) (rest:List Nat):lx1 ((wrP p).cps.toList++32::rest) (some " ")=some (wdP p,some (" " : Str),rest):=by
 obtain ⟨i,j⟩:=p
 obtain ⟨hi,hj⟩:=h
 rcases i with _ | _ | _ | _ | _ | i
 ·rcases j with _ | _ | _ | j
  ·kernel_rfl
  ·kernel_rfl
  ·kernel_rfl
  ·exact absurd hj (by simp)
 ·rcases j with _ | _ | _ | j
  ·kernel_rfl
  ·kernel_rfl
  ·kernel_rfl
  ·exact absurd hj (by simp)
 ·rcases j with _ | _ | _ | j
  ·kernel_rfl
  ·kernel_rfl
  ·kernel_rfl
  ·exact absurd hj (by simp)
 ·rcases j with _ | _ | _ | j
  ·kernel_rfl
  ·kernel_rfl
  ·kernel_rfl
  ·exact absurd hj (by simp)
 ·rcases j with _ | _ | _ | j
  ·kernel_rfl
  ·kernel_rfl
  ·kernel_rfl
  ·exact absurd hj (by simp)
 ·exact absurd hi (by simp)
theorem lx_ends:((List.range 5).all fun i=>(List.range 3).all fun j=>decide (lx1 (wrP (i,j)).cps.toList (some " ")=some (wdP (i,j),none,[])) && decide ((wrP (i,j)).length≤11))=true:=by decide +kernel
theorem lx_end {p:Nat×Nat} (h:okP p):lx1 (wrP p).cps.toList (some " ")=some (wdP p,none,[])∧(wrP p).length≤11:=by
 have:=List.all_eq_true.mp (List.all_eq_true.mp lx_ends p.1 (Ua.mpr h.1)) p.2 (Ua.mpr h.2)
 simpa using this
theorem lx_law:∀ ps:List (Nat×Nat),ps≠[]→(∀ p∈ps,okP p)→lxAll (ps.length + 1) (Str.join " " (ps.map wrP)).cps.toList (some " ")=some (ps.map wdP)∧(Str.join " " (ps.map wrP)).length≤12 * ps.length
 | [],h,_=>absurd rfl h
 | [p],_,h=>by
  obtain ⟨h1,h2⟩:=lx_end (h p Yc)
  refine ⟨?_,Ye h2 (by rw [List.length_singleton]; decide)⟩
  show lxAll 2 (wrP p).cps.toList (some " ")=_
  rw [lxAll_cons h1]
  rfl
 | p::q::r,_,h=>by
  obtain ⟨i1,i2⟩:=lx_law (q::r) (by simp) fun x hx=>h x (Yb _ hx)
  have h1:=lx_mid p (h p Yc) (Str.join " " ((q::r).map wrP)).cps.toList
  have e:(Str.join " " ((p::q::r).map wrP)).cps.toList=(wrP p).cps.toList++32::(Str.join " " ((q::r).map wrP)).cps.toList:=by
   show (wrP p++(" " : Str)++Str.join " " ((q::r).map wrP)).cps.toList=_
   rw [cps_toList_append,cps_toList_append,List.append_assoc]; rfl
  refine ⟨?_,?_⟩
  ·rw [e]
   show lxAll ((q::r).length + 1 + 1) _ _=_
   rw [lxAll_cons h1,i1]; rfl
  ·have l2:=(lx_end (h p Yc)).2
   have:=congrArg List.length e
   simp only [Zw,List.length_cons,Array.length_toList] at this
   unfold Str.length at i2 l2 ⊢
   simp only [List.length_cons] at i2 ⊢
   lia
theorem nodup_le {α:Type} [BEq α] [LawfulBEq α]:∀ (l m:List α),l.Nodup→(∀ x∈l,x∈m)→l.length≤m.length
 | [],_,_,_=>Zs _
 | x::l,m,h,s=>by
  obtain ⟨h1,h2⟩:=List.nodup_cons.mp h
  have hm:=s x Yc
  have:=nodup_le l (m.erase x) h2 fun y hy=>(List.mem_erase_of_ne (fun e:y=x=>h1 (by rw [← e]; exact hy))).mpr (s y (Yb _ hy))
  rw [List.length_erase_of_mem hm] at this
  have:0 < m.length:=List.length_pos_of_mem hm
  rw [List.length_cons]; lia
theorem idx_new (hx:W[n]? = some x) (h:x ∉ W.take n):W.idxOf x=n:=by
 have e:W=W.take n++(x::W.drop (n + 1)):=by
  have hn:=(List.getElem?_eq_some_iff.mp hx)
  obtain ⟨hn,hx⟩:=hn
  rw [← hx,← List.drop_eq_getElem_cons hn,List.take_append_drop]
 have hn:=(List.getElem?_eq_some_iff.mp hx).1
 rw [e,List.idxOf_append,if_neg h,List.idxOf_cons_self,List.length_take]
 lia
theorem idx_old (h:x∈W.take n):W.idxOf x < n:=by
 have:W.idxOf x=(W.take n).idxOf x:=by
  conv=>lhs; rw [← List.take_append_drop n W]
  rw [List.idxOf_append,if_pos h]
 rw [this]
 exact Nat.lt_of_lt_of_le (List.idxOf_lt_length_iff.mpr h) (List.length_take_le _ _)
theorem ddl_order (W:List Str):∀ n,n≤W.length→(ddl (W.take n)).Pairwise (fun x y=>W.idxOf x < W.idxOf y)∧∀ x,x∈ddl (W.take n)↔x∈W.take n
 | 0,_=>⟨by rw [List.take_zero]; exact List.Pairwise.nil,fun x=>by rw [List.take_zero]; exact Iff.rfl⟩
 | n + 1,h=>by
  obtain ⟨i1,i2⟩:=ddl_order W n (Nat.le_of_succ_le h)
  obtain ⟨x,hx⟩:∃ x,W[n]? = some x:=⟨_,Yj h⟩
  have et:W.take (n + 1)=W.take n++[x]:=by rw [List.take_add_one,hx]; rfl
  have es:=ddl_snoc W n x hx
  cases q:(ddl (W.take n)).any (fun y=>y == x) with
  | true =>
   rw [q,if_pos rfl] at es
   rw [es]
   obtain ⟨y,hy,e⟩:=List.any_eq_true.mp q
   rw [beq_iff_eq.mp e] at hy
   refine ⟨i1,fun z=>?_⟩
   rw [i2,et,Zz]
   exact ⟨.inl,fun m=>m.elim id fun m=>Zu.mp m ▸ (i2 x).mp hy⟩
  | false =>
   rw [q,if_neg Yk] at es
   rw [es]
   have nx:x ∉ W.take n:=fun m=>by
    have:=List.any_eq_false.mp q x ((i2 x).mpr m)
    exact this (beq_self_eq_true _)
   refine ⟨List.pairwise_append.mpr ⟨i1,List.pairwise_singleton _ _,fun y hy z hz=>?_⟩,fun z=>?_⟩
   ·rw [Zu.mp hz,idx_new hx nx]
    exact idx_old ((i2 y).mp hy)
   ·rw [Zz,i2,et,Zz]
theorem seg {p:Nat→Bool}:∀ {N:Nat},(∀ i j,i≤j→j < N→p j=true→p i=true)→∀ j,j < N→(p j=true↔j < ((List.range N).filter p).length)
 | 0,_,j,h=>absurd h (Nat.not_lt_zero _)
 | N + 1,h,j,hj=>by
  have ih:=seg (p:=p) (N:=N) fun i j a b=>h i j a (Nat.lt_succ_of_lt b)
  rw [List.range_succ,List.filter_append,Zw]
  cases q:p N with
  | true =>
   have all:(List.range N).filter p=List.range N:=List.filter_eq_self.mpr fun i hi=>h i N (Nat.le_of_lt (Ua.mp hi)) (Nat.lt_succ_self N) q
   rw [all,List.length_range,List.filter_cons_of_pos (by exact q)]
   exact ⟨fun _=>hj,fun _=>h j N (Nat.le_of_lt_succ hj) (Nat.lt_succ_self N) q⟩
  | false =>
   rw [List.filter_cons_of_neg (by rw [q]; exact Yk),List.filter_nil,List.length_nil,Nat.add_zero]
   by_cases z:j < N
   ·exact ih j z
   ·have:j=N:=by lia
    subst this
    rw [q]
    have:=List.length_filter_le p (List.range j)
    rw [List.length_range] at this
    exact ⟨fun e=>(by cases e),fun e=>absurd e (by exact absurd ‹_ < _› (Nat.not_lt_of_le ‹_›))⟩
structure WN (W:List Str) (N:Nat) (nm:Nat→Str) (b e:Nat→Nat) (r:List Nat):Prop where
 ev:SpEv N b e r
 bw:∀ i,i < N→bW W (nm i)=(b i:Int)
 ew:∀ i,i < N→eW W (nm i)=(e i:Int)
 lr:r.length=N
theorem line_wn (h:W.length=10) (hW:∀ x∈W,x∈lawWords):1≤(ddl W).length∧(ddl W).length≤5∧(ddl W).Nodup∧(∀ x∈ddl W,x∈W)∧E3 fun b e r=>WN W (ddl W).length (fun i=>(ddl W).getD i "") b e r:=by
 obtain ⟨o1,o2⟩:=ddl_order W W.length (Zf _)
 rw [List.take_length] at o1 o2
 have nd:(ddl W).Nodup:=o1.imp fun q e=>by rw [e] at q; exact absurd ‹_› (Nat.lt_irrefl _)
 have ne:W≠[]:=by intro e; rw [e] at h; cases h
 have n1:1≤(ddl W).length:=by
  obtain ⟨x,hx⟩:=List.exists_mem_of_ne_nil W ne
  exact List.length_pos_of_mem ((o2 x).mpr hx)
 have n5:(ddl W).length≤5:=nodup_le (ddl W) lawWords nd fun x hx=>hW x ((o2 x).mp hx)
 refine ⟨n1,n5,nd,fun x hx=>(o2 x).mp hx,?_⟩
 generalize hN:(ddl W).length=N at n1 n5
 have nmem:∀ i,i < N→(ddl W).getD i "" ∈ W:=fun i hi=>by
  rw [Yo,Yj (by lia)]
  exact (o2 _).mp (List.getElem_mem _)
 have ninj:∀ i j,i < N→j < N→(ddl W).getD i "" = (ddl W).getD j "" → i=j:=fun i j hi hj q=>by
  rw [Yo,Yo,Yj (by lia),Yj (by lia)] at q
  exact (List.getElem_inj nd).mp q
 obtain ⟨nm,hnm⟩:∃ nm:Nat→Str,nm=fun i=>(ddl W).getD i "" := ⟨_,rfl⟩
 have hnm':∀ i,(ddl W).getD i "" = nm i:=fun i=>by rw [hnm]
 simp only [hnm'] at nmem ninj ⊢
 obtain ⟨b,hb⟩:∃ b:Nat→Nat,b=fun i=>W.idxOf (nm i):=⟨_,rfl⟩
 obtain ⟨e,he⟩:∃ e:Nat→Nat,e=fun i=>9 - W.reverse.idxOf (nm i):=⟨_,rfl⟩
 have rl:∀ i,i < N→W.reverse.idxOf (nm i) < 10:=fun i hi=>by
  have:=List.idxOf_lt_length_iff.mpr (List.mem_reverse.mpr (nmem i hi))
  rwa [List.length_reverse,h] at this
 have ge:∀ i,i < N→W[e i]? = some (nm i):=fun i hi=>by
  have k:=rl i hi
  have g:W.reverse[W.reverse.idxOf (nm i)]? = some (nm i):=by
   rw [Yj (by rw [List.length_reverse]; lia),List.getElem_idxOf]
  rw [List.getElem?_reverse (by lia),h] at g
  rw [he]
  have:10 - 1 - W.reverse.idxOf (nm i)=9 - W.reverse.idxOf (nm i):=by exact rfl
  rw [this] at g
  exact g
 have mono:∀ i j,i < j→j < N→b i < b j:=fun i j q hj=>by
  have:=List.pairwise_iff_getElem.mp o1 i j (by lia) (by lia) q
  rw [hb]
  show W.idxOf (nm i) < W.idxOf (nm j)
  rw [← hnm' i,← hnm' j,Yo,Yo,Yj (by lia),Yj (by lia)]
  exact this
 have be:∀ o,o < N→b o≤e o:=fun o ho=>by
  have g:=ge o ho
  rcases Nat.lt_or_ge (e o) (b o) with q | q
  ·exfalso
   have z:=List.not_of_lt_findIdx (p:=fun y=>y == nm o) (xs:=W) (i:=e o) (by rw [hb] at q; exact q)
   have hlt:=(List.getElem?_eq_some_iff.mp g).1
   have hv:=(List.getElem?_eq_some_iff.mp g).2
   rw [hv] at z
   simp at z
  ·exact q
 obtain ⟨r,hr⟩:∃ r:List Nat,r=(List.range N).map fun o=>((List.range N).filter fun j=>decide (b j≤e o)).length:=⟨_,rfl⟩
 have ra:∀ o,o < N→rAt r o=((List.range N).filter fun j=>decide (b j≤e o)).length:=fun o ho=>by
  rw [hr]
  unfold rAt
  rw [Yo,Zc,List.getElem?_range ho]; rfl
 refine ⟨b,e,r,⟨mono,be,fun i j hi hj q=>?_,fun o j ho hj=>?_,fun o ho=>?_⟩,fun i hi=>?_,fun i hi=>?_,by rw [hr]; simp⟩
 ·have g1:=ge i hi
  rw [q,ge j hj] at g1
  exact (ninj j i hj hi (Zj g1)).symm
 ·rw [ra o ho,← seg (p:=fun j=>decide (b j≤e o)) (fun i j q hj p=>?_) j hj]
  ·exact decide_eq_true_iff.symm
  ·rcases Nat.lt_or_eq_of_le q with q | q
   ·have:=mono i j q hj
    have:=of_decide_eq_true p
    exact decide_eq_true (by exact Ye (Nat.le_of_lt ‹_›) ‹_›)
   ·rw [q]; exact p
 ·rw [ra o ho]
  have:=List.length_filter_le (fun j=>decide (b j≤e o)) (List.range N)
  rwa [List.length_range] at this
 ·rw [hb]; rfl
 ·have k:=rl i hi
  rw [he]
  show 9 - ((W.reverse.idxOf (nm i):Nat):Int)=((9 - W.reverse.idxOf (nm i):Nat):Int)
  lia
theorem preds_congr {N:Nat} {lt lt':Nat→Nat→Bool} (h:∀ o j,o < N→j < N→lt o j=lt' o j):∀ k,k≤N→addsP N lt k=addsP N lt' k
 | 0,_=>rfl
 | k + 1,hk=>by
  have ih:=preds_congr h k (Nat.le_of_succ_le hk)
  unfold addsP at ih ⊢
  rw [List.range_succ,List.foldl_append,List.foldl_append,ih]
  have:predsOf N lt k=predsOf N lt' k:=List.filter_congr fun o ho=>h o k (Ua.mp ho) hk
  simp only [List.foldl_cons,List.foldl_nil,this]
theorem late_congr {lt lt':Nat→Nat→Bool} (h:∀ o j,o < N→j < N→lt o j=lt' o j) (i:Nat):lateP N lt i=lateP N lt' i:=by
 have:late1 N lt i=late1 N lt' i:=by unfold late1; rw [preds_congr h N (Zf N)]
 unfold lateP
 rw [this]
structure OkV (N:Nat) (r:List Nat):Prop where
 some:∀ i,i < N→lateP N (ltR r) i=some (lateR N r i)
 perm:∀ i,i < N→(lateR N r i).Perm ((List.range N).filter fun o=>decide (rAt r i≤o))
 cA:∀ i,i < N→(∀ j,j < N→eR N r j≤eR N r i)→(ddi (fun y x=>rAt r y == rAt r x) (List.range N)).length=eR N r i + 1
 ap:∀ i,i < N→(∀ j,j < N→eR N r j≤eR N r i)→∀ k j,k < N→j < N→cmpN (lateR N r k) (ahR N r j)=(eR N r k == eR N r i && bR N r j == 0)
 cH:∀ i,i < N→(∀ j,j < N→bR N r j≤bR N r i)→(ddi (fun y x=>(ahR N r y).length == (ahR N r x).length) (List.range N)).length=bR N r i + 1
 tE:∀ i,i < N→((ddi (fun y x=>rAt r y == rAt r x) (List.range N)).filter fun k=>decide ((lateR N r k).length > (lateR N r i).length)).length=eR N r i
 tB:∀ i,i < N→((ddi (fun y x=>(ahR N r y).length == (ahR N r x).length) (List.range N)).filter fun k=>decide ((ahR N r k).length < (ahR N r i).length)).length=bR N r i
 hl:∀ i j,i < N→j < N→(ahR N r i).length=(ahR N r j).length→ahR N r i=ahR N r j
 rl:∀ i j,i < N→j < N→(lateR N r i).length=(lateR N r j).length→rAt r i=rAt r j
 aA:∀ i j,i < N→j < N→cmpN (lateR N r i) (lateR N r j)=(eR N r i == eR N r j)
 aH:∀ i j,i < N→j < N→cmpN (ahR N r i) (ahR N r j)=(bR N r i == bR N r j)
theorem okV_spec {r:List Nat} (h:okV N r=true):OkV N r:=by
 have H:=fun i (hi:i < N)=>List.all_eq_true.mp h i (Ua.mpr hi)
 simp only [Bool.and_eq_true,Bool.or_eq_true,Bool.not_eq_true',beq_iff_eq,List.all_eq_true,Ua,List.isPerm_iff] at H
 refine ⟨fun i hi=>?_,fun i hi=>(H i hi).1.1.1.1.1.2,fun i hi q=>?_,fun i hi q k j hk hj=>?_,fun i hi q=>?_,fun i hi=>(H i hi).1.1.2,fun i hi=>(H i hi).1.2,fun i j hi hj q=>?_,fun i j hi hj q=>?_,fun i j hi hj=>((H i hi).2 j hj).1.2,fun i j hi hj=>((H i hi).2 j hj).2⟩
 ·have:=(H i hi).1.1.1.1.1.1
  unfold lateR
  cases e:lateP N (ltR r) i with
  | none=>rw [e] at this; cases this
  | some l=>rfl
 ·refine (((H i hi).1.1.1.1.2).resolve_left fun z=>?_).1
  rw [List.all_eq_false] at z
  obtain ⟨j,hj,z⟩:=z
  exact z (decide_eq_true (q j (Ua.mp hj)))
 ·refine (((H i hi).1.1.1.1.2).resolve_left fun z=>?_).2 k hk j hj
  rw [List.all_eq_false] at z
  obtain ⟨j,hj,z⟩:=z
  exact z (decide_eq_true (q j (Ua.mp hj)))
 ·refine ((H i hi).1.1.1.2).resolve_left fun z=>?_
  rw [List.all_eq_false] at z
  obtain ⟨j,hj,z⟩:=z
  exact z (decide_eq_true (q j (Ua.mp hj)))
 ·have:=((H i hi).2 j hj).1.1.1
  rw [beq_iff_eq.mpr q] at this
  exact beq_iff_eq.mp this.symm
 ·have:=((H i hi).2 j hj).1.1.2
  rw [beq_iff_eq.mpr q] at this
  exact beq_iff_eq.mp this
theorem and5:∀ {d a b c e:Bool},(a && b && c && d && e)=true→a=true∧b=true∧c=true∧d=true∧e=true:=by decide
theorem all_ok:(allV 1 1 [] && allV 2 2 [] && allV 3 3 [] && allV 4 4 [] && allV 5 5 [])=true:=by decide +kernel
theorem all_N (N:Nat) (h:N=1∨N=2∨N=3∨N=4∨N=5):allV N N []=true:=by
 have A:=and5 all_ok
 rcases h with h | h | h | h | h
 ·rw [h]; exact A.1
 ·rw [h]; exact A.2.1
 ·rw [h]; exact A.2.2.1
 ·rw [h]; exact A.2.2.2.1
 ·rw [h]; exact A.2.2.2.2
theorem ok_of {b e:Nat→Nat} {r:List Nat} (V:SpEv N b e r) (l:r.length=N) (h1:1≤N) (h5:N≤5):OkV N r:=by
 have hv:∀ i,i < N→([]:List Nat).length + i + 1≤rAt r i∧rAt r i≤N:=fun i hi=>⟨by have:=V.r1 hi; simpa using this,V.rN i hi⟩
 exact okV_spec (allV_all _ (acc:=[]) (all_N N (by lia)) l (Nat.zero_add N) hv)
theorem law_reads (cs:List Int) (h:cs.length=11):lxAll 11 (Txt.join " " (lawQ cs)).cps.toList (some " ")=some (lawW cs)∧(Txt.join " " (lawQ cs)).length≤9000∧JoinOk " " (lawQ cs)=true:=by
 obtain ⟨ps,hps⟩:∃ ps:List (Nat×Nat),ps=(List.range 10).map fun i=>(wix (cs.getD i 0),kix (cs.getD 10 0) i):=⟨_,rfl⟩
 have l10:ps.length=10:=by rw [hps]; simp
 have ok:∀ p∈ps,okP p:=fun p hp=>by
  rw [hps] at hp
  obtain ⟨i,_,rfl⟩:=Yx.mp hp
  exact ⟨wix_lt _,kix_lt _ _⟩
 have eQ:lawQ cs=ps.map wrP:=by rw [hps,List.map_map]; rfl
 have eW:lawW cs=ps.map wdP:=by
  rw [hps,List.map_map]
  unfold lawW
  apply List.ext_getElem
  ·simp [h]
  ·intro i h1 h2
   have hi:i < 10:=by simpa using h2
   simp only [List.getElem_map,List.getElem_take,List.getElem_range,Function.comp_apply,wdP]
   rw [show cs.getD i 0=cs[i]'(by lia) by rw [Yo,Yj (by lia)]; rfl]
 obtain ⟨z1,z2⟩:=lx_law ps (by intro e; rw [e] at l10; cases l10) ok
 rw [l10] at z1 z2
 have ej:Txt.join " " (ps.map wrP)=Str.join " " (ps.map wrP):=StrLaws.glued_eq_join _ _
 rw [eQ,eW,ej]
 refine ⟨z1,Ye z2 (by decide),joinOk_of_weight ?_ (by decide)⟩
 have:∀ qs:List (Nat×Nat),(∀ p∈qs,okP p)→((qs.map wrP).map (·.length)).sum≤11 * qs.length:=by
  intro qs
  induction qs with
  | nil=>intro _; simp
  | cons q qs ih =>
   intro hq
   have h1:=(lx_end (hq q Yc)).2
   have h2:=ih fun p hp=>hq p (Yb _ hp)
   simp only [Zq,List.sum_cons,List.length_cons]
   lia
 have:=this ps ok
 rw [Yp,l10] at *
 lia
section
open PySem.Builtin PySem.Builtin.Re
noncomputable def quoChk (x:Str):Bool:=decide (x.length≤100) && decide ((quo x).length≤11) && decide (quo x=plainOf x) && (match ((reM x).runFor reTurnSteps).outcome with
 | some .matched=>true
 | some .failed=>true
 | _=>false)
theorem quo_all:lawWords.all quoChk=true:=by decide +kernel
theorem drive1 (m:Sre.M) (h:(m.runFor reTurnSteps).outcome.isSome=true):reDrive (2 ^ 64) m=pure (m.runFor reTurnSteps):=by
 show reDrive (18446744073709551615 + 1) m=_
 rw [reDrive]
 simp only [h,if_true]
theorem quo_ok (x:Str) (hx:x∈lawWords):(QuoOk x∧quo x=plainOf x)∧(quo x).length≤11:=by
 have:=List.all_eq_true.mp quo_all x hx
 unfold quoChk at this
 simp only [Bool.and_eq_true,decide_eq_true_eq] at this
 obtain ⟨⟨⟨h1,h2⟩,h3⟩,h4⟩:=this
 refine ⟨⟨⟨h1,fun _=>⟨(reM x).runFor reTurnSteps,drive1 _ ?_,?_⟩,Ye h2 (by decide)⟩,h3⟩,h2⟩
 ·cases e:((reM x).runFor reTurnSteps).outcome with
  | none=>rw [e] at h4; cases h4
  | some o=>rfl
 ·unfold reB
  cases e:((reM x).runFor reTurnSteps).outcome with
  | none=>rw [e] at h4; cases h4
  | some o=>cases o<;>first | rfl | (rw [e] at h4; cases h4)
theorem line_len (NM:List Str) (LB LE:List Int) (n:Nat):(lineP NM LB LE n).length≤10 * n:=by
 induction n with
 | zero=>exact Zf _
 | succ n ih =>
  rw [lineP_succ,Zw,Zw]
  have h1:(lawWords.filter (wcond NM LB n)).length≤5:=List.length_filter_le _ _
  have h2:(lawWords.filter (wcond NM LE n)).length≤5:=List.length_filter_le _ _
  lia
theorem nodup_map {nm:Nat→Str} (inj:∀ i j,i < N→j < N→nm i=nm j→i=j) {l:List Nat} (h:l.Nodup) (hl:∀ i∈l,i < N):(l.map nm).Nodup:=by
 refine List.pairwise_map.mpr (List.Pairwise.imp_of_mem (fun {a b} ha hb q e=>q (inj a b (hl a ha) (hl b hb) e)) h)
theorem hp_of (W:List Str) (h:W.length=10) (hW:∀ x∈W,x∈lawWords):E6 fun late key LB LE' RA RH=>HP W (ddl W) late key LB LE' RA RH∧JoinOk " " ((lineP (ddl W) LB LE' (ddl W).length).map quo)=true:=by
 obtain ⟨n1,n5,nd,sub,b,e,r,wn⟩:=line_wn h hW
 have V:=ok_of wn.ev wn.lr n1 n5
 have ninj:∀ i j,i < (ddl W).length→j < (ddl W).length→(ddl W).getD i "" = (ddl W).getD j "" → i=j:=fun i j hi hj q=>by
  rw [Yo,Yo,Yj hi,Yj hj] at q
  exact (List.getElem_inj nd).mp q
 obtain ⟨nm,hnm⟩:∃ nm:Nat→Str,nm=fun i=>(ddl W).getD i "" := ⟨_,rfl⟩
 obtain ⟨N,hN⟩:∃ N,N=(ddl W).length:=⟨_,rfl⟩
 have hlt:∀ i,i < N→∀ j∈lateR N r i,j < N:=fun i hi j hj=>filter_lt ((hN ▸ V.perm i (hN ▸ hi)).mem_iff.mp hj)
 have lnd:∀ i,i < N→(lateR N r i).Nodup:=fun i hi=>(hN ▸ (V.perm i (hN ▸ hi)):(lateR N r i).Perm _).nodup_iff.mpr (List.Pairwise.filter _ List.nodup_range)
 have ea:∀ i,i < N→aheadP (lateR N r) N i=ahR N r i:=fun i hi=>List.filter_congr fun o ho=>by
  have ho:=Ua.mp ho
  rw [Bool.eq_iff_iff,List.contains_iff_mem,(hN ▸ V.perm o (hN ▸ ho):(lateR N r o).Perm _).mem_iff,List.mem_filter,Ua]
  simp [hi]
 have aht:∀ i,∀ j∈ahR N r i,j < N:=fun i j hj=>filter_lt hj
 have ahn:∀ i,(ahR N r i).Nodup:=fun i=>List.Pairwise.filter _ List.nodup_range
 obtain ⟨RA,hRA⟩:∃ RA:Nat→List Str,∀ i,(RA i).Perm ((lateR N r i).map nm)∧sortedS (RA i)=true:=⟨fun i=>(sort_ex _).choose,fun i=>(sort_ex ((lateR N r i).map nm)).choose_spec⟩
 obtain ⟨RH,hRH⟩:∃ RH:Nat→List Str,∀ i,(RH i).Perm ((ahR N r i).map nm)∧sortedS (RH i)=true:=⟨fun i=>(sort_ex _).choose,fun i=>(sort_ex ((ahR N r i).map nm)).choose_spec⟩
 have lRA:∀ i,(RA i).length=(lateR N r i).length:=fun i=>by rw [(hRA i).1.length_eq,Yp]
 have lRH:∀ i,(RH i).length=(ahR N r i).length:=fun i=>by rw [(hRH i).1.length_eq,Yp]
 have ninj':∀ i j,i < N→j < N→nm i=nm j→i=j:=fun i j hi hj q=>ninj i j (hN ▸ hi) (hN ▸ hj) (by rw [hnm] at q; exact q)
 have V':OkV N r:=hN ▸ V
 have dA:ddl (rowsS RA N)=(ddi (fun y x=>rAt r y == rAt r x) (List.range N)).map RA:=ddl_rel RA _ _ fun i hi j hj=>by
  have hi:=Ua.mp hi
  have hj:=Ua.mp hj
  rw [Bool.eq_iff_iff,beq_iff_eq,beq_iff_eq]
  constructor
  ·intro q
   have:=congrArg List.length q
   rw [lRA,lRA] at this
   exact V'.rl i j hi hj this
  ·intro q
   refine sorted_unique (hRA i).2 (hRA j).2 ((hRA i).1.trans (.trans (.map _ ?_) (hRA j).1.symm))
   exact (V'.perm i hi).trans (q ▸ (V'.perm j hj).symm)
 have dH:ddl (rowsS RH N)=(ddi (fun y x=>(ahR N r y).length == (ahR N r x).length) (List.range N)).map RH:=ddl_rel RH _ _ fun i hi j hj=>by
  have hi:=Ua.mp hi
  have hj:=Ua.mp hj
  rw [Bool.eq_iff_iff,beq_iff_eq,beq_iff_eq]
  constructor
  ·intro q
   have:=congrArg List.length q
   rw [lRH,lRH] at this
   exact this
  ·intro q
   refine sorted_unique (hRH i).2 (hRH j).2 ((hRH i).1.trans (.trans (.of_eq ?_) (hRH j).1.symm))
   rw [V'.hl i j hi hj q]
 obtain ⟨LB,hLB⟩:∃ LB:List Int,LB=(List.range N).map (fun j=>((bR N r j:Nat):Int)):=⟨_,rfl⟩
 obtain ⟨LE',hLE⟩:∃ LE':List Int,LE'=(List.range N).map (fun j=>((eR N r j:Nat):Int)):=⟨_,rfl⟩
 have gB:∀ i,i < N→LB.getD i 0=(bR N r i:Nat):=fun i hi=>by rw [hLB,Yo,Zc,List.getElem?_range hi]; rfl
 have gE:∀ i,i < N→LE'.getD i 0=(eR N r i:Nat):=fun i hi=>by rw [hLE,Yo,Zc,List.getElem?_range hi]; rfl
 have lB:LB.length=N:=by rw [hLB]; simp
 have lE:LE'.length=N:=by rw [hLE]; simp
 have ie:∀ x y:Nat,(((x:Nat):Int) == ((y:Nat):Int))=(x == y):=fun x y=>by
  rw [Bool.eq_iff_iff,beq_iff_eq,beq_iff_eq]; lia
 have mx:∀ (K:List Int) (f:Nat→Nat) M,K.length=N→(∀ i,i < N→K.getD i 0=(f i:Nat))→MaxIs K M→∃ i,i < N∧M=(f i:Nat)∧∀ j,j < N→f j≤f i:=fun K f M l g ⟨⟨i,hi,q⟩,a⟩=>by
  rw [l] at hi
  refine ⟨i,hi,by rw [← q,g i hi],fun j hj=>?_⟩
  have:=a j (l ▸ hj)
  rw [g j hj,← q,g i hi] at this
  exact Int.ofNat_le.mp ‹_›
 have sw:∀ i,i < N→bW W (nm i)=(b i:Int):=fun i hi=>by rw [hnm]; exact wn.bw i (hN ▸ hi)
 have se:∀ i,i < N→eW W (nm i)=(e i:Int):=fun i hi=>by rw [hnm]; exact wn.ew i (hN ▸ hi)
 have ev:SpEv N b e r:=hN ▸ wn.ev
 have lt:∀ o j,o < N→j < N→decide (eW W (nm o) < bW W (nm j))=ltR r o j:=fun o j ho hj=>by
  rw [se o ho,sw j hj]
  unfold ltR
  have:=ev.rr o j ho hj
  exact decide_eq_decide.mpr (by lia)
 have evc:∀ i,i < N + N→evC N (fun i=>bW W (nm i)) (fun i=>eW W (nm i)) i=evC N (fun i=>(b i:Int)) (fun i=>(e i:Int)) i:=fun i hi=>by
  unfold evC
  by_cases q:i < N
  ·rw [if_pos q,if_pos q]; show (bW W (nm i),_,_)=_; rw [sw i q]
  ·rw [if_neg q,if_neg q]; show (eW W (nm (i - N)),_,_)=_; rw [se (i - N) (by exact sb5 ‹_› ‹_›)]
 have cmA:∀ i j,i < N→j < N→cmpS (ddl ((lateR N r i).map nm)) (ddl ((lateR N r j).map nm))=(LE'.getD i 0 == LE'.getD j 0):=fun i j hi hj=>by
  rw [ddl_nodup (nodup_map ninj' (lnd i hi) (hlt i hi)),ddl_nodup (nodup_map ninj' (lnd j hj) (hlt j hj)),cmp_map ninj' _ _ (hlt i hi) (hlt j hj),V'.aA i j hi hj,gE i hi,gE j hj,ie]
 have cmH:∀ i j,i < N→j < N→cmpS (ddl ((ahR N r i).map nm)) (ddl ((ahR N r j).map nm))=(LB.getD i 0 == LB.getD j 0):=fun i j hi hj=>by
  rw [ddl_nodup (nodup_map ninj' (ahn i) (aht i)),ddl_nodup (nodup_map ninj' (ahn j) (aht j)),cmp_map ninj' _ _ (aht i) (aht j),V'.aH i j hi hj,gB i hi,gB j hj,ie]
 refine ⟨lateR N r,keyE N b e,LB,LE',RA,RH,?_,?_⟩
 ·have hnm':∀ i,(ddl W).getD i "" = nm i:=fun i=>by rw [hnm]
  constructor<;>try simp only [hnm',← hN]
  ·exact hN ▸ n1
  ·exact Ye (hN ▸ n5) (by decide)
  ·exact nd
  ·exact h
  ·exact sub
  ·intro i hi
   rw [late_congr lt i]
   exact V'.some i hi
  ·intro i hi
   refine (V'.perm i hi).trans (.of_eq (List.filter_congr fun o ho=>?_))
   have ho:=Ua.mp ho
   rw [sw o ho,se i hi]
   have:=ev.rr i o hi ho
   exact decide_eq_decide.mpr (by lia)
  ·intro i j hi hj
   rw [evc i hi,evc j hj]
   exact ev.klex i j hi hj
  ·exact ev.k01 (hN ▸ n1)
  ·exact ev.kinj
  ·intro p hp hs
   rw [hLB,hLE]
   exact ev_fold ev p hp hs
  ·exact lB
  ·exact lE
  ·exact fun i _=>(hRA i).1
  ·exact fun i _=>(hRA i).2
  ·intro i hi
   rw [ea i hi]
   exact (hRH i).1
  ·exact fun i _=>(hRH i).2
  ·intro M hM
   obtain ⟨i,hi,rfl,q⟩:=mx LE' (eR N r) M lE gE hM
   rw [dA,Yp,V'.cA i hi q]; rfl
  ·intro M hM
   obtain ⟨i,hi,rfl,q⟩:=mx LB (bR N r) M lB gB hM
   rw [dH,Yp,V'.cH i hi q]; rfl
  ·rw [hLE]
   refine List.map_congr_left fun i hi=>?_
   have hi:=Ua.mp hi
   rw [dA,List.filter_map,Yp]
   congr 1
   rw [← V'.tE i hi]
   congr 1
   refine List.filter_congr fun k _=>?_
   show decide ((RA k).length > _)=_
   rw [lRA]
  ·rw [hLB]
   refine List.map_congr_left fun i hi=>?_
   have hi:=Ua.mp hi
   rw [dH,List.filter_map,Yp,ea i hi]
   congr 1
   rw [← V'.tB i hi]
   congr 1
   refine List.filter_congr fun k _=>?_
   show decide ((RH k).length < _)=_
   rw [lRH]
  ·exact fun j i hj hi=>cmA i j (by exact Nat.lt_trans ‹_› ‹_›) hj
  ·intro j i hj hi
   rw [ea i (by exact Nat.lt_trans ‹_› ‹_›),ea j hj]
   exact cmH i j (by exact Nat.lt_trans ‹_› ‹_›) hj
  ·intro i j M hi hj hM
   obtain ⟨m,hm,rfl,q⟩:=mx LE' (eR N r) M lE gE hM
   rw [ea j hj,ddl_nodup (nodup_map ninj' (lnd i hi) (hlt i hi)),ddl_nodup (nodup_map ninj' (ahn j) (aht j)),cmp_map ninj' _ _ (hlt i hi) (aht j),V'.ap m hm q i j hi hj,gE i hi,gB j hj,ie]
   have:=ie (bR N r j) 0
   rw [← this]; rfl
 ·have ll:=line_len (ddl W) LB LE' (ddl W).length
  have lw:=line_words (ddl W) LB LE' (ddl W).length
  generalize lineP (ddl W) LB LE' (ddl W).length=ss at ll lw
  refine joinOk_of_weight ?_ (by decide)
  have:∀ ss:List Str,(∀ x∈ss,x∈lawWords)→((ss.map quo).map (·.length)).sum≤11 * ss.length:=by
   intro ss
   induction ss with
   | nil=>intro _; simp
   | cons q qs ih =>
    intro hq
    have h1:=(quo_ok q (hq q Yc)).2
    have h2:=ih fun p hp=>hq p (Yb _ hp)
    simp only [Zq,List.sum_cons,List.length_cons]
    lia
  have:=this ss lw
  rw [Yp]
  lia
end
section
set_option maxHeartbeats 0
noncomputable def FNS:List (Addr×FuncData):=[
 (52,fdF 4 "_deduplicate" .none .none (.ref 45)),(59,fdF 5 "_deduplicate_unhashable" .none .none .none),(66,fdF 6 "_compare_args_orderless" .none .none .none),(205,fdF 16 "_index" .none .none .none),
 (886,{ fdF 33 "split" .none .none .none with defaults:=.ref 879 }),(893,fdF 34 "join" .none .none .none),(901,fdF 37 "quote" .none .none .none),
 (908,fdF 39 "_law_cells" .none .none .none),(915,fdF 40 "_law_words" .none .none .none),(922,fdF 41 "_law_writings" .none .none .none),(927,fdF 42 "_law_met" .none .none .none),(934,fdF 43 "_law_kept_are" .none .none .none),
 (939,fdF 44 "_law_late" .none .none .none),(944,fdF 45 "_law_ranks" .none .none .none),(951,fdF 46 "_law_refused" .none .none .none),(958,fdF 47 "_law_told_alike" .none .none .none),(965,fdF 48 "_law_told_apart" .none .none .none),
 (970,fdF 49 "_law_line" .none .none .none),(975,fdF 50 "_law_holds" .none .none .none),(980,fdF 51 "law" .none .none .none),
 (81,mdF 10 1 "__init__" "_NodeInfo.__init__" .none .none .none),(118,mdF 12 0 "__init__" "TopologicalSorter.__init__" .none .none (.ref 111)),(125,mdF 12 1 "_get_nodeinfo" "TopologicalSorter._get_nodeinfo" .none .none .none),
 (132,mdF 12 2 "add" "TopologicalSorter.add" .none .none .none),(137,mdF 12 3 "prepare" "TopologicalSorter.prepare" .none .none .none),(144,mdF 12 4 "get_ready" "TopologicalSorter.get_ready" .none .none .none),
 (151,mdF 12 5 "is_active" "TopologicalSorter.is_active" .none .none .none),(165,mdF 12 7 "done" "TopologicalSorter.done" .none .none .none),(172,mdF 12 8 "_find_cycle" "TopologicalSorter._find_cycle" .none .none .none),
 (232,mdF 18 1 "__new__" "IOBase.__new__" .none .none .none),(509,mdF 22 1 "__init__" "StringIO.__init__" .none .none (.ref 502)),(516,mdF 22 2 "__translated" "StringIO.__translated" .none .none .none),(523,mdF 22 3 "__check" "StringIO.__check" .none .none .none),
 (685,mdF 22 25 "read" "StringIO.read" .none .none (.ref 678)),(805,mdF 32 1 "punctuation_chars" "shlex.punctuation_chars" .none .none .none),(798,mdF 32 0 "__init__" "shlex.__init__" .none .none (.ref 791)),
 (835,mdF 32 5 "get_token" "shlex.get_token" .none .none .none),(842,mdF 32 6 "read_token" "shlex.read_token" .none .none .none),(864,mdF 32 9 "__iter__" "shlex.__iter__" .none .none .none),(871,mdF 32 10 "__next__" "shlex.__next__" .none .none .none)]
noncomputable def KA:List Addr:=[0,1,2,3,4,45,84,85,86,87,88,111,181,182,190,191,234,235,236,261,262,492,502,678,738,739,791,806,873,874,879,894]++FNS.map (·.1)++FNS.map (fun x=>x.1 - 1)
noncomputable def alv (d:Data):Bool:=match d with | .freed=>false | _=>true
noncomputable def pickT (s:SharedT):Frag:=KA.filterMap fun a=>match s.tree.get a with
 | some o=>if Nat.blt a s.n && alv o.data then some (a,o) else none
 | none=>none
noncomputable def isNsK (K:Frag) (a:Addr):Bool:=match K.lookup a with
 | some o=>(match o.data with | .dict es _=>es.all (fun e=>match e.key with | .str _ _=>true | _=>false) | _=>false)
 | none=>false
noncomputable def nsK (K:Frag) (a:Addr) (x:Str):Option Value:=match K.lookup a with
 | some o=>(match o.data with | .dict es _=>nsFind es x | _=>none)
 | none=>none
noncomputable def dSeq (x:Data):Option (Array Value):=by
 cases x
 case seq v _=>exact some v
 all_goals exact none
noncomputable def dFld (x:Data):Option (Array Value):=by
 cases x
 case fields v=>exact some v
 all_goals exact none
noncomputable def dCls (x:Data):Option ClassData:=by
 cases x
 case cls c=>exact some c
 all_goals exact none
noncomputable def dFun (x:Data):Option FuncData:=by
 cases x
 case func f=>exact some f
 all_goals exact none
noncomputable def vRef (x:Value):Option Addr:=by
 cases x
 case ref a=>exact some a
 all_goals exact none
noncomputable def vStr (x:Value):Option Str:=by
 cases x
 case str s _=>exact some s
 all_goals exact none
theorem dSeq_some {d:Data} {v} (h:dSeq d=some v):∃ k,d=.seq v k:=by
 cases d
 case seq x k=>exact ⟨k,congrArg (Data.seq · k) (Zj h)⟩
 all_goals exact nS h
theorem dFld_some {d:Data} {v} (h:dFld d=some v):d=.fields v:=by
 cases d
 case fields x=>exact congrArg _ (Zj h)
 all_goals exact nS h
theorem dCls_some {d:Data} {v} (h:dCls d=some v):d=.cls v:=by
 cases d
 case cls x=>exact congrArg _ (Zj h)
 all_goals exact nS h
theorem dFun_some {d:Data} {v} (h:dFun d=some v):d=.func v:=by
 cases d
 case func x=>exact congrArg _ (Zj h)
 all_goals exact nS h
theorem vRef_some {d:Value} {v} (h:vRef d=some v):d=.ref v:=by
 cases d
 case ref x=>exact congrArg _ (Zj h)
 all_goals exact nS h
theorem vStr_some {d:Value} {v} (h:vStr d=some v):∃ t,d=.str v t:=by
 cases d
 case str x k=>exact ⟨k,congrArg (Value.str · k) (Zj h)⟩
 all_goals exact nS h
noncomputable def fnK (K:Frag) (f:Addr):Option FuncData:=(K.lookup f).bind fun o=>dFun o.data
noncomputable def norm (fd:FuncData):FuncData:={ fd with code:=.none,pyModule:=.none }
noncomputable def crK (K:Frag) (f:Addr):Bool:=((fnK K f).bind fun fd=>(vRef fd.code).bind fun c=>(K.lookup c).bind fun o=>(dFld o.data).bind fun vs=>(vs[1]?).bind fun v=>(vStr v).map fun n=>n == fd.qualname) == some true
noncomputable def tupK (K:Frag) (a:Addr):Option (Value×Option Addr×List Value×Array (Option Value)):=(K.lookup a).bind fun o=>(dSeq o.data).map fun vs=>(o.cls,o.dict,vs.toList,o.slots)
noncomputable def vBool (x:Value):Option Bool:=by
 cases x
 case bool s=>exact some s
 all_goals exact none
theorem vBool_some {d:Value} {v} (h:vBool d=some v):d=.bool v:=by
 cases d
 case bool x=>exact congrArg _ (Zj h)
 all_goals exact nS h
noncomputable def sigK (a b c d:Value):Bool:=((sOf a).bind fun s=>(iOf b).bind fun i=>(vBool c).bind fun v=>(iOf d).map fun k=>(s,i,v,k)).isSome
noncomputable def codeK (K:Frag) (a:Addr):Option (Value×Option Value×Bool):=(K.lookup a).bind fun o=>(dFld o.data).map fun vs=>(o.cls,vs[11]?,sigK (vs.getD 18 .none) (vs.getD 7 .none) (vs.getD 9 .none) (vs.getD 10 .none))
noncomputable def ioK (K:Frag) (a:Addr):Option (Value×List Value×List Value×List Str×Option Value×Bool×Bool):=(K.lookup a).bind fun o=>(dCls o.data).map fun c=>(o.cls,c.mro,c.bases,c.slotNames,(o.slots[4]?).join,c.abstract,c.hasDel)
noncomputable def gN:List Str:=["StopIteration", "TypeError", "ValueError", "bool", "dict", "int", "isinstance", "iter", "len", "list", "max", "object", "range", "set", "sorted", "str", "tuple", "type"]
noncomputable def bV:List Value:=[.type "StopIteration",.type "TypeError",.type "ValueError",.type "bool",.type "dict",.type "int",.builtin "isinstance",.builtin "iter",.builtin "len",.type "list",.builtin "max",.type "object",.type "range",.type "set",.builtin "sorted",.type "str",.type "tuple",.type "type"]
noncomputable def gV:List (Str×Value):=[("_deduplicate",.ref 52),("_deduplicate_unhashable",.ref 59),("_compare_args_orderless",.ref 66),("_index",.ref 205),("split",.ref 886),("join_shlex",.ref 893),("quote",.ref 901),
 ("_law_cells",.ref 908),("_law_words",.ref 915),("_law_writings",.ref 922),("_law_met",.ref 927),("_law_kept_are",.ref 934),("_law_late",.ref 939),("_law_ranks",.ref 944),("_law_refused",.ref 951),("_law_told_alike",.ref 958),("_law_told_apart",.ref 965),
 ("_law_line",.ref 970),("_law_holds",.ref 975),("law",.ref 980),("_NODE_OUT",.int (-1) 366),("_NODE_DONE",.int (-2) 369),("_NodeInfo",.ref 85),("TopologicalSorter",.ref 182),("BytesIO",.ref 492),("StringIO",.ref 739),("deque",.type "collections.deque"),("shlex",.ref 874),("_find_unsafe",.ref 894),("__builtins__",.ref 4)]
noncomputable def oga (x:Str):Option Value:=if x == ("__getattribute__" : Str) then some (.builtin "object.__getattribute__") else if x == ("__setattr__" : Str) then some (.builtin "object.__setattr__") else none
noncomputable def fV:List (Addr×Str×Option Value):=(([85,182,739,874].flatMap fun c=>(["__getattribute__", "__getattr__", "__setattr__"]:List Str).map fun x=>(c,x,oga x)):List (Addr×Str×Option Value)) ++
 ([(85, "__init__",some (.ref 81)),(85, "node",some (.ref 86)),(85, "npredecessors",some (.ref 87)),(85, "successors",some (.ref 88)),
 (182, "_node2info",none),(182, "_ready_nodes",none),(182, "_npassedout",none),(182, "_nfinished",none),
 (182, "__init__",some (.ref 118)),(182, "_get_nodeinfo",some (.ref 125)),(182, "add",some (.ref 132)),(182, "prepare",some (.ref 137)),(182, "get_ready",some (.ref 144)),(182, "is_active",some (.ref 151)),(182, "done",some (.ref 165)),(182, "_find_cycle",some (.ref 172)),
 (739, "_StringIO__newline",none),(739, "_StringIO__buf",none),(739, "_StringIO__pos",none),(739, "_StringIO__check",some (.ref 523)),(739, "read",some (.ref 685)),(739, "__init__",some (.ref 509)),(739, "_StringIO__translated",some (.ref 516)),
 (874, "punctuation_chars",some (.ref 806)),(874, "read_token",some (.ref 842)),(874, "get_token",some (.ref 835)),(874, "__next__",some (.ref 871)),(874, "__iter__",some (.ref 864)),(874, "__init__",some (.ref 798))]:List (Addr×Str×Option Value)) ++
 ((["instream", "infile", "posix", "eof", "commenters", "wordchars", "whitespace", "whitespace_split", "quotes", "escape", "escapedquotes", "state", "pushback", "lineno", "debug", "token", "filestack", "source", "_punctuation_chars", "__len__", "__length_hint__"]:List Str).map fun x=>(874,x,none))
noncomputable def tyV:List Addr:=[81,118,125,132,137,144,151,165,172,509,516,523,685,798,835,842,864,871]
noncomputable abbrev FactT:Type:=((Nat×Option Obj)×List Bool)×(List (Option Value)×List (Option Value)×List (Option Value))×(Option Value×Bool)×List (Option FuncData)×Option Value×List (Option (Option Value))×List (Option Value)×List (Option Value×Option Nat)×List (Option (Bool×Bool)×Bool)×List Bool×(Option (List Value)×Option (Option Value))×(Option CFound×Option CFound)×(Option Bool×Option Bool×Option (Option Value)×Option Bool×Bool)×List (Option (Value×List Value×List Value×List Str×Option Value×Bool×Bool))×Option Value×List (Option (Value×Option Addr×List Value×Array (Option Value)))×Option (Value×Option Addr×List Int×Array (Option Value))×(Option Obj×Option Obj×Option Obj)×Option (Value×Option Value×Bool)
noncomputable def facts (s:SharedT) (K:Frag):FactT :=
 (((s.n,s.tree.get 888),[isNsK K 0,isNsK K 2,isNsK K 3,(nsK K 2 "sys.recursionlimit").isNone,(K.lookup 1).isSome,FNS.all fun x=>crK K x.1]),
 (gN.map (nsK K 3),gN.map (nsK K 0),gV.map fun x=>nsK K 3 x.1),(nsK K 45 "unhashable_fallback",isNsK K 45),FNS.map (fun x=>(fnK K x.1).map norm),(fnK K 893).map (·.code),
 fV.map (fun x=>findIn K (.ref x.1) x.2.1),tyV.map (fun f=>typeIn K (.ref f)),[86,87,88].map (fun p=>(typeIn K (.ref p),slotIn K p 85)),
 [85,182,739,874].map (fun C=>((clsIn K C).map fun cd=>(cd.hasDict,onlyObject cd.mro),keepIn K (.ref C))),[makesIn K 85,makesIn K 182,makesIn K 874],
 (recIn K 236 "staticmethod",(recIn K 806 "property").map (·.head?)),(findCls K (.ref 739) (.type "type") "__new__",findCls K (.type "object") (.type "type") "__new__"),
 (mroIn K 739 (.ref 739),mroIn K 739 (.type "object"),specialIn K (.ref 739) "__call__",instIn K (.ref 739) (.type "type"),readsIn K 739 (.type "type")),
 [739,262,235].map (ioK K),(K.lookup 492).map (·.cls),[111,502,678,791,879].map (tupK K),(tupK K 190).map (fun x=>(x.1,x.2.1,x.2.2.1.map Builtin.Re.reRawOf,x.2.2.2)),(K.lookup 191,K.lookup 894,K.lookup 4),codeK K 892)
noncomputable def want:FactT :=
 (((981,some { cls:=.none,data:=.fields #[] }),[true,true,true,true,true,true]),
 (gN.map fun _=>none,bV.map some,gV.map fun x=>some x.2),(some (.bool false),true),FNS.map (fun x=>some x.2),some (.ref 892),
 fV.map (fun x=>some x.2.2),tyV.map (fun _=>some (.type "function")),[(some (.type "member_descriptor"),some 0),(some (.type "member_descriptor"),some 1),(some (.type "member_descriptor"),some 2)],
 [(some (false,true),true),(some (true,true),true),(some (true,true),true),(some (true,true),true)],[true,true,true],
 (some [.ref 232],some (some (.ref 805))),(some (.get (.builtin "staticmethod.__get__") (.ref 236) .none (.ref 739)),some (.val (.builtin "object.__new__"))),
 (some true,some true,some (some (.builtin "type.__call__")),some true,true),
 [some (.type "type",[.ref 739,.ref 262,.ref 235,.type "object"],[.ref 262],[],some .none,false,false),some (.type "type",[.ref 262,.ref 235,.type "object"],[.ref 235],[],some .none,false,false),some (.type "type",[.ref 235,.type "object"],[.type "object"],[],some .none,false,false)],
 some (.type "type"),[some (.type "tuple",none,[.none],#[]),some (.type "tuple",none,[.str "" 969,.str "\n" 970],#[]),some (.type "tuple",none,[.int (-1) 1162],#[]),some (.type "tuple",none,[.none,.none,.bool false,.bool false],#[]),some (.type "tuple",none,[.bool false,.bool true],#[])],
 some (.type "tuple",none,reCode,#[]),
 (some { cls:=.type "re.Pattern",data:=.fields #[.str "[^\\w@%+=:,./-]" 546,.int 256 583,.int 0 0,.none,.none,.ref 190,.int 0 0] },some { cls:=.type "builtin_function_or_method",data:=.fields #[.builtin "re.Pattern.search",.ref 191] },some { cls:=.type "module",dict:=some 0,data:=.plain }),some (.type "code",some (.ref 888),true))
theorem factsK (w:World):((headRun w).map fun x=>facts x.2.2.1 (pickT x.2.2.1))=some want:=by
 unfold headRun fencedOpening
 rw [PySem.W.Fast.te10110043849684766642,PySem.W.Fast.te14364793385576792824,PySem.W.Fast.te10274390034422433532,PySem.W.Fast.te14289696077712309145]
 kernel_rfl
end
theorem at_of {l:List α} {f:α→β} {r:List β} (E:l.map f=r) {x:α} {y:β} (h1:l[i]? = some x) (h2:r[i]? = some y):f x=y:=by
 have:=congrArg (fun l=>l[i]?) E
 simp only [Zc,h1,h2,Option.map_some] at this
 exact Zj this
theorem mem_lookup {o:Obj} {a:Addr}:∀ {K:Frag},K.lookup a=some o→(a,o)∈K
 | [],h=>by cases h
 | (b,x)::K,h=>by
  rw [List.lookup_cons] at h
  cases e:a == b with
  | true=>rw [e] at h; cases h; rw [beq_iff_eq.mp e]; exact Yc
  | false=>rw [e] at h; exact Yb _ (mem_lookup h)
theorem abs_get {s:SharedT} (h:s.tree.get a=some o) (n:a < s.n) (l:alv o.data=true):s.abs.heap.get? a=some o:=by
 show (absHeap s.tree s.n s.life).get? a=some o
 have e:=absHeap_at s.tree s.n s.life a
 rw [if_pos n,h] at e
 unfold Heap.get?
 rw [e]
 obtain ⟨c,d,dt,sl⟩:=o
 cases dt<;>first | rfl | cases l
theorem pick_in {s:SharedT} (h:(pickT s).lookup a=some o):s.abs.heap.get? a=some o∧a∈KA:=by
 obtain ⟨b,hb,e⟩:=List.mem_filterMap.mp (mem_lookup h)
 cases g:s.tree.get b with
 | none=>rw [g] at e; cases e
 | some x =>
  rw [g] at e
  dsimp only at e
  split at e
  ·rename_i q
   cases e
   rw [Bool.and_eq_true] at q
   exact ⟨abs_get g (Yw q.1) q.2,hb⟩
  ·cases e
theorem ka_ne:(888:Addr) ∉ KA:=by decide
structure FF (K:Frag) (H0:Heap):Prop where
 X:K.In H0
 top:H0.objs.size=981
 n0:isNsK K 0=true
 n2:isNsK K 2=true
 n3:isNsK K 3=true
 lim:nsK K 2 "sys.recursionlimit" = none
 sys:(K.lookup 1).isSome=true
 cr:∀ x∈FNS,crK K x.1=true
 g0:gN.map (nsK K 3)=gN.map fun _=>none
 b1:gN.map (nsK K 0)=bV.map some
 g1:gV.map (fun x=>nsK K 3 x.1)=gV.map fun x=>some x.2
 kd:nsK K 45 "unhashable_fallback" = some (.bool false)
 kn:isNsK K 45=true
 fn:∀ x∈FNS,(fnK K x.1).map norm=some x.2
 jc:(fnK K 893).map (·.code)=some (.ref 892)
 fi:fV.map (fun x=>findIn K (.ref x.1) x.2.1)=fV.map fun x=>some x.2.2
 ty:tyV.map (fun f=>typeIn K (.ref f))=tyV.map fun _=>some (.type "function")
 sl:[86,87,88].map (fun p=>(typeIn K (.ref p),slotIn K p 85))=[(some (.type "member_descriptor"),some 0),(some (.type "member_descriptor"),some 1),(some (.type "member_descriptor"),some 2)]
 cl:[85,182,739,874].map (fun C=>((clsIn K C).map fun cd=>(cd.hasDict,onlyObject cd.mro),keepIn K (.ref C)))=[(some (false,true),true),(some (true,true),true),(some (true,true),true),(some (true,true),true)]
 mks:[makesIn K 85,makesIn K 182,makesIn K 874]=[true,true,true]
 re:(recIn K 236 "staticmethod",(recIn K 806 "property").map (·.head?))=(some [.ref 232],some (some (.ref 805)))
 fc:(findCls K (.ref 739) (.type "type") "__new__",findCls K (.type "object") (.type "type") "__new__")=(some (.get (.builtin "staticmethod.__get__") (.ref 236) .none (.ref 739)),some (.val (.builtin "object.__new__")))
 nw:(mroIn K 739 (.ref 739),mroIn K 739 (.type "object"),specialIn K (.ref 739) "__call__",instIn K (.ref 739) (.type "type"),readsIn K 739 (.type "type"))=(some true,some true,some (some (.builtin "type.__call__")),some true,true)
 io:[739,262,235].map (ioK K)=[some (.type "type",[.ref 739,.ref 262,.ref 235,.type "object"],[.ref 262],[],some .none,false,false),some (.type "type",[.ref 262,.ref 235,.type "object"],[.ref 235],[],some .none,false,false),some (.type "type",[.ref 235,.type "object"],[.type "object"],[],some .none,false,false)]
 cb:(K.lookup 492).map (·.cls)=some (.type "type")
 tu:[111,502,678,791,879].map (tupK K)=[some (.type "tuple",none,[.none],#[]),some (.type "tuple",none,[.str "" 969,.str "\n" 970],#[]),some (.type "tuple",none,[.int (-1) 1162],#[]),some (.type "tuple",none,[.none,.none,.bool false,.bool false],#[]),some (.type "tuple",none,[.bool false,.bool true],#[])]
 rc:(tupK K 190).map (fun x=>(x.1,x.2.1,x.2.2.1.map Builtin.Re.reRawOf,x.2.2.2))=some (.type "tuple",none,reCode,#[])
 ob:(K.lookup 191,K.lookup 894,K.lookup 4)=(some { cls:=.type "re.Pattern",data:=.fields #[.str "[^\\w@%+=:,./-]" 546,.int 256 583,.int 0 0,.none,.none,.ref 190,.int 0 0] },some { cls:=.type "builtin_function_or_method",data:=.fields #[.builtin "re.Pattern.search",.ref 191] },some { cls:=.type "module",dict:=some 0,data:=.plain })
 co:codeK K 892=some (.type "code",some (.ref 888),true)
theorem ff_of (w:World):∃ K,FF K (wipe (endS w).heap [888])∧(endS w).heap.get? 888=some { cls:=.none,data:=.fields #[] }:=by
 obtain ⟨x,h1,h2⟩:=Zt.mp (factsK w)
 have e:endS w=x.2.2.1.abs:=by unfold endS; rw [h1]; rfl
 generalize x.2.2.1=s at e h2
 rw [e]
 clear e h1
 have c {α:Type} (f:FactT→α):f (facts s (pickT s))=f want:=congrArg f h2
 have a3:s.n=981:=c fun x=>x.1.1.1
 have a4:s.tree.get 888=some { cls:=.none,data:=.fields #[] }:=c fun x=>x.1.1.2
 refine ⟨pickT s,⟨fun a o h=>?_,?_,c fun x=>x.1.2.getD 0 true,c fun x=>x.1.2.getD 1 true,c fun x=>x.1.2.getD 2 true,?_,c fun x=>x.1.2.getD 4 true,fun x hx=>List.all_eq_true.mp (c fun x=>x.1.2.getD 5 true) x hx,c fun x=>x.2.1.1,c fun x=>x.2.1.2.1,c fun x=>x.2.1.2.2,c fun x=>x.2.2.1.1,c fun x=>x.2.2.1.2,fun x hx=>List.map_inj_left.mp (show FNS.map (fun x=>(fnK (pickT s) x.1).map norm)=FNS.map (fun x=>some x.2) from c fun x=>x.2.2.2.1) x hx,c fun x=>x.2.2.2.2.1,c fun x=>x.2.2.2.2.2.1,c fun x=>x.2.2.2.2.2.2.1,c fun x=>x.2.2.2.2.2.2.2.1,c fun x=>x.2.2.2.2.2.2.2.2.1,c fun x=>x.2.2.2.2.2.2.2.2.2.1,c fun x=>x.2.2.2.2.2.2.2.2.2.2.1,c fun x=>x.2.2.2.2.2.2.2.2.2.2.2.1,c fun x=>x.2.2.2.2.2.2.2.2.2.2.2.2.1,c fun x=>x.2.2.2.2.2.2.2.2.2.2.2.2.2.1,c fun x=>x.2.2.2.2.2.2.2.2.2.2.2.2.2.2.1,c fun x=>x.2.2.2.2.2.2.2.2.2.2.2.2.2.2.2.1,c fun x=>x.2.2.2.2.2.2.2.2.2.2.2.2.2.2.2.2.1,c fun x=>x.2.2.2.2.2.2.2.2.2.2.2.2.2.2.2.2.2.1,c fun x=>x.2.2.2.2.2.2.2.2.2.2.2.2.2.2.2.2.2.2⟩,?_⟩
 ·obtain ⟨h1,h2⟩:=pick_in h
  rw [wipe_out _ (fun m=>ka_ne (by rw [← Zu.mp m]; exact h2))]
  exact h1
 ·show ((absHeap s.tree s.n s.life).update 888 free).objs.size=981
  have:(absHeap s.tree s.n s.life).objs.size=981:=(absHeap_size _ _ _).trans a3
  show ((absHeap s.tree s.n s.life).objs.modify 888 free).size=981
  rw [Array.size_modify,this]
 ·cases q:nsK (pickT s) 2 "sys.recursionlimit" with
  | none=>rfl
  | some v =>
   have f4:(nsK (pickT s) 2 "sys.recursionlimit").isNone=true:=c fun x=>x.1.2.getD 3 true
   rw [q] at f4; cases f4
 ·exact abs_get a4 (by rw [a3]; decide) rfl
end
section
variable {K:Frag}
theorem ns_of {a:Addr} (X:K.In H0) (h:isNsK K a=true):H0.Ns a (nsK K a):=by
 unfold isNsK at h
 cases e:K.lookup a with
 | none=>rw [e] at h; cases h
 | some o =>
  rw [e] at h
  have g:=X a o e
  have i:H0.isNs a=true:=by unfold Heap.isNs; rw [g]; exact h
  have n:=Heap.Ns.of_isNs i
  have:H0.nsMap a=nsK K a:=by funext x; unfold Heap.nsMap nsK; rw [g,e]; rfl
  rwa [this] at n
noncomputable abbrev mgK (K:Frag):Str→Option Value:=nsK K 3
noncomputable abbrev mbK (K:Frag):Str→Option Value:=nsK K 0
namespace FF
theorem bs (F:FF K H0):Bs H0 (mgK K) (mbK K) where
 g:=ns_of F.X F.n3
 b:=ns_of F.X F.n0
 lim:=⟨_,ns_of F.X F.n2,F.lim⟩
 sys:=by
  obtain ⟨o,e⟩:=Option.isSome_iff_exists.mp F.sys
  have:=F.X _ _ e
  intro q
  rw [show sysModules=1 from rfl,this] at q; cases q
theorem n (F:FF K H0) {i:Nat} {x:Str} (h1:autoParam (gN[i]? = some x) tR) (h2:autoParam ((gN.map fun _=>(none:Option Value))[i]? = some none) tR):mgK K x=none:=at_of F.g0 h1 h2
theorem b (F:FF K H0) {i:Nat} {x:Str} {v:Value} (h1:autoParam (gN[i]? = some x) tR) (h2:autoParam ((bV.map some)[i]? = some (some v)) tR):mbK K x=some v:=at_of F.b1 h1 h2
theorem g (F:FF K H0) {i:Nat} {x:Str} {v:Value} (h1:autoParam (gV[i]? = some (x,v)) tR):mgK K x=some v:=at_of F.g1 (i:=i) h1 (by rw [Zc,h1]; rfl)
theorem f (F:FF K H0) {i:Nat} {f:Addr} {fd:FuncData} (h:FNS[i]? = some (f,fd)):E2 fun cd pm=>Fn H0 f { fd with code:=cd,pyModule:=pm }:=by
 have hm:=Yr h
 have h1:=F.fn _ hm
 have h2:=F.cr _ hm
 obtain ⟨fd',e1,e2⟩:=Zt.mp h1
 have e1':fnK K f=some fd':=e1
 have e2':norm fd'=fd:=e2
 have e:fd' = { fd with code:=fd'.code,pyModule:=fd'.pyModule }:=by rw [← e2']; rfl
 refine ⟨fd'.code,fd'.pyModule,?_,?_⟩
 ·rw [← e]
  obtain ⟨o,q,d⟩:=Zy.mp e1'
  exact ⟨o,F.X _ _ q,dFun_some d⟩
 ·rw [← e]
  have h3:=eq_of_beq h2
  rw [e1',Option.bind_some] at h3
  obtain ⟨c,hc,h3⟩:=Zy.mp h3
  obtain ⟨o,ho,h3⟩:=Zy.mp h3
  obtain ⟨vs,hd,h3⟩:=Zy.mp h3
  obtain ⟨v,hv,h3⟩:=Zy.mp h3
  obtain ⟨nm,hn,h4⟩:=Zt.mp h3
  obtain ⟨t,rfl⟩:=vStr_some hn
  have h3:nm=fd'.qualname:=eq_of_beq h4
  exact ⟨c,o,vs,t,vRef_some hc,F.X _ _ ho,dFld_some hd,by rw [hv,h3]⟩
theorem fa (F:FF K H0) {i:Nat} {C:Addr} {x:Str} {v:Option Value} (h1:autoParam (fV[i]? = some (C,x,v)) tR):findIn K (.ref C) x=some v:=at_of F.fi (i:=i) h1 (by rw [Zc,h1]; rfl)
theorem tf (F:FF K H0) {i:Nat} {f:Addr} (h1:autoParam (tyV[i]? = some f) tR):typeIn K (.ref f)=some (.type "function"):=at_of F.ty (i:=i) h1 (by rw [Zc,h1]; rfl)
theorem m (F:FF K H0) (i j:Nat) {C f:Addr} {x:Str} (h1:autoParam (fV[i]? = some (C,x,some (.ref f))) tR) (h2:autoParam (tyV[j]? = some f) tR):MethK K C x f:=⟨F.fa h1,F.tf h2⟩
theorem tp (F:FF K H0) (i:Nat) {a:Addr} {vs:List Value} (h1:autoParam ([111,502,678,791,879][i]? = some a) tR) (h2:autoParam ([some (Value.type "tuple",(none:Option Addr),[Value.none],(#[]:Array (Option Value))),some (.type "tuple",none,[.str "" 969,.str "\n" 970],#[]),some (.type "tuple",none,[.int (-1) 1162],#[]),some (.type "tuple",none,[.none,.none,.bool false,.bool false],#[]),some (.type "tuple",none,[.bool false,.bool true],#[])][i]? = some (some (.type "tuple",none,vs,#[]))) tR):Is H0 a (TupP vs):=by
 have:=at_of F.tu h1 h2
 obtain ⟨o,e,q⟩:=Zy.mp this
 refine ⟨o,F.X _ _ e,?_⟩
 obtain ⟨us,h3,q⟩:=Zt.mp q
 obtain ⟨k,h3⟩:=dSeq_some h3
 obtain ⟨c,d,dt,sl⟩:=o
 cases h3
 cases q
 exact ⟨k,by simp⟩
theorem ck (F:FF K H0) (i j:Nat) {C:Addr} {hd:Bool} (h1:autoParam ([85,182,739,874][i]? = some C) tR) (h2:autoParam ([(some (false,true),true),(some (true,true),true),(some (true,true),true),(some (true,true),true)][i]? = some (some (hd,true),true)) tR)
  (a1:autoParam (fV[j]? = some (C,("__getattribute__" : Str),some (Value.builtin "object.__getattribute__"))) tR) (a2:autoParam (fV[j + 1]? = some (C,("__getattr__" : Str),none)) tR) (a3:autoParam (fV[j + 2]? = some (C,("__setattr__" : Str),some (Value.builtin "object.__setattr__"))) tR):ClsK K C hd∧keepIn K (.ref C)=true:=by
 have:=at_of F.cl h1 h2
 obtain ⟨e1,e2⟩:=Prod.mk.inj this
 obtain ⟨cd,e3,e4⟩:=Zt.mp e1
 obtain ⟨e5,e6⟩:=Prod.mk.inj e4
 exact ⟨⟨⟨cd,e3,e5,e6⟩,F.fa a1,F.fa a2,F.fa a3⟩,e2⟩
theorem sk (F:FF K H0) (i j:Nat) {p k:Nat} {x:Str} (h1:autoParam ([86,87,88][i]? = some p) tR) (h2:autoParam ([(some (Value.type "member_descriptor"),some 0),(some (.type "member_descriptor"),some 1),(some (.type "member_descriptor"),some 2)][i]? = some (some (.type "member_descriptor"),some k)) tR) (a:autoParam (fV[j]? = some (85,x,some (.ref p))) tR):SlotK K 85 x p k:=by
 have:=at_of F.sl h1 h2
 obtain ⟨e1,e2⟩:=Prod.mk.inj this
 exact ⟨F.fa a,e1,e2⟩
theorem mk3 (F:FF K H0):makesIn K 85=true∧makesIn K 182=true∧makesIn K 874=true:=by
 have:=F.mks
 simp only [List.cons.injEq] at this
 exact ⟨this.1,this.2.1,this.2.2.1⟩
theorem nr (F:FF K H0):NamesR (mgK K) (mbK K):=⟨F.n (i:=12),F.b (i:=12),F.n (i:=8),F.b (i:=8)⟩
theorem node (F:FF K H0):NodeK K H0 85 where
 k:=(F.ck 0 0).1
 mak:=F.mk3.1
 ini:=by obtain ⟨cd,pm,h⟩:=F.f (i:=20) rfl; exact ⟨_,_,_,cd,pm,F.m 12 0,h⟩
 s0:=⟨86,F.sk 0 13⟩
 s1:=⟨87,F.sk 1 14⟩
 s2:=⟨88,F.sk 2 15⟩
theorem sorter (F:FF K H0):SorterK K 182:=⟨(F.ck 1 3).1,F.fa (i:=16),F.fa (i:=17),F.fa (i:=18),F.fa (i:=19)⟩
theorem srt (F:FF K H0) (nv:Nat→Value) (ns:Nat→Str) (N:Nat) (nm:Nm nv ns N):SrtEnv2 K H0 (mgK K) (mbK K) 85 182 nv ns N where
 bs:=F.bs
 X0:=F.X
 nk:=F.node
 hkp:=(F.ck 0 0).2
 sk:=F.sorter
 hCN:=F.g (i:=22)
 nm:=nm
 gn:=by obtain ⟨cd,pm,h⟩:=F.f (i:=22) rfl; exact ⟨_,_,_,cd,pm,F.m 21 2,h⟩
 n0:=F.n (i:=8)
 n1:=F.b (i:=8)
 b0:=F.n (i:=3)
 b1:=F.b (i:=3)
 t0:=F.n (i:=16)
 t1:=F.b (i:=16)
 out:=⟨366,F.g (i:=20)⟩
 dn:=⟨369,F.g (i:=21)⟩
theorem cyc (F:FF K H0):CycN (mgK K) (mbK K):=⟨F.n (i:=0),F.b (i:=0),F.n (i:=7),F.b (i:=7),F.n (i:=13),F.b (i:=13)⟩
theorem late (F:FF K H0):LateN H0 K (mgK K) (mbK K) 182 where
 cs:=F.g (i:=23)
 kp:=(F.ck 1 3).2
 mks:=F.mk3.2.1
 ini:=by obtain ⟨cd,pm,h⟩:=F.f (i:=21) rfl; exact ⟨_,_,_,cd,pm,_,F.m 20 1,h,F.tp 0⟩
 add:=by obtain ⟨cd,pm,h⟩:=F.f (i:=23) rfl; exact ⟨_,_,_,cd,pm,F.m 22 3,h⟩
 prep:=by obtain ⟨cd,pm,h⟩:=F.f (i:=24) rfl; exact ⟨_,_,_,cd,pm,F.m 23 4,h⟩
 rdy:=by obtain ⟨cd,pm,h⟩:=F.f (i:=25) rfl; exact ⟨_,_,_,cd,pm,F.m 24 5,h⟩
 act:=by obtain ⟨cd,pm,h⟩:=F.f (i:=26) rfl; exact ⟨_,_,_,cd,pm,F.m 25 6,h⟩
 done:=by obtain ⟨cd,pm,h⟩:=F.f (i:=27) rfl; exact ⟨_,_,_,cd,pm,F.m 26 7,h⟩
 cyc:=by obtain ⟨cd,pm,h⟩:=F.f (i:=28) rfl; exact ⟨_,_,_,cd,pm,F.m 27 8,h⟩
 i0:=F.n (i:=6)
 i1:=F.b (i:=6)
 so0:=F.n (i:=14)
 so1:=F.b (i:=14)
 l0:=F.n (i:=9)
 l1:=F.b (i:=9)
theorem lawE (F:FF K H0):LawE H0 (mgK K) (mbK K) K 85 182 where
 bs:=F.bs
 nr:=F.nr
 cy:=F.cyc
 ln:=F.late
 srt:=F.srt
 so0:=F.n (i:=14)
 so1:=F.b (i:=14)
 late:=by obtain ⟨cd,pm,h⟩:=F.f (i:=12) rfl; exact ⟨_,_,cd,pm,_,F.g (i:=12),h⟩
 ranks:=by obtain ⟨cd,pm,h⟩:=F.f (i:=13) rfl; exact ⟨_,_,cd,pm,_,F.g (i:=13),h⟩
theorem lawE2 (F:FF K H0):LawE2 H0 (mgK K) (mbK K) where
 unh:=by obtain ⟨cd,pm,h⟩:=F.f (i:=1) rfl; exact ⟨_,_,cd,pm,_,h,⟨F.g (i:=1),F.n (i:=9),F.b (i:=9),F.n (i:=2),F.b (i:=2)⟩⟩
 ded:=by obtain ⟨cd,pm,h⟩:=F.f (i:=0) rfl; exact ⟨_,_,cd,pm,_,_,F.g (i:=0),h,ns_of F.X F.kn,F.kd⟩
 cmp:=by obtain ⟨cd,pm,h⟩:=F.f (i:=2) rfl; exact ⟨_,_,cd,pm,_,F.g (i:=2),h⟩
 nd:=⟨F.n (i:=4),F.b (i:=4)⟩
 te0:=F.n (i:=1)
 te1:=F.b (i:=1)
 m0:=F.n (i:=10)
 m1:=F.b (i:=10)
 words:=by obtain ⟨cd,pm,h⟩:=F.f (i:=8) rfl; exact ⟨_,_,cd,pm,_,F.g (i:=8),h⟩
 wrt:=by obtain ⟨cd,pm,h⟩:=F.f (i:=9) rfl; exact ⟨_,_,cd,pm,_,F.g (i:=9),h⟩
 met:=by obtain ⟨cd,pm,h⟩:=F.f (i:=10) rfl; exact ⟨_,_,cd,pm,_,F.g (i:=10),h⟩
 refu:=by obtain ⟨cd,pm,h⟩:=F.f (i:=14) rfl; exact ⟨_,_,cd,pm,_,F.g (i:=14),h⟩
 alike:=by obtain ⟨cd,pm,h⟩:=F.f (i:=15) rfl; exact ⟨_,_,cd,pm,_,F.g (i:=15),h⟩
 apart:=by obtain ⟨cd,pm,h⟩:=F.f (i:=16) rfl; exact ⟨_,_,cd,pm,_,F.g (i:=16),h⟩
 line:=by obtain ⟨cd,pm,h⟩:=F.f (i:=17) rfl; exact ⟨_,_,cd,pm,_,F.g (i:=17),h⟩
theorem lawE3 (F:FF K H0):LawE3 H0 (mgK K) (mbK K) where
 kept:=by obtain ⟨cd,pm,h⟩:=F.f (i:=11) rfl; exact ⟨_,_,cd,pm,_,F.g (i:=11),h⟩
 cells:=by obtain ⟨cd,pm,h⟩:=F.f (i:=7) rfl; exact ⟨_,_,cd,pm,_,F.g (i:=7),h⟩
 holds:=by obtain ⟨cd,pm,h⟩:=F.f (i:=18) rfl; exact ⟨_,_,cd,pm,_,F.g (i:=18),h⟩
 nk:=⟨F.n (i:=6),F.b (i:=6)⟩
 l0:=F.n (i:=9)
 l1:=F.b (i:=9)
end FF
end
section
variable {K:Frag}
namespace FF
theorem lexK (F:FF K H0):LexK K H0 874 where
 k:=(F.ck 3 9).1
 a0:=F.fa (i:=41)
 a1:=F.fa (i:=42)
 a2:=F.fa (i:=43)
 a3:=F.fa (i:=44)
 a4:=F.fa (i:=45)
 a5:=F.fa (i:=46)
 a6:=F.fa (i:=47)
 a7:=F.fa (i:=48)
 a8:=F.fa (i:=49)
 a9:=F.fa (i:=50)
 a10:=F.fa (i:=51)
 a11:=F.fa (i:=52)
 a12:=F.fa (i:=53)
 a13:=F.fa (i:=54)
 a14:=F.fa (i:=55)
 a15:=F.fa (i:=56)
 a16:=F.fa (i:=57)
 a17:=F.fa (i:=58)
 a18:=F.fa (i:=59)
 pc:=by
  obtain ⟨cd,pm,h⟩:=F.f (i:=34) rfl
  obtain ⟨l,e1,e2⟩:=Zt.mp (Prod.mk.inj F.re).2
  cases l with
  | nil=>cases e2
  | cons v rest=>cases e2; exact ⟨806,805,rest,_,_,cd,pm,F.fa (i:=35),e1,h⟩
theorem lxE (F:FF K H0):LxE H0 (mgK K) (mbK K) K 874 739 where
 bs:=F.bs
 X0:=F.X
 lk:=F.lexK
 sk:=⟨(F.ck 2 6).1,F.fa (i:=28),F.fa (i:=29),F.fa (i:=30)⟩
 nx:=⟨F.n (i:=17),F.b (i:=17),F.n (i:=5),F.b (i:=5),F.n (i:=3),F.b (i:=3),F.n (i:=8),F.b (i:=8)⟩
 rk:=⟨(by obtain ⟨cd,pm,h⟩:=F.f (i:=3) rfl; exact ⟨_,_,cd,pm,_,F.g (i:=3),h⟩),(by obtain ⟨cd,pm,h⟩:=F.f (i:=32) rfl; exact ⟨_,_,_,cd,pm,F.m 31 11,h⟩)⟩
 rd:=by obtain ⟨cd,pm,h⟩:=F.f (i:=33) rfl; exact ⟨_,_,_,cd,pm,_,_,F.m 32 12,h,F.tp 2⟩
theorem sigK_true {a b c d:Value} (h:sigK a b c d=true):E7 fun s t i u v k x=>a=.str s t∧b=.int i u∧c=.bool v∧d=.int k x:=by
 obtain ⟨q,h⟩:=Option.isSome_iff_exists.mp h
 obtain ⟨s,h1,h⟩:=Zy.mp h
 obtain ⟨i,h2,h⟩:=Zy.mp h
 obtain ⟨v,h3,h⟩:=Zy.mp h
 obtain ⟨k,h4,_⟩:=Zt.mp h
 obtain ⟨t,h1⟩:=sOf_some h1
 obtain ⟨u,h2⟩:=iOf_some h2
 obtain ⟨x,h4⟩:=iOf_some h4
 exact ⟨s,t,i,u,v,k,x,h1,h2,vBool_some h3,h4⟩
theorem ioc {a:Addr} {T:String} {mro bases:List Value} {sn:List Str} {sl:Option Value} {ab hd:Bool} (F:FF K H0) (h:ioK K a=some (.type T,mro,bases,sn,sl,ab,hd)):E3 fun d c s=>H0.get? a=some ⟨.type T,d,.cls c,s⟩∧c.mro=mro∧c.bases=bases∧c.slotNames=sn∧(s[4]?).join=sl∧c.abstract=ab∧c.hasDel=hd:=by
 obtain ⟨o,e,q⟩:=Zy.mp h
 have:=F.X _ _ e
 obtain ⟨cd,h3,q⟩:=Zt.mp q
 have h3:=dCls_some h3
 obtain ⟨c,d,dt,s⟩:=o
 cases h3
 simp only [Prod.mk.injEq] at q
 obtain ⟨rfl,r⟩:=q
 exact ⟨d,cd,s,this,r⟩
theorem lexC (F:FF K H0):LexC H0 (mgK K) (mbK K) K 874 739 262 235 492 where
 io:={
  ic:={
   i:=F.ioc (at_of F.io (i:=0) rfl rfl)
   t:=by obtain ⟨d,c,s,e,h1,h2,h3,h4,_⟩:=F.ioc (at_of F.io (i:=1) rfl rfl); exact ⟨d,c,s,e,h1,h2,h3,h4⟩
   o:=(by obtain ⟨d,c,s,e,h1,h2,h3,h4,_⟩:=F.ioc (at_of F.io (i:=2) rfl rfl); exact ⟨d,c,s,e,h1,h2,h3,h4⟩)}
  n:=by
   obtain ⟨e1,h⟩:=Prod.mk.inj F.nw
   obtain ⟨e2,h⟩:=Prod.mk.inj h
   obtain ⟨e3,h⟩:=Prod.mk.inj h
   obtain ⟨e4,e5⟩:=Prod.mk.inj h
   exact ⟨e1,e2,e3,e4,e5⟩
  gb:=F.g (i:=24)
  gs:=F.g (i:=25)
  o0:=F.n (i:=11)
  o1:=F.b (i:=11)
  b:=by
   obtain ⟨o,e,q⟩:=Zt.mp F.cb
   exact ⟨o,F.X _ _ e,by rw [q]; intro z; injection z with z; revert z; decide⟩
  ne:=by decide
  top:=by
   rw [F.top]
   obtain ⟨cd,pm,h⟩:=F.f (i:=19) rfl
   obtain ⟨o,e,_⟩:=h.1
   intro z
   rw [show (981 - 1:Nat)=980 from rfl,e] at z; cases z
  ob:=(Prod.mk.inj F.fc).2
  nw:=(by obtain ⟨cd,pm,h⟩:=F.f (i:=29) rfl; exact ⟨_,_,_,_,_,cd,pm,(Prod.mk.inj F.fc).1,(Prod.mk.inj F.re).1,h⟩)}
 si:=by obtain ⟨cd,pm,h⟩:=F.f (i:=30) rfl; exact ⟨_,_,_,cd,pm,_,_,_,F.m 33 9,h,F.tp 1⟩
 tr:=by obtain ⟨cd,pm,h⟩:=F.f (i:=31) rfl; exact ⟨_,_,_,cd,pm,F.m 34 10,h⟩
 kS:=(F.ck 2 6).2
 kL:=(F.ck 3 9).2
 mL:=F.mk3.2.2
 ny:=⟨F.n (i:=17),F.b (i:=17),F.n (i:=15),F.b (i:=15),F.n (i:=6),F.b (i:=6),F.n (i:=9),F.b (i:=9)⟩
 dq:=F.g (i:=26)
 li:=by obtain ⟨cd,pm,h⟩:=F.f (i:=35) rfl; exact ⟨_,_,_,cd,pm,_,F.m 40 13,h,F.tp 3⟩
theorem lexM (F:FF K H0):LexM H0 (mgK K) (mbK K) K 874 where
 rt:=by obtain ⟨cd,pm,h⟩:=F.f (i:=37) rfl; exact ⟨_,_,_,cd,pm,F.m 36 15,h⟩
 gt:=by obtain ⟨cd,pm,h⟩:=F.f (i:=36) rfl; exact ⟨_,_,_,cd,pm,F.m 37 14,h⟩
 nx:=by obtain ⟨cd,pm,h⟩:=F.f (i:=39) rfl; exact ⟨_,_,_,cd,pm,F.m 38 17,h⟩
 it:=by obtain ⟨cd,pm,h⟩:=F.f (i:=38) rfl; exact ⟨_,_,_,cd,pm,F.m 39 16,h⟩
 si0:=F.n (i:=0)
 si1:=F.b (i:=0)
theorem lexI (F:FF K H0):LexI K 874:=⟨F.fa (i:=60),F.fa (i:=61)⟩
theorem reK (F:FF K H0):ReK H0 (mgK K):=by
 obtain ⟨e1,h⟩:=Prod.mk.inj F.ob
 obtain ⟨e2,_⟩:=Prod.mk.inj h
 obtain ⟨x,e3,q⟩:=Zt.mp F.rc
 obtain ⟨c,d,vs,sl⟩:=x
 obtain ⟨o,e4,q2⟩:=Zy.mp e3
 simp only [Prod.mk.injEq] at q
 obtain ⟨rfl,rfl,q3,rfl⟩:=q
 refine ⟨894,191,190,vs,F.g (i:=28),⟨_,F.X _ _ e2,rfl⟩,⟨_,F.X _ _ e1,_,_,_,_,_,rfl⟩,⟨o,F.X _ _ e4,?_⟩,q3⟩
 obtain ⟨us,h3,q2⟩:=Zt.mp q2
 obtain ⟨k,h3⟩:=dSeq_some h3
 obtain ⟨c,d,dt,s⟩:=o
 cases h3
 cases q2
 exact ⟨k,by simp⟩
theorem join (F:FF K H0):∃ pm,Fn H0 893 (fdF 34 "join" (.ref 892) pm .none):=by
 obtain ⟨cd,pm,h⟩:=F.f (i:=5) rfl
 obtain ⟨fd,e1,e2⟩:=Zt.mp F.jc
 obtain ⟨o,e3,e4⟩:=h.1
 unfold fnK at e1
 cases q:K.lookup 893 with
 | none=>rw [q] at e1; cases e1
 | some o' =>
  rw [q] at e1
  have:=F.X _ _ q
  rw [e3] at this
  cases this
  rw [Option.bind_some,e4] at e1
  cases e1
  have e2:cd=.ref 892:=e2
  subst e2
  exact ⟨pm,h⟩
theorem joinK (F:FF K H0):JoinK H0 (mgK K) (mbK K) 892 888 901 where
 bs:=F.bs
 re:=F.reK
 kcc:=by
  obtain ⟨o,e,q⟩:=Zy.mp F.co
  refine ⟨o,F.X _ _ e,?_⟩
  obtain ⟨vs,h3,q⟩:=Zt.mp q
  have h3:=dFld_some h3
  obtain ⟨c,d,dt,s⟩:=o
  cases h3
  simp only [Prod.mk.injEq] at q
  obtain ⟨rfl,q2,q3⟩:=q
  obtain ⟨_,_,_,_,_,_,_,h1,h2,h3,h4⟩:=sigK_true q3
  exact ⟨rfl,vs,_,_,_,_,_,_,_,rfl,q2,h1,h2,h3,h4⟩
 ne:=by decide
 kq:=F.g (i:=6)
 kfq:=by obtain ⟨cd,pm,h⟩:=F.f (i:=6) rfl; exact ⟨_,cd,pm,_,h⟩
 bi:=⟨4,_,F.g (i:=29),by decide,F.X _ _ (Prod.mk.inj (Prod.mk.inj F.ob).2).2,rfl,rfl,rfl⟩
end FF
theorem ints_of {ns:List Int} {vs:List Value} (h:IntsAre vs ns):Ints vs ns:=by
 induction h with
 | nil=>rfl
 | cons n t _ ih=>unfold Ints at *; rw [Zq,Zq,ih]; rfl
theorem lawCall:LawCall:=zW_law fun s1 hd' ho' fa b vs ns mg' keeps hsz hb hob hns hlaw hI hlen hlay hg=>by
 obtain ⟨K,F,tab⟩:=ff_of w
 rw [← H0_eq] at F
 have low:∀ a o,H0.get? a=some o→s1.heap.get? a=some o:=fun a o e=>keeps a o (wipe_some (H0_eq ▸ e)).2
 have hl:mgK K "law" = some (.ref fa):=(Heap.Ns.agree hns (F.bs.g.keeps low) "law").symm.trans hlaw
 have e980:fa=980:=by
  have:=F.g (i:=19)
  rw [hl] at this
  injection this with this; injection this
 subst e980
 obtain ⟨cd,pm,hf⟩:=F.f (i:=19) rfl
 obtain ⟨cs,ps,hs⟩:=F.f (i:=4) rfl
 obtain ⟨pj,hj⟩:=F.join
 have hf:Fn H0 980 (fdF 51 "law" cd pm .none):=hf
 have hs:Fn H0 886 { fdF 33 "split" cs ps .none with defaults:=.ref 879 }:=hs
 have t888:=keeps 888 _ tab
 obtain ⟨h,g,d',t,os'⟩:=s1
 have hd':d'=d:=hd'
 have ho':os'=os:=ho'
 subst hd' ho'
 have n888:H0.get? 888=none:=H0_eq ▸ wipe_in _ Yc
 have M:Lump H0 (adr []) h [(888,TabP #[])]:=⟨fun x hx=>by rw [Zu.mp hx]; exact ⟨_,t888,rfl⟩,fun x _ m=>absurd m List.not_mem_nil,fun x hx=>by rw [Zu.mp hx]; exact n888,List.nodup_cons.mpr ⟨fun m=>absurd m List.not_mem_nil,List.nodup_nil⟩⟩
 have rm:Rm callerA (0 + 15):=⟨rfl,by decide,by decide⟩
 have em:=mg_eq F.bs.g
 have eb:=mb_eq F.bs.b
 have G1:=F.lawE
 have G2:=F.lawE2
 have G3:=F.lawE3
 have G4:=F.joinK
 have G5:=F.g (i:=5)
 have G6:=F.lxE
 have G7:=F.lexC
 have G8:=F.lexM
 have G9:=F.g (i:=4)
 have Ga:=F.g (i:=27)
 rw [em] at G1 G2 G3 G4 G5 G6 G7 G8 G9 Ga
 rw [eb] at G1 G2 G3 G4 G6 G7 G8
 refine wpAny_call (law_call (n:=0) (kk:=11) (fr:=[]) rm ⟨rfl,fun _ m=>absurd m List.not_mem_nil⟩ (fun _ m=>absurd m List.not_mem_nil) G1 G2 G3 G4 G5 hj G6 G7 G8 F.lexI G9 hs (F.tp 4) Ga F.lexC.io.top low hf M ⟨⟨_,hob,0,rfl⟩,fun m=>absurd m List.not_mem_nil⟩ (ints_of hI) (by exact Ye hlen (by decide)) law_reads hp_of (fun x hx=>(quo_ok x hx).1) fun h' t' ps S=>?_)
 refine ⟨rfl,?_,rfl,?_⟩
 ·obtain ⟨o,e,cls,vs',file,tf,flags,tg,inF,text,tt,c2,c3,_⟩:=F.joinK.kcc
  have e1:=low _ _ e
  have kp:∀ b o,b≠888→h.get? b=some o→h'.get? b=some o:=fun b o n e=>(S.kp b o e fun m=>n (Zu.mp m)).same (fun m=>absurd m List.not_mem_nil)
  obtain ⟨o2,e2,rfl⟩:=S.has _ Yc
  exact OldK.step_table (OldK.refl h) (c₀:=892) (c:=892) (P:=888) (ps₀:=#[]) (ps:=#[]) (more:=ps) ⟨⟨o,vs',e1,cls,c2,c3⟩,t888⟩ ⟨⟨o,vs',e1,cls,c2,c3⟩,t888⟩ ⟨⟨o,vs',kp _ _ (by decide) e1,cls,c2,c3⟩,by rw [Array.empty_append]; exact e2⟩ (fun b o n e=>kp b o n e) (by decide)
 ·have hg:g=#[]:=hg
  subst hg
  exact AllBare.empty.push rfl
end
end
end Mine
theorem PySem.Challenge.cw_il0195_01_holds : PySem.Challenge.rw_il0195_01.Holds :=
  Mine.holds_of Mine.said Mine.lawCall
