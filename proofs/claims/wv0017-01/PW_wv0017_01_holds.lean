import PyProof.Rows.All
import Wide.All
import OpenK.AllK
import Wide.FinOn
import KE.KEqDict
import PySem.Challenge.RW_wv0017_01
set_option Elab.async false
set_option linter.all false
set_option maxRecDepth 100000
set_option compiler.extract_closed false
set_option genInjectivity false
set_option genSizeOf false
open PySem PyProof.Rows PySem.W PySem.Calls
namespace Mine
theorem dk {p : Prop} (h : p := by decide +kernel) : p := h
theorem Xi {p : Prop} (h : ¬p → False) : p := Classical.byContradiction h
theorem nS {α : Type _} {x : α} {p : Prop} (h : none = some x) : p := nomatch h
theorem sN {α : Type _} {x : α} {p : Prop} (h : some x = none) : p := nomatch h
theorem tF {p : Prop} (h : true = false) : p := nomatch h
theorem fT {p : Prop} (h : false = true) : p := nomatch h
theorem Z5 {h : PySem.Heap} {a : PySem.Addr} (t : ¬ a < h.objs.size) : h.get? a = none := by
  cases e : h.get? a with
  | none => rfl
  | some o => exact absurd (PySem.Heap.lt_size e) t
theorem neA {h : PySem.Heap} {a b : PySem.Addr} {o : PySem.Obj} (e : h.get? a = some o) (n : h.get? b = none) : a ≠ b := fun z => nS (n.symm.trans (z ▸ e))
theorem Yc {α : Type _} {x y : Option α} (k : ∀ o, x = some o → y = some o) (e : y = none) : x = none := by
  cases q : x with
  | none => rfl
  | some o => have := k o q; rw [e] at this; cases this
theorem gq {α : Type} {M : PySem.Model} {A : PySem.Around} {c : PySem.Sem α} {Q : α → PySem.Shared → Prop} {E : PySem.Value → PySem.Shared → Prop} {s : PySem.Shared} (h : ∀ Q' : α → PySem.Shared → Prop, (∀ v s', Q v s' → Q' v s') → PySem.wpAny M A c Q' (fun _ _ => False) s) : PySem.wpAny M A c Q E s :=
  PySem.wpAny_mono (h Q fun _ _ h => h) (fun _ _ h => h) fun _ _ h => h.elim
theorem ex2 {A0 A1 : Type _} {p : A0 → A1 → Prop} (a : A0) (b : A1) (h : p a b) : ∃ a b, p a b := ⟨a, b, h⟩
theorem ex3 {A0 A1 A2 : Type _} {p : A0 → A1 → A2 → Prop} (a : A0) (b : A1) (c : A2) (h : p a b c) : ∃ a b c, p a b c := ⟨a, b, c, h⟩
theorem ex4 {A0 A1 A2 A3 : Type _} {p : A0 → A1 → A2 → A3 → Prop} (a : A0) (b : A1) (c : A2) (d : A3) (h : p a b c d) : ∃ a b c d, p a b c d := ⟨a, b, c, d, h⟩
theorem ex5 {A0 A1 A2 A3 A4 : Type _} {p : A0 → A1 → A2 → A3 → A4 → Prop} (a : A0) (b : A1) (c : A2) (d : A3) (e : A4) (h : p a b c d e) : ∃ a b c d e, p a b c d e := ⟨a, b, c, d, e, h⟩
theorem ex6 {A0 A1 A2 A3 A4 A5 : Type _} {p : A0 → A1 → A2 → A3 → A4 → A5 → Prop} (a : A0) (b : A1) (c : A2) (d : A3) (e : A4) (f : A5) (h : p a b c d e f) : ∃ a b c d e f, p a b c d e f := ⟨a, b, c, d, e, f, h⟩
theorem ex7 {A0 A1 A2 A3 A4 A5 A6 : Type _} {p : A0 → A1 → A2 → A3 → A4 → A5 → A6 → Prop} (a : A0) (b : A1) (c : A2) (d : A3) (e : A4) (f : A5) (g : A6) (h : p a b c d e f g) : ∃ a b c d e f g, p a b c d e f g := ⟨a, b, c, d, e, f, g, h⟩
theorem ex8 {A0 A1 A2 A3 A4 A5 A6 A7 : Type _} {p : A0 → A1 → A2 → A3 → A4 → A5 → A6 → A7 → Prop} (a : A0) (b : A1) (c : A2) (d : A3) (e : A4) (f : A5) (g : A6) (i : A7) (h : p a b c d e f g i) : ∃ a b c d e f g i, p a b c d e f g i := ⟨a, b, c, d, e, f, g, i, h⟩
theorem ex9 {A0 A1 A2 A3 A4 A5 A6 A7 A8 : Type _} {p : A0 → A1 → A2 → A3 → A4 → A5 → A6 → A7 → A8 → Prop} (a : A0) (b : A1) (c : A2) (d : A3) (e : A4) (f : A5) (g : A6) (i : A7) (j : A8) (h : p a b c d e f g i j) : ∃ a b c d e f g i j, p a b c d e f g i j := ⟨a, b, c, d, e, f, g, i, j, h⟩
theorem Qz {A0 A1 A2 A3 A4 A5 A6 A7 A8 A9 : Type _} {p : A0 → A1 → A2 → A3 → A4 → A5 → A6 → A7 → A8 → A9 → Prop} (a : A0) (b : A1) (c : A2) (d : A3) (e : A4) (f : A5) (g : A6) (i : A7) (j : A8) (k : A9) (h : p a b c d e f g i j k) : ∃ a b c d e f g i j k, p a b c d e f g i j k := ⟨a, b, c, d, e, f, g, i, j, k, h⟩
theorem QA {A0 A1 A2 A3 A4 A5 A6 A7 A8 A9 A10 : Type _} {p : A0 → A1 → A2 → A3 → A4 → A5 → A6 → A7 → A8 → A9 → A10 → Prop} (a : A0) (b : A1) (c : A2) (d : A3) (e : A4) (f : A5) (g : A6) (i : A7) (j : A8) (k : A9) (l : A10) (h : p a b c d e f g i j k l) : ∃ a b c d e f g i j k l, p a b c d e f g i j k l := ⟨a, b, c, d, e, f, g, i, j, k, l, h⟩
theorem fc {α : Type _} {p : α → Prop} {a : α} {l : List α} (h : p a) (hl : ∀ b ∈ l, p b) : ∀ b ∈ a :: l, p b := List.forall_mem_cons.mpr ⟨h, hl⟩
theorem gT {α : Type} {M : PySem.Model} {A : PySem.Around} {c : PySem.Sem α} {Q : α → PySem.Shared → Prop} {E : PySem.Value → PySem.Shared → Prop} {S s : PySem.Shared} {h : PySem.Heap} (H : ∀ tk, PySem.wpAny M A c Q E { s with heap := h, toks := tk }) (e : S = { s with heap := h, toks := S.toks } := by rfl) : PySem.wpAny M A c Q E S :=
  e ▸ H S.toks
local macro_rules | `(tactic| omega) => `(tactic| first | lia | fail)
local macro_rules | `(tactic| cases $h:ident) => `(tactic| first | with_reducible exact Mine.nS $h | with_reducible exact Mine.sN $h | with_reducible exact Mine.fT $h | with_reducible exact Mine.tF $h | (have hh := Option.some.inj $h; subst hh) | exact Mine.fT $h | exact Mine.nS $h | exact Mine.sN $h | fail)
section
set_option tactic.hygienic false
open PySem
section
inductive MV where
 | unb
 | none
 | bool (b:Bool)
 | int (i:Int)
 | flt (x:UInt64)
 | str (s:List Nat)
 | seq (l:Bool) (xs:List MV)
 | rng (a b c:Int)
 | ref (i:Nat)
 | txt (w:List Nat) (n:Int)
inductive MO where
 | list (xs:List MV)
 | dict (es:List (List Nat×MV))
 | acc (xs:List MV) (n:Int)
 | lex (toks:List (List Nat)) (push:List MV) (line:Int)
 | disc (k:Nat)
 | tab (k:Nat)
inductive H where
 | mk (n:Nat) (l:List (Nat×MO))
inductive Vs where
 | lf (v:MV)
 | nd (l r:Vs)
noncomputable abbrev Pa:=List Bool
noncomputable abbrev K:=MV→H→Prop
noncomputable abbrev Ev:=Vs→H→K→Prop
noncomputable abbrev KS:=Vs→H→Prop
noncomputable def ifB (b:Bool) (p q:Prop):Prop:=@Bool.rec (λ__=>Prop) q p b
noncomputable def Zo {α:Type} (l:List α):(List α→Prop)→Prop:=
 @List.rec α (λ__=>(List α→Prop)→Prop) (λk=>k []) (λx __ ih k=>ih λr'=>k (x :: r')) l
noncomputable def Yb (t:Vs) (p:Pa):MV:=
 @List.rec Bool (λ__=>Vs→MV) (λt=>@Vs.rec (λ__=>MV) (λv=>v) (λ__ __ __ __=>.unb) t)
  (λb __ ih t=>@Vs.rec (λ__=>MV) (λ__=>.unb) (λl r __ __=>@Bool.rec (λ__=>MV) (ih l) (ih r) b) t) p t
noncomputable def Y7 (v:MV) (t:Vs) (p:Pa) (k:Vs→Prop):Prop:=
 @List.rec Bool (λ__=>Vs→(Vs→Prop)→Prop) (λ__ k=>k (.lf v))
  (λb __ ih t k=>@Vs.rec (λ__=>Prop) (λ__=>False) (λl r __ __=>@Bool.rec (λ__=>Prop) (ih l λl'=>k (.nd l' r)) (ih r λr'=>k (.nd l r')) b) t) p t k
noncomputable def P5 (v:MV) (l:List MV):Nat→(List MV→Prop)→Prop:=
 @List.rec MV (λ__=>Nat→(List MV→Prop)→Prop) (λ__ k=>k []) (λx r ih n k=>@Nat.rec (λ__=>Prop) (k (v :: r)) (λm __=>ih m (λr'=>k (x :: r'))) n) l
noncomputable def getL (l:List (Nat×MO)) (n:Nat) (k:MO→Prop):Prop:=
 @List.rec (Nat×MO) (λ__=>Prop) False (λp __ ih=>@Prod.rec Nat MO (λ__=>Prop) (λi o=>ifB (Nat.beq i n) (k o) ih) p) l
noncomputable def setL (v:MO) (l:List (Nat×MO)) (n:Nat):(List (Nat×MO)→Prop)→Prop:=
 @List.rec (Nat×MO) (λ__=>(List (Nat×MO)→Prop)→Prop) (λk=>k []) (λp r ih k=>@Prod.rec Nat MO (λ__=>Prop) (λi __=>ifB (Nat.beq i n) (k ((i,v) :: r)) (ih λr'=>k (p :: r'))) p) l
noncomputable def onH (h:H) (k:Nat→List (Nat×MO)→Prop):Prop:=@H.rec (λ__=>Prop) k h
noncomputable def ZD (h:H) (n:Nat) (k:MO→Prop):Prop:=onH h λ__ l=>getL l n k
noncomputable def T5 (v:MO) (h:H) (n:Nat) (k:H→Prop):Prop:=onH h λm l=>setL v l n λl'=>k (.mk m l')
noncomputable def RE (v:MO) (h:H) (k:MV→H→Prop):Prop:=onH h λm l=>Zo (l++[(m,v)]) λl'=>k (.ref m) (.mk (Nat.succ m) l')
noncomputable def eqN (l:List Nat):List Nat→Bool:=
 @List.rec Nat (λ__=>List Nat→Bool) (λq=>@List.rec Nat (λ__=>Bool) true (λ__ __ __=>false) q)
  (λa __ ih q=>@List.rec Nat (λ__=>Bool) false (λb q' __=>@Bool.rec (λ__=>Bool) false (ih q') (Nat.beq a b)) q) l
noncomputable def eqI (a b:Int):Bool:=@Int.rec (λ__=>Bool) (λm=>@Int.rec (λ__=>Bool) (λn=>Nat.beq m n) (λ__=>false) b) (λm=>@Int.rec (λ__=>Bool) (λ__=>false) (λn=>Nat.beq m n) b) a
noncomputable def ltI (a b:Int):Bool:=@Int.rec (λ__=>Bool) (λm=>@Int.rec (λ__=>Bool) (λn=>Nat.blt m n) (λ__=>false) b) (λm=>@Int.rec (λ__=>Bool) (λ__=>true) (λn=>Nat.blt n m) b) a
noncomputable def len {α:Type} (l:List α):Nat:=@List.rec α (λ__=>Nat) 0 (λ__ __ ih=>Nat.succ ih) l
noncomputable def Yr {α:Type} (l:List α):Bool:=Nat.ble (len l) 4096
noncomputable def XM (x:MV) (k:Int→Prop):Prop:=match x with | .int i=>k i | _=>False
noncomputable def YS (x:MV) (k:Bool→Prop):Prop:=match x with | .bool i=>k i | _=>False
noncomputable def YT (x:MV) (k:Nat→Prop):Prop:=match x with | .ref i=>k i | _=>False
noncomputable def Jh (x:MV) (k:List Nat→Prop):Prop:=match x with | .str i=>k i | _=>False
noncomputable def VQ (x:MO) (k:List MV→Prop):Prop:=match x with | .list i=>k i | _=>False
noncomputable def UP (x:MO) (k:List (List Nat×MV)→Prop):Prop:=match x with | .dict i=>k i | _=>False
noncomputable def LV (x:MO) (k:List MV→Int→Prop):Prop:=match x with | .acc i n=>k i n | _=>False
noncomputable def RZ (x:MO) (k:Nat→Prop):Prop:=match x with | .disc i=>k i | _=>False
noncomputable def T4 (x:MO) (i:Nat) (p:Prop):Prop:=match x with | .tab k=>ifB (Nat.beq k i) p False | _=>False
noncomputable def DH (x:MO) (k:List (List Nat)→List MV→Int→Prop):Prop:=match x with | .lex i n m=>k i n m | _=>False
noncomputable def Jm (h:H) (x:MV) (k:List MV→Prop):Prop:=match x with | .seq true xs=>k xs | _=>False
noncomputable def VA (x:MV) (k:List MV→Prop):Prop:=match x with | .seq false xs=>k xs | _=>False
noncomputable def nth (l:List MV):Nat→(MV→Prop)→Prop:=
 @List.rec MV (λ__=>Nat→(MV→Prop)→Prop) (λ__ __=>False) (λv __ ih n k=>@Nat.rec (λ__=>Prop) (k v) (λm __=>ih m k) n) l
noncomputable def Pg (l:List Nat):Nat→(Nat→Prop)→Prop:=
 @List.rec Nat (λ__=>Nat→(Nat→Prop)→Prop) (λ__ __=>False) (λv __ ih n k=>@Nat.rec (λ__=>Prop) (k v) (λm __=>ih m k) n) l
noncomputable def look (q:List Nat) (l:List (List Nat×MV)) (no:Prop) (k:MV→Prop):Prop:=
 @List.rec (List Nat×MV) (λ__=>Prop) no (λp __ ih=>@Prod.rec _ _ (λ__=>Prop) (λi o=>ifB (eqN i q) (k o) ih) p) l
noncomputable def put (q:List Nat) (v:MV) (l:List (List Nat×MV)):(List (List Nat×MV)→Prop)→Prop:=
 @List.rec (List Nat×MV) (λ__=>(List (List Nat×MV)→Prop)→Prop) (λk=>k [(q,v)]) (λp r ih k=>@Prod.rec _ _ (λ__=>Prop) (λi __=>ifB (eqN i q) (k ((i,v) :: r)) (ih λr'=>k (p :: r'))) p) l
noncomputable def eqA (a b:MV) (k:Bool→Prop):Prop:=match a with
 | .int i=>XM b λj=>k (eqI i j)
 | .str i=>Jh b λj=>k (eqN i j)
 | .flt x=>match b with | .flt y=>(match Float64.cmp x y with | .none=>False | .some o=>k (o==.eq)) | _=>False
 | _=>False
noncomputable def Pw (a b:MV) (k:Bool→Prop):Prop:=match a with
 | .int i=>XM b λj=>k (eqI i j)
 | .str i=>Jh b λj=>k (eqN i j)
 | _=>False
noncomputable def Jj (l:List MV):List MV→(Bool→Prop)→Prop:=
 @List.rec MV (λ__=>List MV→(Bool→Prop)→Prop) (λ__ k=>k true)
  (λa __ ih q k=>@List.rec MV (λ__=>Prop) False (λb q' __=>Pw a b λr=>ih q' λr'=>k (r&&r')) q) l
noncomputable def eqV (a b:MV) (k:Bool→Prop):Prop:=match a with
 | .seq l xs=>match b with
  | .seq m ys=>match l with
   | true=>match m with | true=>ifB (Nat.beq (len xs) (len ys)) (Jj xs ys k) (k false) | false=>False
   | false=>match m with | false=>ifB (Nat.beq (len xs) (len ys)) (Jj xs ys k) False | true=>False
  | _=>False
 | a=>eqA a b k
noncomputable def eqT (a b:MV) (k:Bool→Prop):Prop:=match a with
 | .seq false xs=>match b with | .seq false ys=>ifB (Nat.beq (len xs) (len ys)) (Jj xs ys k) False | _=>False
 | _=>False
noncomputable def ZW (a c:Int) (n:Nat):List MV:=@Nat.rec (λ__=>Int→List MV) (λ__=>[]) (λ__ ih a=>.int a :: ih (a+c)) n a
noncomputable def J1 (a b c:Int):Nat:=match ltI 0 c with
 | true=>(b-a).toNat
 | false=>(a-b).toNat
noncomputable def Fu (i:Int):Bool:=@Int.rec (λ__=>Bool) (λn=>Nat.blt n 4096) (λn=>Nat.blt n 4095) i
noncomputable def LO (a b c:Int):Bool:=Fu a&&Fu b&&(eqI c 1||eqI c (-1))
noncomputable def YX (l:List Nat):List MV:=@List.rec Nat (λ__=>List MV) [] (λc __ ih=>.str [c] :: ih) l
noncomputable def XL (h:H) (x:MV) (k:List MV→Prop):Prop:=match x with
 | .seq _ xs=>k xs
 | .rng a b c=>ifB (LO a b c) (k (ZW a c (J1 a b c))) False
 | .str s=>k (YX s)
 | _=>False
noncomputable def rep {α:Type} (xs:List α) (n:Nat):List α:=@Nat.rec (λ__=>List α) [] (λ__ ih=>xs++ih) n
noncomputable def JZ (i:Int) (k:MV→Prop):Prop:=@Int.rec (λ__=>Prop) (λn=>k (.int (.ofNat n))) (λn=>k (.int (.negSucc n))) i
noncomputable abbrev B2:=MV→MV→(MV→Prop)→Prop
noncomputable def Jb (i:Int):Bool:=@Int.rec (λ__=>Bool) (λn=>Nat.blt n 4611686018427387904) (λn=>Nat.blt n 4611686018427387904) i
noncomputable def U8 (i:Int):Bool:=@Int.rec (λ__=>Bool) (λn=>@Nat.rec (λ__=>Bool) false (λ__ __=>Nat.blt n 1073741824) n) (λ__=>false) i
noncomputable def VO (i:Int):Bool:=@Int.rec (λ__=>Bool) (λn=>Nat.blt n 64) (λ__=>false) i
noncomputable def XN:B2:=λa b k=>match a with
 | .int x=>XM b λy=>JZ (x+y) k
 | .str x=>Jh b λy=>ifB (Yr (x++y)) (Zo (x++y) λz=>k (.str z)) False
 | .seq true x=>match b with | .seq true y=>ifB (Yr (x++y)) (Zo (x++y) λz=>k (.seq true z)) False | _=>False
 | _=>False
noncomputable def ZG:B2:=λa b k=>XM a λx=>XM b λy=>JZ (x-y) k
noncomputable def M7:B2:=λa b k=>match a with
 | .int x=>XM b λy=>ifB (Jb x) (JZ (x*y) k) False
 | .str x=>XM b λy=>ifB (VO y) (ifB (Yr x) (Zo (rep x y.toNat) λz=>k (.str z)) False) False
 | .seq true x=>XM b λy=>ifB (VO y) (ifB (Yr x) (Zo (rep x y.toNat) λz=>k (.seq true z)) False) False
 | _=>False
noncomputable def U6:B2:=λa b k=>XM a λx=>XM b λy=>ifB (U8 y) (JZ (Int.fdiv x y) k) False
noncomputable def Vh:B2:=λa b k=>XM a λx=>XM b λy=>ifB (U8 y) (JZ (Int.fmod x y) k) False
noncomputable def Mt:B2:=λa b k=>XM a λx=>XM b λy=>ifB (Jb x) (ifB (VO y) (JZ (x ^ y.toNat) k) False) False
noncomputable abbrev C2:=H→MV→MV→(Bool→Prop)→Prop
noncomputable def cEq:C2:=λ__ a b k=>eqV a b k
noncomputable def cNe:C2:=λ__ a b k=>eqV a b λr=>k (!r)
noncomputable def cLt:C2:=λh a b k=>YT a λi=>ZD h i λo=>RZ o λx=>match b with
 | .ref j=>ZD h j λo=>RZ o λy=>k (Nat.blt x y)
 | .str _=>k true
 | _=>False
noncomputable def cGt:C2:=λ__ a b k=>XM a λx=>XM b λy=>k (ltI y x)
noncomputable def cGe:C2:=λ__ a b k=>XM a λx=>XM b λy=>k (!ltI x y)
noncomputable def Hd:C2:=λh a b k=>Jh a λq=>YT b λi=>ZD h i λo=>UP o λes=>look q es (k true) λ__=>k false
noncomputable def Un:C2:=λ__ a b k=>YS a λx=>YS b λy=>k (x != y)
noncomputable def GK:C2:=λ__ a b k=>match b with | .none=>(match a with | .none=>k false | .unb=>False | _=>k true) | _=>False
noncomputable def Bb:C2:=λ__ a b k=>match b with | .none=>(match a with | .none=>k true | .unb=>False | _=>k false) | _=>False
noncomputable def Xl (v:MV):Ev:=λ__ h k=>k v h
noncomputable def Xe (i:Pa):Ev:=λvs h k=>match Yb vs i with | .unb=>False | x=>k x h
noncomputable def Xq (o:B2) (a b:Ev):Ev:=λvs h k=>a vs h λx h1=>b vs h1 λy h2=>o x y λz=>k z h2
noncomputable def X4 (o:C2) (a b:Ev):Ev:=λvs h k=>a vs h λx h1=>b vs h1 λy h2=>o h2 x y λz=>k (.bool z) h2
noncomputable def Rm (a b:Ev):Ev:=λvs h k=>a vs h λx h1=>YS x λc=>ifB c (b vs h1 k) (k (.bool false) h1)
noncomputable def eOr (a b:Ev):Ev:=λvs h k=>a vs h λx h1=>YS x λc=>ifB c (k (.bool true) h1) (b vs h1 k)
noncomputable def T7 (c a b:Ev):Ev:=λvs h k=>c vs h λx h1=>YS x λt=>ifB t (a vs h1 k) (b vs h1 k)
noncomputable def eE (l:List Ev):Vs→H→(List MV→H→Prop)→Prop:=
 @List.rec Ev (λ__=>Vs→H→(List MV→H→Prop)→Prop) (λ__ h k=>k [] h) (λe __ ih vs h k=>e vs h λx h1=>ih vs h1 λxs h2=>k (x :: xs) h2) l
noncomputable def JM (l:List Ev):Ev:=λvs h k=>eE l vs h λxs h1=>k (.seq true xs) h1
noncomputable def YI (l:List Ev):Ev:=λvs h k=>eE l vs h λxs h1=>k (.seq false xs) h1
noncomputable def eNl:Ev:=λ__ h k=>RE (.list []) h k
noncomputable def C5:Ev:=λ__ h k=>RE (.dict []) h k
noncomputable def PF (a e:Ev):Ev:=λvs h k=>a vs h λx h1=>e vs h1 λy h2=>Jh x λq=>RE (.dict [(q,y)]) h2 k
noncomputable abbrev Fn:=List MV→H→K→Prop
noncomputable def YN (f:Fn) (l:List Ev):Ev:=λvs h k=>eE l vs h λxs h1=>f xs h1 k
noncomputable def Gv (i:Int) (n:Nat) (k:Nat→Prop):Prop:=@Int.rec (λ__=>Prop) (λm=>ifB (Nat.blt m 4096) (k m) False) (λm=>ifB (Nat.blt m 4096) (ifB (Nat.blt m n) (k (n-Nat.succ m)) False) False) i
noncomputable def getItem (h:H) (a i:MV) (k:MV→Prop):Prop:=match i with
 | .int j=>match a with
  | .str s=>Gv j (len s) λn=>Pg s n λc=>k (.str [c])
  | a=>Jm h a λxs=>Gv j (len xs) λn=>nth xs n k
 | .str s=>YT a λj=>ZD h j λo=>UP o λes=>look s es False k
 | _=>False
noncomputable def YB (a i:Ev):Ev:=λvs h k=>a vs h λx h1=>i vs h1 λy h2=>getItem h2 x y λv=>k v h2
noncomputable def setItem (h:H) (a i v:MV) (k:H→Prop):Prop:=YT a λj=>ZD h j λo=>match i with
 | .str s=>UP o λes=>ifB (Yr es) (put s v es λes'=>T5 (.dict es') h j k) False
 | _=>False
noncomputable def Br (t:Pa) (e:Ev) (l:List MV):Vs→H→(List MV→H→Prop)→Prop:=
 @List.rec MV (λ__=>Vs→H→(List MV→H→Prop)→Prop) (λ__ h k=>k [] h) (λx __ ih vs h k=>Y7 x vs t λvs'=>e vs' h λy h1=>ih vs h1 λys h2=>k (y :: ys) h2) l
noncomputable def CD (t:Pa) (c e:Ev) (l:List MV):Vs→H→(List MV→H→Prop)→Prop:=
 @List.rec MV (λ__=>Vs→H→(List MV→H→Prop)→Prop) (λ__ h k=>k [] h) (λx __ ih vs h k=>Y7 x vs t λvs'=>c vs' h λb h0=>YS b λb=>ifB b (e vs' h0 λy h1=>ih vs h1 λys h2=>k (y :: ys) h2) (ih vs h0 k)) l
noncomputable def Yo (t:Pa) (it e:Ev):Ev:=λvs h k=>it vs h λx h1=>XL h1 x λxs=>ifB (Yr xs) (Br t e xs vs h1 λys h2=>k (.seq true ys) h2) False
noncomputable def Vb (t:Pa) (it c e:Ev):Ev:=λvs h k=>it vs h λx h1=>XL h1 x λxs=>ifB (Yr xs) (CD t c e xs vs h1 λys h2=>k (.seq true ys) h2) False
-- primitives: functions of arguments
noncomputable def e1 (f:MV→H→K→Prop) (a:Ev):Ev:=λvs h k=>a vs h λx h1=>f x h1 k
noncomputable def e2 (f:MV→MV→H→K→Prop) (a b:Ev):Ev:=λvs h k=>a vs h λx h1=>b vs h1 λy h2=>f x y h2 k
noncomputable def Mk (a b c:Ev):Ev:=λvs h k=>a vs h λx h1=>b vs h1 λy h2=>c vs h2 λz h3=>XM x λi=>XM y λj=>XM z λl=>ifB (eqI l (-1)) (k (.rng i j (-1)) h3) False
noncomputable def isStr (x:MV):Bool:=match x with | .str _=>true | _=>false
noncomputable def IG (x:MV):Bool:=match x with | .str _=>true | .seq true _=>true | _=>false
noncomputable def eM (ok:MV→Bool) (f:MV→MV→H→K→Prop) (a b:Ev):Ev:=λvs h k=>a vs h λx h1=>ifB (ok x) (b vs h1 λy h2=>f x y h2 k) False
noncomputable def fLen (x:MV) (h:H) (k:K):Prop:=match x with
 | .str s=>ifB (Yr s) (k (.int (.ofNat (len s))) h) False
 | .seq true xs=>ifB (Yr xs) (k (.int (.ofNat (len xs))) h) False
 | _=>False
noncomputable def KH (x:MV) (h:H) (k:K):Prop:=Jm h x λxs=>ifB (Yr xs) (k (.seq false xs) h) False
noncomputable def Od (l:List MV):Int→(Int→Prop)→Prop:=@List.rec MV (λ__=>Int→(Int→Prop)→Prop) (λa k=>k a) (λx __ ih a k=>XM x λb=>ifB (ltI a b) (ih b k) (ih a k)) l
noncomputable def Ov (l:List MV):Int→(Int→Prop)→Prop:=@List.rec MV (λ__=>Int→(Int→Prop)→Prop) (λa k=>k a) (λx __ ih a k=>XM x λb=>ifB (ltI b a) (ih b k) (ih a k)) l
noncomputable def IO (l:List MV):Int→(Int→Prop)→Prop:=@List.rec MV (λ__=>Int→(Int→Prop)→Prop) (λa k=>k a) (λx __ ih a k=>XM x λb=>ih (a+b) k) l
noncomputable def Ai (x y:MV) (h:H) (k:K):Prop:=XM x λa=>Od [y] a λc=>k (.int c) h
noncomputable def Pu (x y:MV) (h:H) (k:K):Prop:=XM x λa=>Ov [y] a λc=>k (.int c) h
noncomputable def S5 (x:MV) (h:H) (k:K):Prop:=Jm h x λxs=>IO xs 0 λc=>k (.int c) h
noncomputable def Zl (x:MV) (h:H) (k:K):Prop:=XM x λn=>k (.rng 0 n 1) h
noncomputable def TO (q:MV) (l:List MV) (p:Prop):Prop:=@List.rec MV (λ__=>Prop) p (λx __ ih=>eqT x q λb=>ifB b False ih) l
noncomputable def VC (q:MV) (l:List MV):Nat→(Nat→Prop)→Prop:=
 @List.rec MV (λ__=>Nat→(Nat→Prop)→Prop) (λ__ __=>False) (λx r ih n k=>eqT x q λb=>ifB b (TO q r (k n)) (ih (Nat.succ n) k)) l
noncomputable def Hx (q:Nat) (l:List Nat):Nat→(Nat→Prop)→Prop:=
 @List.rec Nat (λ__=>Nat→(Nat→Prop)→Prop) (λ__ __=>False) (λx __ ih n k=>ifB (Nat.beq x q) (k n) (ih (Nat.succ n) k)) l
noncomputable def Ms (x y:MV) (h:H) (k:K):Prop:=match x with
 | .str s=>match y with
  | .str [c]=>ifB (eqN s [34,92,35]) (Hx c s 0 λn=>k (.int (.ofNat n)) h) False
  | _=>False
 | .seq true xs=>ifB (Yr xs) (VC y xs 0 λn=>k (.int (.ofNat n)) h) False
 | _=>False
noncomputable def BN (l:List MV):(List Nat→Prop)→Prop:=@List.rec MV (λ__=>(List Nat→Prop)→Prop) (λk=>k []) (λx __ ih k=>Jh x λs=>ih λq=>Zo (s++q) k) l
noncomputable def ZR (x y:MV) (h:H) (k:K):Prop:=match x with
 | .str []=>Jm h y λxs=>BN xs λs=>ifB (Yr s) (k (.str s) h) False
 | _=>False
noncomputable def R3 (x:MV) (h:H) (k:K):Prop:=XM x λn=>RE (.acc [] n) h k
noncomputable def M4 (x:MV) (h:H) (k:K):Prop:=YT x λi=>ZD h i λo=>LV o λxs __=>k (.int (.ofNat (len xs))) h
noncomputable def PA (l:List MV) (no:Prop) (k:List MV→MV→Prop):Prop:=@List.rec MV (λ__=>(List MV→MV→Prop)→Prop) (λ__=>no) (λx r ih k=>@List.rec MV (λ__=>Prop) (k [] x) (λ__ __ __=>ih λq y=>k (x :: q) y) r) l k
noncomputable def Fk (x:MV) (h:H) (k:K):Prop:=YT x λi=>ZD h i λo=>DH o λs __ n=>@List.rec (List Nat) (λ__=>Prop) (k (.int n) h) (λ__ __ __=>False) s
-- statements: next brk cont ret
noncomputable abbrev Ex:=Vs→H→KS→KS→KS→K→Prop
noncomputable abbrev Tg:=MV→Vs→H→KS→Prop
noncomputable def tV (i:Pa):Tg:=λx vs h k=>Y7 x vs i λvs'=>k vs' h
noncomputable def Fz (a i:Ev):Tg:=λx vs h k=>a vs h λd h1=>i vs h1 λq h2=>setItem h2 d q x λh3=>k vs h3
noncomputable def tTs (l:List Tg):List MV→Vs→H→KS→Prop:=
 @List.rec Tg (λ__=>List MV→Vs→H→KS→Prop) (λ__ vs h k=>k vs h) (λt __ ih xs vs h k=>@List.rec MV (λ__=>Prop) False (λx q __=>t x vs h λvs' h'=>ih q vs' h' k) xs) l
noncomputable def MH (n:Nat) (l:List Tg):Tg:=λx vs h k=>VA x λxs=>ifB (Nat.beq (len xs) n) (tTs l xs vs h k) False
noncomputable def JX (n:Nat) (l:List Tg):Tg:=λx vs h k=>VA x λxs=>ifB (Nat.beq (len xs) n) (Zo xs.reverse λys=>tTs l ys vs h k) False
noncomputable def XO (t:Tg) (e:Ev):Ex:=λvs h n __ __ __=>e vs h λx h1=>t x vs h1 n
noncomputable def TU:B2:=λa b k=>XM a λx=>XM b λy=>JZ (x+y) k
noncomputable def FN (i:Pa) (o:B2) (e:Ev):Ex:=λvs h n __ __ __=>Xe i vs h λx h0=>e vs h0 λy h1=>o x y λz=>Y7 z vs i λvs'=>n vs' h1
noncomputable def BA (a i:Ev) (o:B2) (e:Ev):Ex:=λvs h n __ __ __=>a vs h λd h1=>i vs h1 λq h2=>getItem h2 d q λx=>e vs h2 λy h3=>o x y λz=>setItem h3 d q z λh4=>n vs h4
noncomputable def sL (l:List Ex):Ex:=
 @List.rec Ex (λ__=>Ex) (λvs h n __ __ __=>n vs h) (λs __ ih vs h n b c r=>s vs h (λvs' h'=>ih vs' h' n b c r) b c r) l
noncomputable def Mq (t:Tg) (b:Ex) (l:List MV):Vs→H→KS→K→Prop:=
 @List.rec MV (λ__=>Vs→H→KS→K→Prop) (λvs h n __=>n vs h) (λx __ ih vs h n r=>t x vs h λvs1 h1=>b vs1 h1 (λvs2 h2=>ih vs2 h2 n r) n (λvs2 h2=>ih vs2 h2 n r) r) l
noncomputable def Ku (t:Tg) (it:Ev) (b:Ex):Ex:=λvs h n __ __ r=>it vs h λx h1=>XL h1 x λxs=>Mq t b xs vs h1 n r
noncomputable def JA (c:Ev) (b:Ex) (f:Nat):Vs→H→KS→K→Prop:=
 @Nat.rec (λ__=>Vs→H→KS→K→Prop) (λ__ __ __ __=>False) (λ__ ih vs h n r=>c vs h λx h1=>YS x λt=>ifB t (b vs h1 (λvs2 h2=>ih vs2 h2 n r) n (λvs2 h2=>ih vs2 h2 n r) r) (n vs h1)) f
noncomputable def D7 (c:Ev) (b:Ex):Ex:=λvs h n __ __ r=>JA c b 64 vs h n r
noncomputable def sIf (c:Ev) (a b:Ex):Ex:=λvs h n k1 k2 r=>c vs h λx h1=>YS x λt=>ifB t (a vs h1 n k1 k2 r) (b vs h1 n k1 k2 r)
noncomputable def Yn (e:Ev):Ex:=λvs h __ __ __ r=>e vs h r
noncomputable def sEx (e:Ev):Ex:=λvs h n __ __ __=>e vs h λx h1=>match x with | .none=>n vs h1 | _=>False
noncomputable def S7:Ex:=λvs h __ b __ __=>b vs h
noncomputable def Ca:Ex:=λvs h __ __ c __=>c vs h
noncomputable def By (ps:List Pa):List MV→Vs→(Vs→Prop)→Prop:=
 @List.rec Pa (λ__=>List MV→Vs→(Vs→Prop)→Prop) (λxs t k=>@List.rec MV (λ__=>Prop) (k t) (λ__ __ __=>False) xs)
  (λp __ ih xs t k=>@List.rec MV (λ__=>Prop) False (λx r __=>Y7 x t p λt'=>ih r t' k) xs) ps
noncomputable def Ji (ps:List Pa) (t:Vs) (b:Ex):Fn:=λxs h k=>By ps xs t λvs=>b vs h (λ__ h1=>k .none h1) (λ__ __=>False) (λ__ __=>False) k
end
end
section
set_option tactic.hygienic false
open PySem PySem.Float64
section
noncomputable def cN (b:Bool) (x y:Nat):Nat:=@Bool.rec (λ__=>Nat) y x b
noncomputable def heN (n d:Nat):Nat:=Nat.add (Nat.div n d) (cN (Nat.blt d (Nat.mul 2 (Nat.mod n d))) 1 (cN (Nat.beq (Nat.mul 2 (Nat.mod n d)) d) (Nat.mod (Nat.div n d) 2) 0))
end
theorem HE (n d:Nat):heN n d=halfEven n d:=by
 unfold heN halfEven cN
 have e1:Nat.div n d=n/d:=rfl
 have e2:Nat.mod n d=n % d:=rfl
 rw [e1,e2]
 show n/d + @Bool.rec (λ__=>Nat) (@Bool.rec (λ__=>Nat) 0 (n/d % 2) (Nat.beq (2*(n % d)) d)) 1 (Nat.blt d (2*(n % d)))=_
 dsimp only
 cases h1:Nat.blt d (2*(n % d)) with
 | true=>
  have:=Nat.blt_eq.mp h1
  rw [if_pos (by simp [this])]
 | false=>
  have h1':¬ d<2*(n % d):=λh=>by rw [Nat.blt_eq.mpr h] at h1;cases h1
  cases h2:Nat.beq (2*(n % d)) d with
  | true=>
   have:=Nat.eq_of_beq_eq_true h2
   by_cases h3:n/d % 2=1
   ·rw [if_pos (by simp [this,h3])];show n/d+n/d % 2=_;rw [h3]
   ·rw [if_neg (by simp [h1',this,h3])];show n/d+n/d % 2=_;omega
  | false=>
   have:=Nat.ne_of_beq_eq_false h2
   rw [if_neg (by simp [h1',this])];rfl
end
section
set_option tactic.hygienic false
open PySem PySem.Float64
section
noncomputable def geN (n d:Nat):Bool:=@Bool.rec (λ__=>Bool) (Nat.ble d (Nat.mul n (Nat.pow 2 (Nat.sub (Nat.log2 d) (Nat.log2 n))))) (Nat.ble (Nat.mul d (Nat.pow 2 (Nat.sub (Nat.log2 n) (Nat.log2 d)))) n) (Nat.ble (Nat.log2 d) (Nat.log2 n))
noncomputable def exN (n d:Nat):Nat:=Nat.sub (Nat.add (Nat.log2 n) (cN (geN n d) 1022 1021)) (Nat.log2 d)
noncomputable def D3 (n d E:Nat):Nat:=cN (Nat.ble E 1074) (heN (Nat.mul n (Nat.pow 2 (Nat.sub 1074 E))) d) (heN n (Nat.mul d (Nat.pow 2 (Nat.sub E 1074))))
noncomputable def rmN (n d:Nat):Nat:=@Nat.rec (λ__=>Nat) 0 (λ__ __=>Nat.min infMag (Nat.add (Nat.mul (exN n d) 4503599627370496) (D3 n d (exN n d)))) n
end
theorem Cd {b:Bool} {x y:Nat}:cN b x y=if b=true then x else y:=by cases b <;> rfl
theorem Px {n d:Nat}:(geN n d=true)↔(let p:=shift n d (-(((n.log2:Nat):Int)-((d.log2:Nat):Int)));p.1≥p.2):=by
 unfold geN shift
 cases h:Nat.ble (Nat.log2 d) (Nat.log2 n) with
 | true=>
  have h:=Nat.le_of_ble_eq_true h
  show Nat.ble (d*2 ^ (n.log2-d.log2)) n=true↔_
  by_cases e:n.log2=d.log2
  ·rw [if_pos (by omega)]
   have z:(-(((n.log2:Nat):Int)-((d.log2:Nat):Int))).toNat=0:=by omega
   rw [z]
   simp [e,Nat.ble_eq]
  ·rw [if_neg (by omega)]
   have z:(-(-(((n.log2:Nat):Int)-((d.log2:Nat):Int)))).toNat=n.log2-d.log2:=by omega
   rw [z]
   simp [Nat.ble_eq]
 | false=>
  have h:¬ d.log2≤n.log2:=λq=>by rw [Nat.ble_eq.mpr q] at h;cases h
  show Nat.ble d (n*2 ^ (d.log2-n.log2))=true↔_
  rw [if_pos (by omega)]
  have z:(-(((n.log2:Nat):Int)-((d.log2:Nat):Int))).toNat=d.log2-n.log2:=by omega
  rw [z]
  simp [Nat.ble_eq]
theorem Pc (n d:Nat):rmN n d=roundMag n d:=by
 cases n with
 | zero=>rfl
 | succ k=>
  generalize hn:k+1=n
  have e0:rmN n d=min infMag (exN n d*2 ^ 52+D3 n d (exN n d)):=by rw [← hn];rfl
  rw [e0]
  unfold roundMag
  rw [if_neg (by simp;omega)]
  dsimp only
  generalize hl:(((n.log2:Nat):Int)-((d.log2:Nat):Int))=l
  generalize hs:shift n d (-l)=p
  obtain ⟨a,b⟩:=p
  dsimp only
  have hg:geN n d=true↔a≥b:=by have:=Px (n:=n) (d:=d);rw [hl,hs] at this;exact this
  have he:((exN n d:Nat):Int)=max (if a≥b then l-52 else l-53) (-1074)+1074:=by
   unfold exN
   rw [Cd]
   show ((n.log2+(if geN n d=true then 1022 else 1021)-d.log2:Nat):Int)=_
   by_cases c:a≥b
   ·rw [if_pos (hg.mpr c),if_pos c];omega
   ·rw [if_neg (λq=>c (hg.mp q)),if_neg c];omega
  generalize hm:max (if a≥b then l-52 else l-53) (-1074)=e at he
  have hx:(e+1074).toNat=exN n d:=by omega
  rw [hx]
  generalize exN n d=E at he hx
  congr 2
  unfold D3 shift
  cases q:Nat.ble E 1074 with
  | true=>
   have q:=Nat.le_of_ble_eq_true q
   rw [if_pos (by omega)]
   have z:(-e).toNat=1074-E:=by omega
   rw [z]
   exact HE _ _
  | false=>
   have q:¬ E≤1074:=λw=>by rw [Nat.ble_eq.mpr w] at q;cases q
   rw [if_neg (by omega)]
   have z:(-(-e)).toNat=E-1074:=by omega
   rw [z]
   exact HE _ _
end
section
set_option tactic.hygienic false
open PySem PySem.Float64
section
noncomputable def exB (v:Nat):Nat:=Nat.mod (Nat.div v 4503599627370496) 2048
noncomputable def frB (v:Nat):Nat:=Nat.mod v 4503599627370496
noncomputable def sB (v:Nat):Bool:=Nat.beq (Nat.div v 9223372036854775808) 1
noncomputable def mB (v:Nat):Nat:=cN (Nat.beq (exB v) 0) (frB v) (Nat.add 4503599627370496 (frB v))
noncomputable def eB (v:Nat):Nat:=cN (Nat.beq (exB v) 0) 1 (exB v)
end
theorem Zv {x:UInt64} (h:Nat.beq (exB x.toNat) 2047=false):decode x=.fin (sB x.toNat) (mB x.toNat) ((eB x.toNat:Int)-1075):=by
 have h:=Nat.ne_of_beq_eq_false h
 have e1:x.toNat/2 ^ 52 % 2048=exB x.toNat:=rfl
 have e2:x.toNat % 2 ^ 52=frB x.toNat:=rfl
 have e3:(x.toNat/2 ^ 63==1)=sB x.toNat:=by
  unfold sB;rw [Bool.eq_iff_iff,Nat.beq_eq,beq_iff_eq];exact Iff.rfl
 unfold decode
 rw [e1,e2,e3]
 dsimp only
 rw [if_neg (by simpa using h)]
 unfold mB eB
 cases q:Nat.beq (exB x.toNat) 0 with
 | true=>
  have:=Nat.eq_of_beq_eq_true q
  rw [if_pos (by simpa using this)]
  rfl
 | false=>
  have:=Nat.ne_of_beq_eq_false q
  rw [if_neg (by simpa using this)]
  rfl
end
section
set_option tactic.hygienic false
open PySem PySem.Float64
section
end
end
section
set_option tactic.hygienic false
open PySem PySem.Float64
section
noncomputable abbrev KN:=Nat→Prop
noncomputable def fcN (n:Nat) (k:KN):Prop:=@Nat.rec (λ__=>Prop) (k 0) (λm __=>k (Nat.succ m)) n
noncomputable def fnB (v:Nat):Bool:=@Bool.rec (λ__=>Bool) true false (Nat.beq (exB v) 2047)
noncomputable def GX (v:Nat) (k:Bool→Nat→Nat→Prop):Prop:=ifB (fnB v) (fcN (mB v) λm=>fcN (eB v) λe=>ifB (sB v) (k true m e) (k false m e)) False
noncomputable def lgS (l:List Nat):Nat→Nat→KN→Prop:=@List.rec Nat (λ__=>Nat→Nat→KN→Prop) (λ__ a k=>fcN a k) (λs __ ih n a k=>fcN (Nat.shiftRight n s) λt=>ifB (Nat.beq t 0) (ih n a k) (ih t (Nat.add a s) k)) l
noncomputable def lgC (n:Nat) (k:KN):Prop:=ifB (Nat.ble n 18446744073709551615) (lgS [32,16,8,4,2,1] n 0 k) (lgS [2048,1024,512,256,128,64,32,16,8,4,2,1] n 0 k)
noncomputable def lgH (h n:Nat) (k:KN):Prop:=fcN (Nat.shiftRight n h) λt=>ifB (Nat.beq t 1) (k h) (ifB (Nat.beq (Nat.shiftRight t 1) 1) (k (Nat.succ h)) (lgC n k))
noncomputable def exL (n d a b:Nat):Nat:=Nat.sub (Nat.add a (cN (@Bool.rec (λ__=>Bool) (Nat.ble d (Nat.mul n (Nat.pow 2 (Nat.sub b a)))) (Nat.ble (Nat.mul d (Nat.pow 2 (Nat.sub a b))) n) (Nat.ble b a)) 1022 1021)) b
noncomputable def rmL (n d a b:Nat) (k:KN):Prop:=ifB (Nat.beq (Nat.shiftRight n a) 1) (ifB (Nat.beq (Nat.shiftRight d b) 1) (fcN (exL n d a b) λE=>fcN (D3 n d E) λh=>fcN (Nat.add (Nat.mul E 4503599627370496) h) λz=>ifB (Nat.ble infMag z) False (k z)) False) False
noncomputable def rmC (n d b h:Nat) (k:KN):Prop:=fcN n λn=>fcN d λd=>ifB (Nat.beq n 0) (k 0) (lgH h n λa=>rmL n d a b k)
noncomputable def frC (s:Bool) (n d b h:Nat) (k:KN):Prop:=rmC n d b h λz=>ifB s (fcN (Nat.add 9223372036854775808 z) k) (k z)
noncomputable def UO (s:Bool) (m e o h:Nat) (k:KN):Prop:=ifB (Nat.ble o e) (frC s (Nat.mul m (Nat.pow 2 (Nat.sub e o))) 1 0 (Nat.add h (Nat.sub e o)) k) (frC s m (Nat.pow 2 (Nat.sub o e)) (Nat.sub o e) h k)
noncomputable def mnN (a b:Nat):Nat:=cN (Nat.ble a b) a b
noncomputable def alC (e f m n:Nat) (k:Nat→Nat→Nat→Prop):Prop:=fcN (mnN e f) λg=>fcN (Nat.mul m (Nat.pow 2 (Nat.sub e g))) λp=>fcN (Nat.mul n (Nat.pow 2 (Nat.sub f g))) λq=>k p q g
noncomputable def Ih (v w:Nat) (k:KN):Prop:=GX v λs m e=>GX w λt n f=>alC e f m n λp q g=>fcN (Nat.sub (Nat.add 51 (cN (Nat.ble e f) f e)) g) λh=>
 ifB s (ifB t (ifB (Nat.beq (Nat.add p q) 0) False (UO true (Nat.add p q) g 1075 (Nat.succ h) k)) (ifB (Nat.beq p q) (k 0) (ifB (Nat.ble p q) (UO false (Nat.sub q p) g 1075 h k) (UO true (Nat.sub p q) g 1075 h k))))
  (ifB t (ifB (Nat.beq p q) (k 0) (ifB (Nat.ble q p) (UO false (Nat.sub p q) g 1075 h k) (UO true (Nat.sub q p) g 1075 h k))) (ifB (Nat.beq (Nat.add p q) 0) (k 0) (UO false (Nat.add p q) g 1075 (Nat.succ h) k)))
noncomputable def Pf (v w:Nat) (k:KN):Prop:=ifB (fnB w) (fcN (Nat.xor w 9223372036854775808) λw'=>Ih v w' k) False
noncomputable def Ak (v w:Nat) (k:KN):Prop:=GX v λs m e=>GX w λt n f=>UO (@Bool.rec (λ__=>Bool) t (@Bool.rec (λ__=>Bool) true false t) s) (Nat.mul m n) (Nat.add e f) 2150 104 k
noncomputable def Se (v w:Nat) (k:KN):Prop:=GX v λs m e=>GX w λt n f=>ifB (Nat.beq n 0) False (ifB (Nat.ble f e) (frC (@Bool.rec (λ__=>Bool) t (@Bool.rec (λ__=>Bool) true false t) s) (Nat.mul m (Nat.pow 2 (Nat.sub e f))) n 52 (Nat.add 52 (Nat.sub e f)) k) (frC (@Bool.rec (λ__=>Bool) t (@Bool.rec (λ__=>Bool) true false t) s) m (Nat.mul n (Nat.pow 2 (Nat.sub f e))) (Nat.add 52 (Nat.sub f e)) 52 k))
noncomputable def HS (v w:Nat) (l e g:Prop):Prop:=GX v λs m x=>GX w λt n y=>ifB s False (ifB t False (alC x y m n λp q __=>ifB (Nat.beq p q) e (ifB (Nat.ble p q) l g)))
noncomputable def P6 (v:Nat) (k:KN):Prop:=GX v λs m e=>alC e 1023 m 4503599627370496 λp q g=>fcN (Nat.mod p q) λr=>ifB (Nat.beq r 0) (k 0)
 (UO s r g 1075 (Nat.sub (Nat.add 51 e) g) λz=>fcN (Nat.mod z 18446744073709551616) λz=>GX z λs' m' __=>ifB (Nat.beq m' 0) False (ifB s' (Ih z 4607182418800017408 k) (k z)))
noncomputable def Cp (v:Nat) (p:Prop):Prop:=GX v λs m e=>ifB s False (ifB (Nat.ble 1075 e) False (ifB (Nat.ble (Nat.pow 2 (Nat.sub 1075 e)) m) False p))
noncomputable def Ht (v:Nat) (k:KN):Prop:=GX v λs m e=>ifB s False (ifB (Nat.ble 1075 e) (fcN (Nat.mul m (Nat.pow 2 (Nat.sub e 1075))) k) (fcN (Nat.div m (Nat.pow 2 (Nat.sub 1075 e))) k))
end
theorem Yy {n:Nat} {k:KN}:fcN n k=k n:=by cases n <;> rfl
theorem XQ {b:Bool} {p q:Prop} (h:ifB b p q):(b=true∧p)∨(b=false∧q):=by
 cases b with
 | true=>exact .inl ⟨rfl,h⟩
 | false=>exact .inr ⟨rfl,h⟩
theorem MM {v:Nat} (h:fnB v=true):Nat.beq (exB v) 2047=false:=by
 unfold fnB at h
 cases q:Nat.beq (exB v) 2047 with
 | true=>rw [q] at h;cases h
 | false=>rfl
theorem HY {x:UInt64} {k:Bool→Nat→Nat→Prop} (h:GX x.toNat k):decode x=.fin (sB x.toNat) (mB x.toNat) ((eB x.toNat:Int)-1075)∧k (sB x.toNat) (mB x.toNat) (eB x.toNat):=by
 unfold GX at h
 refine Xi λgk=>?_;rcases XQ h with ⟨hf,h⟩ | ⟨_,h⟩ <;> (refine gk ?_;clear gk)
 ·rw [Yy,Yy] at h
  refine ⟨Zv (MM hf),?_⟩
  rcases XQ h with ⟨e,h⟩ | ⟨e,h⟩ <;> rw [e] <;> exact h
 ·exact h.elim
theorem YC {x:UInt64} {k:Bool→Nat→Nat→Prop} (h:GX x.toNat k) {C':Prop} (f':decode x=.fin (sB x.toNat) (mB x.toNat) ((eB x.toNat:Int)-1075)→k (sB x.toNat) (mB x.toNat) (eB x.toNat)→C'):C':=by refine (HY h).elim λq0 q1=>?_;exact f' q0 q1
theorem SK {n a:Nat} (h:Nat.beq (Nat.shiftRight n a) 1=true):Nat.log2 n=a∧n≠0:=by
 have h:n >>> a=1:=Nat.eq_of_beq_eq_true h
 rw [Nat.shiftRight_eq_div_pow] at h
 have hp:0<2 ^ a:=Nat.pow_pos (by decide)
 have h1:2 ^ a≤n:=by
  have:=Nat.div_mul_le_self n (2 ^ a)
  rw [h] at this;omega
 have h2:n<2 ^ (a+1):=by
  have:=Nat.lt_div_mul_add (a:=n) hp
  rw [h] at this
  rw [Nat.pow_succ];omega
 exact ⟨(Nat.log2_eq_iff (by omega)).mpr ⟨h1,h2⟩,by omega⟩
theorem Fm {n a:Nat} (h:Nat.beq (Nat.shiftRight n a) 1=true) {C':Prop} (f':Nat.log2 n=a→n≠0→C'):C':=by refine (SK h).elim λq0 q1=>?_;exact f' q0 q1
theorem IZ {n d a b:Nat} {k:KN} (h:rmL n d a b k):roundMag n d<infMag∧k (roundMag n d):=by
 unfold rmL at h
 refine Xi λgk=>?_;rcases XQ h with ⟨e,h⟩ | ⟨_,h⟩ <;> (refine gk ?_;clear gk)
 ·refine Xi λgk=>?_;rcases XQ h with ⟨e',h⟩ | ⟨_,h⟩ <;> (refine gk ?_;clear gk)
  ·refine Fm e λea hn=>?_
   refine Fm e' λeb __=>?_
   rw [Yy,Yy,Yy] at h
   have ex:exL n d a b=exN n d:=by unfold exN geN;rw [ea,eb];rfl
   rw [ex] at h
   refine Xi λgk=>?_;rcases XQ h with ⟨_,h⟩ | ⟨q,h⟩ <;> (refine gk ?_;clear gk)
   ·exact h.elim
   ·rw [← Pc]
    obtain ⟨j,rfl⟩:∃ j,n=j+1:=⟨n-1,by omega⟩
    have e0:rmN (j+1) d=min infMag (Nat.add (Nat.mul (exN (j+1) d) 4503599627370496) (D3 (j+1) d (exN (j+1) d))):=rfl
    have q:¬ infMag≤Nat.add (Nat.mul (exN (j+1) d) 4503599627370496) (D3 (j+1) d (exN (j+1) d)):=λw=>by rw [Nat.ble_eq.mpr w] at q;cases q
    rw [e0,Nat.min_eq_right (Nat.le_of_not_le q)]
    exact ⟨Nat.lt_of_not_le q,h⟩
  ·exact h.elim
 ·exact h.elim
theorem Wf {l:List Nat} {n a:Nat} {k:KN} (h:lgS l n a k):∃ b,k b:=by
 induction l generalizing n a with
 | nil=>exact ⟨a,Eq.mp Yy (show fcN a k from h)⟩
 | cons s l ih=>
  have h:fcN (Nat.shiftRight n s) (λt=>ifB (Nat.beq t 0) (lgS l n a k) (lgS l t (Nat.add a s) k)):=h
  rw [Yy] at h
  rcases XQ h with ⟨_,h⟩ | ⟨_,h⟩ <;> exact ih h
theorem Bm {n:Nat} {k:KN} (h:lgC n k):∃ b,k b:=by
 rcases XQ h with ⟨_,h⟩ | ⟨_,h⟩ <;> exact Wf h
theorem Io {g n:Nat} {k:KN} (h:lgH g n k):∃ b,k b:=by
 unfold lgH at h
 rw [Yy] at h
 rcases XQ h with ⟨_,h⟩ | ⟨_,h⟩
 ·exact ⟨_,h⟩
 ·rcases XQ h with ⟨_,h⟩ | ⟨_,h⟩
  ·exact ⟨_,h⟩
  ·exact Bm h
theorem WP {n d b g:Nat} {k:KN} (h:rmC n d b g k):roundMag n d<infMag∧k (roundMag n d):=by
 unfold rmC at h
 rw [Yy,Yy] at h
 refine Xi λgk=>?_;rcases XQ h with ⟨e,h⟩ | ⟨e,h⟩ <;> (refine gk ?_;clear gk)
 ·have:=Nat.eq_of_beq_eq_true e
  clear e;subst this
  exact ⟨by show (0:Nat)<infMag;decide,h⟩
 ·refine (Io h).elim λa h=>?_
  exact IZ h
theorem TD {n d b g:Nat} {k:KN} (h:rmC n d b g k) {C':Prop} (f':roundMag n d<infMag→k (roundMag n d)→C'):C':=by refine (WP h).elim λq0 q1=>?_;exact f' q0 q1
theorem Uq {s:Bool} {n d b g:Nat} {k:KN} (h:frC s n d b g k):∃ z,ofFrac s n d=z.toUInt64∧k z:=by
 refine TD h λ__ h=>?_
 cases s with
 | true=>
  have h:fcN (Nat.add 9223372036854775808 (roundMag n d)) k:=h
  rw [Yy] at h
  exact ⟨_,by unfold ofFrac pack;rfl,h⟩
 | false=>exact ⟨_,by unfold ofFrac pack;rw [if_neg (by decide),Nat.zero_add],h⟩
theorem Iq {n d b g:Nat} {k:KN} (h:frC false n d b g k):isInf (ofFrac false n d)=false∧k (roundMag n d)∧ofFrac false n d=(roundMag n d).toUInt64:=by
 refine TD h λhl h=>?_
 have e:ofFrac false n d=(roundMag n d).toUInt64:=by unfold ofFrac pack;rw [if_neg (by decide),Nat.zero_add]
 refine ⟨?_,h,e⟩
 rw [e]
 generalize roundMag n d=z at hl
 have hz:z.toUInt64.toNat=z:=by
  have:z<2 ^ 64:=Nat.lt_trans hl (by decide)
  simp [Nat.toUInt64,UInt64.toNat_ofNat',Nat.mod_eq_of_lt this]
 have hf:Nat.beq (exB z.toUInt64.toNat) 2047=false:=by
  rw [hz]
  have:exB z≠2047:=by
   show z/4503599627370496 % 2048≠2047
   have hl:z<2047*4503599627370496:=hl
   omega
  cases q:Nat.beq (exB z) 2047 with
  | true=>exact absurd (Nat.eq_of_beq_eq_true q) this
  | false=>rfl
 unfold isInf
 rw [Zv hf]
theorem Hk {s:Bool} {m e o l:Nat} {k:KN} (h:UO s m e o l k):∃ z,ofBin s m ((e:Int)-o)=z.toUInt64∧k z:=by
 unfold ofBin shift
 refine Xi λgk=>?_;rcases XQ h with ⟨q,h⟩ | ⟨q,h⟩ <;> (refine gk ?_;clear gk)
 ·have q:=Nat.le_of_ble_eq_true q
  rw [if_pos (by omega)]
  have z:(((e:Int)-o)).toNat=e-o:=by omega
  rw [z]
  exact Uq h
 ·have q:¬ o≤e:=λw=>by rw [Nat.ble_eq.mpr w] at q;cases q
  rw [if_neg (by omega)]
  have z:(-((e:Int)-o)).toNat=o-e:=by omega
  rw [z,Nat.one_mul]
  exact Uq h
theorem NR {s:Bool} {m e o l:Nat} {k:KN} (h:UO s m e o l k) {C':Prop} (f':∀ z,ofBin s m ((e:Int)-o)=z.toUInt64→k z→C'):C':=by refine (Hk h).elim λz zz=>zz.elim λq0 q1=>?_;exact f' z q0 q1
theorem CI (a b:Nat):mnN a b=min a b:=by
 unfold mnN;rw [Cd]
 by_cases h:a≤b
 ·rw [if_pos (Nat.ble_eq.mpr h),Nat.min_eq_left h]
 ·rw [if_neg (λq=>h (Nat.le_of_ble_eq_true q)),Nat.min_eq_right (Nat.le_of_not_le h)]
theorem W2 {a b:Bool} {e f m n:Nat} {k:Nat→Nat→Nat→Prop} (h:alC e f m n k) :
  ∃ p q g:Nat,align a m ((e:Int)-1075) b n ((f:Int)-1075)=(sgn a p,sgn b q,(g:Int)-1075)∧k p q g:=by
 unfold alC at h
 rw [Yy,Yy,Yy] at h
 refine ⟨_,_,_,?_,h⟩
 rw [CI]
 unfold align
 have z1:min ((e:Int)-1075) ((f:Int)-1075)=((min e f:Nat):Int)-1075:=by omega
 have z2:((e:Int)-1075-(((min e f:Nat):Int)-1075)).toNat=e-min e f:=by omega
 have z3:((f:Int)-1075-(((min e f:Nat):Int)-1075)).toNat=f-min e f:=by omega
 dsimp only
 rw [z1,z2,z3]
 rfl
theorem UM {a b:Bool} {e f m n:Nat} {k:Nat→Nat→Nat→Prop} (h:alC e f m n k) {C':Prop} (f':∀ (p q g:Nat),align a m ((e:Int)-1075) b n ((f:Int)-1075)=(sgn a p,sgn b q,(g:Int)-1075)→k p q g→C'):C':=by obtain ⟨p,q,g,q0,q1⟩:=W2 h;exact f' p q g q0 q1
theorem Ve {a b:Nat} (h:Nat.ble a b=false):b<a:=Nat.lt_of_not_le λw=>by rw [Nat.ble_eq.mpr w] at h;cases h
theorem Jt {s:Bool} {m g l:Nat} {k:KN} (h:UO s m g 1075 l k):∃ z,ofBin s m ((g:Int)-1075)=z.toUInt64∧k z:=by
 refine NR h λz e h=>?_
 refine ⟨z,?_,h⟩
 rw [← e]
 rfl
theorem RA:zero false=(0:Nat).toUInt64:=by rfl
theorem Bj {p q:Prop}:ifB true p q=p:=rfl
theorem R2 {p q:Prop}:ifB false p q=q:=rfl
theorem Bq {p q:Nat}:decide (sgn false p+sgn false q<0)=false∧(sgn false p+sgn false q).natAbs=p+q∧(((sgn false p+sgn false q)==0)=true↔p+q=0):=by refine ⟨?_,?_,?_⟩ <;> simp [sgn] <;> omega
theorem SL {p q:Nat} (h:p+q≠0):decide (sgn true p+sgn true q<0)=true∧(sgn true p+sgn true q).natAbs=p+q∧¬ ((sgn true p+sgn true q)==0)=true:=by refine ⟨?_,?_,?_⟩ <;> simp [sgn] <;> omega
theorem Ib {p q:Nat}:((sgn false p+sgn true q)==0)=true↔p=q:=by simp [sgn];omega
theorem Hg {p q:Nat} (d:q≤p):decide (sgn false p+sgn true q<0)=false∧(sgn false p+sgn true q).natAbs=p-q:=by constructor <;> simp [sgn] <;> omega
theorem Fb {p q:Nat} (d:p<q):decide (sgn false p+sgn true q<0)=true∧(sgn false p+sgn true q).natAbs=q-p:=by constructor <;> simp [sgn] <;> omega
theorem Hs {p q:Nat}:((sgn true p+sgn false q)==0)=true↔p=q:=by simp [sgn];omega
theorem Hi {p q:Nat} (d:p≤q):decide (sgn true p+sgn false q<0)=false∧(sgn true p+sgn false q).natAbs=q-p:=by constructor <;> simp [sgn] <;> omega
theorem Ha {p q:Nat} (d:q<p):decide (sgn true p+sgn false q<0)=true∧(sgn true p+sgn false q).natAbs=p-q:=by constructor <;> simp [sgn] <;> omega
theorem UV {x y:UInt64} {k:KN} (h:Ih x.toNat y.toNat k):∃ z,Float64.add x y=z.toUInt64∧k z:=by
 refine Xi λgk=>?_
 refine YC h λe1 h=>?_
 refine YC h λe2 h=>?_
 refine gk ?_;clear gk
 unfold Float64.add
 rw [e1,e2]
 dsimp only
 generalize sB x.toNat=s at h
 generalize sB y.toNat=t at h
 refine Xi λgk=>?_
 refine UM (a:=s) (b:=t) h λp q g e3 h=>?_
 refine gk ?_;clear gk
 rw [e3]
 rw [Yy] at h
 dsimp only
 cases s <;> cases t
 ·rw [R2,R2] at h
  refine Xi λgk=>?_;rcases XQ h with ⟨c,h⟩ | ⟨c,h⟩ <;> (refine gk ?_;clear gk)
  ·rw [if_pos (Bq.2.2.mpr (Nat.eq_of_beq_eq_true c))]
   exact ⟨0,RA,h⟩
  ·rw [if_neg λw=>Nat.ne_of_beq_eq_false c (Bq.2.2.mp w),Bq.1,Bq.2.1]
   exact Jt h
 ·rw [R2,Bj] at h
  refine Xi λgk=>?_;rcases XQ h with ⟨c,h⟩ | ⟨c,h⟩ <;> (refine gk ?_;clear gk)
  ·rw [if_pos (Ib.mpr (Nat.eq_of_beq_eq_true c))]
   exact ⟨0,RA,h⟩
  ·rw [if_neg λw=>Nat.ne_of_beq_eq_false c (Ib.mp w)]
   refine Xi λgk=>?_;rcases XQ h with ⟨d,h⟩ | ⟨d,h⟩ <;> (refine gk ?_;clear gk)
   ·rw [(Hg (Nat.le_of_ble_eq_true d)).1,(Hg (Nat.le_of_ble_eq_true d)).2]
    exact Jt h
   ·rw [(Fb (Ve d)).1,(Fb (Ve d)).2]
    exact Jt h
 ·rw [Bj,R2] at h
  refine Xi λgk=>?_;rcases XQ h with ⟨c,h⟩ | ⟨c,h⟩ <;> (refine gk ?_;clear gk)
  ·rw [if_pos (Hs.mpr (Nat.eq_of_beq_eq_true c))]
   exact ⟨0,RA,h⟩
  ·rw [if_neg λw=>Nat.ne_of_beq_eq_false c (Hs.mp w)]
   refine Xi λgk=>?_;rcases XQ h with ⟨d,h⟩ | ⟨d,h⟩ <;> (refine gk ?_;clear gk)
   ·rw [(Hi (Nat.le_of_ble_eq_true d)).1,(Hi (Nat.le_of_ble_eq_true d)).2]
    exact Jt h
   ·rw [(Ha (Ve d)).1,(Ha (Ve d)).2]
    exact Jt h
 ·rw [Bj,Bj] at h
  refine Xi λgk=>?_;rcases XQ h with ⟨c,h⟩ | ⟨c,h⟩ <;> (refine gk ?_;clear gk)
  ·exact h.elim
  ·have:=SL (Nat.ne_of_beq_eq_false c)
   rw [if_neg this.2.2,this.1,this.2.1]
   exact Jt h
theorem WD {y:UInt64} (h:fnB y.toNat=true):(Float64.neg y).toNat=Nat.xor y.toNat 9223372036854775808:=by
 unfold Float64.neg Float64.isNaN
 rw [Zv (MM h)]
 show (y ^^^ pack true 0).toNat=_
 rw [UInt64.toNat_xor]
 rfl
theorem FI {x y:UInt64} {k:KN} (h:Pf x.toNat y.toNat k):∃ z,Float64.sub x y=z.toUInt64∧k z:=by
 unfold Pf at h
 refine Xi λgk=>?_;rcases XQ h with ⟨hf,h⟩ | ⟨_,h⟩ <;> (refine gk ?_;clear gk)
 ·rw [Yy,← WD hf] at h
  unfold Float64.sub
  exact UV h
 ·exact h.elim
theorem FY (s t:Bool):@Bool.rec (λ__=>Bool) t (@Bool.rec (λ__=>Bool) true false t) s=(s != t):=by cases s <;> cases t <;> rfl
theorem F1 {x y:UInt64} {k:KN} (h:Ak x.toNat y.toNat k):∃ z,Float64.mul x y=z.toUInt64∧k z:=by
 refine Xi λgk=>?_
 refine YC h λe1 h=>?_
 refine YC h λe2 h=>?_
 refine gk ?_;clear gk
 unfold Float64.mul
 rw [e1,e2]
 rw [FY] at h
 refine Xi λgk=>?_
 refine NR h λz e h=>?_
 refine gk ?_;clear gk
 refine ⟨z,?_,h⟩
 rw [← e]
 show ofBin _ _ _=_
 congr 1
 show _=((eB x.toNat+eB y.toNat:Nat):Int)-((2150:Nat):Int)
 omega
theorem F6 {x y:UInt64} {k:KN} (h:Se x.toNat y.toNat k):isZero y=false∧∃ z,Float64.div x y=z.toUInt64∧k z:=by
 refine Xi λgk=>?_
 refine YC h λe1 h=>?_
 refine YC h λe2 h=>?_
 refine gk ?_;clear gk
 rw [FY] at h
 refine Xi λgk=>?_;rcases XQ h with ⟨_,h⟩ | ⟨hz,h⟩ <;> (refine gk ?_;clear gk)
 ·exact h.elim
 have hz:=Nat.ne_of_beq_eq_false hz
 refine ⟨?_,?_⟩
 ·unfold isZero
  rw [e2]
  split
  ·rename_i he;injection he with _ he;exact absurd he hz
  ·rfl
 unfold Float64.div
 rw [e1,e2]
 dsimp only
 rw [if_neg (by simpa using hz)]
 unfold shift
 refine Xi λgk=>?_;rcases XQ h with ⟨q,h⟩ | ⟨q,h⟩ <;> (refine gk ?_;clear gk)
 ·have q:=Nat.le_of_ble_eq_true q
  rw [if_pos (by omega)]
  have z:((eB x.toNat:Int)-1075-((eB y.toNat:Int)-1075)).toNat=eB x.toNat-eB y.toNat:=by omega
  rw [z]
  exact Uq h
 ·have q:=Ve q
  rw [if_neg (by omega)]
  have z:(-((eB x.toNat:Int)-1075-((eB y.toNat:Int)-1075))).toNat=eB y.toNat-eB x.toNat:=by omega
  rw [z]
  exact Uq h
theorem UR {x y:UInt64} {l e g:Prop} (h:HS x.toNat y.toNat l e g):(Float64.cmp x y=some .lt∧l)∨(Float64.cmp x y=some .eq∧e)∨(Float64.cmp x y=some .gt∧g):=by
 refine Xi λgk=>?_
 refine YC h λe1 h=>?_
 refine YC h λe2 h=>?_
 refine gk ?_;clear gk
 unfold Float64.cmp
 rw [e1,e2]
 dsimp only
 refine Xi λgk=>?_;rcases XQ h with ⟨_,h⟩ | ⟨s1,h⟩ <;> (refine gk ?_;clear gk)
 ·exact h.elim
 refine Xi λgk=>?_;rcases XQ h with ⟨_,h⟩ | ⟨s2,h⟩ <;> (refine gk ?_;clear gk)
 ·exact h.elim
 rw [s1,s2]
 refine Xi λgk=>?_
 refine UM (a:=false) (b:=false) h λp q g' e3 h=>?_
 refine gk ?_;clear gk
 rw [e3]
 show (some (compare ((p:Int)) ((q:Int)))=_∧_)∨(some (compare ((p:Int)) ((q:Int)))=_∧_)∨(some (compare ((p:Int)) ((q:Int)))=_∧_)
 refine Xi λgk=>?_;rcases XQ h with ⟨c,h'⟩ | ⟨c,h⟩ <;> (refine gk ?_;clear gk)
 ·clear e3 h;obtain rfl:=Nat.eq_of_beq_eq_true c
  exact .inr (.inl ⟨by show some (compareOfLessAndEq _ _)=_;unfold compareOfLessAndEq;rw [if_neg (by omega),if_pos rfl],h'⟩)
 ·have c:=Nat.ne_of_beq_eq_false c
  refine Xi λgk=>?_;rcases XQ h with ⟨d,h⟩ | ⟨d,h⟩ <;> (refine gk ?_;clear gk)
  ·have d:=Nat.le_of_ble_eq_true d
   exact .inl ⟨by show some (compareOfLessAndEq _ _)=_;unfold compareOfLessAndEq;rw [if_pos (by omega)],h⟩
  ·have d:=Ve d
   exact .inr (.inr ⟨by show some (compareOfLessAndEq _ _)=_;unfold compareOfLessAndEq;rw [if_neg (by omega),if_neg (by omega)],h⟩)
theorem Ij:decode 0x3ff0000000000000=.fin false 4503599627370496 (((1023:Nat):Int)-1075):=by
 rw [Zv (x:=0x3ff0000000000000) dk];rfl
theorem C7:Float64.lt 0x3ff0000000000000 (zero false)=false:=by decide +kernel
theorem PO:copysign (zero false) 0x3ff0000000000000=(0:Nat).toUInt64:=by decide +kernel
theorem Rb (x y:UInt64):(Float64.divmod x y).2=if isZero (fmod x y) then copysign (zero false) y else if Float64.lt y (zero false) != Float64.lt (fmod x y) (zero false) then Float64.add (fmod x y) y else fmod x y:=by
 unfold Float64.divmod
 dsimp only
 by_cases h1:isZero (fmod x y)=true
 ·rw [if_pos h1,if_pos h1]
 ·rw [if_neg h1,if_neg h1]
  by_cases h2:(Float64.lt y (zero false) != Float64.lt (fmod x y) (zero false))=true
  ·rw [if_pos h2,if_pos h2]
  ·rw [if_neg h2,if_neg h2]
theorem KF (s:Bool) (e:Int):ofBin s 0 e=pack s 0:=by
 unfold ofBin shift
 by_cases h:e≥0
 ·rw [if_pos h,Nat.zero_mul];show ofFrac s 0 1=_;unfold ofFrac;rfl
 ·rw [if_neg h];show ofFrac s 0 _=_;unfold ofFrac;rfl
theorem Lb (s:Bool):isZero (pack s 0)=true:=by cases s <;> decide +kernel
theorem Ip {x:UInt64} {s:Bool} {m:Nat} {e:Int} (h:decode x=.fin s m e) (hm:m≠0):Float64.lt x (zero false)=s:=by
 unfold Float64.lt Float64.cmp
 rw [h,show decode (zero false)=.fin false 0 (-1074) from by rw [Zv (x:=zero false) dk];rfl]
 unfold align
 dsimp only
 have hp:0<m*2 ^ (e-min e (-1074)).toNat:=Nat.mul_pos (Nat.pos_of_ne_zero hm) (Nat.pow_pos (by decide))
 rw [Nat.zero_mul]
 generalize m*2 ^ (e-min e (-1074)).toNat=p at hp
 cases s with
 | true=>
  have:compare (sgn true p) (sgn false 0)=Ordering.lt:=by show compareOfLessAndEq _ _=_;unfold compareOfLessAndEq;rw [if_pos (by simp [sgn];omega)]
  rw [this];rfl
 | false=>
  have:compare (sgn false p) (sgn false 0)=Ordering.gt:=by show compareOfLessAndEq _ _=_;unfold compareOfLessAndEq;rw [if_neg (by simp [sgn]),if_neg (by simp [sgn];omega)]
  rw [this];rfl
theorem Jq (z:Nat):z.toUInt64.toNat=Nat.mod z 18446744073709551616:=by
 show (UInt64.ofNat z).toNat=_
 rw [UInt64.toNat_ofNat'];rfl
theorem FD {x:UInt64} {k:KN} (h:P6 x.toNat k):∃ z,(Float64.divmod x 0x3ff0000000000000).2=z.toUInt64∧k z:=by
 refine Xi λgk=>?_
 refine YC h λe1 h=>?_
 refine UM (a:=false) (b:=false) h λp q g e3 h=>?_
 refine gk ?_;clear gk
 rw [Yy] at h
 have em:fmod x 0x3ff0000000000000=ofBin (sB x.toNat) (Nat.mod p q) ((g:Int)-1075):=by
  unfold fmod
  rw [e1,Ij]
  dsimp only
  rw [e3]
  rfl
 rw [Rb,em,C7]
 generalize sB x.toNat=s at h
 generalize Nat.mod p q=r at h
 refine Xi λgk=>?_;rcases XQ h with ⟨c,h⟩ | ⟨c,h⟩ <;> (refine gk ?_;clear gk)
 ·have c:=Nat.eq_of_beq_eq_true c
  subst c
  rw [KF,Lb,if_pos rfl]
  exact ⟨0,PO,h⟩
 ·obtain ⟨z,ez,h⟩:=Jt h
  rw [Yy,← Jq] at h
  rw [ez]
  refine YC h λe4 h=>?_
  refine Xi λgk=>?_;rcases XQ h with ⟨_,h⟩ | ⟨hm,h⟩ <;> (refine gk ?_;clear gk)
  ·exact h.elim
  have hm:=Nat.ne_of_beq_eq_false hm
  have hz:isZero z.toUInt64=false:=by
   unfold isZero
   rw [e4]
   split
   ·rename_i he;injection he with _ he;exact absurd he hm
   ·rfl
  rw [hz,if_neg (by decide),Ip e4 hm]
  refine Xi λgk=>?_;rcases XQ h with ⟨hs,h⟩ | ⟨hs,h⟩ <;> (refine gk ?_;clear gk)
  ·rw [hs,if_pos (by decide)]
   exact UV (y:=0x3ff0000000000000) h
  ·rw [hs,if_neg (by decide)]
   refine ⟨_,?_,h⟩
   rw [Jq]
   exact UInt64.toNat_inj.mp (by rw [Jq,Jq];exact (Nat.mod_mod _ _).symm)
theorem Wl {x:UInt64} (h:fnB x.toNat=true):(Float64.cmp x x==some Ordering.eq)=true:=by
 unfold Float64.cmp
 rw [Zv (MM h)]
 unfold align
 dsimp only
 have:∀ i:Int,compare i i=Ordering.eq:=λi=>by show compareOfLessAndEq _ _=_;unfold compareOfLessAndEq;rw [if_neg (by omega),if_pos rfl]
 rw [this];rfl
theorem D4 {x:UInt64} {p:Prop} (h:Cp x.toNat p):(cmpInt x 0==some Ordering.gt||cmpInt x 0==some Ordering.eq)=true∧(cmpInt x 1==some Ordering.lt)=true∧p:=by
 refine Xi λgk=>?_
 refine YC h λe1 h=>?_
 refine gk ?_;clear gk
 unfold cmpInt
 rw [e1]
 dsimp only
 refine Xi λgk=>?_;rcases XQ h with ⟨_,h⟩ | ⟨hs,h⟩ <;> (refine gk ?_;clear gk)
 ·exact h.elim
 refine Xi λgk=>?_;rcases XQ h with ⟨_,h⟩ | ⟨he,h⟩ <;> (refine gk ?_;clear gk)
 ·exact h.elim
 refine Xi λgk=>?_;rcases XQ h with ⟨_,h⟩ | ⟨hm,h⟩ <;> (refine gk ?_;clear gk)
 ·exact h.elim
 have he:=Ve he
 have hm:=Ve hm
 rw [hs,if_neg (by omega),if_neg (by omega)]
 have z:(-((eB x.toNat:Int)-1075)).toNat=1075-eB x.toNat:=by omega
 rw [z,Int.zero_mul,Int.one_mul]
 have hm:mB x.toNat<2 ^ (1075-eB x.toNat):=hm
 have hm':(mB x.toNat:Int)<2 ^ (1075-eB x.toNat):=by exact_mod_cast hm
 refine ⟨?_,?_,h⟩
 ·generalize mB x.toNat=m
  cases m with
  | zero=>
   have:compare (sgn false 0) (0:Int)=Ordering.eq:=rfl
   rw [this];rfl
  | succ m=>
   have:compare (sgn false (m+1)) (0:Int)=Ordering.gt:=by show compareOfLessAndEq _ _=_;unfold compareOfLessAndEq;rw [if_neg (by simp [sgn];omega),if_neg (by simp [sgn];omega)]
   rw [this];rfl
 ·have:compare (sgn false (mB x.toNat)) ((2:Int) ^ (1075-eB x.toNat))=Ordering.lt:=by show compareOfLessAndEq _ _=_;unfold compareOfLessAndEq;rw [if_pos (by simpa [sgn] using hm')]
  rw [this];rfl
theorem KT {x:UInt64} {k:KN} (h:Ht x.toNat k):∃ s m e,decode x=.fin s m e∧∃ n:Nat,truncOf s m e=(n:Int)∧k n:=by
 refine Xi λgk=>?_
 refine YC h λe1 h=>?_
 refine gk ?_;clear gk
 refine ⟨_,_,_,e1,?_⟩
 refine Xi λgk=>?_;rcases XQ h with ⟨_,h⟩ | ⟨hs,h⟩ <;> (refine gk ?_;clear gk)
 ·exact h.elim
 rw [hs]
 rw [Yy,Yy] at h
 show ∃ n:Nat,floorOf false (mB x.toNat) ((eB x.toNat:Int)-1075)=(n:Int)∧k n
 unfold floorOf
 refine Xi λgk=>?_;rcases XQ h with ⟨q,h⟩ | ⟨q,h⟩ <;> (refine gk ?_;clear gk)
 ·have q:=Nat.le_of_ble_eq_true q
  rw [if_pos (by omega)]
  have z:((eB x.toNat:Int)-1075).toNat=eB x.toNat-1075:=by omega
  rw [z]
  refine ⟨_,?_,h⟩
  show (mB x.toNat:Int)*2 ^ _=((mB x.toNat*2 ^ _:Nat):Int)
  push_cast;rfl
 ·have q:=Ve q
  rw [if_neg (by omega)]
  have z:(-((eB x.toNat:Int)-1075)).toNat=1075-eB x.toNat:=by omega
  rw [z]
  refine ⟨_,?_,h⟩
  show (mB x.toNat:Int).fdiv (2 ^ _)=((mB x.toNat/2 ^ _:Nat):Int)
  have:(2:Int) ^ (1075-eB x.toNat)=((2 ^ (1075-eB x.toNat):Nat):Int):=by push_cast;rfl
  rw [this]
  exact (Int.ofNat_fdiv _ _).symm
theorem Wc {n d b g:Nat} {k:KN} (h:frC false n d b g k):∃ x:UInt64,ofFrac false n d=x∧k x.toNat:=by
 refine TD h λhl h=>?_
 refine ⟨_,rfl,?_⟩
 have e:ofFrac false n d=(roundMag n d).toUInt64:=by unfold ofFrac pack;rw [if_neg (by decide),Nat.zero_add]
 rw [e,Jq,show Nat.mod (roundMag n d) 18446744073709551616=roundMag n d from Nat.mod_eq_of_lt (Nat.lt_trans hl (by decide))]
 exact h
end
section
set_option tactic.hygienic false
open PySem PyProof.Rows
theorem Gn {M:Model} {Γ:Ctx} {p:Pos} {t:Sem Fin} {fs:List Frame} {s:Shared} {e:End} {s':Shared} (h:Runs M Γ p t fs s e s'):s.toks≤s'.toks:=by
 induction h with
 | fresh _ ih=>exact Nat.le_of_succ_le ih
 | done=>exact Nat.le_refl _
 | raise=>exact Nat.le_refl _
 | yield=>exact Nat.le_refl _
 | call _ _ i j=>exact Nat.le_trans i j
 | segRet _ _ i j=>exact Nat.le_trans i j
 | segGen _ _ i j=>exact Nat.le_trans i j
 | segSuspGen _ _ _ _ i j=>exact Nat.le_trans i j
 | resumeFresh _ _ _ _ i j=>exact Nat.le_trans i j
 | resumeSuspended _ _ _ _ i j=>exact Nat.le_trans i j
 | _=>assumption
theorem UG {M:Model} {Γ:Ctx} {p:Pos} {g:Nat} {r:Resume} {s:Shared} {res:GenResult} {s':Shared} (h:Wakes M Γ p g r s res s'):s.toks≤s'.toks:=by
 unfold Wakes at h
 split at h
 ·exact h.elim
 ·split at h
  ·obtain ⟨_,s₁,h,_,_,rfl⟩:=h;have e:=Gn h;exact e
  ·rw [h.2];exact Nat.le_refl _
  ·rw [h.2];exact Nat.le_refl _
 ·obtain ⟨_,s₁,h,_,_,rfl⟩:=h;have e:=Gn h;exact e
 ·rw [h.2];exact Nat.le_refl _
 ·rw [h.2];exact Nat.le_refl _
theorem Iz {α:Type} {M:Model} {Γ:Ctx} {n:Nat} {Q:α→Pos→Shared→Prop} {E:Value→Pos→Shared→Prop}:∀ (t:Sem α) (p:Pos) (s:Shared),n≤s.toks→Sem.wp M Γ t (λa p s'=>n≤s'.toks→Q a p s') (λe p s'=>n≤s'.toks→E e p s') p s→Sem.wp M Γ t Q E p s:=by
 intro t
 induction t with
 | pure a=>
  intro p s hn h
  rw [Sem.wp] at h ⊢;exact h hn
 | raise e=>
  intro p s hn h
  rw [Sem.wp] at h ⊢;exact h hn
 | unsupported _=>
  intro p s hn h
  rw [Sem.wp] at h;exact h.elim
 | finish _=>
  intro p s hn h
  rw [Sem.wp] at h;exact h.elim
 | rule _ k ih=>
  intro p s hn h
  rw [Sem.wp] at h ⊢;exact (by first | exact ih _ _ _ hn h | exact ih _ _ hn h)
 | «at» p' k ih=>
  intro p s hn h
  rw [Sem.wp] at h ⊢;exact (by first | exact ih _ _ _ hn h | exact ih _ _ hn h)
 | load a _ k ih=>
  intro p s hn h
  rw [Sem.wp] at h ⊢;refine h.elim λo zz=>zz.elim λe h=>?_;exact ⟨o,e,(by first | exact ih _ _ _ hn h | exact ih _ _ hn h)⟩
 | update a _ f k ih=>
  intro p s hn h
  rw [Sem.wp] at h ⊢;exact ⟨h.1,(by first | exact ih _ _ _ hn h.2 | exact ih _ _ hn h.2)⟩
 | loadIfAlive a k ih=>
  intro p s hn h
  rw [Sem.wp] at h ⊢;exact (by first | exact ih _ _ _ hn h | exact ih _ _ hn h)
 | point _ k ih=>
  intro p s hn h
  rw [Sem.wp] at h ⊢;exact (by first | exact ih _ _ _ hn h | exact ih _ _ hn h)
 | register _ _=>
  intro p s hn h
  rw [Sem.wp] at h;exact h.elim
 | alloc o k ih=>
  intro p s hn h
  rw [Sem.wp] at h ⊢;exact (by first | exact ih _ _ _ hn h | exact ih _ _ hn h)
 | fresh k ih=>
  intro p s hn h
  rw [Sem.wp] at h ⊢;exact (by first | exact ih _ _ _ (Nat.le_succ_of_le hn) h | exact ih _ _ (Nat.le_succ_of_le hn) h)
 | ask k ih=>
  intro p s hn h
  rw [Sem.wp] at h ⊢;exact (by first | exact ih _ _ _ hn h | exact ih _ _ hn h)
 | choose src n k ih=>
  intro p s hn h
  rw [Sem.wp] at h ⊢;exact ⟨h.1,(by first | exact ih _ _ _ hn h.2 | exact ih _ _ hn h.2)⟩
 | os q _ k ih=>
  intro p s hn h
  rw [Sem.wp] at h ⊢;exact (by first | exact ih _ _ _ hn h | exact ih _ _ hn h)
 | call c hh _ _ k ih=>
  intro p s hn h
  rw [Sem.wp] at h ⊢
  refine Xi λgk=>?_
  refine h.elim λr zz=>zz.elim λs' zz=>zz.elim λhr h=>?_
  refine gk ?_;clear gk
  exact ⟨r,s',hr,(by first | exact ih _ _ _ (Nat.le_trans hn (Gn hr)) h | exact ih _ _ (Nat.le_trans hn (Gn hr)) h)⟩
 | handled own k ih=>
  intro p s hn h
  rw [Sem.wp] at h ⊢;exact (by first | exact ih _ _ _ hn h | exact ih _ _ hn h)
 | genState g k ih=>
  intro p s hn h
  rw [Sem.wp] at h ⊢;refine h.elim λo zz=>zz.elim λe h=>?_;exact ⟨o,e,(by first | exact ih _ _ _ hn h | exact ih _ _ hn h)⟩
 | newGen c k ih=>
  intro p s hn h
  rw [Sem.wp] at h ⊢;exact (by first | exact ih _ _ _ hn h | exact ih _ _ hn h)
 | resume g r _ k ih=>
  intro p s hn h
  rw [Sem.wp] at h ⊢
  refine Xi λgk=>?_
  refine h.elim λr zz=>zz.elim λs' zz=>zz.elim λhr h=>?_
  refine gk ?_;clear gk
  exact ⟨r,s',hr,(by first | exact ih _ _ _ (Nat.le_trans hn (UG hr)) h | exact ih _ _ (Nat.le_trans hn (UG hr)) h)⟩
 | yield=>
  intro p s hn h
  rw [Sem.wp] at h;exact h.elim
 | stack k ih=>
  intro p s hn h
  rw [Sem.wp] at h ⊢;exact (by first | exact ih _ _ _ hn h | exact ih _ _ hn h)
 | fork=>
  intro p s hn h
  rw [Sem.wp] at h;exact h.elim
 | thread k ih=>
  intro p s hn h
  rw [Sem.wp] at h ⊢;exact (by first | exact ih _ _ _ hn h | exact ih _ _ hn h)
 | await=>
  intro p s hn h
  rw [Sem.wp] at h;exact h.elim
theorem Lh {α:Type} {M:Model} {A:Around} {t:Sem α} {Q:α→Shared→Prop} {E:Value→Shared→Prop} {s:Shared} (h:wpAny M A t (λv s'=>s.toks≤s'.toks→Q v s') E s):wpAny M A t Q E s:=
 λΓ p hΓ=>by
  have h':=h Γ p hΓ
  refine Iz (n:=s.toks) (Q:=λa __ s'=>Q a s') (E:=λe __ s'=>E e s') t p s (Nat.le_refl _) ?_
  refine Sem.wp_mono M Γ t ?_ ?_ p s h'
  ·exact λ__ __ __ h=>h
  ·exact λ__ __ __ h __=>h
end
section
set_option tactic.hygienic false
class Cs where
 sh:MO→List (Addr×Obj)→List Value→List MV→Prop
 txt:Str→List Nat→Int→Prop
variable [iC:Cs]
noncomputable abbrev Rho:=Nat→List Addr
noncomputable def own (ρ:Rho) (a:Addr):Prop:=∃ i,a∈ρ i
structure Ext (ρ ρ':Rho) (h h':Heap):Prop where
 same:∀ i,ρ i≠[]→ρ' i=ρ i
 fresh:∀ a,own ρ' a→own ρ a∨h.get? a=none
 keep:∀ b o,h.get? b=some o→¬ own ρ b→h'.get? b=some o
 prv:∀ b∈ρ 0,∀ o,h.get? b=some o→h'.get? b=some o
theorem Ext.refl (ρ:Rho) (h:Heap):Ext ρ ρ h h:=⟨λ__ __=>rfl,λ__ x=>.inl x,λ__ __ e __=>e,λ__ __ __ e=>e⟩
theorem Ext.not {ρ ρ':Rho} {h h':Heap} (X:Ext ρ ρ' h h') {a:Addr} {o:Obj} (x:¬ Mine.own ρ a) (e:h.get? a=some o):¬ Mine.own ρ' a:=λy=>by
 rcases X.fresh a y with y | y
 ·exact x y
 ·rw [e] at y;cases y
theorem Ext.trans {ρ₁ ρ₂ ρ₃:Rho} {h₁ h₂ h₃:Heap} (X:Ext ρ₁ ρ₂ h₁ h₂) (Y:Ext ρ₂ ρ₃ h₂ h₃):Ext ρ₁ ρ₃ h₁ h₃:=by
 refine ⟨λi hi=>by have e:=X.same i hi;rw [Y.same i (e▸hi),e],λa ha=>?_,λb o e hb=>Y.keep b o (X.keep b o e hb) (X.not hb e),λb hb o e=>Y.prv b (by rw [X.same 0 (List.ne_nil_of_mem hb)];exact hb) o (X.prv b hb o e)⟩
 by_cases ho:Mine.own ρ₁ a
 ·exact .inl ho
 ·rcases Y.fresh a ha with y | y
  ·exact X.fresh a y
  ·cases e:h₁.get? a with
   | none=>exact .inr rfl
   | some o=>rw [X.keep a o e ho] at y;cases y
theorem Ext.of_keep {ρ:Rho} {h h':Heap} (k:∀ b o,h.get? b=some o→¬ Mine.own ρ b→h'.get? b=some o) (kp:∀ b∈ρ 0,∀ o,h.get? b=some o→h'.get? b=some o):Ext ρ ρ h h':=⟨λ__ __=>rfl,λ__ x=>.inl x,k,kp⟩
theorem Ext.of_all {ρ:Rho} {h h':Heap} (k:∀ b o,h.get? b=some o→h'.get? b=some o):Ext ρ ρ h h':=.of_keep (λb o e __=>k b o e) λb __ o e=>k b o e
theorem Ext.push (ρ:Rho) (h:Heap) (o:Obj):Ext ρ ρ h (h.push o):=.of_all λ__ __ e=>Heap.get?_push_of_some _ e
noncomputable def Sr (l:Bool):String:=match l with | true=>"list" | false=>"tuple"
noncomputable def SeqAt (h:Heap) (a:Addr) (l:Bool) (vs:List Value):Prop:=∃ n,h.get? a=some { cls:=.type (Sr l),data:=.seq vs.toArray n }
theorem SeqAt.plain {h:Heap} {a:Addr} {vs:List Value} (x:SeqAt h a true vs):h.PlainList a vs.toArray:=x
theorem SeqAt.list {h:Heap} {a:Addr} {vs:List Value} (x:SeqAt h a true vs):h.IsList a vs.toArray:=x.plain.isList
theorem SeqAt.tuple {h:Heap} {a:Addr} {vs:List Value} (x:SeqAt h a false vs):h.IsTuple a vs.toArray:=let ⟨n,e⟩:=x;⟨_,e,rfl,n,rfl⟩
noncomputable def toS (s:List Nat):Str:=⟨s.toArray⟩
mutual
inductive VR (ρ:Rho) (h:Heap):Value→MV→Prop
 | none:VR ρ h .none .none
 | bool (b):VR ρ h (.bool b) (.bool b)
 | int (i t):VR ρ h (.int i t) (.int i)
 | flt (x t):t≠0→VR ρ h (.float x t) (.flt x)
 | str (s t):VR ρ h (.str (toS s) t) (.str s)
 | seq {a l vs xs}:¬ own ρ a→SeqAt h a l vs→VRs ρ h vs xs→VR ρ h (.ref a) (.seq l xs)
 | rng {r a b c t u v}:¬ own ρ r→IsRange h r a b c t u v→VR ρ h (.ref r) (.rng a b c)
 | ref {a i F}:ρ (i+1)=a :: F→VR ρ h (.ref a) (.ref i)
 | txt {s t w n}:Cs.txt s w n→VR ρ h (.str s t) (.txt w n)
inductive VRs (ρ:Rho) (h:Heap):List Value→List MV→Prop
 | nil:VRs ρ h [] []
 | cons {v mv vs xs}:VR ρ h v mv→VRs ρ h vs xs→VRs ρ h (v :: vs) (mv :: xs)
end
structure VM (ρ ρ':Rho) (h h':Heap):Prop where
 s:∀ a l vs,¬ own ρ a→SeqAt h a l vs→¬ own ρ' a∧SeqAt h' a l vs
 r:∀ x a b c t u v,¬ own ρ x→IsRange h x a b c t u v→¬ own ρ' x∧IsRange h' x a b c t u v
 f:∀ i a F,ρ (i+1)=a :: F→ρ' (i+1)=a :: F
theorem VM.v {ρ ρ':Rho} {h h':Heap} (M:VM ρ ρ' h h') {v:Value} {x:MV} (r:VR ρ h v x):VR ρ' h' v x:=
 VR.rec (motive_1:=λv x __=>VR ρ' h' v x) (motive_2:=λv x __=>VRs ρ' h' v x) .none .bool .int .flt .str (λo e __ i=>.seq (M.s _ _ _ o e).1 (M.s _ _ _ o e).2 i) (λo e=>.rng (M.r _ _ _ _ _ _ _ o e).1 (M.r _ _ _ _ _ _ _ o e).2) (λe=>.ref (M.f _ _ _ e)) .txt .nil (λ__ __ i j=>.cons i j) r
theorem VRs.map {ρ ρ':Rho} {h h':Heap} (M:∀ {v x},VR ρ h v x→VR ρ' h' v x) {v:List Value} {x:List MV} (r:VRs ρ h v x):VRs ρ' h' v x:=
 VRs.rec (motive_1:=λ__ __ __=>True) (motive_2:=λv x __=>VRs ρ' h' v x) trivial (λ__=>trivial) (λ__ __=>trivial) (λ__ __ __=>trivial) (λ__ __=>trivial) (λ__ __ __ __=>trivial) (λ__ __=>trivial) (λ__=>trivial) (λ__=>trivial) .nil (λa __ __ j=>.cons (M a) j) r
theorem VRs.ind {ρ:Rho} {h:Heap} {P:List Value→List MV→Prop} {v:List Value} {x:List MV} (r:VRs ρ h v x) (a:P [] []) (b:∀ v x us xs,VR ρ h v x→VRs ρ h us xs→P us xs→P (v :: us) (x :: xs)):P v x:=
 VRs.rec (motive_1:=λ__ __ __=>True) (motive_2:=λv x __=>P v x) trivial (λ__=>trivial) (λ__ __=>trivial) (λ__ __ __=>trivial) (λ__ __=>trivial) (λ__ __ __ __=>trivial) (λ__ __=>trivial) (λ__=>trivial) (λ__=>trivial) a (λc d __ j=>b _ _ _ _ c d j) r
theorem VM.same {ρ ρ':Rho} {h:Heap} (k:∀ a,own ρ' a→own ρ a) (f:∀ i a F,ρ (i+1)=a :: F→ρ' (i+1)=a :: F):VM ρ ρ' h h:=⟨λ__ __ __ o e=>⟨λx=>o (k _ x),e⟩,λ__ __ __ __ __ __ __ o e=>⟨λx=>o (k _ x),e⟩,f⟩
theorem VR.ext {ρ ρ':Rho} {h h':Heap} (X:Ext ρ ρ' h h') {v mv} (r:VR ρ h v mv):VR ρ' h' v mv:=
 VM.v ⟨λ__ __ __ ho ⟨n,e⟩=>⟨X.not ho e,n,X.keep _ _ e ho⟩,λ__ __ __ __ __ __ __ ho e=>⟨X.not ho e,X.keep _ _ e ho⟩,λ__ __ __ e=>(X.same _ (e▸List.cons_ne_nil _ _)).trans e⟩ r
theorem VRs.ext {ρ ρ':Rho} {h h':Heap} (X:Ext ρ ρ' h h') {vs xs} (r:VRs ρ h vs xs):VRs ρ' h' vs xs:=VRs.map (VR.ext X) r
section
variable {ρ:Rho} {h:Heap} {v:Value}
theorem VR.intI {i:Int} (r:VR ρ h v (.int i)):∃ t,v=.int i t:=by cases r;exact ⟨_,rfl⟩
theorem VR.intIE {i:Int} (r:VR ρ h v (.int i)) {C':Prop} (f':∀ t,v=.int i t→C'):C':=by refine (VR.intI r).elim λt q0=>?_;exact f' t q0
theorem VR.strI {l:List Nat} (r:VR ρ h v (.str l)):∃ t,v=.str (toS l) t:=by cases r;exact ⟨_,rfl⟩
theorem VR.strIE {l:List Nat} (r:VR ρ h v (.str l)) {C':Prop} (f':∀ t,v=.str (toS l) t→C'):C':=by refine (VR.strI r).elim λt q0=>?_;exact f' t q0
theorem VR.fltI {x:UInt64} (r:VR ρ h v (.flt x)):∃ t,v=.float x t∧t≠0:=by cases r;exact ⟨_,rfl,by assumption⟩
theorem VR.fltIE {x:UInt64} (r:VR ρ h v (.flt x)) {C':Prop} (f':∀ t,v=.float x t→t≠0→C'):C':=by refine (VR.fltI r).elim λt zz=>zz.elim λq0 q1=>?_;exact f' t q0 q1
theorem VR.seqI {l:Bool} {xs:List MV} (r:VR ρ h v (.seq l xs)):∃ a vs,v=.ref a∧¬ own ρ a∧SeqAt h a l vs∧VRs ρ h vs xs:=by cases r;exact ⟨_,_,rfl,by assumption,by assumption,by assumption⟩
theorem VR.seqIE {l:Bool} {xs:List MV} (r:VR ρ h v (.seq l xs)) {C':Prop} (f':∀ a vs,v=.ref a→¬ own ρ a→SeqAt h a l vs→VRs ρ h vs xs→C'):C':=by refine (VR.seqI r).elim λa zz=>zz.elim λvs zz=>zz.elim λq0 zz=>zz.elim λq1 zz=>zz.elim λq2 q3=>?_;exact f' a vs q0 q1 q2 q3
theorem VR.refI {i:Nat} (r:VR ρ h v (.ref i)):∃ a F,v=.ref a∧ρ (i+1)=a :: F:=by cases r;exact ⟨_,_,rfl,by assumption⟩
theorem VRs.nilI {us:List Value} (r:VRs ρ h us []):us=[]:=by cases r;rfl
theorem VRs.consI {us:List Value} {x:MV} {xs:List MV} (r:VRs ρ h us (x :: xs)):∃ u us',us=u :: us'∧VR ρ h u x∧VRs ρ h us' xs:=by cases r;exact ⟨_,_,rfl,by assumption,by assumption⟩
theorem VRs.consIE {us:List Value} {x:MV} {xs:List MV} (r:VRs ρ h us (x :: xs)) {C':Prop} (f':∀ u us',us=u :: us'→VR ρ h u x→VRs ρ h us' xs→C'):C':=by refine (VRs.consI r).elim λu zz=>zz.elim λus' zz=>zz.elim λq0 zz=>zz.elim λq1 q2=>?_;exact f' u us' q0 q1 q2
theorem VRs.oneI {us:List Value} {x:MV} (r:VRs ρ h us [x]):∃ u,us=[u]∧VR ρ h u x:=by
 refine Xi λgk=>?_
 refine r.consIE λu us' e a r=>?_
 refine gk ?_;clear gk
 exact ⟨u,by rw [e,r.nilI],a⟩
theorem VRs.twoI {us:List Value} {x y:MV} (r:VRs ρ h us [x,y]):∃ u v,us=[u,v]∧VR ρ h u x∧VR ρ h v y:=by
 refine Xi λgk=>?_
 refine r.consIE λu us' e a r=>?_
 refine r.oneI.elim λv zz=>zz.elim λe' b=>?_
 refine gk ?_;clear gk
 exact ⟨u,v,by rw [e,e'],a,b⟩
end
theorem VRs.length {ρ:Rho} {h:Heap} {vs xs} (r:VRs ρ h vs xs):vs.length=xs.length:=
 VRs.rec (motive_1:=λ__ __ __=>True) (motive_2:=λv x __=>v.length=x.length) trivial (λ__=>trivial) (λ__ __=>trivial) (λ__ __ __=>trivial) (λ__ __=>trivial) (λ__ __ __ __=>trivial) (λ__ __=>trivial) (λ__=>trivial) (λ__=>trivial) rfl (λ__ __ __ j=>congrArg (· + 1) j) r
theorem VRs.get {ρ:Rho} {h:Heap} {vs xs} (r:VRs ρ h vs xs) {n:Nat} {x:MV} (e:xs[n]?=some x):∃ v,vs[n]?=some v∧VR ρ h v x:=
 VRs.rec (motive_1:=λ__ __ __=>True) (motive_2:=λvs xs __=>∀ n,xs[n]?=some x→∃ v,vs[n]?=some v∧VR ρ h v x) trivial (λ__=>trivial) (λ__ __=>trivial) (λ__ __ __=>trivial) (λ__ __=>trivial) (λ__ __ __ __=>trivial) (λ__ __=>trivial) (λ__=>trivial) (λ__=>trivial) (λ__ e=>by cases e)
  (λa __ __ j n=>Nat.casesOn n (λe=>⟨_,rfl,Option.some.inj e▸a⟩) λn e=>j n e) r n e
theorem VRs.append {ρ:Rho} {h:Heap} {vs xs ws ys} (r:VRs ρ h vs xs) (b:VRs ρ h ws ys):VRs ρ h (vs++ws) (xs++ys):=
 VRs.rec (motive_1:=λ__ __ __=>True) (motive_2:=λv x __=>VRs ρ h (v++ws) (x++ys)) trivial (λ__=>trivial) (λ__ __=>trivial) (λ__ __ __=>trivial) (λ__ __=>trivial) (λ__ __ __ __=>trivial) (λ__ __=>trivial) (λ__=>trivial) (λ__=>trivial) b (λa __ __ j=>.cons a j) r
section
variable (prog:Program) (w:World)
inductive DRs (ρ:Rho) (h:Heap):List (Str×Value)→List (List Nat×MV)→Prop
 | nil:DRs ρ h [] []
 | cons {s v mv kvs es}:VR ρ h v mv→DRs ρ h kvs es→DRs ρ h ((toS s,v) :: kvs) ((s,mv) :: es)
noncomputable def Wr (ob:Obj) (kvs:List (Str×Value)):Prop:=∃ es ep,ob.ExactDict∧ob.data=.dict es ep∧KeysOf (strKind prog w) es∧Pairs (strKind prog w) es.toList kvs∧(kvs.map (·.1)).Nodup
noncomputable def Sh (o:MO) (as:List (Addr×Obj)) (us:List Value) (xs:List MV):Prop:=match o with
 | .list ys=>xs=ys∧∃ a n,as=[(a,{ cls:=.type "list",data:=.seq us.toArray n })]
 | .dict es=>∃ a ob kvs,as=[(a,ob)]∧Wr prog w ob kvs∧us=kvs.map (·.2)∧xs=es.map (·.2)∧kvs.map (·.1)=es.map λe=>toS e.1
 | o=>Cs.sh o as us xs
noncomputable def OR (ρ:Rho) (h:Heap) (F:List Addr) (o:MO):Prop:=∃ (as:List (Addr×Obj)) (us:List Value) (xs:List MV),F=as.map (·.1)∧as≠[]∧(∀ p∈as,h.get? p.1=some p.2)∧VRs ρ h us xs∧Sh prog w o as us xs
variable {prog w} in
theorem OR.move {ρ ρ':Rho} {h h':Heap} {F:List Addr} {o:MO} (X:OR prog w ρ h F o) (kv:∀ us xs,VRs ρ h us xs→VRs ρ' h' us xs) (k:∀ a∈F,∀ o,h.get? a=some o→h'.get? a=some o):OR prog w ρ' h' F o:=by
 refine Xi λgk=>?_
 refine X.elim λas zz=>zz.elim λus zz=>zz.elim λxs zz=>zz.elim λe zz=>zz.elim λn zz=>zz.elim λg zz=>zz.elim λr sh=>?_
 refine gk ?_;clear gk
 exact ⟨as,us,xs,e,n,λp hp=>k _ (by rw [e];exact List.mem_map_of_mem hp) _ (g p hp),kv _ _ r,sh⟩
theorem DRs.ext {ρ ρ':Rho} {h h':Heap} (X:Ext ρ ρ' h h') {kvs es} (r:DRs ρ h kvs es):DRs ρ' h' kvs es:=by
 induction r with
 | nil=>exact .nil
 | cons a _ i=>exact .cons (a.ext X) i
theorem DRs.split {ρ:Rho} {h:Heap} {kvs:List (Str×Value)} {es} (r:DRs ρ h kvs es):VRs ρ h (kvs.map (·.2)) (es.map (·.2))∧kvs.map (·.1)=es.map λe=>toS e.1:=by
 induction r with
 | nil=>exact ⟨.nil,rfl⟩
 | cons a _ i=>exact ⟨.cons a i.1,congrArg (_ :: ·) i.2⟩
theorem DRs.join {ρ:Rho} {h:Heap} {kvs:List (Str×Value)} {es:List (List Nat×MV)} (r:VRs ρ h (kvs.map (·.2)) (es.map (·.2))) (e:kvs.map (·.1)=es.map (λe=>toS e.1)):DRs ρ h kvs es:=by
 induction kvs generalizing es with
 | nil=>
  cases es with
  | nil=>exact .nil
  | cons=>exact absurd e nofun
 | cons a kvs ih=>
  cases es with
  | nil=>exact absurd e nofun
  | cons b es=>
   refine Xi λgk=>?_
   obtain ⟨s,v⟩:=a
   obtain ⟨t,mv⟩:=b
   obtain ⟨e1,e2⟩:=List.cons.inj e
   have e1:s=toS t:=e1
   subst e1
   obtain ⟨u,us,e3,a,r⟩:=VRs.consI r
   obtain ⟨e4,e5⟩:=List.cons.inj e3
   have e4:v=u:=e4
   subst e4;subst e5
   refine gk ?_;clear gk
   exact .cons a (ih r e2)
variable {prog w} in
theorem OR.dict_iff {ρ:Rho} {h:Heap} {F:List Addr} {es:List (List Nat×MV)}:OR prog w ρ h F (.dict es)↔∃ a kvs,F=[a]∧h.DictOf (strKind prog w) a kvs∧DRs ρ h kvs es:=by
 constructor
 ·intro hq;refine Xi λgk=>?_;obtain ⟨as,us,xs,e,n,g,r,a,ob,kvs,rfl,⟨es',ep,q⟩,rfl,rfl,k⟩:=hq;refine gk ?_;clear gk
  exact ⟨a,kvs,e,⟨ob,es',ep,g _ (.head _),q⟩,DRs.join r k⟩
 ·intro hq;refine Xi λgk=>?_;obtain ⟨a,kvs,rfl,⟨ob,es',ep,g,q⟩,r⟩:=hq;refine gk ?_;clear gk
  exact ⟨[(a,ob)],_,_,rfl,by simp,by simpa using g,r.split.1,a,ob,kvs,rfl,⟨es',ep,q⟩,rfl,rfl,r.split.2⟩
noncomputable def lk:List (Nat×MO)→Nat→Option MO
 | [],_=>none
 | (k,v) :: r,n=>if k=n then some v else lk r n
structure HR (h₀:Heap) (ρ:Rho) (σ:H) (h:Heap):Prop where
 bound:∀ n l,σ=.mk n l→∀ i,n≤i→ρ (i+1)=[]
 dom:∀ n l,σ=.mk n l→∀ i,ρ (i+1)≠[]→∃ o,lk l i=some o
 obj:∀ n l,σ=.mk n l→∀ i o,lk l i=some o→OR prog w ρ h (ρ (i+1)) o
 priv:∀ a∈ρ 0,∃ o,h.get? a=some o
 disj:∀ i j a,a∈ρ i→a∈ρ j→i=j
 base:∀ a,own ρ a→h₀.get? a=none
end
end
local macro_rules | `(tactic| cases $h:ident) => `(tactic| first | (have hh := Mine.VR.intI $h; obtain ⟨_, hq⟩ := hh; subst hq) | (have hh := Mine.VR.strI $h; obtain ⟨_, hq⟩ := hh; subst hq) | (have hh := Mine.VR.fltI $h; obtain ⟨_, hq, _⟩ := hh; subst hq) | (have hh := Mine.VR.seqI $h; obtain ⟨_, _, hq, _, _, _⟩ := hh; subst hq) | (have hq := Mine.VR.boolI $h; subst hq) | (have hq := Mine.VR.noneI $h; subst hq) | (have hh := Mine.VR.refI $h; obtain ⟨_, _, hq, _⟩ := hh; subst hq) | (have hq := Mine.VRs.nilI $h; subst hq) | fail)
section
variable [iC:Cs]
structure Wd where
 prog:Program
 w:World
 h₀:Heap
 os:OsState
 mg:Str→Option Value
 mb:Str→Option Value
structure Glb (W:Wd):Prop where
 g:W.h₀.Ns mainGlobals W.mg
 b:W.h₀.Ns builtinsNs W.mb
 nl:W.h₀.NoLimit
 bi:∀ x:Str,x≠"__name__"→W.mb x=bootBuiltins x
 last:∃ b o,W.h₀.get? b=some o∧W.h₀.objs.size=b+1
structure Ok (W:Wd) (ρ:Rho) (σ:H) (s:Shared):Prop where
 hr:HR W.prog W.w W.h₀ ρ σ s.heap
 base:∀ b o,W.h₀.get? b=some o→s.heap.get? b=some o
 gens:AllBare s.gens
 os:s.os=W.os
theorem Ok.tok {W:Wd} {ρ:Rho} {σ:H} {s:Shared} (X:Ok W ρ σ s) (t:Nat):Ok W ρ σ { s with toks:=t }:=⟨X.hr,X.base,X.gens,X.os⟩
noncomputable def OkA (A:Around) (b:Nat):Prop:=A.handled=none∧A.depth+b<recursionLimit∧A.units+8*b+16<cLine
theorem OkA.mono {A:Around} {b c:Nat} (X:OkA A b) (h:c≤b):OkA A c:=⟨X.1,by have:=X.2.1;omega,by have:=X.2.2;omega⟩
theorem OkA.deeper {A:Around} {b:Nat} (X:OkA A (b+1)) (env:Env):OkA (A.deeper env) b:=⟨X.1,by have:=X.2.1;show A.depth+1+b<_;omega,by have:=X.2.2;show A.units+3+_+_<_;omega⟩
theorem OkA.in1 {A:Around} {b:Nat} (X:OkA A (b+1)):OkA A.in1 b:=⟨X.1,by have:=X.2.1;show A.depth+b<_;omega,by have:=X.2.2;show A.units+1+_+_<_;omega⟩
inductive Bd where
 | loc (x:Str) (p:Pa)
 | cel (x:Str) (p:Pa) (o:Bool)
 | glo (x:Str)
deriving DecidableEq
structure FR (W:Wd) (ctx:List Bd) (env:Env) (vs:Vs) (ρ:Rho) (h:Heap):Prop where
 kind:env.scope.kind=.function
 glob:env.globals=mainGlobals
 blt:env.builtins=builtinsNs
 nl:¬ own ρ env.locals
 nc:∀ x c,env.cells.lookup x=some c→¬ own ρ c∧∃ v,h.IsCell c v
 apart:∀ x y c,env.cells.lookup x=some c→env.cells.lookup y=some c→x=y
 loc:∃ m,h.Ns env.locals m∧∀ x p,Bd.loc x p∈ctx→env.kindOf x=some .local∧(Yb vs p=.unb∨∃ v,m x=some v∧VR ρ h v (Yb vs p))
 cel:∀ x p o,Bd.cel x p o∈ctx→(env.kindOf x=some .cell∨(o=false∧env.kindOf x=some .free))∧∃ c v,env.cells.lookup x=some c∧h.IsCell c v∧(Yb vs p=.unb∨∃ u,v=some u∧VR ρ h u (Yb vs p))
 glo:∀ x,Bd.glo x∈ctx→env.kindOf x=some .globalImplicit
 above:W.h₀.objs.size≤env.locals
theorem FR.locE {ctx:List Bd} {env:Env} {vs:Vs} {ρ:Rho} {h:Heap} (F:FR W ctx env vs ρ h) {C':Prop} (f':∀ m,h.Ns env.locals m→(∀ x p,Bd.loc x p∈ctx→env.kindOf x=some .local∧(Yb vs p=.unb∨∃ v,m x=some v∧VR ρ h v (Yb vs p)))→C'):C':=by
 refine F.loc.elim λm zz=>zz.elim λh1 h2=>?_;exact f' m h1 h2
theorem FR.celE {ctx:List Bd} {env:Env} {vs:Vs} {ρ:Rho} {h:Heap} (F:FR W ctx env vs ρ h) (x:Str) (p:Pa) (o:Bool) (e:Bd.cel x p o∈ctx) {C':Prop} (f':(env.kindOf x=some .cell∨(o=false∧env.kindOf x=some .free))→∀ c v,env.cells.lookup x=some c→h.IsCell c v→(Yb vs p=.unb∨∃ u,v=some u∧VR ρ h u (Yb vs p))→C'):C':=by
 refine (F.cel x p o e).elim λh1 zz=>zz.elim λc zz=>zz.elim λv zz=>zz.elim λh2 zz=>zz.elim λh3 h4=>?_;exact f' h1 c v h2 h3 h4
theorem FR.ncE {ctx:List Bd} {env:Env} {vs:Vs} {ρ:Rho} {h:Heap} (F:FR W ctx env vs ρ h) (x:Str) (c:Addr) (e:env.cells.lookup x=some c) {C':Prop} (f':¬ own ρ c→∀ v o,h.get? c=some o→o.data=.cell v→C'):C':=by
 refine (F.nc x c e).elim λh1 zz=>zz.elim λv zz=>zz.elim λo zz=>zz.elim λh2 h3=>?_;exact f' h1 v o h2 h3
theorem IsCell.ext {ρ ρ':Rho} {h h':Heap} (X:Ext ρ ρ' h h') {c:Addr} {v:Option Value} (n:¬ own ρ c) (x:h.IsCell c v):h'.IsCell c v:=
 let ⟨o,ho,hd⟩:=x;⟨o,X.keep _ _ ho n,hd⟩
theorem Ns.ext {ρ ρ':Rho} {h h':Heap} (X:Ext ρ ρ' h h') {c:Addr} {m} (n:¬ own ρ c) (x:h.Ns c m):h'.Ns c m:=
 let ⟨o,es,ep,ho,r⟩:=x;⟨o,es,ep,X.keep _ _ ho n,r⟩
theorem FR.map {ctx:List Bd} {env:Env} {vs:Vs} {ρ ρ':Rho} {h h':Heap} (F:FR W ctx env vs ρ h) (kv:∀ {v x},VR ρ h v x→VR ρ' h' v x) (k:∀ b o,(b=env.locals∨∃ x,env.cells.lookup x=some b)→h.get? b=some o→¬ own ρ b→¬ own ρ' b∧h'.get? b=some o):FR W ctx env vs ρ' h':=by
 refine Xi λgk=>?_
 refine F.locE λm hm hl=>?_
 obtain ⟨o,es,ep,ho,r⟩:=hm
 have kl:=k _ o (.inl rfl) ho F.nl
 refine gk ?_;clear gk
 refine ⟨F.kind,F.glob,F.blt,kl.1,λx c e=>F.ncE x c e λn v o ho hd=>⟨(k _ o (.inr ⟨x,e⟩) ho n).1,v,o,(k _ o (.inr ⟨x,e⟩) ho n).2,hd⟩,F.apart,⟨m,⟨o,es,ep,kl.2,r⟩,λx p e=>⟨(hl x p e).1,(hl x p e).2.imp id λy=>y.elim λv y=>⟨v,y.1,kv y.2⟩⟩⟩,λx p ob e=>?_,F.glo,F.above⟩
 exact F.celE x p ob e λq1 c v hc hv q=>hv.elim λo y=>⟨q1,c,v,hc,⟨o,(k _ o (.inr ⟨x,hc⟩) y.1 (F.nc x c hc).1).2,y.2⟩,q.imp id λy=>y.elim λu y=>⟨u,y.1,kv y.2⟩⟩
theorem FR.ext {ctx:List Bd} {env:Env} {vs:Vs} {ρ ρ':Rho} {h h':Heap} (F:FR W ctx env vs ρ h) (X:Ext ρ ρ' h h'):FR W ctx env vs ρ' h':=
 F.map (VR.ext X) λ__ __ __ e n=>⟨X.not n e,X.keep _ _ e n⟩
noncomputable def Nc (W:Wd) (ρ:Rho) (s:Shared) (K:MV→H→Prop) (Q:Value→Shared→Prop):Prop:=
 ∀ v mv ρ' σ' s',K mv σ'→VR ρ' s'.heap v mv→Ok W ρ' σ' s'→Ext ρ ρ' s.heap s'.heap→Q v s'
noncomputable def PZ (W:Wd) (ρ:Rho) (s:Shared) (n:Nat) (K:List MV→H→Prop) (Q:List Value→Shared→Prop):Prop:=
 ∀ v mv ρ' σ' s',v.length=n→K mv σ'→VRs ρ' s'.heap v mv→Ok W ρ' σ' s'→Ext ρ ρ' s.heap s'.heap→Q v s'
noncomputable def XD (W:Wd) (ctx:List Bd) (b:Nat) (m:Ev) (e:Expr):Prop:=
 ∀ (A:Around) (env:Env) (ρ:Rho) (σ:H) (vs:Vs) (s:Shared) (K:MV→H→Prop) (Q E:Value→Shared→Prop),
  OkA A b→FR W ctx env vs ρ s.heap→Ok W ρ σ s→m vs σ K→Nc W ρ s K Q→wpAny (model W.prog W.w) A (eval e env) Q E s
noncomputable def Rg (W:Wd) (ctx:List Bd) (b:Nat) (ms:List Ev) (es:List Expr):Prop:=
 ∀ (A:Around) (env:Env) (ρ:Rho) (σ:H) (vs:Vs) (s:Shared) (K:List MV→H→Prop) (Q:List Value→Shared→Prop) (E:Value→Shared→Prop) (pos:Pos),
  OkA A b→FR W ctx env vs ρ s.heap→Ok W ρ σ s→eE ms vs σ K→PZ W ρ s es.length K Q→wpAny (model W.prog W.w) A (spliced (backTo pos (starEach es env))) Q E s
noncomputable def JO (W:Wd) (ctx:List Bd) (b:Nat) (m:Ev) (e:Expr):Prop:=
 ∀ (A:Around) (env:Env) (ρ:Rho) (σ:H) (vs:Vs) (s:Shared) (K:Bool→H→Prop) (Q:Bool→Shared→Prop) (E:Value→Shared→Prop),
  OkA A b→FR W ctx env vs ρ s.heap→Ok W ρ σ s→m vs σ (λx h=>YS x λc=>K c h)→(∀ c ρ' σ' s',K c σ'→Ok W ρ' σ' s'→Ext ρ ρ' s.heap s'.heap→Q c s')→
   wpAny (model W.prog W.w) A (isTrue e env (eval e env)) Q E s
noncomputable def Gq (W:Wd) (o:B2) (f:Value→Value→Sem Value):Prop:=
 ∀ (A:Around) (ρ:Rho) (σ:H) (s:Shared) (x y:MV) (u v:Value) (K:MV→Prop) (Q E:Value→Shared→Prop),
  OkA A 1→VR ρ s.heap u x→VR ρ s.heap v y→Ok W ρ σ s→o x y K→(∀ r mr s',K mr→VR ρ s'.heap r mr→Ok W ρ σ s'→Ext ρ ρ s.heap s'.heap→Q r s')→wpAny (model W.prog W.w) A (f u v) Q E s
noncomputable def JQ (W:Wd) (o:C2) (f:Value→Value→Sem Value):Prop:=
 ∀ (A:Around) (ρ:Rho) (σ:H) (s:Shared) (x y:MV) (u v:Value) (K:Bool→Prop) (Q E:Value→Shared→Prop),
  OkA A 1→VR ρ s.heap u x→VR ρ s.heap v y→Ok W ρ σ s→o σ x y K→(∀ r s',K r→Ok W ρ σ s'→Ext ρ ρ s.heap s'.heap→Q (.bool r) s')→wpAny (model W.prog W.w) A (f u v) Q E s
noncomputable def B3 (W:Wd) (b:Nat) (m:Fn) (a:Addr):Prop:=
 ∀ (A:Around) (ρ:Rho) (σ:H) (s:Shared) (xs:List MV) (us:List Value) (K:MV→H→Prop) (Q E:Value→Shared→Prop),
  OkA A b→VRs ρ s.heap us xs→Ok W ρ σ s→m xs σ K→Nc W ρ s K Q→wpAny (model W.prog W.w) A (call (.ref a) us) Q E s
section
variable {W:Wd} {ctx:List Bd} {b:Nat}
theorem RJ {x:MV} {k:Bool→Prop} (h:YS x k):∃ c,x=.bool c∧k c:=by cases x <;> first | exact ⟨_,rfl,h⟩ | exact h.elim
theorem Z6 {x:MV} {k:Bool→Prop} (h:YS x k) {C':Prop} (f':∀ c,x=.bool c→k c→C'):C':=by refine (RJ h).elim λc zz=>zz.elim λq0 q1=>?_;exact f' c q0 q1
theorem D0 {x:MV} {k:Int→Prop} (h:XM x k):∃ c,x=.int c∧k c:=by cases x <;> first | exact ⟨_,rfl,h⟩ | exact h.elim
theorem Xs {x:MV} {k:Int→Prop} (h:XM x k) {C':Prop} (f':∀ c,x=.int c→k c→C'):C':=by refine (D0 h).elim λc zz=>zz.elim λq0 q1=>?_;exact f' c q0 q1
theorem B7 {x:MV} {k:List Nat→Prop} (h:Jh x k):∃ c,x=.str c∧k c:=by cases x <;> first | exact ⟨_,rfl,h⟩ | exact h.elim
theorem YF {x:MV} {k:List Nat→Prop} (h:Jh x k) {C':Prop} (f':∀ c,x=.str c→k c→C'):C':=by refine (B7 h).elim λc zz=>zz.elim λq0 q1=>?_;exact f' c q0 q1
theorem Gi {x:MV} {k:Nat→Prop} (h:YT x k):∃ c,x=.ref c∧k c:=by cases x <;> first | exact ⟨_,rfl,h⟩ | exact h.elim
theorem XT {x:MV} {k:Nat→Prop} (h:YT x k) {C':Prop} (f':∀ c,x=.ref c→k c→C'):C':=by refine (Gi h).elim λc zz=>zz.elim λq0 q1=>?_;exact f' c q0 q1
theorem Xo {b:Bool} {p q:Prop} (h:ifB b p q):(b=true∧p)∨(b=false∧q):=by cases b <;> first | exact .inl ⟨rfl,h⟩ | exact .inr ⟨rfl,h⟩
theorem YZ {i:Int} {k:MV→Prop} (h:JZ i k):k (.int i):=by cases i <;> exact h
theorem Xk {i:Int} {k pos}:XD W ctx b (Xl (.int i)) (.Constant (.int i) k pos):=λA env ρ σ vs s K Q E __ F O m q=>
 wpAny_Constant_int (q _ _ ρ σ _ m (.int i _) (O.tok _) (Ext.refl _ _))
theorem XV {x:Str} {l:List Nat} {k pos} (e:x=toS l):XD W ctx b (Xl (.str l)) (.Constant (.str x) k pos):=λA env ρ σ vs s K Q E __ F O m q=>
 wpAny_Constant_str (q _ _ ρ σ _ m (by rw [e];exact .str l _) (O.tok _) (Ext.refl _ _))
theorem YK {k pos}:XD W ctx b (Xl .none) (.Constant .none k pos):=λA env ρ σ vs s K Q E __ F O m q=>
 wpAny_Constant_none (q _ _ ρ σ _ m .none O (Ext.refl _ _))
theorem Gl {c:Bool} {k pos}:XD W ctx b (Xl (.bool c)) (.Constant (.bool c) k pos):=λA env ρ σ vs s K Q E __ F O m q=>
 wpAny_Constant_bool (q _ _ ρ σ _ m (.bool c) O (Ext.refl _ _))
theorem F4 {p:Pa} {vs:Vs} {σ:H} {K:MV→H→Prop} (m:Xe p vs σ K):Yb vs p≠.unb∧K (Yb vs p) σ:=by
 unfold Xe at m
 split at m
 ·exact m.elim
 ·rename_i x hx
  exact ⟨by intro e;exact hx e,m⟩
theorem Go {p:Pa} {vs:Vs} {σ:H} {K:MV→H→Prop} (m:Xe p vs σ K) {C':Prop} (f':Yb vs p≠.unb→K (Yb vs p) σ→C'):C':=by refine (F4 m).elim λq0 q1=>?_;exact f' q0 q1
theorem Xd {x:Str} {p:Pa} {pos} (hm:Bd.loc x p∈ctx) (hd:(x==("__debug__":Str))=false):XD W ctx b (Xe p) (.Name x pos):=λA env ρ σ vs s K Q E __ F O m q=>by
 refine Xi λgk=>?_
 refine Go m λhn hk=>?_
 refine F.locE λmm hns hl=>?_
 refine (hl x p hm).elim λh1 h2=>?_
 refine (h2.resolve_left hn).elim λv zz=>zz.elim λhv hr=>?_
 refine gk ?_;clear gk
 exact wpAny_Name (wpAny_loadName_local F.kind h1 hns hv (q _ _ ρ σ _ hk hr O (Ext.refl _ _))) hd
theorem XH {x:Str} {p:Pa} {o:Bool} {pos} (hm:Bd.cel x p o∈ctx) (hd:(x==("__debug__":Str))=false) (hc:(x==("__classdict__":Str))=false):XD W ctx b (Xe p) (.Name x pos):=λA env ρ σ vs s K Q E __ F O m q=>by
 refine Xi λgk=>?_
 refine Go m λhn hk=>?_
 refine F.celE x p o hm λh1 c v hc' hv h2=>?_
 obtain ⟨u,rfl,hr⟩:=h2.resolve_left hn
 refine gk ?_;clear gk
 rcases h1 with h1 | ⟨_,h1⟩
 ·exact wpAny_Name (wpAny_loadName_cell F.kind h1 hc' hv (q _ _ ρ σ _ hk hr O (Ext.refl _ _))) hd
 ·exact wpAny_Name (wpAny_loadName_free F.kind h1 hc' hv (q _ _ ρ σ _ hk hr O (Ext.refl _ _)) hc) hd
theorem Xn {o:B2} {op:Operator} {m₁ m₂:Ev} {l r:Expr} {pos} (ho:Gq W o (binaryOp op)) (h1:XD W ctx (b+1) m₁ l) (h2:XD W ctx (b+1) m₂ r):XD W ctx (b+1) (Xq o m₁ m₂) (.BinOp l op r pos):=
 λA env ρ σ vs s K Q E OA F O m q=>by
 refine wpAny_BinOp (h1 A env ρ σ vs s _ _ _ OA F O m λu x ρ₁ σ₁ s₁ k₁ v₁ O₁ X₁=>?_)
 refine h2 A env ρ₁ σ₁ vs s₁ _ _ _ OA (F.ext X₁) O₁ k₁ λv y ρ₂ σ₂ s₂ k₂ v₂ O₂ X₂=>?_
 exact ho A ρ₂ σ₂ s₂ x y u v _ _ _ (OA.mono (by omega)) (v₁.ext X₂) v₂ O₂ k₂ λr mr s₃ k₃ v₃ O₃ X₃=>q _ _ ρ₂ σ₂ s₃ k₃ v₃ O₃ ((X₁.trans X₂).trans X₃)
theorem G4 {o:C2} {op:CmpOp} {m₁ m₂:Ev} {l r:Expr} {pos} (ho:JQ W o (compareOp op)) (h1:XD W ctx (b+1) m₁ l) (h2:XD W ctx (b+1) m₂ r) (hb:behindInMarks op r=false):XD W ctx (b+1) (X4 o m₁ m₂) (.Compare l [op] [r] pos):=
 λA env ρ σ vs s K Q E OA F O m q=>by
 refine wpAny_Compare1 (h1 A env ρ σ vs s _ _ _ OA F O m λu x ρ₁ σ₁ s₁ k₁ v₁ O₁ X₁=>?_) hb
 refine h2 A env ρ₁ σ₁ vs s₁ _ _ _ OA (F.ext X₁) O₁ k₁ λv y ρ₂ σ₂ s₂ k₂ v₂ O₂ X₂=>?_
 exact ho A ρ₂ σ₂ s₂ x y u v _ _ _ (OA.mono (by omega)) (v₁.ext X₂) v₂ O₂ k₂ λr s₃ k₃ O₃ X₃=>q _ _ ρ₂ σ₂ s₃ k₃ (.bool r) O₃ ((X₁.trans X₂).trans X₃)
theorem XE {o:C2} {op:CmpOp} {m₁ m₂:Ev} {l r:Expr} {pos} (ho:JQ W o (compareOp op)) (h1:XD W ctx (b+1) m₁ l) (h2:XD W ctx (b+1) m₂ r) (hb:behindInMarks op r=false):JO W ctx (b+1) (X4 o m₁ m₂) (.Compare l [op] [r] pos):=
 λA env ρ σ vs s K Q E OA F O m q=>by
 refine wpAny_isTrue_Compare1 (h1 A env ρ σ vs s _ _ _ OA F O m λu x ρ₁ σ₁ s₁ k₁ v₁ O₁ X₁=>?_) hb
 refine h2 A env ρ₁ σ₁ vs s₁ _ _ _ OA (F.ext X₁) O₁ k₁ λv y ρ₂ σ₂ s₂ k₂ v₂ O₂ X₂=>?_
 exact ho A ρ₂ σ₂ s₂ x y u v _ _ _ (OA.mono (by omega)) (v₁.ext X₂) v₂ O₂ k₂ λr s₃ k₃ O₃ X₃=>wpAny_truthy_bool (q _ ρ₂ σ₂ s₃ k₃ O₃ ((X₁.trans X₂).trans X₃))
theorem Tw {m₁ m₂:Ev} {l r:Expr} {pos} (h1:JO W ctx b m₁ l) (h2:JO W ctx b m₂ r):JO W ctx b (Rm m₁ m₂) (.BoolOp .And [l,r] pos):=
 λA env ρ σ vs s K Q E OA F O m q=>by
 refine wpAny_isTrue_BoolOp (wpAny_allTrue_And_cons (h1 A env ρ σ vs s (λc h=>ifB c (m₂ vs h λx h=>YS x λc=>K c h) (K false h)) _ _ OA F O m λc ρ₁ σ₁ s₁ k₁ O₁ X₁=>?_))
 rcases Xo k₁ with ⟨rfl,k₁⟩ | ⟨rfl,k₁⟩
 ·refine wpAny_allTrue_And_cons (h2 A env ρ₁ σ₁ vs s₁ K _ _ OA (F.ext X₁) O₁ k₁ λc ρ₂ σ₂ s₂ k₂ O₂ X₂=>?_)
  cases c
  ·exact q _ _ _ _ k₂ O₂ (X₁.trans X₂)
  ·exact wpAny_allTrue_And_nil (q _ _ _ _ k₂ O₂ (X₁.trans X₂))
 ·exact q _ _ _ _ k₁ O₁ X₁
theorem G9 {c m₁ m₂:Ev} {t l r:Expr} {pos} (hc:JO W ctx b c t) (h1:XD W ctx b m₁ l) (h2:XD W ctx b m₂ r):XD W ctx b (T7 c m₁ m₂) (.IfExp t l r pos):=
 λA env ρ σ vs s K Q E OA F O m q=>by
 refine wpAny_IfExp (hc A env ρ σ vs s (λc h=>ifB c (m₁ vs h K) (m₂ vs h K)) _ _ OA F O m λc ρ₁ σ₁ s₁ k₁ O₁ X₁=>?_)
 rcases Xo k₁ with ⟨rfl,k₁⟩ | ⟨rfl,k₁⟩
 ·exact h1 A env ρ₁ σ₁ vs s₁ K _ _ OA (F.ext X₁) O₁ k₁ λv mv ρ₂ σ₂ s₂ k₂ v₂ O₂ X₂=>q _ _ _ _ _ k₂ v₂ O₂ (X₁.trans X₂)
 ·exact h2 A env ρ₁ σ₁ vs s₁ K _ _ OA (F.ext X₁) O₁ k₁ λv mv ρ₂ σ₂ s₂ k₂ v₂ O₂ X₂=>q _ _ _ _ _ k₂ v₂ O₂ (X₁.trans X₂)
theorem Xz:Rg W ctx b [] []:=λA env ρ σ vs s K Q E pos OA F O m q=>args_nil (q _ _ ρ σ s rfl m .nil O (Ext.refl _ _))
theorem Xg {m₁:Ev} {ms:List Ev} {e:Expr} {es:List Expr} (h1:XD W ctx b m₁ e) (h2:Rg W ctx b ms es) (he:∀ env,starEach (e :: es) env=(false,eval e env) :: starEach es env:=by intro _;rfl):Rg W ctx b (m₁ :: ms) (e :: es):=
 λA env ρ σ vs s K Q E pos OA F O m q=>by
 refine args_cons (h1 A env ρ σ vs s _ _ _ OA F O m λv x ρ₁ σ₁ s₁ k₁ v₁ O₁ X₁=>?_) (he env)
 exact h2 A env ρ₁ σ₁ vs s₁ _ _ _ pos OA (F.ext X₁) O₁ k₁ λvs xs ρ₂ σ₂ s₂ n₂ k₂ v₂ O₂ X₂=>q _ _ _ _ _ (by simp [n₂]) k₂ (.cons (v₁.ext X₂) v₂) O₂ (X₁.trans X₂)
end
end
section
set_option tactic.hygienic false
variable [iC:Cs]
theorem OR.keep {prog:Program} {w:World} {ρ:Rho} {h h':Heap} {F:List Addr} {o:MO} (k:∀ b o,h.get? b=some o→h'.get? b=some o) (X:OR prog w ρ h F o):OR prog w ρ h' F o:=X.move (λ__ __ r=>r.ext (.of_all k)) λa __ o e=>k a o e
theorem OR.alive {prog:Program} {w:World} {ρ:Rho} {h:Heap} {F:List Addr} {o:MO} (X:OR prog w ρ h F o):∀ a∈F,∃ ob,h.get? a=some ob:=by
 refine Xi λgk=>?_
 refine X.elim λas zz=>zz.elim λus zz=>zz.elim λxs zz=>zz.elim λe zz=>zz.elim λn zz=>zz.elim λg zz=>zz.elim λr sh=>?_
 refine gk ?_;clear gk
 intro a ha
 rw [e] at ha
 refine Xi λgk=>?_
 refine (List.mem_map.mp ha).elim λp zz=>zz.elim λhp qa=>?_;clear ha zz;subst qa
 refine gk ?_;clear gk
 exact ⟨_,g p hp⟩
theorem HR.keep {prog:Program} {w:World} {h₀:Heap} {ρ:Rho} {σ:H} {h h':Heap} (k:∀ b o,h.get? b=some o→h'.get? b=some o) (X:HR prog w h₀ ρ σ h):HR prog w h₀ ρ σ h':=
 ⟨X.bound,X.dom,λn l e i o hl=>(X.obj n l e i o hl).keep k,λa ha=>(let ⟨o,e⟩:=X.priv a ha;⟨o,k _ _ e⟩),X.disj,X.base⟩
theorem HR.alive {prog:Program} {w:World} {h₀:Heap} {ρ:Rho} {σ:H} {h:Heap} (X:HR prog w h₀ ρ σ h) {a:Addr} (x:own ρ a):∃ o,h.get? a=some o:=by
 refine x.elim λi hi=>?_
 cases i with
 | zero=>exact X.priv a hi
 | succ i=>
 cases σ with | mk n l=>
 refine (X.dom n l rfl i (List.ne_nil_of_mem hi)).elim λo ho=>?_
 exact (X.obj n l rfl i o ho).alive a hi
theorem HR.fresh {prog:Program} {w:World} {h₀:Heap} {ρ:Rho} {σ:H} {h:Heap} (X:HR prog w h₀ ρ σ h) {a:Addr} (e:h.get? a=none):¬ own ρ a:=λx=>by
 refine (X.alive x).elim λo ho=>?_;rw [e] at ho;cases ho
theorem XZ (h:Heap):h.get? h.objs.size=none:=by
 exact Z5 (Nat.lt_irrefl _)
section
variable {W:Wd} {ctx:List Bd} {b:Nat}
theorem Ok.keep {ρ:Rho} {σ:H} {s:Shared} (O:Ok W ρ σ s) {h':Heap} {t:Nat} (k:∀ b o,s.heap.get? b=some o→h'.get? b=some o):Ok W ρ σ { s with heap:=h',toks:=t }:=
 ⟨O.hr.keep k,λb o e=>k b o (O.base b o e),O.gens,O.os⟩
theorem Ok.push {ρ:Rho} {σ:H} {s:Shared} (O:Ok W ρ σ s) (o:Obj):Ok W ρ σ { s with heap:=s.heap.push o }:=O.keep (t:=s.toks) λ__ __ e=>Heap.get?_push_of_some _ e
theorem X2 {ms:List Ev} {es:List Expr} {k pos} (h:Rg W ctx b ms es) (hz:es.length≤64):XD W ctx b (YI ms) (.Tuple es k pos):=λA env ρ σ vs s K Q E OA F O m q=>by
 refine wpAny_Tuple (h A env ρ σ vs s _ _ _ pos OA F O m λus xs ρ₁ σ₁ s₁ n₁ k₁ v₁ O₁ X₁=>⟨by rw [n₁,sizeLine_eq];omega,?_⟩)
 exact q _ _ ρ₁ σ₁ _ k₁ (.seq (O₁.hr.fresh (XZ _)) ⟨0,Heap.get?_push_size _ rfl⟩ (v₁.ext (Ext.push _ _ _))) (O₁.push _) (X₁.trans (Ext.push _ _ _))
theorem YV {ms:List Ev} {es:List Expr} {pos} (h:Rg W ctx b ms es) (hz:es.length≤64):XD W ctx b (JM ms) (.List es pos):=λA env ρ σ vs s K Q E OA F O m q=>by
 refine wpAny_List (h A env ρ σ vs s _ _ _ pos OA F O m λus xs ρ₁ σ₁ s₁ n₁ k₁ v₁ O₁ X₁=>⟨by rw [n₁,sizeLine_eq];omega,?_⟩)
 exact q _ _ ρ₁ σ₁ _ k₁ (.seq (O₁.hr.fresh (XZ _)) ⟨0,Heap.get?_push_size _ rfl⟩ (v₁.ext (Ext.push _ _ _))) (O₁.push _) (X₁.trans (Ext.push _ _ _))
noncomputable def ins (ρ:Rho) (n:Nat) (F:List Addr):Rho:=λi=>if i=n then F else ρ i
theorem Ok.newObj {ρ:Rho} {n:Nat} {l:List (Nat×MO)} {s:Shared} {o:MO} {F:List Addr} {h':Heap} {t:Nat} (O:Ok W ρ (.mk n l) s) (hF:F≠[]) (hf:∀ a∈F,s.heap.get? a=none)
  (k:∀ b o,s.heap.get? b=some o→h'.get? b=some o) (ho:OR W.prog W.w (ins ρ (n+1) F) h' F o) :
  Ok W (ins ρ (n+1) F) (.mk (n+1) (l++[(n,o)])) { s with heap:=h',toks:=t }∧Ext ρ (ins ρ (n+1) F) s.heap h':=by
 have hρ:ρ (n+1)=[]:=O.hr.bound n l rfl n (Nat.le_refl _)
 have X:Ext ρ (ins ρ (n+1) F) s.heap h':=by
  refine ⟨λi hi=>?_,λa ⟨i,ha⟩=>?_,λb o e __=>k b o e,λb __ o e=>k b o e⟩
  ·unfold ins;rw [if_neg];rintro rfl;exact hi hρ
  ·unfold ins at ha
   split at ha
   ·exact .inr (hf a ha)
   ·exact .inl ⟨i,ha⟩
 have lkl:∀ (l:List (Nat×MO)) (i:Nat) (o':MO),lk (l++[(n,o)]) i=some o'→lk l i=some o'∨(i=n∧o'=o∧lk l i=none):=by
  intro l i o'
  induction l with
  | nil=>
   intro h
   simp only [List.nil_append,lk] at h
   split at h
   ·rename_i e;cases h;exact .inr ⟨e.symm,rfl,rfl⟩
   ·cases h
  | cons p r ih=>
   obtain ⟨j,x⟩:=p
   intro h
   simp only [List.cons_append,lk] at h ⊢
   split at h
   ·rename_i e;rw [if_pos e];exact .inl h
   ·rename_i e;rw [if_neg e];exact ih h
 have lkn:∀ i o',lk l i=some o'→i≠n:=λi o' h=>by
  clear X ho lkl;rintro rfl
  obtain ⟨a,ha⟩:∃ a,a∈ρ (i+1):=by
   obtain ⟨as,us,xs,e,n,_⟩:=O.hr.obj i l rfl i o' h
   rw [e]
   cases as with
   | nil=>exact absurd rfl n
   | cons p r=>exact ⟨p.1,by simp⟩
  rw [hρ] at ha;cases ha
 have lkm:∀ (l:List (Nat×MO)) i o',lk l i=some o'→lk (l++[(n,o)]) i=some o':=by
  intro l i o'
  induction l with
  | nil=>intro h;cases h
  | cons p r ih=>
   obtain ⟨j,x⟩:=p
   intro h
   simp only [List.cons_append,lk] at h ⊢
   split at h
   ·rename_i e;rw [if_pos e];exact h
   ·rename_i e;rw [if_neg e];exact ih h
 have lkn':∀ (l:List (Nat×MO)),lk l n=none→lk (l++[(n,o)]) n=some o:=by
  intro l
  induction l with
  | nil=>intro _;simp [lk]
  | cons p r ih=>
   obtain ⟨j,x⟩:=p
   intro h
   simp only [List.cons_append,lk] at h ⊢
   split at h
   ·cases h
   ·rename_i e;rw [if_neg e];exact ih h
 refine ⟨⟨⟨?_,?_,?_,?_,?_,?_⟩,λb o e=>k b o (O.base b o e),O.gens,O.os⟩,X⟩
 ·intro n' l' e i hi
  cases e
  unfold ins;rw [if_neg (by omega)]
  exact O.hr.bound n l rfl i (by omega)
 ·intro n' l' e i hi
  cases e
  unfold ins at hi
  split at hi
  ·rename_i e;have e:=Nat.succ.inj e;clear O X ho hρ lkl lkm;subst e
   cases q:lk l i with
   | some o'=>exact absurd rfl (lkn i o' q)
   | none=>exact ⟨_,lkn' l q⟩
  ·refine (O.hr.dom n l rfl i hi).elim λo' h=>?_
   exact ⟨o',lkm l i o' h⟩
 ·intro n' l' e i o' h
  cases e
  clear hρ lkm lkn';rcases lkl l i o' h with h | ⟨rfl,rfl,_⟩
  ·have hn:=lkn i o' h
   have q:=O.hr.obj n l rfl i o' h
   have e:ins ρ (n+1) F (i+1)=ρ (i+1):=by unfold ins;rw [if_neg (by omega)]
   rw [e]
   exact q.move (λ__ __ r=>r.ext X) λa __ o e=>k a o e
  ·have e:ins ρ (i+1) F (i+1)=F:=by unfold ins;rw [if_pos rfl]
   rw [e];exact ho
 ·intro a ha
  have e:ins ρ (n+1) F 0=ρ 0:=by unfold ins;rw [if_neg (by omega)]
  rw [e] at ha
  refine (O.hr.priv a ha).elim λo h=>?_
  exact ⟨o,k _ _ h⟩
 ·intro i j a hi hj
  unfold ins at hi hj
  split at hi <;> split at hj
  ·rename_i e1 e2;rw [e1,e2]
  ·exact absurd (hf a hi) (by refine (O.hr.alive ⟨j,hj⟩).elim λo ho=>?_;rw [ho];simp)
  ·exact absurd (hf a hj) (by refine (O.hr.alive ⟨i,hi⟩).elim λo ho=>?_;rw [ho];simp)
  ·exact O.hr.disj i j a hi hj
 ·rintro a ⟨i,hi⟩
  unfold ins at hi
  split at hi
  ·exact Yc (λo e=>O.base a o e) (hf a hi)
  ·exact O.hr.base a ⟨i,hi⟩
end
end
section
set_option tactic.hygienic false
variable [iC:Cs]
section
variable {W:Wd} {ctx:List Bd} {b:Nat}
theorem JJ {i:Int} (h:Jb i=true):-(2 ^ 62:Int)≤i∧i<2 ^ 62:=by
 cases i with
 | ofNat n=>have:Nat.blt n 4611686018427387904=true:=h;have:=Nat.blt_eq.mp this;show -(2 ^ 62:Int)≤(n:Int)∧(n:Int)<_;omega
 | negSucc n=>have:Nat.blt n 4611686018427387904=true:=h;have:=Nat.blt_eq.mp this;rw [Int.negSucc_eq];omega
theorem TF {i:Int} (h:U8 i=true):0<i∧i<2 ^ 30:=by
 cases i with
 | ofNat n=>
  cases n with
  | zero=>cases h
  | succ n=>have:Nat.blt (n+1) 1073741824=true:=h;have:=Nat.blt_eq.mp this;show (0:Int)<((n+1:Nat):Int)∧((n+1:Nat):Int)<_;omega
 | negSucc n=>cases h
theorem ZP {i:Int} (h:VO i=true):0≤i∧i<64:=by
 cases i with
 | ofNat n=>have:Nat.blt n 64=true:=h;have:=Nat.blt_eq.mp this;show (0:Int)≤(n:Int)∧(n:Int)<_;omega
 | negSucc n=>cases h
theorem Yh {α:Type} (l:List α):len l=l.length:=by
 induction l with
 | nil=>rfl
 | cons x r ih=>show Nat.succ (len r)=_;rw [ih];rfl
theorem Ye {α:Type} {l:List α} (h:Yr l=true):l.length≤4096:=by
 have:Nat.ble (len l) 4096=true:=h
 rw [Yh] at this
 exact Nat.le_of_ble_eq_true this
theorem Yw {α:Type} (l:List α) (k:List α→Prop):Zo l k=k l:=by
 induction l generalizing k with
 | nil=>rfl
 | cons x r ih=>show Zo r (λr'=>k (x :: r'))=_;rw [ih]
theorem Vc {α:Type} (xs:List α):rep xs 0=[]:=rfl
theorem KW {α:Type} (xs:List α) (n:Nat):(rep xs n).length=n*xs.length:=by
 induction n with
 | zero=>simp [Vc]
 | succ n ih=>show (xs++rep xs n).length=_;rw [List.length_append,ih,Nat.succ_mul];omega
theorem BP (xs:List Nat) (n:Nat):((List.replicate n xs.toArray).foldl (·++·) #[]:Array Nat)=(rep xs n).toArray:=by
 have key:∀ (n:Nat) (a:List Nat),(List.replicate n xs.toArray).foldl (·++·) a.toArray=(a++rep xs n).toArray:=by
  intro n
  induction n with
  | zero=>intro a;simp [Vc]
  | succ n ih=>
   intro a
   rw [List.replicate_succ,List.foldl_cons,List.append_toArray,ih]
   show _=(a++(xs++rep xs n)).toArray
   rw [List.append_assoc]
 simpa using key n []
theorem K8 (xs:List Value) (n:Nat):((List.replicate n xs.toArray).foldl (·++·) #[]:Array Value)=(rep xs n).toArray:=by
 have key:∀ (n:Nat) (a:List Value),(List.replicate n xs.toArray).foldl (·++·) a.toArray=(a++rep xs n).toArray:=by
  intro n
  induction n with
  | zero=>intro a;simp [Vc]
  | succ n ih=>
   intro a
   rw [List.replicate_succ,List.foldl_cons,List.append_toArray,ih]
   show _=(a++(xs++rep xs n)).toArray
   rw [List.append_assoc]
 simpa using key n []
theorem VRs.rep {ρ:Rho} {h:Heap} {vs:List Value} {xs:List MV} (X:VRs ρ h vs xs) (n:Nat):VRs ρ h (Mine.rep vs n) (Mine.rep xs n):=by
 induction n with
 | zero=>exact .nil
 | succ n ih=>exact X.append ih
theorem Yk:Gq W ZG (binaryOp .Sub):=by
 intro A ρ σ s x y u v K Q E OA hu hv O m q
 refine Xi λgk=>?_
 refine Xs m λi qa m'=>?_;subst qa
 clear m
 refine Xs m' λj qa m=>?_;subst qa
 clear m'
 refine hu.intIE λt qa=>?_;clear hu;subst qa;refine hv.intIE λt' qb=>?_;clear hv;subst qb
 refine gk ?_;clear gk
 exact P.sub_int (q _ _ _ (YZ m) (.int _ _) (O.tok _) (Ext.refl _ _))
theorem ZM:Gq W U6 (binaryOp .FloorDiv):=by
 intro A ρ σ s x y u v K Q E OA hu hv O m q
 refine Xi λgk=>?_
 refine Xs m λi qa m'=>?_;subst qa
 clear m
 refine Xs m' λj qa m=>?_;subst qa
 refine gk ?_;clear gk
 clear m'
 rcases Xo m with ⟨hs,m⟩ | ⟨_,m⟩
 ·have:=TF hs
  refine hu.intIE λt qa=>?_;clear hu;subst qa;refine hv.intIE λt' qb=>?_;clear hv;subst qb
  exact floordiv_int (by omega) (q _ _ _ (YZ m) (.int _ _) (O.tok _) (Ext.refl _ _)) (.inl (PyProof.noPylong_small (by omega)))
 ·exact m.elim
theorem YM:Gq W Vh (binaryOp .Mod):=by
 intro A ρ σ s x y u v K Q E OA hu hv O m q
 refine Xi λgk=>?_
 refine Xs m λi qa m'=>?_;subst qa
 clear m
 refine Xs m' λj qa m=>?_;subst qa
 refine gk ?_;clear gk
 clear m'
 rcases Xo m with ⟨hs,m⟩ | ⟨_,m⟩
 ·have:=TF hs
  refine hu.intIE λt qa=>?_;clear hu;subst qa;refine hv.intIE λt' qb=>?_;clear hv;subst qb
  exact mod_int' (by omega) (q _ _ _ (YZ m) (.int _ _) (O.tok _) (Ext.refl _ _))
 ·exact m.elim
theorem Jc:Gq W Mt (binaryOp .Pow):=by
 intro A ρ σ s x y u v K Q E OA hu hv O m q
 refine Xi λgk=>?_
 refine Xs m λi qa m'=>?_;subst qa
 clear m
 refine Xs m' λj qa m=>?_;subst qa
 refine gk ?_;clear gk
 clear m'
 refine Xi λgk=>?_;rcases Xo m with ⟨hs,m⟩ | ⟨_,m⟩ <;> (refine gk ?_;clear gk)
 ·refine Xi λgk=>?_;rcases Xo m with ⟨hn,m⟩ | ⟨_,m⟩ <;> (refine gk ?_;clear gk)
  ·have h1:=JJ hs
   have h2:=ZP hn
   refine hu.intIE λt qa=>?_;clear hu;subst qa;refine hv.intIE λt' qb=>?_;clear hv;subst qb
   refine pow_int (by omega) ?_ (q _ _ _ (YZ m) (.int _ _) (O.tok _) (Ext.refl _ _))
   have hb:Builtin.Int.intBits i≤64:=intBits_le_64 (by omega) (by omega)
   have h3:(Builtin.Int.intBits i:Int)*j≤64*64:=Int.mul_le_mul (by omega) (by omega) (by omega) (by omega)
   omega
  ·exact m.elim
 ·exact m.elim
theorem XJ:Gq W XN (binaryOp .Add):=by
 intro A ρ σ s x y u v K Q E OA hu hv O m q
 cases x with
 | int i=>
  refine hu.intIE λt qa=>?_;clear hu;subst qa
  refine Xs m λj qa m'=>?_;subst qa
  clear m;have m:=m';clear m'
  refine hv.intIE λt' qa=>?_;clear hv;subst qa
  exact P.add_int (q _ _ _ (YZ m) (.int _ _) (O.tok _) (Ext.refl _ _))
 | str a=>
  refine hu.strIE λt qa=>?_;clear hu;subst qa
  refine YF m λc qa m'=>?_;subst qa
  clear m;have m:=m';clear m'
  refine hv.strIE λt' qa=>?_;clear hv;subst qa
  refine Xi λgk=>?_;rcases Xo m with ⟨hf,m⟩ | ⟨_,m⟩ <;> (refine gk ?_;clear gk)
  ·rw [Yw] at m
   have hl:=Ye hf
   rw [List.length_append] at hl
   refine P.add_str ?_
   split
   ·rename_i h
    have:a=[]:=by simpa [toS,Str.length] using h
    clear h hf hl;subst this
    exact q _ _ _ m (.str _ _) O (Ext.refl _ _)
   ·split
    ·rename_i h
     have:c=[]:=by simpa [toS,Str.length] using h
     clear h hf hl;subst this
     exact q _ _ _ m (by rw [List.append_nil];exact .str _ _) O (Ext.refl _ _)
    ·have e:toS a++toS c=toS (a++c):=by show (⟨_⟩:Str)=⟨_⟩;simp [toS]
     refine ⟨by rw [e,sizeLine_eq];show (a++c).toArray.size≤_;rw [List.size_toArray,List.length_append];omega,?_⟩
     rw [e]
     exact q _ _ _ m (.str _ _) (O.tok _) (Ext.refl _ _)
  ·exact m.elim
 | seq l xs=>
  refine hu.seqIE λa vs qa no hs hr=>?_;clear hu;subst qa
  cases l with
  | false=>exact m.elim
  | true=>
   cases y with
   | seq l' ys=>
    refine hv.seqIE λa' ws qa no' hs' hr'=>?_;clear hv;subst qa
    cases l' with
    | false=>exact m.elim
    | true=>
     refine Xi λgk=>?_;rcases Xo m with ⟨hf,m⟩ | ⟨_,m⟩ <;> (refine gk ?_;clear gk)
     ·rw [Yw] at m
      have hl:=Ye hf
      rw [List.length_append,← hr.length,← hr'.length] at hl
      refine hs.elim λn e1=>?_
      refine hs'.elim λn' e2=>?_
      have e:vs.toArray++ws.toArray=(vs++ws).toArray:=by simp
      refine concat_meets ⟨_,e1,rfl⟩ ⟨_,e2,rfl⟩ noFill_list_add seq_list_add PySem.F.slot_list_add PySem.F.entry_list_add (PySem.F.args_list_add_2 _ _) (list_addW a a' vs.toArray ws.toArray n n' none none #[] #[] (by rw [List.size_toArray,List.size_toArray,sizeLine_eq];omega)) ⟨e1,e2,?_⟩
      rw [e]
      exact q _ _ _ m (.seq (O.hr.fresh (XZ _)) ⟨0,Heap.get?_push_size _ rfl⟩ ((hr.append hr').ext (Ext.push _ _ _))) (O.push _) (Ext.push _ _ _)
     ·exact m.elim
   | _=>exact m.elim
 | _=>exact m.elim
theorem Zk:Gq W M7 (binaryOp .Mult):=by
 intro A ρ σ s x y u v K Q E OA hu hv O m q
 cases x with
 | int i=>
  refine hu.intIE λt qa=>?_;clear hu;subst qa
  refine Xs m λj qa m'=>?_;subst qa
  clear m;have m:=m';clear m'
  refine hv.intIE λt' qa=>?_;clear hv;subst qa
  refine Xi λgk=>?_;rcases Xo m with ⟨hs,m⟩ | ⟨_,m⟩ <;> (refine gk ?_;clear gk)
  ·have:=JJ hs
   exact P.mul_int (q _ _ _ (YZ m) (.int _ _) (O.tok _) (Ext.refl _ _)) (PySem.IntMulOk.of_left (PySem.intBits_le_64 (by omega) (by omega)))
  ·exact m.elim
 | str a=>
  refine hu.strIE λt qa=>?_;clear hu;subst qa
  refine Xs m λj qa m'=>?_;subst qa
  clear m;have m:=m';clear m'
  refine hv.intIE λt' qa=>?_;clear hv;subst qa
  refine Xi λgk=>?_;rcases Xo m with ⟨hn,m⟩ | ⟨_,m⟩ <;> (refine gk ?_;clear gk)
  ·refine Xi λgk=>?_;rcases Xo m with ⟨hf,m⟩ | ⟨_,m⟩ <;> (refine gk ?_;clear gk)
   ·rw [Yw] at m
    have h2:=ZP hn
    have hl:=Ye hf
    have hz:(toS a).length=a.length:=by show a.toArray.size=_;simp
    have hm:(toS a).length*j.toNat≤4096*64:=Nat.mul_le_mul (by omega) (by omega)
    refine P.mul_str ?_ (λh1 __=>?_) (λ__ __=>?_) ?_
    ·rw [decide_eq_false (by omega),decide_eq_false (by omega)];rfl
    ·have h3:((toS a).length:Int)≤(2 ^ 63-1)/j:=by
      refine Int.le_ediv_of_mul_le (by omega) ?_
      have h4:((toS a).length:Int)*j≤4096*64:=Int.mul_le_mul (by omega) (by omega) (by omega) (by omega)
      omega
     omega
    ·show decide (_>sizeLine)=false
     rw [sizeLine_eq]
     exact decide_eq_false (by omega)
    ·split
     ·have e:j.toNat=0:=by omega
      rw [e] at m
      exact ⟨by decide,q _ _ _ m (.str [] _) (O.tok _) (Ext.refl _ _)⟩
     ·split
      ·rename_i h1 h3
       refine Xi λgk=>?_;rcases (Bool.or_eq_true _ _).mp h3 with h3 | h3 <;> (refine gk ?_;clear gk)
       ·have e:j.toNat=1:=by have:=of_decide_eq_true h3;omega
        rw [e] at m
        have e2:rep a 1=a:=by show a++rep a 0=a;rw [Vc,List.append_nil]
        rw [e2] at m
        exact q _ _ _ m (.str a _) O (Ext.refl _ _)
       ·have:a=[]:=by simpa [toS,Str.length] using h3
        clear h3 hf hl hm hz;subst this
        have e2:∀ n,rep ([]:List Nat) n=[]:=by intro n;induction n with | zero=>rfl | succ n ih=>show []++rep [] n=[];rw [ih];rfl
        rw [e2] at m
        exact q _ _ _ m (.str [] _) O (Ext.refl _ _)
      ·have e3:(⟨(List.replicate j.toNat (toS a).cps).foldl (·++·) #[]⟩:Str)=toS (rep a j.toNat):=by
        show (⟨(List.replicate j.toNat a.toArray).foldl (·++·) #[]⟩:Str)=_
        rw [BP];rfl
       rw [e3]
       refine ⟨?_,q _ _ _ m (.str _ _) (O.tok _) (Ext.refl _ _)⟩
       rw [sizeLine_eq];show (rep a j.toNat).toArray.size≤_
       rw [List.size_toArray,KW,Nat.mul_comm,← hz];omega
   ·exact m.elim
  ·exact m.elim
 | seq l xs=>
  refine hu.seqIE λa vs qa no hs hr=>?_;clear hu;subst qa
  cases l with
  | false=>exact m.elim
  | true=>
   refine Xs m λj qa m'=>?_;subst qa
   clear m;have m:=m';clear m'
   refine hv.intIE λt' qa=>?_;clear hv;subst qa
   refine Xi λgk=>?_;rcases Xo m with ⟨hn,m⟩ | ⟨_,m⟩ <;> (refine gk ?_;clear gk)
   ·refine Xi λgk=>?_;rcases Xo m with ⟨hf,m⟩ | ⟨_,m⟩ <;> (refine gk ?_;clear gk)
    ·rw [Yw] at m
     have h2:=ZP hn
     have hl:=Ye hf
     obtain ⟨n,e1⟩:=hs
     rw [← hr.length] at hl
     have hm:vs.toArray.size*j.toNat≤4096*64:=by rw [List.size_toArray];exact Nat.mul_le_mul (by omega) (by omega)
     refine wpAny_binaryOp_repeat_ref (T:="list") (U:="int") (by decide) ⟨_,e1,rfl⟩ (λs'=>typeIs_int s' j t') noFill_list_mul F.fills_int_mul F.slot_int_rmul repeat_list F.slot_int_index.lookup
      (call_meets F.slot_int_rmul (typeIs_int s j t') F.entry_int_rmul (F.args_int_rmul_2 _ _) (int___rmul___int_list j t' a vs.toArray n)
       ⟨e1,rfl,⟨_,e1,rfl⟩,call_meets F.slot_list_mul ⟨_,e1,rfl⟩ F.entry_list_mul (F.args_list_mul_2 _ _)
        (AutoListH.list___mul___list_int_3 a vs.toArray n j t' (by simp [Builtin.List.listFitsIndex];omega) (by omega) (by simp [Builtin.List.listTooLong,sizeLine];rw [List.size_toArray] at hm;omega))
        ⟨e1,?_⟩⟩)
     have e3:(List.foldl (λx1 x2=>x1++x2) #[] (List.replicate (if vs.toArray.isEmpty=true then 0 else j.toNat) vs.toArray):Array Value)=(rep vs j.toNat).toArray:=by
      split
      ·rename_i h
       have:vs=[]:=by simpa using h
       clear e1 h hl hm hr;subst this
       have e2:∀ n,rep ([]:List Value) n=[]:=by intro n;induction n with | zero=>rfl | succ n ih=>show []++rep [] n=[];rw [ih];rfl
       rw [e2];rfl
      ·exact K8 vs _
     rw [e3]
     exact q _ _ _ m (.seq (O.hr.fresh (XZ _)) ⟨0,Heap.get?_push_size _ rfl⟩ ((hr.rep _).ext (Ext.push _ _ _))) (O.push _) (Ext.push _ _ _)
    ·exact m.elim
   ·exact m.elim
 | _=>exact m.elim
end
end
section
set_option tactic.hygienic false
variable [iC:Cs]
section
variable {W:Wd} {ctx:List Bd} {b:Nat}
theorem G1 (i j:Int):eqI i j=(i==j):=by
 cases i with
 | ofNat m=>cases j with
  | ofNat n=>
   show Nat.beq m n=_
   rw [Bool.eq_iff_iff,Nat.beq_eq,beq_iff_eq]
   exact ⟨λh=>by rw [h],λh=>by injection h⟩
  | negSucc n=>rfl
 | negSucc m=>cases j with
  | ofNat n=>rfl
  | negSucc n=>
   show Nat.beq m n=_
   rw [Bool.eq_iff_iff,Nat.beq_eq,beq_iff_eq]
   exact ⟨λh=>by rw [h],λh=>by injection h⟩
theorem Gb (i j:Int):ltI i j=decide (i<j):=by
 cases i with
 | ofNat m=>cases j with
  | ofNat n=>
   show Nat.blt m n=_
   rw [Bool.eq_iff_iff,Nat.blt_eq,decide_eq_true_eq]
   exact ⟨λh=>Int.ofNat_lt.mpr h,λh=>Int.ofNat_lt.mp h⟩
  | negSucc n=>show false=_;symm;apply decide_eq_false;rw [Int.negSucc_eq];show ¬ ((m:Int)<_);omega
 | negSucc m=>cases j with
  | ofNat n=>show true=_;symm;apply decide_eq_true;rw [Int.negSucc_eq];show _<(n:Int);omega
  | negSucc n=>
   show Nat.blt n m=_
   rw [Bool.eq_iff_iff,Nat.blt_eq,decide_eq_true_eq,Int.negSucc_eq,Int.negSucc_eq]
   omega
theorem Jz (a c:List Nat):eqN a c=(a==c):=by
 induction a generalizing c with
 | nil=>cases c <;> rfl
 | cons x r ih=>cases c with
  | nil=>rfl
  | cons y q=>
   show @Bool.rec (λ__=>Bool) false (eqN r q) (Nat.beq x y)=_
   rw [ih]
   cases h:Nat.beq x y with
   | true=>have:=Nat.eq_of_beq_eq_true h;clear h;subst this;simp
   | false=>have:=Nat.ne_of_beq_eq_false h;simp [this]
inductive EqA:MV→MV→Bool→Prop
 | int (i j):EqA (.int i) (.int j) (i==j)
 | str (i j):EqA (.str i) (.str j) (i==j)
theorem I5 {x y:MV} {k:Bool→Prop} (h:eqA x y k):(∃ r,EqA x y r∧k r)∨(∃ a b o,x=.flt a∧y=.flt b∧Float64.cmp a b=some o∧k (o==.eq)):=by
 cases x with
 | int i=>refine Xs h λj qa h=>?_;subst qa;exact .inl ⟨_,.int i j,by rw [← G1];exact h⟩
 | str i=>refine YF h λj qa h=>?_;subst qa;exact .inl ⟨_,.str i j,by rw [← Jz];exact h⟩
 | flt a=>
  cases y with
  | flt b=>
   unfold eqA at h
   cases q:Float64.cmp a b with
   | none=>simp only [q] at h
   | some o=>simp only [q] at h;exact .inr ⟨a,b,o,rfl,rfl,q,h⟩
  | _=>exact h.elim
 | _=>exact h.elim
noncomputable def EqR (x y:MV) (r:Bool):Prop:=EqA x y r∨∃ a b o,x=.flt a∧y=.flt b∧Float64.cmp a b=some o∧r=(o==.eq)
theorem IY {x y:MV} {k:Bool→Prop} (h:eqA x y k):∃ r,EqR x y r∧k r:=by
 refine Xi λgk=>?_;rcases I5 h with ⟨r,a,b⟩ | ⟨a,b,o,h1,h2,h3,h4⟩ <;> (refine gk ?_;clear gk)
 ·exact ⟨r,.inl a,b⟩
 ·exact ⟨_,.inr ⟨a,b,o,h1,h2,h3,rfl⟩,h4⟩
theorem EqA.at {A:Around} {ρ:Rho} {s:Shared} {x y:MV} {u v:Value} {r:Bool} (h:EqA x y r) (hu:VR ρ s.heap u x) (hv:VR ρ s.heap v y):PySem.SeqAt.EqAt A s u v r:=by
 cases h with
 | int i j=>cases hu with | int _ t=>cases hv with | int _ t'=>exact (MeetsSeq.EqGives.int i j t t').at A s
 | str i j=>
  refine hu.strIE λt qa=>?_;clear hu;subst qa;refine hv.strIE λt' qb=>?_;clear hv;subst qb
  have q:=(SeqRoads2.EqGives.str (toS i) (toS j) t t').at A s
  simpa [toS] using q
theorem HP {x y:MV} {k:Bool→Prop} (h:Pw x y k):∃ r,EqA x y r∧k r:=by
 cases x with
 | int i=>refine Xs h λj qa h=>?_;subst qa;exact ⟨_,.int i j,by rw [← G1];exact h⟩
 | str i=>refine YF h λj qa h=>?_;subst qa;exact ⟨_,.str i j,by rw [← Jz];exact h⟩
 | _=>exact h.elim
theorem Dm {xs ys:List MV} {k:Bool→Prop} (h:Jj xs ys k):∃ e:Nat→Bool,(∀ j x y,xs[j]?=some x→ys[j]?=some y→EqA x y (e j))∧k ((List.range xs.length).all e):=by
 induction xs generalizing ys k with
 | nil=>exact ⟨λ__=>true,λj x y e=>by simp at e,h⟩
 | cons a r ih=>
  cases ys with
  | nil=>exact h.elim
  | cons b q=>
   have h':Pw a b λr₀=>Jj r q λr'=>k (r₀&&r'):=h
   refine Xi λgk=>?_
   refine (HP h').elim λr₀ zz=>zz.elim λh1 h2=>?_
   refine (ih h2).elim λe zz=>zz.elim λh3 h4=>?_
   refine gk ?_;clear gk
   refine ⟨λj=>match j with | 0=>r₀ | j+1=>e j,λj x y ex ey=>?_,?_⟩
   ·cases j with
    | zero=>simp at ex ey;subst ex ey;exact h1
    | succ j=>exact h3 j x y (by simpa using ex) (by simpa using ey)
   ·have e2:(List.range (a :: r).length).all (λj=>match j with | 0=>r₀ | j+1=>e j)=(r₀&&(List.range r.length).all e):=by
     rw [List.length_cons,List.range_succ_eq_map,List.all_cons,List.all_map];rfl
    rw [e2];exact h4
theorem GP {xs ys:List MV} {k:Bool→Prop} (h:Jj xs ys k) {C':Prop} (f':∀ (e:Nat→Bool),(∀ j x y,xs[j]?=some x→ys[j]?=some y→EqA x y (e j))→k ((List.range xs.length).all e)→C'):C':=by refine (Dm h).elim λe zz=>zz.elim λq0 q1=>?_;exact f' e q0 q1
inductive EqM (A:Around) (s:Shared) (u v:Value) (r:Bool):Prop where
 | mk (eq:∀ prog w E Q,Q (.bool r) s→wpAny (model prog w) A (compareOp .Eq u v) Q E s) (ne:∀ prog w E Q,Q (.bool (!r)) s→wpAny (model prog w) A (compareOp .NotEq u v) Q E s)
theorem WY {A:Around} {ρ:Rho} {s:Shared} {x y:MV} {u v:Value} {k:Bool→Prop} (h:eqA x y k) (hu:VR ρ s.heap u x) (hv:VR ρ s.heap v y):∃ r,EqM A s u v r∧k r:=by
 refine Xi λgk=>?_
 obtain ⟨r,h1,h2⟩:=IY h
 refine gk ?_;clear gk
 refine ⟨r,?_,h2⟩
 refine Xi λgk=>?_;rcases h1 with h1 | ⟨a,b,o,rfl,rfl,h,rfl⟩ <;> (refine gk ?_;clear gk)
 ·cases h1 with
  | int i j=>
   refine hu.intIE λt qa=>?_;clear hu;subst qa
   refine hv.intIE λt' qa=>?_;clear hv;subst qa
   exact ⟨λprog w E Q hq=>P.eq_int hq,λprog w E Q hq=>P.ne_int hq⟩
  | str i j=>
   refine hu.strIE λt qa=>?_;clear hu;subst qa
   refine hv.strIE λt' qa=>?_;clear hv;subst qa
   exact ⟨λprog w E Q hq=>P.eq_str (by simpa [toS] using hq),λprog w E Q hq=>P.ne_str (by simpa [toS,bne] using hq)⟩
 ·refine hu.fltIE λt qa __=>?_;clear hu;subst qa
  refine hv.fltIE λt' qa __=>?_;clear hv;subst qa
  exact ⟨λprog w E Q hq=>AutoFloatOps.eq_0 (by rw [h];exact hq),λprog w E Q hq=>AutoFloatOps.ne_0 (by rw [h];exact hq)⟩
theorem Dg {x y:MV} {k:Bool→Prop} (h:eqV x y k):(∃ l xs ys,x=.seq l xs∧y=.seq l ys∧ifB (Nat.beq (len xs) (len ys)) (Jj xs ys k) (l=true∧k false))∨eqA x y k:=by
 cases x with
 | seq l xs=>
  cases y with
  | seq m ys=>
   refine .inl ⟨l,xs,ys,rfl,?_⟩
   cases l <;> cases m <;> first | exact h.elim | skip
   ·refine ⟨rfl,?_⟩
    rcases Xo (show ifB (Nat.beq (len xs) (len ys)) (Jj xs ys k) False from h) with ⟨e,h⟩ | ⟨_,h⟩
    ·rw [e];exact h
    ·exact h.elim
   ·refine ⟨rfl,?_⟩
    rcases Xo (show ifB (Nat.beq (len xs) (len ys)) (Jj xs ys k) (k false) from h) with ⟨e,h⟩ | ⟨e,h⟩
    ·rw [e];exact h
    ·rw [e];exact ⟨rfl,h⟩
  | _=>exact (show False from h).elim
 | _=>exact .inr h
theorem Vi {A:Around} {ρ:Rho} {s:Shared} {xs ys:List MV} {vs ws:List Value} {e:Nat→Bool} (hr:VRs ρ s.heap vs xs) (hr':VRs ρ s.heap ws ys) (he:∀ j x y,xs[j]?=some x→ys[j]?=some y→EqA x y (e j)) (j:Nat) (h1:j<vs.toArray.size) (h2:j<ws.toArray.size) :
  PySem.SeqAt.EqAt A s vs.toArray[j] ws.toArray[j] (e j):=by
 have i1:j<xs.length:=by rw [← hr.length];simpa using h1
 have i2:j<ys.length:=by rw [← hr'.length];simpa using h2
 have g1:xs[j]?=some xs[j]:=List.getElem?_eq_getElem i1
 have g2:ys[j]?=some ys[j]:=List.getElem?_eq_getElem i2
 obtain ⟨v1,q1,r1⟩:=hr.get g1
 obtain ⟨v2,q2,r2⟩:=hr'.get g2
 have e1:vs.toArray[j]=v1:=by have:=List.getElem?_eq_some_iff.mp q1;simpa using this.2
 have e2:ws.toArray[j]=v2:=by have:=List.getElem?_eq_some_iff.mp q2;simpa using this.2
 rw [e1,e2]
 exact EqA.at (he j _ _ g1 g2) r1 r2
theorem I7 {A:Around} {ρ:Rho} {s:Shared} {x y:MV} {u v:Value} {k:Bool→Prop} (hA:A.units<cLine) (h:eqV x y k) (hu:VR ρ s.heap u x) (hv:VR ρ s.heap v y):∃ r,EqM A s u v r∧k r:=by
 refine Xi λgk=>?_;rcases Dg h with ⟨l,xs,ys,rfl,rfl,h'⟩ | h <;> (refine gk ?_;clear gk)
 ·refine hu.seqIE λa vs qa __ hs hr=>?_;clear hu;subst qa
  refine Xi λgk=>?_
  refine hv.seqIE λb ws qa __ hs' hr'=>?_;clear hv;subst qa
  refine gk ?_;clear gk
  have z1:vs.toArray.size=xs.length:=by rw [List.size_toArray,hr.length]
  have z2:ws.toArray.size=ys.length:=by rw [List.size_toArray,hr'.length]
  rw [Yh,Yh] at h'
  refine Xi λgk=>?_;rcases Xo h' with ⟨hl,h2⟩ | ⟨hl,rfl,h2⟩ <;> (refine gk ?_;clear gk)
  ·have hl:=Nat.eq_of_beq_eq_true hl
   refine Xi λgk=>?_
   refine GP h2 λe he hk=>?_
   refine gk ?_;clear gk
   refine ⟨_,?_,hk⟩
   clear h h';cases l
   ·have hz:((List.range (min vs.toArray.size ws.toArray.size)).all e&&vs.toArray.size==ws.toArray.size)=(List.range xs.length).all e:=by
     rw [z1,z2,← hl];simp
    exact ⟨λprog w E Q hq=>PySem.SeqAt.eq_tupleAt hs.tuple hs'.tuple hA (Vi hr hr' he) (by rw [hz];exact hq),λprog w E Q hq=>PySem.SeqAt.RcNeAt.tuples hs.tuple hs'.tuple hA (Vi hr hr' he) prog w E Q (by rw [hz];exact hq)⟩
   ·exact ⟨λprog w E Q hq=>PySem.SeqAt.eq_listAt hs.list hs'.list (by rw [z1,z2,hl]) hA (Vi hr hr' he) (by rw [z1];exact hq),λprog w E Q hq=>PySem.SeqAt.RcNeAt.lists hs.list hs'.list (by rw [z1,z2,hl]) hA (Vi hr hr' he) prog w E Q (by rw [z1];exact hq)⟩
  ·have hz:(vs.toArray.size != ws.toArray.size)=true:=by rw [z1,z2];simpa using Nat.ne_of_beq_eq_false hl
   exact ⟨false,⟨λprog w E Q hq=>PySem.SeqAt.eq_list_lengthsAt hs.list hs'.list hz hA hq,λprog w E Q hq=>PySem.SeqAt.RcNeAt.lists_lengths hs.list hs'.list hz hA prog w E Q hq⟩,h2⟩
 ·exact WY h hu hv
theorem La {A:Around} {ρ:Rho} {s:Shared} {x y:MV} {u v:Value} {k:Bool→Prop} (hA:A.units<cLine) (h:eqV x y k) (hu:VR ρ s.heap u x) (hv:VR ρ s.heap v y) {C':Prop} (f':∀ r,EqM A s u v r→k r→C'):C':=by refine (I7 hA h hu hv).elim λr zz=>zz.elim λq0 q1=>?_;exact f' r q0 q1
theorem Yi:JQ W cEq (compareOp .Eq):=λA ρ σ s x y u v K Q E OA hu hv O m q=>by
 refine Xi λgk=>?_
 refine La (A:=A) (by have:=OA.2.2;omega) m hu hv λr qa hk=>?_;obtain ⟨h1,_⟩:=qa
 refine gk ?_;clear gk
 exact h1 _ _ _ _ (q _ _ hk O (Ext.refl _ _))
theorem Zx:JQ W cNe (compareOp .NotEq):=λA ρ σ s x y u v K Q E OA hu hv O m q=>by
 refine Xi λgk=>?_
 refine La (A:=A) (by have:=OA.2.2;omega) m hu hv λr qa hk=>?_;obtain ⟨_,h1⟩:=qa
 refine gk ?_;clear gk
 exact h1 _ _ _ _ (q _ _ hk O (Ext.refl _ _))
theorem Bw:JQ W cGt (compareOp .Gt):=λA ρ σ s x y u v K Q E OA hu hv O m q=>by
 refine Xi λgk=>?_
 refine Xs m λi qa m'=>?_;subst qa
 clear m
 refine Xs m' λj qa m=>?_;subst qa
 clear m'
 refine hu.intIE λt qa=>?_;clear hu;subst qa;refine hv.intIE λt' qb=>?_;clear hv;subst qb
 refine gk ?_;clear gk
 rw [Gb] at m
 exact P.gt_int (q _ _ m O (Ext.refl _ _))
theorem Ii:JQ W cGe (compareOp .GtE):=λA ρ σ s x y u v K Q E OA hu hv O m q=>by
 refine Xi λgk=>?_
 refine Xs m λi qa m'=>?_;subst qa
 clear m
 refine Xs m' λj qa m=>?_;subst qa
 clear m'
 refine hu.intIE λt qa=>?_;clear hu;subst qa;refine hv.intIE λt' qb=>?_;clear hv;subst qb
 refine gk ?_;clear gk
 rw [Gb] at m
 have e:decide (i≥j) = !decide (i<j):=by rw [Bool.eq_iff_iff];simp
 exact P.ge_int (by rw [e];exact q _ _ m O (Ext.refl _ _))
end
end
section
set_option tactic.hygienic false
variable [iC:Cs]
theorem Gj (l r:Vs) (b:Bool) (q:Pa):Yb (.nd l r) (b :: q)=Yb (match b with | true=>r | false=>l) q:=by cases b <;> rfl
theorem Ie {v:MV} {t:Vs} {p:Pa} {k:Vs→Prop} (h:Y7 v t p k):∃ t',k t'∧Yb t' p=v∧∀ q:Pa,q.length=p.length→q≠p→Yb t' q=Yb t q:=by
 induction p generalizing t k with
 | nil=>
  refine ⟨.lf v,h,rfl,λq hl hq=>?_⟩
  cases q with
  | nil=>exact absurd rfl hq
  | cons=>simp at hl
 | cons b p ih=>
  cases t with
  | lf=>exact h.elim
  | nd l r=>
   cases b with
   | false=>
    have h':Y7 v l p λl'=>k (.nd l' r):=h
    refine Xi λgk=>?_
    refine (ih h').elim λl' zz=>zz.elim λh1 zz=>zz.elim λh2 h3=>?_
    refine gk ?_;clear gk
    refine ⟨.nd l' r,h1,by rw [Gj];exact h2,λq hl hq=>?_⟩
    cases q with
    | nil=>simp at hl
    | cons c q=>
     rw [Gj,Gj]
     cases c with
     | false=>exact h3 q (by simpa using hl) (λe=>hq (by rw [e]))
     | true=>rfl
   | true=>
    have h':Y7 v r p λr'=>k (.nd l r'):=h
    refine Xi λgk=>?_
    refine (ih h').elim λr' zz=>zz.elim λh1 zz=>zz.elim λh2 h3=>?_
    refine gk ?_;clear gk
    refine ⟨.nd l r',h1,by rw [Gj];exact h2,λq hl hq=>?_⟩
    cases q with
    | nil=>simp at hl
    | cons c q=>
     rw [Gj,Gj]
     cases c with
     | true=>exact h3 q (by simpa using hl) (λe=>hq (by rw [e]))
     | false=>rfl
theorem Zt {v:MV} {t:Vs} {p:Pa} {k:Vs→Prop} (h:Y7 v t p k) {C':Prop} (f':∀ t',k t'→Yb t' p=v→(∀ q:Pa,q.length=p.length→q≠p→Yb t' q=Yb t q)→C'):C':=by refine (Ie h).elim λt' zz=>zz.elim λq0 zz=>zz.elim λq1 q2=>?_;exact f' t' q0 q1 q2
noncomputable def plc (env:Env) (b:Addr):Prop:=b=env.locals∨∃ x,env.cells.lookup x=some b
structure ExtS (env:Env) (ρ ρ':Rho) (h h':Heap):Prop where
 same:∀ i,ρ i≠[]→ρ' i=ρ i
 fresh:∀ a,own ρ' a→own ρ a∨h.get? a=none
 keep:∀ b o,h.get? b=some o→¬ own ρ b→¬ plc env b→h'.get? b=some o
 prv:∀ b∈ρ 0,∀ o,h.get? b=some o→¬ plc env b→h'.get? b=some o
theorem Ext.toS {env:Env} {ρ ρ':Rho} {h h':Heap} (X:Ext ρ ρ' h h'):ExtS env ρ ρ' h h':=⟨X.same,X.fresh,λb o e n __=>X.keep b o e n,λb hb o e __=>X.prv b hb o e⟩
theorem ExtS.refl (env:Env) (ρ:Rho) (h:Heap):ExtS env ρ ρ h h:=(Ext.refl ρ h).toS
theorem ExtS.not {env:Env} {ρ ρ':Rho} {h h':Heap} (X:ExtS env ρ ρ' h h') {a:Addr} {o:Obj} (x:¬ own ρ a) (e:h.get? a=some o):¬ own ρ' a:=λy=>by
 rcases X.fresh a y with y | y
 ·exact x y
 ·rw [e] at y;cases y
theorem ExtS.trans {env:Env} {ρ₁ ρ₂ ρ₃:Rho} {h₁ h₂ h₃:Heap} (X:ExtS env ρ₁ ρ₂ h₁ h₂) (Y:ExtS env ρ₂ ρ₃ h₂ h₃) (al:∀ b,plc env b→∃ o,h₂.get? b=some o):ExtS env ρ₁ ρ₃ h₁ h₃:=by
 refine ⟨λi hi=>by have e:=X.same i hi;rw [Y.same i (e▸hi),e],λa ha=>?_,λb o e hb hp=>Y.keep b o (X.keep b o e hb hp) (X.not hb e) hp,λb hb o e hp=>Y.prv b (by rw [X.same 0 (List.ne_nil_of_mem hb)];exact hb) o (X.prv b hb o e hp) hp⟩
 by_cases ho:own ρ₁ a
 ·exact .inl ho
 ·rcases Y.fresh a ha with y | y
  ·exact X.fresh a y
  ·cases e:h₁.get? a with
   | none=>exact .inr rfl
   | some o=>
    by_cases hp:plc env a
    ·refine (al a hp).elim λo' h'=>?_;rw [h'] at y;cases y
    ·rw [X.keep a o e ho hp] at y;cases y
theorem FR.alive {ctx:List Bd} {env:Env} {vs:Vs} {ρ:Rho} {h:Heap} (F:FR W ctx env vs ρ h):∀ b,plc env b→∃ o,h.get? b=some o:=by
 rintro b (rfl | ⟨x,hx⟩)
 ·refine F.locE λm qa __=>?_;refine qa.elim λo zz=>zz.elim λ__ zz=>zz.elim λ__ zz=>zz.elim λho __=>?_;exact ⟨o,ho⟩
 ·refine F.ncE x b hx λ__ v o ho __=>?_;exact ⟨o,ho⟩
theorem FR.notPlc {ctx:List Bd} {env:Env} {vs:Vs} {ρ:Rho} {h:Heap} (F:FR W ctx env vs ρ h) {a:Addr} {o:Obj} (e:h.get? a=some o) (h1:∀ es ep,o.data≠.dict es ep) (h2:∀ v,o.data≠.cell v):¬ plc env a:=by
 rintro (rfl | ⟨x,hx⟩)
 ·refine F.locE λm qa __=>?_;refine qa.elim λo' zz=>zz.elim λes zz=>zz.elim λep zz=>zz.elim λho zz=>zz.elim λhd __=>?_;rw [ho] at e;clear h2;cases e;exact h1 _ _ hd
 ·refine F.ncE x a hx λ__ v o' ho hd=>?_;rw [ho] at e;clear h1;cases e;exact h2 _ hd
theorem VR.extS {ctx:List Bd} {env:Env} {vs:Vs} {ρ ρ':Rho} {h h':Heap} (F:FR W ctx env vs ρ h) (X:ExtS env ρ ρ' h h') {v mv} (r:VR ρ h v mv):VR ρ' h' v mv:=
 VM.v ⟨λ__ __ __ ho ⟨n,e⟩=>⟨X.not ho e,n,X.keep _ _ e ho (F.notPlc e (λ__ __ q=>nomatch q) λ__ q=>nomatch q)⟩,λ__ __ __ __ __ __ __ ho e=>⟨X.not ho e,X.keep _ _ e ho (F.notPlc e (λ__ __ q=>nomatch q) λ__ q=>nomatch q)⟩,λ__ __ __ e=>(X.same _ (e▸List.cons_ne_nil _ _)).trans e⟩ r
theorem VRs.extS {ctx:List Bd} {env:Env} {vs:Vs} {ρ ρ':Rho} {h h':Heap} (F:FR W ctx env vs ρ h) (X:ExtS env ρ ρ' h h') {us xs} (r:VRs ρ h us xs):VRs ρ' h' us xs:=VRs.map (VR.extS F X) r
theorem HR.stored {prog:Program} {w:World} {h₀:Heap} {ctx:List Bd} {env:Env} {vs:Vs} {ρ:Rho} {σ:H} {h h':Heap} (R:HR prog w h₀ ρ σ h) (F:FR W ctx env vs ρ h)
  (k:∀ b o,h.get? b=some o→¬ plc env b→h'.get? b=some o):HR prog w h₀ ρ σ h':=by
 have X:ExtS env ρ ρ h h':=⟨λ__ __=>rfl,λ__ x=>.inl x,λb o e __ hp=>k b o e hp,λb __ o e hp=>k b o e hp⟩
 have np:∀ a,own ρ a→¬ plc env a:=by
  rintro a ha (rfl | ⟨x,hx⟩)
  ·exact F.nl ha
  ·exact (F.nc x a hx).1 ha
 refine ⟨R.bound,R.dom,λn l e i o hl=>?_,λa ha=>(let ⟨o,e⟩:=R.priv a ha;⟨o,k _ _ e (np a ⟨0,ha⟩)⟩),R.disj,R.base⟩
 exact (R.obj n l e i o hl).move (λ__ __ r=>r.extS F X) λa ha o e=>k _ _ e (np a ⟨i+1,ha⟩)
noncomputable def Y8 (ctx:List Bd) (x:Str) (p:Pa):Bool:=ctx.all λb=>match b with
 | .loc y q=>if y=x then q==p else (q != p&&q.length==p.length)
 | .cel y q _=>if y=x then q==p else (q != p&&q.length==p.length)
 | .glo _=>true
theorem Zg {ctx:List Bd} {x:Str} {p:Pa} (h:Y8 ctx x p=true) {y:Str} {q:Pa} (hm:Bd.loc y q∈ctx∨∃ o,Bd.cel y q o∈ctx):(y=x∧q=p)∨(y≠x∧q≠p∧q.length=p.length):=by
 have:(if y=x then q==p else (q != p&&q.length==p.length))=true:=by
  rcases hm with hm | ⟨o,hm⟩ <;> exact List.all_eq_true.mp h _ hm
 by_cases e:y=x
 ·rw [if_pos e] at this;exact .inl ⟨e,beq_iff_eq.mp this⟩
 ·rw [if_neg e] at this
  refine (Bool.and_eq_true_iff.mp this).elim λh1 h2=>?_
  exact .inr ⟨e,by simpa using h1,by simpa using h2⟩
section
variable {W:Wd} {ctx:List Bd} {b:Nat}
noncomputable def NB (W:Wd) (env:Env):Prop:=∀ b,plc env b→W.h₀.get? b=none
noncomputable def Hn (W:Wd) (ctx:List Bd) (env:Env) (ρ:Rho) (s:Shared) (n bk ct:KS) (r:K) (Q:Flow→Shared→Prop):Prop:=
 ∀ ρ' σ' s',Ok W ρ' σ' s'→ExtS env ρ ρ' s.heap s'.heap→∀ vs',FR W ctx env vs' ρ' s'.heap→
  (n vs' σ'→Q .next s')∧(bk vs' σ'→Q .brk s')∧(ct vs' σ'→Q .cont s')∧∀ v mv,VR ρ' s'.heap v mv→r mv σ'→Q (.ret v) s'
noncomputable def Z9 (W:Wd) (ctx:List Bd) (b:Nat) (x:Ex) (st:Stmt):Prop:=
 ∀ (A:Around) (env:Env) (ρ:Rho) (σ:H) (vs:Vs) (s:Shared) (n bk ct:KS) (r:K) (Q:Flow→Shared→Prop) (E:Value→Shared→Prop),
  OkA A b→NB W env→FR W ctx env vs ρ s.heap→Ok W ρ σ s→x vs σ n bk ct r→Hn W ctx env ρ s n bk ct r Q→wpAny (model W.prog W.w) A (exec st env) Q E s
noncomputable def ZB (W:Wd) (ctx:List Bd) (b:Nat) (x:Ex) (st:List Stmt):Prop:=
 ∀ (A:Around) (env:Env) (ρ:Rho) (σ:H) (vs:Vs) (s:Shared) (n bk ct:KS) (r:K) (Q:Flow→Shared→Prop) (E:Value→Shared→Prop),
  OkA A b→NB W env→FR W ctx env vs ρ s.heap→Ok W ρ σ s→x vs σ n bk ct r→Hn W ctx env ρ s n bk ct r Q→wpAny (model W.prog W.w) A (execs st env) Q E s
noncomputable def MJ (W:Wd) (ctx:List Bd) (b:Nat) (t:Tg) (e:Expr):Prop:=
 ∀ (A:Around) (env:Env) (ρ:Rho) (σ:H) (vs:Vs) (s:Shared) (u:Value) (x:MV) (k:KS) (Q:Unit→Shared→Prop) (E:Value→Shared→Prop),
  OkA A b→NB W env→FR W ctx env vs ρ s.heap→Ok W ρ σ s→VR ρ s.heap u x→t x vs σ k→(∀ ρ' σ' s' vs',Ok W ρ' σ' s'→ExtS env ρ ρ' s.heap s'.heap→FR W ctx env vs' ρ' s'.heap→k vs' σ'→Q () s')→
   wpAny (model W.prog W.w) A (assign e env u) Q E s
theorem Ok.stored {env:Env} {vs:Vs} {ρ:Rho} {σ:H} {s:Shared} {h':Heap} {t:Nat} (O:Ok W ρ σ s) (F:FR W ctx env vs ρ s.heap) (nb:NB W env)
  (k:∀ b o,s.heap.get? b=some o→¬ plc env b→h'.get? b=some o):Ok W ρ σ { s with heap:=h',toks:=t }:=
 ⟨O.hr.stored F k,λb o e=>k b o (O.base b o e) (λq=>by have:=nb b q;rw [e] at this;cases this),O.gens,O.os⟩
theorem Bc {h:Heap} {a c:Addr} {m} {o:Obj} {v} (hns:h.Ns a m) (ho:h.get? c=some o) (hd:o.data=.cell v):c≠a:=by
 rintro rfl
 obtain ⟨o',_,_,ho',hd',_⟩:=hns
 rw [ho'] at ho;cases ho;rw [hd'] at hd;cases hd
theorem FR.upd {env:Env} {ρ:Rho} {vs vs':Vs} {h h':Heap} {u:Value} {y:Str} {p:Pa} {mm:Str→Option Value} (F:FR W ctx env vs ρ h) (X:ExtS env ρ ρ h h') (hns:h.Ns env.locals mm)
  (hl:∀ x p,Bd.loc x p∈ctx→env.kindOf x=some .local∧(Yb vs p=.unb∨∃ v,mm x=some v∧VR ρ h v (Yb vs p)))
  (hn':h'.Ns env.locals (λx=>if x=y then some u else mm x)) (hsb:Heap.SameBut env.locals h h') (hm:Bd.loc y p∈ctx) (hc:Y8 ctx y p=true) (hv:Yb vs' p=.unb∨VR ρ h' u (Yb vs' p))
  (hs:∀ q:Pa,q.length=p.length→q≠p→Yb vs' q=Yb vs q):FR W ctx env vs' ρ h':=by
 refine ⟨F.kind,F.glob,F.blt,F.nl,λz c e=>?_,F.apart,⟨_,hn',λz r hz=>⟨(hl z r hz).1,?_⟩⟩,λz r oo hz=>?_,F.glo,F.above⟩
 ·refine F.ncE z c e λn1 v o ho hd=>?_
  exact ⟨n1,v,o,(hsb.2 c (Bc hns ho hd)).trans ho,hd⟩
 ·clear hm hn';rcases Zg hc (.inl hz) with ⟨rfl,rfl⟩ | ⟨h1,h2,h3⟩
  ·exact hv.imp id λa=>⟨u,by rw [if_pos rfl],a⟩
  ·rw [hs r h3 h2,if_neg h1]
   exact ((hl z r hz).2).imp id λx=>x.elim λv x=>⟨v,x.1,x.2.extS F X⟩
 ·refine F.celE z r oo hz λk1 c v e1 hv' h4=>F.ncE z c e1 λn1 v' o ho hd=>?_
  refine ⟨k1,c,v,e1,hv'.sameBut hsb (Bc hns ho hd),?_⟩
  clear hv hn';rcases Zg hc (.inr ⟨_,hz⟩) with ⟨rfl,rfl⟩ | ⟨h1,h2,h3⟩
  ·have k2:=(hl z r hm).1
   rcases k1 with k1 | ⟨_,k1⟩ <;> (rw [k1] at k2;cases k2)
  ·rw [hs r h3 h2]
   exact h4.imp id λx=>x.elim λu x=>⟨u,x.1,x.2.extS F X⟩
theorem YH {A:Around} {env:Env} {ρ:Rho} {σ:H} {vs:Vs} {s:Shared} {u:Value} {x:MV} {y:Str} {p:Pa} {k:KS} {Q:Unit→Shared→Prop} {E:Value→Shared→Prop}
  (F:FR W ctx env vs ρ s.heap) (nb:NB W env) (O:Ok W ρ σ s) (hu:VR ρ s.heap u x) (hm:Bd.loc y p∈ctx∨Bd.cel y p true∈ctx) (hc:Y8 ctx y p=true) (m:Y7 x vs p λvs'=>k vs' σ)
  (q:∀ s' vs',Ok W ρ σ s'→ExtS env ρ ρ s.heap s'.heap→FR W ctx env vs' ρ s'.heap→k vs' σ→Q () s'):wpAny (model W.prog W.w) A (storeName env y u) Q E s:=by
 refine Xi λgk=>?_
 refine Zt m λvs' hk hg hs=>?_
 refine F.locE λmm hns hl=>?_
 refine gk ?_;clear gk
 have hpos:(env.scope.kind==.class||(env.scope.kind==.module&&env.locals != env.globals))=false:=by rw [F.kind];rfl
 rcases hm with hm | hm
 ·refine wpAny_storeName_local (hl y p hm).1 hns (λh' hn' hsb=>?_) hpos
  have kk:∀ b o,s.heap.get? b=some o→¬ plc env b→h'.get? b=some o:=λb o e np=>(hsb.2 b λz=>np (.inl z)).trans e
  have X:ExtS env ρ ρ s.heap h':=⟨λ__ __=>rfl,λ__ x=>.inl x,λb o e __ np=>kk b o e np,λb __ o e np=>kk b o e np⟩
  exact q _ vs' (O.stored F nb kk) X (F.upd X hns hl hn' hsb hm hc (.inr (hg▸hu.extS F X)) hs) hk
 ·refine F.celE y p true hm λhkc c v e1 hv __=>?_
  have hkc:env.kindOf y=some .cell:=hkc.resolve_right λh=>by cases h.1
  refine wpAny_storeName_cell F.kind hkc e1 hv λh' hv' hsb=>?_
  have kk:∀ b o,s.heap.get? b=some o→¬ plc env b→h'.get? b=some o:=λb o e np=>(hsb.2 b λz=>np (.inr ⟨y,z▸e1⟩)).trans e
  have X:ExtS env ρ ρ s.heap h':=⟨λ__ __=>rfl,λ__ x=>.inl x,λb o e __ np=>kk b o e np,λb __ o e np=>kk b o e np⟩
  have hne:env.locals≠c:=by
   rintro e
   refine hns.elim λo' zz=>zz.elim λ__ zz=>zz.elim λ__ zz=>zz.elim λho' zz=>zz.elim λhd' __=>?_
   refine hv.elim λo zz=>zz.elim λho hd=>?_
   rw [e] at ho';rw [ho'] at ho;clear zz;cases ho;rw [hd'] at hd;cases hd
  refine q _ vs' (O.stored (t:=s.toks) F nb kk) X ?_ hk
  refine ⟨F.kind,F.glob,F.blt,F.nl,λz c' e=>?_,F.apart,⟨mm,hns.sameBut hsb hne,λz r hz=>⟨(hl z r hz).1,?_⟩⟩,λz r oo hz=>?_,F.glo,F.above⟩
  ·refine (F.nc z c' e).elim λn1 zz=>zz.elim λv' hv''=>?_
   refine ⟨n1,?_⟩
   by_cases hcc:c'=c
   ·clear e1 hne hsb hv;subst hcc;exact ⟨_,hv'⟩
   ·exact ⟨v',hv''.sameBut hsb hcc⟩
  ·clear e1 hg hm m;rcases Zg hc (.inl hz) with ⟨rfl,rfl⟩ | ⟨h1,h2,h3⟩
   ·have k2:=(hl z r hz).1;rw [hkc] at k2;cases k2
   ·rw [hs r h3 h2]
    exact ((hl z r hz).2).imp id λ⟨v,a,b⟩=>⟨v,a,b.extS F X⟩
  ·refine F.celE z r oo hz λk1 c' v' e2 hv'' h4=>?_
   clear hkc hm m;rcases Zg hc (.inr ⟨_,hz⟩) with ⟨rfl,rfl⟩ | ⟨h1,h2,h3⟩
   ·rw [e1] at e2;clear hv'';cases e2
    exact ⟨k1,c,_,e1,hv',by rw [hg];exact .inr ⟨u,rfl,hu.extS F X⟩⟩
   ·have hcc:c'≠c:=λz'=>h1 (F.apart z y c (z'▸e2) e1)
    refine ⟨k1,c',v',e2,hv''.sameBut hsb hcc,?_⟩
    rw [hs r h3 h2]
    exact h4.imp id λ⟨u,a,b⟩=>⟨u,a,b.extS F X⟩
theorem XW {y:Str} {p:Pa} {pos} (hm:Bd.loc y p∈ctx∨Bd.cel y p true∈ctx) (hc:Y8 ctx y p=true):MJ W ctx b (tV p) (.Name y pos):=λA env ρ σ vs s u x k Q E OA nb F O hu m q=>
 wpAny_assign_Name (YH F nb O hu hm hc m λs' vs' O' X F' hk=>q _ _ _ _ O' X F' hk)
theorem Xw:ZB W ctx b (sL []) []:=λA env ρ σ vs s n bk ct r Q E OA nb F O m q=>
 wpAny_execs_nil ((q ρ σ s O (ExtS.refl _ _ _) vs F).1 m)
theorem Xj {x:Ex} {l:List Ex} {st:Stmt} {rest:List Stmt} (h1:Z9 W ctx b x st) (h2:ZB W ctx b (sL l) rest):ZB W ctx b (sL (x :: l)) (st :: rest):=λA env ρ σ vs s n bk ct r Q E OA nb F O m q=>by
 refine wpAny_execs_cons (h1 A env ρ σ vs s (λvs' h'=>sL l vs' h' n bk ct r) bk ct r _ _ OA nb F O m λρ₁ σ₁ s₁ O₁ X₁ vs₁ F₁=>?_)
 have q1:=q ρ₁ σ₁ s₁ O₁ X₁ vs₁ F₁
 refine ⟨λk₁=>?_,q1.2.1,q1.2.2.1,q1.2.2.2⟩
 exact h2 A env ρ₁ σ₁ vs₁ s₁ n bk ct r Q E OA nb F₁ O₁ k₁ λρ₂ σ₂ s₂ O₂ X₂ vs₂ F₂=>q ρ₂ σ₂ s₂ O₂ (X₁.trans X₂ F₁.alive) vs₂ F₂
theorem X9 {m₁:Ev} {e:Expr} {pos} (h:XD W ctx b m₁ e):Z9 W ctx b (Yn m₁) (.Return (some e) pos):=λA env ρ σ vs s n bk ct r Q E OA nb F O m q=>
 wpAny_Return_some (h A env ρ σ vs s r _ _ OA F O m λv mv ρ' σ' s' hk hv O' X=>(q ρ' σ' s' O' X.toS vs (F.ext X)).2.2.2 v mv hv hk)
theorem Fh {pos}:Z9 W ctx b S7 (.Break pos):=λA env ρ σ vs s n bk ct r Q E OA nb F O m q=>
 wpAny_Break ((q ρ σ s O (ExtS.refl _ _ _) vs F).2.1 m)
theorem B4 {pos}:Z9 W ctx b Ca (.Continue pos):=λA env ρ σ vs s n bk ct r Q E OA nb F O m q=>
 wpAny_Continue ((q ρ σ s O (ExtS.refl _ _ _) vs F).2.2.1 m)
theorem Yg {c:Ev} {x y:Ex} {t:Expr} {l r:List Stmt} {pos} (hc:JO W ctx b c t) (h1:ZB W ctx b x l) (h2:ZB W ctx b y r):Z9 W ctx b (sIf c x y) (.If t l r pos):=λA env ρ σ vs s n bk ct r Q E OA nb F O m q=>by
 refine wpAny_If (hc A env ρ σ vs s (λt h1=>ifB t (x vs h1 n bk ct r) (y vs h1 n bk ct r)) _ _ OA F O m λc ρ₁ σ₁ s₁ k₁ O₁ X₁=>?_)
 have q':Hn W ctx env ρ₁ s₁ n bk ct r Q:=λρ₂ σ₂ s₂ O₂ X₂ vs₂ F₂=>q ρ₂ σ₂ s₂ O₂ (X₁.toS.trans X₂ (F.ext X₁).alive) vs₂ F₂
 rcases Xo k₁ with ⟨rfl,k₁⟩ | ⟨rfl,k₁⟩
 ·exact h1 A env ρ₁ σ₁ vs s₁ n bk ct r Q E OA nb (F.ext X₁) O₁ k₁ q'
 ·exact h2 A env ρ₁ σ₁ vs s₁ n bk ct r Q E OA nb (F.ext X₁) O₁ k₁ q'
theorem XI {p:Pa} {m₁:Ev} {y:Str} {e:Expr} {pos' pos} (hm:Bd.loc y p∈ctx∨Bd.cel y p true∈ctx) (hc:Y8 ctx y p=true) (h:XD W ctx b m₁ e)
  (hs:∀ env,swapsWith e (some (.Name y pos')) pos.line env=pure false:=by intro _;rfl):Z9 W ctx b (XO (tV p) m₁) (.Assign [.Name y pos'] e pos):=λA env ρ σ vs s n bk ct r Q E OA nb F O m q=>by
 refine wpAny_Assign_Name (h A env ρ σ vs s (λx h1=>Y7 x vs p λvs'=>n vs' h1) _ _ OA F O m λv mv ρ₁ σ₁ s₁ k₁ v₁ O₁ X₁=>?_) (hs env)
 exact YH (F.ext X₁) nb O₁ v₁ hm hc k₁ λs₂ vs₂ O₂ X₂ F₂ k₂=>(q ρ₁ σ₁ s₂ O₂ (X₁.toS.trans X₂ (F.ext X₁).alive) vs₂ F₂).1 k₂
end
end
section
set_option tactic.hygienic false
variable [iC:Cs]
section
variable {W:Wd} {ctx:List Bd} {b:Nat}
theorem Nh (a c:Int):ZW a c 0=[]:=rfl
theorem Gy (a c:Int) (n:Nat):ZW a c (n+1)=.int a :: ZW (a+c) c n:=rfl
theorem Ub (c:Int) (n:Nat):∀ a,(ZW a c n).length=n:=by
 induction n with
 | zero=>intro a;rfl
 | succ n ih=>intro a;rw [Gy,List.length_cons,ih]
theorem MS (c:Int) (n:Nat):∀ (a:Int) (i:Nat) (x:MV),(ZW a c n)[i]?=some x→x=.int (a+i*c):=by
 induction n with
 | zero=>intro a i x h;rw [Nh] at h;cases h
 | succ n ih=>
  intro a i x h
  rw [Gy] at h
  cases i with
  | zero=>simp at h;rw [← h];simp
  | succ i=>
   have:=ih (a+c) i x (by simpa using h)
   rw [this];congr 1;push_cast;rw [Int.add_mul];omega
theorem NK {i:Int} (h:Fu i=true):-4096≤i∧i<4096:=by
 cases i with
 | ofNat n=>have:Nat.blt n 4096=true:=h;have:=Nat.blt_eq.mp this;show -4096≤(n:Int)∧(n:Int)<4096;omega
 | negSucc n=>have:Nat.blt n 4095=true:=h;have:=Nat.blt_eq.mp this;rw [Int.negSucc_eq];omega
theorem Df {a b c:Int} (h:LO a b c=true):(-4096≤a∧a<4096)∧(-4096≤b∧b<4096)∧(c=1∨c=-1):=by
 unfold LO at h
 simp only [Bool.and_eq_true,Bool.or_eq_true,G1,beq_iff_eq] at h
 exact ⟨NK h.1.1,NK h.1.2,h.2⟩
theorem WZ {a b c:Int} (h:LO a b c=true):Builtin.Range.small a b c=true∧Builtin.Range.rangeSize a b c=(J1 a b c:Int):=by
 refine Xi λgk=>?_
 obtain ⟨⟨h1,h2⟩,⟨h3,h4⟩,h5⟩:=Df h
 refine gk ?_;clear gk
 have e:Builtin.Range.rangeSize a b c=(J1 a b c:Int):=by
  unfold Builtin.Range.rangeSize J1
  rw [Gb]
  clear h;rcases h5 with rfl | rfl
  ·rw [decide_eq_true (by decide)];simp only;rw [if_pos (by decide)];split <;> (try simp only [Int.ediv_one]) <;> omega
  ·rw [decide_eq_false (by decide)];simp only;rw [if_neg (by decide)];split <;> (try simp only [Int.neg_neg,Int.ediv_one]) <;> omega
 refine ⟨?_,e⟩
 have hl:(J1 a b c:Int)≤8192:=by
  unfold J1
  split <;> omega
 unfold Builtin.Range.small Builtin.Range.rangeFitsLong
 rw [e]
 simp only [Bool.and_eq_true,decide_eq_true_eq,Bool.or_eq_true,beq_iff_eq]
 refine ⟨⟨⟨⟨⟨by omega,by omega⟩,by omega,by omega⟩,by omega,by omega⟩,by omega,by omega⟩,?_⟩
 right
 clear e h hl;rcases h5 with rfl | rfl
 ·rw [if_pos (by decide)];simp only [Bool.and_eq_true,decide_eq_true_eq];omega
 ·rw [if_neg (by decide)];simp only [Bool.and_eq_true,decide_eq_true_eq];omega
theorem V8 (l:List Nat):YX l=l.map λc=>.str [c]:=by
 induction l with
 | nil=>rfl
 | cons c r ih=>show (.str [c] :: YX r)=_;rw [ih];rfl
noncomputable def Odd (h:Heap) (b:Addr):Prop:=∃ o,h.get? b=some o∧(∀ es ep,o.data≠.dict es ep)∧∀ v,o.data≠.cell v
noncomputable def Itr (h:Heap) (I:Addr):Prop:=∃ o,h.get? I=some o∧o.cls≠.type "range"∧∃ vs,o.data=.fields vs
theorem Itr.odd {h:Heap} {I:Addr} (X:Itr h I):Odd h I:=let ⟨o,e,_,vs,hd⟩:=X;⟨o,e,λ__ __ q=>(by rw [hd] at q;cases q),λ__ q=>(by rw [hd] at q;cases q)⟩
structure Src (W:Wd) (ρ:Rho) (h:Heap) (I:Addr) (fp:List Addr) (xs:List MV) (P:Nat→Value→Prop) (St:Nat→Heap→Prop):Prop where
 odd:∀ b∈fp,¬ own ρ b∧Odd h b
 inI:I∈fp
 walks:∀ A,A.handled=none→Walks W.prog W.w A I fp [I] xs.length P St
 start:St 0 h
 alive:∀ i h,St i h→Itr h I
 item:∀ i u y ρ' h',(∀ v x,VR ρ h v x→VR ρ' h' v x)→P i u→xs[i]?=some y→VR ρ' h' u y
theorem JV {A:Around} {ρ:Rho} {σ:H} {s:Shared} {v:Value} {x:MV} {K:List MV→Prop} {Q E:Value→Shared→Prop} (hv:VR ρ s.heap v x) (O:Ok W ρ σ s) (m:XL σ x K)
  (q:∀ xs I fp P St o,K xs→s.heap.get? I=none→Ok W ρ σ { s with heap:=s.heap.push o }→I=s.heap.objs.size→Src W ρ (s.heap.push o) I fp xs P St→Q (.ref I) { s with heap:=s.heap.push o }) :
  wpAny (model W.prog W.w) A (pyIter v) Q E s:=by
 cases hv with
 | @seq a l vs xs no hs hr=>
  have m:K xs:=m
  refine Xi λgk=>?_
  obtain ⟨n,e⟩:=hs
  refine gk ?_;clear gk
  have hz:vs.toArray.size=xs.length:=by rw [List.size_toArray,hr.length]
  have hI:=XZ s.heap
  have ax:∀ o,(s.heap.push o).get? a=some _:=λo=>Heap.get?_push_of_some o e
  have hne:a≠s.heap.objs.size:=Nat.ne_of_lt (Heap.lt_size e)
  have item:∀ (o:Obj) (i:Nat) (u:Value) (y:MV) (ρ':Rho) (h':Heap),(∀ v x,VR ρ (s.heap.push o) v x→VR ρ' h' v x)→vs.toArray[i]?=some u→xs[i]?=some y→VR ρ' h' u y:=λo i u y ρ' h' T hu hy=>by
   obtain ⟨u',h1,h2⟩:=hr.get hy
   have:u=u':=by have e:=hu;simp at e;rw [h1] at e;exact (Option.some.inj e).symm
   clear h1;subst this
   exact T _ _ (h2.ext (Ext.push _ _ _))
  cases l with
  | true=>
   refine wpAny_pyIter_list (s:=s) (SeqAt.list ⟨n,e⟩) (q xs _ [s.heap.objs.size,a] (λi v=>vs.toArray[i]?=some v) (λi h=>h.IsListIter s.heap.objs.size a i∧h.IsList a vs.toArray) _ m hI (O.push _) rfl
    ⟨?_,by simp,λA' hA=>?_,⟨⟨_,Heap.get?_push_size _ rfl,rfl,rfl⟩,SeqAt.list ⟨n,ax _⟩⟩,λi h st=>(let ⟨o,e,c,d⟩:=st.1;⟨o,e,by rw [c];decide,_,d⟩),item _⟩)
   ·intro b hb
    rcases List.mem_cons.mp hb with rfl | hb
    ·exact ⟨O.hr.fresh hI,_,Heap.get?_push_size _ rfl,λ__ __ q=>(by cases q),λ__ q=>(by cases q)⟩
    ·rw [List.mem_singleton] at hb;clear e hne;subst hb
     exact ⟨no,_,ax _,λ__ __ q=>(by cases q),λ__ q=>(by cases q)⟩
   ·have:=Walks.list (prog:=W.prog) (w:=W.w) hA s.heap.objs.size a hne vs.toArray
    rw [hz] at this
    exact this
  | false=>
   refine wpAny_pyIter_tuple (s:=s) (SeqAt.tuple ⟨n,e⟩) (q xs _ [s.heap.objs.size,a] (λi v=>vs.toArray[i]?=some v) (λi h=>h.IsTupleIter s.heap.objs.size a i∧h.IsTuple a vs.toArray) _ m hI (O.push _) rfl
    ⟨?_,by simp,λA' hA=>?_,⟨⟨_,Heap.get?_push_size _ rfl,rfl,rfl⟩,SeqAt.tuple ⟨n,ax _⟩⟩,λi h st=>(let ⟨o,e,c,d⟩:=st.1;⟨o,e,by rw [c];decide,_,d⟩),item _⟩)
   ·intro b hb
    rcases List.mem_cons.mp hb with rfl | hb
    ·exact ⟨O.hr.fresh hI,_,Heap.get?_push_size _ rfl,λ__ __ q=>(by cases q),λ__ q=>(by cases q)⟩
    ·rw [List.mem_singleton] at hb;clear e hne;subst hb
     exact ⟨no,_,ax _,λ__ __ q=>(by cases q),λ__ q=>(by cases q)⟩
   ·have:=Walks.tuple (prog:=W.prog) (w:=W.w) hA s.heap.objs.size a hne vs.toArray
    rw [hz] at this
    exact this
 | @rng r a b c t u v no e=>
  have m':ifB (LO a b c) (K (ZW a c (J1 a b c))) False:=m
  rcases Xo m' with ⟨hk,m'⟩ | ⟨_,m'⟩
  ·obtain ⟨hs,hz⟩:=WZ hk
   have hI:=XZ s.heap
   refine wpAny_pyIter_range e hs (q _ _ [s.heap.objs.size] (λi v=>∃ t,v=.int (a+i*c) t) (λi h=>IsRangeIter h s.heap.objs.size (a+(i:Nat)*c) ((J1 a b c:Int)-(i:Nat)) c) _ m' hI (O.push _) rfl
    ⟨?_,by simp,λA' hA=>?_,?_,λi h st=>⟨_,st,(by show Value.type "range_iterator"≠Value.type "range";decide),_,rfl⟩,?_⟩)
   ·intro b hb
    rw [List.mem_singleton] at hb;subst hb
    exact ⟨O.hr.fresh hI,_,Heap.get?_push_size _ rfl,λ__ __ q=>(by cases q),λ__ q=>(by cases q)⟩
   ·rw [Ub];exact Walks.range hA _ a c _
   ·show _=_
    rw [Heap.get?_push_size _ rfl,hz];simp
   ·rintro i u y ρ' h' T ⟨t,rfl⟩ hy
    rw [MS c _ a i y hy];exact .int _ _
  ·exact m'.elim
 | str l t=>
  have m':K (YX l):=m
  have hI:=XZ s.heap
  have hz:(toS l).cps.size=(YX l).length:=by rw [V8,List.length_map];simp [toS]
  have item:∀ (h:Heap) (i:Nat) (u:Value) (y:MV) (ρ':Rho) (h':Heap),(∀ v x,VR ρ h v x→VR ρ' h' v x)→SignAt (toS l) i u→(YX l)[i]?=some y→VR ρ' h' u y:=by
   rintro h i u y ρ' h' T ⟨c,t,hc,rfl⟩ hy
   rw [V8,List.getElem?_map] at hy
   have e:(toS l).cps[i]?=l[i]?:=by simp [toS]
   rw [e] at hc
   rw [hc] at hy
   cases hy
   exact .str [c] t
  cases ha:(toS l).cps.all (· < 128)
  ·refine wpAny_pyIter_wide ha (q _ _ [s.heap.objs.size] (SignAt (toS l)) (λi h=>h.IsStrIter s.heap.objs.size "str_iterator" (toS l) t i) _ m' hI (O.push _) rfl ⟨?_,by simp,λA' hA=>?_,⟨_,Heap.get?_push_size _ rfl,rfl,rfl⟩,λi h st=>(let ⟨o,e,c,d⟩:=st;⟨o,e,by rw [c];decide,_,d⟩),item _⟩)
   ·intro b hb
    rw [List.mem_singleton] at hb;subst hb
    exact ⟨O.hr.fresh hI,_,Heap.get?_push_size _ rfl,λ__ __ q=>(by cases q),λ__ q=>(by cases q)⟩
   ·have:=Walks.strWide (prog:=W.prog) (w:=W.w) hA s.heap.objs.size (toS l) t
    rw [hz] at this
    exact this
  ·refine wpAny_pyIter_ascii ha (q _ _ [s.heap.objs.size] (SignAt (toS l)) (λi h=>h.IsStrIter s.heap.objs.size "str_ascii_iterator" (toS l) t i) _ m' hI (O.push _) rfl ⟨?_,by simp,λA' hA=>?_,⟨_,Heap.get?_push_size _ rfl,rfl,rfl⟩,λi h st=>(let ⟨o,e,c,d⟩:=st;⟨o,e,by rw [c];decide,_,d⟩),item _⟩)
   ·intro b hb
    rw [List.mem_singleton] at hb;subst hb
    exact ⟨O.hr.fresh hI,_,Heap.get?_push_size _ rfl,λ__ __ q=>(by cases q),λ__ q=>(by cases q)⟩
   ·have:=Walks.strAscii (prog:=W.prog) (w:=W.w) hA s.heap.objs.size (toS l) t
    rw [hz] at this
    exact this
 | _=>exact m.elim
theorem Odd.notPlc {ctx:List Bd} {env:Env} {vs:Vs} {ρ:Rho} {h:Heap} (F:FR W ctx env vs ρ h) {a:Addr} (X:Odd h a):¬ plc env a:=let ⟨_,e,h1,h2⟩:=X;F.notPlc e h1 h2
structure ExtP (S:Addr→Prop) (ρ ρ':Rho) (h h':Heap):Prop where
 same:∀ i,ρ i≠[]→ρ' i=ρ i
 fresh:∀ a,own ρ' a→own ρ a∨h.get? a=none
 keep:∀ b o,h.get? b=some o→¬ own ρ b→¬ S b→h'.get? b=some o
 prv:∀ b∈ρ 0,∀ o,h.get? b=some o→¬ S b→h'.get? b=some o
theorem ExtP.refl (S:Addr→Prop) (ρ:Rho) (h:Heap):ExtP S ρ ρ h h:=⟨λ__ __=>rfl,λ__ x=>.inl x,λ__ __ e __ __=>e,λ__ __ __ e __=>e⟩
theorem ExtP.not {S:Addr→Prop} {ρ ρ':Rho} {h h':Heap} (X:ExtP S ρ ρ' h h') {a:Addr} {o:Obj} (x:¬ own ρ a) (e:h.get? a=some o):¬ own ρ' a:=λy=>by
 rcases X.fresh a y with y | y
 ·exact x y
 ·rw [e] at y;cases y
theorem ExtP.trans {S:Addr→Prop} {ρ₁ ρ₂ ρ₃:Rho} {h₁ h₂ h₃:Heap} (X:ExtP S ρ₁ ρ₂ h₁ h₂) (Y:ExtP S ρ₂ ρ₃ h₂ h₃) (al:∀ b,S b→∃ o,h₂.get? b=some o):ExtP S ρ₁ ρ₃ h₁ h₃:=by
 refine ⟨λi hi=>by have e:=X.same i hi;rw [Y.same i (e▸hi),e],λa ha=>?_,λb o e hb hp=>Y.keep b o (X.keep b o e hb hp) (X.not hb e) hp,λb hb o e hp=>Y.prv b (by rw [X.same 0 (List.ne_nil_of_mem hb)];exact hb) o (X.prv b hb o e hp) hp⟩
 by_cases ho:own ρ₁ a
 ·exact .inl ho
 ·rcases Y.fresh a ha with y | y
  ·exact X.fresh a y
  ·cases e:h₁.get? a with
   | none=>exact .inr rfl
   | some o=>
    by_cases hp:S a
    ·refine (al a hp).elim λo' h'=>?_;rw [h'] at y;cases y
    ·rw [X.keep a o e ho hp] at y;cases y
theorem ExtP.mono {S T:Addr→Prop} {ρ ρ':Rho} {h h':Heap} (X:ExtP S ρ ρ' h h') (k:∀ b,S b→T b):ExtP T ρ ρ' h h':=⟨X.same,X.fresh,λb o e n t=>X.keep b o e n λz=>t (k b z),λb hb o e t=>X.prv b hb o e λz=>t (k b z)⟩
theorem ExtS.toP {env:Env} {ρ ρ':Rho} {h h':Heap} (X:ExtS env ρ ρ' h h'):ExtP (plc env) ρ ρ' h h':=⟨X.same,X.fresh,X.keep,X.prv⟩
noncomputable def Y9 (h:Heap) (b:Addr):Prop:=∀ o,h.get? b=some o→(∀ xs n,o.data≠.seq xs n)∧∀ vs,o.data=.fields vs→o.cls≠.type "range"
theorem VR.extP {S:Addr→Prop} {ρ ρ':Rho} {h h':Heap} (F:∀ b,S b→Y9 h b) (X:ExtP S ρ ρ' h h') {v mv} (r:VR ρ h v mv):VR ρ' h' v mv:=
 VM.v ⟨λ__ __ __ ho ⟨n,e⟩=>⟨X.not ho e,n,X.keep _ _ e ho (λz=>(F _ z _ e).1 _ _ rfl)⟩,λ__ __ __ __ __ __ __ ho e=>⟨X.not ho e,X.keep _ _ e ho (λz=>(F _ z _ e).2 _ rfl rfl)⟩,λ__ __ __ e=>(X.same _ (e▸List.cons_ne_nil _ _)).trans e⟩ r
theorem VRs.extP {S:Addr→Prop} {ρ ρ':Rho} {h h':Heap} (F:∀ b,S b→Y9 h b) (X:ExtP S ρ ρ' h h') {us xs} (r:VRs ρ h us xs):VRs ρ' h' us xs:=VRs.map (VR.extP F X) r
theorem FR.noVal {env:Env} {vs:Vs} {ρ:Rho} {h:Heap} (F:FR W ctx env vs ρ h):∀ b,plc env b→Y9 h b:=by
 rintro b (rfl | ⟨x,hx⟩) o ho
 ·refine F.locE λm qa __=>?_;refine qa.elim λo' zz=>zz.elim λ__ zz=>zz.elim λ__ zz=>zz.elim λho' zz=>zz.elim λhd __=>?_;rw [ho'] at ho;cases ho
  exact ⟨λ__ __ q=>(by rw [hd] at q;cases q),λ__ q=>(by rw [hd] at q;cases q)⟩
 ·refine F.ncE x b hx λ__ v o' ho' hd=>?_;rw [ho'] at ho;cases ho
  exact ⟨λ__ __ q=>(by rw [hd] at q;cases q),λ__ q=>(by rw [hd] at q;cases q)⟩
theorem Itr.noVal {h:Heap} {I:Addr} (X:Itr h I):Y9 h I:=by
 refine X.elim λo zz=>zz.elim λe zz=>zz.elim λhc zz=>zz.elim λvs hd=>?_
 intro o' e'
 rw [e] at e';cases e'
 exact ⟨λ__ __ q=>(by rw [hd] at q;cases q),λ__ __=>hc⟩
theorem OR.extP {prog:Program} {w:World} {S:Addr→Prop} {ρ:Rho} {h h':Heap} {F:List Addr} {o:MO} (hS:∀ b,S b→Y9 h b) (k:∀ b o,h.get? b=some o→¬ S b→h'.get? b=some o) (n:∀ a∈F,¬ S a) (X:OR prog w ρ h F o):OR prog w ρ h' F o:=by
 have Y:ExtP S ρ ρ h h':=⟨λ__ __=>rfl,λ__ x=>.inl x,λb o e __ hp=>k b o e hp,λb __ o e hp=>k b o e hp⟩
 exact X.move (λ__ __ r=>r.extP hS Y) λa ha o e=>k _ _ e (n a ha)
theorem Ok.keepBut {ρ:Rho} {σ:H} {s:Shared} (O:Ok W ρ σ s) {I:Addr} (hI:Itr s.heap I) (nI:¬ own ρ I) (n0:W.h₀.get? I=none) {h':Heap} {t:Nat} (k:∀ b o,b ∉ [I]→s.heap.get? b=some o→h'.get? b=some o):Ok W ρ σ { s with heap:=h',toks:=t }:=by
 have hS:∀ b,b=I→Y9 s.heap b:=λb e=>e▸hI.noVal
 refine ⟨⟨O.hr.bound,O.hr.dom,λn l e i o hl=>(O.hr.obj n l e i o hl).extP hS (λb o e z=>k b o (by simpa using z) e) λa ha z=>nI ⟨i+1,z▸ha⟩,λa ha=>(let ⟨o,e⟩:=O.hr.priv a ha;⟨o,k _ _ (λz=>nI ⟨0,by rw [List.mem_singleton] at z;exact z▸ha⟩) e⟩),O.hr.disj,O.hr.base⟩,λb o e=>k b o ?_ (O.base b o e),O.gens,O.os⟩
 intro z
 rw [List.mem_singleton] at z;clear hI hS k nI;subst z;rw [e] at n0;cases n0
theorem FR.keepBut {env:Env} {vs:Vs} {ρ:Rho} {h h':Heap} (F:FR W ctx env vs ρ h) {I:Addr} (hI:Itr h I) (k:∀ b o,b ∉ [I]→h.get? b=some o→h'.get? b=some o):FR W ctx env vs ρ h':=by
 have hS:∀ b,b=I→Y9 h b:=λb e=>e▸hI.noVal
 have Y:ExtP (λb=>b=I) ρ ρ h h':=⟨λ__ __=>rfl,λ__ x=>.inl x,λb o e __ hp=>k b o (by simpa using hp) e,λb __ o e hp=>k b o (by simpa using hp) e⟩
 have np:=hI.odd.notPlc F
 have pn:∀ b,plc env b→b ∉ [I]:=λb hb z=>by rw [List.mem_singleton] at z;clear Y hI hS k;subst z;exact np hb
 exact F.map (VR.extP hS Y) λb o p e n=>⟨n,k _ _ (pn b p) e⟩
theorem HI {t:Tg} {x:Ex} {vs:Vs} {σ:H} {n:KS} {r:K}:Mq t x [] vs σ n r=n vs σ:=rfl
theorem DT {t:Tg} {x:Ex} {y:MV} {ys:List MV} {vs:Vs} {σ:H} {n:KS} {r:K}:Mq t x (y :: ys) vs σ n r=t y vs σ λvs1 h1=>x vs1 h1 (λvs2 h2=>Mq t x ys vs2 h2 n r) n (λvs2 h2=>Mq t x ys vs2 h2 n r) r:=rfl
theorem K5 {t:Tg} {x:Ex} {target:Expr} {body:List Stmt} (ht:MJ W ctx b t target) (hb:ZB W ctx b x body) {A:Around} {env:Env} (OA:OkA A b) (nb:NB W env) {I:Addr} {fp:List Addr} {P:Nat→Value→Prop} {St:Nat→Heap→Prop}
  {ρ:Rho} {xs:List MV} {s:Shared} (S:Src W ρ s.heap I fp xs P St) {n:KS} {r:K} {R:Result→Shared→Prop}
  (hl:∀ v,letOwnedTupleGo target (.ref I) v=pure ()) (n0:W.h₀.get? I=none)
  {σ:H} {vs:Vs} (F:FR W ctx env vs ρ s.heap) (O:Ok W ρ σ s) (m:Mq t x xs vs σ n r)
  (q:∀ ρ' σ' s',Ok W ρ' σ' s'→ExtP (λb=>plc env b∨b=I) ρ ρ' s.heap s'.heap→∀ vs',FR W ctx env vs' ρ' s'.heap→(n vs' σ'→R (.ok .next) s')∧∀ v mv,VR ρ' s'.heap v mv→r mv σ'→R (.ok (.ret v)) s') :
  codeAny (model W.prog W.w) A (.forLoop target (.ref I) body [] env) R s:=by
 have hA:=OA.1
 have noI:¬ own ρ I:=(S.odd I S.inI).1
 have nv0:∀ b,(plc env b∨b=I)→Y9 s.heap b:=λb hb=>hb.elim (F.noVal b) λe=>e▸(S.alive 0 _ S.start).noVal
 obtain ⟨J,hJ⟩:∃ J:Nat→Shared→Prop,∀ k s',J k s'↔∃ i ρ' σ' vs',k=xs.length+1-i∧i≤xs.length∧Ok W ρ' σ' s'∧ExtP (λb=>plc env b∨b=I) ρ ρ' s.heap s'.heap∧FR W ctx env vs' ρ' s'.heap∧St i s'.heap∧Mq t x (xs.drop i) vs' σ' n r:=⟨_,λ__ __=>Iff.rfl⟩
 refine codeAny_forLoop J ?_ (xs.length+1) ((hJ _ _).mpr ⟨0,ρ,σ,vs,rfl,Nat.zero_le _,O,ExtP.refl _ _ _,F,S.start,m⟩) hl
 intro k s₁ hq;refine Xi λgk=>?_;obtain ⟨i,ρ₁,σ₁,vs₁,rfl,hi,O₁,X₁,F₁,st₁,m₁⟩:=(hJ _ _).mp hq;refine gk ?_;clear gk
 have It₁:=S.alive i _ st₁
 have noI₁:¬ own ρ₁ I:=by refine (S.alive 0 _ S.start).elim λo zz=>zz.elim λe __=>?_;exact X₁.not noI e
 have nv₁:∀ b,(plc env b∨b=I)→Y9 s₁.heap b:=λb hb=>hb.elim (F₁.noVal b) λe=>e▸It₁.noVal
 have al:∀ {ρ':Rho} {vs':Vs} {h':Heap},FR W ctx env vs' ρ' h'→Itr h' I→∀ b,(plc env b∨b=I)→∃ o,h'.get? b=some o:=λF' I' b hb=>hb.elim (F'.alive b) λe=>by refine I'.elim λo zz=>zz.elim λe' __=>?_;exact ⟨o,e▸e'⟩
 refine Xi λgk=>?_;rcases Nat.lt_or_ge i xs.length with hlt | hge <;> (refine gk ?_;clear gk)
 ·refine (S.walks A hA).item i s₁ _ _ hlt st₁ λv h' tk hP st₂ kk=>?_
  show wpAny _ _ (assign target env v) _ _ _
  refine gq λNx hN=>?_
  have It₂:=S.alive _ _ st₂
  have O₂:Ok W ρ₁ σ₁ { s₁ with heap:=h',toks:=tk }:=O₁.keepBut It₁ noI₁ n0 kk
  have F₂:FR W ctx env vs₁ ρ₁ h':=F₁.keepBut It₁ kk
  have X₂:ExtP (λb=>plc env b∨b=I) ρ₁ ρ₁ s₁.heap h':=⟨λ__ __=>rfl,λ__ x=>.inl x,λb o e __ hp=>kk b o (λz=>hp (.inr (by simpa using z))) e,λb __ o e hp=>kk b o (λz=>hp (.inr (by simpa using z))) e⟩
  have X₁₂:=X₁.trans X₂ (al F₁ It₁)
  have hd:xs.drop i=xs[i] :: xs.drop (i+1):=List.drop_eq_getElem_cons hlt
  rw [hd,DT] at m₁
  have hv:VR ρ₁ h' v xs[i]:=S.item i v _ ρ₁ h' (λu y hu=>hu.extP nv0 X₁₂) hP (List.getElem?_eq_getElem hlt)
  refine ht A env ρ₁ σ₁ vs₁ _ v xs[i] _ _ _ OA nb F₂ O₂ hv m₁ λρ₃ σ₃ s₃ vs₃ O₃ X₃ F₃ m₃=>hN _ _ ?_
  clear hN
  have It₃:Itr s₃.heap I:=by
   refine (id It₂).elim λo zz=>zz.elim λe r=>?_
   exact ⟨o,X₃.keep _ _ e noI₁ (It₂.odd.notPlc F₂),r⟩
  refine hb A env ρ₃ σ₃ vs₃ s₃ _ _ _ _ _ _ OA nb F₃ O₃ m₃ λρ₄ σ₄ s₄ O₄ X₄ vs₄ F₄=>?_
  have X₂₄:ExtP (plc env) ρ₁ ρ₄ h' s₄.heap:=X₃.toP.trans X₄.toP F₃.alive
  have X₁₄:=X₁₂.trans (X₂₄.mono λ__ z=>.inl z) (al F₂ It₂)
  have again:Mq t x (xs.drop (i+1)) vs₄ σ₄ n r→∃ m,m<xs.length+1-i∧J m s₄:=λm₄=>by
   refine ⟨xs.length+1-(i+1),Nat.sub_lt_sub_left (Nat.lt_succ_of_lt hlt) (Nat.lt_succ_self i),(hJ _ _).mpr ⟨i+1,ρ₄,σ₄,vs₄,rfl,hlt,O₄,X₁₄,F₄,?_,m₄⟩⟩
   refine (S.walks A hA).frame (i+1) h' s₄.heap st₂ λb hb o e=>?_
   by_cases hbI:b=I
   ·clear It₁ It₃ S X₁ X₁₂ X₁₄ X₂ al hl kk n0 noI nv0 nv₁ q;subst hbI;exact X₂₄.keep _ _ e noI₁ (It₂.odd.notPlc F₂)
   ·refine (S.odd b hb).elim λnob zz=>zz.elim λob zz=>zz.elim λeb zz=>zz.elim λh1 h2=>?_
    have npb:¬ plc env b:=F.notPlc eb h1 h2
    exact X₂₄.keep b o e (X₁₂.not nob eb) npb
  refine Xi λgk=>?_
  refine (q ρ₄ σ₄ s₄ O₄ X₁₄ vs₄ F₄).elim λq1 q2=>?_
  refine gk ?_;clear gk
  exact ⟨again,q1,again,q2⟩
 ·obtain rfl:i=xs.length:=by omega
  rw [List.drop_length,HI] at m₁
  refine (S.walks A hA).done s₁ _ _ st₁ λh' tk kk=>?_
  refine wpAny_execs_nil ?_
  have X₂:ExtP (λb=>plc env b∨b=I) ρ₁ ρ₁ s₁.heap h':=⟨λ__ __=>rfl,λ__ x=>.inl x,λb o e __ hp=>kk b o (λz=>hp (.inr (by simpa using z))) e,λb __ o e hp=>kk b o (λz=>hp (.inr (by simpa using z))) e⟩
  exact (q ρ₁ σ₁ { s₁ with heap:=h',toks:=tk } (O₁.keepBut It₁ noI₁ n0 kk) (X₁.trans X₂ (al F₁ It₁)) vs₁ (F₁.keepBut It₁ kk)).1 m₁
theorem ZU {t:Tg} {mi:Ev} {x:Ex} {target iter:Expr} {body:List Stmt} {pos} (ht:MJ W ctx b t target) (hi:XD W ctx b mi iter) (hb:ZB W ctx b x body)
  (hl:∀ I v,letOwnedTupleGo target (.ref I) v=pure ():=by intro _ _;rfl) (hs:∀ env x,foldedSetIterable iter env x=pure x:=by intro _ _;rfl):Z9 W ctx b (Ku t mi x) (.For target iter body [] pos):=λA env ρ σ vs s n bk ct r Q E OA nb F O m q=>by
 refine wpAny_For (hi A env ρ σ vs s (λy h1=>XL h1 y λxs=>Mq t x xs vs h1 n r) _ _ OA F O m λv mv ρ₁ σ₁ s₁ k₁ v₁ O₁ X₁=>?_) (hs env)
 refine JV v₁ O₁ k₁ λxs I fp P St o k₂ e₂ O₂ eI S=>?_
 have F₁:=F.ext X₁
 have Xp:=Ext.push ρ₁ s₁.heap o
 have n0:W.h₀.get? I=none:=by
  exact Yc (λo e=>O₁.base I o e) e₂
 refine K5 ht hb OA nb S (hl I) n0 (F₁.ext Xp) O₂ k₂ λρ₃ σ₃ s₃ O₃ X₃ vs₃ F₃=>?_
 have X₁₃:ExtS env ρ₁ ρ₃ s₁.heap s₃.heap:=by
  refine ⟨X₃.same,λa ha=>?_,λb o' e nob np=>?_,λb hb o' e np=>X₃.prv b hb o' (Heap.get?_push_of_some o e) λz=>z.elim np λz=>by rw [z,e₂] at e;cases e⟩
  ·rcases X₃.fresh a ha with h | h
   ·exact .inl h
   ·cases e:s₁.heap.get? a with
    | none=>exact .inr rfl
    | some o'=>have:=Heap.get?_push_of_some o e;rw [h] at this;cases this
  ·exact X₃.keep b o' (Heap.get?_push_of_some o e) nob λz=>z.elim np λz=>by rw [z,e₂] at e;cases e
 refine Xi λgk=>?_
 refine (q ρ₃ σ₃ s₃ O₃ (X₁.toS.trans X₁₃ F₁.alive) vs₃ F₃).elim λq1 zz=>zz.elim λ__ zz=>zz.elim λ__ q4=>?_
 refine gk ?_;clear gk
 exact ⟨q1,q4⟩
end
end
section
set_option tactic.hygienic false
variable [iC:Cs]
section
variable {W:Wd} {ctx:List Bd} {b:Nat}
theorem Im {l:List MV} {n:Nat} {k:MV→Prop} (h:nth l n k):∃ x,l[n]?=some x∧k x:=by
 induction l generalizing n with
 | nil=>exact h.elim
 | cons x r ih=>cases n with
  | zero=>exact ⟨x,rfl,h⟩
  | succ n=>exact ih (n:=n) h
theorem LW {l:List MV} {n:Nat} {k:MV→Prop} (h:nth l n k) {C':Prop} (f':∀ x,l[n]?=some x→k x→C'):C':=by refine (Im h).elim λx zz=>zz.elim λq0 q1=>?_;exact f' x q0 q1
theorem Ic {l:List Nat} {n:Nat} {k:Nat→Prop} (h:Pg l n k):∃ x,l[n]?=some x∧k x:=by
 induction l generalizing n with
 | nil=>exact h.elim
 | cons x r ih=>cases n with
  | zero=>exact ⟨x,rfl,h⟩
  | succ n=>exact ih (n:=n) h
theorem D1 {i:Int} {n:Nat} {k:Nat→Prop} (h:Gv i n k):∃ m,k m∧((0≤i∧i<4096∧m=i.toNat)∨(i<0∧-4096≤i∧-(n:Int)≤i∧m=(i+n).toNat)):=by
 cases i with
 | ofNat m=>
  have h':ifB (Nat.blt m 4096) (k m) False:=h
  refine Xi λgk=>?_;rcases Xo h' with ⟨a,c⟩ | ⟨_,c⟩ <;> (refine gk ?_;clear gk)
  ·have:=Nat.blt_eq.mp a
   exact ⟨m,c,.inl ⟨Int.natCast_nonneg m,by show (m:Int)<4096;omega,by simp⟩⟩
  ·exact c.elim
 | negSucc m=>
  have h':ifB (Nat.blt m 4096) (ifB (Nat.blt m n) (k (n-Nat.succ m)) False) False:=h
  refine Xi λgk=>?_;rcases Xo h' with ⟨a,c⟩ | ⟨_,c⟩ <;> (refine gk ?_;clear gk)
  ·refine Xi λgk=>?_;rcases Xo c with ⟨a',c⟩ | ⟨_,c⟩ <;> (refine gk ?_;clear gk)
   ·have:=Nat.blt_eq.mp a
    have:=Nat.blt_eq.mp a'
    exact ⟨_,c,.inr ⟨by rw [Int.negSucc_eq];omega,by rw [Int.negSucc_eq];omega,by rw [Int.negSucc_eq];omega,by rw [Int.negSucc_eq];omega⟩⟩
   ·exact c.elim
  ·exact c.elim
theorem JI {i:Int} {n:Nat} {k:Nat→Prop} (h:Gv i n k) {C':Prop} (f':∀ m,k m→((0≤i∧i<4096∧m=i.toNat)∨(i<0∧-4096≤i∧-(n:Int)≤i∧m=(i+n).toNat))→C'):C':=by refine (D1 h).elim λm zz=>zz.elim λq0 q1=>?_;exact f' m q0 q1
theorem Fs {l:List (Nat×MO)} {n:Nat} {k:MO→Prop} (h:getL l n k):∃ o,lk l n=some o∧k o:=by
 induction l with
 | nil=>exact h.elim
 | cons p r ih=>
  obtain ⟨i,o⟩:=p
  have h':ifB (Nat.beq i n) (k o) (getL r n k):=h
  refine Xi λgk=>?_;rcases Xo h' with ⟨a,c⟩ | ⟨a,c⟩ <;> (refine gk ?_;clear gk)
  ·have:=Nat.eq_of_beq_eq_true a;clear a h h' ih;subst this;exact ⟨o,by simp [lk],c⟩
  ·have:=Nat.ne_of_beq_eq_false a
   obtain ⟨o',e,c⟩:=ih c
   exact ⟨o',by simp [lk,this,e],c⟩
theorem ZQ {v:MO} {l:List (Nat×MO)} {n:Nat} {k:List (Nat×MO)→Prop} (h:setL v l n k):∃ l',k l'∧∀ j,lk l' j=if j=n then (lk l n).map λ__=>v else lk l j:=by
 induction l generalizing k with
 | nil=>exact ⟨[],h,λj=>by simp [lk]⟩
 | cons p r ih=>
  obtain ⟨i,o⟩:=p
  have h':ifB (Nat.beq i n) (k ((i,v) :: r)) (setL v r n λr'=>k ((i,o) :: r')):=h
  refine Xi λgk=>?_;rcases Xo h' with ⟨a,c⟩ | ⟨a,c⟩ <;> (refine gk ?_;clear gk)
  ·have:=Nat.eq_of_beq_eq_true a;subst this
   refine ⟨_,c,λj=>?_⟩
   by_cases e:j=i
   ·clear a c h h' ih;subst e;simp [lk]
   ·rw [if_neg e];simp only [lk];rw [if_neg (Ne.symm e),if_neg (Ne.symm e)]
  ·have hn:=Nat.ne_of_beq_eq_false a
   obtain ⟨r',c,q⟩:=ih c
   refine ⟨_,c,λj=>?_⟩
   simp only [lk]
   by_cases e:i=j
   ·subst e;rw [if_pos rfl,if_neg hn,if_pos rfl]
   ·rw [if_neg e,if_neg e,if_neg hn];exact q j
theorem VI {v:MO} {l:List (Nat×MO)} {n:Nat} {k:List (Nat×MO)→Prop} (h:setL v l n k) {C':Prop} (f':∀ l',k l'→(∀ j,lk l' j=if j=n then (lk l n).map λ__=>v else lk l j)→C'):C':=by refine (ZQ h).elim λl' zz=>zz.elim λq0 q1=>?_;exact f' l' q0 q1
theorem Vn {σ:H} {n:Nat} {k:MO→Prop} (h:ZD σ n k):∃ m l o,σ=.mk m l∧lk l n=some o∧k o:=by
 cases σ with | mk m l=>
 obtain ⟨o,e,c⟩:=Fs (show getL l n k from h)
 exact ⟨m,l,o,rfl,e,c⟩
theorem XU {σ:H} {n:Nat} {k:MO→Prop} (h:ZD σ n k) {C':Prop} (f':∀ m l o,σ=.mk m l→lk l n=some o→k o→C'):C':=by refine (Vn h).elim λm zz=>zz.elim λl zz=>zz.elim λo zz=>zz.elim λq0 zz=>zz.elim λq1 q2=>?_;exact f' m l o q0 q1 q2
theorem VF {o:MO} {k:List (List Nat×MV)→Prop} (h:UP o k):∃ es,o=.dict es∧k es:=by cases o <;> first | exact ⟨_,rfl,h⟩ | exact h.elim
theorem GJ {o:MO} {k:List (List Nat×MV)→Prop} (h:UP o k) {C':Prop} (f':∀ es,o=.dict es→k es→C'):C':=by refine (VF h).elim λes zz=>zz.elim λq0 q1=>?_;exact f' es q0 q1
theorem DP {o:MO} {k:List MV→Prop} (h:VQ o k):∃ es,o=.list es∧k es:=by cases o <;> first | exact ⟨_,rfl,h⟩ | exact h.elim
theorem Jv {o:MO} {k:List MV→Prop} (h:VQ o k) {C':Prop} (f':∀ es,o=.list es→k es→C'):C':=by refine (DP h).elim λes zz=>zz.elim λq0 q1=>?_;exact f' es q0 q1
theorem BU {σ:H} {x:MV} {k:List MV→Prop} (h:Jm σ x k):∃ xs,x=.seq true xs∧k xs:=by
 cases x with
 | seq l xs=>cases l <;> first | exact ⟨_,rfl,h⟩ | exact h.elim
 | _=>exact h.elim
theorem Zw {σ:H} {x:MV} {k:List MV→Prop} (h:Jm σ x k) {C':Prop} (f':∀ xs,x=.seq true xs→k xs→C'):C':=by refine (BU h).elim λxs zz=>zz.elim λq0 q1=>?_;exact f' xs q0 q1
theorem Dx {x:MV} {k:List MV→Prop} (h:VA x k):∃ xs,x=.seq false xs∧k xs:=by
 cases x with
 | seq l xs=>cases l <;> first | exact ⟨_,rfl,h⟩ | exact h.elim
 | _=>exact h.elim
theorem YQ {x:MV} {k:List MV→Prop} (h:VA x k) {C':Prop} (f':∀ xs,x=.seq false xs→k xs→C'):C':=by refine (Dx h).elim λxs zz=>zz.elim λq0 q1=>?_;exact f' xs q0 q1
theorem Um {a c:List Nat} (h:toS a=toS c):a=c:=by
 unfold toS at h;injection h with h;exact List.toArray_inj h
theorem Z7 (s:List Nat) (t:Tok):(strKind W.prog W.w).is (toS s) (.str (toS s) t)=true:=by
 show Value.isStrOf (toS s) (.str (toS s) t)=true
 unfold Value.isStrOf
 simp
theorem DRs.length {ρ:Rho} {h:Heap} {es:List (List Nat×MV)} {kvs:List (Str×Value)} (r:DRs ρ h kvs es):kvs.length=es.length:=by
 induction r with
 | nil=>rfl
 | cons _ _ ih=>simp [ih]
theorem U9 {ρ:Rho} {h:Heap} {q:List Nat} {no:Prop} {k:MV→Prop} {es:List (List Nat×MV)} {kvs:List (Str×Value)} (r:DRs ρ h kvs es) (m:look q es no k) :
  (valueAt kvs (toS q)=none∧no)∨∃ v x,valueAt kvs (toS q)=some v∧VR ρ h v x∧k x:=by
 induction r with
 | nil=>exact .inl ⟨rfl,m⟩
 | @cons s v mv kvs es hv _ ih=>
  have h':ifB (eqN s q) (k mv) (look q es no k):=m
  unfold valueAt at ih ⊢
  refine Xi λgk=>?_;rcases Xo h' with ⟨a,c⟩ | ⟨a,c⟩ <;> (refine gk ?_;clear gk)
  ·rw [Jz,beq_iff_eq] at a;clear h' ih m;subst a
   exact .inr ⟨v,mv,by simp,hv,c⟩
  ·rw [Jz] at a
   have hn:s≠q:=by simpa using a
   have hn':¬ (toS s=toS q):=λe=>hn (Um e)
   rw [List.find?_cons];simp only [decide_eq_false hn']
   exact ih c
theorem Wh {ρ:Rho} {h:Heap} {q:List Nat} {u:Value} {x:MV} {k:List (List Nat×MV)→Prop} {es:List (List Nat×MV)} {kvs:List (Str×Value)} (r:DRs ρ h kvs es) (hu:VR ρ h u x)
  (nd:(kvs.map (·.1)).Nodup) (m:put q x es k):∃ es',k es'∧DRs ρ h (stored kvs (toS q) u) es':=by
 induction r generalizing k with
 | nil=>exact ⟨_,m,.cons hu .nil⟩
 | @cons s v mv kvs es hv r ih=>
  have h':ifB (eqN s q) (k ((s,x) :: es)) (put q x es λr'=>k ((s,mv) :: r')):=m
  have nd':toS s ∉ kvs.map (·.1)∧(kvs.map (·.1)).Nodup:=by simpa using nd
  refine Xi λgk=>?_;rcases Xo h' with ⟨a,c⟩ | ⟨a,c⟩ <;> (refine gk ?_;clear gk)
  ·rw [Jz,beq_iff_eq] at a;clear h' ih m;subst a
   refine ⟨_,c,?_⟩
   unfold stored
   rw [if_pos (by simp)]
   rw [List.map_cons,if_pos rfl,map_store_of_not_mem kvs _ _ nd'.1]
   exact .cons hu r
  ·rw [Jz] at a
   have hn:s≠q:=by simpa using a
   have hn':¬ (toS s=toS q):=λe=>hn (Um e)
   obtain ⟨es',c,d⟩:=ih nd'.2 c
   refine ⟨_,c,?_⟩
   have e:stored ((toS s,v) :: kvs) (toS q) u=(toS s,v) :: stored kvs (toS q) u:=by
    unfold stored
    simp only [List.any_cons,decide_eq_false hn',Bool.false_or]
    split
    ·rw [List.map_cons,if_neg hn']
    ·rfl
   rw [e]
   exact .cons hv d
theorem OR.ne_nil {ρ:Rho} {h:Heap} {F:List Addr} {o:MO} (X:OR W.prog W.w ρ h F o):F≠[]:=by
 refine Xi λgk=>?_
 refine X.elim λas zz=>zz.elim λus zz=>zz.elim λxs zz=>zz.elim λe zz=>zz.elim λn zz=>zz.elim λg zz=>zz.elim λr sh=>?_
 refine gk ?_;clear gk
 rw [e];simpa using n
theorem OR.extF {ρ ρ':Rho} {h h':Heap} {F:List Addr} {o:MO} (X:OR W.prog W.w ρ h F o) (Y:Ext ρ ρ' h h') (k:∀ a∈F,∀ o,h.get? a=some o→h'.get? a=some o):OR W.prog W.w ρ' h' F o:=X.move (λ__ __ r=>r.ext Y) k
theorem Ok.setObj {ρ:Rho} {n:Nat} {l l':List (Nat×MO)} {s:Shared} {o₀ o:MO} {i:Nat} {h':Heap} {t:Nat} (O:Ok W ρ (.mk n l) s) (hl:lk l i=some o₀)
  (hs:∀ j,lk l' j=if j=i then (lk l i).map λ__=>o else lk l j)
  (k:∀ b o,b ∉ ρ (i+1)→s.heap.get? b=some o→h'.get? b=some o) (ho:OR W.prog W.w ρ h' (ρ (i+1)) o):Ok W ρ (.mk n l') { s with heap:=h',toks:=t }∧Ext ρ ρ s.heap h':=by
 have X:Ext ρ ρ s.heap h':=.of_keep (λb o e n=>k b o (λz=>n ⟨i+1,z⟩) e) λb hb o e=>k b o (λz=>by have:=O.hr.disj _ _ b hb z;omega) e
 refine ⟨⟨⟨?_,?_,?_,λa ha=>(let ⟨o,e⟩:=O.hr.priv a ha;⟨o,k _ _ (λz=>by have:=O.hr.disj _ _ a ha z;omega) e⟩),O.hr.disj,O.hr.base⟩,λb o e=>?_,O.gens,O.os⟩,X⟩
 ·intro n' l₂ e j hj;cases e;exact O.hr.bound n l rfl j hj
 ·intro n' l₂ e j hj;cases e
  obtain ⟨o',e'⟩:=O.hr.dom n l rfl j hj
  rw [hs];split
  ·rw [hl];exact ⟨_,rfl⟩
  ·exact ⟨o',e'⟩
 ·intro n' l₂ e j o' hj;cases e
  rw [hs] at hj
  split at hj
  ·rename_i e;clear hs k;subst e;rw [hl] at hj;cases hj;exact ho
  ·rename_i e
   exact (O.hr.obj n l rfl j o' hj).extF X λa ha o e'=>k a o (λz=>e (Nat.succ.inj (O.hr.disj (j+1) (i+1) a ha z))) e'
 ·refine k b o (λz=>?_) (O.base b o e)
  have:=O.hr.base b ⟨i+1,z⟩;rw [e] at this;cases this
theorem Gs {A:Around} {ρ:Rho} {σ:H} {s:Shared} {u v:Value} {x y:MV} {K:MV→Prop} {Q E:Value→Shared→Prop} (hu:VR ρ s.heap u x) (hv:VR ρ s.heap v y) (O:Ok W ρ σ s) (m:getItem σ x y K)
  (q:∀ r mr s',K mr→VR ρ s'.heap r mr→Ok W ρ σ s'→Ext ρ ρ s.heap s'.heap→Q r s') :
  (∃ T id,typeLookup (.type T) "__getitem__" = pure (some (.builtin id))∧s.TypeIs u T)∧wpAny (model W.prog W.w) A (PySem.getItem u v) Q E s:=by
 cases y with
 | int j=>
  refine hv.intIE λt qa=>?_;clear hv;subst qa
  cases x with
  | str l=>
   refine hu.strIE λt' qa=>?_;clear hu;subst qa
   refine Xi λgk=>?_
   refine JI (show Gv j (len l) λn=>Pg l n λc=>K (.str [c]) from m) λn m c=>?_
   obtain ⟨c',e,m⟩:=Ic m
   refine gk ?_;clear gk
   have hlt:n<l.length:=(List.getElem?_eq_some_iff.mp e).1
   rw [Yh] at c
   refine ⟨⟨"str",_,slot_str_getitem.lookup,typeIs_str _ _ _⟩,getItem_str (by rw [Bool.or_eq_false_iff];exact ⟨decide_eq_false (by omega),decide_eq_false (by omega)⟩) ?_ (q _ _ _ m (.str [c'] _) (O.tok _) (Ext.refl _ _))⟩
   have hz:(toS l).length=l.length:=by simp [toS,Str.length]
   have:seqIndex? j (toS l).length=some n:=by
    unfold seqIndex?
    rw [hz]
    clear e m;rcases c with ⟨c1,c2,rfl⟩ | ⟨c1,c2,c3,rfl⟩
    ·simp only [if_neg (show ¬ j<0 by omega)]
     rw [if_pos (by simp only [Bool.and_eq_true,decide_eq_true_eq];omega)]
    ·simp only [if_pos c1]
     rw [if_pos (by simp only [Bool.and_eq_true,decide_eq_true_eq];omega)]
   rw [this];simpa [toS] using e
  | seq l xs=>
   refine hu.seqIE λa vs qa no hs hr=>?_;clear hu;subst qa
   cases l with
   | false=>
    have m':Jm σ (.seq false xs) λxs=>Gv j (len xs) λn=>nth xs n K:=m
    exact m'.elim
   | true=>
   have m':Jm σ (.seq true xs) λxs=>Gv j (len xs) λn=>nth xs n K:=m
   refine Xi λgk=>?_
   refine JI (show Gv j (len xs) λn=>nth xs n K from m') λn m c=>?_
   refine LW m λz e m=>?_
   obtain ⟨v,e',hv⟩:=hr.get e
   refine gk ?_;clear gk
   rw [Yh,← hr.length] at c
   have hL:=hs.list
   refine ⟨⟨"list",_,slot_list_getitem.lookup,hL.typeIs⟩,?_⟩
   have fin:Q v s:=q v z s m hv O (Ext.refl _ _)
   clear e m;rcases c with ⟨c1,c2,rfl⟩ | ⟨c1,c2,c3,rfl⟩
   ·exact wpAny_getItem_list hL c1 (by omega) (by simpa using e') fin
   ·refine wpAny_getItem_list_neg hL c1 (by simpa using c3) (by omega) (by simpa using e') fin
  | _=>exact (show False from m).elim
 | str k=>
  refine hv.strIE λt qa=>?_;clear hv;subst qa
  refine Xi λgk=>?_
  obtain ⟨i,rfl,m'⟩:=Gi (show YT x _ from m)
  clear m;obtain ⟨n,l,o,rfl,hl,m'⟩:=Vn m'
  obtain ⟨es,rfl,m'⟩:=VF m'
  refine gk ?_;clear gk
  obtain ⟨a,F,qa,e⟩:=hu.refI;clear hu;subst qa
  refine Xi λgk=>?_
  obtain ⟨a',kvs,e',hd,hr⟩:=OR.dict_iff.mp (O.hr.obj n l rfl i _ hl)
  refine gk ?_;clear gk
  rw [e] at e';clear e;cases e'
  refine Xi λgk=>?_;rcases U9 hr m' with ⟨_,f⟩ | ⟨v,z,hv,hz,m⟩ <;> (refine gk ?_;clear gk)
  ·exact f.elim
  ·exact ⟨⟨"dict",_,slot_dict_getitem.lookup,hd.mapOf.typeIs⟩,wpAny_getItem_of (Z7 k t) hd.mapOf hv (q _ _ _ m hz (O.tok _) (Ext.refl _ _))⟩
 | _=>exact (show False from m).elim
theorem XG {m₁ m₂:Ev} {l r:Expr} {pos} (h1:XD W ctx b m₁ l) (h2:XD W ctx b m₂ r) (hs:∀ o i,subscripted r false o i=operate [o,i] (PySem.getItem o i):=by intro _ _;rfl):XD W ctx b (YB m₁ m₂) (.Subscript l r pos):=
 λA env ρ σ vs s K Q E OA F O m q=>by
 refine Subscript_ (h1 A env ρ σ vs s _ _ _ OA F O m λu x ρ₁ σ₁ s₁ k₁ v₁ O₁ X₁=>?_)
 refine h2 A env ρ₁ σ₁ vs s₁ _ _ _ OA (F.ext X₁) O₁ k₁ λv y ρ₂ σ₂ s₂ k₂ v₂ O₂ X₂=>?_
 refine Xi λgk=>?_
 obtain ⟨⟨T,id,hl,hT⟩,g⟩:=Gs (A:=A) (Q:=Q) (E:=E) (v₁.ext X₂) v₂ O₂ k₂ λr mr s₃ k₃ v₃ O₃ X₃=>q _ _ ρ₂ σ₂ s₃ k₃ v₃ O₃ ((X₁.trans X₂).trans X₃)
 refine gk ?_;clear gk
 unfold subscriptTail
 refine wpAny_bind ?_
 rw [getitemInPython_of_ne hT.not_modules]
 refine wpAny_bind (wpAny_specialOf hT hl ?_)
 have fin:wpAny (model W.prog W.w) A (subscripted r false u v) (λw s₃=>wpAny (model W.prog W.w) A (letTemporaryGo l u w >>= λ__=>pure w) Q E s₃) E s₂:=by
  rw [hs]
  exact wpAny_operating (wpAny_mono g (λw s₃ h₃=>wpAny_bind (wpAny_letTemporaryGo (wpAny_pure h₃))) λ__ __ x=>x)
 first
  | exact wpAny_pure (wpAny_bind fin)
  | exact wpAny_bind (wpAny_pure (wpAny_bind fin))
  | exact wpAny_bind fin
theorem Gw {A:Around} {ρ:Rho} {σ:H} {s:Shared} {u v w:Value} {x y z:MV} {K:H→Prop} {Q:Unit→Shared→Prop} {E:Value→Shared→Prop} (hu:VR ρ s.heap u x) (hv:VR ρ s.heap v y) (hw:VR ρ s.heap w z) (O:Ok W ρ σ s) (m:setItem σ x y z K)
  (q:∀ σ' s',K σ'→Ok W ρ σ' s'→Ext ρ ρ s.heap s'.heap→Q () s') :
  wpAny (model W.prog W.w) A (PySem.setItem u v w) Q E s:=by
 refine Xi λgk=>?_
 obtain ⟨i,rfl,m'⟩:=Gi (show YT x _ from m)
 obtain ⟨n,l,o,rfl,hl,m'⟩:=Vn m'
 refine gk ?_;clear gk
 cases y with
 | str k=>
  refine hv.strIE λt qa=>?_;clear hv;subst qa
  refine Xi λgk=>?_
  obtain ⟨es,rfl,m'⟩:=VF m'
  refine gk ?_;clear gk
  obtain ⟨a,F,qa,e⟩:=hu.refI;clear hu;subst qa
  refine Xi λgk=>?_
  obtain ⟨a',kvs,e',hd,hr⟩:=OR.dict_iff.mp (O.hr.obj n l rfl i _ hl)
  refine gk ?_;clear gk
  rw [e] at e';cases e'
  have nd:(kvs.map (·.1)).Nodup:=by obtain ⟨_,_,_,_,_,_,_,_,nd⟩:=hd;exact nd
  refine Xi λgk=>?_;rcases Xo m' with ⟨hf,m'⟩ | ⟨_,m'⟩ <;> (refine gk ?_;clear gk)
  ·obtain ⟨es',m',hr'⟩:=Wh hr hw nd m'
   refine Xi λgk=>?_
   obtain ⟨l',m',hs⟩:=ZQ (show setL (.dict es') l i λl'=>K (.mk n l') from m')
   refine gk ?_;clear gk
   have hz:kvs.length≤4096:=by
    have:=Ye hf
    have e:=hr.length
    omega
   refine wpAny_setItem_pairs (Z7 k t) hd (λh' hd' hsb=>?_) (by rw [sizeLine_eq];omega)
   have X:Ext ρ ρ s.heap h':=.of_keep (λb o e' n=>(hsb.2 b (λz=>n ⟨i+1,by rw [e,z];exact .head _⟩)).trans e') λb hb o e'=>(hsb.2 b (λz=>by have:=O.hr.disj 0 (i+1) b hb (by rw [e,z];exact .head _);omega)).trans e'
   obtain ⟨O',X'⟩:=O.setObj (t:=s.toks+1) hl hs (h':=h') (o:=.dict es') (λb o hb e'=>(hsb.2 b (λz=>hb (by rw [e,z];exact .head _))).trans e') (by
    rw [e];exact OR.dict_iff.mpr ⟨a,_,rfl,hd',hr'.ext X⟩)
   exact q _ _ m' O' X'
  ·exact m'.elim
 | _=>exact (show False from m').elim
-- private addresses: objects in the making,that no value shows
theorem VR.less {ρ ρ':Rho} {h:Heap} (k:∀ a,own ρ' a→own ρ a) (k':∀ i,ρ' (i+1)=ρ (i+1)) {v mv} (r:VR ρ h v mv):VR ρ' h v mv:=VM.v (.same k λ__ __ __ e=>(k' _).trans e) r
theorem VRs.less {ρ ρ':Rho} {h:Heap} (k:∀ a,own ρ' a→own ρ a) (k':∀ i,ρ' (i+1)=ρ (i+1)) {us xs} (r:VRs ρ h us xs):VRs ρ' h us xs:=VRs.map (VR.less k k') r
theorem OR.less {ρ ρ':Rho} {h:Heap} {F:List Addr} {o:MO} (k:∀ a,own ρ' a→own ρ a) (k':∀ i,ρ' (i+1)=ρ (i+1)) (X:OR W.prog W.w ρ h F o):OR W.prog W.w ρ' h F o:=X.move (λ__ __ r=>r.less k k') λ__ __ __ e=>e
theorem X5 (ρ:Rho) (n:Nat) (F:List Addr):ins ρ n F n=F:=by unfold ins;rw [if_pos rfl]
theorem YG (ρ:Rho) {n i:Nat} (F:List Addr) (h:i≠n):ins ρ n F i=ρ i:=by unfold ins;rw [if_neg h]
theorem Zn {ρ:Rho} {D:Addr} {a:Addr}:own (ins ρ 0 (D :: ρ 0)) a↔a=D∨own ρ a:=by
 constructor
 ·rintro ⟨i,hi⟩
  unfold ins at hi
  split at hi
  ·rcases List.mem_cons.mp hi with h | h
   ·exact .inl h
   ·exact .inr ⟨0,h⟩
  ·exact .inr ⟨i,hi⟩
 ·rintro (rfl | ⟨i,hi⟩)
  ·exact ⟨0,by rw [X5];exact .head _⟩
  ·by_cases h:i=0
   ·subst h;exact ⟨0,by rw [X5];exact .tail _ hi⟩
   ·exact ⟨i,by rw [YG _ _ h];exact hi⟩
theorem VR.more {ρ:Rho} {h h':Heap} {D:Addr} (hD:h.get? D=Option.none) (k:∀ b o,h.get? b=some o→h'.get? b=some o) {v mv} (r:VR ρ h v mv):VR (ins ρ 0 (D :: ρ 0)) h' v mv:=
 VM.v ⟨λ__ __ __ ho ⟨n,e⟩=>⟨λx=>(Zn.mp x).elim (λz=>nS ((z▸hD).symm.trans e)) ho,n,k _ _ e⟩,λ__ __ __ __ __ __ __ ho e=>⟨λx=>(Zn.mp x).elim (λz=>nS ((z▸hD).symm.trans e)) ho,k _ _ e⟩,λ__ __ __ e=>(YG _ _ (Nat.succ_ne_zero _)).trans e⟩ r
theorem VRs.more {ρ:Rho} {h h':Heap} {D:Addr} (hD:h.get? D=none) (k:∀ b o,h.get? b=some o→h'.get? b=some o) {us xs} (r:VRs ρ h us xs):VRs (ins ρ 0 (D :: ρ 0)) h' us xs:=VRs.map (VR.more hD k) r
theorem OR.more {ρ:Rho} {h h':Heap} {D:Addr} {F:List Addr} {o:MO} (hD:h.get? D=none) (k:∀ b o,h.get? b=some o→h'.get? b=some o) (X:OR W.prog W.w ρ h F o):OR W.prog W.w (ins ρ 0 (D :: ρ 0)) h' F o:=X.move (λ__ __ r=>r.more hD k) λa __ o e=>k a o e
theorem Ok.morePriv {ρ:Rho} {σ:H} {s:Shared} {D:Addr} {h':Heap} {t:Nat} (O:Ok W ρ σ s) (hD:s.heap.get? D=none) (k:∀ b o,s.heap.get? b=some o→h'.get? b=some o) (al:∃ o,h'.get? D=some o) :
  Ok W (ins ρ 0 (D :: ρ 0)) σ { s with heap:=h',toks:=t }:=by
 have e:∀ i,ins ρ 0 (D :: ρ 0) (i+1)=ρ (i+1):=λi=>YG _ _ (by omega)
 refine ⟨⟨λn l q i hi=>by rw [e];exact O.hr.bound n l q i hi,λn l q i hi=>O.hr.dom n l q i (by rw [← e];exact hi),λn l q i o hl=>by rw [e];exact (O.hr.obj n l q i o hl).more hD k,λa ha=>?_,λi j a hi hj=>?_,λa ha=>?_⟩,λb o q=>k b o (O.base b o q),O.gens,O.os⟩
 ·rw [X5] at ha
  clear e hD;rcases List.mem_cons.mp ha with rfl | ha
  ·exact al
  ·refine (O.hr.priv a ha).elim λo q=>?_;exact ⟨o,k _ _ q⟩
 ·have nD:∀ i,D ∉ ρ i:=λi z=>by refine (O.hr.alive ⟨i,z⟩).elim λo q=>?_;rw [hD] at q;cases q
  have red:∀ i,a∈ins ρ 0 (D :: ρ 0) i→(a=D∧i=0)∨a∈ρ i:=λi hi=>by
   unfold ins at hi
   split at hi
   ·rename_i z;subst z
    rcases List.mem_cons.mp hi with h | h
    ·exact .inl ⟨h,rfl⟩
    ·exact .inr h
   ·exact .inr hi
  rcases red i hi with ⟨r1,r2⟩ | r <;> rcases red j hj with ⟨u1,u2⟩ | u
  ·rw [r2,u2]
  ·exact absurd (r1▸u) (nD _)
  ·exact absurd (u1▸r) (nD _)
  ·exact O.hr.disj i j a r u
 ·clear al e;rcases Zn.mp ha with rfl | h
  ·exact Yc (λo q=>O.base a o q) hD
  ·exact O.hr.base a h
theorem FR.morePriv {env:Env} {vs:Vs} {ρ:Rho} {h h':Heap} {D:Addr} (F:FR W ctx env vs ρ h) (hD:h.get? D=none) (k:∀ b o,h.get? b=some o→h'.get? b=some o):FR W ctx env vs (ins ρ 0 (D :: ρ 0)) h':=by
 have no:∀ a o,h.get? a=some o→¬ own ρ a→¬ own (ins ρ 0 (D :: ρ 0)) a:=λa o e n x=>(Zn.mp x).elim (Mine.neA e hD) n
 exact F.map (VR.more hD k) λb o __ e n=>⟨no _ _ e n,k _ _ e⟩
theorem VR.extK {ρ:Rho} {h h':Heap} (k:∀ b o,h.get? b=some o→¬ own ρ b→h'.get? b=some o) {v mv} (r:VR ρ h v mv):VR ρ h' v mv:=
 VM.v ⟨λ__ __ __ ho ⟨n,e⟩=>⟨ho,n,k _ _ e ho⟩,λ__ __ __ __ __ __ __ ho e=>⟨ho,k _ _ e ho⟩,λ__ __ __ e=>e⟩ r
theorem VRs.extK {ρ:Rho} {h h':Heap} (k:∀ b o,h.get? b=some o→¬ own ρ b→h'.get? b=some o) {vs xs} (r:VRs ρ h vs xs):VRs ρ h' vs xs:=VRs.map (VR.extK k) r
theorem OR.extK {ρ:Rho} {h h':Heap} {F:List Addr} {o:MO} (X:OR W.prog W.w ρ h F o) (Y:∀ b o,h.get? b=some o→¬ own ρ b→h'.get? b=some o) (k:∀ a∈F,∀ o,h.get? a=some o→h'.get? a=some o):OR W.prog W.w ρ h' F o:=X.move (λ__ __ r=>r.extK Y) k
theorem FR.extK {env:Env} {vs:Vs} {ρ:Rho} {h h':Heap} (F:FR W ctx env vs ρ h) (k:∀ b o,h.get? b=some o→¬ own ρ b→h'.get? b=some o):FR W ctx env vs ρ h':=
 F.map (VR.extK k) λb o __ e n=>⟨n,k b o e n⟩
theorem Ok.setPriv {ρ:Rho} {σ:H} {s:Shared} {D:Addr} {h':Heap} {t:Nat} (O:Ok W ρ σ s) (hD:D∈ρ 0) (k:∀ b o,b≠D→s.heap.get? b=some o→h'.get? b=some o) (al:∃ o,h'.get? D=some o) :
  Ok W ρ σ { s with heap:=h',toks:=t }∧ExtP (λb=>b=D) ρ ρ s.heap h'∧∀ v x,VR ρ s.heap v x→VR ρ h' v x:=by
 have X:ExtP (λb=>b=D) ρ ρ s.heap h':=⟨λ__ __=>rfl,λ__ x=>.inl x,λb o e __ n=>k b o n e,λb __ o e n=>k b o n e⟩
 have k':∀ b o,s.heap.get? b=some o→¬ own ρ b→h'.get? b=some o:=λb o e n=>k b o (λz=>n ⟨0,z▸hD⟩) e
 refine ⟨⟨⟨O.hr.bound,O.hr.dom,λn l q i o hl=>(O.hr.obj n l q i o hl).extK k' λa ha o e=>k a o (λz=>by have:=O.hr.disj _ _ a ha (z▸hD);omega) e,λa ha=>?_,O.hr.disj,O.hr.base⟩,λb o e=>k b o (λz=>?_) (O.base b o e),O.gens,O.os⟩,X,λv x r=>r.extK k'⟩
 ·by_cases z:a=D
  ·exact z▸al
  ·obtain ⟨o,e⟩:=O.hr.priv a ha;exact ⟨o,k _ _ z e⟩
 ·have:=O.hr.base D ⟨0,hD⟩;rw [← z,e] at this;cases this
theorem Ok.setPrivE {ρ:Rho} {σ:H} {s:Shared} {D:Addr} {h':Heap} {t:Nat} (O:Ok W ρ σ s) (hD:D∈ρ 0) (k:∀ b o,b≠D→s.heap.get? b=some o→h'.get? b=some o) (al:∃ o,h'.get? D=some o) {C':Prop} (f':Ok W ρ σ { s with heap:=h',toks:=t }→(ExtP (λb=>b=D) ρ ρ s.heap h')→(∀ v x,VR ρ s.heap v x→VR ρ h' v x)→C'):C':=by obtain ⟨q0,q1,q2⟩:=Ok.setPriv O hD k al;exact f' q0 q1 q2
theorem Ok.lessPriv {ρ:Rho} {σ:H} {s:Shared} {D:Addr} {P:List Addr} (O:Ok W ρ σ s) (e:ρ 0=D :: P):Ok W (ins ρ 0 P) σ s∧(∀ a,own (ins ρ 0 P) a→own ρ a)∧∀ i,ins ρ 0 P (i+1)=ρ (i+1):=by
 have e':∀ i,ins ρ 0 P (i+1)=ρ (i+1):=λi=>YG _ _ (by omega)
 have sub:∀ i a,a∈ins ρ 0 P i→a∈ρ i:=λi a ha=>by
  unfold ins at ha
  split at ha
  ·rename_i z;subst z;rw [e];exact .tail _ ha
  ·exact ha
 have k:∀ a,own (ins ρ 0 P) a→own ρ a:=λa ⟨i,hi⟩=>⟨i,sub i a hi⟩
 refine ⟨⟨⟨λn l q i hi=>by rw [e'];exact O.hr.bound n l q i hi,λn l q i hi=>O.hr.dom n l q i (by rw [← e'];exact hi),λn l q i o hl=>by rw [e'];exact (O.hr.obj n l q i o hl).less k e',λa ha=>O.hr.priv a (sub 0 a ha),λi j a hi hj=>O.hr.disj i j a (sub i a hi) (sub j a hj),λa ha=>O.hr.base a (k a ha)⟩,O.base,O.gens,O.os⟩,k,e'⟩
theorem Ok.lessPrivE {ρ:Rho} {σ:H} {s:Shared} {D:Addr} {P:List Addr} (O:Ok W ρ σ s) (e:ρ 0=D :: P) {C':Prop} (f':Ok W (ins ρ 0 P) σ s→(∀ a,own (ins ρ 0 P) a→own ρ a)→(∀ i,ins ρ 0 P (i+1)=ρ (i+1))→C'):C':=by refine (Ok.lessPriv O e).elim λq0 zz=>zz.elim λq1 q2=>?_;exact f' q0 q1 q2
theorem Ext.closePriv {S:Addr→Prop} {ρ₁ ρ₃:Rho} {h₁ h₂ h₃:Heap} {D:Addr} (hD:h₁.get? D=none) (k:∀ b o,h₁.get? b=some o→h₂.get? b=some o) (hS:∀ b,S b→h₁.get? b=none) (X:ExtP S (ins ρ₁ 0 (D :: ρ₁ 0)) ρ₃ h₂ h₃):ρ₃ 0=D :: ρ₁ 0∧Ext ρ₁ (ins ρ₃ 0 (ρ₁ 0)) h₁ h₃:=by
 have e0:ρ₃ 0=D :: ρ₁ 0:=by have:=X.same 0 (by rw [X5];simp);rw [this,X5]
 refine ⟨e0,λi hi=>?_,λa ha=>?_,λb o e nb=>?_,λb hb o e=>?_⟩
 ·by_cases z:i=0
  ·clear hi;subst z;rw [X5]
  ·rw [YG _ _ z]
   have q:ins ρ₁ 0 (D :: ρ₁ 0) i=ρ₁ i:=YG _ _ z
   rw [X.same i (by rw [q];exact hi),q]
 ·have:Mine.own ρ₃ a:=by
   refine ha.elim λi hi=>?_
   unfold ins at hi
   split at hi
   ·exact ⟨0,by rw [e0];exact .tail _ hi⟩
   ·exact ⟨i,hi⟩
  refine Xi λgk=>?_;rcases X.fresh a this with q | q <;> (refine gk ?_;clear gk)
  ·clear X e0;rcases Zn.mp q with rfl | q
   ·exact .inr hD
   ·exact .inl q
  ·cases q':h₁.get? a with
   | none=>exact .inr rfl
   | some o=>rw [k _ _ q'] at q;cases q
 ·refine X.keep b o (k _ _ e) (λq=>?_) λq=>by rw [hS b q] at e;cases e
  clear X e0;rcases Zn.mp q with rfl | q
  ·rw [hD] at e;cases e
  ·exact nb q
 ·exact X.prv b (by rw [X5];exact .tail _ hb) o (k _ _ e) λq=>by rw [hS b q] at e;cases e
theorem Ext.closePrivE {S:Addr→Prop} {ρ₁ ρ₃:Rho} {h₁ h₂ h₃:Heap} {D:Addr} (hD:h₁.get? D=none) (k:∀ b o,h₁.get? b=some o→h₂.get? b=some o) (hS:∀ b,S b→h₁.get? b=none) (X:ExtP S (ins ρ₁ 0 (D :: ρ₁ 0)) ρ₃ h₂ h₃) {C':Prop} (f':ρ₃ 0=D :: ρ₁ 0→Ext ρ₁ (ins ρ₃ 0 (ρ₁ 0)) h₁ h₃→C'):C':=by refine (Ext.closePriv hD k hS X).elim λq0 q1=>?_;exact f' q0 q1
end
end
section
set_option tactic.hygienic false
variable [iC:Cs]
section
variable {W:Wd} {ctx:List Bd} {b:Nat}
theorem L6 {c:Ev} {x:Ex} {f:Nat} {vs:Vs} {σ:H} {n:KS} {r:K}:JA c x (f+1) vs σ n r=c vs σ λy h1=>YS y λt=>ifB t (x vs h1 (λvs2 h2=>JA c x f vs2 h2 n r) n (λvs2 h2=>JA c x f vs2 h2 n r) r) (n vs h1):=rfl
theorem RN {c:Ev} {x:Ex} {t:Expr} {body:List Stmt} {pos} (hc:JO W ctx b c t) (hb:ZB W ctx b x body):Z9 W ctx b (D7 c x) (.While t body [] pos):=λA env ρ σ vs s n bk ct r Q E OA nb F O m q=>by
 refine wpAny_While ?_
 refine codeAny_whileLoop (λk s'=>∃ ρ' σ' vs',Ok W ρ' σ' s'∧ExtS env ρ ρ' s.heap s'.heap∧FR W ctx env vs' ρ' s'.heap∧JA c x k vs' σ' n r) ?_ 64 ⟨ρ,σ,vs,O,ExtS.refl _ _ _,F,m⟩
 intro k s₁ hq;refine Xi λgk=>?_;obtain ⟨ρ₁,σ₁,vs₁,O₁,X₁,F₁,m₁⟩:=hq;refine gk ?_;clear gk
 cases k with
 | zero=>exact (show False from m₁).elim
 | succ k=>
 rw [L6] at m₁
 refine hc A env ρ₁ σ₁ vs₁ s₁ (λt h1=>ifB t (x vs₁ h1 (λvs2 h2=>JA c x k vs2 h2 n r) n (λvs2 h2=>JA c x k vs2 h2 n r) r) (n vs₁ h1)) _ _ OA F₁ O₁ m₁ λt ρ₂ σ₂ s₂ k₂ O₂ X₂=>?_
 have F₂:=F₁.ext X₂
 have X₀₂:=X₁.trans X₂.toS F₁.alive
 refine Xi λgk=>?_;rcases Xo k₂ with ⟨rfl,k₂⟩ | ⟨rfl,k₂⟩ <;> (refine gk ?_;clear gk)
 ·rw [if_pos rfl]
  refine hb A env ρ₂ σ₂ vs₁ s₂ _ _ _ _ _ _ OA nb F₂ O₂ k₂ λρ₃ σ₃ s₃ O₃ X₃ vs₃ F₃=>?_
  have X₀₃:=X₀₂.trans X₃ F₂.alive
  have again:JA c x k vs₃ σ₃ n r→∃ m,m<k+1∧∃ ρ' σ' vs',Ok W ρ' σ' s₃∧ExtS env ρ ρ' s.heap s₃.heap∧FR W ctx env vs' ρ' s₃.heap∧JA c x m vs' σ' n r:=λw=>⟨k,Nat.lt_succ_self _,ρ₃,σ₃,vs₃,O₃,X₀₃,F₃,w⟩
  refine Xi λgk=>?_
  refine (q ρ₃ σ₃ s₃ O₃ X₀₃ vs₃ F₃).elim λq1 zz=>zz.elim λ__ zz=>zz.elim λ__ q4=>?_
  refine gk ?_;clear gk
  exact ⟨again,q1,again,q4⟩
 ·rw [if_neg (by decide)]
  exact wpAny_execs_nil ((q ρ₂ σ₂ s₂ O₂ X₀₂ vs₁ F₂).1 k₂)
theorem Uk {m₁:Ev} {e:Expr} {pos} (h:XD W ctx b m₁ e) (hi:∀ env:Env,env.scope.kind=.function→interactive env=false:=by intro env h;simp [interactive,h]) (hs:∀ env,swapsWith e none pos.line env=pure false:=by intro _;rfl) :
  Z9 W ctx b (sEx m₁) (.Expr e pos):=λA env ρ σ vs s n bk ct r Q E OA nb F O m q=>by
 refine wpAny_Expr (h A env ρ σ vs s (λx h1=>match x with | .none=>n vs h1 | _=>False) _ _ OA F O m λv mv ρ₁ σ₁ s₁ k₁ v₁ O₁ X₁=>?_) (hi env F.kind) (hs env)
 cases v₁ with
 | none=>exact (q ρ₁ σ₁ s₁ O₁ X₁.toS vs (F.ext X₁)).1 k₁
 | _=>exact (show False from k₁).elim
theorem HV {A:Around} {env:Env} {ρ:Rho} {σ:H} {vs:Vs} {s:Shared} {y:Str} {p:Pa} {K:MV→H→Prop} {Q E:Value→Shared→Prop}
  (F:FR W ctx env vs ρ s.heap) (O:Ok W ρ σ s) (hm:Bd.loc y p∈ctx∨∃ o,Bd.cel y p o∈ctx) (hc:(y==("__classdict__":Str))=false) (m:Xe p vs σ K)
  (q:∀ v,VR ρ s.heap v (Yb vs p)→K (Yb vs p) σ→Q v s):wpAny (model W.prog W.w) A (loadName env y) Q E s:=by
 refine Go m λhn hk=>?_
 rcases hm with hm | ⟨o,hm⟩
 ·refine F.locE λmm hns hl=>?_
  refine Xi λgk=>?_
  refine Xi λgk=>?_
  obtain ⟨h1,h2⟩:=hl y p hm
  obtain ⟨v,hv,hr⟩:=h2.resolve_left hn
  refine gk ?_;clear gk
  refine gk ?_;clear gk
  exact wpAny_loadName_local F.kind h1 hns hv (q _ hr hk)
 ·refine F.celE y p o hm λh1 c v hc' hv h2=>?_
  refine Xi λgk=>?_
  obtain ⟨u,rfl,hr⟩:=h2.resolve_left hn
  refine gk ?_;clear gk
  rcases h1 with h1 | ⟨_,h1⟩
  ·exact wpAny_loadName_cell F.kind h1 hc' hv (q _ hr hk)
  ·exact wpAny_loadName_free F.kind h1 hc' hv (q _ hr hk) hc
theorem Vk {p:Pa} {o:B2} {op:Operator} {m₁:Ev} {y:Str} {e:Expr} {pos' pos} (hm:Bd.loc y p∈ctx∨Bd.cel y p true∈ctx) (hc:Y8 ctx y p=true) (hcd:(y==("__classdict__":Str))=false)
  (ho:Gq W o (inplaceOp op)) (h:XD W ctx (b+1) m₁ e):Z9 W ctx (b+1) (FN p o m₁) (.AugAssign (.Name y pos') op e pos):=λA env ρ σ vs s n bk ct r Q E OA nb F O m q=>by
 refine wpAny_AugAssign_Name (HV F O (hm.imp id λh=>⟨_,h⟩) hcd m λu hu k₀=>?_)
 refine h A env ρ σ vs s (λy h1=>o (Yb vs p) y λz=>Y7 z vs p λvs'=>n vs' h1) _ _ OA F O k₀ λv mv ρ₁ σ₁ s₁ k₁ v₁ O₁ X₁=>?_
 refine ho A ρ₁ σ₁ s₁ _ _ _ _ _ _ _ (OA.mono (by omega)) (hu.ext X₁) v₁ O₁ k₁ λw mw s₂ k₂ v₂ O₂ X₂=>?_
 have X₁₂:=X₁.trans X₂
 exact YH (F.ext X₁₂) nb O₂ v₂ hm hc k₂ λs₃ vs₃ O₃ X₃ F₃ k₃=>(q ρ₁ σ₁ s₃ O₃ (X₁₂.toS.trans X₃ (F.ext X₁₂).alive) vs₃ F₃).1 k₃
theorem Gp:Gq W TU (inplaceOp .Add):=by
 intro A ρ σ s x y u v K Q E OA hu hv O m q
 refine Xi λgk=>?_
 refine Xs m λi qa m'=>?_;subst qa
 clear m
 refine Xs m' λj qa m=>?_;subst qa
 clear m'
 refine hu.intIE λt qa=>?_;clear hu;subst qa;refine hv.intIE λt' qb=>?_;clear hv;subst qb
 refine gk ?_;clear gk
 exact PySem.P.iadd_int (q _ _ _ (YZ m) (.int _ _) (O.tok _) (Ext.refl _ _))
theorem B5:Gq W ZG (inplaceOp .Sub):=by
 intro A ρ σ s x y u v K Q E OA hu hv O m q
 refine Xi λgk=>?_
 refine Xs m λi qa m'=>?_;subst qa
 clear m
 refine Xs m' λj qa m=>?_;subst qa
 clear m'
 refine hu.intIE λt qa=>?_;clear hu;subst qa;refine hv.intIE λt' qb=>?_;clear hv;subst qb
 refine gk ?_;clear gk
 exact PySem.P.isub_int (q _ _ _ (YZ m) (.int _ _) (O.tok _) (Ext.refl _ _))
theorem Kc {o:B2} {op:Operator} {m₁ m₂ m₃:Ev} {l i e:Expr} {pos' pos} (ho:Gq W o (inplaceOp op)) (h1:XD W ctx (b+1) m₁ l) (h2:XD W ctx (b+1) m₂ i) (h3:XD W ctx (b+1) m₃ e)
  (ha:∀ ov iv new,augStore i ov iv new=(do holding [new,ov,iv] (PySem.setItem ov iv new);release [new,ov,iv] [];pure .next):=by intro _ _ _;rfl) :
  Z9 W ctx (b+1) (BA m₁ m₂ o m₃) (.AugAssign (.Subscript l i pos') op e pos):=λA env ρ σ vs s n bk ct r Q E OA nb F O m q=>by
 refine wpAny_AugAssign_Subscript_any (h1 A env ρ σ vs s _ _ _ OA F O m λu x ρ₁ σ₁ s₁ k₁ v₁ O₁ X₁=>?_) ha
 refine h2 A env ρ₁ σ₁ vs s₁ _ _ _ OA (F.ext X₁) O₁ k₁ λv y ρ₂ σ₂ s₂ k₂ v₂ O₂ X₂=>?_
 refine (Gs (v₁.ext X₂) v₂ O₂ k₂ λw z s₃ k₃ v₃ O₃ X₃=>?_).2
 have F₃:=((F.ext X₁).ext X₂).ext X₃
 refine h3 A env ρ₂ σ₂ vs s₃ _ _ _ OA F₃ O₃ k₃ λw' z' ρ₄ σ₄ s₄ k₄ v₄ O₄ X₄=>?_
 refine ho A ρ₄ σ₄ s₄ _ _ _ _ _ _ _ (OA.mono (by omega)) (v₃.ext X₄) v₄ O₄ k₄ λw'' z'' s₅ k₅ v₅ O₅ X₅=>?_
 have X₃₅:=(X₃.trans X₄).trans X₅
 refine Gw ((v₁.ext X₂).ext X₃₅) (v₂.ext X₃₅) v₅ O₅ k₅ λσ₆ s₆ k₆ O₆ X₆=>?_
 have X:=((X₁.trans X₂).trans X₃₅).trans X₆
 exact (q ρ₄ σ₆ s₆ O₆ X.toS vs (F.ext X)).1 k₆
theorem G2 {m₁ m₂:Ev} {l i:Expr} {pos} (h1:XD W ctx b m₁ l) (h2:XD W ctx b m₂ i)
  (hr:∀ env v,assign (.Subscript l i pos) env v=(do let ov ← holding [v] (eval l env);let iv ← holding [v,ov] (eval i env);standAt pos;holding [v,ov,iv] (PySem.setItem ov iv v);release [v,ov,iv] []):=by intro _ _;rfl):MJ W ctx b (Fz m₁ m₂) (.Subscript l i pos):=λA env ρ σ vs s u x k Q E OA nb F O hu m q=>by
 rw [hr]
 refine wpAny_bind (wpAny_holding (h1 A env ρ σ vs s (λd h1=>m₂ vs h1 λy h2=>setItem h2 d y x λh3=>k vs h3) _ _ OA F O m λv y ρ₁ σ₁ s₁ k₁ v₁ O₁ X₁=>?_))
 refine wpAny_bind (wpAny_holding (h2 A env ρ₁ σ₁ vs s₁ _ _ _ OA (F.ext X₁) O₁ k₁ λw z ρ₂ σ₂ s₂ k₂ v₂ O₂ X₂=>?_))
 refine wpAny_bind (wpAny_standAt (wpAny_bind (wpAny_holding (Gw (v₁.ext X₂) v₂ ((hu.ext X₁).ext X₂) O₂ k₂ λσ₃ s₃ k₃ O₃ X₃=>wpAny_release ?_))))
 have X:=(X₁.trans X₂).trans X₃
 exact q ρ₂ σ₃ s₃ vs O₃ X.toS (F.ext X) k₃
noncomputable def Lj (W:Wd) (ctx:List Bd) (b:Nat) (l:List Tg) (es:List Expr):Prop:=
 ∀ (A:Around) (env:Env) (ρ:Rho) (σ:H) (vs:Vs) (s:Shared) (us:List Value) (xs:List MV) (k:KS) (Q:Unit→Shared→Prop) (E:Value→Shared→Prop),
  OkA A b→NB W env→FR W ctx env vs ρ s.heap→Ok W ρ σ s→VRs ρ s.heap us xs→tTs l xs vs σ k→(∀ ρ' σ' s' vs',Ok W ρ' σ' s'→ExtS env ρ ρ' s.heap s'.heap→FR W ctx env vs' ρ' s'.heap→k vs' σ'→Q () s')→
   wpAny (model W.prog W.w) A (assignInOrder ((assignEach es env).map (·.2)) us) Q E s
theorem Zf:Lj W ctx b [] []:=λA env ρ σ vs s us xs k Q E OA nb F O hu m q=>by
 have:assignInOrder ((assignEach [] env).map (·.2)) us=pure ():=by
  show assignInOrder [] us=_
  unfold assignInOrder;rfl
 rw [this]
 exact wpAny_pure (q ρ σ s vs O (ExtS.refl _ _ _) F m)
theorem XX {t:Tg} {l:List Tg} {e:Expr} {es:List Expr} (h1:MJ W ctx b t e) (h2:Lj W ctx b l es) (he:∀ env,assignEach (e :: es) env=(false,assign e env) :: assignEach es env:=by intro _;rfl):Lj W ctx b (t :: l) (e :: es):=λA env ρ σ vs s us xs k Q E OA nb F O hu m q=>by
 rw [he]
 cases hu with
 | nil=>exact (show False from m).elim
 | @cons u x us xs hu hus=>
  have m':t x vs σ λvs' h'=>tTs l xs vs' h' k:=m
  show wpAny _ _ (holding us (assign e env u) >>= λ__=>assignInOrder ((assignEach es env).map (·.2)) us) _ _ _
  refine wpAny_bind (wpAny_holding (h1 A env ρ σ vs s u x _ _ _ OA nb F O hu m' λρ₁ σ₁ s₁ vs₁ O₁ X₁ F₁ k₁=>?_))
  exact h2 A env ρ₁ σ₁ vs₁ s₁ us xs k Q E OA nb F₁ O₁ (hus.extS F X₁) k₁ λρ₂ σ₂ s₂ vs₂ O₂ X₂ F₂ k₂=>q ρ₂ σ₂ s₂ vs₂ O₂ (X₁.trans X₂ F₁.alive) F₂ k₂
theorem ZT {l:List Tg} {n:Nat} {es:List Expr} {c pos} (h:Lj W ctx b l es) (hn:n=es.length) (hz:∀ env,(assignEach es env).length=es.length:=by intro _;rfl) (hst:∀ env,(assignEach es env).findIdx? (·.1)=none:=by intro _;rfl) :
  MJ W ctx b (MH n l) (.Tuple es c pos):=λA env ρ σ vs s u x k Q E OA nb F O hu m q=>by
 refine Xi λgk=>?_
 subst hn
 refine YQ m λxs qa m'=>?_;clear m;subst qa
 refine hu.seqIE λa us qa no hs hr=>?_;clear hu;subst qa
 refine gk ?_;clear gk
 refine Xi λgk=>?_;rcases Xo m' with ⟨e,m'⟩ | ⟨_,m'⟩ <;> (refine gk ?_;clear gk)
 ·have e:=Nat.eq_of_beq_eq_true e
  rw [Yh,← hr.length] at e
  refine wpAny_assign_Tuple OA.1 hs.tuple (by rw [hz,← e];simp) (hst env) λh' he=>?_
  have k':∀ b o,s.heap.get? b=some o→h'.get? b=some o:=λb o e=>he b o (Nat.ne_of_lt (Heap.lt_size e)) e
  have X:Ext ρ ρ s.heap h':=.of_all k'
  have:=h A env ρ σ vs { s with heap:=h' } us xs k Q E OA nb (F.ext X) (O.keep (t:=s.toks) k') (hr.ext X) m' λρ₂ σ₂ s₂ vs₂ O₂ X₂ F₂ k₂=>q ρ₂ σ₂ s₂ vs₂ O₂ (X.toS.trans X₂ (F.ext X).alive) F₂ k₂
  simpa using this
 ·exact m'.elim
end
end
section
set_option tactic.hygienic false
variable [iC:Cs]
section
variable {W:Wd} {ctx:List Bd} {b:Nat}
theorem VY {kf:Str→Option NameKind} {x:Str}:∀ {r:List (Str×Value)} {m:Str→Option Value},x ∉ r.map (·.1)→bindL kf r m x=m x
 | [],_,_=>rfl
 | (n,v) :: r,m,h=>by
  simp only [List.map_cons,List.mem_cons,not_or] at h
  unfold bindL
  rw [VY h.2]
  split
  ·show (if x=n then some v else m x)=m x
   rw [if_neg h.1]
  ·rfl
theorem VT {kf:Str→Option NameKind} {x:Str}:∀ {r:List (Str×Value)} {m:Str→Option Value},x ∉ r.map (·.1)→bindC kf r m x=m x
 | [],_,_=>rfl
 | (n,v) :: r,m,h=>by
  simp only [List.map_cons,List.mem_cons,not_or] at h
  unfold bindC
  rw [VT h.2]
  split
  ·rfl
  ·show (if x=n then some v else m x)=m x
   rw [if_neg h.1]
theorem VK {kf:Str→Option NameKind} {x:Str} {v:Value} (hk:kf x=some .local):∀ {r:List (Str×Value)} {m:Str→Option Value},(r.map (·.1)).Nodup→(x,v)∈r→bindL kf r m x=some v
 | [],_,_,h=>by cases h
 | (n,u) :: r,m,nd,h=>by
  simp only [List.map_cons,List.nodup_cons] at nd
  unfold bindL
  rcases List.mem_cons.mp h with h | h
  ·cases h
   rw [VY nd.1,if_pos hk]
   show (if x=x then some v else m x)=some v
   rw [if_pos rfl]
  ·exact VK hk nd.2 h
theorem NU {kf:Str→Option NameKind} {x:Str} {v:Value} (hk:kf x≠some .local):∀ {r:List (Str×Value)} {m:Str→Option Value},(r.map (·.1)).Nodup→(x,v)∈r→bindC kf r m x=some v
 | [],_,_,h=>by cases h
 | (n,u) :: r,m,nd,h=>by
  simp only [List.map_cons,List.nodup_cons] at nd
  unfold bindC
  rcases List.mem_cons.mp h with h | h
  ·cases h
   rw [VT nd.1,if_neg hk]
   show (if x=x then some v else m x)=some v
   rw [if_pos rfl]
  ·exact NU hk nd.2 h
theorem B9 {ρ:Rho} {h:Heap} {L:Nat}:∀ {ps:List (Str×Pa)} {xs:List MV} {us:List Value} {t:Vs} {k:Vs→Prop},By (ps.map (·.2)) xs t k→VRs ρ h us xs→(∀ p∈ps,p.2.length=L)→(ps.map (·.2)).Nodup→
  ∃ vs,k vs∧us.length=ps.length∧(∀ q:Pa,q.length=L→q ∉ ps.map (·.2)→Yb vs q=Yb t q)∧∀ x p,(x,p)∈ps→∃ v,(x,v)∈(ps.map (·.1)).zip us∧VR ρ h v (Yb vs p):=by
 intro ps
 induction ps with
 | nil=>
  intro xs us t k m r _ _
  cases r with
  | nil=>exact ⟨t,m,rfl,λ__ __ __=>rfl,λ__ __ h=>by cases h⟩
  | cons=>exact (show False from m).elim
 | cons xp ps ih=>
  obtain ⟨x,p⟩:=xp
  intro xs us t k m r hl nd
  cases r with
  | nil=>exact (show False from m).elim
  | @cons v mv us xs hv r=>
   have m':Y7 mv t p λt'=>By (ps.map (·.2)) xs t' k:=m
   refine Xi λgk=>?_
   refine Zt m' λt' m' hg hs=>?_
   simp only [List.map_cons,List.nodup_cons] at nd
   have hlp:=hl (x,p) (.head _)
   obtain ⟨vs,hk,hz,h1,h2⟩:=ih m' r (λq hq=>hl q (.tail _ hq)) nd.2
   refine gk ?_;clear gk
   refine ⟨vs,hk,by simp [hz],λq hq hn=>?_,λy q hq=>?_⟩
   ·simp only [List.map_cons,List.mem_cons,not_or] at hn
    rw [h1 q hq hn.2,hs q (by rw [hq];exact hlp.symm) hn.1]
   ·rcases List.mem_cons.mp hq with e | hq
    ·clear hq;cases e
     exact ⟨v,.head _,by rw [h1 p hlp nd.1,hg];exact hv⟩
    ·refine (h2 y q hq).elim λu zz=>zz.elim λhu hr=>?_
     exact ⟨u,.tail _ hu,hr⟩
noncomputable def FT:MV→Bool
 | .unb=>true
 | _=>false
theorem Nk {x:MV} (h:FT x=true):x=.unb:=by cases x <;> first | rfl | cases h
noncomputable def Cz (ctx:List Bd) (names:List (Str×NameKind)) (ps:List (Str×Pa)) (t:Vs) (L:Nat):Bool:=
 (ctx.all λb=>match b with
  | .loc x p=>names.lookup x==some .local&&p.length==L&&(ps.contains (x,p)||(!(ps.map (·.2)).contains p&&FT (Yb t p)))
  | .cel x p o=>o&&names.lookup x==some .cell&&((cellsFrom 0 names []).lookup x).isSome&&p.length==L&&(ps.contains (x,p)||(!(ps.map (·.2)).contains p&&FT (Yb t p)))
  | .glo x=>names.lookup x==some .globalImplicit)&&
 (ps.all λp=>p.2.length==L&&(names.lookup p.1==some .local||(names.lookup p.1==some .cell&&((cellsFrom 0 names []).lookup p.1).isSome)))&&
 decide (ps.map (·.1)).Nodup&&decide (ps.map (·.2)).Nodup
theorem Y1 (x:Str):∀ (names:List (Str×NameKind)) (n m:Nat) (acc acc':List (Str×Addr)),(acc.lookup x).isSome=(acc'.lookup x).isSome→((cellsFrom n names acc).lookup x).isSome=((cellsFrom m names acc').lookup x).isSome
 | [],_,_,_,_,h=>h
 | (name,kind) :: r,n,m,acc,acc',h=>by
  unfold cellsFrom
  split
  ·refine Y1 x r _ _ _ _ ?_
   simp only [List.lookup_cons]
   split
   ·rfl
   ·exact h
  ·exact Y1 x r _ _ _ _ h
theorem WB {x:Ex} {t:Vs} {ps:List (Str×Pa)} {L:Nat} {a:Addr} {o:Obj} {fd:FuncData} {body:List Stmt} (hb:ZB W ctx b x body)
  (ho:W.h₀.get? a=some o) (hd:o.data=.func fd) (hbody:fd.body=.stmts body) (hcd:W.h₀.CodeRec fd.code fd.qualname) (hlim:W.h₀.NoLimit) (hlast:∃ b o,W.h₀.get? b=some o∧W.h₀.objs.size=b+1) (hclo:fd.closure=[]) (hgl:fd.globals=mainGlobals) (hbl:fd.builtins=builtinsNs)
  (hok:Cz ctx fd.scope.names ps t L=true) (hbind:∀ us:List Value,us.length=ps.length→bindArgs fd ⟨us,[]⟩=pure ((ps.map (·.1)).zip us))
  (hco:fd.scope.isCoroutine=false:=by rfl) (hgen:fd.scope.isGenerator=false:=by rfl) (hk:fd.scope.kind=.function:=by rfl) :
  B3 W (b+1) (Ji (ps.map (·.2)) t x) a:=λA ρ σ s xs us K Q E OA hu O m q=>by
 unfold Cz at hok
 simp only [Bool.and_eq_true,List.all_eq_true,decide_eq_true_eq] at hok
 refine Xi λgk=>?_
 refine hok.elim λqa nd2=>?_;obtain ⟨⟨c1,c2⟩,nd1⟩:=qa
 have m':By (ps.map (·.2)) xs t λvs=>x vs σ (λ__ h1=>K .none h1) (λ__ __=>False) (λ__ __=>False) K:=m
 obtain ⟨vs,hk',hz,g1,g2⟩:=B9 (L:=L) m' hu (λp hp=>by have:=(c2 p hp).1;simpa using this) nd2
 refine gk ?_;clear gk
 have hroom:A.depth<recursionLimit:=by have:=OA.2.1;omega
 refine wpAny_call (codeAny_call_function hroom (O.base _ _ ho) hd hco hgen hbody ?_ ?_)
 ·refine hcd.elim λc zz=>zz.elim λoc zz=>zz.elim λvs zz=>zz.elim λtq zz=>zz.elim λhc zz=>zz.elim λhoc zz=>zz.elim λhdc hq=>?_
  exact ⟨c,oc,vs,tq,hc,O.base _ _ hoc,hdc,hq⟩
 rw [hbind us hz,hclo]
 have fstz:((ps.map (·.1)).zip us).map (·.1)=ps.map (·.1):=by
  rw [← List.unzip_fst];rw [List.unzip_zip (by simp [hz])]
 have memz:∀ y∈(ps.map (·.1)).zip us,∃ p∈ps,p.1=y.1:=λy hy=>by
  have:y.1∈ps.map (·.1):=by rw [← fstz];exact List.mem_map_of_mem hy
  simpa using this
 refine wpAny_pure (wpAny_newFunctionEnv_cells hk (λy hy=>?_) λenv he s' X=>?_)
 ·refine (memz y hy).elim λp zz=>zz.elim λhp e=>?_
  have:=(c2 p hp).2
  rw [← e]
  simp only [Bool.or_eq_true,Bool.and_eq_true,beq_iff_eq] at this
  rcases this with h | ⟨h,h'⟩
  ·exact .inl h
  ·exact .inr ⟨h,by rw [Y1 p.1 _ (s.heap.objs.size+1) 0 [] [] rfl];exact h'⟩
 have hL:env.locals=s.heap.objs.size:=by rw [he];rfl
 have hcells:env.cells=cellsFrom (s.heap.objs.size+1) fd.scope.names []:=by rw [he];rfl
 have hsc:env.scope=fd.scope:=by rw [he];rfl
 have hkind:∀ y,env.kindOf y=fd.scope.names.lookup y:=λy=>by show env.scope.names.lookup y=_;rw [hsc]
 refine Xi λgk=>?_
 refine X.done.elim λh' zz=>zz.elim λtk zz=>zz.elim λhs' keep'=>?_
 refine gk ?_;clear gk
 have fresh:∀ d,s.heap.objs.size≤d→s.heap.get? d=none:=λd hd=>by
  exact Z5 (Nat.not_lt.mpr hd)
 have plcFresh:∀ d,plc env d→s.heap.get? d=none:=by
  rintro d (rfl | ⟨y,hy⟩)
  ·exact fresh _ (by rw [hL];exact Nat.le_refl _)
  ·exact fresh _ (by have:=X.above y d (mem_of_lookup hy);rw [hL] at this;exact Nat.le_of_lt this)
 have O':Ok W ρ σ s':=by rw [hs'];exact O.keep keep'
 have X':Ext ρ ρ s.heap s'.heap:=.of_all λb o e=>by rw [hs'];exact keep' b o e
 have nb:NB W env:=λd hd=>by
  exact Yc (λo e=>O.base d o e) (plcFresh d hd)
 have F:FR W ctx env vs ρ s'.heap:=by
  refine ⟨by rw [hsc];exact hk,by rw [he];exact hgl,by rw [he];exact hbl,O.hr.fresh (plcFresh _ (.inl rfl)),λy c hy=>⟨O.hr.fresh (plcFresh _ (.inr ⟨y,hy⟩)),_,X.cell y c hy⟩,λy z c h1 h2=>name_of_addr X.apart (mem_of_lookup h1) (mem_of_lookup h2),⟨_,X.toInCall.ns,λy p hy=>?_⟩,λy p oo hy=>?_,λy hy=>?_,by
   refine hlast.elim λb zz=>zz.elim λo zz=>zz.elim λe hz=>?_
   rw [hL,hz];exact Heap.lt_size (O.base b o e)⟩
  ·have:=c1 _ hy
   simp only [Bool.and_eq_true,beq_iff_eq,Bool.or_eq_true,Bool.not_eq_true'] at this
   refine this.elim λqa h3=>?_;obtain ⟨h1,h2⟩:=qa
   refine ⟨by rw [hkind];exact h1,?_⟩
   rcases h3 with h3 | ⟨h3,h4⟩
   ·obtain ⟨v,hv,hr⟩:=g2 y p (by simpa using h3)
    exact .inr ⟨v,VK (by rw [hkind];exact h1) (by rw [fstz];exact nd1) hv,hr.ext X'⟩
   ·exact .inl (by rw [g1 p h2 (by simpa using h3)];exact Nk h4)
  ·have:=c1 _ hy
   simp only [Bool.and_eq_true,beq_iff_eq,Bool.or_eq_true,Bool.not_eq_true'] at this
   refine this.elim λqa h3=>?_;obtain ⟨⟨⟨ho,h1⟩,h5⟩,h2⟩:=qa
   have h5':(env.cells.lookup y).isSome=true:=by rw [hcells,Y1 y _ _ 0 [] [] rfl];exact h5
   refine (Option.isSome_iff_exists.mp h5').elim λc hc=>?_
   refine ⟨.inl (by rw [hkind];exact h1),c,_,hc,X.cell y c hc,?_⟩
   rcases h3 with h3 | ⟨h3,h4⟩
   ·obtain ⟨v,hv,hr⟩:=g2 y p (by simpa using h3)
    exact .inr ⟨v,NU (by rw [hkind,h1];decide) (by rw [fstz];exact nd1) hv,hr.ext X'⟩
   ·exact .inl (by rw [g1 p h2 (by simpa using h3)];exact Nk h4)
  ·have:=c1 _ hy
   simp only [beq_iff_eq] at this
   rw [hkind];exact this
 have hlim':s'.heap.NoLimit:=by
  have:=hlim.keeps (h':=s'.heap) λb o e=>X'.keep b o (O.base b o e) λz=>by have:=O.hr.base b z;rw [e] at this;cases this
  exact this
 refine ⟨hlim',codeAny_func ?_⟩
 refine hb (A.deeper env) env ρ σ vs s' _ _ _ _ _ _ (OA.deeper env) nb F O' hk' λρ₂ σ₂ s₂ O₂ X₂ vs₂ F₂=>?_
 have X₀₂:Ext ρ ρ₂ s.heap s₂.heap:=by
  refine ⟨X₂.same,λd hd=>?_,λd o e n=>X₂.keep d o (X'.keep d o e n) n λhp=>(by rw [plcFresh d hp] at e;cases e),λd hd o e=>X₂.prv d hd o (X'.prv d hd o e) λhp=>(by rw [plcFresh d hp] at e;cases e)⟩
  rcases X₂.fresh d hd with h | h
  ·exact .inl h
  ·cases e:s.heap.get? d with
   | none=>exact .inr rfl
   | some o=>rw [hs'] at h;rw [keep' d o e] at h;cases h
 exact ⟨λk=>q _ _ _ _ _ k .none O₂ X₀₂,λk=>k.elim,λk=>k.elim,λv mv hv k=>q _ _ _ _ _ k hv O₂ X₀₂⟩
theorem ZN {A:Around} {env:Env} {ρ:Rho} {σ:H} {vs:Vs} {s:Shared} {y:Str} {v:Value} {pos:Pos} {Q E:Value→Shared→Prop} (G:Glb W) (F:FR W ctx env vs ρ s.heap) (O:Ok W ρ σ s) (hm:Bd.glo y∈ctx) (hy:W.mg y=some v)
  (hd:(y==("__debug__":Str))=false) (q:Q v s):wpAny (model W.prog W.w) A (eval (.Name y pos) env) Q E s:=
 Name_function_global F.kind (F.glo y hm) (loadGlobal_global (by rw [F.glob];exact G.g.at' λo e=>O.base _ _ e) hy q) hd
theorem YP {A:Around} {env:Env} {ρ:Rho} {σ:H} {vs:Vs} {s:Shared} {y:Str} {v:Value} {pos:Pos} {Q E:Value→Shared→Prop} (G:Glb W) (F:FR W ctx env vs ρ s.heap) (O:Ok W ρ σ s) (hm:Bd.glo y∈ctx) (hy:W.mg y=none) (hn:y≠("__name__":Str)) (hv:bootBuiltins y=some v)
  (hd:(y==("__debug__":Str))=false) (q:Q v s):wpAny (model W.prog W.w) A (eval (.Name y pos) env) Q E s:=
 Name_function_global F.kind (F.glo y hm) (loadGlobal_builtin (by rw [F.glob];exact G.g.at' λo e=>O.base _ _ e) hy (by rw [F.blt];exact G.b.at' λo e=>O.base _ _ e) (by rw [G.bi y hn];exact hv) q) hd
theorem DW {f:Fn} {ms:List Ev} {e:Expr} {es:List Expr} {y:Str} {a:Addr} {o:Obj} {fd:FuncData} {pos' pos} (G:Glb W) (hm:Bd.glo y∈ctx) (hy:W.mg y=some (.ref a)) (ho:W.h₀.get? a=some o) (hd:o.data=.func fd)
  (hf:B3 W b f a) (h:Rg W ctx b ms (e :: es)) (hdb:(y==("__debug__":Str))=false:=by decide)
  (he:∀ env,starEach (e :: es) env=(false,eval e env) :: starEach es env:=by intro _;rfl)
  (hc:∀ env,eval (.Call (.Name y pos') (e :: es) [] pos) env=(do callWith pos (← eval (.Name y pos') env) [] (backTo pos (starEach (e :: es) env)) (backToKw pos (keywordEach [] env))):=by intro _;rfl) :
  XD W ctx b (YN f ms) (.Call (.Name y pos') (e :: es) [] pos):=λA env ρ σ vs s K Q E OA F O m q=>by
 refine Call_ (ZN G F O hm hy hdb ?_) (hc env)
 refine callWith_def (o:=o) hd (h A env ρ σ vs s (λxs h1=>f xs h1 K) _ _ pos OA F O m λus xs ρ₁ σ₁ s₁ n₁ k₁ v₁ O₁ X₁=>⟨O₁.base _ _ ho,?_⟩) (he env)
 exact hf A ρ₁ σ₁ s₁ xs us K Q E OA v₁ O₁ k₁ λv mv ρ₂ σ₂ s₂ k₂ v₂ O₂ X₂=>q _ _ _ _ _ k₂ v₂ O₂ (X₁.trans X₂)
end
end
section
set_option tactic.hygienic false
variable [iC:Cs]
section
variable {W:Wd} {ctx ctx':List Bd} {b:Nat}
theorem KL {x:Str} {p:Pos}:(Expr.Name x p).pos=p:=rfl
theorem Cv {e:Expr} {g:List Comprehension} {s:Scope} {p:Pos}:(Expr.ListComp e g s p).pos=p:=rfl
theorem VW {α β:Type} {f:α→β→Sem (ForInStep β)} {g:β→α→β}:∀ {l:List α} {c:β},(∀ x∈l,∀ c,f x c=pure (.yield (g c x)))→forIn l c f=pure (l.foldl g c)
 | [],c,_=>by rw [List.forIn_nil,List.foldl_nil]
 | x :: r,c,h=>by rw [List.forIn_cons,h x (.head _),pure_bind,List.foldl_cons];exact VW λy hy=>h y (.tail _ hy)
noncomputable def Z2 (env:Env) (cs:List (Str×Addr)) (x:Str×NameKind):List (Str×Addr):=if x.2==.free then (x.1,(env.cells.lookup x.1).getD 0) :: cs else cs
theorem Tq {scope:Scope} {env:Env} (h:∀ y,(y,NameKind.free)∈scope.names→∃ c,env.cells.lookup y=some c) :
  ∃ cl,closureFor scope env=pure cl∧(∀ y c,cl.lookup y=some c→env.cells.lookup y=some c)∧∀ y,(y,NameKind.free)∈scope.names→cl.lookup y=env.cells.lookup y:=by
 refine ⟨scope.names.foldl (Z2 env) [],?_,?_,?_⟩
 ·unfold closureFor
  dsimp only
  rw [VW (g:=Z2 env) (λx hx c=>by
   obtain ⟨n,k⟩:=x
   unfold Z2
   cases hk:(k==NameKind.free) with
   | false=>simp only [hk,Bool.false_eq_true,if_false]
   | true=>
    have e:k=.free:=by simpa using hk
    clear hk;subst e
    refine (h n hx).elim λc' hc=>?_
    have:cellOf env n=pure c':=by unfold cellOf;rw [hc]
    simp only [beq_self_eq_true,if_true,this,pure_bind,hc,Option.getD_some])]
  rw [pure_bind]
 ·have key:∀ (l:List (Str×NameKind)) (acc:List (Str×Addr)),(∀ y,(y,NameKind.free)∈l→∃ c,env.cells.lookup y=some c)→(∀ y c,acc.lookup y=some c→env.cells.lookup y=some c)→∀ y c,(l.foldl (Z2 env) acc).lookup y=some c→env.cells.lookup y=some c:=by
   intro l
   induction l with
   | nil=>intro acc _ h y c e;exact h y c e
   | cons p r ih=>
    intro acc hl ha
    rw [List.foldl_cons]
    refine ih _ (λy hy=>hl y (.tail _ hy)) ?_
    intro y c e
    unfold Z2 at e
    split at e
    ·rename_i hk
     have hk:p.2=.free:=by simpa using hk
     rw [List.lookup_cons] at e
     split at e
     ·rename_i z
      have z:y=p.1:=by simpa using z
      obtain ⟨c',hc⟩:=hl p.1 (by rw [← hk];exact .head _)
      rw [hc] at e;rw [z,hc];exact e
     ·exact ha y c e
    ·exact ha y c e
  exact key _ [] h (λ__ __ e=>by cases e)
 ·have key:∀ (l:List (Str×NameKind)) (acc:List (Str×Addr)) y,(∀ y,(y,NameKind.free)∈l→∃ c,env.cells.lookup y=some c)→((y,NameKind.free)∈l∨acc.lookup y=env.cells.lookup y)→(l.foldl (Z2 env) acc).lookup y=env.cells.lookup y:=by
   intro l
   induction l with
   | nil=>intro acc y _ h;exact h.resolve_left (by simp)
   | cons p r ih=>
    intro acc y hl ha
    rw [List.foldl_cons]
    refine ih _ y (λy hy=>hl y (.tail _ hy)) ?_
    by_cases hp:p=(y,.free)
    ·right
     clear ha;subst hp
     unfold Z2
     refine (hl y (.head _)).elim λc hc=>?_
     simp [hc]
    ·rcases ha with ha | ha
     ·left
      rcases List.mem_cons.mp ha with e | e
      ·exact absurd e.symm hp
      ·exact e
     ·right
      unfold Z2
      split
      ·rename_i hk
       have hk:p.2=.free:=by simpa using hk
       rw [List.lookup_cons]
       split
       ·rename_i z
        exact absurd (show p=(y,.free) by rw [← hk,(show y=p.1 by simpa using z)]) hp
       ·exact ha
      ·exact ha
  exact λy hy=>key _ [] y h (.inl hy)
noncomputable def ZC (t:Pa) (c:Vs→H→(Bool→H→Prop)→Prop) (e:Ev) (l:List MV):Vs→H→(List MV→H→Prop)→Prop:=
 @List.rec MV (λ__=>Vs→H→(List MV→H→Prop)→Prop) (λ__ h k=>k [] h) (λx __ ih vs h k=>Y7 x vs t λvs'=>c vs' h λb h0=>ifB b (e vs' h0 λy h1=>ih vs h1 λys h2=>k (y :: ys) h2) (ih vs h0 k)) l
theorem BW {t:Pa} {c e} {vs:Vs} {σ:H} {k:List MV→H→Prop}:ZC t c e [] vs σ k=k [] σ:=rfl
theorem Rj {t:Pa} {c e} {x:MV} {xs:List MV} {vs:Vs} {σ:H} {k:List MV→H→Prop}:ZC t c e (x :: xs) vs σ k=Y7 x vs t λvs'=>c vs' σ λb h0=>ifB b (e vs' h0 λy h1=>ZC t c e xs vs h1 λys h2=>k (y :: ys) h2) (ZC t c e xs vs h0 k):=rfl
noncomputable def JS (W:Wd) (ctx:List Bd) (b:Nat) (c:Vs→H→(Bool→H→Prop)→Prop) (ifs:List Expr):Prop:=
 ∀ (A:Around) (env:Env) (ρ:Rho) (σ:H) (vs:Vs) (s:Shared) (K:Bool→H→Prop) (Q:Bool→Shared→Prop) (E:Value→Shared→Prop),
  OkA A b→FR W ctx env vs ρ s.heap→Ok W ρ σ s→c vs σ K→(∀ r ρ' σ' s',K r σ'→Ok W ρ' σ' s'→Ext ρ ρ' s.heap s'.heap→Q r s')→
   wpAny (model W.prog W.w) A (forIn ifs true λc r=>if r=true then do let ok ← isTrue c env (eval c env);pure (ForInStep.yield ok) else pure (ForInStep.yield r)) Q E s
theorem ZX:JS W ctx b (λ__ h k=>k true h) []:=λA env ρ σ vs s K Q E OA F O m q=>wpAny_tests_nil (q _ _ _ _ m O (Ext.refl _ _))
theorem U2 {m₁:Ev} {t:Expr} (h:JO W ctx b m₁ t):JS W ctx b (λvs h k=>m₁ vs h λx h1=>YS x λc=>k c h1) [t]:=λA env ρ σ vs s K Q E OA F O m q=>wpAny_tests_one (h A env ρ σ vs s K Q E OA F O m q)
noncomputable def Ze (ctx ctx':List Bd) (names:List (Str×NameKind)) (x:Str) (p:Pa):Bool:=
 (ctx'.all λb=>match b with
  | .loc y q=>decide (y=x)&&q==p
  | .cel y q o=>!o&&names.lookup y==some .free&&names.contains (y,.free)&&q != p&&q.length==p.length&&ctx.any λb'=>match b' with | .cel y' q' _=>decide (y'=y)&&q'==q | _=>false
  | .glo y=>names.lookup y==some .globalImplicit)&&
 (names.all λn=>(n.2 != .cell)&&(n.2 != .local||names.lookup n.1==some .local)&&(n.2 != .free||ctx.any λb'=>match b' with | .cel y' _ _=>decide (y'=n.1) | _=>false))&&
 names.lookup x==some .local
theorem Ok.keepAt {ρ:Rho} {σ:H} {s:Shared} (O:Ok W ρ σ s) {I:Addr} (hI:Y9 s.heap I) (nI:¬ own ρ I) (n0:W.h₀.get? I=none) {h':Heap} {t:Nat} (k:∀ b o,b≠I→s.heap.get? b=some o→h'.get? b=some o):Ok W ρ σ { s with heap:=h',toks:=t }:=by
 have hS:∀ b,b=I→Y9 s.heap b:=λb e=>e▸hI
 refine ⟨⟨O.hr.bound,O.hr.dom,λn l e i o hl=>(O.hr.obj n l e i o hl).extP hS (λb o e z=>k b o z e) λa ha z=>nI ⟨i+1,z▸ha⟩,λa ha=>(let ⟨o,e⟩:=O.hr.priv a ha;⟨o,k _ _ (λz=>nI ⟨0,z▸ha⟩) e⟩),O.hr.disj,O.hr.base⟩,λb o e=>k b o ?_ (O.base b o e),O.gens,O.os⟩
 clear hI hS k nI;rintro rfl;rw [e] at n0;cases n0
theorem FR.keepAt {env:Env} {vs:Vs} {ρ:Rho} {h h':Heap} (F:FR W ctx env vs ρ h) {I:Addr} (hI:Y9 h I) (np:¬ plc env I) (k:∀ b o,b≠I→h.get? b=some o→h'.get? b=some o):FR W ctx env vs ρ h':=by
 have hS:∀ b,b=I→Y9 h b:=λb e=>e▸hI
 have Y:ExtP (λb=>b=I) ρ ρ h h':=⟨λ__ __=>rfl,λ__ x=>.inl x,λb o e __ hp=>k b o hp e,λb __ o e hp=>k b o hp e⟩
 have pn:∀ b,plc env b→b≠I:=λb hb z=>np (z▸hb)
 exact F.map (VR.extP hS Y) λb o p e n=>⟨n,k _ _ (pn b p) e⟩
theorem Ns.noVal {h:Heap} {C:Addr} {m} (x:h.Ns C m):Y9 h C:=by
 refine x.elim λo zz=>zz.elim λes zz=>zz.elim λep zz=>zz.elim λho zz=>zz.elim λhd __=>?_
 intro o' ho'
 rw [ho] at ho';cases ho'
 exact ⟨λ__ __ q=>(by rw [hd] at q;cases q),λ__ q=>(by rw [hd] at q;cases q)⟩
structure CEnv (env cenv:Env) (scope:Scope) (cl:List (Str×Addr)):Prop where
 sc:cenv.scope=relabel scope env
 glob:cenv.globals=env.globals
 blt:cenv.builtins=env.builtins
 cells:cenv.cells=cl
theorem YL {env:Env} {k:NameKind} (hk:k≠.free):∀ {names:List (Str×NameKind)} {x:Str},names.lookup x=some k→
  (names.map λ(n,k)=>if (k==NameKind.free&&env.scope.kind==.function&&env.kindOf n==some .cell) then (n,NameKind.cell) else (n,k)).lookup x=some k
 | [],_,h=>by simp at h
 | (n,k') :: r,x,h=>by
  have ih:=@YL env k hk r x
  show List.lookup x ((if (k'==NameKind.free&&env.scope.kind==.function&&env.kindOf n==some .cell)=true then (n,NameKind.cell) else (n,k')) :: _)=_
  cases hx:x==n with
  | true=>
   simp only [List.lookup_cons,hx] at h
   cases (h)
   have:(k==NameKind.free)=false:=by simpa using hk
   simp [this,List.lookup_cons,hx]
  | false=>
   simp only [List.lookup_cons,hx] at h
   by_cases hc:(k'==NameKind.free&&env.scope.kind==.function&&env.kindOf n==some .cell)=true
   ·rw [if_pos hc];simp only [List.lookup_cons,hx];exact ih h
   ·rw [if_neg hc];simp only [List.lookup_cons,hx];exact ih h
theorem Y4 {env:Env} (he:env.scope.kind=.function):∀ {names:List (Str×NameKind)} {x:Str},names.lookup x=some .free→
  (names.map λ(n,k)=>if (k==NameKind.free&&env.scope.kind==.function&&env.kindOf n==some .cell) then (n,NameKind.cell) else (n,k)).lookup x=some .cell∨
  (names.map λ(n,k)=>if (k==NameKind.free&&env.scope.kind==.function&&env.kindOf n==some .cell) then (n,NameKind.cell) else (n,k)).lookup x=some .free
 | [],_,h=>by simp at h
 | (n,k') :: r,x,h=>by
  have ih:=@Y4 env he r x
  show List.lookup x ((if (k'==NameKind.free&&env.scope.kind==.function&&env.kindOf n==some .cell)=true then (n,NameKind.cell) else (n,k')) :: _)=_∨List.lookup x ((if (k'==NameKind.free&&env.scope.kind==.function&&env.kindOf n==some .cell)=true then (n,NameKind.cell) else (n,k')) :: _)=_
  cases hx:x==n with
  | true=>
   simp only [List.lookup_cons,hx] at h
   cases h
   by_cases hc:(NameKind.free==NameKind.free&&env.scope.kind==.function&&env.kindOf n==some .cell)=true
   ·rw [if_pos hc];simp only [List.lookup_cons,hx];exact .inl trivial
   ·rw [if_neg hc];simp only [List.lookup_cons,hx];exact .inr trivial
  | false=>
   simp only [List.lookup_cons,hx] at h
   by_cases hc:(k'==NameKind.free&&env.scope.kind==.function&&env.kindOf n==some .cell)=true
   ·rw [if_pos hc];simp only [List.lookup_cons,hx];exact ih h
   ·rw [if_neg hc];simp only [List.lookup_cons,hx];exact ih h
theorem RB {env cenv:Env} {scope:Scope} {cl:List (Str×Addr)} {x:Str} {p:Pa} {vs vs':Vs} {ρ:Rho} {h:Heap} {v:Value} {y:MV} {m:Str→Option Value} (C:CEnv env cenv scope cl) (F:FR W ctx env vs ρ h) (ok:Ze ctx ctx' scope.names x p=true) (hkind:scope.kind=.function)
  (hcl:∀ y c,cl.lookup y=some c→env.cells.lookup y=some c) (hcl':∀ y,(y,NameKind.free)∈scope.names→cl.lookup y=env.cells.lookup y)
  (nC:¬ own ρ cenv.locals) (hab:W.h₀.objs.size≤cenv.locals) (hns:h.Ns cenv.locals m) (hm:m x=some v) (hv:VR ρ h v y) (hg:Yb vs' p=y) (hs:∀ q:Pa,q.length=p.length→q≠p→Yb vs' q=Yb vs q):FR W ctx' cenv vs' ρ h:=by
 unfold Ze at ok
 simp only [Bool.and_eq_true,List.all_eq_true,beq_iff_eq] at ok
 refine Xi λgk=>?_
 obtain ⟨⟨c1,c2⟩,c3⟩:=ok
 refine gk ?_;clear gk
 have hk:∀ z,cenv.kindOf z=(relabel scope env).names.lookup z:=λz=>by show cenv.scope.names.lookup z=_;rw [C.sc]
 refine ⟨by rw [C.sc];exact hkind,by rw [C.glob];exact F.glob,by rw [C.blt];exact F.blt,nC,λz c e=>?_,λz z' c e e'=>?_,⟨m,hns,λz q e=>?_⟩,λz q o e=>?_,λz e=>?_,hab⟩
 ·rw [C.cells] at e;exact F.nc z c (hcl z c e)
 ·rw [C.cells] at e e';exact F.apart z z' c (hcl z c e) (hcl z' c e')
 ·have:=c1 _ e
  simp only [Bool.and_eq_true,decide_eq_true_eq,beq_iff_eq] at this
  clear c1 hs;obtain ⟨rfl,rfl⟩:=this
  exact ⟨by rw [hk];exact YL (by decide) c3,.inr ⟨v,hm,by rw [hg];exact hv⟩⟩
 ·have:=c1 _ e
  simp only [Bool.and_eq_true,beq_iff_eq,bne_iff_ne,List.any_eq_true,Bool.not_eq_true'] at this
  refine Xi λgk=>?_
  obtain ⟨⟨⟨⟨⟨ho,h1⟩,h2⟩,h3⟩,h4⟩,d,hd,h5⟩:=this
  refine gk ?_;clear gk
  cases d with
  | loc=>cases h5
  | glo=>cases h5
  | cel z' q' o'=>
   simp only [Bool.and_eq_true,decide_eq_true_eq,beq_iff_eq] at h5
   refine Xi λgk=>?_
   clear e;obtain ⟨rfl,rfl⟩:=h5
   refine F.celE z' q' o' hd λ__ c u hc hu hr=>?_
   refine gk ?_;clear gk
   refine ⟨?_,c,u,by rw [C.cells,hcl' z' (by simpa using h2)];exact hc,hu,by rw [hs q' h4 h3];exact hr⟩
   rcases Y4 F.kind h1 with h | h
   ·exact .inl (by rw [hk];exact h)
   ·exact .inr ⟨ho,by rw [hk];exact h⟩
 ·have:=c1 _ e
  simp only [beq_iff_eq] at this
  rw [hk];exact YL (by decide) this
end
end
section
set_option tactic.hygienic false
variable [iC:Cs]
section
variable {W:Wd} {ctx ctx':List Bd} {b:Nat}
theorem VR.extQ {S:Addr→Prop} {ρ ρ':Rho} {h h':Heap} (F:∀ b,S b→Y9 h b∨own ρ b) (X:ExtP S ρ ρ' h h') {v mv} (r:VR ρ h v mv):VR ρ' h' v mv:=
 VM.v ⟨λ__ __ __ ho ⟨n,e⟩=>⟨X.not ho e,n,X.keep _ _ e ho (λz=>(F _ z).elim (λf=>(f _ e).1 _ _ rfl) ho)⟩,λ__ __ __ __ __ __ __ ho e=>⟨X.not ho e,X.keep _ _ e ho (λz=>(F _ z).elim (λf=>(f _ e).2 _ rfl rfl) ho)⟩,λ__ __ __ e=>(X.same _ (e▸List.cons_ne_nil _ _)).trans e⟩ r
theorem VRs.snoc {ρ:Rho} {h:Heap} {us:List Value} {xs:List MV} {v:Value} {x:MV} (a:VRs ρ h us xs) (c:VR ρ h v x):VRs ρ h (us++[v]) (xs++[x]):=a.append (.cons c .nil)
theorem Ext.toP {ρ ρ':Rho} {h h':Heap} (X:Ext ρ ρ' h h') (S:Addr→Prop):ExtP S ρ ρ' h h':=⟨X.same,X.fresh,λb o e n __=>X.keep b o e n,λb hb o e __=>X.prv b hb o e⟩
theorem Ok.keepS {S:Addr→Prop} {ρ:Rho} {σ:H} {s:Shared} (O:Ok W ρ σ s) (hS:∀ b,S b→Y9 s.heap b) (nI:∀ b,S b→¬ own ρ b) (n0:∀ b,S b→W.h₀.get? b=none) {h':Heap} {t:Nat} (k:∀ b o,¬ S b→s.heap.get? b=some o→h'.get? b=some o):Ok W ρ σ { s with heap:=h',toks:=t }:=by
 refine ⟨⟨O.hr.bound,O.hr.dom,λn l e i o hl=>(O.hr.obj n l e i o hl).extP hS (λb o e z=>k b o z e) λa ha z=>nI a z ⟨i+1,ha⟩,λa ha=>(let ⟨o,e⟩:=O.hr.priv a ha;⟨o,k _ _ (λz=>nI a z ⟨0,ha⟩) e⟩),O.hr.disj,O.hr.base⟩,λb o e=>k b o (λz=>?_) (O.base b o e),O.gens,O.os⟩
 rw [n0 b z] at e;cases e
theorem FR.keepS {S:Addr→Prop} {env:Env} {vs:Vs} {ρ:Rho} {h h':Heap} (F:FR W ctx env vs ρ h) (hS:∀ b,S b→Y9 h b) (np:∀ b,S b→¬ plc env b) (k:∀ b o,¬ S b→h.get? b=some o→h'.get? b=some o):FR W ctx env vs ρ h':=
 F.map (VR.extP hS ⟨λ__ __=>rfl,λ__ x=>.inl x,λb o e __ hp=>k b o hp e,λb __ o e hp=>k b o hp e⟩) λb o p e n=>⟨n,k _ _ (λz=>np b z p) e⟩
theorem NC {elt iter:Expr} {ifs:List Expr} {x:Str} {px:Pos} {p:Pa} {scope:Scope} {pos:Pos} {c:Vs→H→(Bool→H→Prop)→Prop} {m₁:Ev} {cenv:Env} {Sl:Addr→Prop} {Al:Heap→Prop}
  (hc:JS W ctx' b c ifs) (he:XD W ctx' b m₁ elt)
  {A:Around} {env:Env} (OA:OkA A b) {ρ:Rho} {σ:H} {vs:Vs} {s₂:Shared} {h₁ h₄:Heap} {I D:Addr} {fp:List Addr} {xs:List MV} {P:Nat→Value→Prop} {St:Nat→Heap→Prop} {K:MV→H→Prop} {RR:Result→Shared→Prop} {t:Nat}
  (F:FR W ctx env vs ρ s₂.heap) (O:Ok W ρ σ s₂) (S:Src W ρ s₂.heap I fp xs P St) (n0:W.h₀.get? I=none) (hz:xs.length≤4096)
  (h12:∀ b o,h₁.get? b=some o→s₂.heap.get? b=some o) (hI:h₁.get? I=none)
  (m:ZC p c m₁ xs vs σ λys h2=>K (.seq true ys) h2)
  (hSl:∀ b,Sl b→s₂.heap.get? b=none) (nSD:¬ Sl D) (hD:s₂.heap.get? D=none)
  (old:∀ b o,s₂.heap.get? b=some o→h₄.get? b=some o) (hacc:h₄.PlainList D #[]) (al₄:Al h₄)
  (liv:∀ h,Al h→∀ b,Sl b→∃ o,h.get? b=some o) (nov:∀ h,Al h→∀ b,Sl b→Y9 h b)
  (mov:∀ h h':Heap,Al h→(∀ b o,Sl b→h.get? b=some o→h'.get? b=some o)→Al h')
  (asg:∀ (s:Shared) v (Q:Unit→Shared→Prop) E,Al s.heap→(∀ h'' t,Al h''→(∀ b o,¬ Sl b→s.heap.get? b=some o→h''.get? b=some o)→
    (∀ ρ' vs',(∀ b,Sl b→¬ own ρ' b)→FR W ctx env vs ρ' h''→VR ρ' h'' v (Yb vs' p)→(∀ q:Pa,q.length=p.length→q≠p→Yb vs' q=Yb vs q)→FR W ctx' cenv vs' ρ' h'')→Q () { s with heap:=h'',toks:=t })→
   wpAny (model W.prog W.w) A (assign (.Name x px) cenv v) Q E s)
  (hRR:∀ ρf σf s' ys,K (.seq true ys) σf→VR ρf s'.heap (.ref D) (.seq true ys)→Ok W ρf σf s'→Ext ρ ρf h₁ s'.heap→Al s'.heap→(∀ b,Sl b→¬ own ρf b)→RR (.ok .next) s') :
  codeAny (model W.prog W.w) A (.compLoop (.ListComp elt [⟨.Name x px,iter,ifs,0⟩] scope pos) 0 (.ref I) (.ref D) cenv) RR { s₂ with heap:=h₄,toks:=t }:=by
 have h1D:h₁.get? D=none:=Yc (λo' e=>h12 _ _ e) hD
 have fr:∀ i h h',St i h→(∀ b∈fp,∀ o,h.get? b=some o→h'.get? b=some o)→St i h':=(S.walks A OA.1).frame
 have st₄:St 0 h₄:=fr _ _ _ S.start λb __ o e=>old b o e
 have aI:∀ i h,St i h→∃ o,h.get? I=some o:=λi h st=>(S.alive i h st).elim λo e=>⟨o,e.1⟩
 have nvS:∀ i h,Al h→St i h→∀ b,(Sl b∨b=I)→Y9 h b:=λi h a st b z=>z.elim (nov h a b) λe=>e▸(S.alive i h st).noVal
 have al3:∀ (h:Heap) i (l:Array Value),Al h→St i h→h.PlainList D l→∀ b,((Sl b∨b=I)∨b=D)→∃ o,h.get? b=some o:=λh i l a st pl b z=>
  z.elim (λz=>z.elim (liv h a b) λe=>e▸aI i h st) λe=>e▸⟨_,pl.choose_spec⟩
 have odd4:∀ d∈fp,¬ own ρ d∧¬ Sl d∧d≠D∧∃ o,s₂.heap.get? d=some o:=λd hd=>by
  refine (S.odd d hd).elim λn hz=>hz.elim λo hz=>hz.elim λe __=>?_
  exact ⟨n,λz=>(by rw [hSl d z] at e;cases e),λz=>(by rw [z,hD] at e;cases e),o,e⟩
 have npS:∀ b,Sl b→¬ plc env b:=λb hb z=>by refine (F.alive b z).elim λo e=>?_;rw [hSl b hb] at e;cases e
 have h0S:∀ b,(Sl b∨b=I)→W.h₀.get? b=none:=λb z=>z.elim (λhb=>Yc (λo e=>O.base b o e) (hSl b hb)) λe=>e▸n0
 have h1S:∀ b,((Sl b∨b=I)∨b=D)→h₁.get? b=none:=λb z=>z.elim (λz=>z.elim (λhb=>Yc (λo e=>h12 b o e) (hSl b hb)) λe=>e▸hI) λe=>e▸h1D
 refine Xi λgk=>?_
 obtain ⟨ρ₄,hρ⟩:∃ r,r=ins ρ 0 (D :: ρ 0):=⟨_,rfl⟩
 have O₄:Ok W ρ₄ σ { s₂ with heap:=h₄,toks:=t }:=by rw [hρ];exact O.morePriv hD old ⟨_,hacc.choose_spec⟩
 have F₄:FR W ctx env vs ρ₄ h₄:=by rw [hρ];exact F.morePriv hD old
 have T₄:∀ v x,VR ρ s₂.heap v x→VR ρ₄ h₄ v x:=λv x r=>by rw [hρ];exact r.more hD old
 have own4:∀ a,own ρ₄ a↔a=D∨own ρ a:=λa=>by rw [hρ];exact Zn
 have e40:ρ₄ 0=D :: ρ 0:=by rw [hρ,X5]
 have nS4:∀ b,(Sl b∨b=I)→¬ own ρ₄ b:=λb hb z=>((own4 b).mp z).elim (λz=>hb.elim (λhb=>nSD (z▸hb)) λhb=>(odd4 I S.inI).2.2.1 (hb▸z)) λz=>hb.elim (λhb=>O.hr.fresh (hSl b hb) z) λhb=>(odd4 I S.inI).1 (hb▸z)
 have nv4:∀ b,((Sl b∨b=I)∨b=D)→Y9 h₄ b∨own ρ₄ b:=λb z=>z.elim (λz=>.inl (nvS 0 _ al₄ st₄ b z)) λe=>.inr ((own4 b).mpr (.inl e))
 have odd5:∀ d∈fp,¬ own ρ₄ d∧∃ o,h₄.get? d=some o:=λd hd=>(odd4 d hd).elim λa z=>z.elim λ__ z=>z.elim λc z=>z.elim λo e=>⟨λz=>((own4 d).mp z).elim c a,o,old _ _ e⟩
 have st4D:∀ i h h',St i h→(∀ b o,b≠D→h.get? b=some o→h'.get? b=some o)→St i h':=λi h h' st k=>fr i h h' st λb hb o e=>k b o (odd4 b hb).2.2.1 e
 have stS:∀ i h h',St i h→(∀ b o,¬ Sl b→h.get? b=some o→h'.get? b=some o)→St i h':=λi h h' st k=>fr i h h' st λb hb o e=>k b o (odd4 b hb).2.1 e
 have IS:∀ b,Sl b→b ∉ [I]:=λb hb z=>(odd4 I S.inI).2.1 (by rw [List.mem_singleton] at z;exact z▸hb)
 clear own4 odd4
 obtain ⟨B,hB⟩:∃ B:Nat→Rho→Heap→List Value→List MV→Prop,∀ i ρ' h us bt,B i ρ' h us bt↔(FR W ctx env vs ρ' h∧ExtP (λb=>(Sl b∨b=I)∨b=D) ρ₄ ρ' h₄ h∧Al h∧St i h∧h.PlainList D us.toArray∧VRs ρ' h us bt):=⟨_,λ__ __ __ __ __=>Iff.rfl⟩
 have B₄:B 0 ρ₄ h₄ [] []:=(hB _ _ _ _ _).mpr ⟨F₄,ExtP.refl _ _ _,al₄,st₄,hacc,.nil⟩
 have nT:∀ {i ρ' h us bt},B i ρ' h us bt→∀ b,(Sl b∨b=I)→¬ own ρ' b:=λhb b z=>((hB _ _ _ _ _).mp hb).elim λ__ X=>X.elim λX __=>by
  refine Exists.elim ?_ λo e=>X.not (nS4 b z) (o:=o) e
  exact z.elim (liv _ al₄ b) λe=>e▸aI 0 _ st₄
 have e0:∀ {i ρ' h us bt},B i ρ' h us bt→ρ' 0=D :: ρ 0:=λhb=>((hB _ _ _ _ _).mp hb).elim λ__ X=>X.elim λX __=>by rw [X.same 0 (by rw [e40];simp),e40]
 have okT:∀ {i ρ' σ' us bt t} {s':Shared} {h':Heap},B i ρ' s'.heap us bt→Ok W ρ' σ' s'→(∀ b o,¬ (Sl b∨b=I)→s'.heap.get? b=some o→h'.get? b=some o)→Ok W ρ' σ' { s' with heap:=h',toks:=t }:=λhb O k=>by
  refine O.keepS ?_ (nT hb) h0S k
  exact ((hB _ _ _ _ _).mp hb).elim λ__ z=>z.elim λ__ z=>z.elim λa z=>z.elim λst __=>nvS _ _ a st
 have mv0:∀ {i ρ' h h' us bt},B i ρ' h us bt→(∀ b o,¬ (Sl b∨b=I)→h.get? b=some o→h'.get? b=some o)→FR W ctx env vs ρ' h'∧ExtP (λb=>(Sl b∨b=I)∨b=D) ρ₄ ρ' h₄ h'∧h'.PlainList D us.toArray∧VRs ρ' h' us bt:=λ{i ρ' h h' us bt} hb k=>by
  refine ((hB _ _ _ _ _).mp hb).elim λF z=>z.elim λX z=>z.elim λa z=>z.elim λst z=>z.elim λpl r=>?_
  have X₂:ExtP (λb=>(Sl b∨b=I)) ρ' ρ' h h':=⟨λ__ __=>rfl,λ__ x=>.inl x,λb o e __ hp=>k b o hp e,λb __ o e hp=>k b o hp e⟩
  exact ⟨F.keepS (nvS _ _ a st) (λb z=>z.elim (npS b) λe=>e▸(S.alive _ _ st).odd.notPlc F) k,X.trans (X₂.mono λ__=>.inl) (al3 _ _ _ a st pl),pl.at λo e=>k D o (λz=>nS4 D z ⟨0,(by rw [e40];exact .head _)⟩) e,r.extP (nvS _ _ a st) X₂⟩
 have mvT:∀ {i j ρ' h h' us bt},B i ρ' h us bt→St j h'→Al h'→(∀ b o,¬ (Sl b∨b=I)→h.get? b=some o→h'.get? b=some o)→B j ρ' h' us bt:=λhb st' a' k=>
  (mv0 hb k).elim λF z=>z.elim λX z=>z.elim λpl r=>(hB _ _ _ _ _).mpr ⟨F,X,a',st',pl,r⟩
 have mvX:∀ {i ρ' ρ'' h h' us bt},B i ρ' h us bt→Ext ρ' ρ'' h h'→B i ρ'' h' us bt:=λhb Y=>by
  have n:=nT hb
  have e:=e0 hb
  refine ((hB _ _ _ _ _).mp hb).elim λF z=>z.elim λX z=>z.elim λa z=>z.elim λst z=>z.elim λpl r=>?_
  exact (hB _ _ _ _ _).mpr ⟨F.ext Y,X.trans (Y.toP _) (al3 _ _ _ a st pl),mov _ _ a λb o z q=>Y.keep b o q (n b (.inl z)),fr _ _ _ st λd hd o q=>Y.keep d o q ((odd5 d hd).elim λn z=>z.elim λo e=>X.not n e),pl.at λo q=>Y.prv D (by rw [e];exact .head _) o q,r.ext Y⟩
 have mvA:∀ {i ρ' h h' us bt y my},B i ρ' h us bt→VR ρ' h y my→ExtP (λb=>b=D) ρ' ρ' h h'→(∀ b o,b≠D→h.get? b=some o→h'.get? b=some o)→h'.PlainList D (us++[y]).toArray→B i ρ' h' (us++[y]) (bt++[my]):=λ{i ρ' h h' us bt y my} hb v Y k pl'=>by
  have e:=e0 hb
  refine ((hB _ _ _ _ _).mp hb).elim λF z=>z.elim λX z=>z.elim λa z=>z.elim λst z=>z.elim λpl r=>?_
  have k':∀ b o,h.get? b=some o→¬ own ρ' b→h'.get? b=some o:=λb o q n=>k b o (λz=>n ⟨0,by rw [z,e];exact .head _⟩) q
  exact (hB _ _ _ _ _).mpr ⟨F.extK k',X.trans (Y.mono λ__=>.inr) (al3 _ _ _ a st pl),mov _ _ a λb o z q=>k b o (λe=>nSD (e▸z)) q,st4D _ _ _ st k,pl',(r.extK k').snoc (v.extK k')⟩
 have itm:∀ {i j ρ' h us bt v y},B j ρ' h us bt→P i v→xs[i]?=some y→VR ρ' h v y:=λhb hP e=>((hB _ _ _ _ _).mp hb).elim λ__ X=>X.elim λX __=>S.item _ _ _ _ _ (λu y hu=>(T₄ u y hu).extQ nv4 X) hP e
 obtain ⟨J,hJ⟩:∃ J:Nat→Shared→Prop,∀ k s',J k s'↔∃ i ρ' σ' us bt,k=xs.length+1-i∧i≤xs.length∧us.length≤i∧Ok W ρ' σ' s'∧B i ρ' s'.heap us bt∧ZC p c m₁ (xs.drop i) vs σ' λys h2=>K (.seq true (bt++ys)) h2:=⟨_,λ__ __=>Iff.rfl⟩
 have J0:J (xs.length+1) { s₂ with heap:=h₄,toks:=t }:=(hJ _ _).mpr ⟨0,ρ₄,σ,[],[],rfl,Nat.zero_le _,Nat.zero_le _,O₄,B₄,m⟩
 have nx:∀ i ρf σf (sf:Shared) us' bt',i<xs.length→us'.length≤i+1→Ok W ρf σf sf→B (i+1) ρf sf.heap us' bt'→(ZC p c m₁ (xs.drop (i+1)) vs σf λys h2=>K (.seq true (bt'++ys)) h2)→∃ m,m<xs.length+1-i∧J m sf:=λi ρf σf sf us' bt' hlt hl Of Bf mf=>
  ⟨xs.length+1-(i+1),Nat.sub_lt_sub_left (Nat.lt_succ_of_lt hlt) (Nat.lt_succ_self i),(hJ _ _).mpr ⟨i+1,ρf,σf,us',bt',rfl,hlt,hl,Of,Bf,mf⟩⟩
 have bA:∀ {i ρ' h us bt},B i ρ' h us bt→Al h:=λhb=>((hB _ _ _ _ _).mp hb).elim λ__ z=>z.elim λ__ z=>z.elim λa z=>a
 have bS:∀ {i ρ' h us bt},B i ρ' h us bt→St i h:=λhb=>((hB _ _ _ _ _).mp hb).elim λ__ z=>z.elim λ__ z=>z.elim λ__ z=>z.elim λst __=>st
 have bF:∀ {i ρ' h us bt},B i ρ' h us bt→FR W ctx env vs ρ' h:=λhb=>((hB _ _ _ _ _).mp hb).elim λF __=>F
 have bP:∀ {i ρ' h us bt},B i ρ' h us bt→h.PlainList D us.toArray:=λhb=>((hB _ _ _ _ _).mp hb).elim λ__ z=>z.elim λ__ z=>z.elim λ__ z=>z.elim λ__ z=>z.1
 have cl:∀ {ρ' h'},ExtP (λb=>(Sl b∨b=I)∨b=D) ρ₄ ρ' h₄ h'→Ext ρ (ins ρ' 0 (ρ 0)) h₁ h':=λX=>(Ext.closePriv (ρ₁:=ρ) h1D (λb o e=>old b o (h12 b o e)) h1S (hρ▸X)).2
 refine gk ?_;clear gk
 refine codeAny_compLoop_tests J ?_ (xs.length+1) J0
 clear hB hρ O₄ T₄ e40 st₄ nS4 nv4 odd5 J0 B₄ F₄ nvS al3 npS h0S h1S fr aI
 intro k s' hq
 refine Xi λgk=>?_;obtain ⟨i,ρ',σ',us,bt,rfl,hi,hul,O',B',m'⟩:=(hJ _ _).mp hq;refine gk ?_;clear gk hJ
 refine Xi λgk=>?_;rcases Nat.lt_or_ge i xs.length with hlt | hge <;> (refine gk ?_;clear gk)
 ·refine (S.walks A OA.1).item i s' _ _ hlt (bS B') λv h' tk hP st₅ kk=>?_
  show wpAny _ _ (assign (.Name x px) cenv v) _ _ _
  refine gq λNx hN=>?_
  refine asg { s' with heap:=h',toks:=tk } v _ _ (mov _ _ (bA B') λb o z e=>kk b o (IS b z) e) λh'' t₆ a6 k6 fr6=>hN _ _ ?_
  clear hN
  have kT:∀ b o,¬ (Sl b∨b=I)→s'.heap.get? b=some o→h''.get? b=some o:=λb o n e=>k6 b o (λz=>n (.inl z)) (kk b o (λz=>n (.inr (List.mem_singleton.mp z))) e)
  have O₆:Ok W ρ' σ' { s' with heap:=h'',toks:=t₆ }:=okT B' O' kT
  have B₆:B (i+1) ρ' h'' us bt:=mvT B' (stS _ _ _ st₅ k6) a6 kT
  have hv:VR ρ' h'' v xs[i]:=itm B₆ hP (List.getElem?_eq_getElem hlt)
  rw [List.drop_eq_getElem_cons hlt,Rj] at m'
  refine Zt m' λvs' m' hg hs=>?_
  have F₇:FR W ctx' cenv vs' ρ' h'':=fr6 ρ' vs' (λb z=>nT B₆ b (.inl z)) (bF B₆) (hg▸hv) hs
  clear kT k6 kk fr6 hv hP st₅ okT mvT itm stS st4D mv0 B'
  refine hc A cenv ρ' σ' vs' _ _ _ _ OA F₇ O₆ m' λr ρ₈ σ₈ s₈ k₈ O₈ X₈=>?_
  have B₈:=mvX B₆ X₈
  refine Xi λgk=>?_;rcases Xo k₈ with ⟨rfl,k₈⟩ | ⟨rfl,k₈⟩ <;> (refine gk ?_;clear gk)
  ·rw [if_pos rfl]
   refine he A cenv ρ₈ σ₈ vs' s₈ _ _ _ OA (F₇.ext X₈) O₈ k₈ λy my ρ₉ σ₉ s₉ k₉ v₉ O₉ X₉=>?_
   have B₉:=mvX B₈ X₉
   refine wpAny_list_append_plain (bP B₉) (λhA hplA hsbA=>?_) (by rw [sizeLine_eq,List.size_toArray];omega)
   have kA:∀ b o,b≠D→s₉.heap.get? b=some o→hA.get? b=some o:=λb o n e=>(hsbA.2 b n).trans e
   refine O₉.setPrivE (t:=s₉.toks) (by rw [e0 B₉];exact .head _) (h':=hA) kA ⟨_,hplA.choose_spec⟩ λOA' XA TA=>?_
   refine nx i ρ₉ σ₉ { s₉ with heap:=hA } (us++[y]) (bt++[my]) hlt (by simp;omega) OA' (mvA B₉ v₉ XA kA (by simpa using hplA)) ?_
   have:(λ(ys:List MV) h2=>K (.seq true ((bt++[my])++ys)) h2)=λys h2=>K (.seq true (bt++(my :: ys))) h2:=by funext ys h2;simp
   rw [this];exact k₉
  ·rw [if_neg (by decide)]
   exact nx i ρ₈ σ₈ s₈ us bt hlt (by omega) O₈ B₈ k₈
 ·obtain rfl:i=xs.length:=by omega
  rw [List.drop_length,BW,List.append_nil] at m'
  refine (S.walks A OA.1).done s' _ _ (bS B') λh' tk kk=>?_
  have kT:∀ b o,¬ (Sl b∨b=I)→s'.heap.get? b=some o→h'.get? b=some o:=λb o n e=>kk b o (λz=>n (.inr (List.mem_singleton.mp z))) e
  have O₆:Ok W ρ' σ' { s' with heap:=h',toks:=tk }:=okT B' O' kT
  refine (mv0 B' kT).elim λ__ z=>z.elim λX₅ z=>z.elim λhpl₅ hb₅=>?_
  refine O₆.lessPrivE (e0 B') λOf ko kr=>?_
  refine hRR _ σ' _ bt m' (.seq (λz=>?_) hpl₅ (hb₅.less ko kr)) Of (cl X₅) (mov _ _ (bA B') λb o z e=>kk b o (IS b z) e) λb z y=>nT B' b (.inl z) (ko _ y)
  refine z.elim λi hi=>?_
  by_cases z:i=0
  ·clear hge;subst z
   rw [X5] at hi
   exact O.hr.fresh hD ⟨0,hi⟩
  ·rw [YG _ _ z] at hi
   exact z (O'.hr.disj _ _ D hi (by rw [e0 B'];exact .head _))
theorem GV {elt iter:Expr} {ifs:List Expr} {x:Str} {px:Pos} {p:Pa} {scope:Scope} {pos:Pos} {c:Vs→H→(Bool→H→Prop)→Prop} {m₁:Ev} {cl:List (Str×Addr)}
  (hc:JS W ctx' b c ifs) (he:XD W ctx' b m₁ elt) (ok:Ze ctx ctx' scope.names x p=true) (hkind:scope.kind=.function)
  {A:Around} {env:Env} (OA:OkA A b) {ρ:Rho} {σ:H} {vs:Vs} {s₂:Shared} {h₁:Heap} {I:Addr} {fp:List Addr} {xs:List MV} {P:Nat→Value→Prop} {St:Nat→Heap→Prop} {K:MV→H→Prop} {RR:Value→Addr→Result→Shared→Prop} {E:Value→Shared→Prop}
  (F:FR W ctx env vs ρ s₂.heap) (O:Ok W ρ σ s₂) (S:Src W ρ s₂.heap I fp xs P St) (n0:W.h₀.get? I=none) (hz:xs.length≤4096)
  (h12:∀ b o,h₁.get? b=some o→s₂.heap.get? b=some o) (hI:h₁.get? I=none)
  (hcl:∀ y c,cl.lookup y=some c→env.cells.lookup y=some c) (hcl':∀ y,(y,NameKind.free)∈scope.names→cl.lookup y=env.cells.lookup y)
  (m:ZC p c m₁ xs vs σ λys h2=>K (.seq true ys) h2)
  (hRR:∀ D C ρf σf s' ys,K (.seq true ys) σf→VR ρf s'.heap (.ref D) (.seq true ys)→Ok W ρf σf s'→Ext ρ ρf h₁ s'.heap→(∃ m,s'.heap.Ns C m)→¬ own ρf C→h₁.get? C=none→h₁.get? D=none→RR (.ref D) C (.ok .next) s') :
  wpAny (model W.prog W.w) A (newList []) (λacc s₃=>wpAny (model W.prog W.w) A (newFunctionEnv scope env.globals cl [] env.qual none .none (some env)) (λcenv s₄=>
   codeAny (model W.prog W.w) A (.compStart (.ListComp elt [⟨.Name x px,iter,ifs,0⟩] scope pos) 0 (.ref I) acc { cenv with scope:=relabel scope env }) (RR acc cenv.locals) s₄) E s₃) E s₂:=by
 have ok':=ok
 unfold Ze at ok'
 simp only [Bool.and_eq_true,List.all_eq_true,beq_iff_eq] at ok'
 refine Xi λgk=>?_
 refine ok'.elim λqa c3=>?_;obtain ⟨_,c2⟩:=qa
 refine gk ?_;clear gk
 have hcell:∀ y∈scope.names,y.2≠.cell:=λy hy=>by
  have:=(c2 y hy).1.1
  simpa using this
 refine wpAny_newObj_type (wpAny_newFunctionEnv hcell (by intro y hy;simp at hy) (λh₄ hns₄ hsb₄=>?_) hkind)
 dsimp only at hns₄ hsb₄ ⊢
 generalize hH2:s₂.heap.push { cls:=.type "list",dict:=none,data:=.seq ([]:List Value).toArray }=H2 at hns₄ hsb₄ ⊢
 refine Xi λgk=>?_
 obtain ⟨D,hDe⟩:∃ D,D=s₂.heap.objs.size:=⟨_,rfl⟩
 obtain ⟨C,hCe⟩:∃ C,C=H2.objs.size:=⟨_,rfl⟩
 have hC1:H2.objs.size=s₂.heap.objs.size+1:=by rw [← hH2,Heap.size_push]
 rw [← hCe] at hns₄ hsb₄ hC1
 rw [← hDe] at hC1
 have fresh:∀ a,s₂.heap.objs.size≤a→s₂.heap.get? a=none:=λa ha=>by
  exact Z5 (Nat.not_lt.mpr ha)
 have hD:s₂.heap.get? D=none:=fresh _ (by rw [hDe];exact Nat.le_refl _)
 have hC:s₂.heap.get? C=none:=fresh _ (by rw [hC1,hDe];exact Nat.le_succ _)
 have h1D:h₁.get? D=none:=by
  exact Yc (λo' e=>h12 _ _ e) hD
 have hDC:D≠C:=by rw [hC1];exact Nat.ne_of_lt (Nat.lt_succ_self _)
 have up:∀ b o,H2.get? b=some o→b≠C→h₄.get? b=some o:=λb o e n=>hsb₄.extBut b o n (Heap.get?_push_of_some _ e)
 have old:∀ b o,s₂.heap.get? b=some o→h₄.get? b=some o:=λb o e=>up b o (hH2▸Heap.get?_push_of_some _ e) (Mine.neA e hC)
 have hacc:h₄.PlainList D #[]:=⟨_,up _ _ (by rw [← hH2,hDe];exact Heap.get?_push_size _ rfl) hDC⟩
 have hx:scope.names.lookup x=some .local:=c3
 have hab:W.h₀.objs.size≤C:=by
  refine (F.alive env.locals (.inl rfl)).elim λo e=>?_
  have h1:=Heap.lt_size e
  have h2:=F.above
  rw [hC1,hDe]
  exact Nat.le_succ_of_le (Nat.le_of_lt (Nat.lt_of_le_of_lt h2 h1))
 have h1C:h₁.get? C=none:=Yc (λo' e=>h12 _ _ e) hC
 refine gk ?_;clear gk
 have loop:codeAny (model W.prog W.w) A (.compLoop (.ListComp elt [⟨.Name x px,iter,ifs,0⟩] scope pos) 0 (.ref I) (.ref D) (compEnvC scope cl C env)) (RR (.ref D) C) { s₂ with heap:=h₄,toks:=s₂.toks+([]:List (Str×Value)).length }:=by
  refine NC (Sl:=λb=>b=C) (Al:=λh=>∃ m,h.Ns C m) hc he OA F O S n0 hz h12 hI m (λb e=>e▸hC) hDC hD old hacc ⟨_,hns₄⟩ (λh a b e=>a.elim λ__ z=>z.elim λo z=>z.elim λ__ z=>z.elim λ__ z=>⟨o,e▸z.1⟩) (λh a b e=>a.elim λm z=>e▸Ns.noVal z)
   (λh h' a k=>a.elim λm z=>⟨m,z.at' λo e=>k C o rfl e⟩) (λs v Q E a q=>?_) λρf σf s' ys a1 a2 a3 a4 a5 a6=>hRR D C ρf σf s' ys a1 a2 a3 a4 a5 (a6 C rfl) h1C h1D
  have hkx:Env.kindOf (compEnvC scope cl C env) x=some .local:=lookup_relabel_local c3
  refine a.elim λmm a=>wpAny_assign_Name (wpAny_storeName_local hkx a (λh'' hns₆ hsb=>?_) (by simp [compEnvC,relabel,hkind]))
  exact q h'' _ ⟨_,hns₆⟩ (λb o n e=>(hsb.2 b n).trans e) λρ' vs' nS F₆ hv hs=>RB ⟨rfl,rfl,rfl,rfl⟩ F₆ ok hkind hcl hcl' (nS C rfl) hab hns₆ (by rw [if_pos rfl]) hv rfl hs
 have h:=codeAny_compStart_list loop ((S.walks A OA.1).self 0 _ _ _ ((S.walks A OA.1).frame _ _ _ S.start λb __ o e=>old b o e) loop)
 rw [hDe,hCe] at h
 exact h
end
end
section
set_option tactic.hygienic false
variable [iC:Cs]
section
variable {W:Wd} {ctx ctx':List Bd} {b:Nat}
theorem BZ {env:Env} {vs:Vs} {ρ:Rho} {h:Heap} {scope:Scope} {x:Str} {p:Pa} (F:FR W ctx env vs ρ h) (ok:Ze ctx ctx' scope.names x p=true) :
  (∃ cl,closureFor scope env=pure cl∧(∀ y c,cl.lookup y=some c→env.cells.lookup y=some c)∧∀ y,(y,NameKind.free)∈scope.names→cl.lookup y=env.cells.lookup y)∧∀ y∈scope.names,y.2=.local→scope.names.lookup y.1=some .local:=by
 unfold Ze at ok
 simp only [Bool.and_eq_true,List.all_eq_true,beq_iff_eq] at ok
 refine Xi λgk=>?_
 obtain ⟨⟨_,c2⟩,c3⟩:=ok
 refine gk ?_;clear gk
 refine ⟨Tq λy hy=>?_,λy hy e=>?_⟩
 ·have:=(c2 _ hy).2
  simp only [Bool.or_eq_true,bne_self_eq_false,Bool.false_eq_true,false_or,List.any_eq_true] at this
  refine Xi λgk=>?_
  obtain ⟨d,hd,h5⟩:=this
  refine gk ?_;clear gk
  cases d with
  | loc=>cases h5
  | glo=>cases h5
  | cel z' q' o'=>
   have h5:z'=y:=by simpa using h5
   refine Xi λgk=>?_
   clear hy;subst h5
   obtain ⟨_,c,_,hc,_⟩:=F.cel z' q' o' hd
   refine gk ?_;clear gk
   exact ⟨c,hc⟩
 ·have:=(c2 _ hy).1.2
  rw [e] at this
  simpa using this
theorem GQ {env:Env} {vs:Vs} {ρ:Rho} {h:Heap} {scope:Scope} {x:Str} {p:Pa} (F:FR W ctx env vs ρ h) (ok:Ze ctx ctx' scope.names x p=true) {C':Prop} (f':(∃ cl,closureFor scope env=pure cl∧(∀ y c,cl.lookup y=some c→env.cells.lookup y=some c)∧∀ y,(y,NameKind.free)∈scope.names→cl.lookup y=env.cells.lookup y)→(∀ y∈scope.names,y.2=.local→scope.names.lookup y.1=some .local)→C'):C':=by refine (BZ F ok).elim λq0 q1=>?_;exact f' q0 q1
theorem Tx {elt iter:Expr} {ifs:List Expr} {x:Str} {px:Pos} {p:Pa} {scope:Scope} {pos:Pos} {c:Vs→H→(Bool→H→Prop)→Prop} {mi m₁:Ev}
  (hi:XD W ctx b mi iter) (hc:JS W ctx' b c ifs) (he:XD W ctx' b m₁ elt) (ok:Ze ctx ctx' scope.names x p=true) (hkind:scope.kind=.function)
  (hs:∀ env x,foldedSetIterable iter env x=pure x:=by intro _ _;rfl) :
  XD W ctx b (λvs h k=>mi vs h λx h1=>XL h1 x λxs=>ifB (Yr xs) (ZC p c m₁ xs vs h1 λys h2=>k (.seq true ys) h2) False) (.ListComp elt [⟨.Name x px,iter,ifs,0⟩] scope pos):=λA env ρ σ vs s K Q E OA F O m q=>by
 refine Xi λgk=>?_
 refine GQ F ok λqa hnames=>?_;refine qa.elim λcl zz=>zz.elim λhclos zz=>zz.elim λhcl hcl'=>?_
 refine gk ?_;clear gk
 rw [eval_ListComp]
 refine wpAny_comprehension_free (use:=none) rfl (hs env) hclos hkind hnames (hi A env ρ σ vs s _ _ _ OA F O m λu mu ρ₁ σ₁ s₁ k₁ v₁ O₁ X₁=>?_)
 refine JV v₁ O₁ k₁ λxs I fp P St o k₂ e₂ O₂ eI S=>?_
 refine Xi λgk=>?_;rcases Xo k₂ with ⟨hz,k₂⟩ | ⟨_,k₂⟩ <;> (refine gk ?_;clear gk)
 ·have n0:W.h₀.get? I=none:=by
   exact Yc (λo e=>O₁.base I o e) e₂
  refine GV (h₁:=s₁.heap) hc he ok hkind OA ((F.ext X₁).ext (Ext.push ρ₁ s₁.heap o)) O₂ S n0 (Ye hz) (λ__ __ e=>Heap.get?_push_of_some o e) e₂ hcl hcl' k₂ λD C ρf σf s' ys kf vf Of Xf ⟨mf,hnf⟩ nCf h1C __=>?_
  refine ⟨mf,hnf,λh' hsb=>?_⟩
  have kC:∀ b o,b≠C→s'.heap.get? b=some o→h'.get? b=some o:=λb o n e=>(hsb.2 b n).trans e
  have h0C:W.h₀.get? C=none:=by
   exact Yc (λo e=>O₁.base C o e) h1C
  have XC:ExtP (λb=>b=C) ρf ρf s'.heap h':=⟨λ__ __=>rfl,λ__ x=>.inl x,λb o e __ hp=>kC b o hp e,λb __ o e hp=>kC b o hp e⟩
  refine q _ _ ρf σf _ kf (vf.extP (λb e=>e▸Ns.noVal hnf) XC) (Of.keepAt (t:=s'.toks) (Ns.noVal hnf) nCf h0C kC) (X₁.trans ?_)
  exact ⟨Xf.same,Xf.fresh,λb o e n=>kC b o (Mine.neA e h1C) (Xf.keep b o e n),λb hb o e=>kC b o (Mine.neA e h1C) (Xf.prv b hb o e)⟩
 ·exact k₂.elim
theorem Yd {elt iter:Expr} {x:Str} {px:Pos} {p:Pa} {scope:Scope} {pos:Pos} {mi m₁:Ev}
  (hi:XD W ctx b mi iter) (he:XD W ctx' b m₁ elt) (ok:Ze ctx ctx' scope.names x p=true) (hkind:scope.kind=.function:=by rfl)
  (hs:∀ env x,foldedSetIterable iter env x=pure x:=by intro _ _;rfl):XD W ctx b (Yo p mi m₁) (.ListComp elt [⟨.Name x px,iter,[],0⟩] scope pos):=
 Tx hi ZX he ok hkind hs
theorem VX {elt iter t:Expr} {x:Str} {px:Pos} {p:Pa} {scope:Scope} {pos:Pos} {mi m₁ mc:Ev}
  (hi:XD W ctx b mi iter) (hc:JO W ctx' b mc t) (he:XD W ctx' b m₁ elt) (ok:Ze ctx ctx' scope.names x p=true) (hkind:scope.kind=.function:=by rfl)
  (hs:∀ env x,foldedSetIterable iter env x=pure x:=by intro _ _;rfl):XD W ctx b (Vb p mi mc m₁) (.ListComp elt [⟨.Name x px,iter,[t],0⟩] scope pos):=
 Tx hi (U2 hc) he ok hkind hs
theorem Gx {elt iter:Expr} {ifs:List Expr} {x y:Str} {px py:Pos} {p r:Pa} {scope:Scope} {pos spos:Pos} {c:Vs→H→(Bool→H→Prop)→Prop} {mi m₁:Ev}
  (hm:Bd.loc y r∈ctx) (hcx:Y8 ctx y r=true)
  (hi:XD W ctx b mi iter) (hc:JS W ctx' b c ifs) (he:XD W ctx' b m₁ elt) (ok:Ze ctx ctx' scope.names x p=true) (hkind:scope.kind=.function)
  (hln:py.line=pos.line) (hny:(scope.names.any λ(n,k)=>n==y&&(k==.local||k==.cell))=false)
  (hs:∀ env x,foldedSetIterable iter env x=pure x:=by intro _ _;rfl) :
  Z9 W ctx b (XO (tV r) λvs h k=>mi vs h λx h1=>XL h1 x λxs=>ifB (Yr xs) (ZC p c m₁ xs vs h1 λys h2=>k (.seq true ys) h2) False) (.Assign [.Name y py] (.ListComp elt [⟨.Name x px,iter,ifs,0⟩] scope pos) spos):=λA env ρ σ vs s n bk ct rr Q E OA nb F O m q=>by
 refine Xi λgk=>?_
 refine GQ F ok λqa hnames=>?_;refine qa.elim λcl zz=>zz.elim λhclos zz=>zz.elim λhcl hcl'=>?_
 have hky:env.kindOf y=some .local:=by refine F.locE λ__ __ h=>?_;exact (h y r hm).1
 refine gk ?_;clear gk
 have hsw:swapsWith (.ListComp elt [⟨.Name x px,iter,ifs,0⟩] scope pos) (some (.Name y py)) spos.line env=pure true:=by
  have hbk:env.blockKind=.function:=by unfold Env.blockKind;rw [F.kind];rfl
  unfold swapsWith
  simp only [hbk,hky,KL,Cv,hln,hny,beq_self_eq_true,Bool.not_false,Bool.and_self]
 rw [exec_Assign_Name_used _ _ _ _ hsw]
 refine wpAny_bind (wpAny_standAt (wpAny_bind ?_))
 show wpAny _ A (do let _ ← comprehension (.ListComp elt [⟨.Name x px,iter,ifs,0⟩] scope pos) scope env _ (newList []) false (eval iter env) (some (assign (.Name y py) env))) _ _ s
 refine wpAny_bind (wpAny_mono (wpAny_comprehension_free (use:=some (assign (.Name y py) env)) (Q:=λ__ s'=>Q .next s') rfl (hs env) hclos hkind hnames
  (hi A env ρ σ vs s (λx h1=>XL h1 x λxs=>ifB (Yr xs) (ZC p c m₁ xs vs h1 λys h2=>Y7 (.seq true ys) vs r λvs'=>n vs' h2) False) _ _ OA F O m λu mu ρ₁ σ₁ s₁ k₁ v₁ O₁ X₁=>?_)) (λ__ s' hq=>wpAny_pure (wpAny_pure hq)) λ__ __ e=>e)
 refine JV v₁ O₁ k₁ λxs I fp P St o k₂ e₂ O₂ eI S=>?_
 refine Xi λgk=>?_;rcases Xo k₂ with ⟨hz,k₂⟩ | ⟨_,k₂⟩ <;> (refine gk ?_;clear gk)
 ·have n0:W.h₀.get? I=none:=by
   exact Yc (λo e=>O₁.base I o e) e₂
  refine GV (h₁:=s₁.heap) (K:=λv h2=>Y7 v vs r λvs'=>n vs' h2) hc he ok hkind OA ((F.ext X₁).ext (Ext.push ρ₁ s₁.heap o)) O₂ S n0 (Ye hz) (λ__ __ e=>Heap.get?_push_of_some o e) e₂ hcl hcl' k₂ λD C ρf σf s' ys kf vf Of Xf ⟨mf,hnf⟩ nCf h1C __=>?_
  have Ff:=(F.ext X₁).ext Xf
  show wpAny _ A (assign (.Name y py) env (.ref D)) _ _ _
  refine wpAny_assign_Name (YH Ff nb Of vf (.inl hm) hcx kf λs₃ vs₃ O₃ X₃ F₃ k₃=>?_)
  have npC:¬ plc env C:=λz=>by refine ((F.ext X₁).alive C z).elim λo e=>?_;rw [h1C] at e;cases e
  have hn₃:s₃.heap.Ns C mf:=hnf.at' λo e=>X₃.keep C o e nCf npC
  refine ⟨mf,hn₃,λh' hsb=>?_⟩
  have kC:∀ b o,b≠C→s₃.heap.get? b=some o→h'.get? b=some o:=λb o n e=>(hsb.2 b n).trans e
  have h0C:W.h₀.get? C=none:=by
   exact Yc (λo e=>O₁.base C o e) h1C
  have X₁₃:ExtS env ρ₁ ρf s₁.heap s₃.heap:=Xf.toS.trans X₃ Ff.alive
  have X₁':ExtS env ρ₁ ρf s₁.heap h':=⟨X₁₃.same,X₁₃.fresh,λb o e n hp=>kC b o (Mine.neA e h1C) (X₁₃.keep b o e n hp),λb hb o e hp=>kC b o (Mine.neA e h1C) (X₁₃.prv b hb o e hp)⟩
  exact (q ρf σf { s₃ with heap:=h' } (O₃.keepAt (t:=s₃.toks) (Ns.noVal hn₃) nCf h0C kC) (X₁.toS.trans X₁' (F.ext X₁).alive) vs₃ (F₃.keepAt (Ns.noVal hn₃) npC kC)).1 k₃
 ·exact k₂.elim
theorem ZJ {elt iter:Expr} {x y:Str} {px py:Pos} {p r:Pa} {scope:Scope} {pos spos:Pos} {mi m₁:Ev}
  (hm:Bd.loc y r∈ctx) (hcx:Y8 ctx y r=true)
  (hi:XD W ctx b mi iter) (he:XD W ctx' b m₁ elt) (ok:Ze ctx ctx' scope.names x p=true) (hkind:scope.kind=.function:=by rfl)
  (hln:py.line=pos.line:=by rfl) (hny:(scope.names.any λ(n,k)=>n==y&&(k==.local||k==.cell))=false:=by decide)
  (hs:∀ env x,foldedSetIterable iter env x=pure x:=by intro _ _;rfl) :
  Z9 W ctx b (XO (tV r) (Yo p mi m₁)) (.Assign [.Name y py] (.ListComp elt [⟨.Name x px,iter,[],0⟩] scope pos) spos):=
 Gx hm hcx hi ZX he ok hkind hln hny hs
theorem UC {elt iter t:Expr} {x y:Str} {px py:Pos} {p r:Pa} {scope:Scope} {pos spos:Pos} {mi m₁ mc:Ev}
  (hm:Bd.loc y r∈ctx) (hcx:Y8 ctx y r=true)
  (hi:XD W ctx b mi iter) (hc:JO W ctx' b mc t) (he:XD W ctx' b m₁ elt) (ok:Ze ctx ctx' scope.names x p=true) (hkind:scope.kind=.function:=by rfl)
  (hln:py.line=pos.line:=by rfl) (hny:(scope.names.any λ(n,k)=>n==y&&(k==.local||k==.cell))=false:=by decide)
  (hs:∀ env x,foldedSetIterable iter env x=pure x:=by intro _ _;rfl) :
  Z9 W ctx b (XO (tV r) (Vb p mi mc m₁)) (.Assign [.Name y py] (.ListComp elt [⟨.Name x px,iter,[t],0⟩] scope pos) spos):=
 Gx hm hcx hi (U2 hc) he ok hkind hln hny hs
end
end
section
set_option tactic.hygienic false
variable [iC:Cs]
section
variable {W:Wd} {ctx ctx':List Bd} {b:Nat}
-- truth and values
theorem D9 {m₁:Ev} {e:Expr} (h:XD W ctx b m₁ e) (he:∀ env whole,isTrue e env whole=(do let v ← whole;standAt e.pos;holding [v] (truthy v)):=by intro _ _;rfl):JO W ctx b m₁ e:=λA env ρ σ vs s K Q E OA F O m q=>by
 refine isTrue_plain (h A env ρ σ vs s _ _ _ OA F O m λv mv ρ₁ σ₁ s₁ k₁ v₁ O₁ X₁=>?_) (he env _)
 refine Xi λgk=>?_
 refine Z6 k₁ λc qa k=>?_;clear k₁;subst qa
 refine gk ?_;clear gk
 cases v₁
 exact wpAny_truthy_bool (q c ρ₁ σ₁ s₁ k O₁ X₁)
theorem Us {m₁ m₂:Ev} {l r:Expr} {pos} (h1:JO W ctx b m₁ l) (h2:JO W ctx b m₂ r):JO W ctx b (eOr m₁ m₂) (.BoolOp .Or [l,r] pos):=
 λA env ρ σ vs s K Q E OA F O m q=>by
 refine wpAny_isTrue_BoolOp (wpAny_allTrue_Or_cons (h1 A env ρ σ vs s (λc h=>ifB c (K true h) (m₂ vs h λx h=>YS x λc=>K c h)) _ _ OA F O m λc ρ₁ σ₁ s₁ k₁ O₁ X₁=>?_))
 rcases Xo k₁ with ⟨rfl,k₁⟩ | ⟨rfl,k₁⟩
 ·exact q _ _ _ _ k₁ O₁ X₁
 ·refine wpAny_allTrue_Or_cons (h2 A env ρ₁ σ₁ vs s₁ K _ _ OA (F.ext X₁) O₁ k₁ λc ρ₂ σ₂ s₂ k₂ O₂ X₂=>?_)
  cases c
  ·exact wpAny_allTrue_Or_nil (q _ _ _ _ k₂ O₂ (X₁.trans X₂))
  ·exact q _ _ _ _ k₂ O₂ (X₁.trans X₂)
theorem FJ {m₁ m₂:Ev} {l r:Expr} {pos} (h1:XD W ctx b m₁ l) (h2:XD W ctx b m₂ r):XD W ctx b (Rm m₁ m₂) (.BoolOp .And [l,r] pos):=
 λA env ρ σ vs s K Q E OA F O m q=>by
 refine wpAny_And2 (h1 A env ρ σ vs s (λx h1=>YS x λc=>ifB c (m₂ vs h1 K) (K (.bool false) h1)) _ _ OA F O m λv mv ρ₁ σ₁ s₁ k₁ v₁ O₁ X₁=>?_)
 refine Xi λgk=>?_
 refine Z6 k₁ λc qa k=>?_;clear k₁;subst qa
 refine gk ?_;clear gk
 cases v₁
 refine wpAny_truthy_bool ?_
 rcases Xo k with ⟨rfl,k⟩ | ⟨rfl,k⟩
 ·exact h2 A env ρ₁ σ₁ vs s₁ K _ _ OA (F.ext X₁) O₁ k λv mv ρ₂ σ₂ s₂ k₂ v₂ O₂ X₂=>q _ _ _ _ _ k₂ v₂ O₂ (X₁.trans X₂)
 ·exact q _ _ _ _ _ k (.bool false) O₁ X₁
theorem Gf:JQ W GK (compareOp .IsNot):=by
 intro A ρ σ s x y u v K Q E OA hu hv O m q
 cases hv with
 | none=>
  cases hu with
  | none=>exact isNot_none (q false s m O (Ext.refl _ _))
  | _=>exact isNot_none (q true s m O (Ext.refl _ _))
 | _=>exact (show False from m).elim
theorem Lz:JQ W Bb (compareOp .Is):=by
 intro A ρ σ s x y u v K Q E OA hu hv O m q
 cases hv with
 | none=>
  cases hu with
  | none=>exact is_none (q true s m O (Ext.refl _ _))
  | _=>exact is_none (q false s m O (Ext.refl _ _))
 | _=>exact (show False from m).elim
theorem J4:JQ W Un (compareOp .IsNot):=by
 intro A ρ σ s x y u v K Q E OA hu hv O m q
 refine Xi λgk=>?_
 refine Z6 m λc qa m'=>?_;clear m;subst qa
 refine Z6 m' λd qa m''=>?_;clear m';subst qa
 refine gk ?_;clear gk
 cases hu;cases hv
 have e:compareOp .IsNot (.bool c) (.bool d)=(do return .bool (!(← isSame (.bool c) (.bool d)))):=rfl
 rw [e]
 refine wpAny_bind ?_
 have e2:isSame (.bool c) (.bool d)=pure (c==d):=by cases c <;> cases d <;> rfl
 rw [e2]
 refine wpAny_pure (wpAny_pure ?_)
 have e3:(c != d) = !(c==d):=rfl
 exact q (!(c==d)) s (e3▸m'') O (Ext.refl _ _)
theorem K2 {ρ:Rho} {σ:H} {s:Shared} (O:Ok W ρ σ s) (hsys:∃ o,W.h₀.get? sysModules=some o) {d:Addr} (h:own ρ d):(d==sysModules)=false:=by
 refine hsys.elim λo e=>?_
 cases q:d==sysModules with
 | false=>rfl
 | true=>
  have:d=sysModules:=by simpa using q
  have:=O.hr.base d h
  subst_vars;rw [e] at this;cases this
theorem RO (hsys:∃ o,W.h₀.get? sysModules=some o):JQ W Hd (compareOp .NotIn):=by
 intro A ρ σ s x y u v K Q E OA hu hv O m q
 refine Xi λgk=>?_
 refine YF m λk qa m1=>?_;clear m;subst qa
 refine XT m1 λi qa m2=>?_;clear m1;subst qa
 refine XU m2 λn l o qa hl m3=>?_;clear m2;subst qa
 refine GJ m3 λes qa m4=>?_;clear m3;subst qa
 refine gk ?_;clear gk
 refine hu.strIE λt qa=>?_;clear hu;subst qa;obtain ⟨a,F,qb,e⟩:=hv.refI;clear hv;subst qb
 refine Xi λgk=>?_
 obtain ⟨a',kvs,e',hd,hr⟩:=OR.dict_iff.mp (O.hr.obj n l rfl i _ hl)
 refine gk ?_;clear gk
 rw [e] at e';cases e'
 refine wpAny_notIn_of (Z7 k t) (K2 O hsys ⟨i+1,by rw [e];exact .head _⟩) hd.mapOf ?_
 refine Xi λgk=>?_;rcases U9 hr m4 with ⟨h,k⟩ | ⟨v,z,h,_,k⟩ <;> (refine gk ?_;clear gk)
 ·rw [h];exact q true _ k (O.tok _) (Ext.refl _ _)
 ·rw [h];exact q false _ k (O.tok _) (Ext.refl _ _)
-- tuples as targets
theorem YW {t:Tg} {m₁:Ev} {elts:List Expr} {e:Expr} {k tpos pos} (ht:MJ W ctx b t (.Tuple elts k tpos)) (h:XD W ctx b m₁ e)
  (hs:∀ env,swapsWithSole [.Tuple elts k tpos] e pos.line env=pure false:=by intro _;rfl)
  (hw:∀ env:Env,env.scope.kind=.function→swappedStores [.Tuple elts k tpos] e env=pure none):Z9 W ctx b (XO t m₁) (.Assign [.Tuple elts k tpos] e pos):=λA env ρ σ vs s n bk ct r Q E OA nb F O m q=>by
 refine PyProof.Rows.Assign_Tuple (h A env ρ σ vs s (λx h1=>t x vs h1 n) _ _ OA F O m λv mv ρ₁ σ₁ s₁ k₁ v₁ O₁ X₁=>?_) (hs env) (hw env F.kind)
 exact ht A env ρ₁ σ₁ vs s₁ v mv n _ _ OA nb (F.ext X₁) O₁ v₁ k₁ λρ₂ σ₂ s₂ vs₂ O₂ X₂ F₂ k₂=>(q ρ₂ σ₂ s₂ O₂ (X₁.toS.trans X₂ (F.ext X₁).alive) vs₂ F₂).1 k₂
theorem Y6 {m₁:Ev} {x y:Str} {p q':Pa} {px py:Pos} {vs':List Expr} {k k' tpos tpos' pos} (hx:Bd.loc x p∈ctx) (hy:Bd.loc y q'∈ctx) (cx:Y8 ctx x p=true) (cy:Y8 ctx y q'=true)
  (h:XD W ctx b m₁ (.Tuple vs' k' tpos'))
  (hw:∀ env:Env,env.scope.kind=.function→env.kindOf x=some .local→env.kindOf y=some .local→swappedStores [.Tuple [.Name x px,.Name y py] k tpos] (.Tuple vs' k' tpos') env=pure (some [x,y])) :
  Z9 W ctx b (XO (JX 2 [tV q',tV p]) m₁) (.Assign [.Tuple [.Name x px,.Name y py] k tpos] (.Tuple vs' k' tpos') pos):=λA env ρ σ vs s n bk ct r Q E OA nb F O m q=>by
 refine Xi λgk=>?_
 refine F.locE λ__ __ hl=>?_
 refine gk ?_;clear gk
 refine PyProof.Rows.Assign_Tuple_swapped (names:=[x,y]) (h A env ρ σ vs s (λv h1=>JX 2 [tV q',tV p] v vs h1 n) _ _ OA F O m λv mv ρ₁ σ₁ s₁ k₁ v₁ O₁ X₁=>?_) rfl (hw env F.kind (hl x p hx).1 (hl y q' hy).1)
 refine Xi λgk=>?_
 refine YQ k₁ λxs qa m'=>?_;clear k₁;subst qa
 refine v₁.seqIE λa us qa no hs hr=>?_;clear v₁;subst qa
 refine gk ?_;clear gk
 refine Xi λgk=>?_;rcases Xo m' with ⟨e,m'⟩ | ⟨_,m'⟩ <;> (refine gk ?_;clear gk)
 ·have e:=Nat.eq_of_beq_eq_true e
  rw [Yh,← hr.length] at e
  rw [Yw] at m'
  have hz:us.toArray.size=2:=by rw [List.size_toArray];exact e
  have:=wpAny_unpackItems_tuple (prog:=W.prog) (w:=W.w) (E:=E) (s:=s₁) (A:=A) (Q:=λXL s₂=>wpAny (model W.prog W.w) A (assignInOrder ([x,y].reverse.map λn=>bindName env n) XL.reverse) (λ__=>Q .next) E s₂) OA.1 hs.tuple (λh' he=>by
   have k':∀ b o,s₁.heap.get? b=some o→h'.get? b=some o:=λb o e=>he b o (Nat.ne_of_lt (Heap.lt_size e)) e
   have X₂:Ext ρ₁ ρ₁ s₁.heap h':=.of_all k'
   have F₂:=(F.ext X₁).ext X₂
   have O₂:Ok W ρ₁ σ₁ { s₁ with heap:=h' }:=O₁.keep (t:=s₁.toks) k'
   have hr₂:=hr.ext X₂
   cases hr₂ with
   | nil=>cases e
   | @cons u1 x1 us1 xs1 r1 rr=>
   cases rr with
   | nil=>cases e
   | @cons u2 x2 us2 xs2 r2 rr=>
   cases rr with
   | cons=>cases e
   | nil=>
   show wpAny _ _ (holding [u1] (bindName env y u2) >>= λ__=>assignInOrder [bindName env x] [u1]) _ _ _
   have m1:Y7 x2 vs q' λvs1=>Y7 x1 vs1 p λvs2=>n vs2 σ₁:=m'
   refine wpAny_bind (wpAny_holding (wpAny_bindName (YH (k:=λvs1 h=>Y7 x1 vs1 p λvs2=>n vs2 h) F₂ nb O₂ r2 (.inl hy) cy m1 λs₃ vs₃ O₃ X₃ F₃ k₃=>?_)))
   show wpAny _ _ (holding [] (bindName env x u1) >>= λ__=>assignInOrder [] []) _ _ _
   refine wpAny_bind (wpAny_holding (wpAny_bindName (YH F₃ nb O₃ (r1.extS F₂ X₃) (.inl hx) cx k₃ λs₄ vs₄ O₄ X₄ F₄ k₄=>?_)))
   refine wpAny_pure ?_
   exact (q ρ₁ σ₁ s₄ O₄ ((X₁.trans X₂).toS.trans (X₃.trans X₄ F₃.alive) F₂.alive) vs₄ F₄).1 k₄)
  rw [hz] at this
  exact this
 ·exact m'.elim
-- dict displays
theorem Lq {pos}:XD W ctx b C5 (.Dict [] [] pos):=λA env ρ σ vs s K Q E OA F O m q=>by
 cases σ with | mk n l=>
 refine wpAny_Dict_empty ?_
 have m':K (.ref n) (.mk (n+1) (l++[(n,.dict [])])):=by
  have:Zo (l++[(n,MO.dict [])]) λl'=>K (.ref n) (.mk (Nat.succ n) l'):=m
  rw [Yw] at this;exact this
 obtain ⟨O',X'⟩:=O.newObj (t:=s.toks) (h':=s.heap.push { cls:=.type "dict",data:=.dict #[] }) (o:=.dict []) (F:=[s.heap.objs.size]) (by simp) (by intro a ha;rw [List.mem_singleton] at ha;subst ha;exact XZ _) (λ__ __ e=>Heap.get?_push_of_some _ e)
  (OR.dict_iff.mpr ⟨_,[],rfl,Heap.DictOf.new _,.nil⟩)
 exact q _ _ _ _ _ m' (.ref (by rw [X5])) O' X'
-- calls of what Python gives
noncomputable def JT (W:Wd) (f:MV→H→K→Prop) (g:Value):Prop:=
 ∀ (A:Around) (ρ:Rho) (σ:H) (s:Shared) (x:MV) (u:Value) (K:MV→H→Prop) (Q E:Value→Shared→Prop),OkA A 1→VR ρ s.heap u x→Ok W ρ σ s→f x σ K→Nc W ρ s K Q→wpAny (model W.prog W.w) A (call g [u]) Q E s
noncomputable def Hy (W:Wd) (f:MV→MV→H→K→Prop) (g:Value):Prop:=
 ∀ (A:Around) (ρ:Rho) (σ:H) (s:Shared) (x y:MV) (u v:Value) (K:MV→H→Prop) (Q E:Value→Shared→Prop),OkA A 1→VR ρ s.heap u x→VR ρ s.heap v y→Ok W ρ σ s→f x y σ K→Nc W ρ s K Q→wpAny (model W.prog W.w) A (call g [u,v]) Q E s
noncomputable def Lv (g:Value):Prop:=(∃ T,g=.type T)∨∃ id,g=.builtin id
theorem Yx {A:Around} {E:Value→Shared→Prop} {s:Shared} {env:Env} {pos:Pos} {g:Value} {e:Expr} {rest:List Expr} {Q:Value→Shared→Prop} (hg:Lv g)
  (h:wpAny (model W.prog W.w) A (spliced (backTo pos (starEach (e :: rest) env))) (λvs s₁=>wpAny (model W.prog W.w) A (call g vs) Q E s₁) E s)
  (he:starEach (e :: rest) env=(false,eval e env) :: starEach rest env)
  (hplain:(backTo pos (starEach rest env)).any (·.1)=false) :
  wpAny (model W.prog W.w) A (callWith pos g [] (backTo pos (starEach (e :: rest) env)) []) Q E s:=by
 rcases hg with ⟨T,rfl⟩ | ⟨id,rfl⟩
 ·exact PyProof.Rows.callWith_type1 h he hplain
 ·exact PyProof.Rows.callWith_builtin1 h he hplain
theorem YA {f:MV→H→K→Prop} {g:Value} {y:Str} {m₁:Ev} {e:Expr} {pos' pos} (G:Glb W) (hm:Bd.glo y∈ctx) (hy:W.mg y=none) (hn:y≠("__name__":Str)) (hv:bootBuiltins y=some g) (hg:Lv g)
  (hf:JT W f g) (h:XD W ctx (b+1) m₁ e) (hdb:(y==("__debug__":Str))=false:=by decide)
  (he:∀ env,starEach [e] env=[(false,eval e env)]:=by intro _;rfl)
  (hc:∀ env,eval (.Call (.Name y pos') [e] [] pos) env=(do callWith pos (← eval (.Name y pos') env) [] (backTo pos (starEach [e] env)) (backToKw pos (keywordEach [] env))):=by intro _;rfl) :
  XD W ctx (b+1) (e1 f m₁) (.Call (.Name y pos') [e] [] pos):=λA env ρ σ vs s K Q E OA F O m q=>by
 refine Call_ (YP G F O hm hy hn hv hdb ?_) (hc env)
 refine Yx hg (args_cons (h A env ρ σ vs s (λx h1=>f x h1 K) _ _ OA F O m λu x ρ₁ σ₁ s₁ k₁ v₁ O₁ X₁=>args_nil ?_) (he env)) (he env) rfl
 exact hf A ρ₁ σ₁ s₁ x u K Q E (OA.mono (by omega)) v₁ O₁ k₁ λv mv ρ₂ σ₂ s₂ k₂ v₂ O₂ X₂=>q _ _ _ _ _ k₂ v₂ O₂ (X₁.trans X₂)
theorem Mm {f:MV→MV→H→K→Prop} {g:Value} {y:Str} {m₁ m₂:Ev} {e e':Expr} {pos' pos} (G:Glb W) (hm:Bd.glo y∈ctx) (hy:W.mg y=none) (hn:y≠("__name__":Str)) (hv:bootBuiltins y=some g) (hg:Lv g)
  (hf:Hy W f g) (h:XD W ctx (b+1) m₁ e) (h':XD W ctx (b+1) m₂ e') (hdb:(y==("__debug__":Str))=false:=by decide)
  (he:∀ env,starEach [e,e'] env=[(false,eval e env),(false,eval e' env)]:=by intro _;rfl) (he':∀ env,starEach [e'] env=[(false,eval e' env)]:=by intro _;rfl)
  (hc:∀ env,eval (.Call (.Name y pos') [e,e'] [] pos) env=(do callWith pos (← eval (.Name y pos') env) [] (backTo pos (starEach [e,e'] env)) (backToKw pos (keywordEach [] env))):=by intro _;rfl) :
  XD W ctx (b+1) (e2 f m₁ m₂) (.Call (.Name y pos') [e,e'] [] pos):=λA env ρ σ vs s K Q E OA F O m q=>by
 refine Call_ (YP G F O hm hy hn hv hdb ?_) (hc env)
 refine Yx hg (args_cons (h A env ρ σ vs s (λx h1=>m₂ vs h1 λy h2=>f x y h2 K) _ _ OA F O m λu x ρ₁ σ₁ s₁ k₁ v₁ O₁ X₁=>?_) (by rw [he,he'])) (by rw [he,he']) (by rw [he'];rfl)
 refine args_cons (h' A env ρ₁ σ₁ vs s₁ _ _ _ OA (F.ext X₁) O₁ k₁ λv y ρ₂ σ₂ s₂ k₂ v₂ O₂ X₂=>args_nil ?_) (he' env)
 exact hf A ρ₂ σ₂ s₂ x y u v K Q E (OA.mono (by omega)) (v₁.ext X₂) v₂ O₂ k₂ λv mv ρ₃ σ₃ s₃ k₃ v₃ O₃ X₃=>q _ _ _ _ _ k₃ v₃ O₃ ((X₁.trans X₂).trans X₃)
theorem J3 {y:Str} {m₁ m₂ m₃:Ev} {e e' e'':Expr} {pos' pos} (G:Glb W) (hm:Bd.glo y∈ctx) (hy:W.mg y=none) (hn:y=("range":Str))
  (h:XD W ctx (b+1) m₁ e) (h':XD W ctx (b+1) m₂ e') (h'':XD W ctx (b+1) m₃ e'')
  (he:∀ env,starEach [e,e',e''] env=[(false,eval e env),(false,eval e' env),(false,eval e'' env)]:=by intro _;rfl) (he':∀ env,starEach [e',e''] env=[(false,eval e' env),(false,eval e'' env)]:=by intro _;rfl) (he'':∀ env,starEach [e''] env=[(false,eval e'' env)]:=by intro _;rfl)
  (hc:∀ env,eval (.Call (.Name y pos') [e,e',e''] [] pos) env=(do callWith pos (← eval (.Name y pos') env) [] (backTo pos (starEach [e,e',e''] env)) (backToKw pos (keywordEach [] env))):=by intro _;rfl) :
  XD W ctx (b+1) (λvs h k=>m₁ vs h λx h1=>m₂ vs h1 λy h2=>m₃ vs h2 λz h3=>XM x λi=>XM y λj=>XM z λl=>ifB (eqI l (-1)) (k (.rng i j (-1)) h3) False) (.Call (.Name y pos') [e,e',e''] [] pos):=λA env ρ σ vs s K Q E OA F O m q=>by
 subst hn
 refine Call_ (YP G F O hm hy (by decide) boot_range (by decide) ?_) (hc env)
 refine Yx (.inl ⟨_,rfl⟩) (args_cons (h A env ρ σ vs s _ _ _ OA F O m λu x ρ₁ σ₁ s₁ k₁ v₁ O₁ X₁=>?_) (by rw [he,he'])) (by rw [he,he']) (by rw [he'];rfl)
 refine args_cons (h' A env ρ₁ σ₁ vs s₁ _ _ _ OA (F.ext X₁) O₁ k₁ λv y ρ₂ σ₂ s₂ k₂ v₂ O₂ X₂=>?_) (by rw [he',he''])
 refine args_cons (h'' A env ρ₂ σ₂ vs s₂ _ _ _ OA ((F.ext X₁).ext X₂) O₂ k₂ λw z ρ₃ σ₃ s₃ k₃ v₃ O₃ X₃=>args_nil ?_) (he'' env)
 refine Xi λgk=>?_
 refine Xs k₃ λi qa k4=>?_;clear k₃;clear k₁;subst qa
 refine Xs k4 λj qa k5=>?_;clear k4;clear k₂;subst qa
 refine Xs k5 λl qa k6=>?_;clear k5;subst qa
 refine gk ?_;clear gk
 refine Xi λgk=>?_;rcases Xo k6 with ⟨hl,k7⟩ | ⟨_,k7⟩ <;> (refine gk ?_;clear gk)
 ·rw [G1,beq_iff_eq] at hl
  clear k6;subst hl
  cases v₁;cases v₂;cases v₃
  refine call_range_3 (by decide) ?_ (Or.inl (PyProof.noPylong_small (by decide)))
  exact q _ _ ρ₃ σ₃ _ k7 (.rng (O₃.hr.fresh (XZ _)) (Heap.get?_push_size _ rfl)) (O₃.push _) (((X₁.trans X₂).trans X₃).trans (Ext.push _ _ _))
 ·exact k7.elim
theorem Yv:JT W Zl (.type "range"):=λA ρ σ s x u K Q E OA hu O m q=>by
 refine Xi λgk=>?_
 refine Xs m λi qa m'=>?_;clear m;subst qa
 refine gk ?_;clear gk
 cases hu
 refine call_range_1 ?_
 exact q _ _ ρ σ _ m' (.rng (O.hr.fresh (XZ _)) (Heap.get?_push_size _ rfl)) ((O.push _).tok _) (Ext.push _ _ _)
theorem Kf:Hy W Pu (.builtin "min"):=λA ρ σ s x y u v K Q E OA hu hv O m q=>by
 refine Xi λgk=>?_
 refine Xs m λi qa m'=>?_;clear m;subst qa
 refine Xs (show XM y _ from m') λj qa m1=>?_;clear m';subst qa
 refine gk ?_;clear gk
 cases hu;cases hv
 refine min_two_ints OA.1 λh' tk hk=>?_
 have m'':ifB (ltI j i) (K (.int j) σ) (K (.int i) σ):=m1
 rw [Gb] at m''
 refine Xi λgk=>?_;rcases Xo m'' with ⟨c,m''⟩ | ⟨c,m''⟩ <;> (refine gk ?_;clear gk)
 ·rw [if_pos (by simpa using c)];exact q _ _ ρ σ _ m'' (.int _ _) (O.keep hk) (.of_all hk)
 ·rw [if_neg (by simpa using c)];exact q _ _ ρ σ _ m'' (.int _ _) (O.keep hk) (.of_all hk)
theorem HA:Hy W Ai (.builtin "max"):=λA ρ σ s x y u v K Q E OA hu hv O m q=>by
 refine Xi λgk=>?_
 refine Xs m λi qa m'=>?_;clear m;subst qa
 refine Xs (show XM y _ from m') λj qa m1=>?_;clear m';subst qa
 refine gk ?_;clear gk
 cases hu;cases hv
 refine max_two_ints OA.1 λh' tk hk=>?_
 have m'':ifB (ltI i j) (K (.int j) σ) (K (.int i) σ):=m1
 rw [Gb] at m''
 refine Xi λgk=>?_;rcases Xo m'' with ⟨c,m''⟩ | ⟨c,m''⟩ <;> (refine gk ?_;clear gk)
 ·rw [if_pos (by simpa using c)];exact q _ _ ρ σ _ m'' (.int _ _) (O.keep hk) (.of_all hk)
 ·rw [if_neg (by simpa using c)];exact q _ _ ρ σ _ m'' (.int _ _) (O.keep hk) (.of_all hk)
end
end
section
set_option tactic.hygienic false
variable [iC:Cs]
section
variable {W:Wd} {ctx ctx':List Bd} {b:Nat}
noncomputable def Ig (W:Wd) (ok:MV→Bool) (f:MV→MV→H→K→Prop) (name:Str):Prop:=
 ∀ (x:MV),ok x=true→∃ T id,PlainAttrs T∧Slot T name id∧typeOf (.builtin id)=pure (.type "method_descriptor")∧
  (∀ ρ (s:Shared) u,VR ρ s.heap u x→s.TypeIs u T∧∀ a,u=.ref a→∃ ob,s.heap.get? a=some ob∧ob.dict=none)∧
  ∀ (A:Around) (ρ:Rho) (σ:H) (s:Shared) (y:MV) (u v:Value) (K:MV→H→Prop) (Q E:Value→Shared→Prop),OkA A 1→VR ρ s.heap u x→VR ρ s.heap v y→Ok W ρ σ s→f x y σ K→Nc W ρ s K Q→wpAny (model W.prog W.w) A (call (.builtin id) [u,v]) Q E s
theorem Z4 {ok:MV→Bool} {f:MV→MV→H→K→Prop} {name:Str} {m₁ m₂:Ev} {o e:Expr} {apos pos} (hf:Ig W ok f name) (h:XD W ctx (b+1) m₁ o) (h':XD W ctx (b+1) m₂ e)
  (hbase:∀ env,attributeBase o name env (eval o env)=eval o env:=by intro _;rfl) (hline:(apos.endLine==pos.line)=true:=by rfl) (he:∀ env,backTo pos (starEach [e] env)=[(false,eval e env)]:=by intro _;rfl)
  (he':∀ env,starEach [e] env=[(false,eval e env)]:=by intro _;rfl) :
  XD W ctx (b+1) (eM ok f m₁ m₂) (.Call (.Attribute o name apos) [e] [] pos):=λA env ρ σ vs s K Q E OA F O m q=>by
 refine wpAny_Call_method1_late (hbase env) hline (he env) (h A env ρ σ vs s _ _ _ OA F O m λu x ρ₁ σ₁ s₁ k₁ v₁ O₁ X₁=>?_)
 refine Xi λgk=>?_;rcases Xo k₁ with ⟨hk,k₁⟩ | ⟨_,k₁⟩ <;> (refine gk ?_;clear gk)
 ·refine (hf x hk).elim λT zz=>zz.elim λid zz=>zz.elim λpa zz=>zz.elim λsl zz=>zz.elim λty zz=>zz.elim λhT hc=>?_
  refine (hT ρ₁ s₁ u v₁).elim λt1 t2=>?_
  refine ⟨T,id,pa,sl,ty,t1,t2,?_⟩
  refine callWith_builtin rfl (evalArgs_plain (spliced_cons (h' A env ρ₁ σ₁ vs s₁ _ _ _ OA (F.ext X₁) O₁ k₁ λv y ρ₂ σ₂ s₂ k₂ v₂ O₂ X₂=>spliced_nil ?_)))
  exact hc A ρ₂ σ₂ s₂ y u v K Q E (OA.mono (by omega)) (v₁.ext X₂) v₂ O₂ k₂ λv mv ρ₃ σ₃ s₃ k₃ v₃ O₃ X₃=>q _ _ _ _ _ k₃ v₃ O₃ ((X₁.trans X₂).trans X₃)
 ·exact k₁.elim
theorem Nl {ρ:Rho} {s:Shared} {u:Value} {l:List Nat} (v:VR ρ s.heap u (.str l)):s.TypeIs u "str"∧∀ a,u=.ref a→∃ ob,s.heap.get? a=some ob∧ob.dict=none:=by
 cases v;exact ⟨typeIs_str _ _ _,λa e=>by cases e⟩
theorem B8 {ρ:Rho} {s:Shared} {u:Value} {l:List MV} (v:VR ρ s.heap u (.seq true l)):s.TypeIs u "list"∧∀ a,u=.ref a→∃ ob,s.heap.get? a=some ob∧ob.dict=none:=by
 refine v.seqIE λa us qa no hs hr=>?_;clear v;subst qa;exact ⟨hs.list.typeIs,λa' e=>by cases e;refine hs.elim λn e=>?_;exact ⟨_,e,rfl⟩⟩
theorem Du {ρ:Rho} {h:Heap} {xs:List MV} {us:List Value} {k:List Nat→Prop} (r:VRs ρ h us xs):BN xs k→∃ l:List (List Nat×Tok),us=strValues (l.map λp=>(toS p.1,p.2))∧k (l.map (·.1)).flatten:=by
 refine r.ind (P:=λus xs=>∀ k:List Nat→Prop,BN xs k→∃ l:List (List Nat×Tok),us=strValues (l.map λp=>(toS p.1,p.2))∧k (l.map (·.1)).flatten) (λk m=>⟨[],rfl,m⟩) (λv x us xs a __ ih k m=>?_) k
 refine YF (show Jh x λs=>BN xs λq=>Zo (s++q) k from m) λs qa m'=>?_;clear m;subst qa
 obtain ⟨l,e,m''⟩:=ih _ m'
 refine a.strIE λt qa=>?_;clear a;subst qa
 rw [Yw] at m''
 exact ⟨(s,t) :: l,by rw [e];rfl,m''⟩
theorem JC (a c:List Nat):toS a++toS c=toS (a++c):=by
 show Str.append _ _=_
 simp [toS,Str.append]
theorem NF:∀ (l:List (List Nat)),Str.join (toS []) (l.map toS)=toS l.flatten
 | []=>rfl
 | [x]=>by simp [Str.join]
 | x :: y :: r=>by
  have ih:=NF (y :: r)
  show toS x++toS []++Str.join (toS []) ((y :: r).map toS)=_
  rw [ih,JC,JC]
  simp
theorem Jk:Ig W isStr ZR "join":=by
 intro x hx
 cases x with
 | str sep=>
  refine ⟨"str",_,PySem.F.plainAttrs_str,PySem.F.slot_str_join,PySem.F.type_str_join,λρ s u v=>Nl v,λA ρ σ s y u v K Q E OA hu hv O m q=>?_⟩
  cases sep with
  | cons=>exact (show False from m).elim
  | nil=>
   refine Xi λgk=>?_
   refine Zw (show Jm σ y _ from m) λxs qa m'=>?_;clear m;subst qa
   refine hu.strIE λt qa=>?_;clear hu;subst qa
   refine hv.seqIE λa us qa no hs hr=>?_;clear hv;subst qa
   obtain ⟨l,rfl,m''⟩:=Du hr m'
   refine gk ?_;clear gk
   refine Xi λgk=>?_;rcases Xo m'' with ⟨hz,m''⟩ | ⟨_,m''⟩ <;> (refine gk ?_;clear gk)
   ·have hz:=Ye hz
    have e1:(l.map λp=>(toS p.1,p.2)).map (·.1)=(l.map (·.1)).map toS:=by simp
    refine PySem.SC.join hs.list e1 ?_ λt' k=>?_
    ·unfold JoinOk PySem.Builtin.Str.tooLong
     have e2:=PySem.StrLaws.joinTotal (toS []) ((l.map (·.1)).map toS)
     have e3:((((l.map (·.1)).map toS).map (·.length)).sum)=(l.map (·.1)).flatten.length:=by
      rw [List.length_flatten,List.map_map]
      congr 1
     have e4:(toS []).length=0:=rfl
     rw [e3,e4,Nat.mul_zero,Nat.add_zero] at e2
     have e5:(((l.map (·.1)).map toS).toArray.foldl (λx1 x2=>x1+x2.length+(toS []).length) 0)=(l.map (·.1)).flatten.length:=by rw [e4];exact e2
     rw [e5]
     simp only [Bool.not_eq_true',decide_eq_false_iff_not,sizeLine_eq]
     omega
    ·have e6:Txt.join (toS []) ((l.map (·.1)).map toS)=toS (l.map (·.1)).flatten:=by
      show PySem.Builtin.Str.glued _ _=_
      rw [PySem.StrLaws.glued_eq_join,NF]
     rw [e6]
     exact q _ _ ρ σ _ m'' (.str _ _) (O.tok _) (Ext.refl _ _)
   ·exact m''.elim
 | _=>cases hx
end
end
section
set_option tactic.hygienic false
variable [iC:Cs]
noncomputable abbrev pw:=PySem.Challenge.pw_wv0017_01
noncomputable def Uj (i:Nat):Arguments×List Stmt×Scope×Pos:=match pw.main.body.drop i with
 | .FunctionDef _ a body _ _ _ scope _ _ pos :: _=>(a,body,scope,pos)
 | _=>(⟨[],[],none,[],[],none,[]⟩,[],default,default)
noncomputable def Yl (i:Nat):List Stmt:=(Uj i).2.1
noncomputable def Yj (i:Nat):Scope:=(Uj i).2.2.1
noncomputable def ZZ (i:Nat):Arguments:=(Uj i).1
noncomputable def U3 (i:Nat):Pos:=(Uj i).2.2.2
structure PW (W:Wd):Prop where
 prog:W.prog=pw
 glb:Glb W
 sys:∃ o,W.h₀.get? sysModules=some o
 nob:∀ x,x∈(["range","len","max","min","sum","tuple","int","list","hasattr","iter","super"]:List Str)→W.mg x=none
 fn:∀ d∈recsOf pw,∃ a o pm code doc,W.mg d.name=some (.ref a)∧W.h₀.get? a=some o∧o.data=.func (docDef d.name d.params d.body d.scope pm code doc)∧W.h₀.CodeRec code d.name
section
variable {W:Wd} {ctx ctx':List Bd} {b:Nat}
theorem B3.mono {f:Fn} {a:Addr} {c:Nat} (h:B3 W b f a) (hc:b≤c):B3 W c f a:=λA ρ σ s xs us K Q E OA hu O m q=>h A ρ σ s xs us K Q E (OA.mono hc) hu O m q
theorem OO {P:List Value→Prop} (f:P []) (us:List Value) (h:us.length=0):P us:=List.eq_nil_of_length_eq_zero h▸f
theorem IP {P:List Value→Prop} {n:Nat} (f:∀ a us,us.length=n→P (a :: us)) (us:List Value) (h:us.length=n+1):P us:=List.casesOn (motive:=λus=>us.length=n+1→P us) us (λh=>nomatch h) (λa us h=>f a us (Nat.succ.inj h)) h
theorem C8 {P:List Value→Prop} (f:∀ a,P [a]):∀ us:List Value,us.length=1→P us:=IP λa=>OO (P:=λus=>P (a :: us)) (f a)
theorem CY {P:List Value→Prop} (f:∀ a b,P [a,b]):∀ us:List Value,us.length=2→P us:=IP λa=>C8 (P:=λus=>P (a :: us)) (f a)
theorem Rt {P:List Value→Prop} (f:∀ a b c,P [a,b,c]):∀ us:List Value,us.length=3→P us:=IP λa=>CY (P:=λus=>P (a :: us)) (f a)
theorem Po {P:List Value→Prop} (f:∀ a b c d,P [a,b,c,d]):∀ us:List Value,us.length=4→P us:=IP λa=>Rt (P:=λus=>P (a :: us)) (f a)
noncomputable def JN (W:Wd) (b:Nat) (f:Fn) (y:Str):Prop:=∃ a o fd,W.mg y=some (.ref a)∧W.h₀.get? a=some o∧o.data=.func fd∧B3 W b f a
theorem Y2 {x:Ex} {t:Vs} {ps:List (Str×Pa)} {L i:Nat} (j:Nat) {y:Str} (P:PW W) (hb:ZB W ctx b x (Yl i)) (hm:(recsOf pw)[j]?=some ⟨y,ZZ i,Yl i,Yj i,U3 i⟩)
  (hok:Cz ctx (Yj i).names ps t L=true) (hbind:∀ us:List Value,us.length=ps.length→∀ n sc pm c d,bindArgs (docDef n (ZZ i) (Yl i) sc pm c d) ⟨us,[]⟩=pure ((ps.map (·.1)).zip us))
  (hsc:(Yj i).isCoroutine=false∧(Yj i).isGenerator=false∧(Yj i).kind=.function):JN W (b+1) (Ji (ps.map (·.2)) t x) y:=by
 refine Xi λgk=>?_
 refine (P.fn _ (List.mem_of_getElem? hm)).elim λa zz=>zz.elim λo zz=>zz.elim λpm zz=>zz.elim λcode zz=>zz.elim λdoc zz=>zz.elim λh1 zz=>zz.elim λh2 zz=>zz.elim λh3 h4=>?_
 refine gk ?_;clear gk
 refine ⟨a,o,_,h1,h2,h3,?_⟩
 exact WB hb h2 h3 rfl h4 P.glb.nl P.glb.last rfl rfl rfl hok (λus hz=>hbind us hz _ _ _ _ _) hsc.1 hsc.2.1 hsc.2.2
theorem XY {f:Fn} {ms:List Ev} {e:Expr} {es:List Expr} {y:Str} {pos' pos} {c:Nat} (G:Glb W) (hm:Bd.glo y∈ctx) (hN:JN W c f y) (h:Rg W ctx b ms (e :: es)) (hcb:c≤b:=by decide) (hdb:(y==("__debug__":Str))=false:=by decide)
  (he:∀ env,starEach (e :: es) env=(false,eval e env) :: starEach es env:=by intro _;rfl)
  (hc:∀ env,eval (.Call (.Name y pos') (e :: es) [] pos) env=(do callWith pos (← eval (.Name y pos') env) [] (backTo pos (starEach (e :: es) env)) (backToKw pos (keywordEach [] env))):=by intro _;rfl) :
  XD W ctx b (YN f ms) (.Call (.Name y pos') (e :: es) [] pos):=by
 refine Xi λgk=>?_
 refine hN.elim λa zz=>zz.elim λo zz=>zz.elim λfd zz=>zz.elim λh1 zz=>zz.elim λh2 zz=>zz.elim λh3 h4=>?_
 refine gk ?_;clear gk
 exact DW G hm h1 h2 h3 (h4.mono hcb) h hdb he hc
theorem Jg {i:Int} {k p pos}:XD W ctx b (Xl (.int (-i))) (.UnaryOp .USub (.Constant (.int i) k p) pos):=λA env ρ σ vs s K Q E __ F O m q=>by
 show wpAny _ A (eval (.Constant (.int i) k p) env >>= λv=>standAt pos >>= λ__=>holding [v] (unaryOp .USub v)) _ _ _
 exact wpAny_bind (wpAny_Constant_int (wpAny_bind (wpAny_standAt (wpAny_holding (PySem.P.neg_int (q _ _ ρ σ _ m (.int _ _) ((O.tok _).tok _) (Ext.refl _ _)))))))
theorem LG {env:Env} {x y:Str} {px py:Pos} {vs':List Expr} {k k':Nat} {tpos tpos':Pos} (h:env.scope.kind=.function) (h0:env.kindOf x=some .local) (h1:env.kindOf y=some .local) (hxy:x≠y) (hl:py.line=px.line)
  (hz:vs'.length=2) (hst:(vs'.any fun | .Starred ..=>true | _=>false)=false) (hf:vs'.all (foldedForSure 8)=false) (hc:vs'.all (constantsAlone 8)=false) :
  swappedStores [.Tuple [.Name x px,.Name y py] k tpos] (.Tuple vs' k' tpos') env=pure (some [x,y]):=by
 have hbk:env.blockKind=.function:=by unfold Env.blockKind;rw [h];rfl
 have hu:[x,y].eraseDups.length=2:=by
  have:(x==y)=false:=by simpa using hxy
  have this':(y==x)=false:=by simpa using λe=>hxy e.symm
  simp [List.eraseDups_cons,this']
 have hfm:(([.Name x px,.Name y py]:List Expr).filterMap λe=>match e with
  | .Name id pos=>if (env.kindOf id==some .local&&pos.line==((([.Name x px,.Name y py]:List Expr).head?.map (·.pos.line)).getD 0))=true then some id else none
  | _=>none)=[x,y]:=by
  simp [h0,h1,hl,KL]
 unfold swappedStores
 dsimp only
 rw [if_neg (by rw [hbk,hz];exact (by decide:¬ ((!((2:Nat)==2||(2:Nat)==3)||(2:Nat) != 2||ScopeKind.function != ScopeKind.function)=true)))]
 refine (if_neg λe=>absurd (hst.symm.trans e) (by decide)).trans ?_
 have e1:(([.Name x px,.Name y py]:List Expr).filterMap λe=>match e with
  | .Name id pos=>if (env.kindOf id==some .local&&pos.line==((([.Name x px,.Name y py]:List Expr).head?.map (·.pos.line)).getD 0))=true then some id else none
  | _=>none)=[x,y]:=hfm
 refine (if_neg λe=>?_).trans ?_
 ·have e':(([x,y]:List Str).length != ([.Name x px,.Name y py]:List Expr).length||([x,y]:List Str).eraseDups.length != ([x,y]:List Str).length)=true:=by
   rw [← e1];exact e
  rw [hu] at e'
  exact absurd e' (by decide:¬ (((2:Nat) != 2||(2:Nat) != 2)=true))
 refine (if_neg (by rw [hf];decide)).trans ?_
 refine (congrArg (λz=>z) (if_neg (by rw [hc];decide))).trans ?_
 exact congrArg (λl=>(pure (some l):Sem (Option (List Str)))) e1
end
end
section
set_option tactic.hygienic false
variable [iC:Cs]
section
variable {W:Wd} {ctx ctx':List Bd} {b:Nat}
theorem LS:JT W fLen (.builtin "len"):=λA ρ σ s x u K Q E OA hu O m q=>by
 cases x with
 | str l=>
  refine hu.strIE λt qa=>?_;clear hu;subst qa
  refine Xi λgk=>?_;rcases Xo m with ⟨hz,m⟩ | ⟨_,m⟩ <;> (refine gk ?_;clear gk)
  ·have hz:=Ye hz
   rw [Yh] at m
   have e:(toS l).length=l.length:=by simp [toS,Str.length]
   refine len_str (by rw [e];omega) ?_
   rw [e]
   exact q _ _ ρ σ _ m (.int _ _) ((O.tok _).tok _) (Ext.refl _ _)
  ·exact m.elim
 | seq l xs=>
  refine hu.seqIE λa vs qa no hs hr=>?_;clear hu;subst qa
  cases l with
  | false=>exact (show False from m).elim
  | true=>
   refine Xi λgk=>?_;rcases Xo m with ⟨hz,m⟩ | ⟨_,m⟩ <;> (refine gk ?_;clear gk)
   ·have hz:=Ye hz
    rw [Yh] at m
    refine call_len_list hs.list (by rw [List.size_toArray,hr.length];omega) ?_
    rw [List.size_toArray,hr.length]
    exact q _ _ ρ σ _ m (.int _ _) ((O.tok _).tok _) (Ext.refl _ _)
   ·exact m.elim
 | _=>exact (show False from m).elim
theorem FK {ρ:Rho} {h:Heap} {xs:List MV} {us:List Value} {a:Int} {k:Int→Prop} (r:VRs ρ h us xs):IO xs a k→∃ l:List (Int×Tok),us=l.map (λp=>.int p.1 p.2)∧k (a+(l.map (·.1)).sum):=by
 refine r.ind (P:=λus xs=>∀ a,IO xs a k→∃ l:List (Int×Tok),us=l.map (λp=>.int p.1 p.2)∧k (a+(l.map (·.1)).sum)) (λa m=>⟨[],rfl,by simpa using (show k a from m)⟩) (λv x us xs c __ ih a m=>?_) a
 refine Xi λgk=>?_
 refine Xs (show XM x λb=>IO xs (a+b) k from m) λi qa m'=>?_;clear m;subst qa
 obtain ⟨l,e,m''⟩:=ih _ m'
 refine c.intIE λt qa=>?_;clear c;subst qa
 refine gk ?_;clear gk
 exact ⟨(i,t) :: l,by rw [e];rfl,by rw [List.map_cons,List.sum_cons,← Int.add_assoc];exact m''⟩
theorem Ko (l:List (Int×Tok)):∀ n,n≤l.length→preSum (numAt l.toArray) n=((l.take n).map (·.1)).sum:=by
 intro n
 induction n with
 | zero=>intro _;rfl
 | succ n ih=>
  intro hn
  show preSum _ n+numAt _ n=_
  rw [ih (by omega),List.take_add_one,List.map_append,List.sum_append]
  congr 1
  have:l[n]?=some l[n]:=List.getElem?_eq_getElem (by omega)
  simp [numAt,this]
theorem Hb:JT W S5 (.builtin "sum"):=λA ρ σ s x u K Q E OA hu O m q=>by
 refine Xi λgk=>?_
 refine Zw m λxs qa m'=>?_;clear m;subst qa
 refine hu.seqIE λa us qa no hs hr=>?_;clear hu;subst qa
 obtain ⟨l,rfl,m''⟩:=FK hr m'
 refine gk ?_;clear gk
 have e:(l.map λp=>Value.int p.1 p.2).toArray=intItems l.toArray:=by simp [intItems]
 refine sum_intListG OA.1 (xs:=l.toArray) (e▸hs.list) λh' tk t' hk=>?_
 rw [Ko l _ (by simp)]
 have e2:(l.take l.toArray.size)=l:=by simp
 rw [e2]
 rw [Int.zero_add] at m''
 exact q _ _ ρ σ _ m'' (.int _ _) (O.keep hk) (.of_all hk)
theorem T2:JT W KH (.type "tuple"):=λA ρ σ s x u K Q E OA hu O m q=>by
 refine Xi λgk=>?_
 refine Zw m λxs qa m'=>?_;clear m;subst qa
 refine hu.seqIE λa us qa no hs hr=>?_;clear hu;subst qa
 refine gk ?_;clear gk
 refine Xi λgk=>?_;rcases Xo m' with ⟨hz,m'⟩ | ⟨_,m'⟩ <;> (refine gk ?_;clear gk)
 ·have hz:=Ye hz
  refine call_tuple_list hs.list (λh' hk=>?_) (by rw [List.size_toArray,hr.length,sizeLine_eq];omega)
  have O₁:Ok W ρ σ { s with heap:=h' }:=O.keep (t:=s.toks) hk
  have X:Ext ρ ρ s.heap (h'.push { cls:=.type "tuple",data:=.seq us.toArray }):=(Ext.of_all hk).trans (Ext.push _ _ _)
  exact q _ _ ρ σ _ m' (.seq (O₁.hr.fresh (XZ _)) ⟨0,Heap.get?_push_size _ rfl⟩ (hr.ext X)) (O₁.push _) X
 ·exact m'.elim
theorem VR.atom {ρ:Rho} {h:Heap} {u:Value} {x y:MV} {r:Bool} (e:EqA x y r) (a:VR ρ h u x) (c:VR ρ h u y):r=true:=by
 cases e with
 | int i j=>cases a;cases c;simp
 | str i j=>
  cases a with | str _ t=>
  generalize hq:toS i=q at c
  cases c with | str _ t=>
  have:=Um hq
  simp [this]
theorem EqA.det {ρ:Rho} {h:Heap} {u:Value} {x x' z:MV} {r r':Bool} (e:EqA x z r) (e':EqA x' z r') (a:VR ρ h u x) (c:VR ρ h u x'):r=r':=by
 cases e with
 | int i j=>cases e';cases a;cases c;rfl
 | str i j=>
  cases e' with | str i' _=>
  cases a with | str _ t=>
  generalize hq:toS i=q at c
  cases c with | str _ t=>
  rw [Um hq]
noncomputable def EqT (ρ:Rho) (h:Heap) (u:Value) (x y:MV) (r:Bool):Prop:=∃ a us xs ys e,u=.ref a∧x=.seq false xs∧y=.seq false ys∧SeqAt h a false us∧VRs ρ h us xs∧xs.length=ys.length∧(∀ j x y,xs[j]?=some x→ys[j]?=some y→EqA x y (e j))∧r=(List.range xs.length).all e
theorem EqT.det {ρ:Rho} {h:Heap} {u:Value} {x x' y:MV} {r r':Bool} (p:EqT ρ h u x y r) (q:EqT ρ h u x' y r'):r=r':=by
 refine Xi λgk=>?_
 obtain ⟨a,us,xs,ys,e,rfl,rfl,rfl,⟨n,g⟩,v,hl,he,rfl⟩:=p
 obtain ⟨a',us',xs',ys',e',h1,rfl,h2,⟨n',g'⟩,v',hl',he',rfl⟩:=q
 refine gk ?_;clear gk
 cases h1;clear hl';cases h2
 rw [g] at g';cases g'
 rw [← v.length,← v'.length]
 rw [Bool.eq_iff_iff,List.all_eq_true,List.all_eq_true]
 have key:∀ j,j<us.length→e j=e' j:=λj hj=>by
  have i1:xs[j]?=some (xs[j]'(by rw [← v.length];exact hj)):=List.getElem?_eq_getElem _
  have i2:xs'[j]?=some (xs'[j]'(by rw [← v'.length];exact hj)):=List.getElem?_eq_getElem _
  have i3:ys[j]?=some (ys[j]'(by rw [← hl,← v.length];exact hj)):=List.getElem?_eq_getElem _
  obtain ⟨w,q1,r1⟩:=v.get i1
  obtain ⟨w',q2,r2⟩:=v'.get i2
  rw [q1] at q2;cases q2
  exact (he j _ _ i1 i3).det (he' j _ _ i2 i3) r1 r2
 exact ⟨λh j hj=>by rw [← key j (by simpa using hj)];exact h j hj,λh j hj=>by rw [key j (by simpa using hj)];exact h j hj⟩
theorem Wu {A:Around} {ρ:Rho} {s:Shared} {x y:MV} {u v:Value} {k:Bool→Prop} (hA:A.units<cLine) (h:eqT x y k) (hu:VR ρ s.heap u x) (hv:VR ρ s.heap v y):∃ r,PySem.SeqAt.EqAt A s u v r∧EqT ρ s.heap u x y r∧k r:=by
 cases x with
 | seq l xs=>
  refine hu.seqIE λa vs qa no hs hr=>?_;clear hu;subst qa
  cases l with
  | true=>exact (show False from h).elim
  | false=>
  cases y with
  | seq l' ys=>
   refine hv.seqIE λa' ws qa no' hs' hr'=>?_;clear hv;subst qa
   cases l' with
   | true=>exact (show False from h).elim
   | false=>
   have h':ifB (Nat.beq (len xs) (len ys)) (Jj xs ys k) False:=h
   rw [Yh,Yh] at h'
   refine Xi λgk=>?_;rcases Xo h' with ⟨hl,h'⟩ | ⟨_,h'⟩ <;> (refine gk ?_;clear gk)
   ·have hl:=Nat.eq_of_beq_eq_true hl
    refine Xi λgk=>?_
    refine GP h' λe he hk=>?_
    refine gk ?_;clear gk
    have T:EqT ρ s.heap (.ref a) (.seq false xs) (.seq false ys) ((List.range xs.length).all e):=⟨a,vs,xs,ys,e,rfl,rfl,rfl,hs,hr,hl,he,rfl⟩
    by_cases haa:a=a'
    ·clear no';subst haa
     have hw:vs=ws:=by
      obtain ⟨n,e1⟩:=hs;obtain ⟨n',e2⟩:=hs'
      rw [e1] at e2;clear hr';cases e2;rfl
     clear hs';subst hw
     have:(List.range xs.length).all e=true:=by
      rw [List.all_eq_true]
      intro j hj
      have hj:j<xs.length:=by simpa using hj
      have g1:xs[j]?=some xs[j]:=List.getElem?_eq_getElem hj
      have g2:ys[j]?=some ys[j]:=List.getElem?_eq_getElem (by omega)
      obtain ⟨v1,q1,r1⟩:=hr.get g1
      obtain ⟨v2,q2,r2⟩:=hr'.get g2
      rw [q1] at q2;cases q2
      exact VR.atom (he j _ _ g1 g2) r1 r2
     rw [this] at hk T
     exact ⟨true,PySem.SeqAt.EqAt.same _,T,hk⟩
    ·refine ⟨_,PySem.SeqAt.EqAt.of_refs haa λprog w E Q hq=>?_,T,hk⟩
     have hz:((List.range (min vs.toArray.size ws.toArray.size)).all e&&vs.toArray.size==ws.toArray.size)=(List.range xs.length).all e:=by
      rw [List.size_toArray,List.size_toArray,hr.length,hr'.length,← hl];simp
     refine PySem.SeqAt.eq_tupleAt hs.tuple hs'.tuple hA (λj h1 h2=>?_) (by rw [hz];exact hq)
     have i1:j<xs.length:=by rw [← hr.length];simpa using h1
     have i2:j<ys.length:=by rw [← hr'.length];simpa using h2
     have g1:xs[j]?=some xs[j]:=List.getElem?_eq_getElem i1
     have g2:ys[j]?=some ys[j]:=List.getElem?_eq_getElem i2
     refine Xi λgk=>?_
     obtain ⟨v1,q1,r1⟩:=hr.get g1
     obtain ⟨v2,q2,r2⟩:=hr'.get g2
     refine gk ?_;clear gk
     have e1:vs.toArray[j]=v1:=by have:=List.getElem?_eq_some_iff.mp q1;simpa using this.2
     have e2:ws.toArray[j]=v2:=by have:=List.getElem?_eq_some_iff.mp q2;simpa using this.2
     rw [e1,e2]
     exact EqA.at (he j _ _ g1 g2) r1 r2
   ·exact h'.elim
  | _=>exact (show False from h).elim
 | _=>exact (show False from h).elim
theorem Kg {A:Around} {ρ:Rho} {s:Shared} {x y:MV} {u v:Value} {k:Bool→Prop} (hA:A.units<cLine) (h:eqT x y k) (hu:VR ρ s.heap u x) (hv:VR ρ s.heap v y) {C':Prop} (f':∀ r,PySem.SeqAt.EqAt A s u v r→EqT ρ s.heap u x y r→k r→C'):C':=by refine (Wu hA h hu hv).elim λr zz=>zz.elim λq0 zz=>zz.elim λq1 q2=>?_;exact f' r q0 q1 q2
noncomputable def EqF (A:Around) (ρ:Rho) (s:Shared) (v:Value) (y:MV) (u:Value) (r:Bool):Prop:=PySem.SeqAt.EqAt A s u v r∧∃ x,EqT ρ s.heap u x y r
theorem RD {A:Around} {ρ:Rho} {s:Shared} {v:Value} {y:MV} (hA:A.units<cLine) (hv:VR ρ s.heap v y) {xs:List MV} {us:List Value} {p:Prop} (r:VRs ρ s.heap us xs):TO y xs p→p∧∀ u∈us,EqF A ρ s v y u false:=by
 refine r.ind (P:=λus xs=>TO y xs p→p∧∀ u∈us,EqF A ρ s v y u false) (λm=>⟨m,λ__ h=>by cases h⟩) (λu x us xs c __ ih m=>?_)
 refine Xi λgk=>?_
 refine Kg hA (show eqT x y λb=>ifB b False (TO y xs p) from m) c hv λe h1 h3 h2=>?_
 refine gk ?_;clear gk
 refine Xi λgk=>?_;rcases Xo h2 with ⟨rfl,h2⟩ | ⟨rfl,h2⟩ <;> (refine gk ?_;clear gk)
 ·exact h2.elim
 ·obtain ⟨h4,h5⟩:=ih h2
  exact ⟨h4,λw hw=>(List.mem_cons.mp hw).elim (λe=>e▸⟨h1,x,h3⟩) (h5 w)⟩
theorem LD {A:Around} {ρ:Rho} {s:Shared} {v:Value} {y:MV} (hA:A.units<cLine) (hv:VR ρ s.heap v y) {xs:List MV} {us:List Value} {n:Nat} {k:Nat→Prop} (r:VRs ρ s.heap us xs):VC y xs n k→
  ∃ j,∃ _:j<us.length,k (n+j)∧EqF A ρ s v y us[j] true∧∀ i (hi:i<us.length),i≠j→EqF A ρ s v y us[i] false:=by
 refine r.ind (P:=λus xs=>∀ n,VC y xs n k→
  ∃ j,∃ _:j<us.length,k (n+j)∧EqF A ρ s v y us[j] true∧∀ i (hi:i<us.length),i≠j→EqF A ρ s v y us[i] false) (λ__ m=>m.elim) (λu x us xs c r ih n m=>?_) n
 refine Xi λgk=>?_
 refine Kg hA (show eqT x y λb=>ifB b (TO y xs (k n)) (VC y xs (n+1) k) from m) c hv λe h1 h3 h2=>?_
 refine gk ?_;clear gk
 refine Xi λgk=>?_;rcases Xo h2 with ⟨rfl,h2⟩ | ⟨rfl,h2⟩ <;> (refine gk ?_;clear gk)
 ·refine (RD hA hv r h2).elim λh4 h5=>?_
  refine ⟨0,by simp,h4,⟨h1,x,h3⟩,λi hi h=>?_⟩
  cases i with
  | zero=>exact absurd rfl h
  | succ i=>exact h5 _ (by simp)
 ·refine (ih _ h2).elim λj zz=>zz.elim λhj zz=>zz.elim λh5 zz=>zz.elim λh6 h7=>?_
  refine ⟨j+1,by simpa using hj,by rw [show n+(j+1)=n+1+j by omega];exact h5,by simpa using h6,λi hi hij=>?_⟩
  cases i with
  | zero=>exact ⟨h1,x,h3⟩
  | succ i=>simpa using h7 i (by simpa using hi) (by omega)
theorem GG:Ig W IG Ms "index":=by
 intro x hx
 cases x with
 | str l=>
  refine ⟨"str",_,PySem.F.plainAttrs_str,PySem.F.slot_str_index,PySem.F.type_str_index,λρ s u v=>Nl v,λA ρ σ s y u v K Q E OA hu hv O m q=>?_⟩
  cases y with
  | str c=>
   refine hv.strIE λt qa=>?_;clear hv;subst qa
   refine hu.strIE λt' qa=>?_;clear hu;subst qa
   cases c with
   | nil=>exact (show False from m).elim
   | cons c r=>
    cases r with
    | cons=>exact (show False from m).elim
    | nil=>
     have m':ifB (eqN l [34,92,35]) (Hx c l 0 λn=>K (.int (.ofNat n)) σ) False:=m
     refine Xi λgk=>?_;rcases Xo m' with ⟨hl,m'⟩ | ⟨_,m'⟩ <;> (refine gk ?_;clear gk)
     ·rw [Jz,beq_iff_eq] at hl
      clear hx;subst hl
      have go:∀ (i:Nat) (c:Nat) t,Builtin.Str.occurrences (toS [34,92,35]) (toS [c]) 0 (toS [34,92,35]).length 1=[i]→K (.int (.ofNat i)) σ→wpAny (model W.prog W.w) A (call (.builtin "str.index") [.str (toS [34,92,35]) t',.str (toS [c]) t]) Q E s:=λi c t h k=>by
       refine call_gives PySem.F.slot_str_index (typeIs_str _ _ _) PySem.F.entry_str_index (PySem.F.args_str_index_2 _ _) (gives_str_index _ _ _ _ i [] h) ?_
       exact q _ _ ρ σ _ k (.int _ _) (O.tok _) (Ext.refl _ _)
      have m2:ifB (Nat.beq 34 c) (K (.int (.ofNat 0)) σ) (ifB (Nat.beq 92 c) (K (.int (.ofNat 1)) σ) (ifB (Nat.beq 35 c) (K (.int (.ofNat 2)) σ) False)):=m'
      refine Xi λgk=>?_;rcases Xo m2 with ⟨e,m2⟩ | ⟨_,m2⟩ <;> (refine gk ?_;clear gk)
      ·have:=Nat.eq_of_beq_eq_true e;clear e m m';subst this;exact go 0 34 t dk m2
      refine Xi λgk=>?_;rcases Xo m2 with ⟨e,m2⟩ | ⟨_,m2⟩ <;> (refine gk ?_;clear gk)
      ·have:=Nat.eq_of_beq_eq_true e;clear e m m';subst this;exact go 1 92 t dk m2
      refine Xi λgk=>?_;rcases Xo m2 with ⟨e,m2⟩ | ⟨_,m2⟩ <;> (refine gk ?_;clear gk)
      ·have:=Nat.eq_of_beq_eq_true e;clear e m m';subst this;exact go 2 35 t dk m2
      ·exact m2.elim
     ·exact m'.elim
  | _=>exact (show False from m).elim
 | seq l xs=>
  cases l with
  | false=>cases hx
  | true=>
  refine ⟨"list",_,PySem.F.plainAttrs_list,PySem.F.slot_list_index,PySem.F.type_list_index,λρ s u v=>B8 v,λA ρ σ s y u v K Q E OA hu hv O m q=>?_⟩
  refine Xi λgk=>?_
  refine hu.seqIE λa us qa no hs hr=>?_;clear hu;subst qa
  refine gk ?_;clear gk
  have m':ifB (Yr xs) (VC y xs 0 λn=>K (.int (.ofNat n)) σ) False:=m
  refine Xi λgk=>?_;rcases Xo m' with ⟨hz,m'⟩ | ⟨_,m'⟩ <;> (refine gk ?_;clear gk)
  ·have hz:=Ye hz
   refine Xi λgk=>?_
   obtain ⟨j,hj,k,h1,h2⟩:=LD (A:=A.in1) (by have:=OA.2.2;show A.units+1<_;omega) hv hr m'
   refine gk ?_;clear gk
   rw [Nat.zero_add] at k
   have hne:∀ i (hi:i<us.length),i≠j→us[i]≠us[j]:=λi hi hij e=>by
    refine (h2 i hi hij).elim λ__ zz=>zz.elim λx1 t1=>?_
    refine h1.elim λ__ zz=>zz.elim λx2 t2=>?_
    rw [e] at t1
    cases t1.det t2
   refine call_meets PySem.F.slot_list_index (hs.list.typeIs) PySem.F.entry_list_index (PySem.F.args_list_index_2 _ _) (PySem.SeqAt.list_indexAt a us.toArray hs.choose none #[] v (λw=>decide (w=us[j])) j (by simpa using hj) (by have:=hr.length;omega) (by simp) (λi hi hij=>?_)) ⟨hs.choose_spec,λw hw=>?_,?_⟩
   ·have hi':i<us.length:=by simpa using hi
    have:=hne i hi' (by omega)
    simpa using this
   ·obtain ⟨i,hi,rfl⟩:=List.getElem_of_mem (show w∈us by simpa using hw)
    by_cases hij:i=j
    ·clear h2 hne k;subst hij;simpa using h1.1
    ·rw [decide_eq_false (hne i hi hij)];exact (h2 i hi hij).1
   ·exact q _ _ ρ σ _ k (.int _ _) (O.tok _) (Ext.refl _ _)
  ·exact m'.elim
 | _=>cases hx
end
end
section
set_option tactic.hygienic false
variable [iC:Cs]
section
variable {W:Wd} {ctx ctx':List Bd} {b:Nat}
theorem P4 {env:Env} {x y z:Str} {px py pz:Pos} {vs':List Expr} {k k':Nat} {tpos tpos':Pos} (h:env.scope.kind=.function) (h0:env.kindOf x=some .local) (h1:env.kindOf y=some .local) (h2:env.kindOf z=some .local) (hu:[x,y,z].eraseDups.length=3) (hl:py.line=px.line) (hl':pz.line=px.line)
  (hz:vs'.length=3) (hst:(vs'.any fun | .Starred ..=>true | _=>false)=false) (hf:vs'.all (foldedForSure 8)=false) (hc:vs'.all (constantsAlone 8)=false) :
  swappedStores [.Tuple [.Name x px,.Name y py,.Name z pz] k tpos] (.Tuple vs' k' tpos') env=pure (some [x,y,z]):=by
 have hbk:env.blockKind=.function:=by unfold Env.blockKind;rw [h];rfl
 have hfm:(([.Name x px,.Name y py,.Name z pz]:List Expr).filterMap λe=>match e with
  | .Name id pos=>if (env.kindOf id==some .local&&pos.line==((([.Name x px,.Name y py,.Name z pz]:List Expr).head?.map (·.pos.line)).getD 0))=true then some id else none
  | _=>none)=[x,y,z]:=by
  simp [h0,h1,h2,hl,hl',KL]
 unfold swappedStores
 dsimp only
 rw [if_neg (by rw [hbk,hz];exact (by decide:¬ ((!((3:Nat)==2||(3:Nat)==3)||(3:Nat) != 3||ScopeKind.function != ScopeKind.function)=true)))]
 refine (if_neg λe=>absurd (hst.symm.trans e) (by decide)).trans ?_
 have e1:(([.Name x px,.Name y py,.Name z pz]:List Expr).filterMap λe=>match e with
  | .Name id pos=>if (env.kindOf id==some .local&&pos.line==((([.Name x px,.Name y py,.Name z pz]:List Expr).head?.map (·.pos.line)).getD 0))=true then some id else none
  | _=>none)=[x,y,z]:=hfm
 refine (if_neg λe=>?_).trans ?_
 ·have e':(([x,y,z]:List Str).length != ([.Name x px,.Name y py,.Name z pz]:List Expr).length||([x,y,z]:List Str).eraseDups.length != ([x,y,z]:List Str).length)=true:=by
   rw [← e1];exact e
  rw [hu] at e'
  exact absurd e' (by decide:¬ (((3:Nat) != 3||(3:Nat) != 3)=true))
 refine (if_neg (by rw [hf];decide)).trans ?_
 refine (congrArg (λz=>z) (if_neg (by rw [hc];decide))).trans ?_
 exact congrArg (λl=>(pure (some l):Sem (Option (List Str)))) e1
theorem T6 {m₁:Ev} {x y z:Str} {p q' r':Pa} {px py pz:Pos} {vs':List Expr} {k k' tpos tpos' pos} (hx:Bd.loc x p∈ctx) (hy:Bd.loc y q'∈ctx) (hzz:Bd.loc z r'∈ctx) (cx:Y8 ctx x p=true) (cy:Y8 ctx y q'=true) (cz:Y8 ctx z r'=true)
  (h:XD W ctx b m₁ (.Tuple vs' k' tpos'))
  (hw:∀ env:Env,env.scope.kind=.function→env.kindOf x=some .local→env.kindOf y=some .local→env.kindOf z=some .local→swappedStores [.Tuple [.Name x px,.Name y py,.Name z pz] k tpos] (.Tuple vs' k' tpos') env=pure (some [x,y,z])) :
  Z9 W ctx b (XO (JX 3 [tV r',tV q',tV p]) m₁) (.Assign [.Tuple [.Name x px,.Name y py,.Name z pz] k tpos] (.Tuple vs' k' tpos') pos):=λA env ρ σ vs s n bk ct r Q E OA nb F O m q=>by
 refine Xi λgk=>?_
 refine F.locE λ__ __ hl=>?_
 refine gk ?_;clear gk
 refine PyProof.Rows.Assign_Tuple_swapped (names:=[x,y,z]) (h A env ρ σ vs s (λv h1=>JX 3 [tV r',tV q',tV p] v vs h1 n) _ _ OA F O m λv mv ρ₁ σ₁ s₁ k₁ v₁ O₁ X₁=>?_) rfl (hw env F.kind (hl x p hx).1 (hl y q' hy).1 (hl z r' hzz).1)
 refine Xi λgk=>?_
 refine YQ k₁ λxs qa m'=>?_;clear k₁;subst qa
 refine v₁.seqIE λa us qa no hs hr=>?_;clear v₁;subst qa
 refine gk ?_;clear gk
 refine Xi λgk=>?_;rcases Xo m' with ⟨e,m'⟩ | ⟨_,m'⟩ <;> (refine gk ?_;clear gk)
 ·have e:=Nat.eq_of_beq_eq_true e
  rw [Yh,← hr.length] at e
  rw [Yw] at m'
  have hz:us.toArray.size=3:=by rw [List.size_toArray];exact e
  have:=wpAny_unpackItems_tuple (prog:=W.prog) (w:=W.w) (E:=E) (s:=s₁) (A:=A) (Q:=λXL s₂=>wpAny (model W.prog W.w) A (assignInOrder ([x,y,z].reverse.map λn=>bindName env n) XL.reverse) (λ__=>Q .next) E s₂) OA.1 hs.tuple (λh' he=>by
   have k':∀ b o,s₁.heap.get? b=some o→h'.get? b=some o:=λb o e=>he b o (Nat.ne_of_lt (Heap.lt_size e)) e
   have X₂:Ext ρ₁ ρ₁ s₁.heap h':=.of_all k'
   have F₂:=(F.ext X₁).ext X₂
   have O₂:Ok W ρ₁ σ₁ { s₁ with heap:=h' }:=O₁.keep (t:=s₁.toks) k'
   have hr₂:=hr.ext X₂
   cases hr₂ with
   | nil=>cases e
   | @cons u1 x1 us1 xs1 r1 rr=>
   cases rr with
   | nil=>cases e
   | @cons u2 x2 us2 xs2 r2 rr=>
   cases rr with
   | nil=>cases e
   | @cons u3 x3 us3 xs3 r3 rr=>
   cases rr with
   | cons=>cases e
   | nil=>
   show wpAny _ _ (holding [u2,u1] (bindName env z u3) >>= λ__=>assignInOrder [bindName env y,bindName env x] [u2,u1]) _ _ _
   have m1:Y7 x3 vs r' λvs0=>Y7 x2 vs0 q' λvs1=>Y7 x1 vs1 p λvs2=>n vs2 σ₁:=m'
   refine wpAny_bind (wpAny_holding (wpAny_bindName (YH (k:=λvs0 h=>Y7 x2 vs0 q' λvs1=>Y7 x1 vs1 p λvs2=>n vs2 h) F₂ nb O₂ r3 (.inl hzz) cz m1 λs₂ vs₂ O₂ X₂' F₂' k₂=>?_)))
   show wpAny _ _ (holding [u1] (bindName env y u2) >>= λ__=>assignInOrder [bindName env x] [u1]) _ _ _
   refine wpAny_bind (wpAny_holding (wpAny_bindName (YH (k:=λvs1 h=>Y7 x1 vs1 p λvs2=>n vs2 h) F₂' nb O₂ (r2.extS F₂ X₂') (.inl hy) cy k₂ λs₃ vs₃ O₃ X₃ F₃ k₃=>?_)))
   show wpAny _ _ (holding [] (bindName env x u1) >>= λ__=>assignInOrder [] []) _ _ _
   refine wpAny_bind (wpAny_holding (wpAny_bindName (YH F₃ nb O₃ ((r1.extS F₂ X₂').extS F₂' X₃) (.inl hx) cx k₃ λs₄ vs₄ O₄ X₄ F₄ k₄=>?_)))
   refine wpAny_pure ?_
   exact (q ρ₁ σ₁ s₄ O₄ ((X₁.trans X₂).toS.trans (X₂'.trans (X₃.trans X₄ F₃.alive) F₂'.alive) F₂.alive) vs₄ F₄).1 k₄)
  rw [hz] at this
  exact this
 ·exact m'.elim
theorem Zy {p:Pa} {m₁:Ev} {y:Str} {elt:Expr} {gens:List Comprehension} {scope:Scope} {cpos:Pos} {pos' pos} (hm:Bd.cel y p true∈ctx) (hc:Y8 ctx y p=true) (h:XD W ctx b m₁ (.ListComp elt gens scope cpos)):Z9 W ctx b (XO (tV p) m₁) (.Assign [.Name y pos'] (.ListComp elt gens scope cpos) pos):=λA env ρ σ vs s n bk ct r Q E OA nb F O m q=>by
 have hk:env.kindOf y=some .cell:=((F.cel y p true hm).1).resolve_right λh=>by cases h.1
 have hs:swapsWith (.ListComp elt gens scope cpos) (some (.Name y pos')) pos.line env=pure false:=by
  have hbk:env.blockKind=.function:=by unfold Env.blockKind;rw [F.kind];rfl
  unfold swapsWith
  simp only [hk,hbk]
  rfl
 refine wpAny_Assign_Name (h A env ρ σ vs s (λx h1=>Y7 x vs p λvs'=>n vs' h1) _ _ OA F O m λv mv ρ₁ σ₁ s₁ k₁ v₁ O₁ X₁=>?_) hs
 exact YH (F.ext X₁) nb O₁ v₁ (.inr hm) hc k₁ λs₂ vs₂ O₂ X₂ F₂ k₂=>(q ρ₁ σ₁ s₂ O₂ (X₁.toS.trans X₂ (F.ext X₁).alive) vs₂ F₂).1 k₂
theorem VR.swap {ρ ρ':Rho} {h:Heap} (k:∀ a,own ρ' a→own ρ a) (k':∀ i,ρ (i+1)≠[]→ρ' (i+1)=ρ (i+1)) {v mv} (r:VR ρ h v mv):VR ρ' h v mv:=VM.v (.same k λ__ __ __ e=>(k' _ (e▸List.cons_ne_nil _ _)).trans e) r
theorem VRs.swap {ρ ρ':Rho} {h:Heap} (k:∀ a,own ρ' a→own ρ a) (k':∀ i,ρ (i+1)≠[]→ρ' (i+1)=ρ (i+1)) {us xs} (r:VRs ρ h us xs):VRs ρ' h us xs:=VRs.map (VR.swap k k') r
theorem OR.swap {ρ ρ':Rho} {h:Heap} {F:List Addr} {o:MO} (k:∀ a,own ρ' a→own ρ a) (k':∀ i,ρ (i+1)≠[]→ρ' (i+1)=ρ (i+1)) (X:OR W.prog W.w ρ h F o):OR W.prog W.w ρ' h F o:=X.move (λ__ __ r=>r.swap k k') λ__ __ __ e=>e
theorem MT {l:List (Nat×MO)} {n:Nat} {o:MO} {i:Nat} (h:lk l n=none):lk (l++[(n,o)]) i=if i=n then some o else lk l i:=by
 induction l with
 | nil=>
  show (if n=i then some o else none)=_
  by_cases e:i=n
  ·rw [if_pos e,if_pos e.symm]
  ·rw [if_neg e,if_neg (Ne.symm e)];rfl
 | cons p r ih=>
  obtain ⟨j,x⟩:=p
  show (if j=i then some x else lk (r++[(n,o)]) i)=if i=n then some o else if j=i then some x else lk r i
  have h':(if j=n then some x else lk r n)=none:=h
  have hj:j≠n:=λe=>by rw [if_pos e] at h';cases h'
  rw [if_neg hj] at h'
  by_cases e:j=i
  ·clear ih;subst e;rw [if_pos rfl,if_neg hj,if_pos rfl]
  ·rw [if_neg e,if_neg e,ih h']
theorem Ok.lk_none {ρ:Rho} {n:Nat} {l:List (Nat×MO)} {s:Shared} (O:Ok W ρ (.mk n l) s):lk l n=none:=by
 cases e:lk l n with
 | none=>rfl
 | some o=>
  have:=(O.hr.obj n l rfl n o e).ne_nil
  exact absurd (O.hr.bound n l rfl n (Nat.le_refl _)) this
theorem Ok.adopt {ρ:Rho} {n:Nat} {l:List (Nat×MO)} {s:Shared} {o:MO} {F P:List Addr} (O:Ok W ρ (.mk n l) s) (e:∀ a,a∈ρ 0↔a∈F∨a∈P) (hF:F≠[]) (dj:∀ a∈F,a ∉ P) (ho:OR W.prog W.w (ins (ins ρ 0 P) (n+1) F) s.heap F o) :
  Ok W (ins (ins ρ 0 P) (n+1) F) (.mk (n+1) (l++[(n,o)])) s∧(∀ a,own (ins (ins ρ 0 P) (n+1) F) a→own ρ a)∧∀ i,ρ (i+1)≠[]→ins (ins ρ 0 P) (n+1) F (i+1)=ρ (i+1):=by
 have hn:=O.hr.bound n l rfl n (Nat.le_refl _)
 have e0:ins (ins ρ 0 P) (n+1) F 0=P:=by rw [YG _ _ (by omega),X5]
 have en:ins (ins ρ 0 P) (n+1) F (n+1)=F:=X5 _ _ _
 have ei:∀ i,i≠n→ins (ins ρ 0 P) (n+1) F (i+1)=ρ (i+1):=λi hi=>by rw [YG _ _ (by omega),YG _ _ (by omega)]
 have sub:∀ i a,a∈ins (ins ρ 0 P) (n+1) F i→(i=0∧a∈P∧a∈ρ 0)∨(i=n+1∧a∈F∧a∈ρ 0)∨(i≠0∧i≠n+1∧a∈ρ i):=λi a ha=>by
  rcases Nat.eq_zero_or_pos i with rfl | hi
  ·rw [e0] at ha;exact .inl ⟨rfl,ha,(e a).mpr (.inr ha)⟩
  ·by_cases hj:i=n+1
   ·clear hi;subst hj;rw [en] at ha;exact .inr (.inl ⟨rfl,ha,(e a).mpr (.inl ha)⟩)
   ·rw [YG _ _ hj,YG _ _ (by omega)] at ha;exact .inr (.inr ⟨by omega,hj,ha⟩)
 have k:∀ a,own (ins (ins ρ 0 P) (n+1) F) a→own ρ a:=λa ⟨i,hi⟩=>by
  rcases sub i a hi with ⟨_,_,h⟩ | ⟨_,_,h⟩ | ⟨_,_,h⟩
  ·exact ⟨0,h⟩
  ·exact ⟨0,h⟩
  ·exact ⟨i,h⟩
 have k':∀ i,ρ (i+1)≠[]→ins (ins ρ 0 P) (n+1) F (i+1)=ρ (i+1):=λi hi=>ei i λz=>hi (z▸hn)
 have ln:=O.lk_none
 refine ⟨⟨⟨?_,?_,?_,?_,?_,?_⟩,O.base,O.gens,O.os⟩,k,k'⟩
 ·intro n' l' q i hi;cases q
  rw [ei i (by omega)];exact O.hr.bound n l rfl i (by omega)
 ·intro n' l' q i hi;cases q
  rw [MT ln]
  split
  ·exact ⟨_,rfl⟩
  ·rename_i z;rw [ei i z] at hi;exact O.hr.dom n l rfl i hi
 ·intro n' l' q i o' hl;cases q
  rw [MT ln] at hl
  split at hl
  ·rename_i z;clear O e0 ei hn k k' ln sub;subst z;cases hl;rw [en];exact ho
  ·rename_i z;rw [ei i z];exact (O.hr.obj n l rfl i o' hl).swap k k'
 ·intro a ha;rw [e0] at ha;exact O.hr.priv a ((e a).mpr (.inr ha))
 ·intro i j a hi hj
  rcases sub i a hi with ⟨i1,i2,i3⟩ | ⟨i1,i2,i3⟩ | ⟨i0,i1,i3⟩ <;> rcases sub j a hj with ⟨j1,j2,j3⟩ | ⟨j1,j2,j3⟩ | ⟨j0,j1,j3⟩
  ·omega
  ·exact absurd i2 (dj a j2)
  ·exact absurd (O.hr.disj 0 j a i3 j3) (Ne.symm j0)
  ·exact absurd j2 (dj a i2)
  ·omega
  ·exact absurd (O.hr.disj 0 j a i3 j3) (Ne.symm j0)
  ·exact absurd (O.hr.disj i 0 a i3 j3) i0
  ·exact absurd (O.hr.disj i 0 a i3 j3) i0
  ·exact O.hr.disj i j a i3 j3
 ·intro a ha;exact O.hr.base a (k a ha)
theorem Lx {m₁ m₂:Ev} {e e':Expr} {pos} (h:XD W ctx b m₁ e) (h':XD W ctx b m₂ e')
  (hsh:∀ env,(evalEachOpt [some e] env).zip ((evalEach [e'] env).map λv=>do let x ← v;standAt pos;pure x)=[(eval e env,do let x ← eval e' env;standAt pos;pure x)].map λp=>(some p.1,p.2):=by intro _;rfl):XD W ctx b (PF m₁ m₂) (.Dict [some e] [e'] pos):=λA env ρ σ vs s K Q E OA F O m q=>by
 refine wpAny_Dict_pairs (knd:=strKind W.prog W.w) (hsh env) (by simp) (by simp) ?_
 have hD:=XZ s.heap
 refine Xi λgk=>?_
 refine gk ?_;clear gk
 have kp:∀ b o',s.heap.get? b=some o'→(s.heap.push { cls:=.type "dict",data:=.dict #[] }).get? b=some o':=λb o' e=>Heap.get?_push_of_some _ e
 have O₀:Ok W (ins ρ 0 (s.heap.objs.size :: ρ 0)) σ { s with heap:=s.heap.push { cls:=.type "dict",data:=.dict #[] } }:=O.morePriv (t:=s.toks) hD kp ⟨_,Heap.get?_push_size _ rfl⟩
 have F₀:=F.morePriv hD kp
 have p0:ins ρ 0 (s.heap.objs.size :: ρ 0) 0=s.heap.objs.size :: ρ 0:=X5 _ _ _
 have D₀:(s.heap.push { cls:=.type "dict",data:=.dict #[] }).DictOf (strKind W.prog W.w) s.heap.objs.size []:=Heap.DictOf.new _
 show wpAny _ A (eval e env >>= λkv=>holding [kv] (eval e' env >>= λx=>standAt pos >>= λ__=>pure x) >>= λvv=>holding [kv,vv] (pure []) >>= λr=>pure ((kv,vv) :: r)) _ _ _
 refine wpAny_bind (h A env _ σ vs _ _ _ _ OA F₀ O₀ m λu x ρ₁ σ₁ s₁ k₁ v₁ O₁ X₁=>?_)
 refine wpAny_bind (wpAny_holding (wpAny_bind (h' A env ρ₁ σ₁ vs s₁ _ _ _ OA (F₀.ext X₁) O₁ k₁ λv y ρ₂ σ₂ s₂ k₂ v₂ O₂ X₂=>wpAny_bind (wpAny_standAt (wpAny_pure ?_)))))
 refine Xi λgk=>?_
 refine YF k₂ λqk qa k₃=>?_;clear k₂;clear k₁;subst qa
 refine gk ?_;clear gk
 refine wpAny_bind (wpAny_holding (wpAny_pure (wpAny_pure ?_)))
 refine Xi λgk=>?_
 refine v₁.strIE λt qa=>?_;clear v₁;subst qa
 have X₁₂:=X₁.trans X₂
 refine Ext.closePrivE (S:=λ__=>False) hD kp (λ__ h=>h.elim) (X₁₂.toP λ__=>False) λe0 Xc=>?_
 refine gk ?_;clear gk
 have hpd:s.heap.objs.size∈ρ₂ 0:=by rw [e0];exact .head _
 have DD:s₂.heap.DictOf (strKind W.prog W.w) s.heap.objs.size []:=by
  refine D₀.elim λo zz=>zz.elim λes zz=>zz.elim λep zz=>zz.elim λg r=>?_
  exact ⟨o,es,ep,X₁₂.prv _ (by rw [p0];exact .head _) _ g,r⟩
 refine ⟨[(toS qk,v)],⟨Z7 qk t,rfl,trivial⟩,DD,λh' hd' hsb=>?_⟩
 have e1:merged [] [(toS qk,v)]=[(toS qk,v)]:=rfl
 rw [e1] at hd'
 refine Xi λgk=>?_
 refine O₂.setPrivE (t:=s₂.toks+1) hpd (h':=h') (λb o n e=>(hsb.2 b n).trans e) (by refine hd'.elim λo zz=>zz.elim λ__ zz=>zz.elim λ__ zz=>zz.elim λg __=>?_;exact ⟨o,g⟩) λO₃ X₃ T₃=>?_
 have X₂₃:=(X₁₂.toP λb=>b=s.heap.objs.size).trans X₃ λb e=>by subst e;refine DD.elim λo zz=>zz.elim λ__ zz=>zz.elim λ__ zz=>zz.elim λg __=>?_;exact ⟨o,g⟩
 refine Ext.closePrivE (S:=λb=>b=s.heap.objs.size) hD kp (λb e=>e▸hD) X₂₃ λ__ Xf=>?_
 refine gk ?_;clear gk
 cases σ₂ with | mk n l=>
 have k₄:K (.ref n) (.mk (n+1) (l++[(n,.dict [(qk,y)])])):=by
  have:Zo (l++[(n,MO.dict [(qk,y)])]) λl'=>K (.ref n) (.mk (Nat.succ n) l'):=k₃
  rw [Yw] at this;exact this
 have nDP:s.heap.objs.size ∉ ρ 0:=λz=>O.hr.fresh hD ⟨0,z⟩
 have hv':VR ρ₂ h' v y:=T₃ _ _ v₂
 have pre:(∀ a,own (ins (ins ρ₂ 0 (ρ 0)) (n+1) [s.heap.objs.size]) a→own ρ₂ a)∧∀ i,ρ₂ (i+1)≠[]→ins (ins ρ₂ 0 (ρ 0)) (n+1) [s.heap.objs.size] (i+1)=ρ₂ (i+1):=by
  refine ⟨λa ⟨i,hi⟩=>?_,λi hi=>?_⟩
  ·unfold ins at hi
   split at hi
   ·rw [List.mem_singleton] at hi;subst hi;exact ⟨0,hpd⟩
   ·split at hi
    ·exact ⟨0,by rw [e0];exact .tail _ hi⟩
    ·exact ⟨i,hi⟩
  ·have hn:=O₃.hr.bound n l rfl n (Nat.le_refl _)
   rw [YG _ _ (λz=>hi (by have:=Nat.succ.inj z;rw [this];exact hn)),YG _ _ (by omega)]
 refine Xi λgk=>?_
 obtain ⟨O₅,ko,kr⟩:=O₃.adopt (F:=[s.heap.objs.size]) (P:=ρ 0) (o:=.dict [(qk,y)]) (λa=>by rw [e0];simp) (by simp) (by simpa using nDP) (OR.dict_iff.mpr ⟨_,_,rfl,hd',.cons (hv'.swap pre.1 pre.2) .nil⟩)
 refine gk ?_;clear gk
 refine q _ _ _ _ _ k₄ (.ref (by rw [X5])) O₅ ?_
 refine ⟨λi hi=>?_,λa ha=>?_,λb o e n=>Xf.keep b o e n,λb hb o e=>Xf.prv b hb o e⟩
 ·have hn:=O₃.hr.bound n l rfl n (Nat.le_refl _)
  have e1:=Xf.same i hi
  by_cases z:i=n+1
  ·subst z;rw [YG _ _ (by omega),hn] at e1;exact absurd e1.symm hi
  ·rw [YG _ _ z];exact e1
 ·refine ha.elim λi ha=>?_
  by_cases z:i=n+1
  ·subst z;rw [X5,List.mem_singleton] at ha;subst ha;exact .inr hD
  ·rw [YG _ _ z] at ha;exact Xf.fresh a ⟨i,ha⟩
end
end
section
set_option tactic.hygienic false
class Own where
 KK:Frag
 cDisc:Addr
 fLt:Addr
 tDisc:Tok
 ord:Nat→Int
 shx:MO→List (Addr×Obj)→List Value→List MV→Prop
 txt:Str→List Nat→Int→Prop
noncomputable def Mh [Own] (k:Nat) (as:List (Addr×Obj)):Prop:=∃ a d,(Own.ord k=500∧as=[(a,instObj Own.cDisc d),(d,emptyDict)])∨
 ∃ hsh t t',as=[(a,instObj Own.cDisc d),(d,dictOf [⟨hsh,.str "handler_order" t,.int (Own.ord k) t'⟩] 1)]
noncomputable instance [Own]:Cs where
 sh o as us xs:=match o with
  | .disc k=>us=[]∧xs=[]∧Mh k as
  | o=>Own.shx o as us xs
 txt:=Own.txt
variable [iO:Own]
open Own
structure DiscOk (W:Wd):Prop where
 X:KK.In W.h₀
 cls:W.mg "BaseHandler" = some (.ref cDisc)
 keep:keepIn KK (.ref cDisc)=true
 makes:makesIn KK cDisc=true
 init:findIn KK (.ref cDisc) "__init__" = some (some (.builtin "object.__init__"))
 set:findIn KK (.ref cDisc) "__setattr__" = some (some (.builtin "object.__setattr__"))
 plain:plainOver KK cDisc=true
 taker:takerIn KK cDisc "handler_order" = some none
 hasD:hasDictIn KK cDisc=true
 get:plainGet KK cDisc "handler_order" = true
 ho:findIn KK (.ref cDisc) "handler_order" = some (some (.int 500 tDisc))
 noG:specialIn KK (.int 500 tDisc) "__get__" = some none
 lt:findIn KK (.ref cDisc) "__lt__" = some (some (.ref fLt))
 ltF:isFn KK (.ref fLt)=true
section
variable {W:Wd} {ctx ctx':List Bd} {b:Nat}
noncomputable def RY:Fn:=λxs h K=>∃ k,xs=[.int (ord k)]∧RE (.disc k) h K
noncomputable abbrev Ys:Nat:=19
theorem D6 (P:PW W) (D:DiscOk W) (hm:(recsOf pw)[7]?=some ⟨"_law_disc",ZZ Ys,Yl Ys,Yj Ys,U3 Ys⟩):JN W 3 RY "_law_disc":=by
 refine Xi λgk=>?_
 refine (P.fn _ (List.mem_of_getElem? hm)).elim λa zz=>zz.elim λo zz=>zz.elim λpm zz=>zz.elim λcode zz=>zz.elim λdoc zz=>zz.elim λh1 zz=>zz.elim λh2 zz=>zz.elim λh3 h4=>?_
 refine gk ?_;clear gk
 refine ⟨a,o,_,h1,h2,h3,λA ρ σ s xs us K' Q E OA hu O m q=>?_⟩
 refine Xi λgk=>?_
 obtain ⟨k,rfl,m⟩:=m
 refine gk ?_;clear gk
 cases hu with | cons hu hr=>
 cases hr
 obtain ⟨t,rfl⟩:=hu.intI
 have hroom:A.depth<recursionLimit:=by have:=OA.2.1;omega
 refine wpAny_call (codeAny_call_function hroom (O.base _ _ h2) h3 rfl rfl rfl ?_ ?_)
 ·obtain ⟨c,oc,vs,tq,hc,hoc,hdc,hq⟩:=h4
  exact ⟨c,oc,vs,tq,hc,O.base _ _ hoc,hdc,hq⟩
 have hb:bindArgs (docDef "_law_disc" (ZZ Ys) (Yl Ys) (Yj Ys) pm code doc) ⟨[.int (ord k) t],[]⟩=pure [(("order":Str),Value.int (ord k) t)]:=by kernel_rfl
 rw [hb]
 refine wpAny_pure (wpAny_newFunctionEnv (show ∀ x∈(Yj Ys).names,x.2≠.cell by decide +kernel) (by intro x hx;rw [List.mem_singleton] at hx;subst hx;show (Yj Ys).names.lookup ("order":Str)=some .local;decide +kernel) (λh' hns hsb=>?_) rfl)
 have k0:∀ b o,s.heap.get? b=some o→h'.get? b=some o:=λb o e=>hsb.extBut b o (Nat.ne_of_lt (Heap.lt_size e)) (Heap.get?_push_of_some _ e)
 refine Xi λgk=>?_
 obtain ⟨L,hL⟩:∃ L,L=s.heap.objs.size:=⟨_,rfl⟩
 refine gk ?_;clear gk
 rw [← hL] at hns hsb ⊢
 have F:Fr s.heap L h' _:=⟨hns,k0,by rw [hL];exact Nat.le_refl _⟩
 have X₀:KK.In s.heap:=D.X.keeps O.base
 refine ⟨P.glb.nl.keeps λb o e=>F.keep b o (O.base b o e),codeAny_func ?_⟩
 refine gq λQ' hQ=>?_
 refine wpAny_execs_cons (wpAny_Assign_Name (Call_ (Name_function_global rfl rfl (loadGlobal_global (P.glb.g.at' λo e=>F.keep _ _ (O.base _ _ e)) D.cls ?_))))
 refine callWith_K0 (X₀.keeps F.keep) D.keep (wpAny_call (make_K0 F News.nil (X₀.keeps F.keep) D.makes D.init λx dx h₂ F₂ N₂ __ hdx=>?_))
 refine wpAny_storeName_local rfl F₂.ns (λh₃ hn₃ hs₃=>?_) rfl;refine gT (s:=s) (h:=h₃) λ__=>?_
 have F₃:=F₂.set hn₃ hs₃
 have N₃:=N₂.set hs₃
 have hord:(λy=>if y=("disc":Str) then some (Value.ref x) else List.lookup y [(("order":Str),Value.int (ord k) t)].reverse) ("order":Str)=some (.int (ord k) t):=rfl
 have hdisc:(λy=>if y=("disc":Str) then some (Value.ref x) else List.lookup y [(("order":Str),Value.int (ord k) t)].reverse) ("disc":Str)=some (.ref x):=rfl
 have fin:∀ (h₅:Heap) (t₅:Tok) (od:Obj),Fr s.heap L h₅ (λy=>if y=("disc":Str) then some (Value.ref x) else List.lookup y [(("order":Str),Value.int (ord k) t)].reverse)→News s.heap L h₅ [(x,instObj cDisc dx),(dx,od)]→Mh k [(x,instObj cDisc dx),(dx,od)]→Q (.ref x) { s with heap:=h₅,toks:=t₅ }:=λh₅ t₅ od F₅ N₅ S₅=>by
  cases σ with | mk n l=>
  have m':K' (.ref n) (.mk (n+1) (l++[(n,.disc k)])):=by
   have:Zo (l++[(n,MO.disc k)]) λl'=>K' (.ref n) (.mk (Nat.succ n) l'):=m
   rw [Yw] at this;exact this
  obtain ⟨O',X'⟩:=O.newObj (t:=t₅) (h':=h₅) (o:=.disc k) (F:=[x,dx]) (by simp) (by
   intro a ha
   clear F₃ F₅ hdisc hn₃ hord;rcases List.mem_cons.mp ha with rfl | ha
   ·exact (N₅ _ (.head _)).2.2
   ·rw [List.mem_singleton] at ha;clear N₂ N₃ S₅ hdx;subst ha;exact (N₅ _ (.tail _ (.head _))).2.2) F₅.keep
   ⟨[(x,instObj cDisc dx),(dx,od)],[],[],rfl,by simp,λp hp=>(N₅ p hp).1,.nil,rfl,rfl,S₅⟩
  exact q _ _ _ _ _ m' (.ref (by rw [X5])) O' X'
 refine wpAny_execs_cons (wpAny_If (wpAny_isTrue_Compare1 (wpAny_Name (wpAny_loadName_local rfl rfl hn₃ hord (wpAny_Constant_int (PySem.P.ne_int (wpAny_truthy_bool ?_)))))))
 by_cases h5:ord k=500
 ·have e:(ord k != 500)=false:=by simp [h5]
  rw [e]
  refine wpAny_execs_nil ?_
  refine wpAny_execs_cons (wpAny_Return_some (wpAny_Name (wpAny_loadName_local rfl rfl hn₃ hdisc ?_)))
  exact hQ _ _ (fin _ _ _ F₃ N₃ ⟨x,dx,.inl ⟨h5,rfl⟩⟩)
 ·have e:(ord k != 500)=true:=by simpa using h5
  rw [e]
  refine wpAny_execs_cons (plainObj_wpAny_Assign_Attribute (wpAny_Name (wpAny_loadName_local rfl rfl hn₃ hord (wpAny_Name (wpAny_loadName_local rfl rfl hn₃ hdisc ?_)))))
  refine set_dict F₃ X₀ N₃ (InstAt.of_news N₃ (.head _) (.tail _ (.head _))) rfl D.set D.plain D.taker D.hasD rfl rfl (Upd.tail (Nat.ne_of_gt hdx) (Upd.head (λp hp=>by cases hp))) (Nat.le_of_ble_eq_true rfl) λh₅ F₅ N₅=>?_;refine gT (s:=s) (h:=h₅) λ__=>?_
  refine wpAny_execs_nil ?_
  refine wpAny_execs_cons (wpAny_Return_some (wpAny_Name (wpAny_loadName_local rfl rfl F₅.ns hdisc ?_)))
  exact hQ _ _ (fin _ _ _ F₅ N₅ ⟨x,dx,.inr ⟨_,_,_,rfl⟩⟩)
end
end
section
set_option tactic.hygienic false
variable [iO:Own]
open Own
noncomputable def I9 (i:Nat):List Stmt:=match pw.main.body.drop i with
 | .ClassDef _ _ _ body _ _ _ _ _ _ _ :: _=>body
 | _=>[]
noncomputable def KV (i j:Nat):Arguments×List Stmt×Scope×Pos:=match (I9 i).drop j with
 | .FunctionDef _ a body _ _ _ scope _ _ pos :: _=>(a,body,scope,pos)
 | _=>(⟨[],[],none,[],[],none,[]⟩,[],default,default)
noncomputable def V0 (i j:Nat):List Stmt:=(KV i j).2.1
noncomputable def X6 (i j:Nat):Scope:=(KV i j).2.2.1
noncomputable def Bg (i j:Nat):Arguments:=(KV i j).1
theorem Vx:builtinKind "hasattr" = none:=by decide +kernel
theorem GD:plainId "hasattr" = true:=by decide +kernel
theorem GC:entryFor table "hasattr" = some Builtin.«hasattr»:=entryFor_of_tree (by kernel_rfl)
theorem Vz (a b:Value):argsOk "hasattr" ⟨[a,b],[]⟩:=by unfold argsOk;kernel_rfl
section
variable {prog:Program} {w:World} {A:Around} {E:Value→Shared→Prop} {s:Shared} {K:Frag} {x C:Addr} {ox:Obj} {od:Option Obj} {name:Str} {Q:Value→Shared→Prop}
theorem M5 {t:Tok} {v:Value} (X:K.In s.heap) (I:InstAt s.heap x ox C od) (hm:subIn K (.ref C) (.type "module")=some false) (hga:findIn K (.ref C) "__getattribute__" = some (some (.builtin "object.__getattribute__")))
  (hf:findObj K C od name=some (.value v)) (hh:handedIn v=true) (h:Q (.bool true) s):wpAny (model prog w) A (call (.builtin "hasattr") [.ref x,.str name t]) Q E s:=by
 refine call_function_entry Vx GD GC (Vz _ _) ?_
 obtain ⟨hp,g,d,tk,os⟩:=s
 have L0:=I.type (M:=model prog w)
 have L1:=looks_findIn (M:=model prog w) X hga
 have L2:=looks_find (M:=model prog w) X I hf
 have L3:=looks_subIn (M:=model prog w) X hm
 unfold Builtin.«hasattr»
 refine wpAny_bind (wpAny_pure ?_)
 refine wpAny_bind (wpAny_of_eq (a:=()) (by rfl) ?_)
 refine wpAny_bind (L0.at ?_)
 dsimp only
 refine wpAny_bind ?_
 refine wpAny_bind (m:=asStr? (.str name t)) (wpAny_of_eq (a:=some name) (by rfl) ?_)
 dsimp only
 refine wpAny_bind (m:=isInstance (.ref x) (.type "module")) (wpAny_bind (L0.at (L3.at ?_)))
 refine wpAny_pure ?_
 refine wpAny_bind ?_
 unfold getAttrBy? getAttrBy
 refine wpAny_bind (wpAny_attempt (wpAny_holding (wpAny_bind (L0.at (wpAny_bind (L1.at ?_))))))
 show wpAny _ _ (getAttrEveryday _ _ _) _ _ _
 refine wpAny_bind (wpAny_onRaise (wpAny_runValue (codeAny_builtin F.plainObj_entry_getattr_hooked ?_)))
 refine wpAny_bind (wpAny_pure (wpAny_bind (L0.at (wpAny_bind (L2.at ?_)))))
 refine wpAny_pure ?_
 show wpAny _ _ (handedOut v) _ _ _
 rw [handedOut_of hh]
 exact wpAny_pure (wpAny_pure (wpAny_pure ⟨_,rfl,h⟩))
theorem VU:typeLookup (.type "str") (Str.ofString "handler_order")=pure none:=by rw [typeLookup_type,builtinLookup_eq_fast];kernel_rfl
set_option maxHeartbeats 4000000 in
theorem LI {y:Str} {u t:Tok} (hA:A.handled=none) (h:∀ h' tk,(∀ b o,s.heap.get? b=some o→h'.get? b=some o)→Q (.bool false) { s with heap:=h',toks:=tk }):wpAny (model prog w) A (call (.builtin "hasattr") [.str y u,.str "handler_order" t]) Q E s:=by
 refine call_function_entry Vx GD GC (Vz _ _) ?_
 refine Xi λgk=>?_
 obtain ⟨hp,g,d,tk,os⟩:=s
 refine gk ?_;clear gk
 unfold Builtin.«hasattr»
 refine wpAny_bind (wpAny_pure ?_)
 refine wpAny_bind (wpAny_of_eq (a:=()) (by rfl) ?_)
 refine wpAny_bind (wpAny_of_eq (a:=.type "str") (by rfl) ?_)
 dsimp only
 refine wpAny_bind (wpAny_of_eq (a:=some (Str.ofString "handler_order")) (by rfl) ?_)
 dsimp only
 refine wpAny_bind (wpAny_of_eq (a:=none) VU ?_)
 refine wpAny_bind (wpAny_of_eq (a:=0) (by rfl) ?_)
 refine wpAny_bind ?_
 unfold getAttrBy? getAttrBy
 refine wpAny_bind (wpAny_attempt (wpAny_holding (wpAny_bind (wpAny_of_eq (a:=.type "str") (by rfl) ?_))))
 have hT:∀ s':Shared,s'.TypeIs (.str y u) "str":=λ__=>rfl
 have f1:=sub_AttributeError
 have f3:=PySem.F.slot_str_getattribute.lookup
 have f4:=PySem.F.slot_str_getattribute.bind (.str y u)
 have f5:=am_str_getattr_none
 refine wpAny_bind (wpAny_of_eq f3 ?_)
 show wpAny _ _ (getAttrByItsOwn (.str y u) (.str (Str.ofString "handler_order") t) (.type "str") (.builtin "object.__getattribute__") false false) _ _ _
 unfold getAttrByItsOwn
 refine wpAny_bind (wpAny_of_eq (a:=none) (by rfl) (wpAny_bind (wpAny_attempt (wpAny_holding ?_))))
 repeat (any_goals (first | assumption | ((with_reducible show wpAny _ _ (call (Value.builtin "object.__getattribute__") _ _) _ _ _);refine call_meets PySem.F.slot_str_getattribute (hT _) PySem.F.entry_object_getattribute (PySem.F.args_object_getattribute_2 _ _) (meets_getattribute_miss_str y u _ _ VU (by size_fits)) ⟨hA,λh' tk' e hx=>?_⟩) | wp_step))
 have kp:=hx.keeps
 refine Xi λgk=>?_
 refine hx.there.elim λt' zz=>zz.elim λu' he=>?_
 refine gk ?_;clear gk
 show wpAny _ _ (getattributeRaised _ _ _ _ _ _ _) _ _ _
 unfold getattributeRaised
 repeat (any_goals (first | assumption | wp_step))
 exact ⟨_,rfl,h _ _ kp⟩
end
end
section
set_option tactic.hygienic false
variable [iO:Own]
open Own
structure DiscLt (W:Wd):Prop extends DiscOk W where
 noMod:subIn KK (.ref cDisc) (.type "module")=some false
 ga:findIn KK (.ref cDisc) "__getattribute__" = some (some (.builtin "object.__getattribute__"))
 ltObj:∃ oc od sl doc pm an cdv ct,KK.lookup fLt=some ⟨oc,od,.func (fnOf "__lt__" "BaseHandler.__lt__" (Bg 16 3) (V0 16 3) (X6 16 3) .none .none doc pm an cdv ct),sl⟩∧codeIn KK cdv "BaseHandler.__lt__" = true
section
variable {W:Wd} {ctx ctx':List Bd} {b:Nat}
theorem Db {k:Nat} {as:List (Addr×Obj)} {h:Heap} (D:DiscLt W) (S:Mh k as) (g:∀ p∈as,h.get? p.1=some p.2):∃ a d od t,as.map (·.1)=[a,d]∧InstAt h a (instObj cDisc d) cDisc (some od)∧findObj KK cDisc (some od) "handler_order" = some (.value (.int (ord k) t)):=by
 obtain ⟨a,d,⟨e,rfl⟩ | ⟨hsh,t,t',rfl⟩⟩:=S
 ·refine ⟨a,d,emptyDict,tDisc,rfl,⟨g _ (.head _),rfl,rfl,g _ (.tail _ (.head _))⟩,?_⟩
  rw [e]
  exact findObj_cls (od:=emptyDict) D.hasD D.ho D.noG rfl dk rfl
 ·refine ⟨a,d,_,t',rfl,⟨g _ (.head _),rfl,rfl,g _ (.tail _ (.head _))⟩,?_⟩
  exact findObj_own D.hasD D.ho (by unfold noGet;rw [Option.all_some,D.noG];rfl) rfl
theorem UW {k:Nat} {as:List (Addr×Obj)} {h:Heap} (D:DiscLt W) (S:Mh k as) (g:∀ p∈as,h.get? p.1=some p.2) {C':Prop} (f':∀ a d od t,as.map (·.1)=[a,d]→InstAt h a (instObj cDisc d) cDisc (some od)→findObj KK cDisc (some od) "handler_order" = some (.value (.int (ord k) t))→C'):C':=by refine (Db D S g).elim λa zz=>zz.elim λd zz=>zz.elim λod zz=>zz.elim λt zz=>zz.elim λq0 zz=>zz.elim λq1 q2=>?_;exact f' a d od t q0 q1 q2
theorem T8:bootBuiltins "hasattr" = some (.builtin "hasattr"):=by decide +kernel
theorem Bu (P:PW W) (D:DiscLt W) {A:Around} {ρ:Rho} {σ:H} {s:Shared} {x:Addr} {dx:Addr} {ox:Obj} {i:Int} {ti:Tok} {b:Value} {r:Bool} {Q E:Value→Shared→Prop} (OA:OkA A 1) (O:Ok W ρ σ s)
  (I:InstAt s.heap x (instObj cDisc dx) cDisc (some ox)) (hx:findObj KK cDisc (some ox) "handler_order" = some (.value (.int i ti)))
  (hb:(∃ y dy oy j tj,b=.ref y∧InstAt s.heap y (instObj cDisc dy) cDisc (some oy)∧findObj KK cDisc (some oy) "handler_order" = some (.value (.int j tj))∧r=decide (i<j))∨(∃ y t,b=.str y t∧r=true))
  (q:∀ h' t,(∀ b o,s.heap.get? b=some o→h'.get? b=some o)→Q (.bool r) { s with heap:=h',toks:=t }):wpAny (model W.prog W.w) A (call (.ref fLt) [.ref x,b]) Q E s:=by
 refine Xi λgk=>?_
 refine D.ltObj.elim λoc zz=>zz.elim λod zz=>zz.elim λsl zz=>zz.elim λdoc zz=>zz.elim λpm zz=>zz.elim λan zz=>zz.elim λcdv zz=>zz.elim λct zz=>zz.elim λhl hc=>?_
 refine gk ?_;clear gk
 have X:KK.In s.heap:=D.X.keeps O.base
 have hroom:A.depth<recursionLimit:=by have:=OA.2.1;omega
 refine wpAny_call (codeAny_call_function hroom (X _ _ hl) rfl rfl rfl rfl (codeRec_of X hc) ?_)
 have hbd:bindArgs (fnOf "__lt__" "BaseHandler.__lt__" (Bg 16 3) (V0 16 3) (X6 16 3) .none .none doc pm an cdv ct) ⟨[.ref x,b],[]⟩=pure [(("self":Str),Value.ref x),(("other":Str),b)]:=by kernel_rfl
 rw [hbd]
 refine wpAny_pure (wpAny_newFunctionEnv (show ∀ x∈(X6 16 3).names,x.2≠.cell by decide +kernel) (by
  intro y hy
  rcases List.mem_cons.mp hy with rfl | hy
  ·show (X6 16 3).names.lookup ("self":Str)=some .local;decide +kernel
  ·rw [List.mem_singleton] at hy;subst hy;show (X6 16 3).names.lookup ("other":Str)=some .local;decide +kernel) (λh' hns hsb=>?_) rfl)
 have k0:∀ b o,s.heap.get? b=some o→h'.get? b=some o:=λb o e=>hsb.extBut b o (Nat.ne_of_lt (Heap.lt_size e)) (Heap.get?_push_of_some _ e)
 have X':KK.In h':=X.keeps k0
 have G':h'.Ns mainGlobals W.mg:=P.glb.g.at' λo e=>k0 _ _ (O.base _ _ e)
 have B':h'.Ns builtinsNs W.mb:=P.glb.b.at' λo e=>k0 _ _ (O.base _ _ e)
 have I':InstAt h' x (instObj cDisc dx) cDisc (some ox):=⟨k0 _ _ I.at_,rfl,rfl,k0 _ _ I.dict⟩
 refine ⟨P.glb.nl.keeps λb o e=>k0 b o (O.base b o e),codeAny_func ?_⟩
 refine gq λQ' hQ=>?_
 have hself:(λy=>List.lookup y ([(("self":Str),Value.ref x),(("other":Str),b)]:List (Str×Value)).reverse) ("self":Str)=some (.ref x):=rfl
 have hother:(λy=>List.lookup y ([(("self":Str),Value.ref x),(("other":Str),b)]:List (Str×Value)).reverse) ("other":Str)=some b:=rfl
 have hA:A.handled=none:=OA.1
 refine wpAny_execs_cons (wpAny_If (gq λNx hN=>wpAny_isTrue_Not (isTrue_plain (Call_ (Name_function_global rfl rfl (loadGlobal_builtin G' (P.nob _ dk) B' ((P.glb.bi _ (by decide)).trans T8) (PyProof.Rows.callWith_builtin1 (args_cons (wpAny_Name (wpAny_loadName_local rfl rfl hns hother (args_cons (wpAny_Constant_str (args_nil ?_)))))))))))))
 clear hbd;rcases hb with ⟨y,dy,oy,j,tj,rfl,Iy,hy,rfl⟩ | ⟨y,t,rfl,rfl⟩
 ·have Iy':InstAt h' y (instObj cDisc dy) cDisc (some oy):=⟨k0 _ _ Iy.at_,rfl,rfl,k0 _ _ Iy.dict⟩
  refine M5 X' Iy' D.noMod D.ga hy rfl (wpAny_truthy_bool (hN _ _ ?_))
  refine wpAny_execs_nil ?_
  refine wpAny_execs_cons (wpAny_Return_some (wpAny_Compare1 (Attribute_name (wpAny_Name (wpAny_loadName_local rfl rfl hns hself (get_value X' I' D.ga hx rfl (Attribute_name (wpAny_Name (wpAny_loadName_local rfl rfl hns hother (get_value X' Iy' D.ga hy rfl (PySem.P.lt_int ?_))))))))) rfl))
  exact hQ _ _ (q _ _ k0)
 ·refine LI hA λh₂ tk hk=>wpAny_truthy_bool (hN _ _ ?_)
  refine wpAny_execs_cons (wpAny_Return_some (wpAny_Constant_bool ?_))
  exact hQ _ _ (q _ _ λb o e=>hk b o (k0 b o e))
end
end
section
variable [iO:Own]
open Own
section
variable {prog:Program} {w:World} {A:Around} {E:Value→Shared→Prop} {s:Shared} {K:Frag} {x C f:Addr} {ox:Obj} {od:Option Obj} {b tb:Value} {op:CmpOp} {Q:Value→Shared→Prop}
theorem Fp (hu:A.units<cLine) (X:K.In s.heap) (I:InstAt s.heap x ox C od) (hb:Looks (model prog w) s.heap (typeOf b) tb) (hn:notFirst K C tb=true)
  (hs:findIn K (.ref C) (cmpInfo op).2.1=some (some (.ref f))) (hf:isFn K (.ref f)=true)
  (h:wpAny (model prog w) A (call (.ref f) [.ref x,b]) (PySem.W.CmpBack Q) E s):wpAny (model prog w) A (richCompare op (.ref x) b) Q E s:=by
 have one:wpAny (model prog w) A (tryCompare (.ref x) (cmpInfo op).2.1 b) (λr s'=>∃ v,r=some v∧Q v s') E s:=
by
  unfold tryCompare
  refine wpAny_bind (ifBound_K X I hs hf (wpAny_mono h (λv s' hv=>?_) λ__ __ e=>e))
  cases v <;> first | exact hv.elim | exact wpAny_pure ⟨_,rfl,hv⟩
 unfold richCompare
 simp only [oneThing_ref]
 refine wpAny_holding (wpAny_bind (wpAny_cRoomFor hu (wpAny_bind (I.type.here (wpAny_bind (hb.here ?_))))))
 have fin:∀ {k:Option Value→Sem Value},(∀ v,k (some v)=pure v)→wpAny (model prog w) A (tryCompare (.ref x) (cmpInfo op).2.1 b) (λr s'=>wpAny (model prog w) A (k r) Q E s') E s:=λhk=>
  wpAny_mono one (λr s' ⟨v,e,hq⟩=>by subst e;rw [hk];exact wpAny_pure hq) λ__ __ e=>e
 split
 ·rename_i q
  have e:subIn K tb (.ref C)=some false:=by
   rcases Bool.or_eq_true_iff.mp hn with e | e
   ·rw [beq_iff_eq.mp e] at q;simp at q
   ·exact beq_iff_eq.mp e
  refine wpAny_bind ((looks_subIn X e).here ?_)
  simp only [Bool.false_eq_true,if_false]
  exact wpAny_bind (fin λv=>rfl)
 ·refine wpAny_bind (wpAny_pure ?_)
  simp only [Bool.false_eq_true,if_false]
  exact wpAny_bind (fin λv=>rfl)
end
section
variable {W:Wd} {ctx ctx':List Bd} {b:Nat}
theorem DZ {o:MO} {k:Nat→Prop} (h:RZ o k):∃ i,o=.disc i∧k i:=by cases o <;> first | exact ⟨_,rfl,h⟩ | exact h.elim
theorem Tv {o:MO} {k:Nat→Prop} (h:RZ o k) {C':Prop} (f':∀ i,o=.disc i→k i→C'):C':=by refine (DZ h).elim λi zz=>zz.elim λq0 q1=>?_;exact f' i q0 q1
theorem NL (P:PW W) (D:DiscLt W) (nf:notFirst KK cDisc (.type "str")=true) (mono:∀ i j,ord i<ord j↔i<j):JQ W cLt (compareOp .Lt):=by
 intro A ρ σ s x y u v K' Q E OA hu hv O m q
 refine Xi λgk=>?_
 refine XT m λi qa m1=>?_;clear m;subst qa
 refine XU m1 λn l o qa hl m2=>?_;clear m1;subst qa
 refine Tv m2 λk qa m3=>?_;clear m2;subst qa
 refine gk ?_;clear gk
 obtain ⟨a,F,qa,e⟩:=hu.refI;clear hu;subst qa
 have X:KK.In s.heap:=D.X.keeps O.base
 have hA:A.units<cLine:=by have:=OA.2.2;omega
 refine Xi λgk=>?_
 refine (O.hr.obj n l rfl i _ hl).elim λas zz=>zz.elim λus zz=>zz.elim λxs zz=>zz.elim λe1 zz=>zz.elim λn1 zz=>zz.elim λg1 zz=>zz.elim λr1 zz=>zz.elim λ__ zz=>zz.elim λ__ S1=>?_
 refine UW D S1 g1 λa' d od t e2 I f=>?_
 refine gk ?_;clear gk
 rw [e1,e2] at e
 clear e2;cases e
 show wpAny _ _ (richCompare .Lt (.ref a) v) _ _ _
 have fin:∀ r:Bool,K' r→∀ h' t,(∀ b o,s.heap.get? b=some o→h'.get? b=some o)→PySem.W.CmpBack Q (.bool r) { s with heap:=h',toks:=t }:=λr hk h' t kp=>q r _ hk (O.keep kp) (.of_all kp)
 cases y with
 | ref j=>
  obtain ⟨a2,F2,qa,e'⟩:=hv.refI;clear hv;subst qa
  refine Xi λgk=>?_
  refine XU m3 λ__ __ o2 e4 hl2 m4=>?_
  refine gk ?_;clear gk
  cases e4
  refine Xi λgk=>?_
  refine Tv m4 λk2 qa m5=>?_;clear m4;subst qa
  refine (O.hr.obj n l rfl j _ hl2).elim λas2 zz=>zz.elim λus2 zz=>zz.elim λxs2 zz=>zz.elim λe12 zz=>zz.elim λn12 zz=>zz.elim λg12 zz=>zz.elim λr12 zz=>zz.elim λ__ zz=>zz.elim λ__ S12=>?_
  refine UW D S12 g12 λa2' d2 od2 t2 e22 I2 f2=>?_
  refine gk ?_;clear gk
  rw [e12,e22] at e'
  clear e22;cases e'
  refine Fp (C:=cDisc) (f:=fLt) (tb:=.ref cDisc) hA X I I2.type (by unfold notFirst;simp) D.lt D.ltF ?_
  refine Bu P D (r:=decide (ord k<ord k2)) OA O I f (.inl ⟨a2,d2,od2,ord k2,t2,rfl,I2,f2,rfl⟩) λh' t kp=>fin _ ?_ h' t kp
  have:decide (ord k<ord k2)=Nat.blt k k2:=by
   rw [Bool.eq_iff_iff,decide_eq_true_eq,Nat.blt_eq];exact mono k k2
  rw [this];exact m5
 | str z=>
  refine hv.strIE λt' qa=>?_;clear hv;subst qa
  refine Fp (C:=cDisc) (f:=fLt) (tb:=.type "str") hA X I (Looks.of_pure rfl) nf D.lt D.ltF ?_
  exact Bu P D (r:=true) OA O I f (.inr ⟨_,_,rfl,rfl⟩) λh' t kp=>fin _ m3 h' t kp
 | _=>exact False.elim m3
end
end
section
noncomputable def JU (K:Frag) (C:Addr):Bool:=match K.lookup C with
 | some ⟨_,_,.cls cd,sl⟩=>!cd.abstract&&!cd.hasDel&&(sl.toList[4]?).join==some (.builtin "list.__new__")&&!cd.mro.isEmpty&&cd.mro.contains (.ref C)&&cd.mro.contains (.type "list")&&
   specialIn K (.ref C) "__call__"==some (some (.builtin "type.__call__"))&&instIn K (.ref C) (.type "type")==some true
 | _=>false
structure MakesL (M:Model) (h:Heap) (C:Addr):Prop where
 obj:∃ oc od cd sl,h.get? C=some ⟨oc,od,.cls cd,sl⟩∧cd.abstract=false∧cd.hasDel=false∧cd.mro.isEmpty=false
 made:Looks M h (Bind.madeBy (.ref C)) (some "list.__new__")
 base:Looks M h (Bind.staticBase (.ref C)) (.ref C)
 self:Looks M h (isSubtype (.ref C) (.ref C)) true
 top:Looks M h (isSubtype (.ref C) (.type "list")) true
 call:Looks M h (specialOf (.ref C) "__call__") (some (.builtin "type.__call__"))
 typ:Looks M h (isInstance (.ref C) (.type "type")) true
theorem Da {K:Frag} {M:Model} {h:Heap} (X:K.In h) {C:Addr} (e:JU K C=true):MakesL M h C:=by
 unfold JU at e
 split at e
 ·rename_i oc od cd sl ho
  simp only [Bool.and_eq_true,Bool.not_eq_true',beq_iff_eq] at e
  refine Xi λgk=>?_
  obtain ⟨⟨⟨⟨⟨⟨⟨e1,e2⟩,e3⟩,e4⟩,e5⟩,e6⟩,e7⟩,e8⟩:=e
  have hc:clsIn K C=some cd:=by unfold clsIn;rw [ho]
  have hm:Looks M h (mroOf (.ref C)) cd.mro:=(looks_clsIn X hc).andThen .now
  obtain ⟨c,l,hl⟩:∃ c l,cd.mro=c :: l:=by cases q:cd.mro with | nil=>rw [q] at e4;cases e4 | cons c l=>exact ⟨c,l,rfl⟩
  refine gk ?_;clear gk
  have made:Looks M h (Bind.madeBy (.ref C)) (some "list.__new__"):=by
   intro A Q E s k q
   unfold Bind.madeBy
   refine wpAny_bind (hm A _ E s k ?_)
   rw [hl,List.forIn_cons]
   refine wpAny_bind (wpAny_bind (wpAny_bind (wpAny_bind (wpAny_loadPart (k _ _ (X _ _ ho)) (wpAny_pure ?_)))))
   dsimp only
   rw [← Array.getElem?_toList,e3]
   exact wpAny_pure (wpAny_pure (wpAny_pure q))
  refine ⟨⟨oc,od,cd,sl,X _ _ ho,e1,e2,e4⟩,made,?_,looks_mroIn X ?_,looks_mroIn X ?_,looks_specialIn X e7,looks_instIn X e8⟩
  ·intro A Q E s k q
   unfold Bind.staticBase
   refine wpAny_bind (hm A _ E s k ?_)
   rw [hl,List.forIn_cons]
   exact wpAny_bind (wpAny_bind (wpAny_bind (made A _ E s k (wpAny_pure (wpAny_pure (wpAny_pure q))))))
  ·unfold mroIn;rw [hc,Option.bind_some,if_neg (by rw [e4];decide),e5]
  ·unfold mroIn;rw [hc,Option.bind_some,if_neg (by rw [e4];decide),e6]
 ·cases e
noncomputable abbrev Xu (C dx:Addr) (us:List Value) (n:Nat):Obj:={ cls:=.ref C,dict:=some dx,data:=.seq us.toArray n }
theorem DE:builtinKind "list.__new__" = some .builtinFn:=by decide +kernel
theorem K3:splitId "list.__new__" = some ("list","__new__"):=by decide +kernel
section
variable {prog:Program} {w:World} {A:Around} {K:Frag} {C:Addr} {R:Result→Shared→Prop} {h:Heap} {g:Array GenState} {d:Drawn} {t:Nat} {os:OsState}
theorem Sd {a:Value} (Y:MakesL (model prog w) h C)
  (hq:R (.ok (.ret (.ref (h.objs.size+1)))) ⟨(h.push emptyDict).push (Xu C h.objs.size [] 0),g,d,t,os⟩) :
  codeAny (model prog w) A (.call (.builtin "list.__new__") ⟨[.ref C,a],[]⟩) R ⟨h,g,d,t,os⟩:=by
 refine Xi λgk=>?_
 obtain ⟨⟨oc,od,cd,sl,hC,e1,e2,e4⟩,made,base,self,top,call,typ⟩:=Y
 refine gk ?_;clear gk
 refine codeAny_of_tree ?_
 show wpAny _ A.in1 (do checkBuiltinCall "list.__new__" ⟨[.ref C,a],[]⟩;again (.builtin "list.__new__" ⟨[.ref C,a],[]⟩)) _ _ _
 have hsig:(match Manifest.signature? "list.__new__" with | some sig=>Bind.checkArgs "list.__new__" sig ⟨[.ref C,a],[]⟩ | none=>pure ())=(pure ():Sem Unit):=by kernel_rfl
 have fin:codeAny (model prog w) A (.builtin "list.__new__" ⟨[.ref C,a],[]⟩) R ⟨h,g,d,t,os⟩:=by
  refine codeAny_builtin_stack PySem.F.entry_list_new rfl λp st=>?_
  have hown:=owner_list_new
  simp only [hown]
  unfold isType
  repeat (first | simp only [bne_self_eq_false,beq_self_eq_true,Bool.not_true,Bool.false_eq_true,if_false,if_true] | lk)
  refine nd_load (Heap.get?_push_of_some _ (Heap.get?_push_of_some _ hC)) (nd_pure (wpAny_pure ?_))
  rw [e2]
  refine wpAny_pure (wpAny_pure ?_)
  show R _ _
  rw [Heap.size_push]
  exact hq
 refine wpAny_bind (gq λN hN=>?_)
 unfold checkBuiltinCall
 rw [DE,K3]
 cases hsg:Manifest.signature? "list.__new__" with
 | none=>
  have h:(Manifest.signature? "list.__new__").isSome=true:=by decide +kernel
  rw [hsg] at h;cases h
 | some sig=>
  rw [hsg] at hsig
  dsimp only at hsig ⊢
  simp only [hsig,beq_self_eq_true,if_true]
  repeat (first | simp only [bne_self_eq_false,beq_self_eq_true,Bool.not_true,Bool.false_eq_true,if_false,if_true] | lk)
  exact hN _ _ (wpAny_pure ⟨plainId_quiet PySem.F.plain_list_new _,fin⟩)
theorem CS {a:Value} {init:Value} (Y:MakesL (model prog w) h C) (hi:Looks (model prog w) h (typeLookup (.ref C) "__init__") (some init))
  (hb:∀ self,Looks (model prog w) h (bindSpecial init self) (init,[self]))
  (hq:codeAny (model prog w) (A.under (.builtin "type.__call__" ⟨[.ref C,a],[]⟩)) (.call init ⟨[.ref (h.objs.size+1),a],[]⟩) (InitBack (h.objs.size+1) R) ⟨(h.push emptyDict).push (Xu C h.objs.size [] 0),g,d,t,os⟩) :
  codeAny (model prog w) A (.call (.ref C) ⟨[a],[]⟩) R ⟨h,g,d,t,os⟩:=by
 have Y':=Y
 refine Xi λgk=>?_
 obtain ⟨⟨oc,od,cd,sl,hC,e1,e2,e4⟩,made,base,self,top,call,typ⟩:=Y
 refine gk ?_;clear gk
 refine codeAny_of_tree ?_
 show wpAny _ _ (callAny (.ref C) _) _ _ _
 refine nd_load hC ?_
 show wpAny _ _ (callAny.viaDunder (.ref C) _) _ _ _
 unfold callAny.viaDunder
 refine wpAny_bind (call.at ?_)
 dsimp only
 rw [tc_bind]
 refine wpAny_bind (wpAny_pure (wpAny_bind (wpAny_pure ?_)))
 refine wpAny_pure (a:=Fin.again (.call (.builtin "type.__call__") ⟨[.ref C,a],[]⟩)) (And.intro rfl ?_)
 refine codeAny_call_builtin_at (Code.quiet_builtin _ dk) entry_typeCall (check_slot tc_kind tc_split typ (tc_args _ _ _) ?_)
 unfold Builtin.«type.__call__»
 have hm:Looks (model prog w) h (mroOf (.ref C)) cd.mro:=((Looks.ld (part:=none) hC).andThen .now).andThen .now
 repeat (first | simp only [e4,Bool.false_eq_true,if_false] | with_reducible refine wpAny_call ?_ | lk)
 refine Sd Y' ?_
 have k:∀ b o,h.get? b=some o→((h.push emptyDict).push (Xu C h.objs.size [] 0)).get? b=some o:=λb o e=>Heap.get?_push_of_some _ (Heap.get?_push_of_some _ e)
 have hx:((h.push emptyDict).push (Xu C h.objs.size [] 0)).get? (h.objs.size+1)=some (Xu C h.objs.size [] 0):=by heap_get
 have t1:Looks (model prog w) ((h.push emptyDict).push (Xu C h.objs.size [] 0)) (typeOf (.ref (h.objs.size+1))) (.ref C):=(Looks.ld hx).andThen .now
 have s1:=self.keeps k
 have i1:=hi.keeps k
 have b1:=(hb (.ref (h.objs.size+1))).keeps k
 unfold isInstance callSpecial? specialOf
 repeat (first | with_reducible refine wpAny_call ?_ | lk)
 refine codeAny_mono hq λr s' z=>?_
 rcases r with e | (v | _ | _ | _) <;> first | exact z | exact z.elim | skip
 obtain ⟨rfl,z⟩:=z
 exact wpAny_pure (wpAny_pure z)
end
end
section
set_option tactic.hygienic false
noncomputable abbrev Yq (T id:String) (x:Addr):Obj:={ cls:=.type T,data:=.fields #[.builtin id,.ref x] }
theorem Z0:Slot "wrapper_descriptor" "__get__" "wrapper_descriptor.__get__":=.of (owner:="wrapper_descriptor") (n:="__get__") (by rw [typeLookup_type,builtinLookup_eq_fast];kernel_rfl) dk dk dk
  (by first | exact .inl dk | exact .inr dk) (by rw [isSubtype_type];kernel_rfl)
theorem G6:entryFor table "wrapper_descriptor.__get__" = some Builtin.«wrapper_descriptor.__get__»:=entryFor_of_tree (by kernel_rfl)
theorem V6 (a b c:Value):argsOk "wrapper_descriptor.__get__" ⟨[a,b,c],[]⟩:=by unfold argsOk;kernel_rfl
theorem V5:Slot "method_descriptor" "__get__" "method_descriptor.__get__":=.of (owner:="method_descriptor") (n:="__get__") (by rw [typeLookup_type,builtinLookup_eq_fast];kernel_rfl) dk dk dk
  (by first | exact .inl dk | exact .inr dk) (by rw [isSubtype_type];kernel_rfl)
theorem My:entryFor table "method_descriptor.__get__" = some Builtin.«method_descriptor.__get__»:=entryFor_of_tree (by kernel_rfl)
theorem Lg (a b c:Value):argsOk "method_descriptor.__get__" ⟨[a,b,c],[]⟩:=by unfold argsOk;kernel_rfl
section
variable {prog:Program} {w:World} {A:Around} {E:Value→Shared→Prop} {h:Heap} {g:Array GenState} {d:Drawn} {t:Nat} {os:OsState} {Q:Value→Shared→Prop} {x C:Addr}
theorem KY (hi:Looks (model prog w) h (isInstance (.ref x) (.type "list")) true) (hq:Q (.ref h.objs.size) ⟨h.push (Yq "method-wrapper" "list.__len__" x),g,d,t,os⟩) :
  wpAny (model prog w) A (call (.builtin "wrapper_descriptor.__get__") [.builtin "list.__len__",.ref x,.ref C]) Q E ⟨h,g,d,t,os⟩:=by
 have hT:(⟨h,g,d,t,os⟩:Shared).TypeIs (.builtin "list.__len__") "wrapper_descriptor":=by show typeOf (.builtin "list.__len__")=_;show builtinType _=_;rw [builtinType_eq_fast];kernel_rfl
 refine wpAny_call_entry Z0 hT G6 ?_ (V6 _ _ _)
 unfold Builtin.«wrapper_descriptor.__get__»
 refine wpAny_bind (wpAny_of_eq (a:=(.builtin "list.__len__",some (.ref x),some (.ref C))) (by kernel_rfl) ?_)
 dsimp only
 refine wpAny_bind ?_
 refine wpAny_bind (wpAny_of_eq (a:=(Str.ofString "__len__",Value.type "list")) (by kernel_rfl) ?_)
 dsimp only
 refine wpAny_bind (hi.at ?_)
 refine wpAny_pure ?_
 refine wpAny_bind (wpAny_newObj_type ?_ (by size_fits))
 exact wpAny_pure ⟨_,rfl,hq⟩
theorem LY (hi:Looks (model prog w) h (isInstance (.ref x) (.type "list")) true) (hq:Q (.ref h.objs.size) ⟨h.push (Yq "method-wrapper" "list.__init__" x),g,d,t,os⟩) :
  wpAny (model prog w) A (call (.builtin "wrapper_descriptor.__get__") [.builtin "list.__init__",.ref x,.ref C]) Q E ⟨h,g,d,t,os⟩:=by
 have hT:(⟨h,g,d,t,os⟩:Shared).TypeIs (.builtin "list.__init__") "wrapper_descriptor":=by show typeOf (.builtin "list.__init__")=_;show builtinType _=_;rw [builtinType_eq_fast];kernel_rfl
 refine wpAny_call_entry Z0 hT G6 ?_ (V6 _ _ _)
 unfold Builtin.«wrapper_descriptor.__get__»
 refine wpAny_bind (wpAny_of_eq (a:=(.builtin "list.__init__",some (.ref x),some (.ref C))) (by kernel_rfl) ?_)
 dsimp only
 refine wpAny_bind ?_
 refine wpAny_bind (wpAny_of_eq (a:=(Str.ofString "__init__",Value.type "list")) (by kernel_rfl) ?_)
 dsimp only
 refine wpAny_bind (hi.at ?_)
 refine wpAny_pure ?_
 refine wpAny_bind (wpAny_newObj_type ?_ (by size_fits))
 exact wpAny_pure ⟨_,rfl,hq⟩
theorem Rk (hi:Looks (model prog w) h (isInstance (.ref x) (.type "list")) true) (hq:Q (.ref h.objs.size) ⟨h.push (Yq "builtin_function_or_method" "list.pop" x),g,d,t,os⟩) :
  wpAny (model prog w) A (call (.builtin "method_descriptor.__get__") [.builtin "list.pop",.ref x,.ref C]) Q E ⟨h,g,d,t,os⟩:=by
 have hT:(⟨h,g,d,t,os⟩:Shared).TypeIs (.builtin "list.pop") "method_descriptor":=by show typeOf (.builtin "list.pop")=_;show builtinType _=_;rw [builtinType_eq_fast];kernel_rfl
 refine wpAny_call_entry V5 hT My ?_ (Lg _ _ _)
 unfold Builtin.«method_descriptor.__get__»
 refine wpAny_bind (wpAny_of_eq (a:=(.builtin "list.pop",some (.ref x),some (.ref C))) (by kernel_rfl) ?_)
 dsimp only
 have ht:(Manifest.toldItsClass.contains "list.pop")=false:=by decide +kernel
 simp only [ht,Bool.false_eq_true,if_false]
 refine wpAny_bind ?_
 refine wpAny_bind (wpAny_of_eq (a:=(Str.ofString "pop",Value.type "list")) (by kernel_rfl) ?_)
 dsimp only
 refine wpAny_bind (hi.at ?_)
 refine wpAny_pure ?_
 refine wpAny_bind (wpAny_newObj_type ?_ (by size_fits))
 exact wpAny_pure ⟨_,rfl,hq⟩
theorem Rc {so D:Addr} {l₀ l:List Value} {K:Frag} {name:Str} {id gid T BT:String} {tk:Tok} {Q:PySem.Fin→Shared→Prop}
  (hso:h.get? so=some { cls:=.type "super",dict:=none,data:=.fields #[.ref D,.ref x,.ref C],slots:=#[] }) (hno:Looks (model prog w) h (opaqueClassAbove (.ref C)) none)
  (hC:Looks (model prog w) h (mroOf (.ref C)) l₀) (hl:(l₀.dropWhile (· != .ref D)).drop 1=l) (X:K.In h)
  (hf:alongIn K name l=some (some (.builtin id))) (hty:typeOf (.builtin id)=pure (.type T)) (hlk:typeLookup (.type T) "__get__" = pure (some (.builtin gid))) (hxC:x≠C) (hn:(name==("__class__":Str))=false)
  (hg:∀ (A:Around) (Q:Value→Shared→Prop) (E:Value→Shared→Prop),Q (.ref h.objs.size) ⟨h.push (Yq BT id x),g,d,t,os⟩→wpAny (model prog w) A (call (.builtin gid) [.builtin id,.ref x,.ref C]) Q E ⟨h,g,d,t,os⟩)
  (hq:Q (.done (.ret (.ref h.objs.size))) ⟨h.push (Yq BT id x),g,d,t,os⟩) :
  wpAny (model prog w) A (Builtin.«super.__getattribute__» ⟨[.ref so,.str name tk],[]⟩) Q E ⟨h,g,d,t,os⟩:=by
 have hne:(Value.ref x==Value.ref C)=false:=by simp [hxC]
 have hdt:({ cls:=.type "super",dict:=none,data:=.fields #[.ref D,.ref x,.ref C],slots:=#[] }:Obj).data=.fields #[.ref D,.ref x,.ref C]:=rfl
 have f0:(#[.ref D,.ref x,.ref C]:Array Value)[0]?=some (.ref D):=rfl
 have f1:(#[.ref D,.ref x,.ref C]:Array Value)[1]?=some (.ref x):=rfl
 have f2:(#[.ref D,.ref x,.ref C]:Array Value)[2]?=some (.ref C):=rfl
 unfold Builtin.«super.__getattribute__»
 repeat (first
  | (with_reducible refine wpAny_field hso hdt f0 ?_) | (with_reducible refine wpAny_field hso hdt f1 ?_) | (with_reducible refine wpAny_field hso hdt f2 ?_)
  | (with_reducible refine ks_wpAny_notOpaque hno ?_)
  | (with_reducible refine Looks.at hC ?_;rw [hl])
  | (refine ks_forIn_along X (λ__ __=>rfl) rfl ?_ hf)
  | (with_reducible refine wpAny_of_eq hty ?_)
  | (with_reducible refine wpAny_of_eq hlk ?_)
  | (refine hg _ _ _ ?_)
  | (simp only [hn,hne,Bool.or_false,Bool.false_eq_true,if_false])
  | wp_step
  | dsimp only)
 all_goals exact hq
end
end
section
set_option tactic.hygienic false
section
variable {prog:Program} {w:World} {A:Around} {E:Value→Shared→Prop} {h:Heap} {g:Array GenState} {d:Drawn} {t:Nat} {os:OsState} {x C:Addr}
theorem Zm {so D:Addr} {l₀ l:List Value} {K:Frag} {name:Str} {id gid T BT:String} {pl:Sem Bool} {Q:Value×List Value→Shared→Prop}
  (hso:h.get? so=some { cls:=.type "super",dict:=none,data:=.fields #[.ref D,.ref x,.ref C],slots:=#[] }) (hno:Looks (model prog w) h (opaqueClassAbove (.ref C)) none)
  (hC:Looks (model prog w) h (mroOf (.ref C)) l₀) (hl:(l₀.dropWhile (· != .ref D)).drop 1=l) (X:K.In h)
  (hf:alongIn K name l=some (some (.builtin id))) (hty:typeOf (.builtin id)=pure (.type T)) (hlk:typeLookup (.type T) "__get__" = pure (some (.builtin gid))) (hxC:x≠C) (hn:(name==("__class__":Str))=false)
  (hg:∀ (t:Nat) (A:Around) (Q:Value→Shared→Prop) (E:Value→Shared→Prop),Q (.ref h.objs.size) ⟨h.push (Yq BT id x),g,d,t,os⟩→wpAny (model prog w) A (call (.builtin gid) [.builtin id,.ref x,.ref C]) Q E ⟨h,g,d,t,os⟩)
  (hq:Q (.ref h.objs.size,[]) ⟨h.push (Yq BT id x),g,d,t+1,os⟩) :
  wpAny (model prog w) A (getMethod (.ref so) name pl) Q E ⟨h,g,d,t,os⟩:=by
 have hlk':=F.ks_slot_super_ga.lookup
 have hcan:=F.ks_canon_super_ga
 have hT:∀ t',(⟨h,g,d,t',os⟩:Shared).TypeIs (.ref so) "super":=λ__=>⟨_,hso,rfl⟩
 unfold getMethod
 refine wpAny_bind (wpAny_specialOf (hT _) hlk' ?_)
 show wpAny _ _ (if (Manifest.canonical "super.__getattribute__" != "object.__getattribute__")=true then _ else _) _ _ _
 rw [if_pos hcan]
 unfold getAttr getAttrBy
 refine wpAny_bind (wpAny_bind (wpAny_mkText (wpAny_holding (wpAny_bind (wpAny_typeOf (hT _) (wpAny_bind (wpAny_of_eq hlk' ?_)))))))
 show wpAny _ _ (getAttrByItsOwn (.ref so) (.str name t) (.type "super") (.builtin "super.__getattribute__") true false) _ _ _
 unfold getAttrByItsOwn hookBefore callGetattribute boundAndCalled
 refine wpAny_bind (wpAny_of_eq (show (if onTheHeap (.type "super") then typeLookup (.type "super") "__getattr__" else pure none)=pure none from rfl) ?_)
 refine wpAny_bind (wpAny_attempt (wpAny_holding ?_))
 show wpAny _ _ (bindSpecial (.builtin "super.__getattribute__") (.ref so) >>= _) _ _ _
 refine wpAny_bind (wpAny_of_eq (F.ks_slot_super_ga.bind _) ?_)
 refine wpAny_mono (Q:=λv s'=>v=.ref h.objs.size∧s'=⟨h.push (Yq BT id x),g,d,t+1,os⟩) (E:=λ__ __=>False)
  (wpAny_call_entry F.ks_slot_super_ga (hT _) F.ks_entry_super_ga (Rc hso hno hC hl X hf hty hlk hxC hn (hg (t+1)) ⟨_,rfl,rfl,rfl⟩) (F.ks_gaArgs_super _ _)) (λv s' hv=>?_) λ__ __ z=>z.elim
 obtain ⟨rfl,rfl⟩:=hv
 exact wpAny_pure (wpAny_pure hq)
theorem JE {q:Addr} {T id:String} (hT:T = "method-wrapper"∨T = "builtin_function_or_method") (hq:h.get? q=some (Yq T id x)):Looks (model prog w) h (keeperOf (.ref q)) .machine:=by
 unfold keeperOf
 refine (Looks.ld hq).andThen ?_
 clear hq;rcases hT with rfl | rfl <;> exact Looks.of_pure rfl
theorem U4 {q:Addr} {us:Array Value} {ox:Obj} {n:Nat} {Q:Value→Shared→Prop} (hq:h.get? q=some (Yq "method-wrapper" "list.__len__" x)) (hx:h.get? x=some ox) (hd:ox.data=.seq us n)
  (k:Q (.int us.size t) ⟨h,g,d,t+1,os⟩):wpAny (model prog w) A (call (.ref q) []) Q E ⟨h,g,d,t,os⟩:=by
 refine wpAny_call (codeAny_of_tree ?_)
 show wpAny _ _ (callAny (.ref q) _) _ _ _
 unfold callAny
 refine wpAny_bind (wpAny_load hq ?_)
 show wpAny _ _ (do checkBoundCall "list.__len__" ⟨[.ref x],[]⟩;again (.builtin "list.__len__" ⟨[.ref x],[]⟩)) _ _ _
 refine wpAny_bind (wpAny_of_eq (a:=()) (by kernel_rfl) ?_)
 refine wpAny_pure ⟨Code.quiet_builtin _ dk,codeAny_builtin entry_list_len ?_⟩
 show wpAny _ _ (do retInt (← seqSize x)) _ _ _
 unfold seqSize
 refine wpAny_bind (wpAny_bind (wpAny_load hx ?_))
 rw [hd]
 exact wpAny_pure (wpAny_bind (wpAny_mkInt (wpAny_pure k)))
end
end
section
class OwnA where
 cAcc:Addr
 cc:Addr
 fInit:Addr
 fLen:Addr
 fPop:Addr
 fReset:Addr
 fPart:Addr
variable [iO:Own] [iA:OwnA]
open Own OwnA
noncomputable abbrev mFn (name qual:Str) (i j:Nat) (cl:List (Str×Addr)) (dV doc pm:Value) (an:Option Addr) (cdv ct:Value):FuncData:=
 { name,qualname:=qual,params:=Bg i j,body:=.stmts (V0 i j),scope:=X6 i j,globals:=mainGlobals,closure:=cl,defaults:=dV,kwdefaults:=.none,doc,pyModule:=pm,annotations:=an,code:=cdv,closureTuple:=ct,builtins:=builtinsNs }
noncomputable def MFn (f:Addr) (name qual:Str) (i j:Nat) (cl:List (Str×Addr)) (dV:Value):Prop:=
 ∃ oc od sl doc pm an cda ct vs file tf ccl cdd ccs,KK.lookup f=some ⟨oc,od,.func (mFn name qual i j cl dV doc pm an (.ref cda) ct),sl⟩∧codeIn KK (.ref cda) qual=true∧
  KK.lookup cda=some ⟨ccl,cdd,.fields vs,ccs⟩∧vs[2]?=some (.str file tf)∧((pw.main.file:Str)==file)=true
theorem MFn.E {f:Addr} {name qual:Str} {i j:Nat} {cl:List (Str×Addr)} {dV:Value} (h:MFn f name qual i j cl dV) {C':Prop} (f':∀ oc od sl doc pm an cda ct vs file tf ccl cdd ccs,KK.lookup f=some ⟨oc,od,.func (mFn name qual i j cl dV doc pm an (.ref cda) ct),sl⟩→codeIn KK (.ref cda) qual=true→
  KK.lookup cda=some ⟨ccl,cdd,.fields vs,ccs⟩→vs[2]?=some (.str file tf)→((pw.main.file:Str)==file)=true→C'):C':=by
 refine h.elim λoc zz=>zz.elim λod zz=>zz.elim λsl zz=>zz.elim λdoc zz=>zz.elim λpm zz=>zz.elim λan zz=>zz.elim λcda zz=>zz.elim λct zz=>zz.elim λvs zz=>zz.elim λfile zz=>zz.elim λtf zz=>zz.elim λccl zz=>zz.elim λcdd zz=>zz.elim λccs zz=>zz.elim λh1 zz=>zz.elim λh2 zz=>zz.elim λh3 zz=>zz.elim λh4 h5=>?_
 exact f' oc od sl doc pm an cda ct vs file tf ccl cdd ccs h1 h2 h3 h4 h5
structure AccOk (W:Wd):Prop where
 X:KK.In W.h₀
 cls:W.mg "_Accumulator" = some (.ref cAcc)
 keep:keepIn KK (.ref cAcc)=true
 makes:JU KK cAcc=true
 opq:nsIn KK cStatics "opaque" = none∨True
 noOpq:∀ h,KK.In h→Looks (model W.prog W.w) h (opaqueClassAbove (.ref cAcc)) none
 clsD:∃ cd,clsIn KK cAcc=some cd∧(cd.mro.dropWhile (· != .ref cAcc)).drop 1=[.type "list",.type "object"]
 sub:mroIn KK cAcc (.ref cAcc)=some true
 subL:mroIn KK cAcc (.type "list")=some true
 cell:∃ cl cld csl,KK.lookup cc=some ⟨cl,cld,.cell (some (.ref cAcc)),csl⟩
 part:MFn fPart "part_count" "_Accumulator.part_count" 3 8 [("__class__",cc)] .none
 aLen:alongIn KK "__len__" [.type "list",.type "object"]=some (some (.builtin "list.__len__"))
theorem Ga:bootBuiltins "super" = some (.type "super"):=by decide +kernel
section
variable {W:Wd}
theorem gqA {α:Type} {M:Model} {A:Around} {c:Code} {t:Sem α} {Q:α→Shared→Prop} {E:Value→Shared→Prop} {s:Shared} (h:∀ Q':α→Shared→Prop,(∀ v s',Q v s'→Q' v s')→PyProof.Rows.wpAt M A c t Q' (λ__ __=>False) s):PyProof.Rows.wpAt M A c t Q E s:=
 ks_wpAt_mono (h Q λ__ __ h=>h) (λ__ __ h=>h) λ__ __ h=>h.elim
theorem Uz (P:PW W) (C:AccOk W) {A:Around} {ρ:Rho} {σ:H} {s:Shared} {x d:Addr} {us:List Value} {n:Nat} {od:Obj} {Q E:Value→Shared→Prop} (OA:OkA A 1) (O:Ok W ρ σ s)
  (I:InstAt s.heap x (Xu cAcc d us n) cAcc (some od)) (q:∀ h' tk tk',(∀ b o,s.heap.get? b=some o→h'.get? b=some o)→Q (.int us.length tk) { s with heap:=h',toks:=tk' }) :
  wpAny (model W.prog W.w) A (call (.ref fPart) [.ref x]) Q E s:=by
 refine Xi λgk=>?_
 refine C.part.E λoc ofd sl doc pm an cda ct vs file tf ccl cdd ccs hl hcd hcode hvs hfile=>?_
 obtain ⟨cd,hcl,hmro⟩:=C.clsD
 obtain ⟨cl,cld,csl,hcell⟩:=C.cell
 refine gk ?_;clear gk
 have X:KK.In s.heap:=C.X.keeps O.base
 have hroom:A.depth<recursionLimit:=by have:=OA.2.1;omega
 refine wpAny_call (ks_codeAny_call_defAt (binds:=[(("self":Str),Value.ref x)]) hroom (X _ _ hl) rfl (P.glb.nl.keeps λb o e=>O.base b o e) (codeRec_of X hcd) rfl (BindsTo.of_eq (by kernel_rfl)) (show ∀ x∈(X6 3 8).names,x.2≠.cell by decide +kernel) (by
  intro y hy;rw [List.mem_singleton] at hy;subst hy;show (X6 3 8).names.lookup ("self":Str)=some .local;decide +kernel) (λh₀ hns k0=>?_) rfl rfl rfl)
 have X':KK.In h₀:=X.keeps k0
 refine gqA λQ' hQ=>?_
 refine ks_wpAt_execs_cons (ks_wpAt_Return_some (ks_wpAt_MethodCall ?_))
 have hpr:W.prog=pw:=P.prog
 have G':h₀.Ns mainGlobals W.mg:=P.glb.g.at' λo e=>k0 _ _ (O.base _ _ e)
 have B':h₀.Ns builtinsNs W.mb:=P.glb.b.at' λo e=>k0 _ _ (O.base _ _ e)
 have I':InstAt h₀ x (Xu cAcc d us n) cAcc (some od):=⟨k0 _ _ I.at_,rfl,rfl,k0 _ _ I.dict⟩
 refine Xi λgk=>?_
 obtain ⟨oD,hD1,hD2⟩:∃ oD,h₀.get? cAcc=some oD∧oD.data=.cls cd:=by
  unfold clsIn at hcl
  split at hcl
  ·rename_i c d cd' sl ho
   clear hmro;cases hcl
   exact ⟨_,X' _ _ ho,rfl⟩
  ·cases hcl
 refine gk ?_;clear gk
 refine ks_wpAt_super_base rfl rfl rfl rfl (X' _ _ hl) rfl rfl rfl (X' _ _ hcode) rfl hvs (by rw [hpr];exact hfile) (by rw [hpr];decide +kernel) ?_
 refine ks_loadName_global rfl rfl (loadGlobal_builtin G' (P.nob _ dk) B' ((P.glb.bi _ dk).trans Ga) ⟨rfl,?_⟩)
 refine wpAny_loadName_free rfl rfl rfl ⟨_,X' _ _ hcell,rfl⟩ ?_
 refine wpAny_loadName_local rfl rfl hns rfl ?_
 refine ks_wpAny_isType_cls hD1 hD2 ⟨rfl,?_⟩
 refine ks_wpAny_call_super hD1 hD2 I'.at_ rfl (λc e=>by cases e) (looks_mroIn X' C.sub) (λh₁ e1 k1=>?_)
 have X₁:KK.In h₁:=X'.keeps k1
 have hmr:Looks (model W.prog W.w) h₁ (mroOf (.ref cAcc)) cd.mro:=λA Q E s k q=>wpAny_bind ((looks_clsIn X₁ hcl) A _ E s k (wpAny_pure q))
 have I₁:InstAt h₁ x (Xu cAcc d us n) cAcc (some od):=⟨k1 _ _ I'.at_,rfl,rfl,k1 _ _ I'.dict⟩
 have hne:x≠cAcc:=by clear I I₁ e1 hns;rintro rfl;rw [I'.at_] at hD1;cases hD1;cases hD2
 refine Zm e1 (C.noOpq _ X₁) hmr hmro X₁ C.aLen (T:="wrapper_descriptor") (gid:="wrapper_descriptor.__get__") (BT:="method-wrapper") (by show builtinType _=_;rw [builtinType_eq_fast];kernel_rfl) Z0.lookup hne dk
  (λt A Q E hq=>KY (I₁.type.andThen (looks_mroIn X₁ C.subL)) hq) ?_
 refine callWith_of (P:=λh=>h.get? h₁.objs.size=some (Yq "method-wrapper" "list.__len__" x)∧h.get? x=some (Xu cAcc d us n)) rfl (λh hh=>⟨.machine,.inr (.inl rfl),JE (.inl rfl) hh.1⟩) ?_
 have g1:(h₁.push (Yq "method-wrapper" "list.__len__" x)).get? h₁.objs.size=some (Yq "method-wrapper" "list.__len__" x):=Heap.get?_push_size _ rfl
 have g2:(h₁.push (Yq "method-wrapper" "list.__len__" x)).get? x=some (Xu cAcc d us n):=Heap.get?_push_of_some _ I₁.at_
 refine PyProof.Rows.evalArgs_none ⟨⟨g1,g2⟩,?_⟩
 refine U4 g1 g2 rfl ?_
 rw [List.size_toArray]
 exact hQ _ _ (q (h₁.push (Yq "method-wrapper" "list.__len__" x)) _ _ λb o e=>Heap.get?_push_of_some _ (k1 _ _ (k0 _ _ e)))
end
end
section
set_option tactic.hygienic false
variable [iO:Own] [iA:OwnA]
open Own OwnA
noncomputable def Ct (n:Int) (as:List (Addr×Obj)) (us:List Value):Prop:=∃ a d k m hsh t t',as=[(a,Xu cAcc d us k),(d,dictOf [⟨hsh,.str "_initial_size" t,.int n t'⟩] m)]
structure AccSh:Prop where
 sh:∀ ys n as us xs,Own.shx (.acc ys n) as us xs↔xs=ys∧Ct n as us
theorem JD {prog:Program} {w:World} {A:Around} {E:Value→Shared→Prop} {s:Shared} {K:Frag} {x C:Addr} {ox:Obj} {od:Option Obj} {name:Str} {pl:Sem Bool} {Q:Value×List Value→Shared→Prop} {f:Addr} (X:K.In s.heap) (I:InstAt s.heap x ox C od)
  (hga:∃ gid,findIn K (.ref C) "__getattribute__" = some (some (.builtin gid))∧(Manifest.canonical gid != "object.__getattribute__")=false) (hk:findIn K (.ref C) "__getattr__" = some none)
  (hf:findIn K (.ref C) name=some (some (.ref f))) (ht:typeIn K (.ref f)=some (.type "function")) (hs:shadowIn od name=some false) (h:Q (.ref f,[.ref x]) s):wpAny (model prog w) A (getMethod (.ref x) name pl) Q E s:=by
 refine Xi λgk=>?_
 refine hga.elim λgid zz=>zz.elim λhg hcan=>?_
 refine gk ?_;clear gk
 have L0:=I.type (M:=model prog w)
 unfold getMethod specialOf
 refine wpAny_bind (wpAny_bind (L0.here ((looks_findIn X hg).here ?_)))
 show wpAny _ _ (if (Manifest.canonical gid != "object.__getattribute__")=true then _ else _) _ _ _
 rw [hcan,if_neg (by decide)]
 refine wpAny_bind (wpAny_bind (L0.here ((looks_findIn X hk).here ?_)))
 refine wpAny_bind (wpAny_bind (L0.here ((looks_findIn X hf).here (wpAny_bind ((looks_typeIn X ht).here ?_)))))
 rw [if_neg dk]
 refine wpAny_bind (wpAny_loadPart I.at_ ?_)
 have hd:=I.dict
 match e:ox.dict,od,hd,hs with
 | none,_,_,_=>exact wpAny_bind (wpAny_rule (wpAny_pure h))
 | some dx,some o,hd,hs=>
  refine Xi λgk=>?_
  refine (Option.map_eq_some_iff.mp hs).elim λr zz=>zz.elim λa b=>?_
  refine gk ?_;clear gk
  refine wpAny_bind (wpAny_bind (wpAny_loadPart hd ?_))
  rw [nsLook_of a]
  refine wpAny_pure ?_
  rw [b]
  exact wpAny_bind (wpAny_rule (wpAny_pure h))
structure Meth (C:Addr) (name:Str) (f:Addr):Prop where
 ga:∃ gid,findIn KK (.ref C) "__getattribute__" = some (some (.builtin gid))∧(Manifest.canonical gid != "object.__getattribute__")=false
 gt:findIn KK (.ref C) "__getattr__" = some none
 hf:findIn KK (.ref C) name=some (some (.ref f))
 ht:typeIn KK (.ref f)=some (.type "function")
 kp:keepIn KK (.ref f)=true
section
variable {W:Wd} {ctx:List Bd} {b:Nat}
theorem F8 {o:MO} {k:List MV→Int→Prop} (h:LV o k):∃ xs n,o=.acc xs n∧k xs n:=by cases o <;> first | exact ⟨_,_,rfl,h⟩ | exact h.elim
theorem Y0 {o:MO} {k:List MV→Int→Prop} (h:LV o k) {C':Prop} (f':∀ xs n,o=.acc xs n→k xs n→C'):C':=by refine (F8 h).elim λxs zz=>zz.elim λn zz=>zz.elim λq0 q1=>?_;exact f' xs n q0 q1
theorem H5 {ρ:Rho} {s:Shared} {u:Value} {i:Nat} {n:Nat} {l:List (Nat×MO)} {xs:List MV} {z:Int} (T:AccSh) (O:Ok W ρ (.mk n l) s) (hl:lk l i=some (.acc xs z)) (hu:VR ρ s.heap u (.ref i)) :
  ∃ a d us k m hsh t t',u=.ref a∧ρ (i+1)=[a,d]∧s.heap.get? a=some (Xu cAcc d us k)∧s.heap.get? d=some (dictOf [⟨hsh,.str "_initial_size" t,.int z t'⟩] m)∧VRs ρ s.heap us xs:=by
 obtain ⟨a,F,qa,e⟩:=hu.refI;clear hu;subst qa
 refine Xi λgk=>?_
 obtain ⟨as,us,xs',e1,n1,g1,r1,S1⟩:=O.hr.obj n l rfl i _ hl
 clear hl n1;obtain ⟨rfl,a',d,k,m,hsh,t,t',rfl⟩:=(T.sh _ _ _ _ _).mp S1
 refine gk ?_;clear gk
 rw [e] at e1
 cases e1
 exact ⟨_,d,us,k,m,hsh,t,t',rfl,e,g1 _ (.head _),g1 _ (.tail _ (.head _)),r1⟩
theorem Z1 {ρ:Rho} {s:Shared} {u:Value} {i:Nat} {n:Nat} {l:List (Nat×MO)} {xs:List MV} {z:Int} (T:AccSh) (O:Ok W ρ (.mk n l) s) (hl:lk l i=some (.acc xs z)) (hu:VR ρ s.heap u (.ref i)) {C':Prop} (f':∀ a d us k m hsh t t',u=.ref a→ρ (i+1)=[a,d]→s.heap.get? a=some (Xu cAcc d us k)→s.heap.get? d=some (dictOf [⟨hsh,.str "_initial_size" t,.int z t'⟩] m)→VRs ρ s.heap us xs→C'):C':=by refine (H5 T O hl hu).elim λa zz=>zz.elim λd zz=>zz.elim λus zz=>zz.elim λk zz=>zz.elim λm zz=>zz.elim λhsh zz=>zz.elim λt zz=>zz.elim λt' zz=>zz.elim λq0 zz=>zz.elim λq1 zz=>zz.elim λq2 zz=>zz.elim λq3 q4=>?_;exact f' a d us k m hsh t t' q0 q1 q2 q3 q4
theorem Rl (P:PW W) (C:AccOk W) (T:AccSh):JT W M4 (.ref fPart):=λA ρ σ s x u K Q E OA hu O m q=>by
 refine Xi λgk=>?_
 refine XT m λi qa m1=>?_;clear m;subst qa
 refine XU m1 λn l o qa hl m2=>?_;clear m1;subst qa
 refine Y0 m2 λxs z qa m3=>?_;clear m2;subst qa
 refine Z1 T O hl hu λa d us k mm hsh t t' qa e g1 g2 r=>?_;clear hu;subst qa
 refine gk ?_;clear gk
 refine Uz P C (n:=k) (od:=dictOf [⟨hsh,.str "_initial_size" t,.int z t'⟩] mm) OA O ⟨g1,rfl,rfl,g2⟩ λh' tk tk' kp=>?_
 rw [Yh,← r.length] at m3
 exact q _ _ ρ _ _ m3 (.int _ _) (O.keep kp) (.of_all kp)
theorem KR {f:MV→H→K→Prop} {C fa:Addr} {name:Str} {m₁:Ev} {o:Expr} {apos pos} (X₀:KK.In W.h₀) (M:Meth C name fa) (hf:JT W f (.ref fa))
  (hI:∀ (ρ:Rho) (σ:H) (s:Shared) (x:MV) (u:Value) (k:K),VR ρ s.heap u x→Ok W ρ σ s→f x σ k→∃ a ox od,u=.ref a∧InstAt s.heap a ox C od∧shadowIn od name=some false)
  (h:XD W ctx (b+1) m₁ o) (hbase:∀ env,attributeBase o name env (eval o env)=eval o env:=by intro _;rfl) (hline:(apos.endLine==pos.line)=true:=by rfl) :
  XD W ctx (b+1) (e1 f m₁) (.Call (.Attribute o name apos) [] [] pos):=λA env ρ σ vs s K Q E OA F O m q=>by
 rw [arm_eval_Call,hbase]
 refine wpAny_bind (h A env ρ σ vs s (λx h1=>f x h1 K) _ _ OA F O m λu x ρ₁ σ₁ s₁ k₁ v₁ O₁ X₁=>wpAny_bind (wpAny_standAt ?_))
 refine Xi λgk=>?_
 obtain ⟨a,ox,od,rfl,I,hs⟩:=hI ρ₁ σ₁ s₁ x u K v₁ O₁ k₁
 refine gk ?_;clear gk
 have X:KK.In s₁.heap:=X₀.keeps O₁.base
 have hpos:methodCallPos true o env apos pos=pure pos:=by unfold methodCallPos;simp [hline]
 have hform:methodCallForm (([]:List Expr).length+([]:List Keyword).length) (backTo pos (starEach [] env)) (backToKw pos (keywordEach [] env))=true:=rfl
 unfold methodCall
 rw [hform]
 refine wpAny_bind (wpAny_holding (JD X I M.ga M.gt M.hf M.ht hs ?_))
 refine wpAny_bind (wpAny_of_eq hpos ?_)
 refine callWith_K0 X M.kp ?_
 exact hf A ρ₁ σ₁ s₁ x (.ref a) K Q E (OA.mono (by omega)) v₁ O₁ k₁ λv mv ρ₂ σ₂ s₂ k₂ v₂ O₂ X₂=>q _ _ _ _ _ k₂ v₂ O₂ (X₁.trans X₂)
theorem UI (P:PW W) (C:AccOk W) (T:AccSh) (M:Meth cAcc "part_count" fPart) {m₁:Ev} {o:Expr} {apos pos} (h:XD W ctx (b+1) m₁ o) (hbase:∀ env,attributeBase o "part_count" env (eval o env)=eval o env:=by intro _;rfl) (hline:(apos.endLine==pos.line)=true:=by rfl) :
  XD W ctx (b+1) (e1 M4 m₁) (.Call (.Attribute o "part_count" apos) [] [] pos):=
 KR C.X M (Rl P C T) (λρ σ s x u k hu O m=>by
  refine Xi λgk=>?_
  refine XT m λi qa m1=>?_;clear m;subst qa
  refine XU m1 λn l o qa hl m2=>?_;clear m1;subst qa
  refine Y0 m2 λxs z qa m3=>?_;clear m2;subst qa
  refine Z1 T O hl hu λa d us k mm hsh t t' qa e g1 g2 r=>?_;clear hu;subst qa
  refine gk ?_;clear gk
  exact ⟨a,_,some _,rfl,⟨g1,rfl,rfl,g2⟩,rfl⟩) h hbase hline
end
end
section
set_option tactic.hygienic false
theorem FW (x:Addr):(match Manifest.signature? "list.pop" with | some sig=>Bind.checkArgs "list.pop" { sig with full:=s!"{"_Accumulator"}.{Bind.lastOf "list.pop"}" } ⟨[.ref x],[]⟩ | none=>pure ())=(pure ():Sem Unit):=by kernel_rfl
theorem FF:builtinKind "list.pop" = some .method:=by decide +kernel
theorem W4:Manifest.varargsMethods.contains "list.pop" = false:=by decide +kernel
section
variable {prog:Program} {w:World} {A:Around} {E:Value→Shared→Prop} {h:Heap} {g:Array GenState} {d:Drawn} {t:Nat} {os:OsState} {x C:Addr}
theorem Ux {q:Addr} {us:List Value} {y:Value} {cd:ClassData} {dx:Addr} {n:Nat} {Q:Value→Shared→Prop} (hq:h.get? q=some (Yq "builtin_function_or_method" "list.pop" x)) (hx:h.get? x=some (Xu C dx (us++[y]) n)) (hfit:us.length≤4096) (hqn:cd.qualname.toString = "_Accumulator")
  (L1:Looks (model prog w) h (isInstance (.ref x) (.type "module")) false) (L2:Looks (model prog w) h (isType (.ref x)) false) (L3:Looks (model prog w) h (typeOf (.ref x)) (.ref C)) (L4:Looks (model prog w) h (classData C) cd) (L5:Looks (model prog w) h (typeOf (.ref C)) (.type "type"))
  (k:∀ h' n',h'.get? x=some (Xu C dx us n')→(∀ b,b≠x→h'.get? b=h.get? b)→Q y ⟨h',g,d,t,os⟩):wpAny (model prog w) A (call (.ref q) []) Q E ⟨h,g,d,t,os⟩:=by
 refine wpAny_call (codeAny_of_tree ?_)
 show wpAny _ _ (callAny (.ref q) _) _ _ _
 unfold callAny
 refine wpAny_bind (wpAny_load hq ?_)
 show wpAny _ _ (do checkBoundCall "list.pop" ⟨[.ref x],[]⟩;again (.builtin "list.pop" ⟨[.ref x],[]⟩)) _ _ _
 have body:codeAny (model prog w) A (.builtin "list.pop" ⟨[.ref x],[]⟩) (λr s'=>match r with | .ok (.ret v)=>Q v s' | .ok _=>False | .error e=>E e s') ⟨h,g,d,t,os⟩:=by
  refine codeAny_builtin PySem.F.entry_list_pop ?_
  unfold Builtin.«list.pop»
  refine wpAny_bind (wpAny_of_eq (a:=(.ref x,[])) (by kernel_rfl) ?_)
  refine wpAny_bind (wpAny_pure ?_)
  have f1:(!Builtin.List.listFitsIndex (-1))=false:=by decide +kernel
  dsimp only
  rw [f1]
  simp only [Bool.false_eq_true,if_false]
  refine wpAny_bind (m:=Builtin.List.listItems (.ref x)) (wpAny_bind (wpAny_seqItems hx rfl (wpAny_pure ?_)))
  have f2:(us++[y]).toArray.isEmpty=false:=by simp
  rw [f2]
  simp only [Bool.false_eq_true,if_false]
  have f3:((seqIndex? (-1) (us++[y]).toArray.size).bind λk=>Option.map (λx=>(k,x)) (us++[y]).toArray[k]?)=some (us.length,y):=by
   have e:seqIndex? (-1) (us++[y]).toArray.size=some us.length:=by
    unfold seqIndex?
    simp only [List.size_toArray,List.length_append,List.length_singleton]
    simp only [if_pos (show (-1:Int)<0 from by decide)]
    rw [if_pos (by simp only [Bool.and_eq_true,decide_eq_true_eq];omega)]
    congr 1;omega
   rw [e]
   simp
  rw [f3]
  refine wpAny_bind (m:=Builtin.List.listUpdate (.ref x) _) ?_
  show wpAny _ _ (updateSeq x _) _ _ _
  have f4:(us++[y]).toArray.eraseIdxIfInBounds us.length=us.toArray:=by
   apply Array.toList_inj.mp
   simp [Array.eraseIdxIfInBounds,List.eraseIdx_append_of_length_le]
  refine wpAny_updateSeq hx rfl ?_ (by rw [List.size_toArray,List.length_append,sizeLine_eq];simp;omega) (by rw [f4,List.size_toArray,sizeLine_eq];omega)
  refine wpAny_pure ?_
  have f6:∃ n',Obj.mapSeq (λxs=>xs.eraseIdxIfInBounds us.length) (Xu C dx (us++[y]) n)=Xu C dx us n':=by
   unfold Obj.mapSeq
   dsimp only
   rw [f4]
   exact ⟨_,rfl⟩
  refine f6.elim λn' f6=>?_
  exact k _ n' (by rw [Heap.get?_update_self _ hx (by rw [f6];rfl),f6]) λb hb=>Heap.get?_update_other _ _ (Ne.symm hb)
 unfold checkBoundCall
 cases hsg:Manifest.signature? "list.pop" with
 | none=>
  have h:(Manifest.signature? "list.pop").isSome=true:=by decide +kernel
  rw [hsg] at h;cases h
 | some sig=>
  have pa:=FW x
  rw [hsg] at pa
  dsimp only at pa ⊢
  rw [FF]
  dsimp only
  simp only [W4,Bool.false_or]
  repeat (first | simp only [hqn,pa,bne_self_eq_false,beq_self_eq_true,Bool.not_true,Bool.false_eq_true,if_false,if_true] | lk)
  exact ⟨Code.quiet_builtin _ dk,body⟩
end
end
section
variable [iO:Own] [iA:OwnA]
open Own OwnA
structure AccPop (W:Wd):Prop where
 pop:MFn OwnA.fPop "pop" "_Accumulator.pop" 3 3 [("__class__",cc)] .none
 aPop:alongIn KK "pop" [.type "list",.type "object"]=some (some (.builtin "list.pop"))
 look:∀ h a d us n,KK.In h→h.get? a=some (Xu cAcc d us n)→Looks (model W.prog W.w) h (isInstance (.ref a) (.type "module")) false∧Looks (model W.prog W.w) h (isType (.ref a)) false∧Looks (model W.prog W.w) h (typeOf (.ref a)) (.ref cAcc)
 clsInfo:∀ h,KK.In h→∃ cd,cd.qualname.toString = "_Accumulator"∧Looks (model W.prog W.w) h (classData cAcc) cd∧Looks (model W.prog W.w) h (typeOf (.ref cAcc)) (.type "type")
section
variable {W:Wd}
theorem W0 (P:PW W) (C:AccOk W) (D:AccPop W) (M:Meth cAcc "part_count" fPart) {A:Around} {ρ:Rho} {σ:H} {s:Shared} {x d:Addr} {us:List Value} {y:Value} {n:Nat} {od:Obj} {Q E:Value→Shared→Prop} (OA:OkA A 2) (O:Ok W ρ σ s)
  (I:InstAt s.heap x (Xu cAcc d (us++[y]) n) cAcc (some od)) (hsh:shadowIn (some od) "part_count" = some false) (hfit:us.length≤4096)
  (q:∀ h' n' tk',h'.get? x=some (Xu cAcc d us n')→(∀ b o,b≠x→s.heap.get? b=some o→h'.get? b=some o)→Q y { s with heap:=h',toks:=tk' }) :
  wpAny (model W.prog W.w) A (call (.ref OwnA.fPop) [.ref x]) Q E s:=by
 refine Xi λgk=>?_
 refine D.pop.E λoc ofd sl doc pm an cda ct vs file tf ccl cdd ccs hl hcd hcode hvs hfile=>?_
 obtain ⟨cd,hcl,hmro⟩:=C.clsD
 obtain ⟨cl,cld,csl,hcell⟩:=C.cell
 refine gk ?_;clear gk
 have X:KK.In s.heap:=C.X.keeps O.base
 have hroom:A.depth<recursionLimit:=by have:=OA.2.1;omega
 refine wpAny_call (ks_codeAny_call_defAt (binds:=[(("self":Str),Value.ref x)]) hroom (X _ _ hl) rfl (P.glb.nl.keeps λb o e=>O.base b o e) (codeRec_of X hcd) rfl (BindsTo.of_eq (by kernel_rfl)) (show ∀ x∈(X6 3 3).names,x.2≠.cell by decide +kernel) (by
  intro y hy;rw [List.mem_singleton] at hy;subst hy;show (X6 3 3).names.lookup ("self":Str)=some .local;decide +kernel) (λh₀ hns k0=>?_) rfl rfl rfl)
 have X':KK.In h₀:=X.keeps k0
 have O0:Ok W ρ σ { s with heap:=h₀,toks:=s.toks+1 }:=O.keep k0
 have I0:InstAt h₀ x (Xu cAcc d (us++[y]) n) cAcc (some od):=⟨k0 _ _ I.at_,rfl,rfl,k0 _ _ I.dict⟩
 have hself:(λz=>List.lookup z ([(("self":Str),Value.ref x)]:List (Str×Value)).reverse) ("self":Str)=some (.ref x):=rfl
 refine gqA λQ' hQ=>?_
 refine ks_wpAt_execs_cons (ks_wpAt_If (wpAt_of_wpAny (wpAny_isTrue_Compare1 (MethodCall_ (wpAny_Name (wpAny_loadName_local rfl rfl hns hself (JD X' I0 M.ga M.gt M.hf M.ht hsh (callWith_K0 X' M.kp (Uz P C (n:=n) (od:=od) (OkA.deeper OA _) O0 I0 ?_)))))) rfl)))
 intro h₂ tk tk' k2
 have X₂:KK.In h₂:=X'.keeps k2
 refine wpAny_Constant_int (eq_int (wpAny_truthy_bool ?_))
 have hz:((((us++[y]).length:Nat):Int)==0)=false:=by simp;omega
 rw [hz]
 simp only [Bool.false_eq_true,if_false]
 refine wpAt_of_wpAny (wpAny_execs_nil ?_)
 refine ks_wpAt_execs_cons (ks_wpAt_Return_some (ks_wpAt_MethodCall ?_))
 have hpr:W.prog=pw:=P.prog
 have G':h₂.Ns mainGlobals W.mg:=P.glb.g.at' λo e=>k2 _ _ (k0 _ _ (O.base _ _ e))
 have B':h₂.Ns builtinsNs W.mb:=P.glb.b.at' λo e=>k2 _ _ (k0 _ _ (O.base _ _ e))
 have I':InstAt h₂ x (Xu cAcc d (us++[y]) n) cAcc (some od):=⟨k2 _ _ I0.at_,rfl,rfl,k2 _ _ I0.dict⟩
 refine Xi λgk=>?_
 obtain ⟨oD,hD1,hD2⟩:∃ oD,h₂.get? cAcc=some oD∧oD.data=.cls cd:=by
  unfold clsIn at hcl
  split at hcl
  ·rename_i c d cd' sl ho
   clear hmro;cases hcl
   exact ⟨_,X₂ _ _ ho,rfl⟩
  ·cases hcl
 refine gk ?_;clear gk
 refine ks_wpAt_super_base rfl rfl rfl rfl (X₂ _ _ hl) rfl rfl rfl (X₂ _ _ hcode) rfl hvs (by rw [hpr];exact hfile) (by rw [hpr];decide +kernel) ?_
 refine ks_loadName_global rfl rfl (loadGlobal_builtin G' (P.nob _ dk) B' ((P.glb.bi _ dk).trans Ga) ⟨rfl,?_⟩)
 refine wpAny_loadName_free rfl rfl rfl ⟨_,X₂ _ _ hcell,rfl⟩ ?_
 refine wpAny_loadName_local rfl rfl (hns.keeps k2) rfl ?_
 refine ks_wpAny_isType_cls hD1 hD2 ⟨rfl,?_⟩
 refine ks_wpAny_call_super hD1 hD2 I'.at_ rfl (λc e=>by cases e) (looks_mroIn X₂ C.sub) (λh₁ e1 k1=>?_)
 have X₁:KK.In h₁:=X₂.keeps k1
 have hmr:Looks (model W.prog W.w) h₁ (mroOf (.ref cAcc)) cd.mro:=λA Q E s k q=>wpAny_bind ((looks_clsIn X₁ hcl) A _ E s k (wpAny_pure q))
 have I₁:InstAt h₁ x (Xu cAcc d (us++[y]) n) cAcc (some od):=⟨k1 _ _ I'.at_,rfl,rfl,k1 _ _ I'.dict⟩
 have hne:x≠cAcc:=by clear I I0 I₁ e1 hns hself k2 q;rintro rfl;rw [I'.at_] at hD1;cases hD1;cases hD2
 refine Zm e1 (C.noOpq _ X₁) hmr hmro X₁ D.aPop (T:="method_descriptor") (gid:="method_descriptor.__get__") (BT:="builtin_function_or_method") (by show builtinType _=_;rw [builtinType_eq_fast];kernel_rfl) V5.lookup hne dk
  (λt A Q E hq=>Rk (I₁.type.andThen (looks_mroIn X₁ C.subL)) hq) ?_
 refine callWith_of (P:=λh=>h.get? h₁.objs.size=some (Yq "builtin_function_or_method" "list.pop" x)∧h.get? x=some (Xu cAcc d (us++[y]) n)) rfl (λh hh=>⟨.machine,.inr (.inl rfl),JE (.inr rfl) hh.1⟩) ?_
 have g1:(h₁.push (Yq "builtin_function_or_method" "list.pop" x)).get? h₁.objs.size=some (Yq "builtin_function_or_method" "list.pop" x):=Heap.get?_push_size _ rfl
 have g2:(h₁.push (Yq "builtin_function_or_method" "list.pop" x)).get? x=some (Xu cAcc d (us++[y]) n):=Heap.get?_push_of_some _ I₁.at_
 refine PyProof.Rows.evalArgs_none ⟨⟨g1,g2⟩,?_⟩
 have X₃:KK.In (h₁.push (Yq "builtin_function_or_method" "list.pop" x)):=X₁.keeps λb o e=>Heap.get?_push_of_some _ e
 refine Xi λgk=>?_
 obtain ⟨cd',hq',L4,L5⟩:=D.clsInfo _ X₃
 obtain ⟨L1,L2,L3⟩:=D.look _ _ _ _ _ X₃ g2
 refine gk ?_;clear gk
 refine Ux g1 g2 hfit hq' L1 L2 L3 L4 L5 λh' n' e' k'=>?_
 exact hQ _ _ (q h' n' _ e' λb o hb e=>by rw [k' b hb];exact Heap.get?_push_of_some _ (k1 _ _ (k2 _ _ (k0 _ _ e))))
end
end
section
set_option tactic.hygienic false
variable [iO:Own] [iA:OwnA]
open Own OwnA
noncomputable def HF (x:MV) (h:H) (k:K):Prop:=YT x λi=>ZD h i λo=>LV o λxs n=>ifB (Yr xs) (PA xs (k (.seq false [.str [],.str []]) h) λq y=>T5 (.acc q n) h i λh'=>k y h') False
theorem Kj:∀ {l:List MV} {no:Prop} {k:List MV→MV→Prop},PA l no k→(l=[]∧no)∨∃ q y,l=q++[y]∧k q y
 | [],_,_,h=>.inl ⟨rfl,h⟩
 | [x],_,_,h=>.inr ⟨[],x,rfl,h⟩
 | x :: z :: r,no,k,h=>by
  have h':PA (z :: r) no (λq y=>k (x :: q) y):=h
  refine Xi λgk=>?_;rcases Kj h' with ⟨e,_⟩ | ⟨q,y,e,m⟩ <;> (refine gk ?_;clear gk)
  ·cases e
  ·exact .inr ⟨x :: q,y,by rw [e];rfl,m⟩
theorem VRs.unsnoc {ρ:Rho} {h:Heap} {us:List Value} {xs:List MV} {y:MV} (r:VRs ρ h us (xs++[y])):∃ us' v,us=us'++[v]∧VRs ρ h us' xs∧VR ρ h v y:=by
 induction xs generalizing us with
 | nil=>exact r.oneI.elim λv e=>⟨[],v,e.1,.nil,e.2⟩
 | cons x xs ih=>
  refine Xi λgk=>?_
  obtain ⟨u,us',e,a,r⟩:=VRs.consI r
  obtain ⟨us2,v,e2,r',c⟩:=ih r
  refine gk ?_;clear gk
  exact ⟨u :: us2,v,by rw [e,e2];rfl,.cons a r',c⟩
section
variable {W:Wd} {ctx:List Bd} {b:Nat}
noncomputable def BC (W:Wd) (d:Nat) (f:MV→H→K→Prop) (g:Value):Prop:=
 ∀ (A:Around) (ρ:Rho) (σ:H) (s:Shared) (x:MV) (u:Value) (K:MV→H→Prop) (Q E:Value→Shared→Prop),OkA A d→VR ρ s.heap u x→Ok W ρ σ s→f x σ K→Nc W ρ s K Q→wpAny (model W.prog W.w) A (call g [u]) Q E s
theorem JR {d:Nat} {f:MV→H→K→Prop} {C fa:Addr} {name:Str} {m₁:Ev} {o:Expr} {apos pos} (X₀:KK.In W.h₀) (M:Meth C name fa) (hf:BC W d f (.ref fa)) (hb:d≤b)
  (hI:∀ (ρ:Rho) (σ:H) (s:Shared) (x:MV) (u:Value) (k:K),VR ρ s.heap u x→Ok W ρ σ s→f x σ k→∃ a ox od,u=.ref a∧InstAt s.heap a ox C od∧shadowIn od name=some false)
  (h:XD W ctx b m₁ o) (hbase:∀ env,attributeBase o name env (eval o env)=eval o env:=by intro _;rfl) (hline:(apos.endLine==pos.line)=true:=by rfl) :
  XD W ctx b (e1 f m₁) (.Call (.Attribute o name apos) [] [] pos):=λA env ρ σ vs s K Q E OA F O m q=>by
 rw [arm_eval_Call,hbase]
 refine wpAny_bind (h A env ρ σ vs s (λx h1=>f x h1 K) _ _ OA F O m λu x ρ₁ σ₁ s₁ k₁ v₁ O₁ X₁=>wpAny_bind (wpAny_standAt ?_))
 refine Xi λgk=>?_
 obtain ⟨a,ox,od,rfl,I,hs⟩:=hI ρ₁ σ₁ s₁ x u K v₁ O₁ k₁
 refine gk ?_;clear gk
 have X:KK.In s₁.heap:=X₀.keeps O₁.base
 have hpos:methodCallPos true o env apos pos=pure pos:=by unfold methodCallPos;simp [hline]
 have hform:methodCallForm (([]:List Expr).length+([]:List Keyword).length) (backTo pos (starEach [] env)) (backToKw pos (keywordEach [] env))=true:=rfl
 unfold methodCall
 rw [hform]
 refine wpAny_bind (wpAny_holding (JD X I M.ga M.gt M.hf M.ht hs ?_))
 refine wpAny_bind (wpAny_of_eq hpos ?_)
 refine callWith_K0 X M.kp ?_
 exact hf A ρ₁ σ₁ s₁ x (.ref a) K Q E (OA.mono hb) v₁ O₁ k₁ λv mv ρ₂ σ₂ s₂ k₂ v₂ O₂ X₂=>q _ _ _ _ _ k₂ v₂ O₂ (X₁.trans X₂)
theorem Fe (P:PW W) (C:AccOk W) (D:AccPop W) (M:Meth cAcc "part_count" fPart) {A:Around} {ρ:Rho} {σ:H} {s:Shared} {x d:Addr} {n:Nat} {od:Obj} {Q E:Value→Shared→Prop} (OA:OkA A 2) (O:Ok W ρ σ s)
  (I:InstAt s.heap x (Xu cAcc d [] n) cAcc (some od)) (hsh:shadowIn (some od) "part_count" = some false)
  (q:∀ h' u tk',(∀ b o,s.heap.get? b=some o→h'.get? b=some o)→VR ρ h' u (.seq false [.str [],.str []])→Q u { s with heap:=h',toks:=tk' }) :
  wpAny (model W.prog W.w) A (call (.ref OwnA.fPop) [.ref x]) Q E s:=by
 refine Xi λgk=>?_
 refine D.pop.E λoc ofd sl doc pm an cda ct vs file tf ccl cdd ccs hl hcd hcode hvs hfile=>?_
 refine gk ?_;clear gk
 have X:KK.In s.heap:=C.X.keeps O.base
 have hroom:A.depth<recursionLimit:=by have:=OA.2.1;omega
 refine wpAny_call (ks_codeAny_call_defAt (binds:=[(("self":Str),Value.ref x)]) hroom (X _ _ hl) rfl (P.glb.nl.keeps λb o e=>O.base b o e) (codeRec_of X hcd) rfl (BindsTo.of_eq (by kernel_rfl)) (show ∀ x∈(X6 3 3).names,x.2≠.cell by decide +kernel) (by
  intro y hy;rw [List.mem_singleton] at hy;subst hy;show (X6 3 3).names.lookup ("self":Str)=some .local;decide +kernel) (λh₀ hns k0=>?_) rfl rfl rfl)
 have X':KK.In h₀:=X.keeps k0
 have O0:Ok W ρ σ { s with heap:=h₀,toks:=s.toks+1 }:=O.keep k0
 have I0:InstAt h₀ x (Xu cAcc d [] n) cAcc (some od):=⟨k0 _ _ I.at_,rfl,rfl,k0 _ _ I.dict⟩
 have hself:(λz=>List.lookup z ([(("self":Str),Value.ref x)]:List (Str×Value)).reverse) ("self":Str)=some (.ref x):=rfl
 refine gqA λQ' hQ=>?_
 refine ks_wpAt_execs_cons (ks_wpAt_If (wpAt_of_wpAny (wpAny_isTrue_Compare1 (MethodCall_ (wpAny_Name (wpAny_loadName_local rfl rfl hns hself (JD X' I0 M.ga M.gt M.hf M.ht hsh (callWith_K0 X' M.kp (Uz P C (n:=n) (od:=od) (OkA.deeper OA _) O0 I0 ?_)))))) rfl)))
 intro h₂ tk tk' k2
 refine wpAny_Constant_int (eq_int (wpAny_truthy_bool ?_))
 have hz:(((([]:List Value).length:Nat):Int)==0)=true:=rfl
 rw [hz]
 simp only [if_true]
 have O2:Ok W ρ σ { s with heap:=h₂,toks:=tk'+1 }:=O0.keep k2
 refine ks_wpAt_execs_cons (wpAt_of_wpAny (wpAny_Return_some (wpAny_Tuple ?_)))
 refine args_cons (wpAny_Constant_str (args_cons (wpAny_Constant_str (args_nil ⟨by rw [sizeLine_eq];simp,?_⟩))))
 exact hQ _ _ <| q _ _ _ (λb o e=>Heap.get?_push_of_some _ (k2 _ _ (k0 _ _ e))) (.seq (O2.hr.fresh (XZ _)) ⟨0,Heap.get?_push_size _ rfl⟩ (.cons (.str [] _) (.cons (.str [] _) .nil)))
theorem HM (P:PW W) (C:AccOk W) (D:AccPop W) (T:AccSh) (M:Meth cAcc "part_count" fPart) :
  BC W 2 HF (.ref OwnA.fPop):=λA ρ σ s x u K Q E OA hu O m q=>by
 refine Xi λgk=>?_
 refine XT m λi qa m1=>?_;subst qa
 refine XU m1 λn l o qa hl m2=>?_;clear m m1;subst qa
 refine Y0 m2 λxs z qa m3=>?_;subst qa
 refine Z1 T O hl hu λa d us k mm hsh t t' qa e g1 g2 r=>?_;subst qa
 refine gk ?_;clear gk
 rcases Xo m3 with ⟨hf,m4⟩ | ⟨_,m4⟩
 ·clear m2 m3;rcases Kj m4 with ⟨rfl,m5⟩ | ⟨xs',y,rfl,m5⟩
  ·cases r
   exact Fe P C D M (n:=k) (od:=dictOf [⟨hsh,.str "_initial_size" t,.int z t'⟩] mm) OA O ⟨g1,rfl,rfl,g2⟩ rfl λh' u tk' kp v=>q _ _ ρ _ _ m5 v (O.keep kp) (.of_all kp)
  ·obtain ⟨us',v,rfl,r',c⟩:=r.unsnoc
   refine Xi λgk=>?_
   obtain ⟨l',m',hs⟩:=ZQ (show setL (.acc xs' z) l i λl'=>K y (.mk n l') from m5)
   refine gk ?_;clear gk
   refine W0 P C D M (n:=k) (od:=dictOf [⟨hsh,.str "_initial_size" t,.int z t'⟩] mm) OA O ⟨g1,rfl,rfl,g2⟩ rfl (by
    have:=Ye hf
    have e:=r'.length
    simp at this
    omega) λh' n' tk' e' kp=>?_
   have hda:d≠a:=by clear e e' hu kp;rintro rfl;rw [g1] at g2;cases g2
   have X:Ext ρ ρ s.heap h':=.of_keep (λb o e2 n=>kp b o (λz=>n ⟨i+1,by rw [e,z];exact .head _⟩) e2) λb hb o e2=>kp b o (λz=>by have:=O.hr.disj 0 (i+1) b hb (by rw [e,z];exact .head _);omega) e2
   obtain ⟨O',X'⟩:=O.setObj (t:=tk') hl hs (h':=h') (o:=.acc xs' z) (λb o hb e2=>kp b o (λz=>hb (by rw [e,z];exact .head _)) e2) (by
    rw [e]
    refine ⟨[(a,Xu cAcc d us' n'),(d,dictOf [⟨hsh,.str "_initial_size" t,.int z t'⟩] mm)],us',xs',rfl,by simp,λp hp=>?_,r'.ext X,(T.sh _ _ _ _ _).mpr ⟨rfl,a,d,n',mm,hsh,t,t',rfl⟩⟩
    rcases List.mem_cons.mp hp with rfl | hp
    ·exact e'
    ·rw [List.mem_singleton] at hp;subst hp;exact kp d _ hda g2)
   exact q _ _ ρ _ _ m' (c.ext X) O' X'
 ·exact m4.elim
theorem Ia (P:PW W) (C:AccOk W) (D:AccPop W) (T:AccSh) (M:Meth cAcc "part_count" fPart) (M':Meth cAcc "pop" OwnA.fPop) (hb:2≤b) {m₁:Ev} {o:Expr} {apos pos} (h:XD W ctx b m₁ o) (hbase:∀ env,attributeBase o "pop" env (eval o env)=eval o env:=by intro _;rfl) (hline:(apos.endLine==pos.line)=true:=by rfl) :
  XD W ctx b (e1 HF m₁) (.Call (.Attribute o "pop" apos) [] [] pos):=
 JR C.X M' (HM P C D T M) hb (λρ σ s x u k hu O m=>by
  refine Xi λgk=>?_
  refine XT m λi qa m1=>?_;clear m;subst qa
  refine XU m1 λn l o qa hl m2=>?_;clear m1;subst qa
  refine Y0 m2 λxs z qa m3=>?_;clear m2;subst qa
  refine Z1 T O hl hu λa d us k mm hsh t t' qa e g1 g2 r=>?_;clear hu;subst qa
  refine gk ?_;clear gk
  exact ⟨a,_,some _,rfl,⟨g1,rfl,rfl,g2⟩,rfl⟩) h hbase hline
end
end
section
set_option tactic.hygienic false
open PySem PyProof.Rows PySem.W PySem.Calls Builtin Builtin.ObjectAttr
set_option maxHeartbeats 4000000
theorem Ls (self:Value):refuseLoop self "__setattr__" [.type "list",.type "object"]=pure ():=by kernel_rfl
section
variable {prog:Program} {w:World} {A:Around} {E:Value→Shared→Prop} {s:Shared} {K:Frag} {x C dx:Addr} {ox:Obj} {es:List DictEntry} {n:Nat} {name:Str} {v:Value} {Q:Unit→Shared→Prop} {cd:ClassData}
theorem Nf {tk:Tok} {R:Result→Shared→Prop} (X:K.In s.heap) (I:InstAt s.heap x ox C (some (dictOf es n))) (hd:ox.dict=some dx)
  (hcl:clsIn K C=some cd) (hm:cd.mro=[.ref C,.type "list",.type "object"]) (hD:cd.hasDict=true) (ha:findIn K (.ref C) name=some none)
  (hl:(PySem.W.getL name es).isSome=true) (hz:(putL name (PyData.keyHash w.params name) (.str name s.toks) v es).length≤1000)
  (h:∀ h',h'.get? dx=some (dictOf (putL name (PyData.keyHash w.params name) (.str name s.toks) v es) (putN name es n))→(∀ b,b≠dx→h'.get? b=s.heap.get? b)→R (.ok (.ret .none)) { s with heap:=h',toks:=s.toks+1 }) :
  codeAny (model prog w) A (.call (.builtin "object.__setattr__") ⟨[.ref x,.str name tk,v],[]⟩) R s:=by
 have SF:=PySem.F.store_object
 have hsub:mroIn K C (.type "object")=some true:=by
  unfold mroIn
  rw [hcl,Option.bind_some,hm]
  simp
 have sub:Looks (model prog w) s.heap (isInstance (.ref x) (.type "object")) true:=I.type.andThen (looks_mroIn X hsub)
 refine codeAny_call_builtin SF.slot.plain SF.entry (@check_slot (model prog w) _ _ s "object.__setattr__" "object" "__setattr__" (.ref x) [.str name tk,v] [] _ SF.kind SF.split sub (SF.args (.ref x) (.str name tk) v) ?_)
 have L2:Looks (model prog w) s.heap (mroOf (.ref C)) cd.mro:=(looks_clsIn X hcl).andThen .now
 rw [osa_eq,refuse_eq]
 refine wpAny_bind (wpAny_bind (I.type.here (wpAny_bind (L2.here ?_))))
 rw [hm,refuseLoop_ref,Ls]
 refine wpAny_pure (wpAny_bind (I.type.here (wpAny_bind ((looks_findIn X ha).here (wpAny_bind (wpAny_pure ?_))))))
 refine Xi λgk=>?_
 obtain ⟨hx,hc,-,hdd⟩:=I
 obtain ⟨oc,odi,oda,osl⟩:=ox
 dsimp only at hc hd
 subst hc hd
 refine gk ?_;clear gk
 have D:s.heap.get? dx=some (dictOf es n):=hdd
 have D':(s.heap.update dx (Obj.putName name (PyData.keyHash w.params name) (.str name (s.toks)) v)).get? dx=some (dictOf (putL name (PyData.keyHash w.params name) (.str name (s.toks)) v es) (putN name es n)):=by
  rw [Heap.get?_update_self _ D (by rw [putName_dict];rfl),putName_dict]
 refine wpAny_bind (wpAny_pure (wpAny_bind (wpAny_bind (wpAny_loadPart hx (wpAny_bind ((looks_clsIn X hcl).here ?_))))))
 rw [hD]
 refine wpAny_pure (a:=some dx) (wpAny_bind (wpAny_pure (wpAny_bind ?_)))
 unfold nsSet
 refine wpAny_bind (wpAny_bind (wpAny_askSetting (wpAny_pure (wpAny_bind (wpAny_mkText (wpAny_bind (wpAny_loadPart D ?_)))))))
 have hl':(lookIn name (dictOf es n)).isSome=true:=hl
 have c:(!es.toArray.any (λe:DictEntry=>e.key.isStr name)&&es.toArray.any (λe:DictEntry=>e.refKey))=false:=by
  rw [← Array.any_toList,← Array.any_toList]
  change (match es.toArray.toList.find? (λe:DictEntry=>e.key.isStr name) with | some e=>some (some e.val) | none=>if es.toArray.toList.any (λe:DictEntry=>e.refKey) then none else some none).isSome=true at hl'
  cases q:es.toArray.toList.find? (λe:DictEntry=>e.key.isStr name) with
  | some en=>rw [List.any_eq_true.mpr ⟨en,List.mem_of_find?_eq_some q,List.find?_some q⟩];rfl
  | none=>
   rw [q] at hl'
   dsimp only at hl'
   split at hl'
   ·cases hl'
   ·rename_i z;rw [Bool.not_eq_true] at z;rw [z,Bool.and_false]
 dsimp only [dictOf]
 rw [aRefKeyMayBeTheName_at,c]
 refine wpAny_updatePart D ?_
 refine wpAny_bind (wpAny_lookBehind D' (pastItsLine_dict (by rw [List.size_toArray,sizeLine_eq];omega)) ?_)
 exact wpAny_pure (h _ D' λb hb=>Heap.get?_update_other _ _ (Ne.symm hb))
theorem Ja (X:K.In s.heap) (I:InstAt s.heap x ox C (some (dictOf es n))) (hd:ox.dict=some dx)
  (hs:findIn K (.ref C) "__setattr__" = some (some (.builtin "object.__setattr__"))) (hcl:clsIn K C=some cd) (hm:cd.mro=[.ref C,.type "list",.type "object"]) (hD:cd.hasDict=true) (ha:findIn K (.ref C) name=some none)
  (hl:(PySem.W.getL name es).isSome=true) (hz:(putL name (PyData.keyHash w.params name) (.str name (s.toks+1)) v es).length≤1000)
  (h:∀ h',h'.get? dx=some (dictOf (putL name (PyData.keyHash w.params name) (.str name (s.toks+1)) v es) (putN name es n))→(∀ b,b≠dx→h'.get? b=s.heap.get? b)→Q () { s with heap:=h',toks:=s.toks+2 }) :
  wpAny (model prog w) A (setAttr (.ref x) name v) Q E s:=by
 exact set_plain X I hs (Nf (s:={ s with toks:=s.toks+1 }) X I hd hcl hm hD ha hl hz λh' a b=>h h' a b)
end
end
section
set_option tactic.hygienic false
open PySem PyProof.Rows PySem.W PySem.Calls Builtin Builtin.List
set_option maxHeartbeats 4000000
noncomputable abbrev Jf:Obj:={ cls:=.type "slice",data:=.fields #[.none,.none,.none] }
theorem Fy:builtinKind "list.__setitem__" = some .slot:=by decide +kernel
theorem BS:splitId "list.__setitem__" = some ("list","__setitem__"):=by decide +kernel
theorem HO:typeLookup (.type "slice") "__index__" = pure none:=by rw [typeLookup_type,builtinLookup_eq_fast];kernel_rfl
section
variable {prog:Program} {w:World} {A:Around} {E:Value→Shared→Prop} {h:Heap} {g:Array GenState} {d:Drawn} {t:Nat} {os:OsState} {K:Frag} {x C dx sl y:Addr} {us ys:List Value} {n m:Nat} {od:Obj}
theorem Ln {R:Result→Shared→Prop} (hx:h.get? x=some (Xu C dx us n)) (hs:h.get? sl=some Jf) (hy:h.get? y=some { cls:=.type "list",data:=.seq ys.toArray m }) (hu:us.length≤4096) (hv:ys.length≤4096)
  (sub:Looks (model prog w) h (isInstance (.ref x) (.type "list")) true)
  (k:∀ h' n',h'.get? x=some (Xu C dx ys n')→(∀ b,b≠x→h'.get? b=h.get? b)→R (.ok (.ret .none)) ⟨h',g,d,t,os⟩) :
  codeAny (model prog w) A (.call (.builtin "list.__setitem__") ⟨[.ref x,.ref sl,.ref y],[]⟩) R ⟨h,g,d,t,os⟩:=by
 refine codeAny_call_builtin slot_list_setitem.plain entry_list_setitem (@check_slot (model prog w) _ _ ⟨h,g,d,t,os⟩ "list.__setitem__" "list" "__setitem__" (.ref x) [.ref sl,.ref y] [] _ Fy BS sub (args_list_setitem _ _ _) ?_)
 unfold Builtin.«list.__setitem__»
 refine wpAny_bind (wpAny_of_eq (a:=(.ref x,[.ref sl,.ref y])) (by kernel_rfl) ?_)
 dsimp only
 have T:Looks (model prog w) h (typeOf (.ref sl)) (.type "slice"):=(Looks.ld hs).andThen .now
 have L1:Looks (model prog w) h (specialOf (.ref sl) "__index__") none:=T.andThen (Looks.of_pure HO)
 unfold listSubscript?
 refine wpAny_bind (wpAny_bind (L1.here ?_))
 simp only [Option.isNone_none,if_true]
 refine wpAny_pure ?_
 dsimp only
 refine wpAny_bind (T.here ?_)
 simp only [bne_self_eq_false,Bool.false_eq_true,if_false]
 have P:Looks (model prog w) h (listSliceParts (.ref sl)) (.none,.none,.none):=by
  unfold listSliceParts
  refine (looks_field hs 2 (v:=.none) rfl).andThen ?_
  refine (Looks.of_pure (r:=Value.none) rfl).andThen ?_
  dsimp only
  refine (looks_field hs 0 (v:=.none) rfl).andThen ?_
  refine (Looks.of_pure (r:=Value.none) rfl).andThen ?_
  refine (looks_field hs 1 (v:=.none) rfl).andThen ?_
  refine (Looks.of_pure (r:=Value.none) rfl).andThen ?_
  exact Looks.of_pure rfl
 refine wpAny_bind (P.here ?_)
 dsimp only
 have same:listSameRef (.ref x) (.ref y)=false:=by
  show (x==y)=false
  rw [beq_eq_false_iff_ne]
  rintro rfl
  rw [hx] at hy
  cases hy
 rw [same]
 simp only [Bool.false_eq_true,if_false]
 have TY:Looks (model prog w) h (typeOf (.ref y)) (.type "list"):=(Looks.ld hy).andThen .now
 unfold listAllItems
 refine wpAny_bind (wpAny_bind (TY.here ?_))
 simp only [beq_self_eq_true,Bool.true_or,if_true]
 refine wpAny_bind (wpAny_seqItems hy rfl (wpAny_pure ?_))
 refine wpAny_bind (m:=listItems (.ref x)) (wpAny_bind (wpAny_seqItems hx rfl (wpAny_pure ?_)))
 have S:sliceIndices .none .none .none us.toArray.size=(pure (0,(us.toArray.size:Int),1):Sem _):=rfl
 rw [S]
 refine wpAny_bind (wpAny_pure ?_)
 dsimp only
 simp only [beq_self_eq_true,if_true]
 refine wpAny_bind (wpAny_rule ?_)
 have tl:listTooLong (us.toArray.size+ys.toArray.size)=false:=by
  unfold listTooLong
  rw [decide_eq_false_iff_not,List.size_toArray,List.size_toArray,sizeLine_eq]
  omega
 rw [tl]
 simp only [Bool.false_eq_true,if_false]
 have f4:us.toArray.extract 0 (0:Int).toNat++ys.toArray++us.toArray.extract (max (0:Int) (us.toArray.size:Int)).toNat us.toArray.size=ys.toArray:=by
  apply Array.toList_inj.mp
  simp
 refine wpAny_bind (m:=listUpdate (.ref x) _) ?_
 show wpAny _ _ (updateSeq x _) _ _ _
 refine wpAny_updateSeq hx rfl ?_ (by rw [List.size_toArray,sizeLine_eq];omega) (by rw [f4,List.size_toArray,sizeLine_eq];omega)
 refine wpAny_bind (wpAny_letGo (wpAny_pure ?_))
 have f6:∃ n',Obj.mapSeq (λxs=>xs.extract 0 (0:Int).toNat++ys.toArray++xs.extract (max (0:Int) (us.toArray.size:Int)).toNat) (Xu C dx us n)=Xu C dx ys n':=by
  unfold Obj.mapSeq
  dsimp only
  rw [f4]
  exact ⟨_,rfl⟩
 obtain ⟨n',f6⟩:=f6
 exact k _ n' (by rw [Heap.get?_update_self _ hx (by rw [f6];rfl),f6]) λb hb=>Heap.get?_update_other _ _ (Ne.symm hb)
end
end
section
set_option tactic.hygienic false
open PySem PyProof.Rows PySem.W PySem.Calls Builtin Builtin.List
set_option maxHeartbeats 4000000
section
variable {prog:Program} {w:World} {A:Around} {E:Value→Shared→Prop} {h:Heap} {g:Array GenState} {d:Drawn} {t:Nat} {os:OsState} {K:Frag} {x C dx sl y:Addr} {us ys:List Value} {n m:Nat} {od:Option Obj}
theorem Vm {Q:Unit→Shared→Prop} (X:K.In h) (I:InstAt h x (Xu C dx us n) C od) (hq:noSeq K C=true) (hsi:findIn K (.ref C) "__setitem__" = some (some (.builtin "list.__setitem__"))) (hL:mroIn K C (.type "list")=some true)
  (hs:h.get? sl=some Jf) (hy:h.get? y=some { cls:=.type "list",data:=.seq ys.toArray m }) (hu:us.length≤2000) (hv:ys.length≤2000)
  (k:∀ h' n',h'.get? x=some (Xu C dx ys n')→(∀ b,b≠x→h'.get? b=h.get? b)→Q () ⟨h',g,d,t,os⟩) :
  wpAny (model prog w) A (PySem.setItem (.ref x) (.ref sl) (.ref y)) Q E ⟨h,g,d,t,os⟩:=by
 unfold PySem.setItem sequenceKey
 refine wpAny_holding (wpAny_bind (wpAny_bind (I.type.here ?_)))
 refine wpAny_bind ((anyM_none X hq).here ?_)
 rw [if_pos (show (!false)=true from rfl)]
 refine wpAny_pure (wpAny_bind (wpAny_bind (wpAny_bind (I.type.here ((looks_findIn X hsi).here (wpAny_holding ?_))))))
 rw [slot_list_setitem.bind]
 refine wpAny_bind (wpAny_pure (wpAny_bind (wpAny_call ?_)))
 refine Ln I.at_ hs hy (by omega) (by omega) (I.type.andThen (looks_mroIn X hL)) λh' n' e' k'=>?_
 exact wpAny_pure (wpAny_pure (k h' n' e' k'))
end
end
section
set_option tactic.hygienic false
set_option maxHeartbeats 4000000
variable [iO:Own] [iA:OwnA]
open Own OwnA
structure AccReset (W:Wd) (T:Addr):Prop where
 reset:MFn OwnA.fReset "reset" "_Accumulator.reset" 3 6 [] (.ref T)
 dflt:∃ o n,KK.lookup T=some o∧o.data=.seq #[.none] n
 seq:noSeq KK cAcc=true
 si:findIn KK (.ref cAcc) "__setitem__" = some (some (.builtin "list.__setitem__"))
 sa:findIn KK (.ref cAcc) "__setattr__" = some (some (.builtin "object.__setattr__"))
 at_:findIn KK (.ref cAcc) "_initial_size" = some none
 cls:∃ cd,clsIn KK cAcc=some cd∧cd.mro=[.ref cAcc,.type "list",.type "object"]∧cd.hasDict=true
section
variable {W:Wd}
theorem Rr {T:Addr} (P:PW W) (C:AccOk W) (D:AccReset W T) {A:Around} {ρ:Rho} {σ:H} {s:Shared} {x d y:Addr} {us ys:List Value} {n m mm:Nat} {hsh:Int} {t t':Tok} {z:Int} {Q E:Value→Shared→Prop} (OA:OkA A 2) (O:Ok W ρ σ s)
  (I:InstAt s.heap x (Xu cAcc d us n) cAcc (some (dictOf [⟨hsh,.str "_initial_size" t,.int z t'⟩] mm))) (hy:s.heap.get? y=some { cls:=.type "list",data:=.seq ys.toArray m }) (hu:us.length≤2000) (hv:ys.length≤2000) (hx0:W.h₀.get? x=none)
  (q:∀ h' n' mm' t'' tk',h'.get? x=some (Xu cAcc d ys n')→h'.get? d=some (dictOf [⟨hsh,.str "_initial_size" t,.int 0 t''⟩] mm')→(∀ b o,b≠x→b≠d→s.heap.get? b=some o→h'.get? b=some o)→Q .none { s with heap:=h',toks:=tk' }) :
  wpAny (model W.prog W.w) A (call (.ref OwnA.fReset) [.ref x,.ref y]) Q E s:=by
 refine Xi λgk=>?_
 refine D.reset.E λoc ofd sl doc pm an cda ct vs file tf ccl cdd ccs hl hcd hcode hvs hfile=>?_
 refine D.dflt.elim λoT zz=>zz.elim λnT zz=>zz.elim λhT1 hT2=>?_
 refine D.cls.elim λcd zz=>zz.elim λhcl zz=>zz.elim λhmro hD=>?_
 refine gk ?_;clear gk
 have X:KK.In s.heap:=C.X.keeps O.base
 have hroom:A.depth<recursionLimit:=by have:=OA.2.1;omega
 refine wpAny_call (ks_codeAny_call_defAt (binds:=[(("self":Str),Value.ref x),(("startval":Str),Value.ref y)]) hroom (X _ _ hl) rfl (P.glb.nl.keeps λb o e=>O.base b o e) (codeRec_of X hcd) rfl (BindsTo.of_defaults rfl (X _ _ hT1) hT2 rfl (by kernel_rfl)) (show ∀ x∈(X6 3 6).names,x.2≠.cell by decide +kernel) (by
  intro y hy
  rcases List.mem_cons.mp hy with rfl | hy
  ·show (X6 3 6).names.lookup ("self":Str)=some .local;decide +kernel
  ·rw [List.mem_singleton] at hy;subst hy;show (X6 3 6).names.lookup ("startval":Str)=some .local;decide +kernel) (λh₀ hns k0=>?_) rfl rfl rfl)
 have X':KK.In h₀:=X.keeps k0
 have I0:InstAt h₀ x (Xu cAcc d us n) cAcc (some (dictOf [⟨hsh,.str "_initial_size" t,.int z t'⟩] mm)):=⟨k0 _ _ I.at_,rfl,rfl,k0 _ _ I.dict⟩
 have hself:(λz=>List.lookup z ([(("self":Str),Value.ref x),(("startval":Str),Value.ref y)]:List (Str×Value)).reverse) ("self":Str)=some (.ref x):=rfl
 have hsv:(λz=>List.lookup z ([(("self":Str),Value.ref x),(("startval":Str),Value.ref y)]:List (Str×Value)).reverse) ("startval":Str)=some (.ref y):=rfl
 refine wpAt_of_wpAny ?_;refine gq λQ' hQ=>?_
 refine wpAny_execs_cons (wpAny_If (wpAny_isTrue_Compare1 (wpAny_Name (wpAny_loadName_local rfl rfl hns hsv (wpAny_Constant_none (is_none_ne (by intro e;cases e) (wpAny_truthy_bool ?_)))))))
 refine wpAny_execs_nil ?_
 refine wpAny_execs_cons (wpAny_Assign_Subscript (wpAny_Name (wpAny_loadName_local rfl rfl hns hsv (wpAny_Name (wpAny_loadName_local rfl rfl hns hself (wpAny_Slice ?_))))))
 refine wpAny_evalPart_none (wpAny_evalPart_none (wpAny_evalPart_none ?_))
 have X₁:KK.In (h₀.push Jf):=X'.keeps λb o e=>Heap.get?_push_of_some _ e
 have I₁:InstAt (h₀.push Jf) x (Xu cAcc d us n) cAcc (some (dictOf [⟨hsh,.str "_initial_size" t,.int z t'⟩] mm)):=⟨Heap.get?_push_of_some _ I0.at_,rfl,rfl,Heap.get?_push_of_some _ I0.dict⟩
 have hdx:d≠x:=by
  clear I0 I₁ hns hself hsv hx0 q;rintro rfl
  have a:=I.at_
  rw [show s.heap.get? d=some (dictOf [⟨hsh,.str "_initial_size" t,.int z t'⟩] mm) from I.dict] at a
  cases a
 refine Vm X₁ I₁ D.seq D.si C.subL (Heap.get?_push_size _ rfl) (Heap.get?_push_of_some _ (k0 _ _ hy)) hu hv λh₂ n₂ e₂ k₂=>?_;refine gT (s:=s) (h:=h₂) λ__=>?_
 have e2d:h₂.get? d=some (dictOf [⟨hsh,.str "_initial_size" t,.int z t'⟩] mm):=(k₂ d hdx).trans (Heap.get?_push_of_some _ (k0 _ _ I.dict))
 have e2x:∀ b,b≠x→∀ o,h₀.get? b=some o→h₂.get? b=some o:=λb hb o e=>(k₂ b hb).trans (Heap.get?_push_of_some _ e)
 have X₂:KK.In h₂:=λa o e=>e2x a (Mine.neA (C.X _ _ e) hx0) o (X' _ _ e)
 have I₂:InstAt h₂ x (Xu cAcc d ys n₂) cAcc (some (dictOf [⟨hsh,.str "_initial_size" t,.int z t'⟩] mm)):=⟨e₂,rfl,rfl,e2d⟩
 have hns₂:=hns.at (h':=h₂) (e2x _ (λe=>absurd (Heap.lt_size I.at_) (by rw [← e];exact Nat.lt_irrefl _)))
 refine wpAny_execs_cons (plainObj_wpAny_Assign_Attribute (wpAny_Constant_int (wpAny_Name (wpAny_loadName_local rfl rfl hns₂ hself ?_))))
 refine Ja X₂ I₂ rfl D.sa hcl hmro hD D.at_ rfl (Nat.le_of_ble_eq_true rfl) λh₃ e₃ k₃=>?_;refine gT (s:=s) (h:=h₃) λ__=>?_
 refine wpAny_execs_nil ?_
 refine hQ _ _ ?_;exact q h₃ n₂ _ _ _ ((k₃ x (Ne.symm hdx)).trans e₂) e₃ λb o hb hb' e=>(k₃ b hb').trans (e2x b hb o (k0 _ _ e))
end
end
section
set_option tactic.hygienic false
set_option maxHeartbeats 4000000
variable [iO:Own] [iA:OwnA]
open Own OwnA
section
variable {W:Wd}
theorem KQ {T:Addr} (P:PW W) (C:AccOk W) (D:AccReset W T) {A:Around} {ρ:Rho} {σ:H} {s:Shared} {x d:Addr} {us:List Value} {n m mm:Nat} {hsh:Int} {t t':Tok} {z:Int} {Q E:Value→Shared→Prop} (OA:OkA A 2) (O:Ok W ρ σ s)
  (I:InstAt s.heap x (Xu cAcc d us n) cAcc (some (dictOf [⟨hsh,.str "_initial_size" t,.int z t'⟩] mm))) (hu:us.length≤2000) (hx0:W.h₀.get? x=none)
  (q:∀ h' n' mm' t'' tk',h'.get? x=some (Xu cAcc d [] n')→h'.get? d=some (dictOf [⟨hsh,.str "_initial_size" t,.int 0 t''⟩] mm')→(∀ b o,b≠x→b≠d→s.heap.get? b=some o→h'.get? b=some o)→Q .none { s with heap:=h',toks:=tk' }) :
  wpAny (model W.prog W.w) A (call (.ref OwnA.fReset) [.ref x]) Q E s:=by
 refine Xi λgk=>?_
 refine D.reset.E λoc ofd sl doc pm an cda ct vs file tf ccl cdd ccs hl hcd hcode hvs hfile=>?_
 refine D.dflt.elim λoT zz=>zz.elim λnT zz=>zz.elim λhT1 hT2=>?_
 refine D.cls.elim λcd zz=>zz.elim λhcl zz=>zz.elim λhmro hD=>?_
 refine gk ?_;clear gk
 have X:KK.In s.heap:=C.X.keeps O.base
 have hroom:A.depth<recursionLimit:=by have:=OA.2.1;omega
 refine wpAny_call (ks_codeAny_call_defAt (binds:=[(("self":Str),Value.ref x),(("startval":Str),Value.none)]) hroom (X _ _ hl) rfl (P.glb.nl.keeps λb o e=>O.base b o e) (codeRec_of X hcd) rfl (BindsTo.of_defaults rfl (X _ _ hT1) hT2 rfl (by kernel_rfl)) (show ∀ x∈(X6 3 6).names,x.2≠.cell by decide +kernel) (by
  intro y hy
  rcases List.mem_cons.mp hy with rfl | hy
  ·show (X6 3 6).names.lookup ("self":Str)=some .local;decide +kernel
  ·rw [List.mem_singleton] at hy;subst hy;show (X6 3 6).names.lookup ("startval":Str)=some .local;decide +kernel) (λh₀ hns k0=>?_) rfl rfl rfl)
 have I0:InstAt h₀ x (Xu cAcc d us n) cAcc (some (dictOf [⟨hsh,.str "_initial_size" t,.int z t'⟩] mm)):=⟨k0 _ _ I.at_,rfl,rfl,k0 _ _ I.dict⟩
 have hself:(λz=>List.lookup z ([(("self":Str),Value.ref x),(("startval":Str),Value.none)]:List (Str×Value)).reverse) ("self":Str)=some (.ref x):=rfl
 have hsv:(λz=>List.lookup z ([(("self":Str),Value.ref x),(("startval":Str),Value.none)]:List (Str×Value)).reverse) ("startval":Str)=some .none:=rfl
 refine wpAt_of_wpAny ?_;refine gq λQ' hQ=>?_
 refine wpAny_execs_cons (wpAny_If (wpAny_isTrue_Compare1 (wpAny_Name (wpAny_loadName_local rfl rfl hns hsv (wpAny_Constant_none (is_none_none (wpAny_truthy_bool ?_)))))))
 refine wpAny_execs_cons (wpAny_Assign_Name (wpAny_List (args_nil ⟨by rw [sizeLine_eq];simp,?_⟩)))
 have hnsP:=hns.push (h:=h₀) { cls:=.type "list",data:=.seq #[] }
 refine wpAny_storeName_local rfl hnsP (λhh hns' hsb=>?_) rfl
 have kk:∀ b,b≠s.heap.objs.size→∀ o,h₀.get? b=some o→hh.get? b=some o:=λb hb o e=>(hsb.2 b hb).trans (Heap.get?_push_of_some _ e)
 refine wpAny_execs_nil ?_
 have kh:∀ b o,s.heap.get? b=some o→hh.get? b=some o:=λb o e=>kk b (Nat.ne_of_lt (Heap.lt_size e)) o (k0 _ _ e)
 have Xh:KK.In hh:=X.keeps kh
 have hyh:hh.get? h₀.objs.size=some { cls:=.type "list",data:=.seq #[] }:=(hsb.2 _ (Nat.ne_of_gt hns.lt)).trans (Heap.get?_push_size _ rfl)
 refine wpAny_execs_cons (wpAny_Assign_Subscript (wpAny_Name (wpAny_loadName_local rfl rfl hns' rfl (wpAny_Name (wpAny_loadName_local rfl rfl hns' rfl (wpAny_Slice ?_))))))
 refine wpAny_evalPart_none (wpAny_evalPart_none (wpAny_evalPart_none ?_))
 have X₁:KK.In (hh.push Jf):=Xh.keeps λb o e=>Heap.get?_push_of_some _ e
 have I₁:InstAt (hh.push Jf) x (Xu cAcc d us n) cAcc (some (dictOf [⟨hsh,.str "_initial_size" t,.int z t'⟩] mm)):=⟨Heap.get?_push_of_some _ (kh _ _ I.at_),rfl,rfl,Heap.get?_push_of_some _ (kh _ _ I.dict)⟩
 have hdx:d≠x:=by
  clear I0 I₁ hns hns' hnsP hsb hself hsv hx0 q;rintro rfl
  have a:=I.at_
  rw [show s.heap.get? d=some (dictOf [⟨hsh,.str "_initial_size" t,.int z t'⟩] mm) from I.dict] at a
  cases a
 refine Vm X₁ I₁ D.seq D.si C.subL (Heap.get?_push_size _ rfl) (Heap.get?_push_of_some _ hyh) (ys:=[]) hu (Nat.zero_le _) λh₂ n₂ e₂ k₂=>?_;refine gT (s:=s) (h:=h₂) λ__=>?_
 have e2d:h₂.get? d=some (dictOf [⟨hsh,.str "_initial_size" t,.int z t'⟩] mm):=(k₂ d hdx).trans (Heap.get?_push_of_some _ (kh _ _ I.dict))
 have e2x:∀ b,b≠x→∀ o,hh.get? b=some o→h₂.get? b=some o:=λb hb o e=>(k₂ b hb).trans (Heap.get?_push_of_some _ e)
 have X₂:KK.In h₂:=λa o e=>e2x a (Mine.neA (C.X _ _ e) hx0) o (Xh _ _ e)
 have I₂:InstAt h₂ x (Xu cAcc d [] n₂) cAcc (some (dictOf [⟨hsh,.str "_initial_size" t,.int z t'⟩] mm)):=⟨e₂,rfl,rfl,e2d⟩
 have hns₂:=hns'.at (h':=h₂) (e2x _ (λe=>absurd (Heap.lt_size I.at_) (by rw [← e];exact Nat.lt_irrefl _)))
 refine wpAny_execs_cons (plainObj_wpAny_Assign_Attribute (wpAny_Constant_int (wpAny_Name (wpAny_loadName_local rfl rfl hns₂ rfl ?_))))
 refine Ja X₂ I₂ rfl D.sa hcl hmro hD D.at_ rfl (Nat.le_of_ble_eq_true rfl) λh₃ e₃ k₃=>?_;refine gT (s:=s) (h:=h₃) λ__=>?_
 refine wpAny_execs_nil ?_
 refine hQ _ _ ?_;exact q h₃ n₂ _ _ _ ((k₃ x (Ne.symm hdx)).trans e₂) e₃ λb o hb hb' e=>(k₃ b hb').trans (e2x b hb o (kh _ _ e))
end
end
section
set_option tactic.hygienic false
variable [iO:Own] [iA:OwnA]
open Own OwnA
noncomputable def UU (x:MV) (h:H) (k:K):Prop:=YT x λi=>ZD h i λo=>LV o λxs __=>ifB (Nat.ble (len xs) 2000) (T5 (.acc [] 0) h i λh'=>k .none h') False
section
variable {W:Wd} {ctx:List Bd} {b:Nat}
theorem Lw {T:Addr} (P:PW W) (C:AccOk W) (D:AccReset W T) (S:AccSh):BC W 2 UU (.ref OwnA.fReset):=λA ρ σ s x u K Q E OA hu O m q=>by
 refine Xi λgk=>?_
 refine XT m λi qa m1=>?_;subst qa
 refine XU m1 λn l o qa hl m2=>?_;clear m m1;subst qa
 refine Y0 m2 λxs z qa m3=>?_;clear m2;subst qa
 refine Z1 S O hl hu λa d us k mm hsh t t' qa e g1 g2 r=>?_;clear hu;subst qa
 refine gk ?_;clear gk
 rcases Xo m3 with ⟨hf,m4⟩ | ⟨_,m4⟩
 ·obtain ⟨l',m',hs⟩:=ZQ (show setL (.acc [] 0) l i λl'=>K .none (.mk n l') from m4)
  have hfit:us.length≤2000:=by
   have:=Nat.le_of_ble_eq_true hf
   rw [Yh,← r.length] at this
   exact this
  refine KQ P C D (m:=0) OA O ⟨g1,rfl,rfl,g2⟩ hfit (O.hr.base a ⟨i+1,by rw [e];exact .head _⟩) λh' n' mm' t'' tk' e1 e2 kp=>?_
  obtain ⟨O',X'⟩:=O.setObj (t:=tk') hl hs (h':=h') (o:=.acc [] 0) (λb o hb e3=>kp b o (λz=>hb (by rw [e,z];exact .head _)) (λz=>hb (by rw [e,z];exact .tail _ (.head _))) e3) (by
   rw [e]
   refine ⟨[(a,Xu cAcc d [] n'),(d,dictOf [⟨hsh,.str "_initial_size" t,.int 0 t''⟩] mm')],[],[],rfl,by simp,λp hp=>?_,.nil,(S.sh _ _ _ _ _).mpr ⟨rfl,a,d,n',mm',hsh,t,t'',rfl⟩⟩
   rcases List.mem_cons.mp hp with rfl | hp
   ·exact e1
   ·rw [List.mem_singleton] at hp;subst hp;exact e2)
  exact q _ _ ρ _ _ m' .none O' X'
 ·exact m4.elim
theorem Kd {T:Addr} (P:PW W) (C:AccOk W) (D:AccReset W T) (S:AccSh) (M':Meth cAcc "reset" OwnA.fReset) (hb:2≤b) {m₁:Ev} {o:Expr} {apos pos} (h:XD W ctx b m₁ o) (hbase:∀ env,attributeBase o "reset" env (eval o env)=eval o env:=by intro _;rfl) (hline:(apos.endLine==pos.line)=true:=by rfl) :
  XD W ctx b (e1 UU m₁) (.Call (.Attribute o "reset" apos) [] [] pos):=
 JR C.X M' (Lw P C D S) hb (λρ σ s x u k hu O m=>by
  refine Xi λgk=>?_
  refine XT m λi qa m1=>?_;clear m;subst qa
  refine XU m1 λn l o qa hl m2=>?_;clear m1;subst qa
  refine Y0 m2 λxs z qa m3=>?_;clear m2;subst qa
  refine Z1 S O hl hu λa d us k mm hsh t t' qa e g1 g2 r=>?_;clear hu;subst qa
  refine gk ?_;clear gk
  exact ⟨a,_,some _,rfl,⟨g1,rfl,rfl,g2⟩,rfl⟩) h hbase hline
end
end
section
set_option tactic.hygienic false
variable [iO:Own] [iA:OwnA]
open Own OwnA
noncomputable def Ty (x y:MV) (h:H) (k:K):Prop:=YT x λi=>ZD h i λo=>LV o λxs __=>Jm h y λys=>ifB (Nat.ble (len xs) 2000) (ifB (Nat.ble (len ys) 2000) (T5 (.acc ys 0) h i λh'=>k .none h') False) False
section
variable {W:Wd} {ctx:List Bd} {b:Nat}
theorem Li {T:Addr} (P:PW W) (C:AccOk W) (D:AccReset W T) (S:AccSh) {A:Around} {ρ:Rho} {σ:H} {s:Shared} {x y:MV} {u v:Value} {K:MV→H→Prop} {Q E:Value→Shared→Prop} (OA:OkA A 2) (hu:VR ρ s.heap u x) (hy:VR ρ s.heap v y) (O:Ok W ρ σ s)
  (m:Ty x y σ K) (q:Nc W ρ s K Q):wpAny (model W.prog W.w) A (call (.ref OwnA.fReset) [u,v]) Q E s:=by
 refine Xi λgk=>?_
 refine XT m λi qa m1=>?_;subst qa
 refine XU m1 λn l o qa hl m2=>?_;subst qa
 refine Y0 m2 λxs z qa m3=>?_;subst qa
 refine Zw m3 λys qa m3=>?_;clear m m1 m2;subst qa
 obtain ⟨a,d,us,k,mm,hsh,t,t',rfl,e,g1,g2,r⟩:=H5 S O hl hu
 refine gk ?_;clear gk
 refine Xi λgk=>?_;rcases Xo m3 with ⟨hf,m4⟩ | ⟨_,m4⟩ <;> (refine gk ?_;clear gk)
 ·refine Xi λgk=>?_;rcases Xo m4 with ⟨hg,m4⟩ | ⟨_,m4⟩ <;> (refine gk ?_;clear gk)
  ·refine VI (show setL (.acc ys 0) l i λl'=>K .none (.mk n l') from m4) λl' m' hs=>?_
   refine Xi λgk=>?_
   obtain ⟨yv,vs,rfl,no,hsq,hr⟩:=hy.seqI
   obtain ⟨ny,ey⟩:=hsq
   refine gk ?_;clear gk
   have hfit:us.length≤2000:=by
    have:=Nat.le_of_ble_eq_true hf
    rw [Yh,← r.length] at this
    exact this
   have hfit':vs.length≤2000:=by
    have:=Nat.le_of_ble_eq_true hg
    rw [Yh,← hr.length] at this
    exact this
   refine Rr P C D OA O ⟨g1,rfl,rfl,g2⟩ ey hfit hfit' (O.hr.base a ⟨i+1,by rw [e];exact .head _⟩) λh' n' mm' t'' tk' e1 e2 kp=>?_
   have X:Ext ρ ρ s.heap h':=.of_keep (λb o e3 n=>kp b o (λz=>n ⟨i+1,by rw [e,z];exact .head _⟩) (λz=>n ⟨i+1,by rw [e,z];exact .tail _ (.head _)⟩) e3) λb hb o e3=>kp b o (λz=>by have:=O.hr.disj 0 (i+1) b hb (by rw [e,z];exact .head _);omega) (λz=>by have:=O.hr.disj 0 (i+1) b hb (by rw [e,z];exact .tail _ (.head _));omega) e3
   obtain ⟨O',X'⟩:=O.setObj (t:=tk') hl hs (h':=h') (o:=.acc ys 0) (λb o hb e3=>kp b o (λz=>hb (by rw [e,z];exact .head _)) (λz=>hb (by rw [e,z];exact .tail _ (.head _))) e3) (by
    rw [e]
    refine ⟨[(a,Xu cAcc d vs n'),(d,dictOf [⟨hsh,.str "_initial_size" t,.int 0 t''⟩] mm')],vs,ys,rfl,by simp,λp hp=>?_,hr.ext X,(S.sh _ _ _ _ _).mpr ⟨rfl,a,d,n',mm',hsh,t,t'',rfl⟩⟩
    refine Xi λgk=>?_;rcases List.mem_cons.mp hp with rfl | hp <;> (refine gk ?_;clear gk)
    ·exact e1
    ·rw [List.mem_singleton] at hp;subst hp;exact e2)
   exact q _ _ ρ _ _ m' .none O' X'
  ·exact m4.elim
 ·exact m4.elim
end
end
section
set_option tactic.hygienic false
variable [iO:Own] [iA:OwnA]
open Own OwnA
noncomputable def Cg (f:MV→MV→H→K→Prop) (m₁ m₂:Ev):Ev:=λvs h k=>m₁ vs h λx h1=>YT x λi=>ZD h1 i λo=>LV o λ__ __=>m₂ vs h1 λy h2=>f x y h2 k
section
variable {W:Wd} {ctx:List Bd} {b:Nat}
theorem LM {T:Addr} (P:PW W) (C:AccOk W) (D:AccReset W T) (S:AccSh) (M:Meth cAcc "reset" OwnA.fReset) (hb:2≤b) {m₁ m₂:Ev} {o e:Expr} {apos pos} (h:XD W ctx b m₁ o) (h':XD W ctx b m₂ e)
  (hbase:∀ env,attributeBase o "reset" env (eval o env)=eval o env:=by intro _;rfl) (hline:(apos.endLine==pos.line)=true:=by rfl) (he:∀ env,backTo pos (starEach [e] env)=[(false,eval e env)]:=by intro _;rfl) (he2:∀ env,starEach [e] env=(false,eval e env) :: starEach [] env:=by intro _;rfl) :
  XD W ctx b (Cg Ty m₁ m₂) (.Call (.Attribute o "reset" apos) [e] [] pos):=λA env ρ σ vs s K Q E OA F O m q=>by
 rw [arm_eval_Call,hbase]
 refine wpAny_bind (h A env ρ σ vs s _ _ _ OA F O m λu x ρ₁ σ₁ s₁ k₁ v₁ O₁ X₁=>wpAny_bind (wpAny_standAt ?_))
 refine Xi λgk=>?_
 refine XT k₁ λi qa m1=>?_;clear k₁;subst qa
 refine XU m1 λn l ob qa hl m2=>?_;clear m1;subst qa
 refine Y0 m2 λxs z qa m3=>?_;clear m2;subst qa
 refine Z1 S O₁ hl v₁ λa d us k mm hsh t t' qa e' g1 g2 r=>?_;subst qa
 refine gk ?_;clear gk
 have X:KK.In s₁.heap:=C.X.keeps O₁.base
 have I:InstAt s₁.heap a (Xu cAcc d us k) cAcc (some (dictOf [⟨hsh,.str "_initial_size" t,.int z t'⟩] mm)):=⟨g1,rfl,rfl,g2⟩
 have hpos:methodCallPos true o env apos pos=pure pos:=by unfold methodCallPos;simp [hline]
 have hform:methodCallForm (([e]:List Expr).length+([]:List Keyword).length) (backTo pos (starEach [e] env)) (backToKw pos (keywordEach [] env))=true:=by rw [he env];rfl
 unfold methodCall
 rw [hform]
 refine wpAny_bind (wpAny_holding (JD X I M.ga M.gt M.hf M.ht rfl ?_))
 refine wpAny_bind (wpAny_of_eq hpos ?_)
 refine callWith_K (he:=he2 env) X M.kp ?_
 rw [he env]
 refine spliced_cons (h' A env ρ₁ _ vs s₁ _ _ _ OA (F.ext X₁) O₁ m3 λv y ρ₂ σ₂ s₂ k₂ v₂ O₂ X₂=>spliced_nil ⟨C.X.keeps O₂.base,?_⟩)
 exact Li P C D S (OA.mono hb) (v₁.ext X₂) v₂ O₂ k₂ λv mv ρ₃ σ₃ s₃ k₃ v₃ O₃ X₃=>q _ _ _ _ _ k₃ v₃ O₃ ((X₁.trans X₂).trans X₃)
end
end
section
set_option tactic.hygienic false
open PySem PyProof.Rows PySem.W PySem.Calls Builtin Builtin.List
set_option maxHeartbeats 1000000
section
variable {prog:Program} {w:World} {A:Around} {E:Value→Shared→Prop} {h:Heap} {g:Array GenState} {d:Drawn} {t:Nat} {os:OsState} {x C:Addr}
theorem Uf {q:Addr} {dx:Addr} {n:Nat} {Q:Value→Shared→Prop} (hq:h.get? q=some (Yq "method-wrapper" "list.__init__" x)) (hx:h.get? x=some (Xu C dx [] n))
  (k:∀ h' n',h'.get? x=some (Xu C dx [] n')→(∀ b,b≠x→h'.get? b=h.get? b)→Q .none ⟨h',g,d,t,os⟩):wpAny (model prog w) A (call (.ref q) []) Q E ⟨h,g,d,t,os⟩:=by
 refine wpAny_call (codeAny_of_tree ?_)
 show wpAny _ _ (callAny (.ref q) _) _ _ _
 unfold callAny
 refine wpAny_bind (wpAny_load hq ?_)
 show wpAny _ _ (do checkBoundCall "list.__init__" ⟨[.ref x],[]⟩;again (.builtin "list.__init__" ⟨[.ref x],[]⟩)) _ _ _
 refine wpAny_bind (wpAny_of_eq (a:=()) (by kernel_rfl) ?_)
 refine wpAny_pure ⟨Code.quiet_builtin _ dk,codeAny_builtin (b:=Builtin.«list.__init__») (entryFor_of_tree (by kernel_rfl)) ?_⟩
 unfold Builtin.«list.__init__»
 dsimp only
 simp only [List.isEmpty_nil,Bool.not_true,Bool.false_eq_true,if_false,List.length_nil,gt_iff_lt,Nat.not_lt_zero]
 refine wpAny_bind (m:=listItems (.ref x)) (wpAny_bind (wpAny_seqItems hx rfl (wpAny_pure ?_)))
 refine wpAny_bind (m:=listUpdate (.ref x) _) ?_
 show wpAny _ _ (updateSeq x _) _ _ _
 refine wpAny_updateSeq hx rfl ?_ (by rw [List.size_toArray,sizeLine_eq];simp) (by rw [sizeLine_eq];simp)
 refine wpAny_bind (wpAny_letGo (wpAny_pure ?_))
 have f6:∃ n',Obj.mapSeq (λ__=>#[]) (Xu C dx [] n)=Xu C dx [] n':=⟨_,rfl⟩
 obtain ⟨n',f6⟩:=f6
 exact k _ n' (by rw [Heap.get?_update_self _ hx (by rw [f6];rfl),f6]) λb hb=>Heap.get?_update_other _ _ (Ne.symm hb)
end
end
section
set_option maxHeartbeats 1000000
variable [iO:Own] [iA:OwnA]
open Own OwnA
structure AccInit (W:Wd) (T:Addr):Prop where
 init:MFn OwnA.fInit "__init__" "_Accumulator.__init__" 3 0 [("__class__",cc)] (.ref T)
 dflt:∃ o n t,KK.lookup T=some o∧o.data=.seq #[.int 0 t] n
 aInit:alongIn KK "__init__" [.type "list",.type "object"]=some (some (.builtin "list.__init__"))
section
variable {W:Wd}
theorem DS {T T':Addr} (P:PW W) (C:AccOk W) (R:AccReset W T') (D:AccInit W T) {A:Around} {ρ:Rho} {σ:H} {s:Shared} {x d:Addr} {n mm:Nat} {t':Tok} {z:Int} {R':Result→Shared→Prop} (OA:OkA A 2) (O:Ok W ρ σ s)
  (I:InstAt s.heap x (Xu cAcc d [] n) cAcc (some (dictOf [] mm))) (hx0:W.h₀.get? x=none) (hd0:W.h₀.get? d=none)
  (q:∀ h' n' hsh mm' tk tk',h'.get? x=some (Xu cAcc d [] n')→h'.get? d=some (dictOf [⟨hsh,.str "_initial_size" tk,.int z t'⟩] mm')→(∀ b o,b≠x→b≠d→s.heap.get? b=some o→h'.get? b=some o)→R' (.ok (.ret .none)) { s with heap:=h',toks:=tk' }) :
  codeAny (model W.prog W.w) A (.call (.ref OwnA.fInit) ⟨[.ref x,.int z t'],[]⟩) R' s:=by
 refine Xi λgk=>?_
 refine D.init.E λoc ofd sl doc pm an cda ct vs file tf ccl cdd ccs hl hcd hcode hvs hfile=>?_
 obtain ⟨oT,nT,tT,hT1,hT2⟩:=D.dflt
 obtain ⟨cd,hcl,hmro⟩:=C.clsD
 obtain ⟨cd',hcl',hmro',hD'⟩:=R.cls
 obtain ⟨cl,cld,csl,hcell⟩:=C.cell
 refine gk ?_;clear gk
 have X:KK.In s.heap:=C.X.keeps O.base
 have hroom:A.depth<recursionLimit:=by have:=OA.2.1;omega
 refine (ks_codeAny_call_defAt (binds:=[(("self":Str),Value.ref x),(("initial_size":Str),Value.int z t')]) hroom (X _ _ hl) rfl (P.glb.nl.keeps λb o e=>O.base b o e) (codeRec_of X hcd) rfl (BindsTo.of_defaults rfl (X _ _ hT1) hT2 rfl (by kernel_rfl)) (show ∀ x∈(X6 3 0).names,x.2≠.cell by decide +kernel) (by
  intro y hy
  rcases List.mem_cons.mp hy with rfl | hy
  ·show (X6 3 0).names.lookup ("self":Str)=some .local;decide +kernel
  ·rw [List.mem_singleton] at hy;subst hy;show (X6 3 0).names.lookup ("initial_size":Str)=some .local;decide +kernel) (λh₀ hns k0=>?_) rfl rfl rfl)
 have X':KK.In h₀:=X.keeps k0
 have I0:InstAt h₀ x (Xu cAcc d [] n) cAcc (some (dictOf [] mm)):=⟨k0 _ _ I.at_,rfl,rfl,k0 _ _ I.dict⟩
 have hdx:d≠x:=by
  clear I0 hns hx0 q;rintro rfl
  have a:=I.at_
  rw [show s.heap.get? d=some (dictOf [] mm) from I.dict] at a
  cases a
 refine gqA λQ' hQ=>?_
 refine ks_wpAt_execs_cons (wpAt_of_wpAny (plainObj_wpAny_Assign_Attribute (wpAny_Name (wpAny_loadName_local rfl rfl hns rfl (wpAny_Name (wpAny_loadName_local rfl rfl hns rfl ?_))))))
 refine Ja X' I0 rfl R.sa hcl' hmro' hD' R.at_ rfl (Nat.le_of_ble_eq_true rfl) λh₂ e₂ k₂=>?_
 refine Xi λgk=>?_
 obtain ⟨tk0,mm',e₂⟩:∃ tk0 mm',h₂.get? d=some (dictOf [⟨PyData.keyHash W.w.params "_initial_size",.str "_initial_size" tk0,.int z t'⟩] mm'):=⟨_,_,e₂⟩
 refine gk ?_;clear gk
 have k2:∀ b,b≠d→∀ o,h₀.get? b=some o→h₂.get? b=some o:=λb hb o e=>(k₂ b hb).trans e
 have X₂:KK.In h₂:=λa o e=>k2 a (Mine.neA (C.X _ _ e) hd0) o (X' _ _ e)
 have I₂:InstAt h₂ x (Xu cAcc d [] n) cAcc (some (dictOf [⟨PyData.keyHash W.w.params "_initial_size",.str "_initial_size" tk0,.int z t'⟩] mm')):=⟨k2 x (Ne.symm hdx) _ I0.at_,rfl,rfl,e₂⟩
 have hns₂:=hns.at (h':=h₂) (k2 _ (λe=>absurd (Heap.lt_size (show s.heap.get? d=some _ from I.dict)) (by rw [← e];exact Nat.lt_irrefl _)))
 refine ks_wpAt_execs_cons (ks_wpAt_Expr_any (ks_wpAt_MethodCall ?_))
 have hpr:W.prog=pw:=P.prog
 have b2:∀ b,W.h₀.get? d=none→∀ o,W.h₀.get? b=some o→h₂.get? b=some o:=λb hd o e=>k2 b (Mine.neA e hd) o (k0 _ _ (O.base _ _ e))
 have G':h₂.Ns mainGlobals W.mg:=P.glb.g.at' λo e=>b2 _ hd0 o e
 have B':h₂.Ns builtinsNs W.mb:=P.glb.b.at' λo e=>b2 _ hd0 o e
 refine Xi λgk=>?_
 obtain ⟨oD,hD1,hD2⟩:∃ oD,h₂.get? cAcc=some oD∧oD.data=.cls cd:=by
  unfold clsIn at hcl
  split at hcl
  ·rename_i c d cd' sl ho
   clear hmro;cases hcl
   exact ⟨_,X₂ _ _ ho,rfl⟩
  ·cases hcl
 refine gk ?_;clear gk
 refine ks_wpAt_super_base rfl rfl rfl rfl (X₂ _ _ hl) rfl rfl rfl (X₂ _ _ hcode) rfl hvs (by rw [hpr];exact hfile) (by rw [hpr];decide +kernel) ?_
 refine ks_loadName_global rfl rfl (loadGlobal_builtin G' (P.nob _ dk) B' ((P.glb.bi _ dk).trans Ga) ⟨rfl,?_⟩)
 refine wpAny_loadName_free rfl rfl rfl ⟨_,X₂ _ _ hcell,rfl⟩ ?_
 refine wpAny_loadName_local rfl rfl hns₂ rfl ?_
 refine ks_wpAny_isType_cls hD1 hD2 ⟨rfl,?_⟩
 refine ks_wpAny_call_super hD1 hD2 I₂.at_ rfl (λc e=>by cases e) (looks_mroIn X₂ C.sub) (λh₁ e1 k1=>?_)
 have X₁:KK.In h₁:=X₂.keeps k1
 have hmr:Looks (model W.prog W.w) h₁ (mroOf (.ref cAcc)) cd.mro:=λA Q E s k q=>wpAny_bind ((looks_clsIn X₁ hcl) A _ E s k (wpAny_pure q))
 have I₁:InstAt h₁ x (Xu cAcc d [] n) cAcc (some (dictOf [⟨PyData.keyHash W.w.params "_initial_size",.str "_initial_size" tk0,.int z t'⟩] mm')):=⟨k1 _ _ I₂.at_,rfl,rfl,k1 _ _ I₂.dict⟩
 have hne:x≠cAcc:=by clear I I0 I₁ e1 e₂ hdx hns hns₂ hx0 k₂ q;rintro rfl;rw [I₂.at_] at hD1;cases hD1;cases hD2
 refine Zm e1 (C.noOpq _ X₁) hmr hmro X₁ D.aInit (T:="wrapper_descriptor") (gid:="wrapper_descriptor.__get__") (BT:="method-wrapper") (by show builtinType _=_;rw [builtinType_eq_fast];kernel_rfl) Z0.lookup hne dk
  (λt A Q E hq=>LY (I₁.type.andThen (looks_mroIn X₁ C.subL)) hq) ?_
 refine callWith_of (P:=λh=>h.get? h₁.objs.size=some (Yq "method-wrapper" "list.__init__" x)∧h.get? x=some (Xu cAcc d [] n)) rfl (λh hh=>⟨.machine,.inr (.inl rfl),JE (.inl rfl) hh.1⟩) ?_
 have g1:(h₁.push (Yq "method-wrapper" "list.__init__" x)).get? h₁.objs.size=some (Yq "method-wrapper" "list.__init__" x):=Heap.get?_push_size _ rfl
 have g2:(h₁.push (Yq "method-wrapper" "list.__init__" x)).get? x=some (Xu cAcc d [] n):=Heap.get?_push_of_some _ I₁.at_
 refine PyProof.Rows.evalArgs_none ⟨⟨g1,g2⟩,?_⟩
 refine Uf g1 g2 λh' n' e' k'=>?_
 refine wpAt_of_wpAny (wpAny_execs_nil ?_)
 exact hQ _ _ <| q h' n' _ mm' tk0 _ e' ((k' d hdx).trans (Heap.get?_push_of_some _ (k1 _ _ e₂))) λb o hb hb' e=>(k' b hb).trans (Heap.get?_push_of_some _ (k1 _ _ (k2 b hb' o (k0 _ _ e))))
end
end
section
set_option tactic.hygienic false
variable [iO:Own] [iA:OwnA]
open Own OwnA
theorem DR (a:Addr) (l:List Value) (k:List (Str×Value)):(Code.builtin "type.__call__" ⟨.ref a :: l,k⟩).weight=1:=by kernel_rfl
theorem Hq (a:Addr) (l:List Value) (k:List (Str×Value)):(Code.builtin "type.__call__" ⟨.ref a :: l,k⟩).cUnits=1:=by kernel_rfl
theorem OkA.tc {A:Around} {b:Nat} (X:OkA A (b+1)) (a:Addr) (l:List Value) (k:List (Str×Value)):OkA (A.under (.builtin "type.__call__" ⟨.ref a :: l,k⟩)) b:=by
 have h1:=DR a l k
 have h2:=Hq a l k
 refine ⟨X.1,?_,?_⟩
 ·have:=X.2.1;show A.depth+_+b<_;rw [h1];omega
 ·have:=X.2.2;show A.units+_+_+_<_;rw [h2];omega
structure AccNew (W:Wd):Prop where
 fI:findIn KK (.ref cAcc) "__init__" = some (some (.ref OwnA.fInit))
 isF:typeIn KK (.ref OwnA.fInit)=some (.type "function")
section
variable {W:Wd} {ctx:List Bd} {b:Nat}
theorem LR {T T':Addr} (P:PW W) (C:AccOk W) (R:AccReset W T') (D:AccInit W T) (N:AccNew W) (S:AccSh) (hm:Bd.glo "_Accumulator"∈ctx) (hb:2≤b) {m₁:Ev} {e:Expr} {pos' pos} (h:XD W ctx (b+1) m₁ e)
  (he:∀ env,starEach [e] env=(false,eval e env) :: starEach [] env:=by intro _;rfl)
  (hc:∀ env,eval (.Call (.Name "_Accumulator" pos') [e] [] pos) env=(do callWith pos (← eval (.Name "_Accumulator" pos') env) [] (backTo pos (starEach [e] env)) (backToKw pos (keywordEach [] env))):=by intro _;rfl) :
  XD W ctx (b+1) (e1 R3 m₁) (.Call (.Name "_Accumulator" pos') [e] [] pos):=λA env ρ σ vs s K Q E OA F O m q=>by
 refine Call_ (ZN P.glb F O hm C.cls (by decide) ?_) (hc env)
 have X:KK.In s.heap:=C.X.keeps O.base
 refine callWith_K (he:=he env) X C.keep ?_
 have hbt:backTo pos (starEach [e] env)=[(false,eval e env)]:=by rw [he env];rfl
 rw [hbt]
 refine spliced_cons (h A env ρ σ vs s _ _ _ OA F O m λu x ρ₁ σ₁ s₁ k₁ v₁ O₁ X₁=>spliced_nil ⟨C.X.keeps O₁.base,?_⟩)
 refine Xs k₁ λz qa k₂=>?_;subst qa
 obtain ⟨t',rfl⟩:=v₁.intI
 cases σ₁ with | mk n l=>
 have k₃:K (.ref n) (.mk (n+1) (l++[(n,.acc [] z)])):=by
  have:Zo (l++[(n,MO.acc [] z)]) λl'=>K (.ref n) (.mk (Nat.succ n) l'):=k₂
  rw [Yw] at this;exact this
 have X₂:KK.In s₁.heap:=C.X.keeps O₁.base
 obtain ⟨hp,g,d,tk,os⟩:=s₁
 have ff:∀ self,Looks (model W.prog W.w) hp (bindSpecial (.ref OwnA.fInit) self) (.ref OwnA.fInit,[self]):=λself=>bind_fn X₂ self N.isF
 refine wpAny_call (CS (Da X₂ C.makes) (looks_findIn X₂ N.fI) ff ?_)
 have Op:Ok W ρ₁ (.mk n l) ⟨(hp.push emptyDict).push (Xu cAcc hp.objs.size [] 0),g,d,tk,os⟩:=(O₁.push emptyDict).push _
 have gd:((hp.push emptyDict).push (Xu cAcc hp.objs.size [] 0)).get? hp.objs.size=some emptyDict:=by heap_get
 have gx:((hp.push emptyDict).push (Xu cAcc hp.objs.size [] 0)).get? (hp.objs.size+1)=some (Xu cAcc hp.objs.size [] 0):=by heap_get
 have fresh:∀ a,hp.objs.size≤a→hp.get? a=none:=λa ha=>by
  exact Z5 (Nat.not_lt.mpr ha)
 have base0:∀ a,hp.get? a=none→W.h₀.get? a=none:=λa ha=>by
  exact Yc (λo e=>O₁.base _ _ e) ha
 have fd:=fresh hp.objs.size (Nat.le_refl _)
 have fx:=fresh (hp.objs.size+1) (Nat.le_succ _)
 have kp:∀ b o,hp.get? b=some o→((hp.push emptyDict).push (Xu cAcc hp.objs.size [] 0)).get? b=some o:=λb o e=>Heap.get?_push_of_some _ (Heap.get?_push_of_some _ e)
 refine DS P C R D (mm:=0) (z:=z) (t':=t') (OkA.tc (OkA.mono OA (by omega)) _ _ _) Op ⟨gx,rfl,rfl,gd⟩ (base0 _ fx) (base0 _ fd) λh' n' hsh mm' tk1 tk2 e1 e2 k1=>?_
 refine ⟨rfl,?_⟩
 have k':∀ b o,hp.get? b=some o→h'.get? b=some o:=λb o e=>k1 b o (Mine.neA e fx) (Mine.neA e fd) (kp b o e)
 obtain ⟨O',X'⟩:=O₁.newObj (t:=tk2) (h':=h') (o:=.acc [] z) (F:=[hp.objs.size+1,hp.objs.size]) (by simp) (by
   intro a ha
   rcases List.mem_cons.mp ha with rfl | ha
   ·exact fx
   ·rw [List.mem_singleton] at ha;subst ha;exact fd) k'
   ⟨[(hp.objs.size+1,Xu cAcc hp.objs.size [] n'),(hp.objs.size,dictOf [⟨hsh,.str "_initial_size" tk1,.int z t'⟩] mm')],[],[],rfl,by simp,λp hp'=>by
    rcases List.mem_cons.mp hp' with rfl | hp'
    ·exact e1
    ·rw [List.mem_singleton] at hp';subst hp';exact e2,.nil,(S.sh _ _ _ _ _).mpr ⟨rfl,_,_,n',mm',hsh,tk1,t',rfl⟩⟩
 exact q _ _ _ _ _ k₃ (.ref (by rw [X5])) O' (X₁.trans X')
end
end
section
set_option tactic.hygienic false
noncomputable def Uv (h:Heap) (a:Addr) (XL:Array Value):Prop:=∃ o n,h.get? a=some o∧o.data=.seq XL n
theorem Uv.keep {h h':Heap} {a:Addr} {XL:Array Value} (x:Uv h a XL) (k:∀ o,h.get? a=some o→h'.get? a=some o):Uv h' a XL:=let ⟨o,n,e,d⟩:=x;⟨o,n,k o e,d⟩
section
variable {prog:Program} {w:World} {A:Around} {E:Value→Shared→Prop} {s:Shared} {K:Frag} {x C dx:Addr} {us:List Value} {n:Nat} {od:Option Obj}
theorem Tj {Q:Value→Shared→Prop} (X:K.In s.heap) (I:InstAt s.heap x (Xu C dx us n) C od) (hf:findIn K (.ref C) "__iter__" = some (some (.builtin "list.__iter__"))) (hL:mroIn K C (.type "list")=some true)
  (q:Q (.ref s.heap.objs.size) { s with heap:=s.heap.push { cls:=.type "list_iterator",data:=.fields #[.ref x,.int 0 0] } }):wpAny (model prog w) A (pyIter (.ref x)) Q E s:=by
 have T:=I.type (M:=model prog w)
 have S:Looks (model prog w) s.heap (specialOf (.ref x) "__iter__") (some (.builtin "list.__iter__")):=T.andThen (looks_findIn X hf)
 have fin:wpAny (model prog w) A (call (.builtin "list.__iter__") [.ref x]) (λit s'=>∃ T' r,s'.TypeIs it T'∧typeLookup (.type T') "__next__" = pure (some r)∧Q it s') E s:=by
  refine wpAny_call (codeAny_call_builtin slot_list_iter.plain entry_list_iter (@check_slot (model prog w) _ _ s "list.__iter__" "list" "__iter__" (.ref x) [] [] _ dk dk (T.andThen (looks_mroIn X hL)) (args_list_iter _) ?_))
  show wpAny _ _ (do ret (← newFields "list_iterator" [.ref x,rawInt 0])) _ _ s
  exact wpAny_bind (wpAny_newObj_type (wpAny_pure ⟨"list_iterator",_,⟨_,Heap.get?_push_size _ rfl,rfl⟩,slot_listiter_next.lookup,q⟩))
 unfold pyIter
 refine wpAny_bind (S.here ?_)
 dsimp only
 refine wpAny_bind ?_
 simp only [callSpecialIfBoundUnlessNone?,bindSpecialIfBound?]
 refine wpAny_holding (wpAny_bind (wpAny_bind (S.here ?_)))
 simp only [slot_list_iter.bind]
 refine wpAny_bind (wpAny_askSetting (wpAny_ite ?_))
 have fin2:wpAny (model prog w) A (call (.builtin "list.__iter__") [.ref x] >>= λv=>pure (some v)) (λo s'=>wpAny (model prog w) A (match o with
   | some it=>do
    match ← specialOf it "__next__" with
    | none=>rule "iter.non-iterator";raiseError "TypeError" s!"iter() returned non-iterator of type '{← typeNameOf it}'"
    | some _=>pure it
   | none=>do
    match ← bindSpecialIfBound? (.ref x) "__getitem__" with
    | none=>rule "iter.not-iterable";raiseError "TypeError" s!"'{← typeNameOf (.ref x)}' object is not iterable"
    | some _=>rule "iter.getitem-fallback";newFields "iterator" [.ref x,← mkInt 0]) Q E s') E s:=by
  refine wpAny_bind (wpAny_mono fin (λit s' h'=>?_) λ__ __ z=>z)
  refine h'.elim λT' zz=>zz.elim λr zz=>zz.elim λhT' zz=>zz.elim λhl hQ=>?_
  exact wpAny_pure (wpAny_bind (wpAny_specialOf hT' hl (wpAny_pure hQ)))
 have fin3:∀ refuse:Sem (Option Value),wpAny (model prog w) A (if (Value.builtin "list.__iter__"==Value.none)=true then refuse else call (.builtin "list.__iter__") [.ref x] >>= λv=>pure (some v)) _ E s:=λrefuse=>by
  simp only [builtin_beq_none,Bool.false_eq_true,if_false]
  exact fin2
 split
 ·exact wpAny_bind (wpAny_pure (wpAny_pure (fin3 _)))
 ·exact wpAny_tryCatch (wpAny_bind (wpAny_pure (wpAny_pure (fin3 _))))
theorem Nd {it l:Addr} {i:Nat} {XL:Array Value} {v:Value} {Q:Option Value→Shared→Prop} (hit:s.heap.IsListIter it l i) (hl:Uv s.heap l XL) (hx:XL[i]?=some v)
  (q:∀ h',h'.IsListIter it l (i+1)→Heap.SameBut it s.heap h'→Q (some v) { s with heap:=h' }):wpAny (model prog w) A (pyNext (.ref it)) Q E s:=by
 refine Xi λgk=>?_
 refine (id hit).elim λo zz=>zz.elim λho zz=>zz.elim λhc hd=>?_
 refine hl.elim λol zz=>zz.elim λnl zz=>zz.elim λhol hdl=>?_
 refine gk ?_;clear gk
 unfold pyNext
 refine wpAny_bind (wpAny_attempt (wpAny_callSpecial?_slot (name:=Str.ofString "__next__") hit.typeIs slot_listiter_next (wpAny_call_entry slot_listiter_next hit.typeIs entry_listiter_next ?_ (args_listiter_next _))))
 show wpAny _ _ (field (.ref it) 0 >>= _) _ _ s
 refine wpAny_bind (wpAny_field ho hd (x:=.ref l) rfl ?_)
 show wpAny _ _ (if (Value.ref l==Value.none)=true then _ else _) _ _ s
 rw [if_neg (show ¬ ((Value.ref l==Value.none)=true) from Bool.false_ne_true)]
 show wpAny _ _ (field (.ref it) 1 >>= _) _ _ s
 refine wpAny_bind (wpAny_field ho hd (x:=.int i 0) rfl ?_)
 show wpAny _ _ (seqItems? (.ref l) >>= _) _ _ s
 refine wpAny_bind (wpAny_seqItems hol hdl ?_)
 simp only [Int.toNat_natCast,hx]
 refine wpAny_bind (wpAny_setField ho hd (by simp) (wpAny_pure ⟨v,rfl,wpAny_pure (q _ ?_ (Heap.SameBut.update ..))⟩))
 exact ⟨_,Heap.get?_update_self _ ho (Obj.isFreed_of_fields (Obj.data_mapFields hd _)),(Obj.cls_mapFields ..).trans hc,by rw [Obj.data_mapFields hd];simp [rawInt]⟩
theorem Mx {it l:Addr} {i:Nat} {XL:Array Value} {Q:Option Value→Shared→Prop} (hh:A.handled=none) (hit:s.heap.IsListIter it l i) (hl:Uv s.heap l XL) (hx:XL[i]?=none)
  (q:∀ h',Heap.ExtBut it s.heap h'→Q none { s with heap:=h' }):wpAny (model prog w) A (pyNext (.ref it)) Q E s:=by
 refine Xi λgk=>?_
 refine (id hit).elim λo zz=>zz.elim λho zz=>zz.elim λhc hd=>?_
 refine hl.elim λol zz=>zz.elim λnl zz=>zz.elim λhol hdl=>?_
 refine gk ?_;clear gk
 unfold pyNext
 refine wpAny_bind (wpAny_attempt (wpAny_callSpecial?_slot (name:=Str.ofString "__next__") hit.typeIs slot_listiter_next (wpAny_call_entry slot_listiter_next hit.typeIs entry_listiter_next ?_ (args_listiter_next _))))
 show wpAny _ _ (field (.ref it) 0 >>= _) _ _ s
 refine wpAny_bind (wpAny_field ho hd (x:=.ref l) rfl ?_)
 show wpAny _ _ (if (Value.ref l==Value.none)=true then _ else _) _ _ s
 rw [if_neg (show ¬ ((Value.ref l==Value.none)=true) from Bool.false_ne_true)]
 show wpAny _ _ (field (.ref it) 1 >>= _) _ _ s
 refine wpAny_bind (wpAny_field ho hd (x:=.int i 0) rfl ?_)
 show wpAny _ _ (seqItems? (.ref l) >>= _) _ _ s
 refine wpAny_bind (wpAny_seqItems hol hdl ?_)
 simp only [Int.toNat_natCast,hx]
 refine wpAny_bind (wpAny_rule (wpAny_bind (wpAny_setField ho hd (by simp) ?_)))
 show wpAny _ _ (newExc (.type "StopIteration") [] >>= _) _ _ _
 refine wpAny_bind ?_
 simp only [newExc,newTuple]
 refine wpAny_bind (wpAny_newObj_type ?_ (by size_fits))
 refine wpAny_bind (m:=firstArgMember _ _) (wpAny_of_eq (a:=Value.none) (by first | rfl | (simp only [firstArgMember];rfl)) ?_)
 refine wpAny_newObj_type ?_ (by size_fits)
 simp only [raiseNew]
 refine wpAny_bind (wpAny_handled ?_)
 rw [show A.in1.handled=none from hh]
 refine wpAny_bind (wpAny_pure (wpAny_throw ?_))
 refine wpAny_bind (wpAny_isInstance (T:="StopIteration") (b:=true) ⟨_,Heap.get?_push_size _ rfl,rfl⟩ isSubtype_stop ?_)
 exact wpAny_pure (q _ (((Heap.SameBut.update ..).extBut.push _).push _))
end
theorem Dq {prog:Program} {w:World} {A:Around} (hh:A.handled=none) (I ax:Addr) (hne:ax≠I) (XL:Array Value) (Ts:Nat→Addr) (vals:Nat→Array Value)
  (hit:∀ j,j<XL.size→XL[j]?=some (.ref (Ts j))) (hTI:∀ j,j<XL.size→Ts j≠I) :
  WalksU prog w A I (I :: ax :: (List.range XL.size).map Ts) [I] XL.size (λj v=>v=vals j)
   (λj h=>h.IsListIter I ax j∧Uv h ax XL∧∀ k,k<XL.size→h.IsTuple (Ts k) (vals k))
   (λj T h=>(j<XL.size∧T=Ts j)∧h.IsListIter I ax (j+1)∧Uv h ax XL∧∀ k,k<XL.size→h.IsTuple (Ts k) (vals k)) where
 sub:=λb hb=>by simp at hb;simp [hb]
 frame:=λ__ __ __ st hk=>⟨st.1.at λo e=>hk I (by simp) o e,st.2.1.keep λo e=>hk ax (by simp) o e,
  λk hk'=>(st.2.2 k hk').at λo e=>hk (Ts k) (List.mem_cons_of_mem _ (List.mem_cons_of_mem _ (List.mem_map.mpr ⟨k,List.mem_range.mpr hk',rfl⟩))) o e⟩
 item:=λi s Q E hi st hQ=>by
  refine Nd st.1 st.2.1 (v:=.ref (Ts i)) (hit i hi) λh' hit' hs'=>?_
  have tup:∀ k,k<XL.size→h'.IsTuple (Ts k) (vals k):=λk hk'=>(st.2.2 k hk').extBut hs'.extBut (hTI k hk')
  exact hQ (Ts i) (vals i) h' s.toks rfl (tup i hi) ⟨⟨hi,rfl⟩,hit',st.2.1.keep λo e=>hs'.extBut ax o hne e,tup⟩ λb o hb e=>hs'.extBut b o (λh=>hb (by simp [h])) e
 go:=λ__ __ __ __ __ s Q __ hm hQ=>wpAny_letOwnedTupleGo_listiter hm.2.1 (hQ s.heap hm.2 λ__ __ __ e=>e)
 apart:=λj T __ hm hmem=>by
  rcases List.mem_cons.mp hmem with e | e
  ·exact hTI j hm.1.1 (hm.1.2▸e)
  ·cases e
 done:=λs Q E st hQ=>Mx hh st.1 st.2.1 (by simp) λh' he'=>hQ h' s.toks λb o hb e=>he' b o (λh=>hb (by simp [h])) e
 self:=λ__ __ __ __ st hQ=>wpAny_pyIter_listiter st.1 hQ
end
section
set_option tactic.hygienic false
noncomputable def Tt (z:Int) (f:Nat→Int):Nat→Int
 | 0=>z
 | i+1=>f i
theorem Gu (z:Int) (f:Nat→Int):∀ n,preSum (Tt z f) (n+1)=z+preSum f n
 | 0=>by simp [preSum,Tt]
 | n+1=>by
  have e:=Gu z f n
  rw [preSum,e]
  show z+preSum f n+f n=z+(preSum f n+f n)
  omega
noncomputable def He {α:Type} (p:Nat→α→Prop):Nat→α→Prop
 | 0,_=>False
 | i+1,v=>p i v
theorem Mb {prog:Program} {w:World} {A:Around} {I:Addr} {fp wr:List Addr} {G:Array GenState→Array GenState→Prop} {n:Nat} {P:Nat→Value→Prop} {St:Nat→Shared→Prop} (W:WalksS prog w A I fp wr G n P St) :
  WalksS prog w A I fp wr G (n+1) (He P) (He St) where
 sub:=W.sub
 grefl:=W.grefl
 gtrans:=W.gtrans
 frame:=λi s h' tk st ht k=>match i,st with | i+1,st=>W.frame i s h' tk st ht k
 item:=λi s Q E hi st q=>match i,st with | i+1,st=>W.item i s Q E (by omega) st λv s' p st' m=>q v s' p st' m
 done:=λs Q E st q=>W.done s Q E st q
 self:=λi s Q E st q=>match i,st with | i+1,st=>W.self i s Q E st q
theorem Dt (a b:Value):argsOk "sum" ⟨[a,b],[]⟩:=by unfold argsOk;kernel_rfl
section
variable {prog:Program} {w:World} {A:Around} {E:Value→Shared→Prop} {s:Shared}
theorem DV {x:Value} {z:Int} {tz:Tok} {Q:Value→Shared→Prop}
  (h:wpAny (model prog w) A.in1 (pyIter x) (λit s₂=>∃ I fp wr G n P St val,it=.ref I∧WalksS prog w A.in1 I fp wr G n P St∧St 0 s₂∧(∀ b∈fp,b<s₂.heap.objs.size)∧(∀ i v,P i v→∃ t,v=.int (val i) t)∧
   ∀ s' t',Moved wr G s₂ s'→Q (.int (z+preSum val n) t') s') E s):wpAny (model prog w) A (call (.builtin "sum") [x,.int z tz]) Q E s:=by
 refine call_function_tree F.kind_sum F.plain_sum F.entry_sum (Dt _ _) ?_
 unfold Builtin.«sum»
 simp only [List.length_cons,List.length_nil]
 rw [if_neg (by decide)]
 refine wpAny_bind (wpAny_of_eq (show Builtin.Builtins.bindParams "sum" ["start"] 0 ⟨[.int z tz],[]⟩=pure [some (.int z tz)] from by kernel_rfl) ?_)
 refine wpAny_bind (wpAny_mono h (λit s₂ h₂=>?_) λ__ __ e=>e)
 refine Xi λgk=>?_
 obtain ⟨I,fp,wr,G,n,P,St,val,rfl,W,hst,hfp,hval,hQ⟩:=h₂
 refine gk ?_;clear gk
 have rest:∀ (tA:Tok) (st:Int),(st=0∨st=2)→∀ tk,s₂.toks≤tk→wpAny (model prog w) A.in1 (do
   for (ty,what,hint) in [("str","strings","''"),("bytes","bytes","b''"),("bytearray","bytearray","b''")] do
    if ← isInstance (.int z tA) (.type ty) then
     rule "sum.start-refused";raiseError "TypeError" s!"sum() can't sum {what} [use {hint}.join(seq) instead]"
   again (.builtin "sum.loop" ⟨[.ref I,← newList [.int z tA],rawInt st,rawInt 0],[]⟩)) (λr s'=>match r with | .done f=>(match (Except.ok f:Result) with | .ok (.ret v)=>Q v s' | .ok _=>False | .error e=>E e s') | .again c=>c.quiet=true∧codeAny (model prog w) A c (λr s'=>match r with | .ok (.ret v)=>Q v s' | .ok _=>False | .error e=>E e s') s') E { s₂ with toks:=tk }:=λtA st hst2 tk htk=>by
  simp only [List.forIn_cons,List.forIn_nil]
  refine wpAny_bind (wpAny_bind (wpAny_bind (wpAny_isInstance (T:="int") (b:=false) (typeIs_int _ _ _) PySem.sub_int_str ?_)))
  simp only [Bool.false_eq_true,if_false]
  refine wpAny_pure (wpAny_bind (wpAny_bind (wpAny_isInstance (T:="int") (b:=false) (typeIs_int _ _ _) PySem.sub_int_bytes ?_)))
  simp only [Bool.false_eq_true,if_false]
  refine wpAny_pure (wpAny_bind (wpAny_bind (wpAny_isInstance (T:="int") (b:=false) (typeIs_int _ _ _) PySem.sub_int_bytearray ?_)))
  simp only [Bool.false_eq_true,if_false]
  refine wpAny_pure (wpAny_pure ?_)
  refine wpAny_bind (wpAny_newObj_type ?_)
  have hSf:s₂.heap.objs.size ∉ fp:=λhm=>Nat.lt_irrefl _ (hfp _ hm)
  refine wpAny_pure ⟨plainId_quiet F.plain_sum_loop _,codeAny_sum_loopAnyS (Mb W) (Tt z val) (λi v hp=>match i,hp with | i+1,hp=>hval i v hp) s₂.heap.objs.size hSf n 1 _ tA 0 st hst2 (by omega) (by omega)
   (W.frame 0 s₂ _ _ hst htk λb __ o e=>Heap.get?_push_of_some _ e) ?_ λs' t' hm=>?_⟩
  ·have e:preSum (Tt z val) 1=z:=by simp [preSum,Tt]
   rw [e]
   exact Heap.get?_push_size _ rfl
  ·rw [Gu]
   exact hQ s' t' (hm.drop_new htk)
 dsimp only
 split
 ·refine wpAny_bind (wpAny_rule ?_)
  refine wpAny_bind (wpAny_mkInt ?_)
  refine wpAny_bind (wpAny_pure ?_)
  exact rest s₂.toks 0 (.inl rfl) (s₂.toks+1) (Nat.le_succ _)
 ·refine wpAny_bind (wpAny_pure ?_)
  exact rest tz 2 (.inr rfl) s₂.toks (Nat.le_refl _)
end
end
section
set_option tactic.hygienic false
section
variable {prog:Program} {w:World} {A:Around} {E:Value→Shared→Prop} {s:Shared}
theorem HC {env:Env} {mg mb mm:Str→Option Value} {a b:Str} {ta tb:Tok} {p1 p2 p3 p4 p5 p6 p7:Pos} {Q:Value→Shared→Prop} (hk:env.scope.kind=.function) (h1:env.kindOf "fws" = some .local) (h2:env.kindOf "part" = some .local) (h3:env.kindOf "len" = some .globalImplicit)
  (G:s.heap.Ns env.globals mg) (hg:mg "len" = none) (B:s.heap.Ns env.builtins mb) (hb:mb "len" = some (.builtin "len")) (N:s.heap.Ns env.locals mm) (ha:mm "fws" = some (.str a ta)) (hb':mm "part" = some (.str b tb)) (hza:a.length≤4096) (hzb:b.length≤4096)
  (q:∀ t tk,Q (.int ((a.length:Int)+b.length) t) { s with toks:=tk }) :
  wpAny (model prog w) A (eval (.BinOp (.Call (.Name "len" p1) [.Name "fws" p2] [] p3) .Add (.Call (.Name "len" p4) [.Name "part" p5] [] p6) p7) env) Q E s:=by
 refine wpAny_BinOp (Call_ (Name_function_global hk h3 (loadGlobal_builtin G hg B hb ?_)) rfl)
 refine PyProof.Rows.callWith_builtin1 (args_cons (wpAny_Name (wpAny_loadName_local hk h1 N ha (args_nil (len_str (by omega) ?_)))) rfl) rfl rfl
 refine Call_ (Name_function_global hk h3 (loadGlobal_builtin G hg B hb ?_)) rfl
 refine PyProof.Rows.callWith_builtin1 (args_cons (wpAny_Name (wpAny_loadName_local hk h2 N hb' (args_nil (len_str (by omega) ?_)))) rfl) rfl rfl
 exact PySem.P.add_int (q _ _)
end
end
section
set_option tactic.hygienic false
set_option maxHeartbeats 1000000
variable [iO:Own] [iA:OwnA]
open Own OwnA
noncomputable abbrev Yz (ps:Array Value):Obj:={ cls:=.none,data:=.fields ps }
structure GrowFn (f cF pT:Addr) (name qual:Str) (i j:Nat):Prop where
 fn:∃ oc od sl doc pm an ct,KK.lookup f=some ⟨oc,od,.func (mFn name qual i j [] .none doc pm an (.ref cF) ct),sl⟩
 code:codeIn KK (.ref cF) qual=true
 tcls:∃ o vs,KK.lookup cF=some o∧o.cls=.type "code"∧o.data=.fields vs∧vs[11]?=some (.ref pT)
 rec_:∃ o vs file tf flags tg inF text tt,KK.lookup cF=some o∧o.data=.fields vs∧vs.getD 11 .none=.ref pT∧vs.getD 18 .none=.str file tf∧vs.getD 7 .none=.int flags tg∧vs.getD 9 .none=.bool inF∧vs.getD 10 .none=.int text tt
structure AccLen (W:Wd) (cL pL:Addr):Prop where
 fn:GrowFn OwnA.fLen cL pL "__len__" "_Accumulator.__len__" 3 4
 iter:findIn KK (.ref cAcc) "__iter__" = some (some (.builtin "list.__iter__"))
 ga:findIn KK (.ref cAcc) "__getattribute__" = some (some (.builtin "list.__getattribute__"))
 gt:findIn KK (.ref cAcc) "__getattr__" = some none
 hasD:hasDictIn KK cAcc=true
 at_:findIn KK (.ref cAcc) "_initial_size" = some none
 bm:∃ bm ob,BMod W.h₀ mainGlobals W.mg bm ob
theorem DC:bootBuiltins "sum" = some (.builtin "sum"):=by decide +kernel
theorem VJ:bootBuiltins "len" = some (.builtin "len"):=by decide +kernel
noncomputable abbrev Row:=Addr×Str×Tok×Str×Tok
noncomputable def Vt:Row:=(0,⟨#[]⟩,0,⟨#[]⟩,0)
noncomputable def Hr (r:Row):Array Value:=#[.str r.2.1 r.2.2.1,.str r.2.2.2.1 r.2.2.2.2]
noncomputable def Ng (r:Row):Int:=(r.2.1.length:Int)+r.2.2.2.1.length
theorem Zr {h:Heap} {c P:Addr} {ps:Array Value} (k:h.IsCode c P ps):∃ op,h.get? P=some op∧op.data=.fields ps∧TriplesOk ps.toList:=by
 refine k.elim λ__ zz=>zz.elim λ__ zz=>zz.elim λ__ zz=>zz.elim λ__ zz=>zz.elim λ__ zz=>zz.elim λ__ zz=>zz.elim λ__ zz=>zz.elim λ__ zz=>zz.elim λ__ zz=>zz.elim λop3 zz=>zz.elim λ__ zz=>zz.elim λ__ zz=>zz.elim λ__ zz=>zz.elim λ__ zz=>zz.elim λ__ zz=>zz.elim λ__ zz=>zz.elim λ__ zz=>zz.elim λe3 zz=>zz.elim λd3 zz=>zz.elim λt3 __=>?_
 exact ⟨op3,e3,d3,t3⟩
theorem TripleTab.isCode {K:Frag} {h:Heap} {f cF pT:Addr} [Own] {name qual:Str} {i j:Nat} {op:Obj} {ps:Array Value} (D:GrowFn f cF pT name qual i j) (X:KK.In h) (e:h.get? pT=some op) (d:op.data=.fields ps) (t:TriplesOk ps.toList) (ne:cF≠pT):h.IsCode cF pT ps:=by
 refine Xi λgk=>?_
 refine D.rec_.elim λo zz=>zz.elim λvs zz=>zz.elim λfile zz=>zz.elim λtf zz=>zz.elim λflags zz=>zz.elim λtg zz=>zz.elim λinF zz=>zz.elim λtext zz=>zz.elim λtt zz=>zz.elim λh1 zz=>zz.elim λh2 zz=>zz.elim λh3 zz=>zz.elim λh4 zz=>zz.elim λh5 zz=>zz.elim λh6 h7=>?_
 refine gk ?_;clear gk
 exact ⟨o,vs,file,tf,flags,tg,inF,text,tt,op,X _ _ h1,h2,h3,h4,h5,h6,h7,e,d,t,ne⟩
theorem Na {M:Model} {A:Around} {E:Value→Shared→Prop} {s:Shared} {env:Env} {c P:Addr} {ps:Array Value} {pos:Pos} {qualname:Str} {scope:Scope} {Q:Value→Shared→Prop} (hc:env.code=.ref c) (hok:s.heap.IsCode c P ps) (htab:s.heap.TableAt c P ps)
  (hQ:∀ code h' tk ps',Heap.ExtBut P s.heap h'→h'.IsCode c P ps'→h'.TableAt c P ps'→Q code { s with heap:=h',toks:=tk }):wpAny M A (genexprCode env pos qualname scope) Q E s:=by
 cases hnf:codeAmong pos ps.toList with
 | none=>exact wpAny_genexprCodeX hc hok htab hnf λc' h' tk a __ __ d __ e __=>hQ _ h' tk _ a d e
 | some cv=>
  refine Xi λgk=>?_
  refine (id hok).elim λo zz=>zz.elim λvs zz=>zz.elim λfile zz=>zz.elim λtf zz=>zz.elim λflags zz=>zz.elim λtg zz=>zz.elim λinF zz=>zz.elim λtext zz=>zz.elim λtt zz=>zz.elim λop zz=>zz.elim λho zz=>zz.elim λhd zz=>zz.elim λh11 zz=>zz.elim λh2 zz=>zz.elim λh7 zz=>zz.elim λh9 zz=>zz.elim λh10 zz=>zz.elim λhop zz=>zz.elim λhpd zz=>zz.elim λhtr hne=>?_
  refine gk ?_;clear gk
  unfold genexprCode codeAt
  rw [hc,if_neg (show ¬ ((Value.ref c==Value.none)=true) from Bool.false_ne_true)]
  refine wpAny_bind (wpAny_fieldsOf ho hd ?_)
  rw [h11]
  refine wpAny_bind (wpAny_fieldsOf hop hpd ?_)
  rw [hnf]
  exact wpAny_pure (hQ cv s.heap s.toks ps (Heap.ExtBut.refl _ _) hok htab)
section
variable {prog:Program} {w:World} {A:Around} {E:Value→Shared→Prop} {s:Shared} {K:Frag} {x C:Addr} {ox:Obj} {od:Option Obj} {name:Str} {expr:Bool} {Q:Value→Shared→Prop}
theorem Rd {v:Value} (X:K.In s.heap) (I:InstAt s.heap x ox C od) (hga:findIn K (.ref C) "__getattribute__" = some (some (.builtin "list.__getattribute__"))) (hgt:findIn K (.ref C) "__getattr__" = some none) (hsub:mroIn K C (.type "list")=some true)
  (hf:findObj K C od name=some (.value v)) (hh:handedIn v=true) (h:Q v { s with toks:=s.toks+1 }):wpAny (model prog w) A (getAttr (.ref x) name expr) Q E s:=by
 obtain ⟨hp,g,d,t,os⟩:=s
 have L0:=I.type (M:=model prog w)
 have L1:=looks_find (M:=model prog w) X I hf
 have L2:=looks_findIn (M:=model prog w) X hga
 have L3:=looks_findIn (M:=model prog w) X hgt
 unfold getAttr getAttrBy
 refine wpAny_bind (wpAny_mkText (wpAny_holding (wpAny_bind (L0.at (wpAny_bind (L2.at ?_))))))
 show wpAny _ _ (getAttrByItsOwn (.ref x) (.str name t) (.ref C) (.builtin "list.__getattribute__") true expr) _ _ _
 unfold getAttrByItsOwn
 refine wpAny_bind (m:=hookBefore (.ref C)) ?_
 show wpAny _ _ (typeLookup (.ref C) "__getattr__") _ _ _
 refine L3.at (wpAny_bind (wpAny_attempt (wpAny_holding ?_)))
 have e0:callGetattribute (.ref x) (.str name t) (.builtin "list.__getattribute__") expr=boundAndCalled (.builtin "list.__getattribute__") (.ref x) (.str name t):=by cases expr <;> rfl
 rw [e0]
 unfold boundAndCalled
 refine wpAny_bind (wpAny_of_eq (F.slot_list_getattribute.bind _) ?_)
 show wpAny _ _ (call (.builtin "list.__getattribute__") [.ref x,.str name t]) _ _ _
 refine wpAny_call ?_
 refine codeAny_call_builtin F.slot_list_getattribute.plain PySem.F.entry_list_ga ?_
 refine @check_slot (model prog w) _ _ _ "list.__getattribute__" "list" "__getattribute__" (.ref x) [.str name t] [] _ dk dk (L0.andThen (looks_mroIn X hsub)) (PySem.F.args_list_getattribute_2 _ _) ?_
 unfold Builtin.«object.__getattribute__»
 refine wpAny_bind (wpAny_of_eq (a:=(.ref x,[.str name t])) (by kernel_rfl) ?_)
 dsimp only
 refine wpAny_bind (wpAny_pure (wpAny_bind (L0.at (wpAny_bind (L1.at ?_)))))
 refine wpAny_pure ?_
 show wpAny _ _ (handedOut v) _ _ _
 rw [handedOut_of hh];exact wpAny_pure h
end
section
variable {W:Wd}
theorem IR {cL pL:Addr} (P:PW W) (C:AccOk W) (D:AccLen W cL pL) {A:Around} {ρ:Rho} {σ:H} {s:Shared} {x d:Addr} {rows:List Row} {n m:Nat} {hsh:Int} {t t':Tok} {z:Int} {op:Obj} {ps:Array Value} {Q E:Value→Shared→Prop} (OA:OkA A 2) (O:Ok W ρ σ s)
  (I:InstAt s.heap x (Xu cAcc d (rows.map λr=>.ref r.1) n) cAcc (some (dictOf [⟨hsh,.str "_initial_size" t,.int z t'⟩] m))) (hrow:∀ r∈rows,s.heap.IsTuple r.1 (Hr r)∧r.2.1.length≤4096∧r.2.2.2.1.length≤4096)
  (hp:s.heap.get? pL=some op) (hpd:op.data=.fields ps) (hpt:TriplesOk ps.toList) (hpo:op=Yz ps) (hp0:W.h₀.get? pL=none)
  (q:∀ s' tk op' ps',AllBare s'.gens→s'.os=s.os→s'.heap.get? pL=some op'→op'.data=.fields ps'→TriplesOk ps'.toList→op'=Yz ps'→(∀ b o,b≠pL→s.heap.get? b=some o→s'.heap.get? b=some o)→Q (.int ((rows.map Ng).sum+z) tk) s') :
  wpAny (model W.prog W.w) A (call (.ref OwnA.fLen) [.ref x]) Q E s:=by
 refine Xi λgk=>?_
 obtain ⟨oc,ofd,sl,doc,pm,an,ct,hl⟩:=D.fn.fn
 obtain ⟨bm,ob,BM⟩:=D.bm
 refine gk ?_;clear gk
 have X:KK.In s.heap:=C.X.keeps O.base
 have hroom:A.depth<recursionLimit:=by have:=OA.2.1;omega
 have hne:cL≠pL:=by
  clear hp q;rintro rfl
  obtain ⟨o,vs,file,tf,flags,tg,inF,text,tt,h1,_⟩:=D.fn.rec_
  rw [C.X _ _ h1] at hp0;cases hp0
 refine wpAny_call (ks_codeAny_call_defAt (binds:=[(("self":Str),Value.ref x)]) hroom (X _ _ hl) rfl (P.glb.nl.keeps λb o e=>O.base b o e) (codeRec_of X D.fn.code) rfl (BindsTo.of_eq (by kernel_rfl)) (show ∀ x∈(X6 3 4).names,x.2≠.cell by decide +kernel) (by
  intro y hy;rw [List.mem_singleton] at hy;subst hy;show (X6 3 4).names.lookup ("self":Str)=some .local;decide +kernel) (λh₀ hns k0=>?_) rfl rfl rfl)
 have X':KK.In h₀:=X.keeps k0
 have I0:InstAt h₀ x (Xu cAcc d (rows.map λr=>.ref r.1) n) cAcc (some (dictOf [⟨hsh,.str "_initial_size" t,.int z t'⟩] m)):=⟨k0 _ _ I.at_,rfl,rfl,k0 _ _ I.dict⟩
 have O0:Ok W ρ σ { s with heap:=h₀,toks:=s.toks+1 }:=O.keep k0
 have hself:(λz=>List.lookup z ([(("self":Str),Value.ref x)]:List (Str×Value)).reverse) ("self":Str)=some (.ref x):=rfl
 have G':h₀.Ns mainGlobals W.mg:=P.glb.g.at' λo e=>k0 _ _ (O.base _ _ e)
 have B':h₀.Ns builtinsNs W.mb:=P.glb.b.at' λo e=>k0 _ _ (O.base _ _ e)
 have hroom2:(A.deeper (callEnv (mFn "__len__" "_Accumulator.__len__" 3 4 [] .none doc pm an (.ref cL) ct) s.heap.objs.size OwnA.fLen)).depth<recursionLimit:=by have:=OA.2.1;show A.depth+1<_;omega
 refine wpAt_of_wpAny ?_
 refine gq λQ' hQ=>?_
 refine gT (s:=s) (h:=h₀) λtk0=>?_
 show let e:=callEnv (mFn "__len__" "_Accumulator.__len__" 3 4 [] .none doc pm an (.ref cL) ct) s.heap.objs.size OwnA.fLen;let A1:=A.deeper e;wpAny (model W.prog W.w) A1 (execs (V0 3 4) e) Q' _ _
 intro ev A1
 refine wpAny_execs_cons (wpAny_Return_some ?_)
 refine Call_ (Name_function_global rfl rfl (loadGlobal_builtin G' (P.nob _ dk) B' ((P.glb.bi _ dk).trans DC) ?_)) rfl
 refine PyProof.Rows.callWith_builtin1 (args_cons ?_ rfl) rfl rfl
 refine wpAny_GeneratorExp_walksQT (xa:="fws") (xb:="part") (show _=none from OA.1) rfl (cl:=[]) rfl dk dk dk dk dk rfl hroom2 ?_ (λ__=>rfl)
 refine wpAny_Name (wpAny_loadName_local rfl rfl hns hself (Tj X' I0 D.iter C.subL ⟨?_,?_⟩))
 ·exact P.glb.nl.keeps λb o e=>Heap.get?_push_of_some _ (O0.base b o e)
 have hpx:pL≠x:=by
  clear I0 hns hself;rintro rfl
  have a:=I.at_
  rw [hp] at a;clear hp hpo;cases a;cases hpd
 have hpr:∀ r∈rows,pL≠r.1:=λr hr e=>by
  obtain ⟨o,e1,_,n,e2⟩:=(hrow r hr).1
  rw [← e,hp] at e1;cases e1;rw [hpd] at e2;cases e2
 refine Xi λgk=>?_
 refine gk ?_;clear gk
 have hpI:pL≠h₀.objs.size:=λe=>absurd (Heap.lt_size (k0 _ _ hp)) (by rw [e];exact Nat.lt_irrefl _)
 have hcode:(h₀.push { cls:=.type "list_iterator",data:=.fields #[.ref x,.int 0 0] }).IsCode cL pL ps:=
  TripleTab.isCode (K:=KK) D.fn (X'.keeps λb o e=>Heap.get?_push_of_some _ e) (Heap.get?_push_of_some _ (k0 _ _ hp)) hpd hpt hne
 have htab:(h₀.push { cls:=.type "list_iterator",data:=.fields #[.ref x,.int 0 0] }).TableAt cL pL ps:=by
  obtain ⟨o,vs,t1,t2,t3,t4⟩:=D.fn.tcls
  exact ⟨⟨o,vs,Heap.get?_push_of_some _ (X' _ _ t1),t2,t3,t4⟩,by have:=Heap.get?_push_of_some { cls:=.type "list_iterator",data:=.fields #[.ref x,.int 0 0] } (k0 _ _ hp);rw [hpo] at this;exact this⟩
 refine Na (c:=cL) rfl hcode htab λcode h₃ tk₃ ps₃ hx₃ hc₃ ht₃=>?_
 refine gT (s:=s) (h:=h₃) λtk4=>?_
 have k3:∀ b o,b≠pL→h₀.get? b=some o→h₃.get? b=some o:=λb o hb e=>hx₃ b o hb (Heap.get?_push_of_some _ e)
 have k3b:∀ b o,W.h₀.get? b=some o→h₃.get? b=some o:=λb o e=>k3 b o (Mine.neA e hp0) (O0.base b o e)
 have BM₃:BMod h₃ mainGlobals W.mg bm ob:=BM.keeps k3b
 have hsz₃:∀ b o,(h₀.push { cls:=.type "list_iterator",data:=.fields #[.ref x,.int 0 0] }).get? b=some o→b<h₃.objs.size:=λb o e=>by
  by_cases hb:b=pL
  ·clear D hcode hne hp hp0 hpI hpr hpx htab ht₃ hx₃ k3 q;subst hb
   obtain ⟨op3,e3,_⟩:=Zr hc₃
   exact Heap.lt_size e3
  ·exact Heap.lt_size (hx₃ b o hb e)
 refine wpAny_builtinsFor BM₃.ns BM₃.name BM₃.ne BM₃.obj BM₃.cls BM₃.dict BM₃.data ?_
 have hIx:x≠h₀.objs.size:=λe=>absurd (Heap.lt_size I0.at_) (by rw [e];exact Nat.lt_irrefl _)
 have hsize:(rows.map λr=>Value.ref r.1).toArray.size=rows.length:=by simp
 have hget:∀ j,j<rows.length→rows.getD j Vt∈rows∧rows[j]?=some (rows.getD j Vt):=λj hj=>by
  have e:rows.getD j Vt=rows[j]:=by simp [List.getD_eq_getElem?_getD,hj]
  rw [e]
  exact ⟨List.getElem_mem hj,List.getElem?_eq_getElem hj⟩
 have hTI:∀ j,j<(rows.map λr=>Value.ref r.1).toArray.size→(rows.getD j Vt).1≠h₀.objs.size:=λj hj e=>by
  rw [hsize] at hj
  obtain ⟨o,e1,_⟩:=(hrow _ (hget j hj).1).1
  have:=Heap.lt_size (k0 _ _ e1)
  rw [e] at this
  exact Nat.lt_irrefl _ this
 have tup₀:∀ j,j<rows.length→h₀.IsTuple (rows.getD j Vt).1 (Hr (rows.getD j Vt)):=λj hj=>let ⟨o,e,r⟩:=(hrow _ (hget j hj).1).1;⟨o,k0 _ _ e,r⟩
 refine ex9 h₀.objs.size _ [h₀.objs.size] (rows.map λr=>Value.ref r.1).toArray.size _ _ _ (λ__=>true) (λi y=>i<rows.length∧∃ tk,y=.int (Ng (rows.getD i Vt)) tk) ⟨rfl,
  λA' hA'=>WalksU.bound (Dq hA' h₀.objs.size x hIx (rows.map λr=>Value.ref r.1).toArray (λj=>(rows.getD j Vt).1) (λj=>Hr (rows.getD j Vt)) (λj hj=>by
   rw [hsize] at hj
   rw [List.getElem?_toArray,List.getElem?_map,(hget j hj).2]
   rfl) hTI),λi vals hv=>?_,?_,?_,P.glb.nl.keeps k3b,?_,?_,?_⟩
 ·obtain ⟨_,rfl⟩:=hv
  exact ⟨_,_,rfl⟩
 ·refine ⟨⟨_,hx₃ _ _ (Ne.symm hpI) (Heap.get?_push_size _ rfl),rfl,rfl⟩,⟨_,_,k3 _ _ (Ne.symm hpx) I0.at_,rfl⟩,λj hj=>?_⟩
  rw [hsize] at hj
  refine Xi λgk=>?_
  obtain ⟨o,e,r⟩:=tup₀ j hj
  refine gk ?_;clear gk
  exact ⟨o,k3 _ _ (Ne.symm (hpr _ (hget j hj).1)) e,r⟩
 ·intro b hb
  rcases List.mem_cons.mp hb with rfl | hb
  ·exact hsz₃ _ _ (Heap.get?_push_size _ rfl)
  ·rcases List.mem_cons.mp hb with rfl | hb
   ·exact hsz₃ _ _ (Heap.get?_push_of_some _ I0.at_)
   ·obtain ⟨j,hj,rfl⟩:=List.mem_map.mp hb
    rw [List.mem_range,hsize] at hj
    refine Xi λgk=>?_
    obtain ⟨o,e,r⟩:=tup₀ j hj
    refine gk ?_;clear gk
    exact hsz₃ _ _ (Heap.get?_push_of_some _ e)
 ·intro h
  rw [List.mem_singleton] at h
  refine Xi λgk=>?_
  obtain ⟨_,⟨o,es,ep,e,_⟩,_⟩:=P.glb.nl
  refine gk ?_;clear gk
  have:=Heap.lt_size (O0.base _ _ e)
  rw [h] at this
  exact Nat.lt_irrefl _ this
 ·intro href hhref
  have Gr:∀ (s₂:Shared),(∀ b∈List.range h₃.objs.size,b ∉ [h₀.objs.size]→∀ o,href.get? b=some o→s₂.heap.get? b=some o)→∀ b o,W.h₀.get? b=some o→s₂.heap.get? b=some o:=λs₂ hk b o e=>
   hk b (List.mem_range.mpr (Heap.lt_size (k3b b o e))) (by
    rw [List.mem_singleton];rintro rfl
    exact Nat.lt_irrefl _ (Heap.lt_size (O0.base _ _ e))) o (hhref b o (k3b b o e))
  refine ⟨λA' E' i va vb s₂ m₂ hA' hp' hn' ha hb hk=>wpAny_pure ⟨rfl,_,_,rfl,λ__ __ e=>e⟩,λA' E' i va vb s₂ m₂ hA' hp' hz' hn' ha hb hk=>?_⟩
  refine Xi λgk=>?_
  obtain ⟨hi,hv⟩:=hp'
  rw [hsize] at hi
  obtain ⟨rfl,rfl⟩:va=.str (rows.getD i Vt).2.1 (rows.getD i Vt).2.2.1∧vb=.str (rows.getD i Vt).2.2.2.1 (rows.getD i Vt).2.2.2.2:=by
   have e:=congrArg Array.toList hv
   simp only [Hr] at e
   injection e with e1 e2
   injection e2 with e3 _
   exact ⟨e1,e3⟩
  refine gk ?_;clear gk
  have hr:=hrow _ (hget i hi).1
  refine HC rfl rfl rfl rfl (P.glb.g.at' λo e=>Gr s₂ hk _ _ e) (P.nob _ dk) (P.glb.b.at' λo e=>Gr s₂ hk _ _ e) ((P.glb.bi _ dk).trans VJ) hn' ha hb hr.2.1 hr.2.2 λtk tk'=>?_
  exact ⟨⟨hi,tk,rfl⟩,_,_,rfl,λ__ __ e=>e⟩
 ·intro a h₅ tk gs hgb hag hsz₅ hk₅ WS hat
  have k5:∀ b o,b≠pL→h₀.get? b=some o→h₅.get? b=some o:=λb o hb e=>hk₅ b o (k3 b o hb e)
  have k5b:∀ b o,W.h₀.get? b=some o→h₅.get? b=some o:=λb o e=>hk₅ b o (k3b b o e)
  have X₅:KK.In h₅:=λb o e=>k5b b o (C.X b o e)
  have hpd':pL≠d:=by
   clear I0;rintro rfl
   have a:s.heap.get? pL=some (dictOf [⟨hsh,.str "_initial_size" t,.int z t'⟩] m):=I.dict
   rw [hp] at a;clear hp hpo;cases a;cases hpd
  have I₅:InstAt h₅ x (Xu cAcc d (rows.map λr=>.ref r.1) n) cAcc (some (dictOf [⟨hsh,.str "_initial_size" t,.int z t'⟩] m)):=⟨k5 _ _ (Ne.symm hpx) I0.at_,rfl,rfl,k5 _ _ (Ne.symm hpd') I0.dict⟩
  have hpLs:s.heap.objs.size≠pL:=λe=>absurd (Heap.lt_size hp) (by rw [← e];exact Nat.lt_irrefl _)
  have hns₅:=hns.at' (h':=h₅) λo e=>k5 _ o hpLs e
  refine args_cons (Attribute_name (wpAny_Name (wpAny_loadName_local rfl rfl hns₅ hself ?_))) rfl
  refine Rd X₅ I₅ D.ga D.gt C.subL (findObj_own D.hasD D.at_ rfl rfl) rfl (args_nil ?_)
  refine Xi λgk=>?_
  obtain ⟨op3,o3,e3,d3,t3⟩:∃ op3,op3=Yz ps₃∧h₃.get? pL=some op3∧op3.data=.fields ps₃∧TriplesOk ps₃.toList:=by
   obtain ⟨op3,e3,d3,t3⟩:=Zr hc₃
   exact ⟨op3,Option.some.inj (e3.symm.trans ht₃.2),e3,d3,t3⟩
  refine gk ?_;clear gk
  have hpas:passing (λ__=>true) (rows.map λr=>Value.ref r.1).toArray.size 0=List.range rows.length:=by
   rw [hsize]
   unfold passing
   simp
  have hst:=WS.frame 0 _ h₅ (tk+1) hat (Nat.le_succ _) λ__ __ __ e=>e
  refine DV (WS.in4_1.self 0 _ _ _ hst ⟨a,_,_,_,_,_,_,λj=>((rows.map Ng).getD j 0),rfl,WS.in4_1,hst,?_,λj y hy=>?_,λs' tk' hm=>?_⟩)
  ·intro b hb
   show b<h₅.objs.size
   rw [hsz₅]
   clear WS hat hst hsz₅;rcases List.mem_cons.mp hb with rfl | hb
   ·exact Nat.lt_succ_self _
   ·rcases List.mem_cons.mp hb with rfl | hb
    ·exact Nat.lt_succ_of_lt hag
    ·exact Nat.lt_succ_of_lt (Nat.lt_trans (List.mem_range.mp hb) hag)
  ·obtain ⟨i,hi,hlt,tk',rfl⟩:=hy
   rw [hpas] at hi
   have hji:j=i:=by
    have:=List.getElem?_eq_some_iff.mp hi
    obtain ⟨h1,h2⟩:=this
    simpa using h2
   clear hi;subst hji
   refine ⟨tk',?_⟩
   have e:(rows.map Ng).getD j 0=Ng (rows.getD j Vt):=by
    rw [List.getD_eq_getElem?_getD,List.getElem?_map,(hget j hlt).2]
    rfl
   exact congrArg (λv=>Value.int v tk') e.symm
  ·have hsum:preSum (λj=>((rows.map Ng).getD j 0)) (passing (λ__=>true) (rows.map λr=>Value.ref r.1).toArray.size 0).length=(rows.map Ng).sum:=by
    rw [hpas,preSum_getD,List.length_range,List.take_of_length_le (by simp)]
   rw [hsum,Int.add_comm]
   have hpw:pL ∉ h₃.objs.size :: [h₀.objs.size]:=by
    intro h
    rcases List.mem_cons.mp h with e | h
    ·exact absurd (Heap.lt_size e3) (by rw [e];exact Nat.lt_irrefl _)
    ·rw [List.mem_singleton] at h;exact hpI h
   have kb:∀ b o,b≠pL→s.heap.get? b=some o→s'.heap.get? b=some o:=λb o hb e=>by
    have hlt:=Heap.lt_size (k0 _ _ e)
    refine hm.heap b o (λh=>?_) (k5 b o hb (k0 _ _ e))
    rcases List.mem_cons.mp h with e' | h
    ·have:=hsz₃ b o (Heap.get?_push_of_some _ (k0 _ _ e))
     rw [e'] at this;exact Nat.lt_irrefl _ this
    ·rw [List.mem_singleton] at h;rw [h] at hlt;exact Nat.lt_irrefl _ hlt
   refine hQ _ _ ?_
   exact q s' tk' op3 ps₃ ((O.gens.push hgb).movedS hm) hm.os (hm.heap pL op3 hpw (hk₅ _ _ e3)) d3 t3 o3 kb
end
end
section
set_option tactic.hygienic false
variable [iO:Own] [iA:OwnA]
open Own OwnA
noncomputable def Kp (l:List MV) (k:Nat→Prop):Prop:=@List.rec MV (λ__=>(Nat→Prop)→Prop) (λk=>k 0) (λx __ ih k=>match x with
 | .seq false [.str a,.str b]=>ifB (Yr a) (ifB (Yr b) (ih λn=>k (len a+len b+n)) False) False
 | _=>False) l k
theorem RL {x:MV} {xs:List MV} {k:Nat→Prop}:Kp (x :: xs) k→∃ a b,x=.seq false [.str a,.str b]∧Yr a=true∧Yr b=true∧Kp xs λn=>k (len a+len b+n):=by
 intro m
 cases x with
 | seq b l=>
  cases b with
  | true=>exact (show False from m).elim
  | false=>
   cases l with
   | nil=>exact (show False from m).elim
   | cons y l=>
    cases y with
    | str a=>
     cases l with
     | nil=>exact (show False from m).elim
     | cons z l=>
      cases z with
      | str c=>
       cases l with
       | cons=>exact (show False from m).elim
       | nil=>
        have m':ifB (Yr a) (ifB (Yr c) (Kp xs λn=>k (len a+len c+n)) False) False:=m
        rcases Xo m' with ⟨fa,m'⟩ | ⟨_,m'⟩
        ·rcases Xo m' with ⟨fb,m'⟩ | ⟨_,m'⟩
         ·exact ⟨_,_,rfl,fa,fb,m'⟩
         ·exact m'.elim
        ·exact m'.elim
      | _=>exact (show False from m).elim
    | _=>exact (show False from m).elim
 | _=>exact (show False from m).elim
noncomputable def TG (x:MV) (h:H) (k:K):Prop:=ZD h 0 λo=>T4 o 0 <| YT x λi=>ZD h i λo=>LV o λxs n=>Kp xs λm=>ifB (VO ((m:Int)+n)) (k (.int ((m:Int)+n)) h) False
noncomputable def Cm (p:Addr) (as:List (Addr×Obj)):Prop:=∃ op ps,as=[(p,op)]∧op.data=.fields ps∧TriplesOk ps.toList∧op=Yz ps
structure TabSh (k:Nat) (p:Addr):Prop where
 sh:∀ as us xs,Own.shx (.tab k) as us xs↔us=[]∧xs=[]∧Cm p as
theorem Hm {o:MO} {i:Nat} {p:Prop} (h:T4 o i p):o=.tab i∧p:=by
 cases o with
 | tab k=>
  rcases Xo (show ifB (Nat.beq k i) p False from h) with ⟨e,h⟩ | ⟨_,h⟩
  ·rw [Nat.eq_of_beq_eq_true e];exact ⟨rfl,h⟩
  ·exact h.elim
 | _=>exact h.elim
theorem Np {o:MO} {i:Nat} {p:Prop} (h:T4 o i p) {C':Prop} (f':o=.tab i→p→C'):C':=by refine (Hm h).elim λq0 q1=>?_;exact f' q0 q1
theorem Zd (l:List Nat):(toS l).length=l.length:=by simp [toS,Str.length]
theorem B6 {ρ:Rho} {h:Heap}:∀ {xs:List MV} {us:List Value} {k:Nat→Prop},Kp xs k→VRs ρ h us xs→∃ rows:List Row,us=rows.map (λr=>.ref r.1)∧(∀ r∈rows,h.IsTuple r.1 (Hr r)∧r.2.1.length≤4096∧r.2.2.2.1.length≤4096)∧∃ m:Nat,k m∧(m:Int)=(rows.map Ng).sum:=by
 intro xs
 induction xs with
 | nil=>intro us k m r;have r:=r.nilI;subst r;exact ⟨[],rfl,λ__ h=>(by cases h),0,m,rfl⟩
 | cons x xs ih=>
  intro us k m r
  cases r with | @cons v _ us _ hv r=>
  refine Xi λgk=>?_
  obtain ⟨a,b,rfl,fa,fb,m'⟩:=RL m
  obtain ⟨rows,rfl,hr,n,hk,hn⟩:=ih m' r
  refine hv.seqIE λT vs qa no hs hvs=>?_;clear hv;subst qa
  refine gk ?_;clear gk
  cases hvs with | cons h1 hvs=>
  cases hvs with | cons h2 hvs=>
  cases hvs
  refine Xi λgk=>?_
  refine h1.strIE λta qa=>?_;clear h1;subst qa
  refine h2.strIE λtb qa=>?_;clear h2;subst qa
  refine gk ?_;clear gk
  refine ⟨(T,toS a,ta,toS b,tb) :: rows,rfl,λq hq=>?_,_,hk,?_⟩
  ·rcases List.mem_cons.mp hq with rfl | hq
   ·exact ⟨hs.tuple,by rw [Zd];exact Ye fa,by rw [Zd];exact Ye fb⟩
   ·exact hr q hq
  ·rw [List.map_cons,List.sum_cons,← hn]
   show _=((toS a).length:Int)+(toS b).length+(n:Int)
   rw [Zd,Zd,Yh,Yh]
   omega
section
variable {W:Wd} {ctx:List Bd} {b:Nat}
theorem Hz {cL pL:Addr} (P:PW W) (C:AccOk W) (D:AccLen W cL pL) (S:AccSh) (TS:TabSh 0 pL) {A:Around} {ρ:Rho} {σ:H} {s:Shared} {x:MV} {u:Value} {K:MV→H→Prop} {Q E:Value→Shared→Prop} (OA:OkA A 3) (hu:VR ρ s.heap u x) (O:Ok W ρ σ s) (m:TG x σ K)
  (q:Nc W ρ s K Q) (hlf:findIn KK (.ref cAcc) "__len__" = some (some (.ref OwnA.fLen))) (hlF:isFn KK (.ref OwnA.fLen)=true):wpAny (model W.prog W.w) A (call (.builtin "len") [u]) Q E s:=by
 refine Xi λgk=>?_
 refine XU m λn l ot qa hlt m0=>?_;clear m;subst qa
 refine Np m0 λqa m1=>?_;clear m0;subst qa
 refine XT m1 λi qa m2=>?_;clear m1;subst qa
 refine XU m2 λ__ __ o e hl m3=>?_
 refine gk ?_;clear gk
 cases e
 refine Xi λgk=>?_
 refine Y0 m3 λxs z qa m4=>?_;clear m3;subst qa
 refine Z1 S O hl hu λa d us k mm hsh t t' qa e g1 g2 r=>?_;clear hu;subst qa
 obtain ⟨rows,rfl,hr,mN,hk,hn⟩:=B6 m4 r
 obtain ⟨as,us',xs',e1,n1,gt,r1,S1⟩:=O.hr.obj n l rfl 0 _ hlt
 clear n1 r1;obtain ⟨rfl,rfl,op,ps,rfl,hpd,hpt,hpo⟩:=(TS.sh _ _ _).mp S1
 refine gk ?_;clear gk
 have hp:=gt _ (.head _)
 have e1':ρ 1=[pL]:=e1
 have hp0:W.h₀.get? pL=none:=O.hr.base pL ⟨1,by rw [e1'];exact .head _⟩
 refine Xi λgk=>?_;rcases Xo hk with ⟨hz,hk⟩ | ⟨_,hk⟩ <;> (refine gk ?_;clear gk)
 ·obtain ⟨z0,z1⟩:=ZP hz
  rw [hn] at hk z0 z1
  have X:KK.In s.heap:=C.X.keeps O.base
  have I:InstAt s.heap a (Xu cAcc d (rows.map λr=>.ref r.1) k) cAcc (some (dictOf [⟨hsh,.str "_initial_size" t,.int z t'⟩] mm)):=⟨g1,rfl,rfl,g2⟩
  refine Calls.call_function_entry kind_len plain_len entry_len (args_len1 _) ?_
  unfold Builtin.«len»
  refine wpAny_bind (m:=oneArg "len" _) (wpAny_pure ?_)
  refine wpAny_bind (m:=callSpecial? (.ref a) (Str.ofString "__len__")) (special_fn X I hlf (beq_iff_eq.mp hlF) ?_)
  refine IR P C D (A:=A.in1) (ρ:=ρ) (σ:=.mk n l) (n:=k) (m:=mm) (OkA.in1 OA) O I hr hp hpd hpt hpo hp0 λs' tk op' ps' hg hos e' hpd' hpt' hpo' kp=>?_
  refine wpAny_bind (wpAny_holding (wpAny_pure ?_))
  refine wpAny_bind (wpAny_letGo ?_)
  show wpAny _ _ (if (rows.map Ng).sum+z<0 then _ else _) _ _ _
  rw [if_neg (by omega)]
  show wpAny _ _ (if (rows.map Ng).sum+z≥2 ^ 63 then _ else _) _ _ _
  rw [if_neg (by omega)]
  refine wpAny_bind (wpAny_mkInt (wpAny_pure ⟨_,rfl,?_⟩))
  obtain ⟨O',X'⟩:=O.setObj (t:=s'.toks+1) (l':=l) (o:=.tab 0) (h':=s'.heap) hlt (λj=>by
   split
   ·rename_i e;subst e;rw [hlt];rfl
   ·rfl) (λb o hb e2=>kp b o (λz=>hb (by rw [e1',z];exact .head _)) e2) (by
   rw [e1']
   exact ⟨[(pL,op')],[],[],rfl,by simp,λp hp=>by rw [List.mem_singleton] at hp;subst hp;exact e',.nil,(TS.sh _ _ _).mpr ⟨rfl,rfl,op',ps',rfl,hpd',hpt',hpo'⟩⟩)
  exact q _ _ ρ (.mk n l) _ hk (.int _ _) ⟨O'.hr,O'.base,hg,hos.trans O.os⟩ X'
 ·exact hk.elim
theorem NS {cL pL:Addr} (P:PW W) (C:AccOk W) (D:AccLen W cL pL) (S:AccSh) (TS:TabSh 0 pL) (hlf:findIn KK (.ref cAcc) "__len__" = some (some (.ref OwnA.fLen))) (hlF:isFn KK (.ref OwnA.fLen)=true) (hm:Bd.glo "len"∈ctx) (hb:2≤b) {m₁:Ev} {e:Expr} {pos' pos} (h:XD W ctx (b+1) m₁ e)
  (he:∀ env,starEach [e] env=[(false,eval e env)]:=by intro _;rfl)
  (hc:∀ env,eval (.Call (.Name "len" pos') [e] [] pos) env=(do callWith pos (← eval (.Name "len" pos') env) [] (backTo pos (starEach [e] env)) (backToKw pos (keywordEach [] env))):=by intro _;rfl) :
  XD W ctx (b+1) (e1 TG m₁) (.Call (.Name "len" pos') [e] [] pos):=λA env ρ σ vs s K Q E OA F O m q=>by
 refine Call_ (YP P.glb F O hm (P.nob _ dk) (by decide) VJ (by decide) ?_) (hc env)
 refine Yx (.inr ⟨_,rfl⟩) (args_cons (h A env ρ σ vs s (λx h1=>TG x h1 K) _ _ OA F O m λu x ρ₁ σ₁ s₁ k₁ v₁ O₁ X₁=>args_nil ?_) (he env)) (he env) rfl
 exact Hz P C D S TS (OA.mono (by omega)) v₁ O₁ k₁ (λv mv ρ₂ σ₂ s₂ k₂ v₂ O₂ X₂=>q _ _ _ _ _ k₂ v₂ O₂ (X₁.trans X₂)) hlf hlF
end
end
section
set_option tactic.hygienic false
open PySem PyProof.Rows PySem.W PySem.Calls Builtin Builtin.List
section
variable [iC:Cs]
noncomputable def E0:Rho:=λ__=>[]
theorem Zp {a:Addr}:¬ own E0 a:=λ⟨_,h⟩=>by cases h
noncomputable def Ok0 (W:Wd) (s:Shared):Prop:=Ok W E0 (.mk 0 []) s
theorem Zi {W:Wd} {s:Shared} (b:∀ b o,W.h₀.get? b=some o→s.heap.get? b=some o) (g:AllBare s.gens) (o:s.os=W.os):Ok0 W s:=
 ⟨⟨λ__ __ __ __ __=>rfl,λ__ __ __ __ h=>absurd rfl h,λ__ __ e __ __ h=>(by cases e;cases h),λ__ h=>(by cases h),λ__ __ __ h=>(by cases h),λ__ h=>absurd h Zp⟩,b,g,o⟩
theorem Ok.zero {W:Wd} {ρ:Rho} {σ:H} {s:Shared} (O:Ok W ρ σ s):Ok0 W s:=Zi O.base O.gens O.os
theorem Ext.all {h h':Heap} (X:Ext E0 E0 h h'):∀ b o,h.get? b=some o→h'.get? b=some o:=λb o e=>X.keep b o e Zp
end
section
variable {prog:Program} {w:World} {A:Around} {E:Value→Shared→Prop} {s:Shared} {l:Addr} {v:Value} {vs:List Value} {n:Nat}
noncomputable abbrev XR (vs:List Value) (n:Nat):Obj:={ cls:=.type "list",data:=.seq vs.toArray n }
theorem YJ {h:Heap} (e:h.get? l=some (XR vs n)):h.IsList l vs.toArray:=⟨_,e,rfl,n,rfl⟩
theorem NY {t:Tok} {Q:Value→Shared→Prop} (hl:s.heap.get? l=some (XR (v :: vs) n)) (hfit:vs.length≤4096)
  (q:∀ h' n',h'.get? l=some (XR vs n')→(∀ b,b≠l→h'.get? b=s.heap.get? b)→Q v { s with heap:=h' }):wpAny (model prog w) A (call (.builtin "list.pop") [.ref l,.int 0 t]) Q E s:=by
 refine wpAny_call_entry F.slot_list_pop (YJ hl).typeIs F.entry_list_pop ?_ (F.args_list_pop_2 _ _)
 unfold Builtin.«list.pop»
 refine wpAny_bind (wpAny_of_eq (a:=(.ref l,[.int 0 t])) (by kernel_rfl) ?_)
 refine wpAny_bind (wpAny_of_eq (t:=asIndex (.int 0 t)) (a:=0) (by kernel_rfl) ?_)
 have f1:(!Builtin.List.listFitsIndex 0)=false:=by decide +kernel
 dsimp only
 rw [f1]
 simp only [Bool.false_eq_true,if_false]
 refine wpAny_bind (m:=Builtin.List.listItems (.ref l)) (wpAny_bind (wpAny_seqItems hl rfl (wpAny_pure ?_)))
 have f2:(v :: vs).toArray.isEmpty=false:=by simp
 rw [f2]
 simp only [Bool.false_eq_true,if_false]
 have f3:((seqIndex? 0 (v :: vs).toArray.size).bind λk=>Option.map (λx=>(k,x)) (v :: vs).toArray[k]?)=some (0,v):=by
  have e:seqIndex? 0 (v :: vs).toArray.size=some 0:=by
   unfold seqIndex?
   simp
  rw [e]
  simp
 rw [f3]
 refine wpAny_bind (m:=Builtin.List.listUpdate (.ref l) _) ?_
 show wpAny _ _ (updateSeq l _) _ _ _
 have f4:(v :: vs).toArray.eraseIdxIfInBounds 0=vs.toArray:=by
  apply Array.toList_inj.mp
  simp [Array.eraseIdxIfInBounds]
 refine wpAny_updateSeq hl rfl ?_ (by rw [List.size_toArray,List.length_cons,sizeLine_eq];omega) (by rw [f4,List.size_toArray,sizeLine_eq];omega)
 refine wpAny_pure ?_
 have f6:∃ n',Obj.mapSeq (λxs=>xs.eraseIdxIfInBounds 0) (XR (v :: vs) n)=XR vs n':=by
  unfold Obj.mapSeq
  dsimp only
  rw [f4]
  exact ⟨_,rfl⟩
 obtain ⟨n',f6⟩:=f6
 exact ⟨_,rfl,q _ n' (by rw [Heap.get?_update_self _ hl (by rw [f6];rfl),f6]) λb hb=>Heap.get?_update_other _ _ (Ne.symm hb)⟩
end
end
section
set_option tactic.hygienic false
set_option maxHeartbeats 1000000
noncomputable def Z3 (i j:Nat):Arguments×List Stmt×Scope×Pos:=match (Yl i).drop j with
 | .FunctionDef _ a body _ _ _ scope _ _ pos :: _=>(a,body,scope,pos)
 | _=>(⟨[],[],none,[],[],none,[]⟩,[],default,default)
noncomputable abbrev CA:Arguments:=(Z3 18 2).1
noncomputable abbrev FB:List Stmt:=(Z3 18 2).2.1
noncomputable abbrev M6:Scope:=(Z3 18 2).2.2.1
noncomputable abbrev UX (cl:Addr) (cr ct pm:Value):FuncData:=
 { name:="read",qualname:="_law_stream.<locals>.read",params:=CA,body:=.stmts FB,scope:=M6,globals:=mainGlobals,closure:=[("left",cl)],defaults:=.none,kwdefaults:=.none,doc:=.none,pyModule:=pm,annotations:=none,code:=cr,closureTuple:=ct,builtins:=builtinsNs }
noncomputable abbrev Ce (p:Nat×Tok):Value:=.str (toS [p.1]) p.2
noncomputable abbrev Zq (l:List (Nat×Tok)):List Value:=l.map Ce
variable [iO:Own] [iA:OwnA]
section
variable {W:Wd}
theorem LA {h:Heap}:∀ (l:List (Nat×Tok)),VRs E0 h (Zq l) (l.map λp=>.str [p.1])
 | []=>.nil
 | p :: l=>.cons (.str _ _) (LA l)
theorem Dl (P:PW W) {A:Around} {s:Shared} {fr cl lf:Addr} {cr ct pm:Value} {sl:Array (Option Value)} {ofd:Option Addr} {L:List (Nat×Tok)} {n:Nat} {t:Tok} {Q E:Value→Shared→Prop} (OA:OkA A 2) (O:Ok0 W s)
  (hfr:s.heap.get? fr=some ⟨.type "function",ofd,.func (UX cl cr ct pm),sl⟩) (hcd:s.heap.CodeRec cr "_law_stream.<locals>.read") (hcl:s.heap.IsCell cl (some (.ref lf))) (hlf:s.heap.get? lf=some (XR (Zq L) n)) (hL:L.length≤4096) (hlo:W.h₀.get? lf=none)
  (q:∀ s' n' v,Ok0 W s'→s'.heap.get? lf=some (XR (Zq L.tail) n')→(∀ b o,b≠lf→s.heap.get? b=some o→s'.heap.get? b=some o)→(∃ t,v=.str (toS (L.head?.toList.map (·.1))) t)→Q v s') :
  wpAny (model W.prog W.w) A (call (.ref fr) [.int 1 t]) Q E s:=by
 have hroom:A.depth<recursionLimit:=by have:=OA.2.1;omega
 refine wpAny_call (ks_codeAny_call_defAt (binds:=[(("count":Str),Value.int 1 t)]) hroom hfr rfl (P.glb.nl.keeps λb o e=>O.base b o e) hcd rfl (BindsTo.of_eq (by kernel_rfl)) (show ∀ x∈M6.names,x.2≠.cell by decide +kernel) (by
  intro y hy;rw [List.mem_singleton] at hy;subst hy;show M6.names.lookup ("count":Str)=some .local;decide +kernel) (λh₀ hns k0=>?_) rfl rfl rfl)
 refine wpAt_of_wpAny ?_
 refine gq λQ' hQ=>?_
 refine Xi λgk=>?_
 obtain ⟨loc,hloc⟩:∃ loc,loc=s.heap.objs.size:=⟨_,rfl⟩
 refine gk ?_;clear gk
 rw [← hloc] at hns ⊢
 have hlocN:s.heap.get? loc=none:=by rw [hloc];exact XZ _
 have hlfloc:lf≠loc:=by clear hloc hns;rintro rfl;rw [hlocN] at hlf;cases hlf
 refine wpAny_execs_cons (wpAny_Assign_Name (wpAny_Constant_str (wpAny_storeName_local rfl hns (λh₁ hn₁ hs₁=>?_) rfl)))
 have k1:∀ b o,b≠loc→h₀.get? b=some o→h₁.get? b=some o:=λb o hb e=>hs₁.extBut b o hb e
 have k01:∀ b o,s.heap.get? b=some o→h₁.get? b=some o:=λb o e=>k1 b o (Mine.neA e hlocN) (k0 b o e)
 let I:Nat→Shared→Prop:=λk s'=>Ok0 W s'∧(∀ b o,b≠lf→s.heap.get? b=some o→s'.heap.get? b=some o)∧∃ p m vs n tp,s'.heap.Ns loc m∧m "piece" = some (.str (toS p) tp)∧m "count" = some (.int 1 t)∧s'.heap.get? lf=some (XR (Zq vs) n)∧
  ((k=1∧p=[]∧vs=L)∨(k=0∧∃ c,p=[c.1]∧L=c :: vs))
 have hG:∀ s':Shared,Ok0 W s'→s'.heap.Ns mainGlobals W.mg:=λs' O'=>P.glb.g.at' λo e=>O'.base _ _ e
 have hB:∀ s':Shared,Ok0 W s'→s'.heap.Ns builtinsNs W.mb:=λs' O'=>P.glb.b.at' λo e=>O'.base _ _ e
 have leave:∀ (p:List Nat) (m:Str→Option Value) (vs:List (Nat×Tok)) (n:Nat) (tp:Tok) (s':Shared),Ok0 W s'→(∀ b o,b≠lf→s.heap.get? b=some o→s'.heap.get? b=some o)→s'.heap.Ns loc m→m "piece" = some (.str (toS p) tp)→s'.heap.get? lf=some (XR (Zq vs) n)→p=L.head?.toList.map (·.1)→vs=L.tail→
   wpAny (model W.prog W.w) (A.deeper (callEnv (UX cl cr ct pm) loc fr)) (execs [FB[2]] (callEnv (UX cl cr ct pm) loc fr)) Q' (λ__ __=>False) s':=λp m vs n tp s' O' k' hn hp hl' e1 e2=>by
  refine wpAny_execs_cons (wpAny_Return_some (wpAny_Name (wpAny_loadName_local rfl rfl hn hp ?_)))
  exact hQ _ _ (q s' n _ O' (e2▸hl') k' ⟨tp,by rw [e1]⟩)
 refine wpAny_execs_cons (wpAny_While (codeAny_whileLoop I (λk s₁ hI=>?_) 1 ?_))
 ·refine gq λNx hN=>?_
  obtain ⟨O₁,k₁,p,m,vs,n₁,tp,hn,hp,hc,hl₁,hcase⟩:=hI
  have hcl₁:s₁.heap.IsCell cl (some (.ref lf)):=by
   obtain ⟨o,e,d⟩:=hcl
   exact ⟨o,k₁ _ _ (by clear hN I hlfloc hlo hl₁ k₁ leave q;rintro rfl;rw [hlf] at e;cases e;cases d) e,d⟩
  have hvl:vs.length≤4096:=by
   clear hN I hlf leave q;rcases hcase with ⟨_,_,rfl⟩ | ⟨_,c,_,rfl⟩
   ·exact hL
   ·simp at hL;omega
  have OA1:OkA (A.deeper (callEnv (UX cl cr ct pm) loc fr)) 1:=OkA.deeper OA _
  refine wpAny_isTrue_BoolOp (wpAny_allTrue_And_cons (wpAny_isTrue_Compare1 (wpAny_Name (wpAny_loadName_free rfl rfl rfl hcl₁ (wpAny_List (args_nil ⟨by rw [sizeLine_eq];simp,?_⟩)) rfl)) rfl))
  refine Zx _ E0 (.mk 0 []) _ (.seq true (vs.map λp=>.str [p.1])) (.seq true []) _ _ (λr=>r = !vs.isEmpty) _ _ OA1 (.seq Zp ⟨n₁,Heap.get?_push_of_some _ hl₁⟩ (LA vs)) (.seq Zp ⟨0,Heap.get?_push_size _ rfl⟩ .nil) (O₁.push _) ?_ λr s₂ hr O₂ X₂=>?_
  ·clear hcase hl₁ hvl;cases vs <;> exact rfl
  have k2:∀ b o,s₁.heap.get? b=some o→s₂.heap.get? b=some o:=λb o e=>X₂.all b o (Heap.get?_push_of_some _ e)
  refine wpAny_truthy_bool ?_
  cases vs with
  | nil=>
   cases hr
   refine hN _ _ (wpAny_execs_nil ?_)
   rcases hcase with ⟨_,rfl,rfl⟩ | ⟨_,c,rfl,rfl⟩
   ·exact leave [] m [] n₁ tp s₂ O₂ (λb o hb e=>k2 b o (k₁ b o hb e)) (hn.keeps k2) hp (k2 _ _ hl₁) rfl rfl
   ·exact leave [c.1] m [] n₁ tp s₂ O₂ (λb o hb e=>k2 b o (k₁ b o hb e)) (hn.keeps k2) hp (k2 _ _ hl₁) rfl rfl
  | cons c vs=>
   cases hr
   refine wpAny_allTrue_And_cons (wpAny_isTrue_Compare1 (Call_ (Name_function_global rfl rfl (loadGlobal_builtin (hG s₂ O₂) (P.nob _ dk) (hB s₂ O₂) ((P.glb.bi _ dk).trans VJ) ?_)) rfl) rfl)
   refine PyProof.Rows.callWith_builtin1 (args_cons (wpAny_Name (wpAny_loadName_local rfl rfl (hn.keeps k2) hp (args_nil (len_str (by rw [Zd];clear hp;rcases hcase with ⟨_,rfl,_⟩ | ⟨_,c,rfl,_⟩ <;> simp) ?_)))) rfl) rfl rfl
   refine wpAny_Name (wpAny_loadName_local rfl rfl (hn.keeps k2) hc (PySem.P.lt_int (wpAny_truthy_bool ?_)))
   have O₃:Ok0 W { s₂ with toks:=s₂.toks+1+1 }:=(O₂.tok _).tok _
   rcases hcase with ⟨rfl,rfl,hvs⟩ | ⟨rfl,d,rfl,hvs⟩
   ·have e:decide (((toS []).length:Int)<1)=true:=by rw [Zd];rfl
    rw [e]
    refine wpAny_allTrue_And_nil (hN _ _ ?_)
    rw [if_pos rfl]
    refine gq λNb hb=>?_
    have hn':∀ s',I 0 s'→Nb .next s':=λs' h=>hb .next s' ⟨0,Nat.zero_lt_one,h⟩
    clear hb hN
    have hn₃:=hn.keeps k2
    have hl₃:s₂.heap.get? lf=some (XR (Zq (c :: vs)) n₁):=k2 _ _ hl₁
    have hcl₃:s₂.heap.IsCell cl (some (.ref lf)):=let ⟨o,e,d⟩:=hcl₁;⟨o,k2 _ _ e,d⟩
    refine wpAny_execs_cons (wpAny_AugAssign_Name (wpAny_loadName_local rfl rfl hn₃ hp ?_))
    refine wpAny_Call_method1_late rfl rfl rfl (wpAny_Name (wpAny_loadName_free rfl rfl rfl hcl₃ ?_ rfl))
    refine ⟨"list","list.pop",PySem.F.plainAttrs_list,PySem.F.slot_list_pop,PySem.F.type_list_pop,(YJ hl₃).typeIs,λa e=>(by cases e;exact ⟨_,hl₃,rfl⟩),?_⟩
    refine callWith_builtin rfl (evalArgs_plain (spliced_cons (wpAny_Constant_int (spliced_nil ?_))))
    refine NY (v:=Ce c) (vs:=Zq vs) hl₃ (by simp at hvl;simp;omega) λh₄ n₄ e₄ k₄=>?_
    refine SBL.iadd (λt' tk __=>?_) (by rw [Zd,Zd,sizeLine_eq];simp)
    have hn₄:h₄.Ns loc m:=hn₃.at' λo e=>(k₄ loc (Ne.symm hlfloc)).trans e
    refine wpAny_storeName_local (env:=callEnv (UX cl cr ct pm) loc fr) rfl hn₄ (λh₅ hn₅ hs₅=>?_) rfl
    refine wpAny_execs_nil ?_
    have k5:∀ b o,b≠lf→b≠loc→s₂.heap.get? b=some o→h₅.get? b=some o:=λb o hb hb' e=>hs₅.extBut b o hb' ((k₄ b hb).trans e)
    refine hn' _ ⟨Zi (λb o e=>k5 b o (neA e hlo) (neA (O.base _ _ e) hlocN) (O₂.base b o e)) O₂.gens O₂.os,λb o hb e=>k5 b o hb (neA e hlocN) (k2 b o (k₁ b o hb e)),[c.1],_,vs,n₄,t',hn₅,?_,?_,hs₅.extBut lf _ hlfloc e₄,.inr ⟨rfl,c,rfl,hvs.symm⟩⟩
    ·show (if ("piece":Str)=("piece":Str) then _ else _)=_
     rw [if_pos rfl,JC]
     rfl
    ·show (if ("count":Str)=("piece":Str) then _ else _)=_
     rw [if_neg (by decide)]
     exact hc
   ·have e:decide (((toS [d.1]).length:Int)<1)=false:=by rw [Zd];rfl
    rw [e]
    refine hN _ _ (wpAny_execs_nil ?_)
    subst hvs
    exact leave [d.1] m (c :: vs) n₁ tp _ O₃ (λb o hb e=>k2 b o (k₁ b o hb e)) (hn.keeps k2) hp (k2 _ _ hl₁) rfl rfl
 ·refine ⟨Zi (λb o e=>k01 b o (O.base b o e)) O.gens O.os,λb o __ e=>k01 b o e,[],_,L,n,_,hn₁,rfl,rfl,k01 _ _ hlf,.inl ⟨rfl,rfl,rfl⟩⟩
end
end
section
set_option tactic.hygienic false
open PySem PyProof.Rows PySem.W PySem.Calls Builtin Builtin.ObjectAttr
set_option maxHeartbeats 1000000
theorem H7:typeLookup (.type "function") "__getattribute__" = pure (some (.builtin "object.__getattribute__")):=by rw [typeLookup_type,builtinLookup_eq_fast];kernel_rfl
theorem SH:typeLookup (.type "function") "__getattr__" = pure none:=by rw [typeLookup_type,builtinLookup_eq_fast];kernel_rfl
theorem ML:typeLookup (.type "function") "read" = pure none:=by rw [typeLookup_type,builtinLookup_eq_fast];kernel_rfl
theorem Ci:typeLookup (.type "function") "__setattr__" = pure (some (.builtin "object.__setattr__")):=by rw [typeLookup_type,builtinLookup_eq_fast];kernel_rfl
theorem T1:Slot "function" "__getattribute__" "object.__getattribute__":=.of (owner:="object") (n:="__getattribute__") H7 dk dk dk
  (by first | exact .inl dk | exact .inr dk) (by rw [isSubtype_type];kernel_rfl)
theorem Th:Slot "function" "__setattr__" "object.__setattr__":=.of (owner:="object") (n:="__setattr__") Ci dk dk dk
  (by first | exact .inl dk | exact .inr dk) (by rw [isSubtype_type];kernel_rfl)
section
variable {prog:Program} {w:World} {A:Around} {E:Value→Shared→Prop} {s:Shared} {fs fsd:Addr} {fd:FuncData} {sl:Array (Option Value)} {es:List DictEntry} {m:Nat} {v:Value}
theorem MB {M:Model} {h:Heap} {od:Option Addr} (hfs:h.get? fs=some ⟨.type "function",od,.func fd,sl⟩):Looks M h (typeOf (.ref fs)) (.type "function"):=(Looks.ld hfs).andThen .now
theorem Wg {M:Model} {h:Heap} (hfs:h.get? fs=some ⟨.type "function",some fsd,.func fd,sl⟩) (hd:h.get? fsd=some (dictOf es m)) (hl:lookIn "read" (dictOf es m)=some (some v)):Looks M h (find (.ref fs) (.type "function") "read") (.value v):=by
 have own:Looks M h (inOwnDict "read" (.ref fs)) (some v):=by
  intro A Q E s k q
  refine wpAny_bind (wpAny_bind (wpAny_loadPart (k _ _ hfs) ?_))
  show wpAny _ _ (instanceDict fs false) _ _ _
  unfold instanceDict
  refine wpAny_bind (wpAny_loadPart (k _ _ hfs) ?_)
  dsimp only
  refine wpAny_pure (a:=some fsd) ?_
  refine wpAny_bind (wpAny_loadPart (k _ _ hd) ?_)
  rw [nsLook_of hl];exact wpAny_pure q
 refine (Looks.of_pure ML).andThen ((show Looks M h (getOf none) none from .now).andThen ?_)
 refine Looks.now.andThen (own.andThen ?_)
 exact Looks.tag .now
theorem fn_get {expr:Bool} {Q:Value→Shared→Prop} (hfs:s.heap.get? fs=some ⟨.type "function",some fsd,.func fd,sl⟩) (hd:s.heap.get? fsd=some (dictOf es m)) (hl:lookIn "read" (dictOf es m)=some (some v)) (hh:handedIn v=true)
  (h:Q v { s with toks:=s.toks+1 }):wpAny (model prog w) A (getAttr (.ref fs) "read" expr) Q E s:=by
 obtain ⟨hp,g,d,t,os⟩:=s
 have L0:=MB (M:=model prog w) hfs
 have L1:=Wg (M:=model prog w) hfs hd hl
 unfold getAttr getAttrBy
 refine wpAny_bind (wpAny_mkText (wpAny_holding (wpAny_bind (L0.at (wpAny_bind (wpAny_of_eq H7 ?_))))))
 show wpAny _ _ (getAttrByItsOwn (.ref fs) (.str "read" t) (.type "function") (.builtin "object.__getattribute__") true expr) _ _ _
 unfold getAttrByItsOwn
 refine wpAny_bind (wpAny_of_eq (a:=none) (by rfl) (wpAny_bind (wpAny_attempt (wpAny_holding ?_))))
 have e0:callGetattribute (.ref fs) (.str "read" t) (.builtin "object.__getattribute__") expr=boundAndCalled (.builtin "object.__getattribute__") (.ref fs) (.str "read" t):=by cases expr <;> rfl
 rw [e0]
 unfold boundAndCalled
 refine wpAny_bind (wpAny_of_eq (T1.bind _) ?_)
 refine wpAny_call_entry T1 (⟨_,hfs,rfl⟩:(⟨hp,g,d,t+1,os⟩:Shared).TypeIs (.ref fs) "function") PySem.F.entry_object_getattribute ?_ (PySem.F.args_object_getattribute_2 _ _)
 unfold Builtin.«object.__getattribute__»
 refine wpAny_bind (wpAny_of_eq (a:=(.ref fs,[.str "read" t])) (by kernel_rfl) ?_)
 dsimp only
 refine wpAny_bind (wpAny_pure (wpAny_bind (L0.at (wpAny_bind (L1.at ?_)))))
 refine wpAny_pure ⟨_,rfl,?_⟩
 show wpAny _ _ (handedOut v) _ _ _
 rw [handedOut_of hh];exact wpAny_pure h
theorem Ds {pl:Sem Bool} {Q:Value×List Value→Shared→Prop} (hfs:s.heap.get? fs=some ⟨.type "function",some fsd,.func fd,sl⟩) (hd:s.heap.get? fsd=some (dictOf es m)) (hl:lookIn "read" (dictOf es m)=some (some v)) (hh:handedIn v=true)
  (h:Q (v,[]) { s with toks:=s.toks+1 }):wpAny (model prog w) A (getMethod (.ref fs) "read" pl) Q E s:=by
 have L0:=MB (M:=model prog w) hfs
 unfold getMethod specialOf
 refine wpAny_bind (wpAny_bind (L0.here (wpAny_of_eq H7 ?_)))
 show wpAny _ _ (if (Manifest.canonical "object.__getattribute__" != "object.__getattribute__")=true then _ else _) _ _ _
 rw [if_neg dk]
 refine wpAny_bind (wpAny_bind (L0.here (wpAny_of_eq SH ?_)))
 rw [if_neg (by decide)]
 refine wpAny_bind (wpAny_bind (L0.here (wpAny_of_eq ML ?_)))
 exact wpAny_bind (fn_get hfs hd hl hh (wpAny_pure h))
end
end
section
set_option tactic.hygienic false
open PySem PyProof.Rows PySem.W PySem.Calls Builtin Builtin.ObjectAttr
set_option maxHeartbeats 4000000
theorem Rp (self:Value):refuseLoop self "__setattr__" [.type "object"]=pure ():=by kernel_rfl
section
variable {prog:Program} {w:World} {A:Around} {E:Value→Shared→Prop} {s:Shared} {K:Frag} {x C dx:Addr} {ox:Obj} {es:List DictEntry} {n:Nat} {name:Str} {v:Value} {Q:Unit→Shared→Prop} {cd:ClassData}
theorem Mj {tk:Tok} {R:Result→Shared→Prop} (X:K.In s.heap) (I:InstAt s.heap x ox C (some (dictOf es n))) (hd:ox.dict=some dx)
  (hcl:clsIn K C=some cd) (hm:cd.mro=[.ref C,.type "object"]) (hD:cd.hasDict=true) (ha:findIn K (.ref C) name=some none)
  (hl:(PySem.W.getL name es).isSome=true) (hz:(putL name (PyData.keyHash w.params name) (.str name s.toks) v es).length≤1000)
  (h:∀ h',h'.get? dx=some (dictOf (putL name (PyData.keyHash w.params name) (.str name s.toks) v es) (putN name es n))→(∀ b,b≠dx→h'.get? b=s.heap.get? b)→R (.ok (.ret .none)) { s with heap:=h',toks:=s.toks+1 }) :
  codeAny (model prog w) A (.call (.builtin "object.__setattr__") ⟨[.ref x,.str name tk,v],[]⟩) R s:=by
 have SF:=PySem.F.store_object
 have hsub:mroIn K C (.type "object")=some true:=by
  unfold mroIn
  rw [hcl,Option.bind_some,hm]
  simp
 have sub:Looks (model prog w) s.heap (isInstance (.ref x) (.type "object")) true:=I.type.andThen (looks_mroIn X hsub)
 refine codeAny_call_builtin SF.slot.plain SF.entry (@check_slot (model prog w) _ _ s "object.__setattr__" "object" "__setattr__" (.ref x) [.str name tk,v] [] _ SF.kind SF.split sub (SF.args (.ref x) (.str name tk) v) ?_)
 have L2:Looks (model prog w) s.heap (mroOf (.ref C)) cd.mro:=(looks_clsIn X hcl).andThen .now
 rw [osa_eq,refuse_eq]
 refine wpAny_bind (wpAny_bind (I.type.here (wpAny_bind (L2.here ?_))))
 rw [hm,refuseLoop_ref,Rp]
 refine wpAny_pure (wpAny_bind (I.type.here (wpAny_bind ((looks_findIn X ha).here (wpAny_bind (wpAny_pure ?_))))))
 refine Xi λgk=>?_
 obtain ⟨hx,hc,-,hdd⟩:=I
 obtain ⟨oc,odi,oda,osl⟩:=ox
 dsimp only at hc hd
 subst hc hd
 refine gk ?_;clear gk
 have D:s.heap.get? dx=some (dictOf es n):=hdd
 have D':(s.heap.update dx (Obj.putName name (PyData.keyHash w.params name) (.str name (s.toks)) v)).get? dx=some (dictOf (putL name (PyData.keyHash w.params name) (.str name (s.toks)) v es) (putN name es n)):=by
  rw [Heap.get?_update_self _ D (by rw [putName_dict];rfl),putName_dict]
 refine wpAny_bind (wpAny_pure (wpAny_bind (wpAny_bind (wpAny_loadPart hx (wpAny_bind ((looks_clsIn X hcl).here ?_))))))
 rw [hD]
 refine wpAny_pure (a:=some dx) (wpAny_bind (wpAny_pure (wpAny_bind ?_)))
 unfold nsSet
 refine wpAny_bind (wpAny_bind (wpAny_askSetting (wpAny_pure (wpAny_bind (wpAny_mkText (wpAny_bind (wpAny_loadPart D ?_)))))))
 have hl':(lookIn name (dictOf es n)).isSome=true:=hl
 have c:(!es.toArray.any (λe:DictEntry=>e.key.isStr name)&&es.toArray.any (λe:DictEntry=>e.refKey))=false:=by
  rw [← Array.any_toList,← Array.any_toList]
  change (match es.toArray.toList.find? (λe:DictEntry=>e.key.isStr name) with | some e=>some (some e.val) | none=>if es.toArray.toList.any (λe:DictEntry=>e.refKey) then none else some none).isSome=true at hl'
  cases q:es.toArray.toList.find? (λe:DictEntry=>e.key.isStr name) with
  | some en=>rw [List.any_eq_true.mpr ⟨en,List.mem_of_find?_eq_some q,List.find?_some q⟩];rfl
  | none=>
   rw [q] at hl'
   dsimp only at hl'
   split at hl'
   ·cases hl'
   ·rename_i z;rw [Bool.not_eq_true] at z;rw [z,Bool.and_false]
 dsimp only [dictOf]
 rw [aRefKeyMayBeTheName_at,c]
 refine wpAny_updatePart D ?_
 refine wpAny_bind (wpAny_lookBehind D' (pastItsLine_dict (by rw [List.size_toArray,sizeLine_eq];omega)) ?_)
 exact wpAny_pure (h _ D' λb hb=>Heap.get?_update_other _ _ (Ne.symm hb))
theorem Zh (X:K.In s.heap) (I:InstAt s.heap x ox C (some (dictOf es n))) (hd:ox.dict=some dx)
  (hs:findIn K (.ref C) "__setattr__" = some (some (.builtin "object.__setattr__"))) (hcl:clsIn K C=some cd) (hm:cd.mro=[.ref C,.type "object"]) (hD:cd.hasDict=true) (ha:findIn K (.ref C) name=some none)
  (hl:(PySem.W.getL name es).isSome=true) (hz:(putL name (PyData.keyHash w.params name) (.str name (s.toks+1)) v es).length≤1000)
  (h:∀ h',h'.get? dx=some (dictOf (putL name (PyData.keyHash w.params name) (.str name (s.toks+1)) v es) (putN name es n))→(∀ b,b≠dx→h'.get? b=s.heap.get? b)→Q () { s with heap:=h',toks:=s.toks+2 }) :
  wpAny (model prog w) A (setAttr (.ref x) name v) Q E s:=by
 exact set_plain X I hs (Mj (s:={ s with toks:=s.toks+1 }) X I hd hcl hm hD ha hl hz λh' a b=>h h' a b)
end
end
section
set_option tactic.hygienic false
set_option maxHeartbeats 1000000
class OwnL where
 cLex:Addr
 fLI:Addr
 fRC:Addr
 fGT:Addr
 fPT:Addr
 cS:Addr
 pS:Addr
structure LxA where
 a:Addr
 d:Addr
 pb:Addr
 lf:Addr
 fs:Addr
 fsd:Addr
 fr:Addr
 cl:Addr
 cr:Addr
 st:FuncData
 ssl:Array (Option Value)
 rsl:Array (Option Value)
 rct:Value
 rpm:Value
 h1:Int
 h2:Int
 h3:Int
 h4:Int
 hr:Int
 k1:Tok
 k2:Tok
 k3:Tok
 k4:Tok
 kr:Tok
 wt:Tok
 mr:Nat
 celO:Obj
 cro:Obj
variable [iO:Own] [iA:OwnA] [iL:OwnL]
open Own OwnA OwnL
noncomputable abbrev Nt:Str:=toS [10,9,13,32]
noncomputable abbrev LxA.dict (X:LxA) (ln:Int) (lt:Tok) (m:Nat):Obj:=dictOf [⟨X.h1,.str "lineno" X.k1,.int ln lt⟩,⟨X.h2,.str "instream" X.k2,.ref X.fs⟩,⟨X.h3,.str "whitespace" X.k3,.str Nt X.wt⟩,⟨X.h4,.str "pushback" X.k4,.ref X.pb⟩] m
structure LexAt (h:Heap) (X:LxA) (ln:Int) (lt:Tok) (m:Nat) (us:List Value) (un:Nat) (L:List (Nat×Tok)) (n:Nat):Prop where
 a:h.get? X.a=some (instObj cLex X.d)
 d:h.get? X.d=some (X.dict ln lt m)
 pb:h.get? X.pb=some (XR us un)
 lf:h.get? X.lf=some (XR (Zq L) n)
 fs:h.get? X.fs=some ⟨.type "function",some X.fsd,.func X.st,X.ssl⟩
 fsd:h.get? X.fsd=some (dictOf [⟨X.hr,.str "read" X.kr,.ref X.fr⟩] X.mr)
 fr:h.get? X.fr=some ⟨.type "function",none,.func (UX X.cl (.ref X.cr) X.rct X.rpm),X.rsl⟩
 cl:h.get? X.cl=some X.celO
 cr:h.get? X.cr=some X.cro
noncomputable abbrev LxA.all (X:LxA):List Addr:=[X.a,X.d,X.pb,X.lf,X.fs,X.fsd,X.fr,X.cl,X.cr]
structure LxOk (W:Wd) (X:LxA):Prop where
 nodup:X.all.Nodup
 cel:X.celO.data=.cell (some (.ref X.lf))
 code:∀ h:Heap,h.get? X.cr=some X.cro→h.CodeRec (.ref X.cr) "_law_stream.<locals>.read"
 low:∀ b∈X.all,W.h₀.get? b=none
theorem Gd {h:Heap} {a b:Addr} {o o':Obj} (e:h.get? a=some o) (e':h.get? b=some o') (n:Nat.beq o.data.ctorIdx o'.data.ctorIdx=false):a≠b:=λz=>by
 rw [z,e'] at e;rw [Option.some.inj e,Nat.beq_refl] at n;cases n
theorem LxA.all_of {X:LxA} {p:Addr→Prop} (h1:p X.a) (h2:p X.d) (h3:p X.pb) (h4:p X.lf) (h5:p X.fs) (h6:p X.fsd) (h7:p X.fr) (h8:p X.cl) (h9:p X.cr):∀ b∈X.all,p b:=
 fc h1 (fc h2 (fc h3 (fc h4 (fc h5 (fc h6 (fc h7 (fc h8 (fc h9 λ__ h=>nomatch h))))))))
theorem LxA.of_all {X:LxA} {p:Addr→Prop} (h:∀ b∈X.all,p b):p X.a∧p X.d∧p X.pb∧p X.lf∧p X.fs∧p X.fsd∧p X.fr∧p X.cl∧p X.cr:=
 ⟨h _ (.head _),h _ (.tail _ (.head _)),h _ (.tail _ (.tail _ (.head _))),h _ (.tail _ (.tail _ (.tail _ (.head _)))),h _ (.tail _ (.tail _ (.tail _ (.tail _ (.head _))))),h _ (.tail _ (.tail _ (.tail _ (.tail _ (.tail _ (.head _)))))),h _ (.tail _ (.tail _ (.tail _ (.tail _ (.tail _ (.tail _ (.head _))))))),h _ (.tail _ (.tail _ (.tail _ (.tail _ (.tail _ (.tail _ (.tail _ (.head _)))))))),h _ (.tail _ (.tail _ (.tail _ (.tail _ (.tail _ (.tail _ (.tail _ (.tail _ (.head _)))))))))⟩
theorem LexAt.to {h h':Heap} {X:LxA} {ln lt m us un L n} (H:LexAt h X ln lt m us un L n) (k:∀ b∈X.all,∀ o,h.get? b=some o→h'.get? b=some o):LexAt h' X ln lt m us un L n:=
 (LxA.of_all k).elim λh1 z=>z.elim λh2 z=>z.elim λh3 z=>z.elim λh4 z=>z.elim λh5 z=>z.elim λh6 z=>z.elim λh7 z=>z.elim λh8 h9=>⟨h1 _ H.a,h2 _ H.d,h3 _ H.pb,h4 _ H.lf,h5 _ H.fs,h6 _ H.fsd,h7 _ H.fr,h8 _ H.cl,h9 _ H.cr⟩
theorem LexAt.keep {h h':Heap} {X:LxA} {ln lt m us un L n} (H:LexAt h X ln lt m us un L n) (k:∀ b o,h.get? b=some o→h'.get? b=some o):LexAt h' X ln lt m us un L n:=H.to λb __ o e=>k b o e
theorem LxOk.ne {W:Wd} {X:LxA} (K:LxOk W X) {i j:Nat} {a b:Addr} (hi:X.all[i]?=some a) (hj:X.all[j]?=some b) (h:i≠j) (hl:i<9):a≠b:=λe=>h ((List.getElem?_inj (l:=X.all) hl K.nodup).mp (hi.trans (e▸hj.symm)))
theorem LexAt.setL {W:Wd} {h h':Heap} {X:LxA} {ln lt m us un L n L' n'} (K:LxOk W X) (H:LexAt h X ln lt m us un L n) (e:h'.get? X.lf=some (XR (Zq L') n')) (k:∀ b o,b≠X.lf→h.get? b=some o→h'.get? b=some o):LexAt h' X ln lt m us un L' n':=
 ⟨k _ _ (K.ne (i:=0) (j:=3) rfl rfl (by decide) (by decide)) H.a,k _ _ (K.ne (i:=1) (j:=3) rfl rfl (by decide) (by decide)) H.d,k _ _ (K.ne (i:=2) (j:=3) rfl rfl (by decide) (by decide)) H.pb,e,k _ _ (K.ne (i:=4) (j:=3) rfl rfl (by decide) (by decide)) H.fs,k _ _ (K.ne (i:=5) (j:=3) rfl rfl (by decide) (by decide)) H.fsd,k _ _ (K.ne (i:=6) (j:=3) rfl rfl (by decide) (by decide)) H.fr,k _ _ (K.ne (i:=7) (j:=3) rfl rfl (by decide) (by decide)) H.cl,k _ _ (K.ne (i:=8) (j:=3) rfl rfl (by decide) (by decide)) H.cr⟩
theorem LexAt.setD {W:Wd} {h h':Heap} {X:LxA} {ln lt m us un L n ln' lt' m'} (K:LxOk W X) (H:LexAt h X ln lt m us un L n) (e:h'.get? X.d=some (X.dict ln' lt' m')) (k:∀ b o,b≠X.d→h.get? b=some o→h'.get? b=some o):LexAt h' X ln' lt' m' us un L n:=
 ⟨k _ _ (K.ne (i:=0) (j:=1) rfl rfl (by decide) (by decide)) H.a,e,k _ _ (K.ne (i:=2) (j:=1) rfl rfl (by decide) (by decide)) H.pb,k _ _ (K.ne (i:=3) (j:=1) rfl rfl (by decide) (by decide)) H.lf,k _ _ (K.ne (i:=4) (j:=1) rfl rfl (by decide) (by decide)) H.fs,k _ _ (K.ne (i:=5) (j:=1) rfl rfl (by decide) (by decide)) H.fsd,k _ _ (K.ne (i:=6) (j:=1) rfl rfl (by decide) (by decide)) H.fr,k _ _ (K.ne (i:=7) (j:=1) rfl rfl (by decide) (by decide)) H.cl,k _ _ (K.ne (i:=8) (j:=1) rfl rfl (by decide) (by decide)) H.cr⟩
theorem LexAt.setP {W:Wd} {h h':Heap} {X:LxA} {ln lt m us un L n us' un'} (K:LxOk W X) (H:LexAt h X ln lt m us un L n) (e:h'.get? X.pb=some (XR us' un')) (k:∀ b o,b≠X.pb→h.get? b=some o→h'.get? b=some o):LexAt h' X ln lt m us' un' L n:=
 ⟨k _ _ (K.ne (i:=0) (j:=2) rfl rfl (by decide) (by decide)) H.a,k _ _ (K.ne (i:=1) (j:=2) rfl rfl (by decide) (by decide)) H.d,e,k _ _ (K.ne (i:=3) (j:=2) rfl rfl (by decide) (by decide)) H.lf,k _ _ (K.ne (i:=4) (j:=2) rfl rfl (by decide) (by decide)) H.fs,k _ _ (K.ne (i:=5) (j:=2) rfl rfl (by decide) (by decide)) H.fsd,k _ _ (K.ne (i:=6) (j:=2) rfl rfl (by decide) (by decide)) H.fr,k _ _ (K.ne (i:=7) (j:=2) rfl rfl (by decide) (by decide)) H.cl,k _ _ (K.ne (i:=8) (j:=2) rfl rfl (by decide) (by decide)) H.cr⟩
structure LexOk (W:Wd):Prop where
 X:KK.In W.h₀
 cls:W.mg "_netrclex" = some (.ref cLex)
 keep:keepIn KK (.ref cLex)=true
 ga:findIn KK (.ref cLex) "__getattribute__" = some (some (.builtin "object.__getattribute__"))
 sa:findIn KK (.ref cLex) "__setattr__" = some (some (.builtin "object.__setattr__"))
 hasD:hasDictIn KK cLex=true
 cd:∃ cd,clsIn KK cLex=some cd∧cd.mro=[.ref cLex,.type "object"]∧cd.hasDict=true
 at1:findIn KK (.ref cLex) "lineno" = some none
 at2:findIn KK (.ref cLex) "instream" = some none
 at3:findIn KK (.ref cLex) "whitespace" = some none
 at4:findIn KK (.ref cLex) "pushback" = some none
 rc:MFn fRC "_read_char" "_netrclex._read_char" 14 1 [] .none
 mrc:Meth cLex "_read_char" fRC
noncomputable def Ug (L:List (Nat×Tok)):Int:=match L with | (10,_) :: _=>1 | _=>0
section
variable {W:Wd}
theorem Vp {A:Around} {s:Shared} {a b:List Nat} {ta tb:Tok} {Q E:Value→Shared→Prop} (OA:OkA A 1) (O:Ok0 W s) (q:∀ s',Ok0 W s'→(∀ b o,s.heap.get? b=some o→s'.heap.get? b=some o)→Q (.bool (a==b)) s') :
  wpAny (model W.prog W.w) A (compareOp .Eq (.str (toS a) ta) (.str (toS b) tb)) Q E s:=
 Yi A E0 (.mk 0 []) s (.str a) (.str b) _ _ (λr=>r=(a==b)) _ _ OA (.str _ _) (.str _ _) O (show eqN a b=(a==b) from Jz a b) λr s' hr O' X'=>by subst hr;exact q s' O' X'.all
theorem N9 {h:Heap} {X:LxA} {ln:Int} {lt:Tok} {m:Nat} {us:List Value} {un:Nat} {L:List (Nat×Tok)} {n:Nat} (H:LexAt h X ln lt m us un L n):∀ b∈X.all,∃ o,h.get? b=some o:=LxA.all_of ⟨_,H.a⟩ ⟨_,H.d⟩ ⟨_,H.pb⟩ ⟨_,H.lf⟩ ⟨_,H.fs⟩ ⟨_,H.fsd⟩ ⟨_,H.fr⟩ ⟨_,H.cl⟩ ⟨_,H.cr⟩
theorem Lp (P:PW W) (C:LexOk W) {A:Around} {s:Shared} {X:LxA} {ln:Int} {lt:Tok} {m:Nat} {us:List Value} {un:Nat} {L:List (Nat×Tok)} {n:Nat} {R:Result→Shared→Prop} (K:LxOk W X) (OA:OkA A 3) (O:Ok0 W s) (H:LexAt s.heap X ln lt m us un L n) (hL:L.length≤4096)
  (q:∀ s' v lt' m' n',Ok0 W s'→LexAt s'.heap X (ln+Ug L) lt' m' us un L.tail n'→(∀ b o,b≠X.lf→b≠X.d→s.heap.get? b=some o→s'.heap.get? b=some o)→(∃ t,v=.str (toS (L.head?.toList.map (·.1))) t)→R (.ok (.ret v)) s') :
  codeAny (model W.prog W.w) A (.call (.ref fRC) ⟨[.ref X.a],[]⟩) R s:=by
 refine Xi λgk=>?_
 refine C.rc.E λoc ofd sl doc pm an cda ct vs file tf ccl cdd ccs hl hcd hcode hvs hfile=>?_
 refine gk ?_;clear gk
 have XK:KK.In s.heap:=C.X.keeps O.base
 have hroom:A.depth<recursionLimit:=by have:=OA.2.1;omega
 refine (ks_codeAny_call_defAt (binds:=[(("self":Str),Value.ref X.a)]) hroom (XK _ _ hl) rfl (P.glb.nl.keeps λb o e=>O.base b o e) (codeRec_of XK hcd) rfl (BindsTo.of_eq (by kernel_rfl)) (show ∀ x∈(X6 14 1).names,x.2≠.cell by decide +kernel) (by
  intro y hy;rw [List.mem_singleton] at hy;subst hy;show (X6 14 1).names.lookup ("self":Str)=some .local;decide +kernel) (λh₀ hns k0=>?_) rfl rfl rfl)
 refine wpAt_of_wpAny ?_
 refine gq λQ' hQ=>?_
 refine Xi λgk=>?_
 obtain ⟨loc,hloc⟩:∃ loc,loc=s.heap.objs.size:=⟨_,rfl⟩
 refine gk ?_;clear gk
 rw [← hloc] at hns ⊢
 have hlocN:s.heap.get? loc=none:=by rw [hloc];exact XZ _
 have O0:Ok0 W { s with heap:=h₀,toks:=s.toks+1 }:=O.keep k0
 have H0:=H.keep k0
 have X0:KK.In h₀:=XK.keeps k0
 have I0:InstAt h₀ X.a (instObj cLex X.d) cLex (some (X.dict ln lt m)):=⟨H0.a,rfl,rfl,H0.d⟩
 have hself:(λz=>List.lookup z ([(("self":Str),Value.ref X.a)]:List (Str×Value)).reverse) ("self":Str)=some (.ref X.a):=rfl
 refine wpAny_execs_cons (wpAny_Assign_Name ?_)
 rw [arm_eval_Call]
 refine wpAny_bind (Attribute_name (wpAny_Name (wpAny_loadName_local rfl rfl hns hself ?_)))
 refine get_value X0 I0 C.ga (findObj_own C.hasD C.at2 rfl rfl) rfl (wpAny_bind (wpAny_standAt ?_))
 unfold methodCall
 refine wpAny_bind (wpAny_holding (Ds (v:=.ref X.fr) H0.fs H0.fsd rfl rfl ?_))
 refine wpAny_bind (wpAny_of_eq (by rfl) ?_)
 refine callWith_def (o:=⟨.type "function",none,.func (UX X.cl (.ref X.cr) X.rct X.rpm),X.rsl⟩) rfl (args_cons (wpAny_Constant_int (args_nil ⟨H0.fr,?_⟩)) rfl) rfl
 have O1:Ok0 W { s with heap:=h₀,toks:=s.toks+1+1+1+1 }:=O.keep k0
 refine Dl P (s:={ s with heap:=h₀,toks:=s.toks+1+1+1+1 }) (OkA.deeper OA _) O1 H0.fr (K.code _ H0.cr) ⟨_,H0.cl,K.cel⟩ H0.lf hL (K.low _ (.tail _ (.tail _ (.tail _ (.head _))))) λs₁ n₁ v O₁ hl₁ k₁ hv=>?_
 refine Xi λgk=>?_
 obtain ⟨tv,rfl⟩:=hv
 have hlf:X.lf≠loc:=by rintro e;rw [← e,H.lf] at hlocN;cases hlocN
 have hd:X.d≠loc:=by rintro e;rw [← e,H.d] at hlocN;cases hlocN
 have H1:LexAt s₁.heap X ln lt m us un L.tail n₁:=H0.setL K hl₁ k₁
 obtain ⟨env,henv⟩:∃ env,env=callEnv (mFn "_read_char" "_netrclex._read_char" 14 1 [] .none doc pm an (.ref cda) ct) loc fRC:=⟨_,rfl⟩
 refine gk ?_;clear gk
 refine wpAny_storeName_local (env:=callEnv (mFn "_read_char" "_netrclex._read_char" 14 1 [] .none doc pm an (.ref cda) ct) loc fRC) rfl (hns.at' λo e=>k₁ loc o (Ne.symm hlf) e) (λh₂ hn₂ hs₂=>?_) rfl
 have k2:∀ b o,b≠loc→s₁.heap.get? b=some o→h₂.get? b=some o:=λb o hb e=>hs₂.extBut b o hb e
 have k02:∀ b o,b≠X.lf→s.heap.get? b=some o→h₂.get? b=some o:=λb o hb e=>k2 b o (Mine.neA e hlocN) (k₁ b o hb (k0 b o e))
 have hall:∀ b∈X.all,b≠loc:=λb hb e=>(N9 H b hb).elim λo ho=>nS (hlocN.symm.trans (e▸ho))
 have H2:LexAt h₂ X ln lt m us un L.tail n₁:=
  H1.to λb hb o e=>k2 b o (hall b hb) e
 have O2:∀ tk,Ok0 W { s₁ with heap:=h₂,toks:=tk }:=λtk=>Zi (λb o e=>k2 b o (Mine.neA (O.base _ _ e) hlocN) (O₁.base b o e)) O₁.gens O₁.os
 refine wpAny_execs_cons (wpAny_If (wpAny_isTrue_Compare1 (wpAny_Name (wpAny_loadName_local rfl rfl hn₂ rfl (wpAny_Constant_str ?_))) rfl))
 refine Vp (b:=[10]) (OkA.deeper (OA.mono (by omega)) _) (O2 _) λs₃ O₃ X₃=>?_
 have H3:=H2.keep X₃
 have hn₃:=hn₂.keeps X₃
 refine wpAny_truthy_bool ?_
 have ret:∀ (s':Shared) (lt':Tok) (m':Nat) (mm:Str→Option Value),Ok0 W s'→LexAt s'.heap X (ln+Ug L) lt' m' us un L.tail n₁→(∀ b o,b≠X.lf→b≠X.d→s.heap.get? b=some o→s'.heap.get? b=some o)→s'.heap.Ns loc mm→mm "ch" = some (.str (toS (L.head?.toList.map (·.1))) tv)→
   wpAny (model W.prog W.w) (A.deeper (callEnv (mFn "_read_char" "_netrclex._read_char" 14 1 [] .none doc pm an (.ref cda) ct) loc fRC)) (execs ((V0 14 1).drop 2) (callEnv (mFn "_read_char" "_netrclex._read_char" 14 1 [] .none doc pm an (.ref cda) ct) loc fRC)) Q' (λ__ __=>False) s':=λs' lt' m' mm O' H' k' hn' hc'=>by
  refine wpAny_execs_cons (wpAny_Return_some (wpAny_Name (wpAny_loadName_local rfl rfl hn' hc' ?_)))
  exact hQ _ _ (q s' _ lt' m' n₁ O' H' k' ⟨tv,rfl⟩)
 have k03:∀ b o,b≠X.lf→s.heap.get? b=some o→s₃.heap.get? b=some o:=λb o hb e=>X₃ b o (k02 b o hb e)
 have plain:=λ(e1:Ug L=0)=>ret s₃ lt m _ O₃ (by rw [e1,Int.add_zero];exact H3) (λb o hb __ e=>k03 b o hb e) hn₃ rfl
 cases L with
 | nil=>
  exact wpAny_execs_nil (plain rfl)
 | cons c L=>
  obtain ⟨c,tc⟩:=c
  by_cases hc:c=10
  ·clear plain;subst hc
   refine Xi λgk=>?_
   refine C.cd.elim λcd zz=>zz.elim λhcl zz=>zz.elim λhmro hD=>?_
   refine gk ?_;clear gk
   rw [if_pos (show ((((10,tc) :: L).head?.toList.map (·.1))==[10])=true from rfl)]
   have X3:KK.In s₃.heap:=C.X.keeps O₃.base
   have I3:InstAt s₃.heap X.a (instObj cLex X.d) cLex (some (X.dict ln lt m)):=⟨H3.a,rfl,rfl,H3.d⟩
   refine wpAny_execs_cons (wpAny_AugAssign_AttributeAny (wpAny_Name (wpAny_loadName_local rfl rfl hn₃ rfl ?_)))
   refine get_value X3 I3 C.ga (findObj_own C.hasD C.at1 rfl rfl) rfl (wpAny_Constant_int (PySem.P.iadd_int ?_))
   refine Zh X3 I3 rfl C.sa hcl hmro hD C.at1 rfl (Nat.le_of_ble_eq_true rfl) λh₄ e₄ k₄=>?_
   refine wpAny_execs_nil ?_
   have k4:∀ b o,b≠X.d→s₃.heap.get? b=some o→h₄.get? b=some o:=λb o hb e=>(k₄ b hb).trans e
   refine ret _ _ _ _ ?_ (H3.setD K e₄ k4) (λb o hb hb' e=>k4 b o hb' (k03 b o hb e)) (hn₃.at' λo e=>k4 loc o (Ne.symm hd) e) rfl
   exact Zi (λb o e=>k4 b o (Mine.neA e (K.low _ (by simp [LxA.all]))) (O₃.base b o e)) O₃.gens O₃.os
  ·have e0:((((c,tc) :: L).head?.toList.map (·.1))==[10])=false:=by simp [hc]
   rw [e0]
   have e1:Ug ((c,tc) :: L)=0:=by
    unfold Ug
    split
    ·rename_i h;clear H H0 H1 H2 H3 e0 hL hl₁ hn₂ hn₃ plain q ret;cases h;exact absurd rfl hc
    ·rfl
   exact wpAny_execs_nil (plain e1)
end
end
section
set_option tactic.hygienic false
set_option maxHeartbeats 1000000
variable [iO:Own] [iA:OwnA] [iL:OwnL]
open Own OwnA OwnL
theorem Jx:Slot "callable_iterator" "__next__" "callable_iterator.__next__":=.of (owner:="callable_iterator") (n:="__next__") (by rw [typeLookup_type,builtinLookup_eq_fast];kernel_rfl) dk dk dk
  (by first | exact .inl dk | exact .inr dk) (by rw [isSubtype_type];kernel_rfl)
theorem U1:entryFor table "callable_iterator.__next__" = some Builtin.«callable_iterator.__next__»:=entryFor_of_tree (by kernel_rfl)
theorem MZ (a:Value):argsOk "callable_iterator.__next__" ⟨[a],[]⟩:=by unfold argsOk;kernel_rfl
noncomputable abbrev RW (mth:Addr) (ts:Tok):Obj:={ cls:=.type "callable_iterator",data:=.fields #[.ref mth,.str ⟨#[]⟩ ts,.bool false] }
noncomputable abbrev R7:Obj:={ cls:=.type "callable_iterator",data:=.fields #[.none,.none,.bool true] }
section
variable {prog:Program} {w:World} {A:Around} {E:Value→Shared→Prop} {s:Shared} {mth f:Addr} {self:Value} {Q:Value→Shared→Prop}
theorem J5 {M:Model} {h:Heap} {oc:Value} {od:Option Addr} {fd:FuncData} {sl:Array (Option Value)} (hm:h.get? mth=some (methodObj (.ref f) self)) (hf:h.get? f=some ⟨oc,od,.func fd,sl⟩):Looks M h (borrowsExactly (.ref mth)) true:=by
 unfold borrowsExactly
 refine (Looks.ld hm).andThen ?_
 dsimp only
 simp only [beq_self_eq_true,if_true]
 show Looks M h (do match (← load f).data with | .func _=>pure true | _=>pure false) true
 exact (Looks.ld hf).andThen .now
theorem T3 {f:Value} {pos:List Value} (hc:codeAny (model prog w) A (.call f ⟨pos,[]⟩) (λr s'=>match r with | .ok (.ret v)=>Q v s' | .ok _=>False | .error e=>E e s') s):wpAny (model prog w) A (callBorrowed f pos) Q E s:=λΓ p hΓ=>by
 unfold callBorrowed
 rw [Sem.wp_call]
 refine PySem.wpCode_mono (λr s' z=>?_) (hc _ p rfl (hΓ.enter _ none p (by intro x;cases x)))
 rcases r with e | (_ | _ | _ | v)
 all_goals first | exact z.elim | skip
 all_goals simp only [Sem.wp]
 all_goals exact z
end
section
variable {W:Wd} {A:Around} {s:Shared} {X:LxA} {ln:Int} {lt:Tok} {m:Nat} {us:List Value} {un:Nat} {L:List (Nat×Tok)} {n:Nat}
theorem Hf (P:PW W) (C:LexOk W) {mth:Addr} {Q E:Value→Shared→Prop} (K:LxOk W X) (OA:OkA A 4) (O:Ok0 W s) (H:LexAt s.heap X ln lt m us un L n) (hL:L.length≤4096) (hm:s.heap.get? mth=some (methodObj (.ref fRC) (.ref X.a)))
  (q:∀ s' v lt' m' n',Ok0 W s'→LexAt s'.heap X (ln+Ug L) lt' m' us un L.tail n'→(∀ b o,b≠X.lf→b≠X.d→s.heap.get? b=some o→s'.heap.get? b=some o)→(∃ t,v=.str (toS (L.head?.toList.map (·.1))) t)→Q v s') :
  wpAny (model W.prog W.w) A (callOutOfASlot (.ref mth)) Q E s:=by
 refine Xi λgk=>?_
 refine C.rc.E λoc ofd sl doc pm an cda ct vs file tf ccl cdd ccs hl hcd hcode hvs hfile=>?_
 refine gk ?_;clear gk
 have XK:KK.In s.heap:=C.X.keeps O.base
 unfold callOutOfASlot
 refine wpAny_bind ((J5 hm (XK _ _ hl)).here ?_)
 rw [if_pos rfl]
 refine T3 (method_call hm ?_)
 exact Lp P C K (OA.mono (by omega)) O H hL q
theorem Iv (P:PW W) (C:LexOk W) {it mth:Addr} {ts:Tok} {c:Nat×Tok} {Q:Option Value→Shared→Prop} {E:Value→Shared→Prop} (K:LxOk W X) (OA:OkA A 5) (O:Ok0 W s) (H:LexAt s.heap X ln lt m us un (c :: L) n) (hL:(c :: L).length≤4096)
  (hit:s.heap.get? it=some (RW mth ts)) (hm:s.heap.get? mth=some (methodObj (.ref fRC) (.ref X.a)))
  (q:∀ s' v lt' m' n',Ok0 W s'→LexAt s'.heap X (ln+Ug (c :: L)) lt' m' us un L n'→(∀ b o,b≠X.lf→b≠X.d→s.heap.get? b=some o→s'.heap.get? b=some o)→(∃ t,v=.str (toS [c.1]) t)→Q (some v) s') :
  wpAny (model W.prog W.w) A (pyNext (.ref it)) Q E s:=by
 have h1:it≠X.lf:=by rintro rfl;rw [H.lf] at hit;have e:=congrArg (Option.map Obj.data) hit;cases e
 have h2:it≠X.d:=by clear h1;rintro rfl;rw [H.d] at hit;have e:=congrArg (Option.map Obj.data) hit;cases e
 have hT:s.TypeIs (.ref it) "callable_iterator":=⟨_,hit,rfl⟩
 unfold pyNext
 refine wpAny_bind (wpAny_attempt (wpAny_callSpecial?_slot (name:=Str.ofString "__next__") hT Jx (wpAny_call_entry Jx hT U1 ?_ (MZ _))))
 unfold Builtin.«callable_iterator.__next__»
 refine wpAny_bind (wpAny_of_eq (a:=(.ref it,[])) (by kernel_rfl) ?_)
 dsimp only
 refine wpAny_bind (wpAny_field hit rfl (x:=.bool false) rfl ?_)
 rw [if_neg (show ¬ ((Value.bool false==Value.bool true)=true) by decide)]
 refine wpAny_bind (wpAny_field hit rfl (x:=.ref mth) rfl ?_)
 refine wpAny_bind (wpAny_attempt (Hf P C K (OkA.in1 OA) O H hL hm λs' v lt' m' n' O' H' k' hv=>?_))
 obtain ⟨t,rfl⟩:=hv
 have hit':=k' it _ h1 h2 hit
 refine wpAny_bind (wpAny_field hit' rfl (x:=.bool false) rfl ?_)
 rw [if_neg (show ¬ ((Value.bool false==Value.bool true)=true) by decide)]
 refine wpAny_bind (wpAny_field hit' rfl (x:=.str ⟨#[]⟩ ts) rfl ?_)
 refine wpAny_bind (wpAny_holding ?_)
 unfold eqBool
 refine wpAny_holding ?_
 have ne:(Value.str ⟨#[]⟩ ts==Value.str (toS [c.1]) t)=false:=by
  rw [beq_eq_false_iff_ne]
  intro e
  injection e with e _
  have:=congrArg Str.length e
  rw [Zd] at this
  cases this
 show wpAny _ _ (if (Value.str ⟨#[]⟩ ts==Value.str (toS [c.1]) t)=true then _ else _) _ _ _
 rw [ne]
 simp only [Bool.false_eq_true,if_false]
 refine wpAny_bind (cmp_ofEq (Vp (a:=[]) (b:=[c.1]) (OkA.in1 (OA.mono (by omega))) O' λs₃ O₃ k₃=>?_))
 refine wpAny_truthy_bool ?_
 refine wpAny_pure ⟨_,rfl,wpAny_pure ?_⟩
 exact q s₃ _ lt' m' n' O₃ (H'.keep k₃) (λb o hb hb' e=>k₃ b o (k' b o hb hb' e)) ⟨t,rfl⟩
theorem N8 {α:Type} {P:α→Shared→Prop} {Q:Option Value→Shared→Prop} {E:Value→Shared→Prop} (hh:A.handled=none) (q:∀ h',(∀ b o,s.heap.get? b=some o→h'.get? b=some o)→Q none { s with heap:=h' }) :
  wpAny (model W.prog W.w) A.in1 (Builtin.SmallTypes.stopIteration:Sem α) P (λe s'=>wpAny (model W.prog W.w) A (do
   let b ← isInstance e (Value.type "StopIteration")
   if b=true then pure none else throw e) Q E s') s:=by
 unfold Builtin.SmallTypes.stopIteration
 show wpAny _ _ (newExc (.type "StopIteration") [] >>= _) _ _ _
 refine wpAny_bind ?_
 simp only [newExc,newTuple]
 refine wpAny_bind (wpAny_newObj_type ?_ (by size_fits))
 refine wpAny_bind (m:=firstArgMember _ _) (wpAny_of_eq (a:=Value.none) (by first | rfl | (simp only [firstArgMember];rfl)) ?_)
 refine wpAny_newObj_type ?_ (by size_fits)
 simp only [raiseNew]
 refine wpAny_bind (wpAny_handled ?_)
 rw [show A.in1.handled=none from hh]
 refine wpAny_bind (wpAny_pure (wpAny_throw ?_))
 refine wpAny_bind (wpAny_isInstance (T:="StopIteration") (b:=true) ⟨_,Heap.get?_push_size _ rfl,rfl⟩ isSubtype_stop ?_)
 exact wpAny_pure (q _ λb o hb=>Heap.get?_push_of_some _ (Heap.get?_push_of_some _ hb))
theorem RH {ts t:Tok} {Q:Bool→Shared→Prop} {E:Value→Shared→Prop} (OA:OkA A 1) (O:Ok0 W s) (q:∀ s',Ok0 W s'→(∀ b o,s.heap.get? b=some o→s'.heap.get? b=some o)→Q true s') :
  wpAny (model W.prog W.w) A (eqBool (.str ⟨#[]⟩ ts) (.str (toS []) t)) Q E s:=by
 unfold eqBool
 refine wpAny_holding ?_
 show wpAny _ _ (if (Value.str ⟨#[]⟩ ts==Value.str (toS []) t)=true then _ else _) _ _ _
 split
 ·exact wpAny_bind (wpAny_rule (wpAny_pure (q s O λ__ __ e=>e)))
 ·refine wpAny_bind (cmp_ofEq (Vp (a:=[]) (b:=[]) OA O λs₃ O₃ k₃=>?_))
  exact wpAny_truthy_bool (q s₃ O₃ k₃)
theorem Wq (P:PW W) (C:LexOk W) {it mth:Addr} {ts:Tok} {Q:Option Value→Shared→Prop} {E:Value→Shared→Prop} (K:LxOk W X) (OA:OkA A 5) (O:Ok0 W s) (H:LexAt s.heap X ln lt m us un [] n)
  (hit:s.heap.get? it=some (RW mth ts)) (hm:s.heap.get? mth=some (methodObj (.ref fRC) (.ref X.a))) (hi0:W.h₀.get? it=none)
  (q:∀ s' lt' m' n',Ok0 W s'→LexAt s'.heap X ln lt' m' us un [] n'→(∀ b o,b≠X.lf→b≠X.d→b≠it→s.heap.get? b=some o→s'.heap.get? b=some o)→s'.heap.get? it=some R7→Q none s') :
  wpAny (model W.prog W.w) A (pyNext (.ref it)) Q E s:=by
 have h1:it≠X.lf:=by clear hi0 q;rintro rfl;rw [H.lf] at hit;have e:=congrArg (Option.map Obj.data) hit;cases e
 have h2:it≠X.d:=by clear h1 hi0 q;rintro rfl;rw [H.d] at hit;have e:=congrArg (Option.map Obj.data) hit;cases e
 have hT:s.TypeIs (.ref it) "callable_iterator":=⟨_,hit,rfl⟩
 unfold pyNext
 refine wpAny_bind (wpAny_attempt (wpAny_callSpecial?_slot (name:=Str.ofString "__next__") hT Jx (wpAny_call_entry Jx hT U1 ?_ (MZ _))))
 unfold Builtin.«callable_iterator.__next__»
 refine wpAny_bind (wpAny_of_eq (a:=(.ref it,[])) (by kernel_rfl) ?_)
 dsimp only
 refine wpAny_bind (wpAny_field hit rfl (x:=.bool false) rfl ?_)
 rw [if_neg (show ¬ ((Value.bool false==Value.bool true)=true) by decide)]
 refine wpAny_bind (wpAny_field hit rfl (x:=.ref mth) rfl ?_)
 refine wpAny_bind (wpAny_attempt (Hf P C K (OkA.in1 OA) O H (by simp) hm λs' v lt' m' n' O' H' k' hv=>?_))
 obtain ⟨t,rfl⟩:=hv
 have hit':=k' it _ h1 h2 hit
 refine wpAny_bind (wpAny_field hit' rfl (x:=.bool false) rfl ?_)
 rw [if_neg (show ¬ ((Value.bool false==Value.bool true)=true) by decide)]
 refine wpAny_bind (wpAny_field hit' rfl (x:=.str ⟨#[]⟩ ts) rfl ?_)
 refine wpAny_bind (wpAny_holding ?_)
 refine RH (OkA.in1 (OA.mono (by omega))) O' λs₃ O₃ k₃=>?_
 simp only [Bool.not_true,Bool.false_eq_true,if_false]
 refine wpAny_bind (wpAny_rule ?_)
 have hit₃:=k₃ _ _ hit'
 have hm₃:=k₃ _ _ (k' mth _ (by clear hit hit' hit₃;rintro rfl;rw [H.lf] at hm;have e:=congrArg (Option.map Obj.data) hm;cases e) (by clear hit hit' hit₃;rintro rfl;rw [H.d] at hm;have e:=congrArg (Option.map Obj.data) hm;cases e) hm)
 refine Xi λgk=>?_
 refine C.rc.E λoc ofd sl doc pm an cda ct vs file tf ccl cdd ccs hl hcd hcode hvs hfile=>?_
 refine gk ?_;clear gk
 have XK:KK.In s₃.heap:=C.X.keeps O₃.base
 refine wpAny_bind ?_
 refine wpAny_bind (wpAny_field hit₃ rfl (x:=.ref mth) rfl ?_)
 refine wpAny_bind ?_
 unfold slotLetsGo
 refine wpAny_bind ((J5 hm₃ (XK _ _ hl)).here ?_)
 rw [if_pos rfl]
 refine wpAny_pure ?_
 refine wpAny_bind (wpAny_setField hit₃ rfl (by simp) ?_)
 have e1:(s₃.heap.update it (Obj.mapFields (λvs=>vs.setIfInBounds 0 .none))).get? it=some { cls:=.type "callable_iterator",data:=.fields #[.none,.str ⟨#[]⟩ ts,.bool false] }:=by rw [Heap.get?_update_self _ hit₃ rfl];rfl
 refine wpAny_bind (wpAny_setField e1 rfl (by simp) ?_)
 have e2:((s₃.heap.update it (Obj.mapFields (λvs=>vs.setIfInBounds 0 .none))).update it (Obj.mapFields (λvs=>vs.setIfInBounds 1 .none))).get? it=some { cls:=.type "callable_iterator",data:=.fields #[.none,.none,.bool false] }:=by rw [Heap.get?_update_self _ e1 rfl];rfl
 refine wpAny_setField e2 rfl (by simp) ?_
 have e3:(((s₃.heap.update it (Obj.mapFields (λvs=>vs.setIfInBounds 0 .none))).update it (Obj.mapFields (λvs=>vs.setIfInBounds 1 .none))).update it (Obj.mapFields (λvs=>vs.setIfInBounds 2 (.bool true)))).get? it=some R7:=by rw [Heap.get?_update_self _ e2 rfl];rfl
 have ko:∀ b,b≠it→(((s₃.heap.update it (Obj.mapFields (λvs=>vs.setIfInBounds 0 .none))).update it (Obj.mapFields (λvs=>vs.setIfInBounds 1 .none))).update it (Obj.mapFields (λvs=>vs.setIfInBounds 2 (.bool true)))).get? b=s₃.heap.get? b:=λb hb=>by
  rw [Heap.get?_update_other _ _ (Ne.symm hb),Heap.get?_update_other _ _ (Ne.symm hb),Heap.get?_update_other _ _ (Ne.symm hb)]
 refine N8 (s:={ s₃ with heap:=_ }) OA.1 λh' kh=>?_
 have kk:∀ b o,b≠it→s₃.heap.get? b=some o→h'.get? b=some o:=λb o hb e=>kh b o ((ko b hb).trans e)
 have na:∀ b∈X.all,b≠it:=by
  refine LxA.all_of (Gd H.a hit rfl) (Gd H.d hit rfl) (Gd H.pb hit rfl) (Gd H.lf hit rfl) (Gd H.fs hit rfl) (Gd H.fsd hit rfl) (Gd H.fr hit rfl) (Gd H.cl hit (by rw [K.cel];rfl)) ?_
  refine Xi λgk=>gk λe=>?_
  obtain ⟨c,oc,vs,tq,hc,hoc,hdc,hq⟩:=K.code _ H.cr
  cases hc
  rw [e,hit] at hoc
  cases hoc;cases hdc;cases hq
 have H₃:=H'.keep k₃
 refine q _ lt' m' n' (Zi (λb o e=>kk b o (Mine.neA e hi0) (O₃.base b o e)) O₃.gens O₃.os) ?_ (λb o hb hb' hi e=>kk b o hi (k₃ b o (k' b o hb hb' e))) (kh it _ e3)
 have H₃':LexAt s₃.heap X ln lt' m' us un [] n':=by rw [show ln+Ug []=ln from Int.add_zero ln] at H₃;exact H₃
 exact H₃'.to λb hb o e=>kk b o (na b hb) e
theorem Ww {it:Addr} {Q:Option Value→Shared→Prop} {E:Value→Shared→Prop} (OA:OkA A 5) (hit:s.heap.get? it=some R7) (q:∀ h',(∀ b o,s.heap.get? b=some o→h'.get? b=some o)→Q none { s with heap:=h' }) :
  wpAny (model W.prog W.w) A (pyNext (.ref it)) Q E s:=by
 have hT:s.TypeIs (.ref it) "callable_iterator":=⟨_,hit,rfl⟩
 unfold pyNext
 refine wpAny_bind (wpAny_attempt (wpAny_callSpecial?_slot (name:=Str.ofString "__next__") hT Jx (wpAny_call_entry Jx hT U1 ?_ (MZ _))))
 unfold Builtin.«callable_iterator.__next__»
 refine wpAny_bind (wpAny_of_eq (a:=(.ref it,[])) (by kernel_rfl) ?_)
 dsimp only
 refine wpAny_bind (wpAny_field hit rfl (x:=.bool true) rfl ?_)
 rw [if_pos (show (Value.bool true==Value.bool true)=true by decide)]
 refine wpAny_bind (wpAny_rule ?_)
 refine wpAny_bind ?_
 exact N8 OA.1 q
end
end
section
set_option tactic.hygienic false
set_option maxHeartbeats 1000000
variable [iO:Own] [iA:OwnA] [iL:OwnL]
open Own OwnA OwnL
-- what a token is
noncomputable def G7 (c:Nat):Bool:=c==10||c==9||c==13||c==32
noncomputable def Yp:List Nat→List Nat→Option (List Nat×List Nat)
 | [],t=>some (t,[])
 | [c],t=>if G7 c then some (t,[]) else if c=92 then none else some (t++[c],[])
 | c :: d :: r,t=>if G7 c then some (t,d :: r) else if c=92 then Yp r (t++[d]) else Yp (d :: r) (t++[c])
noncomputable def YU:List Nat→List Nat→Option (List Nat×List Nat)
 | [],t=>some (t,[])
 | [c],t=>if c=34 then some (t,[]) else if c=92 then none else some (t++[c],[])
 | c :: d :: r,t=>if c=34 then some (t,d :: r) else if c=92 then YU r (t++[d]) else YU (d :: r) (t++[c])
noncomputable def VG:List Nat→Option (List Nat×List Nat)
 | []=>some ([],[])
 | c :: r=>if G7 c then VG r else if c=34 then YU r [] else if c=92 then (match r with | []=>none | d :: r'=>Yp r' [d]) else Yp r [c]
noncomputable def nls (L:List (Nat×Tok)):Int:=((L.filter λp=>p.1==10).length:Nat)
theorem Kr (c:Nat×Tok) (L:List (Nat×Tok)):Ug (c :: L)+nls L=nls (c :: L):=by
 obtain ⟨c,t⟩:=c
 unfold nls
 by_cases h:c=10
 ·subst h
  have e1:Ug ((10,t) :: L)=1:=rfl
  simp [e1]
  omega
 ·have e1:Ug ((c,t) :: L)=0:=by
   unfold Ug
   split
   ·rename_i h';cases h';exact absurd rfl h
   ·rfl
  simp [e1,h]
theorem Lm (c:Nat):Txt.contains Nt (toS [c])=G7 c:=by
 have e:=PySem.StrLaws.found_one Nt c
 show (!(Builtin.Str.occurrences Nt ⟨#[c]⟩ 0 Nt.length 1).isEmpty)=_
 rw [e]
 show decide (c∈[10,9,13,32])=_
 unfold G7
 simp only [List.mem_cons,List.not_mem_nil,or_false]
 by_cases h1:c=10 <;> by_cases h2:c=9 <;> by_cases h3:c=13 <;> by_cases h4:c=32 <;> simp [h1,h2,h3,h4]
noncomputable abbrev ZA (doc pm:Value) (an:Option Addr) (cda:Addr) (ct:Value) (loc:Addr):Env:=callEnv (mFn "get_token" "_netrclex.get_token" 14 2 [] .none doc pm an (.ref cda) ct) loc fGT
structure GtC (W:Wd) (s0:Shared) (X:LxA) (loc it mth:Addr) (us:List Value) (un:Nat):Prop where
 K:LxOk W X
 H:∃ ln lt m L n,LexAt s0.heap X ln lt m us un L n
 ok:Ok0 W s0
 f1:s0.heap.get? loc=none
 f2:s0.heap.get? it=none
 f3:s0.heap.get? mth=none
 n1:loc≠it
 n2:loc≠mth
 n3:it≠mth
structure GtS (W:Wd) (s0:Shared) (X:LxA) (loc it mth:Addr) (ts:Tok) (N:Int) (us:List Value) (un:Nat) (over:Bool) (tok:List Nat) (L:List (Nat×Tok)) (ch:Option (List Nat)) (s:Shared):Prop where
 ok:Ok0 W s
 lex:∃ ln lt m n,LexAt s.heap X ln lt m us un L n∧ln+nls L=N
 keep:∀ b o,b≠X.lf→b≠X.d→s0.heap.get? b=some o→s.heap.get? b=some o
 ns:∃ mm,s.heap.Ns loc mm∧mm "self" = some (.ref X.a)∧mm "fiter" = some (.ref it)∧(∃ tk,mm "token" = some (.str (toS tok) tk))∧∀ c,ch=some c→∃ tk,mm "ch" = some (.str (toS c) tk)
 it_:s.heap.get? it=some (if over then R7 else RW mth ts)
 mth:s.heap.get? mth=some (methodObj (.ref fRC) (.ref X.a))
 fit:tok.length+L.length≤4096
theorem LexAt.alive {h:Heap} {X:LxA} {ln lt m us un L n} (H:LexAt h X ln lt m us un L n):∀ b∈X.all,∃ o,h.get? b=some o:=N9 H
theorem LexAt.off {h h':Heap} {X:LxA} {ln lt m us un L n} {loc:Addr} (H:LexAt h X ln lt m us un L n) (hn:∀ b∈X.all,b≠loc) (k:∀ b o,b≠loc→h.get? b=some o→h'.get? b=some o):LexAt h' X ln lt m us un L n:=
 H.to λb hb o e=>k b o (hn b hb) e
section
variable {W:Wd} {s0:Shared} {X:LxA} {loc it mth:Addr} {ts:Tok} {N:Int} {us:List Value} {un:Nat} {over:Bool} {tok:List Nat} {L:List (Nat×Tok)} {ch:Option (List Nat)} {s:Shared} {A:Around} {E:Value→Shared→Prop} {doc pm ct:Value} {an:Option Addr} {cda:Addr}
theorem GtC.ne (B:GtC W s0 X loc it mth us un) {a:Addr} (ha:s0.heap.get? a=none):∀ b∈X.all,b≠a:=λb hb e=>by
 refine B.H.elim λln zz=>zz.elim λlt zz=>zz.elim λm zz=>zz.elim λL zz=>zz.elim λn H=>?_
 refine (H.alive b hb).elim λo ho=>?_
 rw [e,ha] at ho;cases ho
theorem GtS.grow (G:GtS W s0 X loc it mth ts N us un over tok L ch s) {s':Shared} (O:Ok0 W s') (k:∀ b o,s.heap.get? b=some o→s'.heap.get? b=some o):GtS W s0 X loc it mth ts N us un over tok L ch s':=
 ⟨O,let ⟨ln,lt,m,n,H,e⟩:=G.lex;⟨ln,lt,m,n,H.keep k,e⟩,λb o h1 h2 e=>k b o (G.keep b o h1 h2 e),let ⟨mm,h1,h2⟩:=G.ns;⟨mm,h1.keeps k,h2⟩,k _ _ G.it_,k _ _ G.mth,G.fit⟩
theorem LF {s':Shared} {a:Addr} (B:Ok0 W s0) (ha:s0.heap.get? a=none) (O:Ok0 W s) (k:∀ b o,b≠a→s.heap.get? b=some o→s'.heap.get? b=some o) (g:AllBare s'.gens) (o:s'.os=W.os):Ok0 W s':=
 Zi (λb o e=>k b o (Mine.neA (B.base _ _ e) ha) (O.base b o e)) g o
theorem Jy (B:GtC W s0 X loc it mth us un) (G:GtS W s0 X loc it mth ts N us un over tok L ch s) {c:List Nat} {t:Tok} {Q:Unit→Shared→Prop} (q:∀ s',GtS W s0 X loc it mth ts N us un over tok L (some c) s'→Q () s') :
  wpAny (model W.prog W.w) A (storeName (ZA doc pm an cda ct loc) "ch" (.str (toS c) t)) Q E s:=by
 refine Xi λgk=>?_
 obtain ⟨mm,h1,h2,h3,⟨tk,h4⟩,h5⟩:=G.ns
 refine gk ?_;clear gk
 refine wpAny_storeName_local (env:=ZA doc pm an cda ct loc) rfl h1 (λh' hn hs=>?_) rfl
 have k:∀ b o,b≠loc→s.heap.get? b=some o→h'.get? b=some o:=λb o hb e=>hs.extBut b o hb e
 refine Xi λgk=>?_
 obtain ⟨ln,lt,m,n,H,e⟩:=G.lex
 refine gk ?_;clear gk
 refine q _ ⟨LF B.ok B.f1 G.ok k G.ok.gens G.ok.os,⟨ln,lt,m,n,H.off (B.ne B.f1) k,e⟩,λb o a1 a2 e=>k b o (Mine.neA e B.f1) (G.keep b o a1 a2 e),⟨_,hn,?_,?_,⟨tk,?_⟩,λc' hc'=>⟨t,?_⟩⟩,k _ _ (Ne.symm B.n1) G.it_,k _ _ (Ne.symm B.n2) G.mth,G.fit⟩
 ·show (if ("self":Str)=("ch":Str) then _ else _)=_
  rw [if_neg (by decide)];exact h2
 ·show (if ("fiter":Str)=("ch":Str) then _ else _)=_
  rw [if_neg (by decide)];exact h3
 ·show (if ("token":Str)=("ch":Str) then _ else _)=_
  rw [if_neg (by decide)];exact h4
 ·cases hc'
  show (if ("ch":Str)=("ch":Str) then _ else _)=_
  rw [if_pos rfl]
end
end
section
set_option tactic.hygienic false
set_option maxHeartbeats 1000000
variable [iO:Own] [iA:OwnA] [iL:OwnL]
open Own OwnA OwnL
section
variable {W:Wd} {s0:Shared} {X:LxA} {loc it mth:Addr} {ts:Tok} {N:Int} {us:List Value} {un:Nat} {over:Bool} {tok:List Nat} {L:List (Nat×Tok)} {ch:Option (List Nat)} {s:Shared} {A:Around} {E:Value→Shared→Prop} {doc pm ct:Value} {an:Option Addr} {cda:Addr}
theorem ZL (B:GtC W s0 X loc it mth us un) {c:List Nat} (G:GtS W s0 X loc it mth ts N us un over tok L (some c) s) {p1 p2 p3:Pos} {Q:Flow→Shared→Prop} (hf:(tok++c).length+L.length≤4096) (q:∀ s',GtS W s0 X loc it mth ts N us un over (tok++c) L (some c) s'→Q .next s') :
  wpAny (model W.prog W.w) A (exec (.AugAssign (.Name "token" p1) .Add (.Name "ch" p2) p3) (ZA doc pm an cda ct loc)) Q E s:=by
 refine Xi λgk=>?_
 obtain ⟨mm,h1,h2,h3,⟨tk,h4⟩,h5⟩:=G.ns
 obtain ⟨tc,h6⟩:=h5 c rfl
 refine gk ?_;clear gk
 refine wpAny_AugAssign_Name (wpAny_loadName_local rfl rfl h1 h4 (wpAny_Name (wpAny_loadName_local rfl rfl h1 h6 ?_)))
 refine SBL.iadd (λt' tk' __=>?_) (by rw [Zd,Zd,sizeLine_eq];simp at hf;omega)
 refine wpAny_storeName_local (env:=ZA doc pm an cda ct loc) rfl h1 (λh' hn hs=>?_) rfl
 have k:∀ b o,b≠loc→s.heap.get? b=some o→h'.get? b=some o:=λb o hb e=>hs.extBut b o hb e
 refine Xi λgk=>?_
 obtain ⟨ln,lt,m,n,H,e⟩:=G.lex
 refine gk ?_;clear gk
 refine q _ ⟨LF B.ok B.f1 G.ok k G.ok.gens G.ok.os,⟨ln,lt,m,n,H.off (B.ne B.f1) k,e⟩,λb o a1 a2 e=>k b o (Mine.neA e B.f1) (G.keep b o a1 a2 e),⟨_,hn,?_,?_,⟨t',?_⟩,λc' hc'=>⟨tc,?_⟩⟩,k _ _ (Ne.symm B.n1) G.it_,k _ _ (Ne.symm B.n2) G.mth,hf⟩
 ·show (if ("self":Str)=("token":Str) then _ else _)=_
  rw [if_neg (by decide)];exact h2
 ·show (if ("fiter":Str)=("token":Str) then _ else _)=_
  rw [if_neg (by decide)];exact h3
 ·show (if ("token":Str)=("token":Str) then _ else _)=_
  rw [if_pos rfl,JC]
 ·cases hc'
  show (if ("ch":Str)=("token":Str) then _ else _)=_
  rw [if_neg (by decide)];exact h6
theorem GtS.read (B:GtC W s0 X loc it mth us un) {L':List (Nat×Tok)} (G:GtS W s0 X loc it mth ts N us un over tok L ch s) {s':Shared} {ln:Int} {lt:Tok} {m n:Nat} (O:Ok0 W s') (H:LexAt s'.heap X ln lt m us un L' n) (hl:ln+nls L'=N) (k:∀ b o,b≠X.lf→b≠X.d→s.heap.get? b=some o→s'.heap.get? b=some o) (hf:tok.length+L'.length≤4096):GtS W s0 X loc it mth ts N us un over tok L' ch s':=by
 have e1:∀ a,s0.heap.get? a=none→a≠X.lf∧a≠X.d:=λa ha=>⟨Ne.symm (B.ne ha _ (by simp [LxA.all])),Ne.symm (B.ne ha _ (by simp [LxA.all]))⟩
 refine Xi λgk=>?_
 refine G.ns.elim λmm zz=>zz.elim λh1 h2=>?_
 refine gk ?_;clear gk
 exact ⟨O,⟨ln,lt,m,n,H,hl⟩,λb o a1 a2 e=>k b o a1 a2 (G.keep b o a1 a2 e),⟨mm,h1.at' λo e=>k _ o (e1 _ B.f1).1 (e1 _ B.f1).2 e,h2⟩,k _ _ (e1 _ B.f2).1 (e1 _ B.f2).2 G.it_,k _ _ (e1 _ B.f3).1 (e1 _ B.f3).2 G.mth,hf⟩
theorem MW (P:PW W) (C:LexOk W) (B:GtC W s0 X loc it mth us un) {c:Nat×Tok} (OA:OkA A 5) (G:GtS W s0 X loc it mth ts N us un false tok (c :: L) ch s) {Q:Option Value→Shared→Prop} (q:∀ s' t,GtS W s0 X loc it mth ts N us un false tok L ch s'→Q (some (.str (toS [c.1]) t)) s') :
  wpAny (model W.prog W.w) A (pyNext (.ref it)) Q E s:=by
 refine Xi λgk=>?_
 obtain ⟨ln,lt,m,n,H,e⟩:=G.lex
 refine gk ?_;clear gk
 have hf:=G.fit
 refine Iv P C B.K OA G.ok H (by omega) G.it_ G.mth λs' v lt' m' n' O' H' k' hv=>?_
 obtain ⟨t,rfl⟩:=hv
 refine q s' t (G.read B O' H' (by rw [← e,← Kr c L];omega) k' (by simp at hf;omega))
theorem Mr (P:PW W) (C:LexOk W) (B:GtC W s0 X loc it mth us un) (OA:OkA A 5) (G:GtS W s0 X loc it mth ts N us un false tok [] ch s) {Q:Option Value→Shared→Prop} (q:∀ s',GtS W s0 X loc it mth ts N us un true tok [] ch s'→Q none s') :
  wpAny (model W.prog W.w) A (pyNext (.ref it)) Q E s:=by
 refine Xi λgk=>?_
 obtain ⟨ln,lt,m,n,H,e⟩:=G.lex
 refine gk ?_;clear gk
 have e1:∀ a,s0.heap.get? a=none→a≠X.lf∧a≠X.d:=λa ha=>⟨Ne.symm (B.ne ha _ (by simp [LxA.all])),Ne.symm (B.ne ha _ (by simp [LxA.all]))⟩
 refine Wq P C B.K OA G.ok H G.it_ G.mth ?_ λs' lt' m' n' O' H' k' he=>?_
 ·exact Yc (λo e=>B.ok.base _ _ e) B.f2
 refine Xi λgk=>?_
 obtain ⟨mm,h1,h2⟩:=G.ns
 refine gk ?_;clear gk
 exact q s' ⟨O',⟨ln,lt',m',n',H',e⟩,λb o a1 a2 e=>k' b o a1 a2 (Mine.neA e B.f2) (G.keep b o a1 a2 e),⟨mm,h1.at' λo e=>k' _ o (e1 _ B.f1).1 (e1 _ B.f1).2 B.n1 e,h2⟩,he,k' _ _ (e1 _ B.f3).1 (e1 _ B.f3).2 (Ne.symm B.n3) G.mth,G.fit⟩
theorem Ik (B:GtC W s0 X loc it mth us un) (OA:OkA A 5) (G:GtS W s0 X loc it mth ts N us un true tok L ch s) {Q:Option Value→Shared→Prop} (q:∀ s',GtS W s0 X loc it mth ts N us un true tok L ch s'→Q none s') :
  wpAny (model W.prog W.w) A (pyNext (.ref it)) Q E s:=
 Ww OA G.it_ λh' k=>q _ (G.grow (s':={ s with heap:=h' }) (Zi (λb o e=>k b o (G.ok.base b o e)) G.ok.gens G.ok.os) k)
theorem Rz (P:PW W) (C:LexOk W) (B:GtC W s0 X loc it mth us un) {d:Nat×Tok} (OA:OkA A 5) (G:GtS W s0 X loc it mth ts N us un over tok (d :: L) ch s) {p1 p2 p3 p4 p5:Pos} {Q:Flow→Shared→Prop} (hline:(p3.endLine==p4.line)=true) (q:∀ s',GtS W s0 X loc it mth ts N us un over tok L (some [d.1]) s'→Q .next s') :
  wpAny (model W.prog W.w) A (exec (.Assign [.Name "ch" p1] (.Call (.Attribute (.Name "self" p2) "_read_char" p3) [] [] p4) p5) (ZA doc pm an cda ct loc)) Q E s:=by
 refine Xi λgk=>?_
 obtain ⟨mm,h1,h2,h3⟩:=G.ns
 obtain ⟨ln,lt,m,n,H,e⟩:=G.lex
 refine gk ?_;clear gk
 have hf:=G.fit
 have XK:KK.In s.heap:=C.X.keeps G.ok.base
 have I:InstAt s.heap X.a (instObj cLex X.d) cLex (some (X.dict ln lt m)):=⟨H.a,rfl,rfl,H.d⟩
 refine wpAny_Assign_Name ?_
 rw [arm_eval_Call]
 refine wpAny_bind (wpAny_Name (wpAny_loadName_local rfl rfl h1 h2 (wpAny_bind (wpAny_standAt ?_))))
 have hpos:methodCallPos true (.Name "self" p2) (ZA doc pm an cda ct loc) p3 p4=pure p4:=by unfold methodCallPos;simp [hline]
 unfold methodCall
 refine wpAny_bind (wpAny_holding (JD XK I C.mrc.ga C.mrc.gt C.mrc.hf C.mrc.ht rfl ?_))
 refine wpAny_bind (wpAny_of_eq hpos ?_)
 refine callWith_K0 XK C.mrc.kp (wpAny_call ?_)
 refine Lp P C B.K (OA.mono (by omega)) G.ok H (by omega) λs' v lt' m' n' O' H' k' hv=>?_
 obtain ⟨t,rfl⟩:=hv
 exact Jy B (G.read (ch:=ch) B O' H' (by rw [← e,← Kr d L];show _+nls L=_;omega) k' (by simp at hf;show _+L.length≤_;omega)) q
theorem Cc (C:LexOk W) (B:GtC W s0 X loc it mth us un) {c:Nat} (G:GtS W s0 X loc it mth ts N us un over tok L (some [c]) s) {p1 p2 p3 p4:Pos} {Q:Bool→Shared→Prop} (q:∀ s',GtS W s0 X loc it mth ts N us un over tok L (some [c]) s'→Q (G7 c) s') :
  wpAny (model W.prog W.w) A (isTrue (.Compare (.Name "ch" p1) [.In] [.Attribute (.Name "self" p2) "whitespace" p3] p4) (ZA doc pm an cda ct loc) (eval (.Compare (.Name "ch" p1) [.In] [.Attribute (.Name "self" p2) "whitespace" p3] p4) (ZA doc pm an cda ct loc))) Q E s:=by
 refine Xi λgk=>?_
 refine G.ns.elim λmm zz=>zz.elim λh1 zz=>zz.elim λh2 zz=>zz.elim λh3 zz=>zz.elim λh4 h5=>?_
 refine (h5 _ rfl).elim λtc h6=>?_
 refine G.lex.elim λln zz=>zz.elim λlt zz=>zz.elim λm zz=>zz.elim λn zz=>zz.elim λH e=>?_
 refine gk ?_;clear gk
 have XK:KK.In s.heap:=C.X.keeps G.ok.base
 have I:InstAt s.heap X.a (instObj cLex X.d) cLex (some (X.dict ln lt m)):=⟨H.a,rfl,rfl,H.d⟩
 refine wpAny_isTrue_Compare1 (wpAny_Name (wpAny_loadName_local rfl rfl h1 h6 (Attribute_name (wpAny_Name (wpAny_loadName_local rfl rfl h1 h2 ?_))))) rfl
 refine get_value XK I C.ga (findObj_own C.hasD C.at3 rfl rfl) rfl (SB.contains (wpAny_truthy_bool ?_))
 rw [Lm]
 exact q _ (G.grow (G.ok.tok _) λ__ __ e=>e)
theorem Lk (B:GtC W s0 X loc it mth us un) {c x:Nat} {xs:Str} (hx:xs=toS [x]) (OA:OkA A 5) (G:GtS W s0 X loc it mth ts N us un over tok L (some [c]) s) {p1 p2 p3:Pos} {k:Nat} {Q:Bool→Shared→Prop} (q:∀ s',GtS W s0 X loc it mth ts N us un over tok L (some [c]) s'→Q (c==x) s') :
  wpAny (model W.prog W.w) A (isTrue (.Compare (.Name "ch" p1) [.Eq] [.Constant (.str xs) k p2] p3) (ZA doc pm an cda ct loc) (eval (.Compare (.Name "ch" p1) [.Eq] [.Constant (.str xs) k p2] p3) (ZA doc pm an cda ct loc))) Q E s:=by
 refine Xi λgk=>?_
 refine G.ns.elim λmm zz=>zz.elim λh1 zz=>zz.elim λh2 zz=>zz.elim λh3 zz=>zz.elim λh4 h5=>?_
 refine (h5 _ rfl).elim λtc h6=>?_
 subst hx
 refine gk ?_;clear gk
 refine wpAny_isTrue_Compare1 (wpAny_Name (wpAny_loadName_local rfl rfl h1 h6 (wpAny_Constant_str ?_))) rfl
 refine Vp (OA.mono (by omega)) (G.ok.tok _) λs' O' k'=>wpAny_truthy_bool ?_
 have e:([c]==[x])=(c==x):=by by_cases h:c=x <;> simp [h]
 rw [e]
 exact q s' (G.grow O' k')
end
end
section
set_option tactic.hygienic false
set_option maxHeartbeats 2000000
variable [iO:Own] [iA:OwnA] [iL:OwnL]
open Own OwnA OwnL
noncomputable def BF:Stmt→List Stmt
 | .For _ _ b _ _=>b
 | _=>[]
noncomputable def CF:Stmt→List Stmt
 | .If _ a _ _=>a
 | _=>[]
noncomputable def PP:Stmt→List Stmt
 | .If _ _ b _=>b
 | _=>[]
noncomputable def Up:Stmt:=(V0 14 2).getD 3 (.Pass default)
noncomputable def PE:Stmt:=(CF ((BF Up).getD 1 (.Pass default))).getD 0 (.Pass default)
noncomputable def WE:Stmt:=(PP ((BF Up).getD 1 (.Pass default))).getD 2 (.Pass default)
theorem DA {c:Nat} {r t:List Nat} (h:G7 c=true):Yp (c :: r) t=some (t,r):=by cases r <;> simp [Yp,h]
theorem Rf {c d:Nat} {r t:List Nat} (h:G7 c=false) (h2:c=92):Yp (c :: d :: r) t=Yp r (t++[d]):=by rw [Yp,h,h2];rfl
theorem Rn {c:Nat} {t:List Nat} (h:G7 c=false) (h2:c=92):Yp [c] t=none:=by rw [Yp,h,h2];rfl
theorem MA {c:Nat} {r t:List Nat} (h:G7 c=false) (h2:c≠92):Yp (c :: r) t=Yp r (t++[c]):=by cases r <;> simp [Yp,h,h2]
theorem Fi {c:Nat} {r t:List Nat} (h:c=34):YU (c :: r) t=some (t,r):=by cases r <;> simp [YU,h]
theorem BY {c d:Nat} {r t:List Nat} (h:c≠34) (h2:c=92):YU (c :: d :: r) t=YU r (t++[d]):=by simp [YU,h2]
theorem DI {c:Nat} {t:List Nat} (h:c≠34) (h2:c=92):YU [c] t=none:=by simp [YU,h2]
theorem L9 {c:Nat} {r t:List Nat} (h:c≠34) (h2:c≠92):YU (c :: r) t=YU r (t++[c]):=by cases r <;> simp [YU,h,h2]
theorem Vg:Slot "callable_iterator" "__iter__" "callable_iterator.__iter__":=.of (owner:="callable_iterator") (n:="__iter__") (by rw [typeLookup_type,builtinLookup_eq_fast];kernel_rfl) dk dk dk
  (by first | exact .inl dk | exact .inr dk) (by rw [isSubtype_type];kernel_rfl)
theorem Ni:entryFor table "callable_iterator.__iter__" = some Builtin.«dict_keyiterator.__iter__»:=entryFor_alias (id':="dict_keyiterator.__iter__") (by kernel_rfl) rfl dk (by kernel_rfl)
theorem MR (a:Value):argsOk "callable_iterator.__iter__" ⟨[a],[]⟩:=by unfold argsOk;kernel_rfl
theorem MP {prog:Program} {w:World} {A:Around} {E:Value→Shared→Prop} {s:Shared} {it:Addr} {o:Obj} {Q:Value→Shared→Prop} (hit:s.heap.get? it=some o) (hc:o.cls=.type "callable_iterator") (h:Q (.ref it) s):wpAny (model prog w) A (pyIter (.ref it)) Q E s:=by
 have hT:s.TypeIs (.ref it) "callable_iterator":=⟨_,hit,hc⟩
 refine wpAny_pyIter_slot hT Vg (wpAny_call_entry Vg hT Ni ?_ (MR _))
 show wpAny _ _ (ret (.ref it)) _ _ s
 exact wpAny_pure ⟨_,rfl,"callable_iterator",_,hT,Jx.lookup,h⟩
section
variable {W:Wd} {s0:Shared} {X:LxA} {loc it mth:Addr} {ts:Tok} {N:Int} {us:List Value} {un:Nat} {s:Shared} {A:Around} {E:Value→Shared→Prop} {doc pm ct:Value} {an:Option Addr} {cda:Addr}
theorem VH {over:Bool} {tok:List Nat} {L:List (Nat×Tok)} {ch:Option (List Nat)} (G:GtS W s0 X loc it mth ts N us un over tok L ch s) {p1 p2:Pos} {Q:Flow→Shared→Prop} (q:∀ tk,Q (.ret (.str (toS tok) tk)) s) :
  wpAny (model W.prog W.w) A (exec (.Return (some (.Name "token" p1)) p2) (ZA doc pm an cda ct loc)) Q E s:=by
 refine Xi λgk=>?_
 refine G.ns.elim λmm zz=>zz.elim λh1 zz=>zz.elim λh2 zz=>zz.elim λh3 zz=>zz.elim λqa h5=>?_;obtain ⟨tk,h4⟩:=qa
 refine gk ?_;clear gk
 exact wpAny_Return_some (wpAny_Name (wpAny_loadName_local rfl rfl h1 h4 (q tk)))
theorem UH (P:PW W) (C:LexOk W) (B:GtC W s0 X loc it mth us un) (OA:OkA A 5) {t' R tok:List Nat} {L:List (Nat×Tok)} {ch:Option (List Nat)} (G:GtS W s0 X loc it mth ts N us un false tok L ch s) (hp:Yp (L.map (·.1)) tok=some (t',R)) {Q:Flow→Shared→Prop}
  (qr:∀ s' L' ch' tk,L'.map (·.1)=R→GtS W s0 X loc it mth ts N us un false t' L' ch' s'→Q (.ret (.str (toS t') tk)) s') (qn:∀ s' ch',R=[]→GtS W s0 X loc it mth ts N us un true t' [] ch' s'→Q .next s') :
  wpAny (model W.prog W.w) A (exec WE (ZA doc pm an cda ct loc)) Q E s:=by
 have G':=G
 refine Xi λgk=>?_
 obtain ⟨mm,h1,h2,h3,h4,h5⟩:=G.ns
 refine gk ?_;clear gk
 refine wpAny_For (wpAny_Name (wpAny_loadName_local rfl rfl h1 h3 (MP G.it_ rfl ?_)))
 refine codeAny_forLoop (λk s'=>∃ tok L ch,GtS W s0 X loc it mth ts N us un false tok L ch s'∧Yp (L.map (·.1)) tok=some (t',R)∧k=L.length) (λk s₁ hI=>?_) L.length ⟨tok,L,ch,G',hp,rfl⟩
 refine Xi λgk=>?_
 obtain ⟨tok,L,ch,G,hp,rfl⟩:=hI
 refine gk ?_;clear gk
 cases L with
 | nil=>
  have e:=Prod.mk.inj (Option.some.inj (show some (tok,[])=some (t',R) from hp))
  exact Mr P C B OA G λs' G'=>wpAny_execs_nil (qn s' _ e.2.symm (e.1▸G'))
 | cons c L=>
  have hf:=G.fit
  refine MW P C B OA G λs₂ t G₂=>wpAny_assign_Name (Jy B G₂ λs₃ G₃=>?_)
  have hp:Yp (c.1 :: L.map (·.1)) tok=some (t',R):=hp
  refine gq λNx hN=>?_
  have hr:∀ v s',Q (.ret v) s'→Nx (.ret v) s':=λv s' h=>hN (.ret v) s' h
  have hb:∀ s' tok' L' ch',L'.length<(c :: L).length→GtS W s0 X loc it mth ts N us un false tok' L' ch' s'→Yp (L'.map (·.1)) tok'=some (t',R)→Nx .next s':=λs' tok' L' ch' h1 h2 h3=>hN .next s' ⟨L'.length,h1,tok',L',ch',h2,h3,rfl⟩
  clear hN qn
  refine wpAny_execs_cons (wpAny_If (Cc C B G₃ λs₄ G₄=>?_))
  cases hw:G7 c.1 with
  | true=>
   rw [DA hw] at hp
   have e:=Prod.mk.inj (Option.some.inj hp)
   rw [if_pos rfl]
   exact wpAny_execs_cons (VH G₄ λtk=>hr _ _ (e.1▸qr s₄ L _ tk e.2 (e.1▸G₄)))
  | false=>
   rw [if_neg (by decide)]
   refine wpAny_execs_cons (wpAny_If (Lk B rfl OA G₄ λs₅ G₅=>?_))
   by_cases hc:c.1=92
   ·rw [if_pos (by simpa using hc)]
    cases L with
    | nil=>
     have:Yp [c.1] tok=some (t',R):=hp
     rw [Rn hw hc] at this;cases this
    | cons d L=>
     have hp:Yp (c.1 :: d.1 :: L.map (·.1)) tok=some (t',R):=hp
     rw [Rf hw hc] at hp
     refine wpAny_execs_cons (Rz P C B OA G₅ rfl λs₆ G₆=>wpAny_execs_nil (wpAny_execs_nil ?_))
     refine wpAny_execs_cons (ZL B G₆ (by simp at hf ⊢;omega) λs₇ G₇=>wpAny_execs_nil ?_)
     exact hb _ _ L _ (Nat.lt_succ_of_lt (Nat.lt_succ_self _)) G₇ hp
   ·rw [if_neg (by simpa using hc)]
    rw [MA hw hc] at hp
    refine wpAny_execs_nil (wpAny_execs_nil ?_)
    refine wpAny_execs_cons (ZL B G₅ (by simp at hf ⊢;omega) λs₇ G₇=>wpAny_execs_nil ?_)
    exact hb _ _ L _ (Nat.lt_succ_self _) G₇ hp
end
end
section
set_option tactic.hygienic false
set_option maxHeartbeats 2000000
variable [iO:Own] [iA:OwnA] [iL:OwnL]
open Own OwnA OwnL
section
variable {W:Wd} {s0:Shared} {X:LxA} {loc it mth:Addr} {ts:Tok} {N:Int} {us:List Value} {un:Nat} {s:Shared} {A:Around} {E:Value→Shared→Prop} {doc pm ct:Value} {an:Option Addr} {cda:Addr}
theorem DY (P:PW W) (C:LexOk W) (B:GtC W s0 X loc it mth us un) (OA:OkA A 5) {t' R tok:List Nat} {L:List (Nat×Tok)} {ch:Option (List Nat)} (G:GtS W s0 X loc it mth ts N us un false tok L ch s) (hp:YU (L.map (·.1)) tok=some (t',R)) {Q:Flow→Shared→Prop}
  (qr:∀ s' L' ch' tk,L'.map (·.1)=R→GtS W s0 X loc it mth ts N us un false t' L' ch' s'→Q (.ret (.str (toS t') tk)) s') (qn:∀ s' ch',R=[]→GtS W s0 X loc it mth ts N us un true t' [] ch' s'→Q .next s') :
  wpAny (model W.prog W.w) A (exec PE (ZA doc pm an cda ct loc)) Q E s:=by
 have G':=G
 refine Xi λgk=>?_
 obtain ⟨mm,h1,h2,h3,h4,h5⟩:=G.ns
 refine gk ?_;clear gk
 refine wpAny_For (wpAny_Name (wpAny_loadName_local rfl rfl h1 h3 (MP G.it_ rfl ?_)))
 refine codeAny_forLoop (λk s'=>∃ tok L ch,GtS W s0 X loc it mth ts N us un false tok L ch s'∧YU (L.map (·.1)) tok=some (t',R)∧k=L.length) (λk s₁ hI=>?_) L.length ⟨tok,L,ch,G',hp,rfl⟩
 refine Xi λgk=>?_
 obtain ⟨tok,L,ch,G,hp,rfl⟩:=hI
 refine gk ?_;clear gk
 cases L with
 | nil=>
  have e:=Prod.mk.inj (Option.some.inj (show some (tok,[])=some (t',R) from hp))
  exact Mr P C B OA G λs' G'=>wpAny_execs_nil (qn s' _ e.2.symm (e.1▸G'))
 | cons c L=>
  have hf:=G.fit
  refine MW P C B OA G λs₂ t G₂=>wpAny_assign_Name (Jy B G₂ λs₃ G₃=>?_)
  have hp:YU (c.1 :: L.map (·.1)) tok=some (t',R):=hp
  refine gq λNx hN=>?_
  have hr:∀ v s',Q (.ret v) s'→Nx (.ret v) s':=λv s' h=>hN (.ret v) s' h
  have hb:∀ s' tok' L' ch',L'.length<(c :: L).length→GtS W s0 X loc it mth ts N us un false tok' L' ch' s'→YU (L'.map (·.1)) tok'=some (t',R)→Nx .next s':=λs' tok' L' ch' h1 h2 h3=>hN .next s' ⟨L'.length,h1,tok',L',ch',h2,h3,rfl⟩
  clear hN qn
  refine wpAny_execs_cons (wpAny_If (Lk B rfl OA G₃ λs₄ G₄=>?_))
  by_cases hw:c.1=34
  ·rw [Fi hw] at hp
   have e:=Prod.mk.inj (Option.some.inj hp)
   rw [if_pos (by simpa using hw)]
   exact wpAny_execs_cons (VH G₄ λtk=>hr _ _ (e.1▸qr s₄ L _ tk e.2 (e.1▸G₄)))
  ·rw [if_neg (by simpa using hw)]
   refine wpAny_execs_cons (wpAny_If (Lk B rfl OA G₄ λs₅ G₅=>?_))
   by_cases hc:c.1=92
   ·rw [if_pos (by simpa using hc)]
    cases L with
    | nil=>
     have:YU [c.1] tok=some (t',R):=hp
     rw [DI hw hc] at this;cases this
    | cons d L=>
     have hp:YU (c.1 :: d.1 :: L.map (·.1)) tok=some (t',R):=hp
     rw [BY hw hc] at hp
     refine wpAny_execs_cons (Rz P C B OA G₅ rfl λs₆ G₆=>wpAny_execs_nil (wpAny_execs_nil ?_))
     refine wpAny_execs_cons (ZL B G₆ (by simp at hf ⊢;omega) λs₇ G₇=>wpAny_execs_nil ?_)
     exact hb _ _ L _ (Nat.lt_succ_of_lt (Nat.lt_succ_self _)) G₇ hp
   ·rw [if_neg (by simpa using hc)]
    rw [L9 hw hc] at hp
    refine wpAny_execs_nil (wpAny_execs_nil ?_)
    refine wpAny_execs_cons (ZL B G₅ (by simp at hf ⊢;omega) λs₇ G₇=>wpAny_execs_nil ?_)
    exact hb _ _ L _ (Nat.lt_succ_self _) G₇ hp
theorem Rq (P:PW W) (C:LexOk W) (B:GtC W s0 X loc it mth us un) (OA:OkA A 5) {t' R:List Nat} {L:List (Nat×Tok)} {ch:Option (List Nat)} (G:GtS W s0 X loc it mth ts N us un false [] L ch s) (hp:VG (L.map (·.1))=some (t',R)) {Q:Flow→Shared→Prop}
  (qr:∀ s' L' ch' tk,L'.map (·.1)=R→GtS W s0 X loc it mth ts N us un false t' L' ch' s'→Q (.ret (.str (toS t') tk)) s') (qn:∀ s' ch',R=[]→GtS W s0 X loc it mth ts N us un true t' [] ch' s'→Q .next s') :
  wpAny (model W.prog W.w) A (exec Up (ZA doc pm an cda ct loc)) Q E s:=by
 have G':=G
 refine Xi λgk=>?_
 refine G.ns.elim λmm zz=>zz.elim λh1 zz=>zz.elim λh2 zz=>zz.elim λh3 zz=>zz.elim λh4 h5=>?_
 refine gk ?_;clear gk
 refine wpAny_For (wpAny_Name (wpAny_loadName_local rfl rfl h1 h3 (MP G.it_ rfl ?_)))
 refine codeAny_forLoop (λk s'=>(∃ L ch,GtS W s0 X loc it mth ts N us un false [] L ch s'∧VG (L.map (·.1))=some (t',R)∧k=L.length+1)∨∃ ch,GtS W s0 X loc it mth ts N us un true t' [] ch s'∧R=[]∧k=0) (λk s₁ hI=>?_) (L.length+1) (.inl ⟨L,ch,G',hp,rfl⟩)
 refine Xi λgk=>?_;rcases hI with ⟨L,ch,G,hp,rfl⟩ | ⟨ch,G,hR,rfl⟩ <;> (refine gk ?_;clear gk)
 ·cases L with
  | nil=>
   have e:=Prod.mk.inj (Option.some.inj (show some ([],[])=some (t',R) from hp))
   exact Mr P C B OA G λs' G'=>wpAny_execs_nil (qn s' _ e.2.symm (e.1▸G'))
  | cons c L=>
   have hf:=G.fit
   refine MW P C B OA G λs₂ t G₂=>wpAny_assign_Name (Jy B G₂ λs₃ G₃=>?_)
   have hp:VG (c.1 :: L.map (·.1))=some (t',R):=hp
   rw [show ∀ (c:Nat) r,VG (c :: r)=if G7 c then VG r else if c=34 then YU r [] else if c=92 then (match r with | []=>none | d :: r'=>Yp r' [d]) else Yp r [c] from λ__ __=>rfl] at hp
   refine gq λNx hN=>?_
   have hr:∀ v s',Q (.ret v) s'→Nx (.ret v) s':=λv s' h=>hN (.ret v) s' h
   have hc:∀ s' ch',GtS W s0 X loc it mth ts N us un false [] L ch' s'→VG (L.map (·.1))=some (t',R)→Nx .cont s':=λs' ch' h2 h3=>hN .cont s' ⟨L.length+1,Nat.lt_succ_self _,.inl ⟨L,ch',h2,h3,rfl⟩⟩
   have he:∀ s' ch',GtS W s0 X loc it mth ts N us un true t' [] ch' s'→R=[]→Nx .next s':=λs' ch' h2 h3=>hN .next s' ⟨0,Nat.succ_pos _,.inr ⟨ch',h2,h3,rfl⟩⟩
   clear hN qn
   refine wpAny_execs_cons (wpAny_If (Cc C B G₃ λs₄ G₄=>?_))
   cases hw:G7 c.1 with
   | true=>
    rw [if_pos hw] at hp
    rw [if_pos rfl]
    refine wpAny_execs_cons (wpAny_Continue ?_)
    exact hc _ _ G₄ hp
   | false=>
    rw [if_neg (by rw [hw];decide)] at hp
    rw [if_neg (by decide)]
    refine wpAny_execs_nil ?_
    refine wpAny_execs_cons (wpAny_If (Lk B rfl OA G₄ λs₅ G₅=>?_))
    by_cases hq:c.1=34
    ·rw [if_pos hq] at hp
     rw [if_pos (by simpa using hq)]
     refine wpAny_execs_cons (DY P C B OA G₅ hp (λs' L' ch' tk hL G'=>hr _ _ (qr s' L' ch' tk hL G')) λs' ch' hR G'=>?_)
     exact wpAny_execs_nil (wpAny_execs_nil (he _ _ G' hR))
    ·rw [if_neg hq] at hp
     rw [if_neg (by simpa using hq)]
     refine wpAny_execs_cons (wpAny_If (Lk B rfl OA G₅ λs₆ G₆=>?_))
     by_cases hc:c.1=92
     ·rw [if_pos hc] at hp
      rw [if_pos (by simpa using hc)]
      cases L with
      | nil=>cases hp
      | cons d L=>
       refine wpAny_execs_cons (Rz P C B OA G₆ rfl λs₇ G₇=>wpAny_execs_nil ?_)
       refine wpAny_execs_cons (ZL B G₇ (by simp at hf ⊢;omega) λs₈ G₈=>?_)
       refine wpAny_execs_cons (UH P C B OA G₈ hp (λs' L' ch' tk hL G'=>hr _ _ (qr s' L' ch' tk hL G')) λs' ch' hR G'=>?_)
       exact wpAny_execs_nil (wpAny_execs_nil (he _ _ G' hR))
     ·rw [if_neg hc] at hp
      rw [if_neg (by simpa using hc)]
      refine wpAny_execs_nil ?_
      refine wpAny_execs_cons (ZL B G₆ (by simp at hf ⊢;omega) λs₈ G₈=>?_)
      refine wpAny_execs_cons (UH P C B OA G₈ hp (λs' L' ch' tk hL G'=>hr _ _ (qr s' L' ch' tk hL G')) λs' ch' hR G'=>?_)
      exact wpAny_execs_nil (wpAny_execs_nil (he _ _ G' hR))
 ·exact Ik B OA G λs' G'=>wpAny_execs_nil (qn s' _ hR G')
end
end
section
set_option tactic.hygienic false
set_option maxHeartbeats 2000000
variable [iO:Own] [iA:OwnA] [iL:OwnL]
open Own OwnA OwnL
theorem B1:builtinKind "iter" = none:=by decide +kernel
theorem Ru:plainId "iter" = true:=by decide +kernel
theorem K7:entryFor table "iter" = some Builtin.«iter»:=entryFor_of_fast (by kernel_rfl)
theorem BX (a b:Value):argsOk "iter" ⟨[a,b],[]⟩:=by unfold argsOk;kernel_rfl
theorem RF:bootBuiltins "iter" = some (.builtin "iter"):=by decide +kernel
theorem DF:∃ v,typeLookup (.type "method") "__call__" = pure (some v):=⟨.builtin "method.__call__",by rw [typeLookup_type,builtinLookup_eq_fast];kernel_rfl⟩
theorem K9 {prog:Program} {w:World} {A:Around} {E:Value→Shared→Prop} {s:Shared} {mth:Addr} {f self:Value} {x:Str} {t:Tok} {Q:Value→Shared→Prop} (hm:s.heap.get? mth=some (methodObj f self))
  (q:Q (.ref s.heap.objs.size) { s with heap:=s.heap.push { cls:=.type "callable_iterator",data:=.fields #[.ref mth,.str x t,.bool false] } }):wpAny (model prog w) A (call (.builtin "iter") [.ref mth,.str x t]) Q E s:=by
 refine Calls.call_function_entry B1 Ru K7 (BX _ _) ?_
 unfold Builtin.«iter»
 refine wpAny_bind (wpAny_of_eq (a:=[.ref mth,.str x t]) (by kernel_rfl) ?_)
 dsimp only
 refine DF.elim λv hv=>?_
 have T:Looks (model prog w) s.heap (typeOf (.ref mth)) (.type "method"):=(Looks.ld hm).andThen .now
 refine wpAny_bind (wpAny_bind (T.here (wpAny_of_eq hv ?_)))
 simp only [Option.isNone_some,Bool.false_eq_true,if_false]
 refine wpAny_bind (wpAny_rule ?_)
 exact wpAny_bind (wpAny_newObj_type (wpAny_pure ⟨_,rfl,q⟩))
structure LexGet (W:Wd):Prop where
 gt:MFn fGT "get_token" "_netrclex.get_token" 14 2 [] .none
 rcG:specialIn KK (.ref fRC) "__get__" = some (some (.builtin "function.__get__"))
 rcT:takesIn KK (.ref fRC)=some false
 noGA:findIn KK (.ref cLex) "__getattr__" = some none
section
variable {W:Wd} {s:Shared} {X:LxA} {ln:Int} {lt:Tok} {m:Nat} {us:List Value} {un:Nat} {L:List (Nat×Tok)} {n:Nat} {A:Around} {Q E:Value→Shared→Prop}
theorem Re (C:LexOk W) (D:LexGet W) {o:Obj} (hl:lookIn "_read_char" o=some none):findObj KK cLex (some o) "_read_char" = some (.bind (.builtin "function.__get__") (.ref fRC)):=by
 refine Xi λgk=>?_
 refine C.cd.elim λcd zz=>zz.elim λhc zz=>zz.elim λhm hd=>?_
 refine gk ?_;clear gk
 unfold findObj
 have ho:PySem.W.ownOf cd (some o) "_read_char" = some none:=by unfold PySem.W.ownOf;rw [if_pos hd];exact hl
 rw [hc,Option.bind_some,C.mrc.hf,Option.bind_some]
 simp only [D.rcG,D.rcT,Option.bind_some,ho]
 rfl
theorem WW (P:PW W) (C:LexOk W) (D:LexGet W) (K:LxOk W X) (OA:OkA A 6) (O:Ok0 W s) (H:LexAt s.heap X ln lt m [] un L n) (hL:L.length≤4000) {t' R:List Nat} (hp:VG (L.map (·.1))=some (t',R))
  (q:∀ s' ln' lt' m' L' n' tk,Ok0 W s'→LexAt s'.heap X ln' lt' m' [] un L' n'→L'.map (·.1)=R→ln'+nls L'=ln+nls L→(∀ b o,b≠X.lf→b≠X.d→s.heap.get? b=some o→s'.heap.get? b=some o)→Q (.str (toS t') tk) s') :
  wpAny (model W.prog W.w) A (call (.ref fGT) [.ref X.a]) Q E s:=by
 refine Xi λgk=>?_
 refine D.gt.E λoc ofd sl doc pm an cda ct vs file tf ccl cdd ccs hl hcd hcode hvs hfile=>?_
 refine gk ?_;clear gk
 have XK:KK.In s.heap:=C.X.keeps O.base
 have hroom:A.depth<recursionLimit:=by have:=OA.2.1;omega
 refine wpAny_call (ks_codeAny_call_defAt (binds:=[(("self":Str),Value.ref X.a)]) hroom (XK _ _ hl) rfl (P.glb.nl.keeps λb o e=>O.base b o e) (codeRec_of XK hcd) rfl (BindsTo.of_eq (by kernel_rfl)) (show ∀ x∈(X6 14 2).names,x.2≠.cell by decide +kernel) (by
  intro y hy;rw [List.mem_singleton] at hy;subst hy;show (X6 14 2).names.lookup ("self":Str)=some .local;decide +kernel) (λh₀ hns k0=>?_) rfl rfl rfl)
 refine wpAt_of_wpAny ?_
 refine gq λQ' hQ=>?_
 refine Xi λgk=>?_
 obtain ⟨loc,hloc⟩:∃ loc,loc=s.heap.objs.size:=⟨_,rfl⟩
 refine gk ?_;clear gk
 rw [← hloc] at hns ⊢
 have hlocN:s.heap.get? loc=none:=by rw [hloc];exact XZ _
 have H0:=H.keep k0
 have X0:KK.In h₀:=XK.keeps k0
 have I0:InstAt h₀ X.a (instObj cLex X.d) cLex (some (X.dict ln lt m)):=⟨H0.a,rfl,rfl,H0.d⟩
 have hself:(λz=>List.lookup z ([(("self":Str),Value.ref X.a)]:List (Str×Value)).reverse) ("self":Str)=some (.ref X.a):=rfl
 refine gT (s:=s) (h:=h₀) λtk0=>?_
 show let e:=ZA doc pm an cda ct loc;let A1:=A.deeper e;wpAny (model W.prog W.w) A1 (execs (V0 14 2) e) Q' _ _
 intro ev A1
 refine wpAny_execs_cons (wpAny_If ?_)
 refine isTrue_plain (Attribute_name (wpAny_Name (wpAny_loadName_local rfl rfl hns hself ?_))) (by rfl)
 refine get_value X0 I0 C.ga (findObj_own C.hasD C.at4 rfl rfl) rfl ?_
 refine wpAny_truthy_list (YJ H0.pb) (by simp) ?_
 rw [if_neg (by simp)]
 refine wpAny_execs_nil ?_
 refine wpAny_execs_cons (wpAny_Assign_Name (wpAny_Constant_str (wpAny_storeName_local (env:=ev) rfl hns (λh₁ hn₁ hs₁=>?_) rfl)))
 have k1:∀ b o,s.heap.get? b=some o→h₁.get? b=some o:=λb o e=>hs₁.extBut b o (λe'=>by rw [show b=loc from e',hlocN] at e;cases e) (k0 b o e)
 refine gT (s:=s) (h:=h₁) λtk1=>?_
 have H1:=H.keep k1
 have X1:KK.In h₁:=XK.keeps k1
 have I1:InstAt h₁ X.a (instObj cLex X.d) cLex (some (X.dict ln lt m)):=⟨H1.a,rfl,rfl,H1.d⟩
 refine wpAny_execs_cons (wpAny_Assign_Name (Call_ (Name_function_global rfl rfl (loadGlobal_builtin (P.glb.g.at' λo e=>k1 _ _ (O.base _ _ e)) (P.nob _ dk) (P.glb.b.at' λo e=>k1 _ _ (O.base _ _ e)) ((P.glb.bi _ dk).trans RF) ?_)) rfl))
 refine PyProof.Rows.callWith_builtin1 (args_cons (Attribute_name (wpAny_Name (wpAny_loadName_local rfl rfl hn₁ rfl ?_))) rfl) rfl rfl
 refine get_bind X1 I1 C.ga (Re C D rfl) D.noGA (wpAny_call (PySem.W.fn_get X1 C.mrc.ht ?_))
 refine (show wpAny _ _ (handedOut (.ref h₁.objs.size)) _ _ _ from wpAny_pure ?_)
 have g1:(h₁.push (methodObj (.ref fRC) (.ref X.a))).get? h₁.objs.size=some (methodObj (.ref fRC) (.ref X.a)):=Heap.get?_push_size _ rfl
 refine args_cons (wpAny_Constant_str (args_nil (K9 g1 ?_))) rfl
 refine wpAny_storeName_local (env:=ev) rfl ((hn₁.push _).push _) (λh₂ hn₂ hs₂=>?_) rfl
 have hlt:loc<h₁.objs.size:=by rw [show loc=(ZA doc pm an cda ct loc).locals from rfl];exact hn₁.lt
 have k2:∀ b o,b≠loc→h₁.get? b=some o→h₂.get? b=some o:=λb o hb e=>hs₂.extBut b o hb (Heap.get?_push_of_some _ (Heap.get?_push_of_some _ e))
 have k02:∀ b o,s.heap.get? b=some o→h₂.get? b=some o:=λb o e=>k2 b o (Mine.neA e hlocN) (k1 b o e)
 have fr:∀ a,h₁.objs.size≤a→s.heap.get? a=none:=λa ha=>by
  cases e:s.heap.get? a with
  | none=>rfl
  | some o=>exact absurd (Heap.lt_size (k1 _ _ e)) (Nat.not_lt.mpr ha)
 have hsz:(h₁.push (methodObj (.ref fRC) (.ref X.a))).objs.size=h₁.objs.size+1:=Heap.size_push ..
 have g2:h₂.get? h₁.objs.size=some (methodObj (.ref fRC) (.ref X.a)):=hs₂.extBut _ _ (Nat.ne_of_gt hlt) (Heap.get?_push_of_some _ g1)
 have g3:h₂.get? (h₁.objs.size+1)=some (RW h₁.objs.size _):=hs₂.extBut _ _ (Nat.ne_of_gt (Nat.lt_succ_of_lt hlt)) (by rw [← hsz];exact Heap.get?_push_size _ rfl)
 refine gT (s:=s) (h:=h₂) λtk2=>?_
 have B:GtC W s X loc (h₁.objs.size+1) h₁.objs.size [] un:=⟨K,⟨ln,lt,m,L,n,H⟩,O,hlocN,fr _ (Nat.le_succ _),fr _ (Nat.le_refl _),Nat.ne_of_lt (Nat.lt_succ_of_lt hlt),Nat.ne_of_lt hlt,Nat.succ_ne_self _⟩
 have G:∀ tk,GtS W s X loc (h₁.objs.size+1) h₁.objs.size _ (ln+nls L) [] un false [] L none { s with heap:=h₂,toks:=tk }:=λtk=>
  ⟨Zi (λb o e=>k02 b o (O.base b o e)) O.gens O.os,⟨ln,lt,m,n,H.keep k02,rfl⟩,λb o __ __ e=>k02 b o e,⟨_,hn₂,rfl,(by
   show (if ("fiter":Str)=("fiter":Str) then some (Value.ref (h₁.push (methodObj (.ref fRC) (.ref X.a))).objs.size) else _)=_
   rw [if_pos rfl,hsz]),⟨_,rfl⟩,λc h=>by cases h⟩,g3,g2,by simp;omega⟩
 have OA':OkA (A.deeper (ZA doc pm an cda ct loc)) 5:=OkA.deeper OA _
 refine wpAny_execs_cons ?_
 show wpAny _ _ (exec Up ev) _ _ _
 refine Rq P C B OA' (G _) hp (λs' L' ch' tk hR' G'=>?_) λs' ch' hR' G'=>?_
 ·obtain ⟨ln',lt',m',n',H',e⟩:=G'.lex
  exact hQ _ _ (q s' ln' lt' m' L' n' tk G'.ok H' hR' e G'.keep)
 ·obtain ⟨ln',lt',m',n',H',e⟩:=G'.lex
  exact wpAny_execs_cons (VH G' λtk=>hQ _ _ (q s' ln' lt' m' [] n' tk G'.ok H' hR'.symm e G'.keep))
theorem TL (P:PW W) (C:LexOk W) (D:LexGet W) (K:LxOk W X) {v:Value} (OA:OkA A 6) (O:Ok0 W s) (H:LexAt s.heap X ln lt m (v :: us) un L n) (hU:us.length≤4000)
  (q:∀ s' un',Ok0 W s'→LexAt s'.heap X ln lt m us un' L n→(∀ b o,b≠X.pb→s.heap.get? b=some o→s'.heap.get? b=some o)→Q v s') :
  wpAny (model W.prog W.w) A (call (.ref fGT) [.ref X.a]) Q E s:=by
 refine Xi λgk=>?_
 refine D.gt.E λoc ofd sl doc pm an cda ct vs file tf ccl cdd ccs hl hcd hcode hvs hfile=>?_
 refine gk ?_;clear gk
 have XK:KK.In s.heap:=C.X.keeps O.base
 have hroom:A.depth<recursionLimit:=by have:=OA.2.1;omega
 refine wpAny_call (ks_codeAny_call_defAt (binds:=[(("self":Str),Value.ref X.a)]) hroom (XK _ _ hl) rfl (P.glb.nl.keeps λb o e=>O.base b o e) (codeRec_of XK hcd) rfl (BindsTo.of_eq (by kernel_rfl)) (show ∀ x∈(X6 14 2).names,x.2≠.cell by decide +kernel) (by
  intro y hy;rw [List.mem_singleton] at hy;subst hy;show (X6 14 2).names.lookup ("self":Str)=some .local;decide +kernel) (λh₀ hns k0=>?_) rfl rfl rfl)
 refine wpAt_of_wpAny ?_;refine gq λQ' hQ=>?_
 refine Xi λgk=>?_
 obtain ⟨loc,hloc⟩:∃ loc,loc=s.heap.objs.size:=⟨_,rfl⟩
 refine gk ?_;clear gk
 rw [← hloc] at hns ⊢
 have H0:=H.keep k0
 have X0:KK.In h₀:=XK.keeps k0
 have I0:InstAt h₀ X.a (instObj cLex X.d) cLex (some (X.dict ln lt m)):=⟨H0.a,rfl,rfl,H0.d⟩
 have hself:(λz=>List.lookup z ([(("self":Str),Value.ref X.a)]:List (Str×Value)).reverse) ("self":Str)=some (.ref X.a):=rfl
 refine wpAny_execs_cons (wpAny_If ?_)
 refine isTrue_plain (Attribute_name (wpAny_Name (wpAny_loadName_local rfl rfl hns hself ?_))) (by rfl)
 refine get_value X0 I0 C.ga (findObj_own C.hasD C.at4 rfl rfl) rfl ?_
 refine wpAny_truthy_list (YJ H0.pb) (by rw [List.size_toArray,List.length_cons];omega) ?_
 rw [if_pos (by simp)]
 refine wpAny_execs_cons (wpAny_Return_some ?_)
 refine wpAny_Call_method1_late rfl rfl rfl (Attribute_name (wpAny_Name (wpAny_loadName_local rfl rfl hns hself ?_)))
 refine get_value X0 I0 C.ga (findObj_own C.hasD C.at4 rfl rfl) rfl ?_
 refine ⟨"list","list.pop",PySem.F.plainAttrs_list,PySem.F.slot_list_pop,PySem.F.type_list_pop,(YJ H0.pb).typeIs,λa e=>(by cases e;exact ⟨_,H0.pb,rfl⟩),?_⟩
 refine callWith_builtin rfl (evalArgs_plain (spliced_cons (wpAny_Constant_int (spliced_nil ?_))))
 refine NY (v:=v) (vs:=us) H0.pb (by omega) λh₄ n₄ e₄ k₄=>?_
 have k4:∀ b o,b≠X.pb→h₀.get? b=some o→h₄.get? b=some o:=λb o hb e=>(k₄ b hb).trans e
 refine hQ _ _ ?_;refine q _ n₄ (Zi (λb o e=>k4 b o (Mine.neA e (K.low _ (by simp [LxA.all]))) (k0 _ _ (O.base b o e))) O.gens O.os) (H0.setP K e₄ k4) λb o hb e=>k4 b o hb (k0 _ _ e)
end
end
section
set_option tactic.hygienic false
open PySem PyProof.Rows PySem.W PySem.Calls Builtin Builtin.List
set_option maxHeartbeats 2000000
variable [iO:Own] [iA:OwnA] [iL:OwnL]
open Own OwnA OwnL
section
variable {prog:Program} {w:World} {A:Around} {E:Value→Shared→Prop} {s:Shared} {l:Addr} {v:Value} {vs:List Value} {n:Nat}
theorem Km {Q:Value→Shared→Prop} (hl:s.heap.get? l=some (XR vs n)) (hfit:vs.length≤4096)
  (q:∀ h' n',h'.get? l=some (XR (vs++[v]) n')→(∀ b,b≠l→h'.get? b=s.heap.get? b)→Q .none { s with heap:=h' }):wpAny (model prog w) A (call (.builtin "list.append") [.ref l,v]) Q E s:=by
 refine wpAny_call_entry slot_list_append (YJ hl).typeIs entry_list_append ?_ (by unfold argsOk;kernel_rfl)
 unfold Builtin.«list.append»
 refine wpAny_bind (wpAny_of_eq (a:=(.ref l,v)) (by kernel_rfl) ?_)
 dsimp only
 refine wpAny_bind (m:=Builtin.List.listUpdate (.ref l) _) ?_
 show wpAny _ _ (updateSeq l _) _ _ _
 have f4:vs.toArray.push v=(vs++[v]).toArray:=by simp
 refine wpAny_updateSeq hl rfl ?_ (by rw [List.size_toArray,sizeLine_eq];omega) (by rw [f4,List.size_toArray,List.length_append,sizeLine_eq];simp;omega)
 refine wpAny_pure ?_
 have f6:∃ n',Obj.mapSeq (λx=>x.push v) (XR vs n)=XR (vs++[v]) n':=by
  unfold Obj.mapSeq
  dsimp only
  rw [f4]
  exact ⟨_,rfl⟩
 obtain ⟨n',f6⟩:=f6
 exact ⟨_,rfl,q _ n' (by rw [Heap.get?_update_self _ hl (by rw [f6];rfl),f6]) λb hb=>Heap.get?_update_other _ _ (Ne.symm hb)⟩
end
structure LexPush (W:Wd):Prop where
 pt:MFn fPT "push_token" "_netrclex.push_token" 14 3 [] .none
section
variable {W:Wd} {s:Shared} {X:LxA} {ln:Int} {lt:Tok} {m:Nat} {us:List Value} {un:Nat} {L:List (Nat×Tok)} {n:Nat} {A:Around} {Q E:Value→Shared→Prop}
theorem Ir (P:PW W) (C:LexOk W) (D:LexPush W) (K:LxOk W X) {v:Value} (OA:OkA A 3) (O:Ok0 W s) (H:LexAt s.heap X ln lt m us un L n) (hU:us.length≤4000)
  (q:∀ s' un',Ok0 W s'→LexAt s'.heap X ln lt m (us++[v]) un' L n→(∀ b o,b≠X.pb→s.heap.get? b=some o→s'.heap.get? b=some o)→Q .none s') :
  wpAny (model W.prog W.w) A (call (.ref fPT) [.ref X.a,v]) Q E s:=by
 refine Xi λgk=>?_
 refine D.pt.E λoc ofd sl doc pm an cda ct vs file tf ccl cdd ccs hl hcd hcode hvs hfile=>?_
 refine gk ?_;clear gk
 have XK:KK.In s.heap:=C.X.keeps O.base
 have hroom:A.depth<recursionLimit:=by have:=OA.2.1;omega
 refine wpAny_call (ks_codeAny_call_defAt (binds:=[(("self":Str),Value.ref X.a),(("token":Str),v)]) hroom (XK _ _ hl) rfl (P.glb.nl.keeps λb o e=>O.base b o e) (codeRec_of XK hcd) rfl (BindsTo.of_eq (by kernel_rfl)) (show ∀ x∈(X6 14 3).names,x.2≠.cell by decide +kernel) (by
  intro y hy
  rcases List.mem_cons.mp hy with rfl | hy
  ·show (X6 14 3).names.lookup ("self":Str)=some .local;decide +kernel
  ·rw [List.mem_singleton] at hy;subst hy;show (X6 14 3).names.lookup ("token":Str)=some .local;decide +kernel) (λh₀ hns k0=>?_) rfl rfl rfl)
 refine wpAt_of_wpAny ?_;refine gq λQ' hQ=>?_
 refine Xi λgk=>?_
 obtain ⟨loc,hloc⟩:∃ loc,loc=s.heap.objs.size:=⟨_,rfl⟩
 refine gk ?_;clear gk
 rw [← hloc] at hns ⊢
 have H0:=H.keep k0
 have X0:KK.In h₀:=XK.keeps k0
 have I0:InstAt h₀ X.a (instObj cLex X.d) cLex (some (X.dict ln lt m)):=⟨H0.a,rfl,rfl,H0.d⟩
 have hself:(λz=>List.lookup z ([(("self":Str),Value.ref X.a),(("token":Str),v)]:List (Str×Value)).reverse) ("self":Str)=some (.ref X.a):=rfl
 have htok:(λz=>List.lookup z ([(("self":Str),Value.ref X.a),(("token":Str),v)]:List (Str×Value)).reverse) ("token":Str)=some v:=rfl
 refine wpAny_execs_cons (wpAny_Expr ?_ rfl rfl)
 refine wpAny_Call_method1_late rfl rfl rfl (Attribute_name (wpAny_Name (wpAny_loadName_local rfl rfl hns hself ?_)))
 refine get_value X0 I0 C.ga (findObj_own C.hasD C.at4 rfl rfl) rfl ?_
 refine ⟨"list","list.append",PySem.F.plainAttrs_list,slot_list_append,type_list_append,(YJ H0.pb).typeIs,λa e=>(by cases e;exact ⟨_,H0.pb,rfl⟩),?_⟩
 refine callWith_builtin rfl (evalArgs_plain (spliced_cons (wpAny_Name (wpAny_loadName_local rfl rfl hns htok (spliced_nil ?_)))))
 refine Km (v:=v) (vs:=us) H0.pb (by omega) λh₄ n₄ e₄ k₄=>?_
 have k4:∀ b o,b≠X.pb→h₀.get? b=some o→h₄.get? b=some o:=λb o hb e=>(k₄ b hb).trans e
 refine wpAny_execs_nil ?_
 refine hQ _ _ ?_;exact q _ n₄ (Zi (λb o e=>k4 b o (Mine.neA e (K.low _ (by simp [LxA.all]))) (k0 _ _ (O.base b o e))) O.gens O.os) (H0.setP K e₄ k4) λb o hb e=>k4 b o hb (k0 _ _ e)
end
end
section
set_option tactic.hygienic false
set_option maxHeartbeats 2000000
variable [iO:Own] [iA:OwnA] [iL:OwnL]
open Own OwnA OwnL
noncomputable def GF:List (List Nat)→List Nat→Prop
 | [],L=>L=[]
 | t :: ts,L=>∃ R,VG L=some (t,R)∧GF ts R
noncomputable def JG (X:LxA) (ln:Int) (lt:Tok) (m:Nat) (us:List Value) (un:Nat) (L:List (Nat×Tok)) (n:Nat):List (Addr×Obj):=
 [(X.a,instObj cLex X.d),(X.d,X.dict ln lt m),(X.pb,XR us un),(X.lf,XR (Zq L) n),(X.fs,⟨.type "function",some X.fsd,.func X.st,X.ssl⟩),
  (X.fsd,dictOf [⟨X.hr,.str "read" X.kr,.ref X.fr⟩] X.mr),(X.fr,⟨.type "function",none,.func (UX X.cl (.ref X.cr) X.rct X.rpm),X.rsl⟩),(X.cl,X.celO),(X.cr,X.cro)]
structure LxS (X:LxA):Prop where
 nodup:X.all.Nodup
 cel:X.celO.data=.cell (some (.ref X.lf))
 code:∀ h:Heap,h.get? X.cr=some X.cro→h.CodeRec (.ref X.cr) "_law_stream.<locals>.read"
noncomputable def Cn (toks:List (List Nat)) (line:Int) (us:List Value) (as:List (Addr×Obj)):Prop:=
 ∃ X ln lt m un L n,LxS X∧as=JG X ln lt m us un L n∧GF toks (L.map (·.1))∧ln+nls L=line∧L.length≤4000
structure LexSh:Prop where
 sh:∀ t p l as us xs,Own.shx (.lex t p l) as us xs↔xs=p∧Cn t l us as
theorem Jr {h:Heap} {X:LxA} {ln lt m us un L n}:(∀ p∈JG X ln lt m us un L n,h.get? p.1=some p.2)↔LexAt h X ln lt m us un L n:=by
 unfold JG
 constructor
 ·intro H
  simp only [List.mem_cons,List.not_mem_nil,or_false,forall_eq_or_imp,forall_eq] at H
  refine H.elim λa zz=>zz.elim λb zz=>zz.elim λc zz=>zz.elim λd zz=>zz.elim λe zz=>zz.elim λf zz=>zz.elim λg zz=>zz.elim λi j=>?_
  exact ⟨a,b,c,d,e,f,g,i,j⟩
 ·intro H
  simp only [List.mem_cons,List.not_mem_nil,or_false,forall_eq_or_imp,forall_eq]
  exact ⟨H.a,H.d,H.pb,H.lf,H.fs,H.fsd,H.fr,H.cl,H.cr⟩
theorem LQ {o:MO} {k:List (List Nat)→List MV→Int→Prop} (h:DH o k):∃ t p n,o=.lex t p n∧k t p n:=by cases o <;> first | exact ⟨_,_,_,rfl,h⟩ | exact h.elim
theorem Gk {o:MO} {k:List (List Nat)→List MV→Int→Prop} (h:DH o k) {C':Prop} (f':∀ t p n,o=.lex t p n→k t p n→C'):C':=by refine (LQ h).elim λt zz=>zz.elim λp zz=>zz.elim λn zz=>zz.elim λq0 q1=>?_;exact f' t p n q0 q1
noncomputable def J2 (x:MV) (h:H) (k:K):Prop:=YT x λi=>ZD h i λo=>DH o λs p n=>ifB (Nat.ble (len p) 4000) (@List.rec MV (λ__=>Prop)
 (@List.rec (List Nat) (λ__=>Prop) False (λt r __=>T5 (.lex r [] n) h i λh'=>k (.str t) h') s) (λy r __=>T5 (.lex s r n) h i λh'=>k y h') p) False
noncomputable def Ml (x y:MV) (h:H) (k:K):Prop:=YT x λi=>ZD h i λo=>DH o λs p n=>ifB (Nat.ble (len p) 4000) (Zo (p++[y]) λp'=>T5 (.lex s p' n) h i λh'=>k .none h') False
theorem JK:∀ (L t t' R:List Nat),Yp L t=some (t',R)→R.length≤L.length
 | [],t,t',R,h=>by cases h;exact Nat.le_refl _
 | [c],t,t',R,h=>by
  unfold Yp at h
  split at h
  ·cases h;simp
  ·split at h
   ·cases h
   ·cases h;simp
 | c :: d :: r,t,t',R,h=>by
  unfold Yp at h
  split at h
  ·cases h;simp
  ·split at h
   ·have:=JK _ _ _ _ h;simp;omega
   ·have:=JK _ _ _ _ h;simp at this ⊢;omega
theorem VD:∀ (L t t' R:List Nat),YU L t=some (t',R)→R.length≤L.length
 | [],t,t',R,h=>by cases h;exact Nat.le_refl _
 | [c],t,t',R,h=>by
  unfold YU at h
  split at h
  ·cases h;simp
  ·split at h
   ·cases h
   ·cases h;simp
 | c :: d :: r,t,t',R,h=>by
  unfold YU at h
  split at h
  ·cases h;simp
  ·split at h
   ·have:=VD _ _ _ _ h;simp;omega
   ·have:=VD _ _ _ _ h;simp at this ⊢;omega
theorem Lr:∀ (L t' R:List Nat),VG L=some (t',R)→R.length≤L.length
 | [],t',R,h=>by cases h;exact Nat.le_refl _
 | c :: r,t',R,h=>by
  revert h
  show (if G7 c then VG r else if c=34 then YU r [] else if c=92 then (match r with | []=>none | d :: r'=>Yp r' [d]) else Yp r [c])=some (t',R)→_
  intro h'
  split at h'
  ·have:=Lr _ _ _ h';simp;omega
  ·split at h'
   ·have:=VD _ _ _ _ h';simp;omega
   ·split at h'
    ·split at h'
     ·cases h'
     ·have:=JK _ _ _ _ h';simp;omega
    ·have:=JK _ _ _ _ h';simp;omega
section
variable {W:Wd} {ctx:List Bd} {b:Nat}
theorem FC {ρ:Rho} {s:Shared} {u:Value} {i n:Nat} {l:List (Nat×MO)} {t:List (List Nat)} {p:List MV} {line:Int} (S:LexSh) (O:Ok W ρ (.mk n l) s) (hl:lk l i=some (.lex t p line)) (hu:VR ρ s.heap u (.ref i)) :
  ∃ X ln lt m us un L n,u=.ref X.a∧ρ (i+1)=X.all∧LexAt s.heap X ln lt m us un L n∧LxS X∧LxOk W X∧VRs ρ s.heap us p∧GF t (L.map (·.1))∧ln+nls L=line∧L.length≤4000:=by
 obtain ⟨a,F,qa,e⟩:=hu.refI;clear hu;subst qa
 refine Xi λgk=>?_
 obtain ⟨as,us,xs',e1,n1,g1,r1,S1⟩:=O.hr.obj n l rfl i _ hl
 clear hl n1;obtain ⟨rfl,X,ln,lt,m,un,L,n',K,rfl,hr,hn,hz⟩:=(S.sh _ _ _ _ _ _).mp S1
 refine gk ?_;clear gk
 have e2:ρ (i+1)=X.all:=e1
 rw [e] at e2
 have ea:a=X.a:=by injection e2
 refine ⟨X,ln,lt,m,us,un,L,n',by rw [ea],e1,Jr.mp g1,K,⟨K.nodup,K.cel,K.code,λb hb=>O.hr.base b ⟨i+1,by rw [show ρ (i+1)=X.all from e1];exact hb⟩⟩,r1,hr,hn,hz⟩
theorem Ut {ρ:Rho} {s:Shared} {u:Value} {i n:Nat} {l:List (Nat×MO)} {t:List (List Nat)} {p:List MV} {line:Int} (S:LexSh) (O:Ok W ρ (.mk n l) s) (hl:lk l i=some (.lex t p line)) (hu:VR ρ s.heap u (.ref i)) {C':Prop} (f':∀ X ln lt m us un L n,u=.ref X.a→ρ (i+1)=X.all→LexAt s.heap X ln lt m us un L n→LxS X→LxOk W X→VRs ρ s.heap us p→GF t (L.map (·.1))→ln+nls L=line→L.length≤4000→C'):C':=by refine (FC S O hl hu).elim λX zz=>zz.elim λln zz=>zz.elim λlt zz=>zz.elim λm zz=>zz.elim λus zz=>zz.elim λun zz=>zz.elim λL zz=>zz.elim λn zz=>zz.elim λq0 zz=>zz.elim λq1 zz=>zz.elim λq2 zz=>zz.elim λq3 zz=>zz.elim λq4 zz=>zz.elim λq5 zz=>zz.elim λq6 zz=>zz.elim λq7 q8=>?_;exact f' X ln lt m us un L n q0 q1 q2 q3 q4 q5 q6 q7 q8
theorem UD {ρ:Rho} {s s':Shared} {i n:Nat} {l l':List (Nat×MO)} {o₀:MO} {X:LxA} {t:List (List Nat)} {p:List MV} {line ln:Int} {lt:Tok} {m un n':Nat} {us:List Value} {L:List (Nat×Tok)} (S:LexSh) (O:Ok W ρ (.mk n l) s) (hl:lk l i=some o₀) (hρ:ρ (i+1)=X.all)
  (hs:∀ j,lk l' j=if j=i then (lk l i).map λ__=>.lex t p line else lk l j) (O0:Ok0 W s') (H:LexAt s'.heap X ln lt m us un L n') (k:∀ b o,b ∉ X.all→s.heap.get? b=some o→s'.heap.get? b=some o) (K:LxS X) (r:VRs ρ s.heap us p) (hr:GF t (L.map (·.1))) (hn:ln+nls L=line) (hz:L.length≤4000) :
  Ok W ρ (.mk n l') s'∧Ext ρ ρ s.heap s'.heap:=by
 have X0:Ext ρ ρ s.heap s'.heap:=.of_keep (λb o e n=>k b o (λz=>n ⟨i+1,by rw [hρ];exact z⟩) e) λb hb o e=>k b o (λz=>by have:=O.hr.disj 0 (i+1) b hb (by rw [hρ];exact z);omega) e
 obtain ⟨O',X'⟩:=O.setObj (t:=0) (h':=s'.heap) (o:=.lex t p line) hl hs (λb o hb e=>k b o (by rw [← hρ];exact hb) e) (by
  rw [hρ]
  exact ⟨JG X ln lt m us un L n',us,p,rfl,by unfold JG;simp,Jr.mpr H,r.ext X0,(S.sh _ _ _ _ _ _).mpr ⟨rfl,X,ln,lt,m,un,L,n',K,rfl,hr,hn,hz⟩⟩)
 exact ⟨⟨O'.hr,O'.base,O0.gens,O0.os⟩,X'⟩
theorem Dw {ρ:Rho} {s s':Shared} {i n:Nat} {l l':List (Nat×MO)} {o₀:MO} {X:LxA} {t:List (List Nat)} {p:List MV} {line ln:Int} {lt:Tok} {m un n':Nat} {us:List Value} {L:List (Nat×Tok)} (S:LexSh) (O:Ok W ρ (.mk n l) s) (hl:lk l i=some o₀) (hρ:ρ (i+1)=X.all)
  (hs:∀ j,lk l' j=if j=i then (lk l i).map λ__=>.lex t p line else lk l j) (O0:Ok0 W s') (H:LexAt s'.heap X ln lt m us un L n') (k:∀ b o,b ∉ X.all→s.heap.get? b=some o→s'.heap.get? b=some o) (K:LxS X) (r:VRs ρ s.heap us p) (hr:GF t (L.map (·.1))) (hn:ln+nls L=line) (hz:L.length≤4000) {C':Prop} (f':Ok W ρ (.mk n l') s'→Ext ρ ρ s.heap s'.heap→C'):C':=by refine (UD S O hl hρ hs O0 H k K r hr hn hz).elim λq0 q1=>?_;exact f' q0 q1
theorem Le (P:PW W) (C:LexOk W) (D:LexGet W) (S:LexSh):BC W 6 J2 (.ref fGT):=λA ρ σ s x u K Q E OA hu O m q=>by
 refine Xi λgk=>?_
 obtain ⟨i,rfl,m1⟩:=Gi m
 clear m;obtain ⟨n,l,o,rfl,hl,m2⟩:=Vn m1
 obtain ⟨t,p,line,rfl,m3⟩:=LQ m2
 refine gk ?_;clear gk
 refine Xi λgk=>?_;rcases Xo m3 with ⟨hf,m4⟩ | ⟨_,m4⟩ <;> (refine gk ?_;clear gk)
 ·obtain ⟨X,ln,lt,mm,us,un,L,nn,rfl,hρ,H,Ks,Kx,r,hr,hn,hz⟩:=FC S O hl hu
  have hfit:us.length≤4000:=by
   have:=Nat.le_of_ble_eq_true hf
   rw [Yh,← r.length] at this
   exact this
  cases r with
  | nil=>
   cases t with
   | nil=>exact (show False from m4).elim
   | cons t ts=>
    refine Xi λgk=>?_
    obtain ⟨R,h1,h2⟩:=hr
    obtain ⟨l',m',hs⟩:=ZQ (show setL (.lex ts [] line) l i λl'=>K (.str t) (.mk n l') from m4)
    refine gk ?_;clear gk
    refine WW P C D Kx OA O.zero H hz h1 λs' ln' lt' m2 L' n2 tk O0 H' hR hN k=>?_
    obtain ⟨O',X'⟩:=UD S O hl hρ hs O0 H' (λb o hb e=>k b o (λz=>hb (by rw [z];simp [LxA.all])) (λz=>hb (by rw [z];simp [LxA.all])) e) Ks .nil (by rw [hR];exact h2) (by rw [hN,hn]) (by
     have e1:∀ L t' R,VG L=some (t',R)→R.length≤L.length:=Lr
     have e2:=e1 _ _ _ h1
     rw [← hR] at e2
     simp at e2;omega)
    exact q _ _ ρ _ _ m' (.str _ _) O' X'
  | @cons v y us p hv r=>
   refine Xi λgk=>?_
   obtain ⟨l',m',hs⟩:=ZQ (show setL (.lex t p line) l i λl'=>K y (.mk n l') from m4)
   refine gk ?_;clear gk
   refine TL P C D Kx OA O.zero H (by simp at hfit;omega) λs' un' O0 H' k=>?_
   obtain ⟨O',X'⟩:=UD S O hl hρ hs O0 H' (λb o hb e=>k b o (λz=>hb (by rw [z];simp [LxA.all])) e) Ks r hr hn hz
   exact q _ _ ρ _ _ m' (hv.ext X') O' X'
 ·exact m4.elim
theorem DN (P:PW W) (C:LexOk W) (D:LexPush W) (S:LexSh) {A:Around} {ρ:Rho} {σ:H} {s:Shared} {x y:MV} {u v:Value} {K:MV→H→Prop} {Q E:Value→Shared→Prop} (OA:OkA A 3) (hu:VR ρ s.heap u x) (hv:VR ρ s.heap v y) (O:Ok W ρ σ s) (m:Ml x y σ K) (q:Nc W ρ s K Q) :
  wpAny (model W.prog W.w) A (call (.ref fPT) [u,v]) Q E s:=by
 refine Xi λgk=>?_
 refine XT m λi qa m1=>?_;clear m;subst qa
 refine XU m1 λn l o qa hl m2=>?_;clear m1;subst qa
 refine Gk m2 λt p line qa m3=>?_;clear m2;subst qa
 refine gk ?_;clear gk
 refine Xi λgk=>?_;rcases Xo m3 with ⟨hf,m4⟩ | ⟨_,m4⟩ <;> (refine gk ?_;clear gk)
 ·refine Ut S O hl hu λX ln lt mm us un L nn qa hρ H Ks Kx r hr hn hz=>?_;clear hu;subst qa
  have hfit:us.length≤4000:=by
   have:=Nat.le_of_ble_eq_true hf
   rw [Yh,← r.length] at this
   exact this
  rw [Yw] at m4
  refine Xi λgk=>?_
  refine VI (show setL (.lex t (p++[y]) line) l i λl'=>K .none (.mk n l') from m4) λl' m' hs=>?_
  refine gk ?_;clear gk
  refine Ir P C D Kx OA O.zero H hfit λs' un' O0 H' k=>?_
  refine Dw S O hl hρ hs O0 H' (λb o hb e=>k b o (λz=>hb (by rw [z];simp [LxA.all])) e) Ks (r.append (.cons hv .nil)) hr hn hz λO' X'=>?_
  exact q _ _ ρ _ _ m' .none O' X'
 ·exact m4.elim
end
end
section
set_option tactic.hygienic false
set_option maxHeartbeats 2000000
variable [iO:Own] [iA:OwnA] [iL:OwnL]
open Own OwnA OwnL
noncomputable def FE (f:MV→MV→H→K→Prop) (m₁ m₂:Ev):Ev:=λvs h k=>m₁ vs h λx h1=>YT x λi=>ZD h1 i λo=>DH o λ__ __ __=>m₂ vs h1 λy h2=>f x y h2 k
section
variable {W:Wd} {ctx:List Bd} {b:Nat}
theorem Ge (P:PW W) (C:LexOk W) (D:LexGet W) (S:LexSh) (M:Meth cLex "get_token" fGT) (hb:6≤b) {m₁:Ev} {o:Expr} {apos pos} (h:XD W ctx b m₁ o) (hbase:∀ env,attributeBase o "get_token" env (eval o env)=eval o env:=by intro _;rfl) (hline:(apos.endLine==pos.line)=true:=by rfl) :
  XD W ctx b (e1 J2 m₁) (.Call (.Attribute o "get_token" apos) [] [] pos):=
 JR C.X M (Le P C D S) hb (λρ σ s x u k hu O m=>by
  refine Xi λgk=>?_
  refine XT m λi qa m1=>?_;clear m;subst qa
  refine XU m1 λn l o qa hl m2=>?_;clear m1;subst qa
  refine Gk m2 λt p line qa m3=>?_;clear m2;subst qa
  refine Ut S O hl hu λX ln lt mm us un L nn qa hρ H Ks Kx r hr hn hz=>?_;clear hu;subst qa
  refine gk ?_;clear gk
  exact ⟨X.a,_,some _,rfl,⟨H.a,rfl,rfl,H.d⟩,rfl⟩) h hbase hline
theorem NM (P:PW W) (C:LexOk W) (D:LexPush W) (S:LexSh) (M:Meth cLex "push_token" fPT) (hb:3≤b) {m₁ m₂:Ev} {o e:Expr} {apos pos} (h:XD W ctx b m₁ o) (h':XD W ctx b m₂ e)
  (hbase:∀ env,attributeBase o "push_token" env (eval o env)=eval o env:=by intro _;rfl) (hline:(apos.endLine==pos.line)=true:=by rfl) (he:∀ env,backTo pos (starEach [e] env)=[(false,eval e env)]:=by intro _;rfl) (he2:∀ env,starEach [e] env=(false,eval e env) :: starEach [] env:=by intro _;rfl) :
  XD W ctx b (FE Ml m₁ m₂) (.Call (.Attribute o "push_token" apos) [e] [] pos):=λA env ρ σ vs s K Q E OA F O m q=>by
 rw [arm_eval_Call,hbase]
 refine wpAny_bind (h A env ρ σ vs s _ _ _ OA F O m λu x ρ₁ σ₁ s₁ k₁ v₁ O₁ X₁=>wpAny_bind (wpAny_standAt ?_))
 refine Xi λgk=>?_
 refine XT k₁ λi qa m1=>?_;clear k₁;subst qa
 refine XU m1 λn l ob qa hl m2=>?_;clear m1;subst qa
 refine Gk m2 λt p line qa m3=>?_;clear m2;subst qa
 refine Ut S O₁ hl v₁ λX ln lt mm us un L nn qa hρ H Ks Kx r hr hn hz=>?_;subst qa
 refine gk ?_;clear gk
 have XK:KK.In s₁.heap:=C.X.keeps O₁.base
 have I:InstAt s₁.heap X.a (instObj cLex X.d) cLex (some (X.dict ln lt mm)):=⟨H.a,rfl,rfl,H.d⟩
 have hpos:methodCallPos true o env apos pos=pure pos:=by unfold methodCallPos;simp [hline]
 have hform:methodCallForm (([e]:List Expr).length+([]:List Keyword).length) (backTo pos (starEach [e] env)) (backToKw pos (keywordEach [] env))=true:=by rw [he env];rfl
 unfold methodCall
 rw [hform]
 refine wpAny_bind (wpAny_holding (JD XK I M.ga M.gt M.hf M.ht rfl ?_))
 refine wpAny_bind (wpAny_of_eq hpos ?_)
 refine callWith_K (he:=he2 env) XK M.kp ?_
 rw [he env]
 refine spliced_cons (h' A env ρ₁ _ vs s₁ _ _ _ OA (F.ext X₁) O₁ m3 λv y ρ₂ σ₂ s₂ k₂ v₂ O₂ X₂=>spliced_nil ⟨C.X.keeps O₂.base,?_⟩)
 exact DN P C D S (OA.mono hb) (v₁.ext X₂) v₂ O₂ k₂ λv mv ρ₃ σ₃ s₃ k₃ v₃ O₃ X₃=>q _ _ _ _ _ k₃ v₃ O₃ ((X₁.trans X₂).trans X₃)
theorem Dy (P:PW W) (C:LexOk W) (S:LexSh) {m₁:Ev} {y:Str} {np pos} (h:XD W ctx b m₁ (.Name y np)):XD W ctx b (e1 Fk m₁) (.Attribute (.Name y np) "lineno" pos):=λA env ρ σ vs s K Q E OA F O m q=>by
 refine Attribute_name (h A env ρ σ vs s (λx h1=>Fk x h1 K) _ _ OA F O m λu x ρ₁ σ₁ s₁ k₁ v₁ O₁ X₁=>?_)
 refine Xi λgk=>?_
 refine XT k₁ λi qa m1=>?_;clear k₁;subst qa
 refine XU m1 λn l o qa hl m2=>?_;clear m1;subst qa
 refine Gk m2 λt p line qa m3=>?_;clear m2;subst qa
 refine Ut S O₁ hl v₁ λX ln lt mm us un L nn qa hρ H Ks Kx r hr hn hz=>?_;clear v₁;subst qa
 refine gk ?_;clear gk
 have XK:KK.In s₁.heap:=C.X.keeps O₁.base
 have I:InstAt s₁.heap X.a (instObj cLex X.d) cLex (some (X.dict ln lt mm)):=⟨H.a,rfl,rfl,H.d⟩
 cases t with
 | cons=>exact (show False from m3).elim
 | nil=>
  have hL:L=[]:=by
   have:L.map (·.1)=[]:=hr
   simpa using this
  clear H hr hz;subst hL
  have e:ln=line:=by rw [← hn];exact (Int.add_zero ln).symm
  clear hl hn;subst e
  refine get_value XK I C.ga (findObj_own C.hasD C.at1 rfl rfl) rfl ?_
  exact q _ _ ρ₁ _ _ (show K (.int ln) (.mk n l) from m3) (.int _ _) (O₁.tok _) X₁
end
end
section
set_option tactic.hygienic false
open PySem PyProof.Rows PySem.W PySem.Calls Builtin Builtin.ObjectAttr
set_option maxHeartbeats 4000000
variable [iO:Own]
theorem PH:mroOf (.type "function")=pure [.type "function",.type "object"]:=by kernel_rfl
theorem B0 (self:Value):refuseLoop self "__setattr__" [.type "function",.type "object"]=pure ():=by kernel_rfl
theorem KZ:typeHasDict (.type "function")=true:=by decide +kernel
theorem Wi (a d:Addr):dictMade (.type "function") a d=pure (some d):=by kernel_rfl
theorem HG (a:Addr):ownStreamTells (.ref a) (.type "function")=pure ():=by kernel_rfl
section
variable {prog:Program} {w:World} {A:Around} {E:Value→Shared→Prop} {s:Shared} {fs:Addr} {fd:FuncData} {sl:Array (Option Value)} {v:Value} {Q:Unit→Shared→Prop}
theorem PN (hfs:s.heap.get? fs=some ⟨.type "function",none,.func fd,sl⟩)
  (q:∀ h' fsd hsh tk m tk',h'.get? fs=some ⟨.type "function",some fsd,.func fd,sl⟩→h'.get? fsd=some (dictOf [⟨hsh,.str "read" tk,v⟩] m)→s.heap.get? fsd=none→(∀ b o,b≠fs→s.heap.get? b=some o→h'.get? b=some o)→Q () { s with heap:=h',toks:=tk' }) :
  wpAny (model prog w) A (setAttr (.ref fs) "read" v) Q E s:=by
 obtain ⟨hp,g,d,t,os⟩:=s
 have T:=MB (M:=model prog w) hfs
 have SF:=PySem.F.store_object
 unfold setAttr callSpecial? specialOf
 refine wpAny_bind (wpAny_mkText (wpAny_bind (wpAny_bind (wpAny_bind (T.at (wpAny_of_eq Ci (wpAny_holding ?_)))))))
 refine wpAny_bind (wpAny_of_eq (Th.bind _) (wpAny_bind ?_))
 refine wpAny_call_entry Th (⟨_,hfs,rfl⟩:(⟨hp,g,d,t+1,os⟩:Shared).TypeIs (.ref fs) "function") SF.entry ?_ (SF.args _ _ _)
 show wpAny _ _ (Builtin.«object.__setattr__» ⟨[.ref fs,.str "read" t,v],[]⟩) _ _ _
 rw [osa_eq,refuse_eq]
 refine wpAny_bind (wpAny_bind (T.at (wpAny_bind (wpAny_of_eq PH ?_))))
 rw [B0]
 refine wpAny_pure (wpAny_bind (T.at (wpAny_bind (wpAny_of_eq ML (wpAny_bind (wpAny_pure ?_))))))
 dsimp only
 unfold storeInOwnDict
 refine wpAny_bind (wpAny_of_eq (HG _) ?_)
 rw [if_neg (by decide)]
 refine wpAny_bind (m:=instanceDict fs true) ?_
 unfold instanceDict
 refine wpAny_bind (wpAny_loadPart hfs ?_)
 dsimp only
 rw [KZ]
 simp only [Bool.not_true,Bool.or_false,Bool.false_eq_true,if_false]
 refine wpAny_bind (wpAny_alloc ?_)
 have hfresh:hp.get? hp.objs.size=none:=XZ hp
 have hne:fs≠hp.objs.size:=λe=>by rw [e] at hfs;rw [show (⟨hp,g,d,t,os⟩:Shared).heap=hp from rfl,hfresh] at hfs;cases hfs
 have g1:(hp.push { cls:=.type "dict",data:=.dict #[] }).get? fs=some ⟨.type "function",none,.func fd,sl⟩:=Heap.get?_push_of_some _ hfs
 refine wpAny_bind (wpAny_update g1 ?_)
 rw [Wi]
 refine wpAny_pure ?_
 obtain ⟨h2,e2⟩:∃ h2,h2=(hp.push { cls:=.type "dict",data:=.dict #[] }).update fs λo=>{ cls:=o.cls,dict:=some hp.objs.size,data:=o.data,slots:=o.slots }:=⟨_,rfl⟩
 have g2:h2.get? fs=some ⟨.type "function",some hp.objs.size,.func fd,sl⟩:=by rw [e2,Heap.get?_update_self _ g1 rfl]
 have gd:h2.get? hp.objs.size=some (dictOf [] 0):=by rw [e2,Heap.get?_update_other _ _ hne];exact Heap.get?_push_size _ rfl
 have k2:∀ b o,b≠fs→hp.get? b=some o→h2.get? b=some o:=λb o hb e=>by rw [e2,Heap.get?_update_other _ _ (Ne.symm hb)];exact Heap.get?_push_of_some _ e
 show wpAny _ _ (storeInDict hp.objs.size (.str "read" t) "read" v) _ _ ⟨(hp.push { cls:=.type "dict",data:=.dict #[] }).update fs λo=>{ cls:=o.cls,dict:=some hp.objs.size,data:=o.data,slots:=o.slots },g,d,t+1,os⟩
 rw [← e2]
 unfold storeInDict nsSet
 have D':∀ tk:Tok,(h2.update hp.objs.size (Obj.putName "read" (PyData.keyHash w.params "read") (.str "read" tk) v)).get? hp.objs.size=some (dictOf (putL "read" (PyData.keyHash w.params "read") (.str "read" tk) v []) (putN "read" [] 0)):=λtk=>by
  rw [Heap.get?_update_self _ gd (by rw [putName_dict];rfl),putName_dict]
 refine wpAny_bind (wpAny_pure ?_)
 refine wpAny_bind ?_
 refine wpAny_bind (wpAny_bind (wpAny_askSetting (wpAny_pure (wpAny_bind (wpAny_mkText (wpAny_bind (wpAny_loadPart gd ?_)))))))
 dsimp only [dictOf]
 rw [aRefKeyMayBeTheName_at]
 have c:(!(([]:List DictEntry).toArray).any (λe:DictEntry=>e.key.isStr "read")&&(([]:List DictEntry).toArray).any (λe:DictEntry=>e.refKey))=false:=by simp
 rw [c]
 refine wpAny_updatePart gd ?_
 refine wpAny_bind (wpAny_lookBehind (D' _) (pastItsLine_dict (by rw [List.size_toArray,sizeLine_eq];show 1≤_;omega)) ?_)
 refine wpAny_pure ⟨_,rfl,wpAny_pure (wpAny_pure ?_)⟩
 refine q _ hp.objs.size _ _ _ _ ?_ (D' _) hfresh λb o hb e=>?_
 ·rw [Heap.get?_update_other _ _ (Ne.symm hne)];exact g2
 ·rw [Heap.get?_update_other _ _ (λe'=>by rw [← e'] at e;rw [show (⟨hp,g,d,t,os⟩:Shared).heap=hp from rfl,hfresh] at e;cases e)];exact k2 b o hb e
end
end
section
set_option tactic.hygienic false
set_option maxHeartbeats 4000000
noncomputable abbrev Tc (name qualname:Str) (params:Arguments) (body:List Stmt) (scope:Scope) (cl:List (Str×Addr)) (cr ct pm:Value):FuncData:=
 { name,qualname,params,body:=.stmts body,scope,globals:=mainGlobals,closure:=cl,defaults:=.none,kwdefaults:=.none,doc:=.none,pyModule:=pm,annotations:=none,code:=cr,closureTuple:=ct,builtins:=builtinsNs }
section
variable {M:Model} {A:Around} {E:Value→Shared→Prop} {s:Shared}
theorem DK {name qualname:Str} {params:Arguments} {body:List Stmt} {scope:Scope} {env:Env} {mg:Str→Option Value} {c Pl bm cl:Addr} {ob:Obj} {x:Str} {ps:Array Value} {pos:Pos} {firstLine:Nat} {Q:Value→Shared→Prop} (hcl:closureFor scope env=pure [(x,cl)])
  (hdoc:docOf body=none) (hgl:env.globals=mainGlobals) (BM:BMod s.heap mainGlobals mg bm ob) (hbP:bm≠Pl) (hcode:env.code=.ref c) (hok:s.heap.IsCode c Pl ps) (htab:s.heap.TableAt c Pl ps) (hnf:codeAmong pos ps.toList=none) (hgP:mainGlobals≠Pl)
  (h:∀ c' ct h' tk,Heap.ExtBut Pl s.heap h'→s.heap.objs.size≤c'→c'<h'.objs.size→h'.IsCode c Pl (ps++#[rawInt pos.line,rawInt pos.col,.ref c'])→h'.CodeRec (.ref c') qualname→h'.TableAt c Pl (ps++#[rawInt pos.line,rawInt pos.col,.ref c'])→
   Q (.ref h'.objs.size) { s with heap:=h'.push { cls:=.type "function",data:=.func (Tc name qualname params body scope [(x,cl)] (.ref c') ct ((mg "__name__").getD .none)) },toks:=tk }) :
  wpAny M A (makeFunction name qualname params (.stmts body) scope env [] [] [] pos firstLine) Q E s:=by
 simp only [makeFunction,List.zip_nil_right,List.filterMap_nil,List.isEmpty_nil,if_true,pure_bind,hcl,hdoc,List.isEmpty_cons,Bool.false_eq_true,if_false]
 refine wpAny_bind (wpAny_newTextTuple ?_)
 refine wpAny_bind (wpAny_functionCodeX hcode (hok.push _) (htab.push _) hnf λc' h' tk hx hge hlt hok' hrec hta htb=>?_)
 have hx':Heap.ExtBut Pl s.heap h':=λb o hb e=>hx b o hb (Heap.get?_push_of_some _ e)
 obtain ⟨hns,hname,hne,hobj,hcls,hdict,hdata⟩:=BM
 have hg':h'.Ns env.globals mg:=by rw [hgl];exact hns.extBut hx' hgP
 refine wpAny_bind (wpAny_builtinsFor hg' hname hne (hx' _ _ hbP hobj) hcls hdict hdata ?_)
 refine wpAny_bind (wpAny_nsGet hg' ?_)
 simp only [newObj]
 rw [hgl]
 refine wpAny_bind (wpAny_alloc (wpAny_pure ?_))
 exact h c' _ h' tk hx' (Nat.le_trans (by rw [Heap.size_push];exact Nat.le_succ _) hge) hlt hok' hrec hta
theorem Lu {name:Str} {params:Arguments} {body:List Stmt} {scope:Scope} {env:Env} {mg:Str→Option Value} {c Pl bm cl:Addr} {ob:Obj} {x:Str} {ps:Array Value} {pos:Pos} {Q:Flow→Shared→Prop}
  (hexec:exec (.FunctionDef name params body [] none [] scope none name pos) env=(do
   standAt pos
   let f ← holding [] (makeFunction name (qualnameIn env name name) params (.stmts body) scope env [] [] [] pos pos.line)
   standAt pos
   bindName env name f
   pure .next)) (hcl:closureFor scope env=pure [(x,cl)])
  (hdoc:docOf body=none) (hgl:env.globals=mainGlobals) (BM:BMod s.heap mainGlobals mg bm ob) (hbP:bm≠Pl) (hcode:env.code=.ref c) (hok:s.heap.IsCode c Pl ps) (htab:s.heap.TableAt c Pl ps) (hnf:codeAmong pos ps.toList=none) (hgP:mainGlobals≠Pl)
  (h:∀ c' ct h' tk,Heap.ExtBut Pl s.heap h'→s.heap.objs.size≤c'→c'<h'.objs.size→h'.IsCode c Pl (ps++#[rawInt pos.line,rawInt pos.col,.ref c'])→h'.CodeRec (.ref c') (qualnameIn env name name)→h'.TableAt c Pl (ps++#[rawInt pos.line,rawInt pos.col,.ref c'])→
   wpAny M A (storeName env name (.ref h'.objs.size)) (λ__=>Q .next) E { s with heap:=h'.push { cls:=.type "function",data:=.func (Tc name (qualnameIn env name name) params body scope [(x,cl)] (.ref c') ct ((mg "__name__").getD .none)) },toks:=tk }) :
  wpAny M A (exec (.FunctionDef name params body [] none [] scope none name pos) env) Q E s:=by
 rw [hexec]
 refine wpAny_bind (wpAny_standAt (wpAny_bind (wpAny_holding (DK hcl hdoc hgl BM hbP hcode hok htab hnf hgP λc' ct h' tk a1 a2 a3 a4 a5 a6=>?_))))
 exact wpAny_bind (wpAny_standAt (wpAny_bind (wpAny_bindName (wpAny_mono (h c' ct h' tk a1 a2 a3 a4 a5 a6) (λ__ __ z=>wpAny_pure z) λ__ __ z=>z))))
end
end
section
set_option tactic.hygienic false
set_option maxHeartbeats 4000000
section
variable [iC:Cs] {W:Wd} {ctx ctx':List Bd} {b:Nat}
theorem TZ {elt iter:Expr} {ifs:List Expr} {x:Str} {px:Pos} {p:Pa} {scope:Scope} {pos:Pos} {c:Vs→H→(Bool→H→Prop)→Prop} {mi m₁:Ev}
  (hi:XD W ctx b mi iter) (hc:JS W ctx' b c ifs) (he:XD W ctx' b m₁ elt) (ok:Ze ctx ctx' scope.names x p=true) (hkind:scope.kind=.function) (hs:∀ env x,foldedSetIterable iter env x=pure x)
  {A:Around} {env:Env} {vs:Vs} {s:Shared} {K:MV→H→Prop} {Q E:Value→Shared→Prop} (OA:OkA A b) (F:FR W ctx env vs E0 s.heap) (O:Ok0 W s)
  (m:mi vs (.mk 0 []) λx h1=>XL h1 x λxs=>ifB (Yr xs) (ZC p c m₁ xs vs h1 λys h2=>K (.seq true ys) h2) False)
  (q:∀ D mv ρ' σ' s',K mv σ'→VR ρ' s'.heap (.ref D) mv→Ok W ρ' σ' s'→(∀ b o,s.heap.get? b=some o→s'.heap.get? b=some o)→s.heap.get? D=none→Q (.ref D) s') :
  wpAny (model W.prog W.w) A (eval (.ListComp elt [⟨.Name x px,iter,ifs,0⟩] scope pos) env) Q E s:=by
 refine Xi λgk=>?_
 refine GQ F ok λqa hnames=>?_;refine qa.elim λcl zz=>zz.elim λhclos zz=>zz.elim λhcl hcl'=>?_
 refine gk ?_;clear gk
 rw [eval_ListComp]
 refine wpAny_comprehension_free (use:=none) rfl (hs env) hclos hkind hnames (hi A env E0 (.mk 0 []) vs s _ _ _ OA F O m λu mu ρ₁ σ₁ s₁ k₁ v₁ O₁ X₁=>?_)
 refine JV v₁ O₁ k₁ λxs I fp P St o k₂ e₂ O₂ eI S=>?_
 refine Xi λgk=>?_;rcases Xo k₂ with ⟨hz,k₂⟩ | ⟨_,k₂⟩ <;> (refine gk ?_;clear gk)
 ·have n0:W.h₀.get? I=none:=by
   exact Yc (λo e=>O₁.base I o e) e₂
  refine GV (h₁:=s₁.heap) hc he ok hkind OA ((F.ext X₁).ext (Ext.push ρ₁ s₁.heap o)) O₂ S n0 (Ye hz) (λ__ __ e=>Heap.get?_push_of_some o e) e₂ hcl hcl' k₂ λD C ρf σf s' ys kf vf Of Xf ⟨mf,hnf⟩ nCf h1C h1D=>?_
  refine ⟨mf,hnf,λh' hsb=>?_⟩
  have kC:∀ b o,b≠C→s'.heap.get? b=some o→h'.get? b=some o:=λb o n e=>(hsb.2 b n).trans e
  have h0C:W.h₀.get? C=none:=by
   exact Yc (λo e=>O₁.base C o e) h1C
  have XC:ExtP (λb=>b=C) ρf ρf s'.heap h':=⟨λ__ __=>rfl,λ__ x=>.inl x,λb o e __ hp=>kC b o hp e,λb __ o e hp=>kC b o hp e⟩
  have X01:∀ b o,s.heap.get? b=some o→s₁.heap.get? b=some o:=λb o e=>X₁.keep b o e Zp
  have X1f:Ext E0 ρf s.heap s'.heap:=X₁.trans Xf
  refine q D _ ρf σf _ kf (vf.extP (λb e=>e▸Ns.noVal hnf) XC) (Of.keepAt (t:=s'.toks) (Ns.noVal hnf) nCf h0C kC) (λb o e=>kC b o (λz=>by have e':=X01 b o e;rw [z,h1C] at e';cases e') (X1f.keep b o e Zp)) ?_
  exact Yc (λo e=>X01 D o e) h1D
 ·exact k₂.elim
end
end
section
set_option tactic.hygienic false
set_option maxHeartbeats 4000000
variable [iO:Own] [iA:OwnA] [iL:OwnL]
open Own OwnA OwnL
noncomputable abbrev pT0:Pa:=[false,false]
noncomputable abbrev pL0:Pa:=[false,true]
noncomputable abbrev pS0:Pa:=[true,false]
noncomputable def SM:List Bd:=[.loc "text" pT0,.cel "left" pL0 true]
noncomputable def Sf:List Bd:=[.loc "sign" pS0]
noncomputable def Bx (pm doc:Value):FuncData:=docDef "_law_stream" (ZZ 18) (Yl 18) (Yj 18) pm (.ref cS) doc
noncomputable def JH (L a:Addr) (pm doc:Value):Env:=newEnv (Yj 18) L mainGlobals [("left",L+1)] "_law_stream.<locals>." (some a) (.ref cS) none builtinsNs
structure StrOk (W:Wd):Prop where
 fn:∃ a od sl pm doc,W.mg "_law_stream" = some (.ref a)∧W.h₀.get? a=some ⟨.type "function",od,.func (Bx pm doc),sl⟩
 code:W.h₀.CodeRec (.ref cS) "_law_stream"
 tcls:∃ o vs,W.h₀.get? cS=some o∧o.cls=.type "code"∧o.data=.fields vs∧vs[11]?=some (.ref pS)
 rec_:∃ o vs file tf flags tg inF text tt,W.h₀.get? cS=some o∧o.data=.fields vs∧vs.getD 11 .none=.ref pS∧vs.getD 18 .none=.str file tf∧vs.getD 7 .none=.int flags tg∧vs.getD 9 .none=.bool inF∧vs.getD 10 .none=.int text tt
 bm:∃ bm ob,BMod W.h₀ mainGlobals W.mg bm ob
theorem L8 {σ:H}:∀ (l:List Nat) (a b c d:MV) (k:List MV→H→Prop),k (l.map λc=>.str [c]) σ→ZC pS0 (λ__ h k=>k true h) (Xe pS0) (YX l) (.nd (.nd (.lf a) (.lf b)) (.nd (.lf c) (.lf d))) σ k
 | [],_,_,_,_,_,h=>h
 | x :: l,a,b,c,d,k,h=>L8 l a b c d (λys h2=>k (.str [x] :: ys) h2) h
theorem G3:∀ l:List Nat,(YX l).length=l.length
 | []=>rfl
 | x :: l=>by show (YX l).length+1=l.length+1;rw [G3 l]
theorem Dj {ρ:Rho} {h:Heap} {l:List Nat} {us:List Value} (r:VRs ρ h us (l.map λc=>.str [c])):∃ L:List (Nat×Tok),us=Zq L∧L.map (·.1)=l:=by
 induction l generalizing us with
 | nil=>exact ⟨[],r.nilI,rfl⟩
 | cons c l ih=>
  refine Xi λgk=>?_
  obtain ⟨u,us',e,a,r⟩:=VRs.consI r
  obtain ⟨L,e2,e3⟩:=ih r
  obtain ⟨t,e4⟩:=a.strI
  refine gk ?_;clear gk
  exact ⟨(c,t) :: L,by rw [e,e2,e4];rfl,by rw [List.map_cons,e3]⟩
theorem Xx {h:Heap} {a b:Addr} {o:Obj} (ha:h.get? a=some o) (hb:h.get? b=none):a≠b:=by rintro rfl;rw [ha] at hb;cases hb
section
variable {W:Wd}
structure StrRes (s s':Shared) (l:List Nat) (fs fsd lf fr cl cr:Addr) (st:FuncData) (ssl rsl:Array (Option Value)) (rct rpm:Value) (hr:Int) (kr:Tok) (mr:Nat) (celO cro:Obj) (L:List (Nat×Tok)) (n:Nat):Prop where
 fresh:∀ b∈[lf,fs,fsd,fr,cl,cr],s.heap.get? b=none
 nodup:[lf,fs,fsd,fr,cl,cr].Nodup
 glf:s'.heap.get? lf=some (XR (Zq L) n)
 L:L.map (·.1)=l
 gfs:s'.heap.get? fs=some ⟨.type "function",some fsd,.func st,ssl⟩
 gfsd:s'.heap.get? fsd=some (dictOf [⟨hr,.str "read" kr,.ref fr⟩] mr)
 gfr:s'.heap.get? fr=some ⟨.type "function",none,.func (UX cl (.ref cr) rct rpm),rsl⟩
 gcl:s'.heap.get? cl=some celO
 cel:celO.data=.cell (some (.ref lf))
 gcr:s'.heap.get? cr=some cro
 code:∀ h:Heap,h.get? cr=some cro→h.CodeRec (.ref cr) "_law_stream.<locals>.read"
theorem D2 (P:PW W) {A:Around} {s:Shared} {l:List Nat} {t:Tok} {L a:Addr} {pm doc:Value} {mm:Str→Option Value} {c0:Option Value} {Q:Flow→Shared→Prop} {E:Value→Shared→Prop} (OA:OkA A 2) (O:Ok0 W s) (hl:l.length≤4000)
  (hn:s.heap.Ns L mm) (hm:mm "text" = some (.str (toS l) t)) (hc:s.heap.IsCell (L+1) c0) (hL:W.h₀.objs.size≤L)
  (q:∀ s' lf vs n o,Ok0 W s'→s.heap.get? lf=none→s'.heap.get? lf=some (XR (Zq vs) n)→vs.map (·.1)=l→s'.heap.get? (L+1)=some o→o.data=.cell (some (.ref lf))→(∀ b o,b≠L+1→s.heap.get? b=some o→s'.heap.get? b=some o)→Q .next s') :
  wpAny (model W.prog W.w) A (exec ((Yl 18).headD (.Pass default)) (JH L a pm doc)) Q E s:=by
 have F:FR W SM (JH L a pm doc) (.nd (.nd (.lf (.str l)) (.lf .unb)) (.nd (.lf .unb) (.lf .unb))) E0 s.heap:=by
  refine ⟨rfl,rfl,rfl,Zp,λx c hx=>⟨Zp,?_⟩,λx y c h1 h2=>?_,⟨mm,hn,λx p hx=>?_⟩,λx p o hx=>?_,λx hx=>?_,hL⟩
  ·have hx':List.lookup x [(("left":Str),L+1)]=some c:=hx
   by_cases e:x = "left"
   ·clear hx;subst e
    have:c=L+1:=by injection hx'.symm
    rw [this];exact ⟨_,hc⟩
   ·have e':(x==("left":Str))=false:=by simpa using e
    simp [List.lookup,e'] at hx'
  ·have h1':List.lookup x [(("left":Str),L+1)]=some c:=h1
   have h2':List.lookup y [(("left":Str),L+1)]=some c:=h2
   have g:∀ z,List.lookup z [(("left":Str),L+1)]=some c→z = "left":=λz hz=>by
    by_cases e:z = "left"
    ·exact e
    ·have e':(z==("left":Str))=false:=by simpa using e
     simp [List.lookup,e'] at hz
   rw [g x h1',g y h2']
  ·rcases List.mem_cons.mp hx with e | hx
   ·clear hx;cases e
    exact ⟨(by show (Yj 18).names.lookup ("text":Str)=some .local;decide +kernel),.inr ⟨_,hm,.str _ _⟩⟩
   ·rw [List.mem_singleton] at hx;cases hx
  ·rcases List.mem_cons.mp hx with e | hx
   ·cases e
   ·rw [List.mem_singleton] at hx;cases hx
    exact ⟨.inl (by show (Yj 18).names.lookup ("left":Str)=some .cell;decide +kernel),L+1,c0,rfl,hc,.inl rfl⟩
  ·rcases List.mem_cons.mp hx with e | hx
   ·cases e
   ·rw [List.mem_singleton] at hx;cases hx
 refine wpAny_Assign_Name ?_
 refine TZ (b:=2) (ctx:=SM) (ctx':=Sf) (mi:=Xe pT0) (m₁:=Xe pS0) (c:=λ__ h k=>k true h) (p:=pS0) (K:=λmv __=>mv=.seq true (l.map λc=>.str [c])) (Xd dk dk) ZX (Xd dk dk) dk rfl (λ__ __=>rfl) OA F O ?_ λD mv ρ' σ' s' hk hv O' k' hD=>?_
 ·show ifB (Yr (YX l)) _ False
  have e:Yr (YX l)=true:=by
   unfold Yr
   rw [Yh,G3]
   exact Nat.ble_eq_true_of_le (by omega)
  rw [e]
  exact L8 l _ _ _ _ _ rfl
 ·subst hk
  cases hv with | seq ho hs hr=>
  refine Xi λgk=>?_
  obtain ⟨n,hs⟩:=hs
  obtain ⟨vs,rfl,hvs⟩:=Dj hr
  obtain ⟨oc,hoc,hdc⟩:=hc
  refine gk ?_;clear gk
  refine wpAny_storeName_cell (env:=JH L a pm doc) rfl (by show (Yj 18).names.lookup ("left":Str)=some .cell;decide +kernel) rfl ⟨oc,k' _ _ hoc,hdc⟩ λh' hcl hsb=>?_
  refine Xi λgk=>?_
  obtain ⟨o,ho,hd⟩:=hcl
  refine gk ?_;clear gk
  have hDL:D≠L+1:=(Xx hoc hD).symm
  have hb0:W.h₀.get? (L+1)=none:=by
   cases e:W.h₀.get? (L+1) with
   | none=>rfl
   | some o=>exact absurd (Nat.lt_of_lt_of_le (Heap.lt_size e) hL) (Nat.not_lt.mpr (Nat.le_succ L))
  have kk:∀ b o,b≠L+1→s'.heap.get? b=some o→h'.get? b=some o:=λb o hb e=>hsb.extBut b o hb e
  exact q _ D vs n o (Zi (λb o e=>kk b o (Mine.neA e hb0) (O'.base b o e)) O'.gens O'.os) hD (kk _ _ hDL hs) hvs ho hd λb o hb e=>kk b o hb (k' b o e)
end
end
section
set_option tactic.hygienic false
set_option maxHeartbeats 4000000
variable [iO:Own] [iA:OwnA] [iL:OwnL]
open Own OwnA OwnL
theorem DM (L a:Addr) (pm doc:Value):closureFor (Z3 18 1).2.2.1 (JH L a pm doc)=pure [(("left":Str),L+1)]:=by rfl
theorem Dk (L a:Addr) (pm doc:Value):closureFor (Z3 18 2).2.2.1 (JH L a pm doc)=pure [(("left":Str),L+1)]:=by rfl
section
variable {W:Wd}
theorem StrOk.rec0 (Sk:StrOk W):∃ o,W.h₀.get? cS=some o:=by
 refine Sk.rec_.elim λo zz=>zz.elim λvs zz=>zz.elim λfile zz=>zz.elim λtf zz=>zz.elim λflags zz=>zz.elim λtg zz=>zz.elim λinF zz=>zz.elim λtext zz=>zz.elim λtt zz=>zz.elim λe __=>?_
 exact ⟨o,e⟩
theorem Tu {h:Heap} {a:Addr} {m} (x:h.Ns a m):∃ o,h.get? a=some o:=by
 refine x.elim λo zz=>zz.elim λ__ zz=>zz.elim λ__ zz=>zz.elim λe __=>?_
 exact ⟨o,e⟩
theorem HK (P:PW W) (Sk:StrOk W) {A:Around} {s:Shared} {l:List Nat} {t:Tok} {fS:Addr} {od:Option Addr} {sl:Array (Option Value)} {pm doc:Value} {op:Obj} {Q E:Value→Shared→Prop} (OA:OkA A 4) (O:Ok0 W s) (hl:l.length≤4000)
  (hfS:W.h₀.get? fS=some ⟨.type "function",od,.func (Bx pm doc),sl⟩) (hp:s.heap.get? pS=some op) (hpd:op.data=.fields #[]) (hpo:op=Yz #[]) (hp0:W.h₀.get? pS=none)
  (q:∀ s' fs fsd lf fr cl cr st ssl rsl rct rpm hr kr mr celO cro vs n op',Ok0 W s'→StrRes s s' l fs fsd lf fr cl cr st ssl rsl rct rpm hr kr mr celO cro vs n→s'.heap.get? pS=some op'→(∃ ps,op'=Yz ps)→(∀ b o,b≠pS→s.heap.get? b=some o→s'.heap.get? b=some o)→Q (.ref fs) s') :
  wpAny (model W.prog W.w) A (call (.ref fS) [.str (toS l) t]) Q E s:=by
 have hroom:A.depth<recursionLimit:=by have:=OA.2.1;omega
 have hcd:s.heap.CodeRec (.ref cS) "_law_stream":=by
  obtain ⟨c,oc,vs,tq,hc,hoc,hdc,hq⟩:=Sk.code
  exact ⟨c,oc,vs,tq,hc,O.base _ _ hoc,hdc,hq⟩
 refine wpAny_call (codeAny_call_function hroom (O.base _ _ hfS) rfl rfl rfl rfl hcd ?_)
 have hb:bindArgs (Bx pm doc) ⟨[.str (toS l) t],[]⟩=pure [(("text":Str),Value.str (toS l) t)]:=by kernel_rfl
 rw [hb]
 refine wpAny_pure (wpAny_newFunctionEnv_cells (show (Yj 18).kind=.function from rfl) (λy hy=>?_) λenv he s₁ X=>?_)
 ·rw [List.mem_singleton] at hy;subst hy
  left;show (Yj 18).names.lookup ("text":Str)=some .local;decide +kernel
 refine Xi λgk=>?_
 obtain ⟨L,hL⟩:∃ L,L=s.heap.objs.size:=⟨_,rfl⟩
 have hev:env=JH L fS pm doc:=by rw [he,← hL];rfl
 clear he
 subst hev
 obtain ⟨h₁,tk₁,hs₁,k01⟩:=X.done
 subst hs₁
 refine gk ?_;clear gk
 have O1:Ok0 W { s with heap:=h₁,toks:=tk₁ }:=O.keep k01
 refine ⟨P.glb.nl.keeps λb o e=>O1.base b o e,codeAny_func ?_⟩
 have hLN:s.heap.get? L=none:=by rw [hL];exact XZ _
 have hcN:s.heap.get? (L+1)=none:=by
  exact Z5 (by rw [hL];exact Nat.not_lt.mpr (Nat.le_succ _))
 have hcell:h₁.IsCell (L+1) _:=X.cell "left" (L+1) rfl
 have hWL:W.h₀.objs.size≤L:=by
  obtain ⟨b,o,e,hz⟩:=P.glb.last
  rw [hL,hz];exact Heap.lt_size (O.base b o e)
 refine gq λQ' hQ=>?_
 refine wpAny_execs_cons ?_
 show wpAny _ _ (exec ((Yl 18).headD (.Pass default)) (JH L fS pm doc)) _ _ _
 refine D2 (t:=t) P (OA.deeper _ |>.mono (by omega)) O1 hl X.toInCall.ns ?_ hcell hWL λs₂ lf vs n o O₂ hlfN hlf hvs hcl hcd₂ k12=>?_
 ·exact VK (by show (Yj 18).names.lookup ("text":Str)=some .local;decide +kernel) (by simp) (by simp)
 have hns₂:s₂.heap.Ns L _:=X.toInCall.ns.at' λo e=>k12 L o (Nat.ne_of_lt (Nat.lt_succ_self L)) e
 have k02:∀ b o,s.heap.get? b=some o→s₂.heap.get? b=some o:=λb o e=>k12 b o (Mine.neA e hcN) (k01 b o e)
 refine Xi λgk=>?_
 obtain ⟨bm,ob,BM⟩:=Sk.bm
 refine gk ?_;clear gk
 have hb0:∀ b o,W.h₀.get? b=some o→b≠pS:=λb o e=>by rintro rfl;rw [hp0] at e;cases e
 have hgP:mainGlobals≠pS:=by
  obtain ⟨o,es,ep,e,_⟩:=P.glb.g
  exact hb0 _ _ e
 have hcSP:cS≠pS:=by
  obtain ⟨o,e⟩:=Sk.rec0
  exact hb0 _ _ e
 have hcode₂:s₂.heap.IsCode cS pS #[]:=by
  obtain ⟨o,vs,file,tf,flags,tg,inF,text,tt,e1,e2,e3,e4,e5,e6,e7⟩:=Sk.rec_
  exact ⟨o,vs,file,tf,flags,tg,inF,text,tt,op,O₂.base _ _ e1,e2,e3,e4,e5,e6,e7,k02 _ _ hp,hpd,trivial,hcSP⟩
 have htab₂:s₂.heap.TableAt cS pS #[]:=by
  obtain ⟨o,vs,t1,t2,t3,t4⟩:=Sk.tcls
  exact ⟨⟨o,vs,O₂.base _ _ t1,t2,t3,t4⟩,by have:=k02 _ _ hp;rw [hpo] at this;exact this⟩
 refine wpAny_execs_cons (Lu (c:=cS) (Pl:=pS) (by rfl) (DM L fS pm doc) (by rfl) rfl (BM.keeps O₂.base) (hb0 _ _ BM.obj) rfl hcode₂ htab₂ rfl hgP λc1 ct1 h₃ tk₃ hx₃ hge₃ hlt₃ hcode₃ hrec₃ htab₃=>?_)
 obtain ⟨o3,ho3⟩:∃ o3:Obj,o3={ cls:=.type "function",data:=.func (Tc "stream" "_law_stream.<locals>.stream" (Z3 18 1).1 (Z3 18 1).2.1 (Z3 18 1).2.2.1 [("left",L+1)] (.ref c1) ct1 ((W.mg "__name__").getD .none)) }:=⟨_,rfl⟩
 have lv3:∀ {p:Obj→Prop},p { cls:=.type "function",data:=.func (Tc "stream" "_law_stream.<locals>.stream" (Z3 18 1).1 (Z3 18 1).2.1 (Z3 18 1).2.2.1 [("left",L+1)] (.ref c1) ct1 ((W.mg "__name__").getD .none)) }→p o3:=λh=>ho3▸h
 refine gT (s:=s₂) (h:=h₃.push o3) (λtkA=>?_) (by rw [ho3];rfl)
 have hLp:L≠pS:=(Xx hp hLN).symm
 have hcp:L+1≠pS:=(Xx hp hcN).symm
 have hns₃:=(hns₂.at' (h':=h₃) λo e=>hx₃ L o hLp e)
 obtain ⟨oL₂,hoL₂⟩:∃ o,s₂.heap.get? L=some o:=Tu hns₂
 have sz:∀ h:Heap,h.get? h.objs.size=none:=XZ
 have hfsL:h₃.objs.size≠L:=(Xx (hx₃ _ _ hLp hoL₂) (sz h₃)).symm
 refine wpAny_storeName_local (env:=JH L fS pm doc) rfl (hns₃.push _) (λh₄ hn₄ hs₄=>?_) rfl
 have e34:∀ b o,b≠L→h₃.get? b=some o→h₄.get? b=some o:=λb o hb e=>hs₄.extBut b o hb (Heap.get?_push_of_some _ e)
 have k24:∀ b o,b≠pS→b≠L→s₂.heap.get? b=some o→h₄.get? b=some o:=λb o hb hb' e=>e34 b o hb' (hx₃ b o hb e)
 have hWL':∀ b o,W.h₀.get? b=some o→b≠L:=λb o e=>Nat.ne_of_lt (Nat.lt_of_lt_of_le (Heap.lt_size e) hWL)
 have hcSL:cS≠L:=by
  obtain ⟨o,e⟩:=Sk.rec0
  exact hWL' _ _ e
 have kW4:∀ b o,W.h₀.get? b=some o→h₄.get? b=some o:=λb o e=>k24 b o (hb0 b o e) (hWL' b o e) (O₂.base b o e)
 refine gT (s:=s₂) (h:=h₄) λtkB=>?_
 have gfs₄:h₄.get? h₃.objs.size=some o3:=hs₄.extBut _ _ hfsL (Heap.get?_push_size _ (lv3 (p:=λo=>_=_) rfl))
 have hcode₄:=(hcode₃.push o3).extBut hs₄.extBut hcSL hLp.symm
 have htab₄:=(htab₃.push o3).extBut hs₄.extBut hcSL hLp.symm
 refine wpAny_execs_cons (Lu (c:=cS) (Pl:=pS) (by rfl) (Dk L fS pm doc) (by rfl) rfl (BM.keeps kW4) (hb0 _ _ BM.obj) rfl hcode₄ htab₄ rfl hgP λc2 ct2 h₅ tk₅ hx₅ hge₅ hlt₅ hcode₅ hrec₅ htab₅=>?_)
 obtain ⟨o5,ho5⟩:∃ o5:Obj,o5={ cls:=.type "function",data:=.func (UX (L+1) (.ref c2) ct2 ((W.mg "__name__").getD .none)) }:=⟨_,rfl⟩
 have lv5:∀ {p:Obj→Prop},p { cls:=.type "function",data:=.func (UX (L+1) (.ref c2) ct2 ((W.mg "__name__").getD .none)) }→p o5:=λh=>ho5▸h
 refine gT (s:=s₂) (h:=h₅.push o5) (λtkC=>?_) (by rw [ho5];rfl)
 have gL₄:∃ o,h₄.get? L=some o:=Tu hn₄
 obtain ⟨oL₄,hoL₄⟩:=gL₄
 have hfrL:h₅.objs.size≠L:=(Xx (hx₅ _ _ hLp hoL₄) (sz h₅)).symm
 have hns₅:=(hn₄.at' (h':=h₅) λo e=>hx₅ L o hLp e)
 refine wpAny_storeName_local (env:=JH L fS pm doc) rfl (hns₅.push _) (λh₆ hn₆ hs₆=>?_) rfl
 refine gT (s:=s₂) (h:=h₆) λtkD=>?_
 have e56:∀ b o,b≠L→h₅.get? b=some o→h₆.get? b=some o:=λb o hb e=>hs₆.extBut b o hb (Heap.get?_push_of_some _ e)
 have k46:∀ b o,b≠pS→b≠L→h₄.get? b=some o→h₆.get? b=some o:=λb o hb hb' e=>e56 b o hb' (hx₅ b o hb e)
 have k26:∀ b o,b≠pS→b≠L→s₂.heap.get? b=some o→h₆.get? b=some o:=λb o hb hb' e=>k46 b o hb hb' (k24 b o hb hb' e)
 have hfsP:h₃.objs.size≠pS:=by
  obtain ⟨op3,e3,_⟩:=Zr hcode₃
  exact (Xx e3 (sz h₃)).symm
 have hfrP:h₅.objs.size≠pS:=by
  obtain ⟨op5,e5,_⟩:=Zr hcode₅
  exact (Xx e5 (sz h₅)).symm
 refine Xi λgk=>?_
 obtain ⟨op6,gp6,ho6⟩:∃ op6,h₆.get? pS=some op6∧∃ ps,op6=Yz ps:=by
  obtain ⟨op5,e5,_⟩:=Zr hcode₅
  exact ⟨op5,e56 _ _ hLp.symm e5,_,Option.some.inj (e5.symm.trans htab₅.2)⟩
 have gfr₆:h₆.get? h₅.objs.size=some o5:=hs₆.extBut _ _ hfrL (Heap.get?_push_size _ (lv5 (p:=λo=>_=_) rfl))
 have gfs₆:=k46 _ _ hfsP hfsL gfs₄
 have glf₆:=k26 lf _ (Xx (k01 _ _ hp) hlfN).symm (by rintro rfl;rw [hlf] at hoL₂;cases hoL₂;obtain ⟨o,es,ep,e,hd,_⟩:=hns₂;rw [hlf] at e;cases e;cases hd) hlf
 refine gk ?_;clear gk
 have gcl₆:=k26 (L+1) _ hcp (Nat.ne_of_gt (Nat.lt_succ_self L)) hcl
 refine wpAny_execs_cons (plainObj_wpAny_Assign_Attribute (wpAny_Name (wpAny_loadName_local rfl rfl hn₆ rfl (wpAny_Name (wpAny_loadName_local rfl rfl hn₆ rfl ?_)))))
 refine PN (v:=.ref h₅.objs.size) (show h₆.get? h₃.objs.size=some { cls:=.type "function",data:=.func (Tc "stream" "_law_stream.<locals>.stream" (Z3 18 1).1 (Z3 18 1).2.1 (Z3 18 1).2.2.1 [("left",L+1)] (.ref c1) ct1 ((W.mg "__name__").getD .none)) } from ho3▸gfs₆) λh₇ fsd hsh tk mr tk₇ g1 g2 hfsd k67=>?_
 have hfsd:h₆.get? fsd=none:=hfsd
 have hoL₆:∃ o,h₆.get? L=some o:=Tu hn₆
 refine Xi λgk=>?_
 obtain ⟨oL₆,hoL₆⟩:=hoL₆
 obtain ⟨c,oc,vs',tq,hc,hoc,hdc,hq⟩:=hrec₅
 refine gk ?_;clear gk
 cases hc
 have fr4:h₄.get? c2=none:=by
  exact Z5 (Nat.not_lt.mpr hge₅)
 have hcrL:c2≠L:=(Xx hoL₄ fr4).symm
 have gcr₆:=e56 _ _ hcrL hoc
 refine Xi λgk=>?_
 have hlfL:lf≠L:=by rintro rfl;rw [hlf] at hoL₂;cases hoL₂;obtain ⟨o,es,ep,e,hd,_⟩:=hns₂;rw [hlf] at e;cases e;cases hd
 have hlfP:lf≠pS:=(Xx (k01 _ _ hp) hlfN).symm
 have hclL:L+1≠L:=Nat.ne_of_gt (Nat.lt_succ_self L)
 have glf₃:=hx₃ lf _ hlfP hlf
 have glf₄:=e34 lf _ hlfL glf₃
 have glf₅:=hx₅ lf _ hlfP glf₄
 have gcl₃:=hx₃ (L+1) _ hcp hcl
 have gcl₄:=e34 (L+1) _ hclL gcl₃
 have gcl₅:=hx₅ (L+1) _ hcp gcl₄
 obtain ⟨oc₁,hoc₁,_⟩:=hcell
 have n1:lf≠h₃.objs.size:=Xx glf₃ (sz h₃)
 have n2:lf≠fsd:=Xx glf₆ hfsd
 have n3:lf≠h₅.objs.size:=Xx glf₅ (sz h₅)
 have n4:lf≠L+1:=(Xx hoc₁ hlfN).symm
 have n5:lf≠c2:=Xx glf₄ fr4
 have n6:h₃.objs.size≠fsd:=Xx gfs₆ hfsd
 have n7:h₃.objs.size≠h₅.objs.size:=Xx (hx₅ _ _ hfsP gfs₄) (sz h₅)
 have n8:h₃.objs.size≠L+1:=(Xx gcl₃ (sz h₃)).symm
 have n9:h₃.objs.size≠c2:=Xx gfs₄ fr4
 have n10:fsd≠h₅.objs.size:=(Xx gfr₆ hfsd).symm
 have n11:fsd≠L+1:=(Xx gcl₆ hfsd).symm
 have n12:fsd≠c2:=(Xx gcr₆ hfsd).symm
 have n13:h₅.objs.size≠L+1:=(Xx gcl₅ (sz h₅)).symm
 have n14:h₅.objs.size≠c2:=(Xx hoc (sz h₅)).symm
 have n15:L+1≠c2:=Xx gcl₄ fr4
 have hfsdL:fsd≠L:=(Xx hoL₆ hfsd).symm
 have hfsdP:fsd≠pS:=(Xx gp6 hfsd).symm
 have old:∀ (x:Addr) (h:Heap),(∀ b o,b≠pS→b≠L→s₂.heap.get? b=some o→h.get? b=some o)→x≠pS→x≠L→h.get? x=none→s.heap.get? x=none:=λx h k a1 a2 e=>by
  cases e':s.heap.get? x with
  | none=>rfl
  | some o=>have:=k x o a1 a2 (k02 _ _ e');rw [e] at this;cases this
 have hcrP:c2≠pS:=by clear gcr₆ gfr₆ gk hcode₅ hcrL hfsd hge₅ hlt₅ hoc hs₆ htab₅ k67 n12 n14 n15 n5 n9;rintro rfl;obtain ⟨op,e⟩:∃ o,h₄.get? pS=some o:=(Zr hcode₄).imp λ__ x=>x.1;rw [fr4] at e;cases e
 refine gk ?_;clear gk
 have hfrP:=hfrP
 refine wpAny_execs_cons (wpAny_Return_some (wpAny_Name (wpAny_loadName_local rfl rfl (hn₆.at' (h':=h₇) λo e=>k67 L o hfsL.symm e) rfl ?_)))
 refine hQ _ _ ?_
 refine q _ h₃.objs.size fsd lf h₅.objs.size (L+1) c2 _ _ _ _ _ _ _ _ _ _ vs n op6 (Zi (λb o e=>k67 b o (λe'=>?_) (k46 b o (hb0 b o e) (hWL' b o e) (kW4 b o e))) O₂.gens O₂.os)
  ⟨(fc (Yc (λo e=>k01 _ _ e) (show h₁.get? lf=none from hlfN)) (fc (old _ h₃ (λb o a1 __ e=>hx₃ b o a1 e) hfsP hfsL (sz h₃)) (fc (old _ h₆ k26 hfsdP hfsdL hfsd) (fc (old _ h₅ (λb o a1 a2 e=>hx₅ b o a1 (k24 b o a1 a2 e)) hfrP hfrL (sz h₅)) (fc hcN (fc (old _ h₄ k24 hcrP hcrL fr4) (λ__ h=>nomatch h))))))),.cons (fc n1 (fc n2 (fc n3 (fc n4 (fc n5 (λ__ h=>nomatch h)))))) (.cons (fc n6 (fc n7 (fc n8 (fc n9 (λ__ h=>nomatch h))))) (.cons (fc n10 (fc n11 (fc n12 (λ__ h=>nomatch h)))) (.cons (fc n13 (fc n14 (λ__ h=>nomatch h))) (.cons (fc n15 (λ__ h=>nomatch h)) (.cons (λ__ h=>nomatch h) .nil))))),k67 _ _ n1 glf₆,hvs,g1,g2,k67 _ _ n7.symm (ho5▸gfr₆),k67 _ _ n8.symm gcl₆,hcd₂,k67 _ _ n9.symm gcr₆,λh e=>⟨c2,oc,vs',tq,rfl,e,hdc,hq⟩⟩ (k67 _ _ hfsP.symm gp6) ho6 λb o hb e=>?_
 ·rw [e'] at e
  exact absurd (sz h₃) (by rw [hx₃ _ o (hb0 _ _ e) (O₂.base _ _ e)];exact λz=>by cases z)
 ·have hbL:b≠L:=Xx e hLN
  exact k67 b o (λe'=>by rw [e'] at e;exact absurd (sz h₃) (by rw [hx₃ _ o hfsP (k02 _ _ e)];exact λz=>by cases z)) (k26 b o hb hbL (k02 _ _ e))
end
end
section
set_option tactic.hygienic false
set_option maxHeartbeats 4000000
variable [iO:Own] [iA:OwnA] [iL:OwnL]
open Own OwnA OwnL
structure LexNew (W:Wd):Prop where
 init:MFn fLI "__init__" "_netrclex.__init__" 14 0 [] .none
 makes:makesIn KK cLex=true
 fI:findIn KK (.ref cLex) "__init__" = some (some (.ref fLI))
 isF:typeIn KK (.ref fLI)=some (.type "function")
section
variable {W:Wd}
theorem Fd (P:PW W) (C:LexOk W) (D:LexNew W) {A:Around} {s:Shared} {x d fs:Addr} {R:Result→Shared→Prop} (OA:OkA A 2) (O:Ok0 W s) (hx:s.heap.get? x=some (instObj cLex d)) (hd:s.heap.get? d=some (dictOf [] 0)) (hx0:W.h₀.get? x=none) (hd0:W.h₀.get? d=none)
  (q:∀ h' tk' h1 h2 h3 h4 k1 k2 k3 k4 wt lt pb m,h'.get? x=some (instObj cLex d)→h'.get? d=some (dictOf [⟨h1,.str "lineno" k1,.int 1 lt⟩,⟨h2,.str "instream" k2,.ref fs⟩,⟨h3,.str "whitespace" k3,.str Nt wt⟩,⟨h4,.str "pushback" k4,.ref pb⟩] m)→h'.get? pb=some (XR [] 0)→s.heap.get? pb=none→
   (∀ b o,b≠d→s.heap.get? b=some o→h'.get? b=some o)→R (.ok (.ret .none)) { s with heap:=h',toks:=tk' }) :
  codeAny (model W.prog W.w) A (.call (.ref fLI) ⟨[.ref x,.ref fs],[]⟩) R s:=by
 refine Xi λgk=>?_
 refine D.init.E λoc ofd sl doc pm an cda ct vs file tf ccl cdd ccs hl hcd hcode hvs hfile=>?_
 refine C.cd.elim λcd zz=>zz.elim λhcl zz=>zz.elim λhmro hD=>?_
 refine gk ?_;clear gk
 have XK:KK.In s.heap:=C.X.keeps O.base
 have hroom:A.depth<recursionLimit:=by have:=OA.2.1;omega
 refine (ks_codeAny_call_defAt (binds:=[(("self":Str),Value.ref x),(("fp":Str),Value.ref fs)]) hroom (XK _ _ hl) rfl (P.glb.nl.keeps λb o e=>O.base b o e) (codeRec_of XK hcd) rfl (BindsTo.of_eq (by kernel_rfl)) (show ∀ x∈(X6 14 0).names,x.2≠.cell by decide +kernel) (by
  intro y hy
  rcases List.mem_cons.mp hy with rfl | hy
  ·show (X6 14 0).names.lookup ("self":Str)=some .local;decide +kernel
  ·rw [List.mem_singleton] at hy;subst hy;show (X6 14 0).names.lookup ("fp":Str)=some .local;decide +kernel) (λh₀ hns k0=>?_) rfl rfl rfl)
 refine wpAt_of_wpAny ?_;refine gq λQ' hQ=>?_
 refine Xi λgk=>?_
 obtain ⟨loc,hloc⟩:∃ loc,loc=s.heap.objs.size:=⟨_,rfl⟩
 refine gk ?_;clear gk
 rw [← hloc] at hns ⊢
 have hlocN:s.heap.get? loc=none:=by rw [hloc];exact XZ _
 have hself:(λz=>List.lookup z ([(("self":Str),Value.ref x),(("fp":Str),Value.ref fs)]:List (Str×Value)).reverse) ("self":Str)=some (.ref x):=rfl
 have hfp:(λz=>List.lookup z ([(("self":Str),Value.ref x),(("fp":Str),Value.ref fs)]:List (Str×Value)).reverse) ("fp":Str)=some (.ref fs):=rfl
 refine gT (s:=s) (h:=h₀) λt₀=>?_
 have hdl:d≠loc:=Xx hd hlocN
 have hxd:x≠d:=by clear hd0 hdl q;rintro rfl;rw [hx] at hd;have e:=congrArg (Option.map Obj.data) hd;cases e
 have KX:∀ h:Heap,(∀ b o,b≠d→s.heap.get? b=some o→h.get? b=some o)→KK.In h:=λh k b o e=>k b o (Mine.neA (C.X _ _ e) hd0) (XK _ _ e)
 have I0:InstAt h₀ x (instObj cLex d) cLex (some (dictOf [] 0)):=⟨k0 _ _ hx,rfl,rfl,k0 _ _ hd⟩
 refine wpAny_execs_cons (plainObj_wpAny_Assign_Attribute (wpAny_Constant_int (wpAny_Name (wpAny_loadName_local rfl rfl hns hself ?_))))
 refine Zh (KX _ λb o __ e=>k0 b o e) I0 rfl C.sa hcl hmro hD C.at1 rfl (Nat.le_of_ble_eq_true rfl) λh₁ e₁ k₁=>?_
 refine gT (s:=s) (h:=h₁) λt₁=>?_
 have kk₁:∀ b o,b≠d→s.heap.get? b=some o→h₁.get? b=some o:=λb o hb e=>(k₁ b hb).trans (k0 _ _ e)
 have hns₁:=hns.at' (h':=h₁) λo e=>(k₁ loc hdl.symm).trans e
 have I1:InstAt h₁ x (instObj cLex d) cLex (some _):=⟨kk₁ _ _ hxd hx,rfl,rfl,e₁⟩
 refine wpAny_execs_cons (plainObj_wpAny_Assign_Attribute (wpAny_Name (wpAny_loadName_local rfl rfl hns₁ hfp (wpAny_Name (wpAny_loadName_local rfl rfl hns₁ hself ?_)))))
 refine Zh (KX _ kk₁) I1 rfl C.sa hcl hmro hD C.at2 rfl (Nat.le_of_ble_eq_true rfl) λh₂ e₂ k₂=>?_
 refine gT (s:=s) (h:=h₂) λt₂=>?_
 have kk₂:∀ b o,b≠d→s.heap.get? b=some o→h₂.get? b=some o:=λb o hb e=>(k₂ b hb).trans (kk₁ _ _ hb e)
 have hns₂:=hns₁.at' (h':=h₂) λo e=>(k₂ loc hdl.symm).trans e
 have I2:InstAt h₂ x (instObj cLex d) cLex (some _):=⟨kk₂ _ _ hxd hx,rfl,rfl,e₂⟩
 refine wpAny_execs_cons (plainObj_wpAny_Assign_Attribute (wpAny_Constant_str (wpAny_Name (wpAny_loadName_local rfl rfl hns₂ hself ?_))))
 refine Zh (KX _ kk₂) I2 rfl C.sa hcl hmro hD C.at3 rfl (Nat.le_of_ble_eq_true rfl) λh₃ e₃ k₃=>?_
 refine gT (s:=s) (h:=h₃) λt₃=>?_
 have kk₃:∀ b o,b≠d→s.heap.get? b=some o→h₃.get? b=some o:=λb o hb e=>(k₃ b hb).trans (kk₂ _ _ hb e)
 have hns₃:=hns₂.at' (h':=h₃) λo e=>(k₃ loc hdl.symm).trans e
 refine wpAny_execs_cons (plainObj_wpAny_Assign_Attribute (wpAny_List (args_nil ⟨by rw [sizeLine_eq];simp,?_⟩)))
 have I3:InstAt (h₃.push (XR [] 0)) x (instObj cLex d) cLex (some _):=⟨Heap.get?_push_of_some _ (kk₃ _ _ hxd hx),rfl,rfl,Heap.get?_push_of_some _ e₃⟩
 refine wpAny_Name (wpAny_loadName_local rfl rfl (hns₃.push _) hself ?_)
 refine Zh (KX _ λb o hb e=>Heap.get?_push_of_some _ (kk₃ b o hb e)) I3 rfl C.sa hcl hmro hD C.at4 rfl (Nat.le_of_ble_eq_true rfl) λh₄ e₄ k₄=>?_
 refine gT (s:=s) (h:=h₄) λt₄=>?_
 refine wpAny_execs_nil ?_
 have hpd:h₃.objs.size≠d:=(Xx e₃ (XZ h₃)).symm
 refine hQ _ _ ?_;refine q h₄ _ _ _ _ _ _ _ _ _ _ _ h₃.objs.size _ ((k₄ x hxd).trans I3.at_) e₄ ((k₄ _ hpd).trans (Heap.get?_push_size _ rfl)) ?_ λb o hb e=>(k₄ b hb).trans (Heap.get?_push_of_some _ (kk₃ b o hb e))
 cases e:s.heap.get? h₃.objs.size with
 | none=>rfl
 | some o=>exact absurd (kk₃ _ o hpd e) (by rw [XZ];exact λz=>by cases z)
end
end
section
set_option tactic.hygienic false
set_option maxHeartbeats 4000000
variable [iO:Own] [iA:OwnA] [iL:OwnL]
open Own OwnA OwnL
structure TxtSh:Prop where
 sh:∀ s w n,Own.txt s w n→∃ l,s=toS l∧l.length≤4000∧GF [w,[46],[]] l∧n=1+((l.filter λc=>c==10).length:Nat)
structure TabS (p:Addr):Prop where
 sh:∀ as us xs,Own.shx (.tab 1) as us xs↔us=[]∧xs=[]∧∃ op,as=[(p,op)]∧op.data=.fields #[]∧op=Yz #[]
 sh2:∀ as us xs,Own.shx (.tab 2) as us xs↔us=[]∧xs=[]∧∃ op,as=[(p,op)]∧∃ ps,op=Yz ps
noncomputable def Tn (x:MV) (h:H) (k:K):Prop:=match x with
 | .txt w n=>ZD h 1 λo=>T4 o 1 <| RE (.lex [w,[46],[]] [] n) h λv h'=>T5 (.tab 2) h' 1 λh''=>k v h''
 | _=>False
theorem IE (L:List (Nat×Tok)):nls L=(((L.map (·.1)).filter λc=>c==10).length:Nat):=by
 unfold nls
 rw [List.filter_map,List.length_map]
 rfl
section
variable {W:Wd} {ctx:List Bd} {b:Nat}
theorem MI {x:MV} {σ:H} {k:K} (m:Tn x σ k):∃ w ln n l,x=.txt w ln∧σ=.mk n l∧lk l 1=some (.tab 1)∧∃ l',k (.ref n) (.mk (n+1) l')∧∀ j,lk l' j=if j=1 then (lk (l++[(n,.lex [w,[46],[]] [] ln)]) 1).map λ__=>.tab 2 else lk (l++[(n,.lex [w,[46],[]] [] ln)]) j:=by
 cases x with
 | txt w ln=>
  refine Xi λgk=>?_
  refine XU (show ZD σ 1 _ from m) λn l o qa hl m1=>?_;clear m;subst qa
  refine Np m1 λqa m2=>?_;clear m1;subst qa
  have m3:Zo (l++[(n,MO.lex [w,[46],[]] [] ln)]) λl'=>T5 (.tab 2) (.mk (Nat.succ n) l') 1 λh''=>k (.ref n) h'':=m2
  rw [Yw] at m3
  refine VI (show setL (.tab 2) (l++[(n,MO.lex [w,[46],[]] [] ln)]) 1 λl'=>k (.ref n) (.mk (n+1) l') from m3) λl' hk hs=>?_
  refine gk ?_;clear gk
  exact ⟨w,ln,n,l,rfl,rfl,hl,l',hk,hs⟩
 | _=>exact (show False from m).elim
theorem Ke (P:PW W) (C:LexOk W) (D:LexNew W) (Sk:StrOk W) (S:LexSh) (TS:TabS pS) (TX:TxtSh) (hm:Bd.glo "_netrclex"∈ctx) (hm2:Bd.glo "_law_stream"∈ctx) (hb:5≤b) {m₁:Ev} {e:Expr} {p1 p2 p3 p4:Pos} (h:XD W ctx (b+1) m₁ e)
  (he:∀ env,starEach [e] env=(false,eval e env) :: starEach [] env:=by intro _;rfl)
  (he2:∀ env,starEach [.Call (.Name "_law_stream" p2) [e] [] p3] env=(false,eval (.Call (.Name "_law_stream" p2) [e] [] p3) env) :: starEach [] env:=by intro _;rfl)
  (hc:∀ env,eval (.Call (.Name "_law_stream" p2) [e] [] p3) env=(do callWith p3 (← eval (.Name "_law_stream" p2) env) [] (backTo p3 (starEach [e] env)) (backToKw p3 (keywordEach [] env))):=by intro _;rfl)
  (hc2:∀ env,eval (.Call (.Name "_netrclex" p1) [.Call (.Name "_law_stream" p2) [e] [] p3] [] p4) env=(do callWith p4 (← eval (.Name "_netrclex" p1) env) [] (backTo p4 (starEach [.Call (.Name "_law_stream" p2) [e] [] p3] env)) (backToKw p4 (keywordEach [] env))):=by intro _;rfl) :
  XD W ctx (b+1) (e1 Tn m₁) (.Call (.Name "_netrclex" p1) [.Call (.Name "_law_stream" p2) [e] [] p3] [] p4):=λA env ρ σ vs s K Q E OA F O m q=>by
 refine Call_ (ZN P.glb F O hm C.cls (by decide) ?_) (hc2 env)
 have X:KK.In s.heap:=C.X.keeps O.base
 refine callWith_K (he:=he2 env) X C.keep ?_
 have hbt:backTo p4 (starEach [.Call (.Name "_law_stream" p2) [e] [] p3] env)=[(false,eval (.Call (.Name "_law_stream" p2) [e] [] p3) env)]:=by rw [he2 env];rfl
 rw [hbt]
 refine Xi λgk=>?_
 obtain ⟨fS,od,sl,pm,doc,hmS,hfS⟩:=Sk.fn
 refine gk ?_;clear gk
 refine spliced_cons (Call_ (ZN P.glb F O hm2 hmS (by decide) ?_) (hc env))
 refine callWith_def (o:=⟨.type "function",od,.func (Bx pm doc),sl⟩) rfl (args_cons (h A env ρ σ vs s _ _ _ OA F O m λu x ρ₁ σ₁ s₁ k₁ v₁ O₁ X₁=>args_nil ⟨O₁.base _ _ hfS,?_⟩) (he env)) (he env)
 refine Xi λgk=>?_
 obtain ⟨w,ln,n,l,rfl,rfl,hlt,l',hk,hs⟩:=MI k₁
 refine gk ?_;clear gk
 cases v₁ with | @txt sx tx _ _ hx=>
 refine Xi λgk=>?_
 obtain ⟨lx,rfl,hlx,hrun,hln⟩:=TX.sh _ _ _ hx
 obtain ⟨as,us',xs',e1,n1,gt,r1,S1⟩:=O₁.hr.obj n l rfl 1 _ hlt
 clear n1 r1;obtain ⟨rfl,rfl,op,rfl,hpd,hpo⟩:=(TS.sh _ _ _).mp S1
 refine gk ?_;clear gk
 have hp:=gt _ (.head _)
 have hρ2:ρ₁ 2=[pS]:=e1
 have hp0:W.h₀.get? pS=none:=O₁.hr.base pS ⟨2,by rw [hρ2];exact .head _⟩
 refine HK P Sk (OkA.mono OA (by omega)) O₁.zero hlx hfS hp hpd hpo hp0 λs₂ fs fsd lf fr cl cr st ssl rsl rct rpm hr kr mr celO cro vs n₂ op' O₂ Z gp2 ho2 k12=>?_
 have X₂:KK.In s₂.heap:=C.X.keeps O₂.base
 refine spliced_nil ⟨X₂,wpAny_call ?_⟩
 refine Xi λgk=>?_
 obtain ⟨hp₂,g₂,d₂,tk₂,os₂⟩:=s₂
 refine gk ?_;clear gk
 dsimp only at gp2 k12 X₂ Z
 refine make_core (makes_of X₂ D.makes) (looks_findIn X₂ D.fI) (λself=>bind_fn X₂ self D.isF) (.inl rfl) ?_
 have fresh:∀ a,hp₂.objs.size≤a→hp₂.get? a=none:=λa ha=>Z5 (Nat.not_lt.mpr ha)
 have base0:∀ a,hp₂.get? a=none→W.h₀.get? a=none:=λa ha=>Yc (λo e=>O₂.base _ _ e) ha
 have fd:=fresh hp₂.objs.size (Nat.le_refl _)
 have fx:=fresh (hp₂.objs.size+1) (Nat.le_succ _)
 have gd:((hp₂.push emptyDict).push (instObj cLex hp₂.objs.size)).get? hp₂.objs.size=some (dictOf [] 0):=by heap_get
 have gx:((hp₂.push emptyDict).push (instObj cLex hp₂.objs.size)).get? (hp₂.objs.size+1)=some (instObj cLex hp₂.objs.size):=by heap_get
 have kp:∀ b o,hp₂.get? b=some o→((hp₂.push emptyDict).push (instObj cLex hp₂.objs.size)).get? b=some o:=λb o e=>Heap.get?_push_of_some _ (Heap.get?_push_of_some _ e)
 have O₃:Ok0 W ⟨(hp₂.push emptyDict).push (instObj cLex hp₂.objs.size),g₂,d₂,tk₂,os₂⟩:=Zi (λb o e=>kp b o (O₂.base b o e)) O₂.gens O₂.os
 refine Fd P C D (OkA.tc (OkA.mono OA (by omega)) _ _ _) O₃ gx gd (base0 _ fx) (base0 _ fd) λh' tk' h1 h2 h3 h4 k1 k2 k3 k4 wt lt pb m' ex ed epb npb kk=>?_
 refine ⟨rfl,?_⟩
 have kk':∀ b o,hp₂.get? b=some o→h'.get? b=some o:=λb o e=>kk b o (Xx e fd) (kp b o e)
 have k1':∀ b o,b≠pS→s₁.heap.get? b=some o→hp₂.get? b=some o:=k12
 refine Xi λgk=>?_
 obtain ⟨X0,hX0⟩:∃ X0:LxA,X0={ a:=hp₂.objs.size+1,d:=hp₂.objs.size,pb,lf,fs,fsd,fr,cl,cr,st,ssl,rsl,rct,rpm,h1,h2,h3,h4,hr,k1,k2,k3,k4,kr,wt,mr,celO,cro }:=⟨_,rfl⟩
 have hall:X0.all=[hp₂.objs.size+1,hp₂.objs.size,pb,lf,fs,fsd,fr,cl,cr]:=by rw [hX0]
 have H':LexAt h' X0 1 lt m' [] 0 vs n₂:=by
  clear hall;subst hX0
  exact ⟨ex,ed,epb,kk' _ _ Z.glf,kk' _ _ Z.gfs,kk' _ _ Z.gfsd,kk' _ _ Z.gfr,kk' _ _ Z.gcl,kk' _ _ Z.gcr⟩
 have alive₂:∀ b∈[lf,fs,fsd,fr,cl,cr],∃ o,hp₂.get? b=some o:=fc ⟨_,Z.glf⟩ (fc ⟨_,Z.gfs⟩ (fc ⟨_,Z.gfsd⟩ (fc ⟨_,Z.gfr⟩ (fc ⟨_,Z.gcl⟩ (fc ⟨_,Z.gcr⟩ λ__ h=>nomatch h)))))
 have hpx:hp₂.objs.size+1≠pS:=(Xx gp2 fx).symm
 have hpd':hp₂.objs.size≠pS:=(Xx gp2 fd).symm
 have hpp:pb≠pS:=(Xx (kp _ _ gp2) npb).symm
 have hZp:∀ b∈[lf,fs,fsd,fr,cl,cr],b≠pS:=λb hb=>(Xx hp (Z.fresh b hb)).symm
 have hallp:∀ b∈X0.all,b≠pS:=by rw [hall];exact fc hpx (fc hpd' (fc hpp hZp))
 have hallf:∀ b∈X0.all,s₁.heap.get? b=none:=by
  rw [hall]
  exact fc (Yc (λo e=>k1' _ o hpx e) fx) (fc (Yc (λo e=>k1' _ o hpd' e) fd) (fc (Yc (λo e=>kp _ o (k1' _ o hpp e)) npb) Z.fresh))
 have nd:X0.all.Nodup:=by
  rw [hall]
  have z:=Z.nodup
  have a1:∀ b∈[lf,fs,fsd,fr,cl,cr],b≠hp₂.objs.size+1:=λb hb=>let ⟨o,e⟩:=alive₂ b hb;Xx e fx
  have a2:∀ b∈[lf,fs,fsd,fr,cl,cr],b≠hp₂.objs.size:=λb hb=>let ⟨o,e⟩:=alive₂ b hb;Xx e fd
  have a3:∀ b∈[lf,fs,fsd,fr,cl,cr],b≠pb:=λb hb=>let ⟨o,e⟩:=alive₂ b hb;Xx (kp _ _ e) npb
  exact List.nodup_cons.mpr ⟨λhb=>fc (p:=λb=>b≠hp₂.objs.size+1) (Ne.symm (Nat.succ_ne_self _)) (fc (Ne.symm (Xx gx npb)) a1) _ hb rfl,List.nodup_cons.mpr ⟨λhb=>fc (p:=λb=>b≠hp₂.objs.size) (Ne.symm (Xx gd npb)) a2 _ hb rfl,List.nodup_cons.mpr ⟨λhb=>a3 _ hb rfl,z⟩⟩⟩
 have Ks:LxS X0:=⟨nd,by clear H' hall hallf hallp nd;subst hX0;exact Z.cel,by clear H' hall hallf hallp nd;subst hX0;exact Z.code⟩
 obtain ⟨hX,ehX⟩:∃ hX,hX=h'.update pS λ__=>op:=⟨_,rfl⟩
 have gXp:hX.get? pS=some op:=by rw [ehX,Heap.get?_update_self _ (kk' _ _ gp2) (Obj.isFreed_of_fields hpd)]
 have gXo:∀ b,b≠pS→hX.get? b=h'.get? b:=λb hb=>by rw [ehX,Heap.get?_update_other _ _ (Ne.symm hb)]
 have HX:LexAt hX X0 1 lt m' [] 0 vs n₂:=Jr.mp λp hp'=>by
  have e:=Jr.mpr H' p hp'
  have hm:p.1∈X0.all:=List.mem_map_of_mem (f:=(·.1)) hp'
  rw [gXo _ (hallp _ hm)];exact e
 have h1n:n≠1:=λe=>by
  have:=O₁.lk_none
  rw [e,hlt] at this;cases this
 obtain ⟨Oa,Xa⟩:=O₁.newObj (t:=tk') (h':=hX) (o:=.lex [w,[46],[]] [] ln) (F:=X0.all) (by rw [hall];simp) hallf (λb o e=>by
   by_cases hb:b=pS
   ·rw [hb] at e ⊢
    rw [show s₁.heap.get? pS=some op from hp] at e
    rw [gXp,e]
   ·rw [gXo b hb];exact kk' _ _ (k1' b o hb e))
  ⟨JG X0 1 lt m' [] 0 vs n₂,[],[],rfl,by unfold JG;simp,Jr.mpr HX,.nil,(S.sh _ _ _ _ _ _).mpr ⟨rfl,X0,1,lt,m',0,vs,n₂,Ks,rfl,by rw [Z.L];exact hrun,by rw [IE,Z.L,hln],by
   have:=congrArg List.length Z.L
   rw [List.length_map] at this
   omega⟩⟩
 have hins:ins ρ₁ (n+1) X0.all (1+1)=[pS]:=by rw [YG _ _ (by omega)];exact hρ2
 obtain ⟨Ob,Xb⟩:=Oa.setObj (t:=tk') (h':=h') (o:=.tab 2) (i:=1) (o₀:=.tab 1) (by rw [MT O₁.lk_none,if_neg (Ne.symm h1n)];exact hlt) hs (λb o hb e=>by
   rw [hins] at hb
   have:b≠pS:=λz=>hb (by rw [z];exact .head _)
   rw [← gXo b this];exact e) (by
   rw [hins]
   exact ⟨[(pS,op')],[],[],rfl,by simp,λp hp'=>by rw [List.mem_singleton] at hp';subst hp';exact kk' _ _ gp2,.nil,(TS.sh2 _ _ _).mpr ⟨rfl,rfl,op',rfl,ho2⟩⟩)
 refine gk ?_;clear gk
 exact q _ _ _ _ _ hk (.ref (by rw [X5,hall])) ⟨Ob.hr,Ob.base,O₂.gens,O₂.os⟩ (X₁.trans (Xa.trans Xb))
end
end
section
set_option tactic.hygienic false
set_option maxHeartbeats 4000000
section
variable {prog:Program} {w:World} {A:Around} {E:Value→Shared→Prop} {s:Shared} {l:Addr} {vs:List Value} {n:Nat}
theorem Ll {k:Int} {t:Tok} {v:Value} {Q:Unit→Shared→Prop} (hl:s.heap.get? l=some (XR vs n)) (h0:0≤k) (hj:k.toNat<vs.length) (hfit:vs.length≤4096)
  (q:∀ h' n',h'.get? l=some (XR (vs.set k.toNat v) n')→(∀ b,b≠l→h'.get? b=s.heap.get? b)→Q () { s with heap:=h' }):wpAny (model prog w) A (PySem.setItem (.ref l) (.int k t) v) Q E s:=by
 have hl':=YJ hl
 have hj63:k<2 ^ 63:=by
  have h1:k<4097:=by omega
  exact Int.lt_trans h1 (by decide)
 unfold PySem.setItem
 try with_reducible refine wpAny_holding ?_
 first | refine wpAny_bind (wpAny_pure ?_) | skip
 refine wpAny_bind (wpAny_sequenceKey hl'.typeIs (by decide) ?_)
 refine wpAny_bind (wpAny_callSpecial?_slot (name:=Str.ofString "__setitem__") hl'.typeIs slot_list_setitem (wpAny_call_entry slot_list_setitem hl'.typeIs entry_list_setitem ?_ (args_list_setitem _ _ _)))
 show wpAny _ _ (Builtin.List.listSubscript? (.int k t) >>= _) _ _ s
 refine wpAny_bind (wpAny_listSubscript_int (fitsIndex_of h0 hj63) ?_)
 clear hj63
 obtain ⟨j,rfl⟩:=Int.eq_ofNat_of_zero_le h0
 have hj:j<vs.length:=hj
 have hj':j<vs.toArray.size:=by rw [List.size_toArray];exact hj
 have hx':vs.toArray[j]?=some vs.toArray[j]:=Array.getElem?_eq_getElem hj'
 show wpAny _ _ ((seqItemAt l j >>= λr=>pure (r.map (j,·))) >>= _) _ _ s
 refine wpAny_bind (wpAny_bind (wpAny_seqItemAt hl rfl (wpAny_pure ?_)))
 rw [hx']
 show wpAny _ _ (setSeqItemAt l j v >>= _) _ _ s
 have f6:∃ n',Obj.mapSeq (·.setIfInBounds j v) (XR vs n)=XR (vs.set j v) n':=by
  unfold Obj.mapSeq
  dsimp only
  have f4:vs.toArray.setIfInBounds j v=(vs.set j v).toArray:=by simp
  rw [f4]
  exact ⟨_,rfl⟩
 obtain ⟨n',f6⟩:=f6
 have fin:=q _ n' (by rw [Heap.get?_update_self _ hl (by rw [f6];rfl),f6];rfl) λb hb=>Heap.get?_update_other _ (Obj.mapSeq (·.setIfInBounds j v)) (Ne.symm hb)
 refine wpAny_bind (wpAny_setSeqItemAt hl rfl ?_)
 first
  | exact wpAny_bind (wpAny_pure (wpAny_pure ⟨.none,rfl,wpAny_pure fin⟩))
  | exact wpAny_pure ⟨.none,rfl,wpAny_pure fin⟩
end
variable [iC:Cs]
noncomputable def UL (p:Pa) (a i v:Ev):Ex:=λvs h n __ __ __=>a vs h λx h1=>Jm h1 x λxs=>ifB (Yr xs) (Y7 .unb vs p λvs1=>v vs1 h1 λz h2=>i vs1 h2 λy h3=>XM y λj=>ifB (ltI j 0) False (Gv j (len xs) λm=>ifB (Nat.blt m (len xs)) (P5 z xs m λxs'=>Y7 (.seq true xs') vs1 p λvs2=>n vs2 h3) False)) False
theorem Kk {z:MV} {k:List MV→Prop}:∀ {xs:List MV} {m:Nat},P5 z xs m k→k (xs.set m z)
 | [],m,h=>h
 | x :: xs,0,h=>h
 | x :: xs,m+1,h=>Kk (xs:=xs) (m:=m) (k:=λr=>k (x :: r)) h
theorem VRs.set {ρ:Rho} {h:Heap} {v:Value} {z:MV} (hv:VR ρ h v z):∀ {us:List Value} {xs:List MV} {m:Nat},VRs ρ h us xs→VRs ρ h (us.set m v) (xs.set m z)
 | _,_,_,.nil=>.nil
 | _,_,0,.cons a r=>.cons hv r
 | _,_,m+1,.cons a r=>.cons a (VRs.set hv r)
section
variable {W:Wd} {ctx:List Bd} {b:Nat}
theorem FR.less {env:Env} {vs:Vs} {ρ ρ':Rho} {h:Heap} (F:FR W ctx env vs ρ h) (k:∀ a,own ρ' a→own ρ a) (k':∀ i,ρ' (i+1)=ρ (i+1)):FR W ctx env vs ρ' h:=
 F.map (VR.less k k') λ__ __ __ e n=>⟨λx=>n (k _ x),e⟩
theorem FR.slot {env:Env} {vs1 vs2:Vs} {ρ:Rho} {h:Heap} {y:Str} {p:Pa} {m:Str→Option Value} {u:Value} {x:MV} (F:FR W ctx env vs1 ρ h) (hm:Bd.loc y p∈ctx) (hc:Y8 ctx y p=true) (hns:h.Ns env.locals m) (e:m y=some u) (hu:VR ρ h u x) (hg:Yb vs2 p=x)
  (hs:∀ q:Pa,q.length=p.length→q≠p→Yb vs2 q=Yb vs1 q):FR W ctx env vs2 ρ h:=by
 refine Xi λgk=>?_
 refine F.locE λm' hm' hl=>?_
 have em:m'=m:=hm'.eq_nsMap.trans hns.eq_nsMap.symm
 clear hns;subst em
 refine gk ?_;clear gk
 refine ⟨F.kind,F.glob,F.blt,F.nl,F.nc,F.apart,⟨m',hm',λz r hz=>⟨(hl z r hz).1,?_⟩⟩,λz r o hz=>?_,F.glo,F.above⟩
 ·clear hm;rcases Zg hc (.inl hz) with ⟨rfl,rfl⟩ | ⟨h1,h2,h3⟩
  ·rw [hg];exact .inr ⟨u,e,hu⟩
  ·rw [hs r h3 h2];exact (hl z r hz).2
 ·refine F.celE z r o hz λk1 c v e1 hv h4=>?_
  refine ⟨k1,c,v,e1,hv,?_⟩
  clear e hg;rcases Zg hc (.inr ⟨_,hz⟩) with ⟨rfl,rfl⟩ | ⟨h1,h2,h3⟩
  ·have k2:=(hl z r hm).1
   rcases k1 with k1 | ⟨_,k1⟩ <;> (rw [k1] at k2;cases k2)
  ·rw [hs r h3 h2];exact h4
theorem DO {A:Around} {env:Env} {ρ:Rho} {σ:H} {vs vs1:Vs} {s:Shared} {u:Value} {y:Str} {p:Pa} {Q:Unit→Shared→Prop} {E:Value→Shared→Prop}
  (F:FR W ctx env vs ρ s.heap) (nb:NB W env) (O:Ok W ρ σ s) (hm:Bd.loc y p∈ctx) (hc:Y8 ctx y p=true) (hg:Yb vs1 p=.unb) (hs:∀ q:Pa,q.length=p.length→q≠p→Yb vs1 q=Yb vs q)
  (q:∀ h' m tk,Ok W ρ σ { s with heap:=h',toks:=tk }→ExtS env ρ ρ s.heap h'→FR W ctx env vs1 ρ h'→h'.Ns env.locals m→m y=some u→(∀ b o,b≠env.locals→s.heap.get? b=some o→h'.get? b=some o)→Q () { s with heap:=h',toks:=tk }):wpAny (model W.prog W.w) A (storeName env y u) Q E s:=by
 refine Xi λgk=>?_
 refine F.locE λmm hns hl=>?_
 refine gk ?_;clear gk
 have hpos:(env.scope.kind==.class||(env.scope.kind==.module&&env.locals != env.globals))=false:=by rw [F.kind];rfl
 refine wpAny_storeName_local (hl y p hm).1 hns (λh' hn' hsb=>?_) hpos
 have kk:∀ b o,s.heap.get? b=some o→¬ plc env b→h'.get? b=some o:=λb o e np=>(hsb.2 b λz=>np (.inl z)).trans e
 have X:ExtS env ρ ρ s.heap h':=⟨λ__ __=>rfl,λ__ x=>.inl x,λb o e __ np=>kk b o e np,λb __ o e np=>kk b o e np⟩
 exact q h' _ _ (O.stored F nb kk) X (F.upd X hns hl hn' hsb hm hc (.inl hg) hs) hn' (by rw [if_pos rfl]) λb o hb e=>(hsb.2 b hb).trans e
theorem MC {p:Pa} {ma mi mv:Ev} {y:Str} {e idx val:Expr} {p1 p2 p3 p4 q1 q2 q3:Pos} {l:List Ex} {rest:List Stmt} (G:Glb W) (hno:W.mg "list" = none) (hgl:Bd.glo "list"∈ctx) (hm:Bd.loc y p∈ctx) (hc:Y8 ctx y p=true) (hd:(y==("__debug__":Str))=false)
  (ha:XD W ctx (b+1) ma e) (hv:XD W ctx (b+1) mv val) (hi:XD W ctx (b+1) mi idx) (hr:ZB W ctx (b+1) (sL l) rest) (he:∀ env,starEach [e] env=[(false,eval e env)]:=by intro _;rfl)
  (hcl:∀ env,eval (.Call (.Name "list" p2) [e] [] p3) env=(do callWith p3 (← eval (.Name "list" p2) env) [] (backTo p3 (starEach [e] env)) (backToKw p3 (keywordEach [] env))):=by intro _;rfl)
  (hs1:∀ env,swapsWith (.Call (.Name "list" p2) [e] [] p3) (some (.Name y p1)) p4.line env=pure false:=by intro _;rfl) (hs2:∀ env,swapsWith val (some (.Subscript (.Name y q1) idx q2)) q3.line env=pure false:=by intro _;rfl) :
  ZB W ctx (b+1) (sL (UL p ma mi mv :: l)) (.Assign [.Name y p1] (.Call (.Name "list" p2) [e] [] p3) p4 :: .Assign [.Subscript (.Name y q1) idx q2] val q3 :: rest):=λA env ρ σ vs s n bk ct r Q E OA nb F O m q=>by
 have m':UL p ma mi mv vs σ (λvs' h'=>sL l vs' h' n bk ct r) bk ct r:=m
 refine wpAny_execs_cons (wpAny_Assign_Name (Call_ (YP G F O hgl hno (by decide) (by decide +kernel:bootBuiltins "list" = some (.type "list")) (by decide) ?_) (hcl env)) (hs1 env))
 refine Yx (.inl ⟨_,rfl⟩) (args_cons (ha A env ρ σ vs s _ _ _ OA F O m' λu x ρ₁ σ₁ s₁ k₁ v₁ O₁ X₁=>args_nil ?_) (he env)) (he env) rfl
 refine Xi λgk=>?_
 refine Zw k₁ λxs qa k₂=>?_;clear k₁;subst qa
 refine v₁.seqIE λa us qa no hs hr'=>?_;clear v₁;subst qa
 obtain ⟨na,hs⟩:=hs
 refine gk ?_;clear gk
 refine Xi λgk=>?_;rcases Xo k₂ with ⟨hz,k₃⟩ | ⟨_,k₃⟩ <;> (refine gk ?_;clear gk)
 rotate_left
 ·exact k₃.elim
 have hz:=Ye hz
 have hzu:us.length≤4096:=by rw [hr'.length];exact hz
 refine call_list_seq a (.inl rfl) hs rfl rfl (λh₂ c' kk hD=>?_) (by rw [List.size_toArray,sizeLine_eq];omega)
 refine Xi λgk=>?_
 obtain ⟨D,hDe⟩:∃ D,D=s₁.heap.objs.size:=⟨_,rfl⟩
 refine gk ?_;clear gk
 rw [← hDe] at hD ⊢
 have hDf:s₁.heap.get? D=none:=by rw [hDe];exact XZ _
 have F₁:=F.ext X₁
 have O₂:=O₁.morePriv (t:=s₁.toks) hDf kk ⟨_,hD⟩
 have F₂:=F₁.morePriv hDf kk
 refine Xi λgk=>?_
 refine Zt k₃ λvs1 k₄ g1 g2=>?_
 refine gk ?_;clear gk
 refine DO F₂ nb O₂ hm hc g1 g2 λh₃ mm tk₃ O₃ X₃ F₃ hn₃ em k23=>?_
 have hDl:D≠env.locals:=by
  clear F₃ O₂ O₃ X₃ em hDe hDf;rintro rfl
  obtain ⟨o,es,ep,ho,hd',_⟩:=(F₂.loc).choose_spec.1
  rw [hD] at ho;cases ho;cases hd'
 have hD₃:=k23 D _ hDl hD
 have hDρ:D∈ins ρ₁ 0 (D :: ρ₁ 0) 0:=by rw [X5];exact .head _
 refine wpAny_execs_cons (wpAny_Assign_Subscript (hv A env _ σ₁ vs1 _ _ _ _ OA F₃ O₃ k₄ λzv z ρ₄ σ₄ s₄ k₅ v₄ O₄ X₄=>?_) (hs2 env))
 have F₄:=F₃.ext X₄
 have hn₄:s₄.heap.Ns env.locals mm:=Ns.ext X₄ F₃.nl hn₃
 have hk:env.kindOf y=some .local:=by refine F.locE λ__ __ h=>?_;exact (h y p hm).1
 refine wpAny_Name (wpAny_loadName_local F.kind hk hn₄ em ?_) hd
 refine hi A env ρ₄ σ₄ vs1 s₄ _ _ _ OA F₄ O₄ k₅ λiv yv ρ₅ σ₅ s₅ k₆ v₅ O₅ X₅=>?_
 have F₅:=F₄.ext X₅
 have X₃₅:=X₄.trans X₅
 refine Xi λgk=>?_
 refine Xs k₆ λj qa k₇=>?_;clear k₆;subst qa
 refine v₅.intIE λtj qa=>?_;clear v₅;subst qa
 refine gk ?_;clear gk
 refine Xi λgk=>?_;rcases Xo k₇ with ⟨_,k₈⟩ | ⟨hj0,k₈⟩ <;> (refine gk ?_;clear gk)
 ·exact k₈.elim
 rw [Gb,decide_eq_false_iff_not] at hj0
 refine Xi λgk=>?_
 refine JI k₈ λmm' k₉ hmm=>?_
 refine gk ?_;clear gk
 have hmj:mm'=j.toNat:=by
  refine Xi λgk=>?_;rcases hmm with ⟨_,_,e⟩ | ⟨h,_⟩ <;> (refine gk ?_;clear gk)
  ·exact e
  ·omega
 refine Xi λgk=>?_;rcases Xo k₉ with ⟨hlt,k10⟩ | ⟨_,k10⟩ <;> (refine gk ?_;clear gk)
 rotate_left
 ·exact k10.elim
 have hlt:mm'<us.length:=by
  have:=Nat.le_of_ble_eq_true (show Nat.ble (mm'+1) (len xs)=true from hlt)
  rw [Yh,← hr'.length] at this
  exact this
 have k11:=Kk k10
 refine Xi λgk=>?_
 refine Zt k11 λvs2 k12 g3 g4=>?_
 refine gk ?_;clear gk
 have e5:ρ₅ 0=D :: ρ₁ 0:=by
  have:=X₃₅.same 0 (by rw [X5];simp)
  rw [this,X5]
 have hD₅:s₅.heap.get? D=some (XR us c'):=X₃₅.prv D hDρ _ hD₃
 have hD5ρ:D∈ρ₅ 0:=by rw [e5];exact .head _
 refine Ll (k:=j) hD₅ (by omega) (by rw [← hmj];exact hlt) hzu λh₆ n₆ e₆ k₆'=>?_
 have k56:∀ b o,b≠D→s₅.heap.get? b=some o→h₆.get? b=some o:=λb o hb e=>(k₆' b hb).trans e
 refine Xi λgk=>?_
 refine O₅.setPrivE (t:=s₅.toks) hD5ρ k56 ⟨_,e₆⟩ λO₆ X₆ mv6=>?_
 have k56':∀ b o,s₅.heap.get? b=some o→¬ own ρ₅ b→h₆.get? b=some o:=λb o e n=>k56 b o (λz=>n ⟨0,z▸hD5ρ⟩) e
 refine O₆.lessPrivE e5 λO₇ ko kr=>?_
 have F₆:FR W ctx env vs1 (ins ρ₅ 0 (ρ₁ 0)) h₆:=(F₅.extK k56').less ko kr
 have hn₆:h₆.Ns env.locals mm:=by
  have hn₅:=Ns.ext X₅ F₄.nl hn₄
  exact hn₅.at' λo e=>k56' _ o e F₅.nl
 have nDρ:∀ i,D ∉ ρ₁ i:=λi z=>by obtain ⟨o,e⟩:=O₁.hr.alive ⟨i,z⟩;rw [hDf] at e;cases e
 refine gk ?_;clear gk
 have nD:¬ own (ins ρ₅ 0 (ρ₁ 0)) D:=λ⟨i,hi⟩=>by
  unfold ins at hi
  split at hi
  ·exact nDρ 0 hi
  ·rename_i hi0
   exact hi0 (O₅.hr.disj i 0 D hi hD5ρ)
 have ur:VRs (ins ρ₅ 0 (ρ₁ 0)) h₆ us xs:=by
  have r2:=hr'.more hDf kk
  have r3:VRs (ins ρ₁ 0 (D :: ρ₁ 0)) h₃ us xs:=VRs.extS F₂ X₃ r2
  have r5:=r3.ext X₃₅
  exact (r5.extK k56').less ko kr
 have zr:VR (ins ρ₅ 0 (ρ₁ 0)) h₆ zv z:=((v₄.ext X₅).extK k56').less ko kr
 have F₇:FR W ctx env vs2 (ins ρ₅ 0 (ρ₁ 0)) h₆:=F₆.slot hm hc hn₆ em (.seq nD ⟨n₆,by rw [← hmj] at e₆;exact e₆⟩ (ur.set zr)) g3 g4
 have X₁₆:ExtS env ρ₁ (ins ρ₅ 0 (ρ₁ 0)) s₁.heap h₆:=by
  have XP:ExtP (λb=>plc env b∨b=D) (ins ρ₁ 0 (D :: ρ₁ 0)) ρ₅ h₂ h₆:=by
   refine ⟨λi hi=>X₃₅.same i hi,λa ha=>?_,λb o e n1 n2=>?_,λb hb o e n2=>?_⟩
   ·refine Xi λgk=>?_;rcases X₃₅.fresh a ha with h | h <;> (refine gk ?_;clear gk)
    ·exact .inl h
    ·cases e:h₂.get? a with
     | none=>exact .inr rfl
     | some o=>
      by_cases hpl:a=env.locals
      ·obtain ⟨o',_,_,e',_⟩:=hn₃
       rw [hpl,e'] at h;cases h
      ·have:=k23 a o hpl e;rw [this] at h;cases h
   ·exact k56 b o (λz=>n2 (.inr z)) (X₃₅.keep b o (k23 b o (λz=>n2 (.inl (.inl z))) e) n1)
   ·exact k56 b o (λz=>n2 (.inr z)) (X₃₅.prv b hb o (k23 b o (λz=>n2 (.inl (.inl z))) e))
  refine ⟨λi hi=>?_,λa ha=>?_,λb o e n1 n2=>?_,λb hb o e n2=>?_⟩
  ·by_cases z:i=0
   ·clear hi;subst z;rw [X5]
   ·rw [YG _ _ z,XP.same i (by rw [YG _ _ z];exact hi),YG _ _ z]
  ·have ho:own ρ₅ a:=ko a ha
   refine Xi λgk=>?_;rcases XP.fresh a ho with h | h <;> (refine gk ?_;clear gk)
   ·clear F₂ F₃ O₂ O₃ XP X₃ X₃₅ X₄ X₆ e5 em e₆ hD hD5ρ hDe hDl hDρ hD₃ hD₅ k56 k₆' nD nDρ;rcases Zn.mp h with rfl | h
    ·exact .inr hDf
    ·exact .inl h
   ·cases e:s₁.heap.get? a with
    | none=>exact .inr rfl
    | some o=>have:=kk a o e;rw [h] at this;cases this
  ·have hbD:b≠D:=Mine.neA e hDf
   exact XP.keep b o (kk b o e) (λh=>(Zn.mp h).elim hbD n1) λh=>h.elim n2 hbD
  ·have hbD:b≠D:=Mine.neA e hDf
   exact XP.prv b (by rw [X5];exact .tail _ hb) o (kk b o e) λh=>h.elim n2 hbD
 refine hr A env _ σ₅ vs2 _ n bk ct r Q E OA nb F₇ O₇ k12 λρ₈ σ₈ s₈ O₈ X₈ vs8 F₈=>?_
 exact q ρ₈ σ₈ s₈ O₈ ((X₁.toS.trans X₁₆ F₁.alive).trans X₈ F₇.alive) vs8 F₈
end
end
section
set_option tactic.hygienic false
set_option maxHeartbeats 4000000
section
noncomputable abbrev RG:Pa:=[false,false,false]
noncomputable abbrev WL:Pa:=[false,false,true]
noncomputable abbrev Kq:Pa:=[false,true,false]
noncomputable abbrev Dc:Pa:=[false,true,true]
noncomputable abbrev Do:Pa:=[true,false,false]
noncomputable abbrev T9:Pa:=[true,false,true]
noncomputable def f0t:Vs:=(.nd (.nd (.nd (.lf .unb) (.lf .unb)) (.nd (.lf .unb) (.lf .unb))) (.nd (.nd (.lf .unb) (.lf .unb)) (.nd (.lf .unb) (.lf .unb))))
noncomputable def f0b:Ex:=sL [XO (tV Do) (Xl (.int 0)),
 Ku (tV T9) (Mk (Xq ZG (Xe WL) (Xl (.int 1))) (Xl (.int (-1))) (Xl (.int (-1)))) (sL [sIf (X4 cEq (YB (Xe RG) (Xe T9)) (Xe Kq)) (sL [Ca]) (sL []),
 sIf (X4 cEq (Xe Dc) (Xl (.int 0))) (sL [FN Do TU (Xq Mt (Xl (.int 2)) (Xe T9)),
 XO (tV Kq) (Xq ZG (Xq ZG (Xl (.int 3)) (Xe Kq)) (YB (Xe RG) (Xe T9)))]) (sL [sIf (X4 cEq (Xq Vh (Xq M7 (Xq ZG (Xe Kq) (YB (Xe RG) (Xe T9))) (Xe Dc)) (Xl (.int 3))) (Xl (.int 1))) (sL [FN Do TU (Xq XN (Xl (.int 1)) (YB (JM [Xl (.int 0),Xl (.int 2),Xl (.int 7)]) (Xe T9))),
 XO (tV Kq) (Xq Vh (Xq XN (YB (Xe RG) (Xe T9)) (Xq M7 (Xl (.int 2)) (Xe Dc))) (Xl (.int 3)))]) (sL [FN Do TU (Xq XN (Xq XN (Xl (.int 2)) (YB (JM [Xl (.int 0),Xl (.int 1),Xl (.int 5)]) (Xe T9))) (YB (JM [Xl (.int 0),Xl (.int 2),Xl (.int 7)]) (Xe T9)))])])]),
 Yn (Xe Do)]
noncomputable def f0:Fn:=Ji [RG,WL,Kq,Dc] f0t f0b
noncomputable abbrev M9:Pa:=[false,false,false,false]
noncomputable abbrev Mu:Pa:=[false,false,false,true]
noncomputable abbrev MK:Pa:=[false,false,true,false]
noncomputable abbrev MX:Pa:=[false,false,true,true]
noncomputable abbrev Vu:Pa:=[false,true,false,false]
noncomputable abbrev DX:Pa:=[false,true,false,true]
noncomputable abbrev Hl:Pa:=[false,true,true,false]
noncomputable abbrev WX:Pa:=[false,true,true,true]
noncomputable abbrev I8:Pa:=[true,false,false,false]
noncomputable abbrev IK:Pa:=[true,false,false,true]
noncomputable abbrev NT:Pa:=[true,false,true,false]
noncomputable def f1t:Vs:=(.nd (.nd (.nd (.nd (.lf .unb) (.lf .unb)) (.nd (.lf .unb) (.lf .unb))) (.nd (.nd (.lf .unb) (.lf .unb)) (.nd (.lf .unb) (.lf .unb)))) (.nd (.nd (.nd (.lf .unb) (.lf .unb)) (.nd (.lf .unb) (.lf .unb))) (.nd (.nd (.lf .unb) (.lf .unb)) (.nd (.lf .unb) (.lf .unb)))))
noncomputable def f1b:Ex:=sL [D7 (Rm (X4 cGt (Xe MK) (Xl (.int 0))) (X4 cEq (YB (Xe M9) (Xq ZG (Xe MK) (Xl (.int 1)))) (YB (Xe Mu) (Xq ZG (Xe MK) (Xl (.int 1)))))) (sL [FN MK ZG (Xl (.int 1))]),
 sIf (X4 cEq (Xe MK) (Xl (.int 0))) (sL [Yn (YI [Xl (.int 0),Xl (.int 1)])]) (sL []),
 XO (tV Vu) (Xq ZG (Xe MK) (Xl (.int 1))),
 XO (JX 2 [tV Hl,tV DX]) (YI [YB (Xe M9) (Xe Vu),YB (Xe Mu) (Xe Vu)]),
 sIf (X4 cEq (Xe MX) (Xl (.int 0))) (sL [XO (tV WX) (Xq ZG (Xq ZG (Xl (.int 3)) (Xe DX)) (Xe Hl)),
 XO (tV I8) (Xq XN (Xq XN (YN f0 [Xe M9,Xe Vu,Xe WX,Xl (.int 0)]) (Xl (.int 1))) (YN f0 [Xe Mu,Xe Vu,Xe WX,Xl (.int 0)])),
 XO (tV IK) (Xq XN (Xq XN (Xq XN (YN f0 [Xe M9,Xe Vu,Xe Hl,Xl (.int 0)]) (Xq Mt (Xl (.int 2)) (Xe Vu))) (Xl (.int 1))) (YN f0 [Xe Mu,Xe Vu,Xe DX,Xl (.int 0)])),
 Yn (YI [e2 Pu (Xe I8) (Xe IK),T7 (X4 cEq (Xe I8) (Xe IK)) (Xl (.int 2)) (Xl (.int 1))])]) (sL []),
 XO (tV NT) (Xq Vh (Xq XN (Xe DX) (Xq M7 (Xl (.int 2)) (Xe MX))) (Xl (.int 3))),
 sIf (X4 cNe (Xe NT) (Xe Hl)) (sL [Yn (YI [Xq XN (Xq XN (YN f0 [Xe M9,Xe Vu,Xe NT,Xe MX]) (Xl (.int 1))) (YN f0 [Xe Mu,Xe Vu,Xe NT,Xq ZG (Xl (.int 3)) (Xe MX)]),Xl (.int 1)])]) (sL []),
 Yn (YI [Xq XN (Xq XN (Xq XN (YN f0 [Xe M9,Xe Vu,Xe NT,Xe MX]) (Xl (.int 2))) (YB (JM [Xl (.int 0),Xl (.int 1),Xl (.int 5)]) (Xe Vu))) (YN f0 [Xe Mu,Xe Vu,Xe DX,Xq ZG (Xl (.int 3)) (Xe MX)]),Xl (.int 1)])]
noncomputable def f1:Fn:=Ji [M9,Mu,MK,MX] f1t f1b
noncomputable abbrev It:Pa:=[false,false,false,false]
noncomputable abbrev Dh:Pa:=[false,false,false,true]
noncomputable abbrev Wt:Pa:=[false,false,true,false]
noncomputable abbrev W3:Pa:=[false,false,true,true]
noncomputable abbrev Wj:Pa:=[false,true,false,false]
noncomputable abbrev IJ:Pa:=[false,true,false,true]
noncomputable abbrev Wb:Pa:=[false,true,true,false]
noncomputable abbrev IL:Pa:=[false,true,true,true]
noncomputable abbrev CL:Pa:=[true,false,false,false]
noncomputable abbrev Pi:Pa:=[true,false,false,true]
noncomputable def f2t:Vs:=(.nd (.nd (.nd (.nd (.lf .unb) (.lf .unb)) (.nd (.lf .unb) (.lf .unb))) (.nd (.nd (.lf .unb) (.lf .unb)) (.nd (.lf .unb) (.lf .unb)))) (.nd (.nd (.nd (.lf .unb) (.lf .unb)) (.nd (.lf .unb) (.lf .unb))) (.nd (.nd (.lf .unb) (.lf .unb)) (.nd (.lf .unb) (.lf .unb)))))
noncomputable def f2b:Ex:=sL [XO (JX 2 [tV Wj,tV W3]) (YI [C5,C5]),
 Ku (tV IJ) (e1 Zl (Xq Mt (Xl (.int 3)) (Xe Dh))) (sL [XO (tV Wb) (Yo CL (e1 Zl (Xe Dh)) (Xq Vh (Xq U6 (Xe IJ) (Xq Mt (Xl (.int 3)) (Xe CL))) (Xl (.int 3)))),
 XO (tV IL) (eM isStr ZR (Xl (.str [])) (Yo Pi (Xe Wb) (YB (Xl (.str [34,92,35])) (Xe Pi)))),
 XO (MH 2 [Fz (Xe W3) (Xe IL),Fz (Xe Wj) (Xe IL)]) (YN f1 [Xe It,Xe Wb,Xe Dh,Xe Wt])]),
 Yn (YI [Xe W3,Xe Wj])]
noncomputable def f2:Fn:=Ji [It,Dh,Wt] f2t f2b
noncomputable abbrev M3:Pa:=[false,false]
noncomputable abbrev MQ:Pa:=[false,true]
noncomputable abbrev Tm:Pa:=[true,false]
noncomputable abbrev ME:Pa:=[true,true]
noncomputable def f3t:Vs:=(.nd (.nd (.lf .unb) (.lf .unb)) (.nd (.lf .unb) (.lf .unb)))
noncomputable def f3b:Ex:=sL [XO (JX 3 [tV ME,tV Tm,tV MQ]) (YI [Xq Vh (Xe M3) (Xl (.int 9)),Xq Vh (Xq U6 (Xe M3) (Xl (.int 9))) (Xl (.int 9)),Xq Vh (Xq U6 (Xe M3) (Xl (.int 81))) (Xl (.int 9))]),
 sIf (Rm (X4 cEq (Xe MQ) (Xe Tm)) (X4 cEq (Xe Tm) (Xe ME))) (sL [Yn (YI [Xe MQ,Xe Tm,Xq Vh (Xq XN (Xe ME) (Xl (.int 1))) (Xl (.int 9))])]) (sL []),
 Yn (YI [Xe MQ,Xe Tm,Xe ME])]
noncomputable def f3:Fn:=Ji [M3] f3t f3b
noncomputable abbrev Ju:Pa:=[false,false,false]
noncomputable abbrev JF:Pa:=[false,false,true]
noncomputable abbrev Y3:Pa:=[false,true,false]
noncomputable abbrev Vj:Pa:=[false,true,true]
noncomputable abbrev ZF:Pa:=[true,false,false]
noncomputable abbrev TH:Pa:=[true,false,true]
noncomputable def f4t:Vs:=(.nd (.nd (.nd (.lf .unb) (.lf .unb)) (.nd (.lf .unb) (.lf .unb))) (.nd (.nd (.lf .unb) (.lf .unb)) (.nd (.lf .unb) (.lf .unb))))
noncomputable def f4b:Ex:=sL [XO (tV Y3) (YB (JM [Xl (.str []),Xl (.str [32]),Xl (.str [9,10]),Xl (.str [13,10,32,10])]) (Xq Vh (Xq U6 (Xe JF) (Xl (.int 3))) (Xl (.int 4)))),
 XO (tV Vj) (eM isStr ZR (Xl (.str [])) (Yo ZF (Xe Ju) (T7 (X4 cEq (Xe ZF) (Xl (.str [35]))) (Xe ZF) (Xq XN (Xl (.str [92])) (Xe ZF))))),
 sIf (X4 cEq (Xq Vh (Xe JF) (Xl (.int 3))) (Xl (.int 0))) (sL [Yn (Xq XN (Xq XN (Xq XN (Xe Y3) (Xe Vj)) (Xe Y3)) (Xl (.str [32,46])))]) (sL []),
 sIf (X4 cEq (Xq Vh (Xe JF) (Xl (.int 3))) (Xl (.int 1))) (sL [Yn (Xq XN (Xq XN (Xq XN (Xq XN (Xq XN (Xe Y3) (Xl (.str [34]))) (Xe Vj)) (Xl (.str [34]))) (Xe Y3)) (Xl (.str [32,46])))]) (sL []),
 Yn (Xq XN (Xq XN (Xq XN (Xq XN (Xq XN (Xe Y3) (Xl (.str [34]))) (eM isStr ZR (Xl (.str [])) (Yo TH (Xe Ju) (Xq XN (Xl (.str [92])) (Xe TH))))) (Xl (.str [34]))) (Xe Y3)) (Xl (.str [32,46])))]
noncomputable def f4:Fn:=Ji [Ju,JF] f4t f4b
end
section
variable [iC:Cs] {W:Wd}
noncomputable def c0:List Bd:=[.loc "places" RG,.loc "count" WL,.loc "goal" Kq,.loc "mode" Dc,.loc "far" Do,.loc "k" T9,.glo "range"]
theorem CK (P:PW W):ZB W c0 2 f0b (Yl 24):=
 @Xj _ _ _ _ _ _ _ _ (XI (.inl dk) dk Xk)
 (@Xj _ _ _ _ _ _ _ _ (ZU (XW (.inl dk) dk) (J3 P.glb dk (P.nob _ dk) rfl (Xn Yk (Xd dk dk) Xk) Jg Jg) (@Xj _ _ _ _ _ _ _ _ (Yg (XE Yi (XG (Xd dk dk) (Xd dk dk)) (Xd dk dk) rfl) (Xj B4
 (Xw)) (Xw))
 (@Xj _ _ _ _ _ _ _ _ (Yg (XE Yi (Xd dk dk) Xk rfl) (@Xj _ _ _ _ _ _ _ _ (Vk (.inl dk) dk dk Gp (Xn Jc Xk (Xd dk dk)))
 (@Xj _ _ _ _ _ _ _ _ (XI (.inl dk) dk (Xn Yk (Xn Yk Xk (Xd dk dk)) (XG (Xd dk dk) (Xd dk dk))))
 (Xw))) (@Xj _ _ _ _ _ _ _ _ (Yg (XE Yi (Xn YM (Xn Zk (Xn Yk (Xd dk dk) (XG (Xd dk dk) (Xd dk dk))) (Xd dk dk)) Xk) Xk rfl) (@Xj _ _ _ _ _ _ _ _ (Vk (.inl dk) dk dk Gp (Xn XJ Xk (XG (YV (Xg Xk (Xg Xk (Xg Xk Xz))) (by decide)) (Xd dk dk))))
 (@Xj _ _ _ _ _ _ _ _ (XI (.inl dk) dk (Xn YM (Xn XJ (XG (Xd dk dk) (Xd dk dk)) (Xn Zk Xk (Xd dk dk))) Xk))
 (Xw))) (@Xj _ _ _ _ _ _ _ _ (Vk (.inl dk) dk dk Gp (Xn XJ (Xn XJ Xk (XG (YV (Xg Xk (Xg Xk (Xg Xk Xz))) (by decide)) (Xd dk dk))) (XG (YV (Xg Xk (Xg Xk (Xg Xk Xz))) (by decide)) (Xd dk dk))))
 (Xw)))
 (Xw)))
 (Xw))))
 (@Xj _ _ _ _ _ _ _ _ (X9 (Xd dk dk))
 (Xw)))
theorem J7 (P:PW W):JN W 3 f0 "_law_home":=
 Y2 (ps:=[("places",RG),("count",WL),("goal",Kq),("mode",Dc)]) (L:=3) (i:=24) 12 P (CK P) (by kernel_rfl) dk (Po λ__ __ __ __ __ __ __ __ __=>by kernel_rfl) ⟨by kernel_rfl,by kernel_rfl,by kernel_rfl⟩
noncomputable def c1:List Bd:=[.loc "here" M9,.loc "there" Mu,.loc "count" MK,.loc "mode" MX,.loc "last" Vu,.loc "left" DX,.loc "goal" Hl,.loc "third" WX,.loc "once" I8,.loc "twice" IK,.loc "aside" NT,.glo "_law_home",.glo "min"]
theorem PS (P:PW W):ZB W c1 3 f1b (Yl 25):=
 @Xj _ _ _ _ _ _ _ _ (RN (Tw (XE Bw (Xd dk dk) Xk rfl) (XE Yi (XG (Xd dk dk) (Xn Yk (Xd dk dk) Xk)) (XG (Xd dk dk) (Xn Yk (Xd dk dk) Xk)) rfl)) (@Xj _ _ _ _ _ _ _ _ (Vk (.inl dk) dk dk B5 Xk)
 (Xw)))
 (@Xj _ _ _ _ _ _ _ _ (Yg (XE Yi (Xd dk dk) Xk rfl) (@Xj _ _ _ _ _ _ _ _ (X9 (X2 (Xg Xk (Xg Xk Xz)) (by decide)))
 (Xw)) (Xw))
 (@Xj _ _ _ _ _ _ _ _ (XI (.inl dk) dk (Xn Yk (Xd dk dk) Xk))
 (@Xj _ _ _ _ _ _ _ _ (Y6 dk dk dk dk (X2 (Xg (XG (Xd dk dk) (Xd dk dk)) (Xg (XG (Xd dk dk) (Xd dk dk)) Xz)) (by decide)) (by intro env h h0 h1;exact LG h h0 h1 dk rfl rfl rfl rfl rfl))
 (@Xj _ _ _ _ _ _ _ _ (Yg (XE Yi (Xd dk dk) Xk rfl) (@Xj _ _ _ _ _ _ _ _ (XI (.inl dk) dk (Xn Yk (Xn Yk Xk (Xd dk dk)) (Xd dk dk)))
 (@Xj _ _ _ _ _ _ _ _ (XI (.inl dk) dk (Xn XJ (Xn XJ (XY P.glb dk (J7 P) (Xg (Xd dk dk) (Xg (Xd dk dk) (Xg (Xd dk dk) (Xg Xk Xz))))) Xk) (XY P.glb dk (J7 P) (Xg (Xd dk dk) (Xg (Xd dk dk) (Xg (Xd dk dk) (Xg Xk Xz)))))))
 (@Xj _ _ _ _ _ _ _ _ (XI (.inl dk) dk (Xn XJ (Xn XJ (Xn XJ (XY P.glb dk (J7 P) (Xg (Xd dk dk) (Xg (Xd dk dk) (Xg (Xd dk dk) (Xg Xk Xz))))) (Xn Jc Xk (Xd dk dk))) Xk) (XY P.glb dk (J7 P) (Xg (Xd dk dk) (Xg (Xd dk dk) (Xg (Xd dk dk) (Xg Xk Xz)))))))
 (@Xj _ _ _ _ _ _ _ _ (X9 (X2 (Xg (Mm P.glb dk (P.nob _ dk) dk boot_min (.inr ⟨_,rfl⟩) Kf (Xd dk dk) (Xd dk dk)) (Xg (G9 (XE Yi (Xd dk dk) (Xd dk dk) rfl) Xk Xk) Xz)) (by decide)))
 (Xw))))) (Xw))
 (@Xj _ _ _ _ _ _ _ _ (XI (.inl dk) dk (Xn YM (Xn XJ (Xd dk dk) (Xn Zk Xk (Xd dk dk))) Xk))
 (@Xj _ _ _ _ _ _ _ _ (Yg (XE Zx (Xd dk dk) (Xd dk dk) rfl) (@Xj _ _ _ _ _ _ _ _ (X9 (X2 (Xg (Xn XJ (Xn XJ (XY P.glb dk (J7 P) (Xg (Xd dk dk) (Xg (Xd dk dk) (Xg (Xd dk dk) (Xg (Xd dk dk) Xz))))) Xk) (XY P.glb dk (J7 P) (Xg (Xd dk dk) (Xg (Xd dk dk) (Xg (Xd dk dk) (Xg (Xn Yk Xk (Xd dk dk)) Xz)))))) (Xg Xk Xz)) (by decide)))
 (Xw)) (Xw))
 (@Xj _ _ _ _ _ _ _ _ (X9 (X2 (Xg (Xn XJ (Xn XJ (Xn XJ (XY P.glb dk (J7 P) (Xg (Xd dk dk) (Xg (Xd dk dk) (Xg (Xd dk dk) (Xg (Xd dk dk) Xz))))) Xk) (XG (YV (Xg Xk (Xg Xk (Xg Xk Xz))) (by decide)) (Xd dk dk))) (XY P.glb dk (J7 P) (Xg (Xd dk dk) (Xg (Xd dk dk) (Xg (Xd dk dk) (Xg (Xn Yk Xk (Xd dk dk)) Xz)))))) (Xg Xk Xz)) (by decide)))
 (Xw))))))))
theorem PI (P:PW W):JN W 4 f1 "_law_due":=
 Y2 (ps:=[("here",M9),("there",Mu),("count",MK),("mode",MX)]) (L:=4) (i:=25) 13 P (PS P) (by kernel_rfl) dk (Po λ__ __ __ __ __ __ __ __ __=>by kernel_rfl) ⟨by kernel_rfl,by kernel_rfl,by kernel_rfl⟩
noncomputable def c2:List Bd:=[.loc "start" It,.loc "size" Dh,.loc "mode" Wt,.loc "far" W3,.loc "many" Wj,.cel "number" IJ true,.loc "goal" Wb,.loc "word" IL,.glo "_law_due",.glo "range"]
noncomputable def Au:List Bd:=[.loc "k" CL,.cel "number" IJ false]
noncomputable def O6:List Bd:=[.loc "peg" Pi]
theorem CW (P:PW W):ZB W c2 4 f2b (Yl 26):=
 @Xj _ _ _ _ _ _ _ _ (Y6 dk dk dk dk (X2 (Xg Lq (Xg Lq Xz)) (by decide)) (by intro env h h0 h1;exact LG h h0 h1 dk rfl rfl rfl rfl rfl))
 (@Xj _ _ _ _ _ _ _ _ (ZU (XW (.inr dk) dk) (YA P.glb dk (P.nob _ dk) dk boot_range (.inl ⟨_,rfl⟩) Yv (Xn Jc Xk (Xd dk dk))) (@Xj _ _ _ _ _ _ _ _ (ZJ dk dk (ctx':=Au) (YA P.glb dk (P.nob _ dk) dk boot_range (.inl ⟨_,rfl⟩) Yv (Xd dk dk)) (Xn YM (Xn ZM (XH (o:=false) dk dk dk) (Xn Jc Xk (Xd dk dk))) Xk) dk)
 (@Xj _ _ _ _ _ _ _ _ (@XI _ _ _ _ _ _ _ _ _ _ (.inl dk) dk (@Z4 _ _ _ _ _ _ _ _ _ _ _ _ _ Jk (XV dk) (Yd (ctx':=O6) (Xd dk dk) (XG (XV dk) (Xd dk dk)) dk) (by intro _;rfl) (by rfl) (by intro _;rfl) (by intro _;rfl)) (by intro _;rfl))
 (@Xj _ _ _ _ _ _ _ _ (YW (ZT (XX (G2 (Xd dk dk) (Xd dk dk)) (XX (G2 (Xd dk dk) (Xd dk dk)) Zf)) rfl) (XY P.glb dk (PI P) (Xg (Xd dk dk) (Xg (Xd dk dk) (Xg (Xd dk dk) (Xg (Xd dk dk) Xz))))) (hw:=by intro _ _;rfl))
 (Xw)))))
 (@Xj _ _ _ _ _ _ _ _ (X9 (X2 (Xg (Xd dk dk) (Xg (Xd dk dk) Xz)) (by decide)))
 (Xw)))
theorem PJ (P:PW W):JN W 5 f2 "_law_told":=
 Y2 (ps:=[("start",It),("size",Dh),("mode",Wt)]) (L:=4) (i:=26) 14 P (CW P) (by kernel_rfl) dk (Rt λ__ __ __ __ __ __ __ __=>by kernel_rfl) ⟨by kernel_rfl,by kernel_rfl,by kernel_rfl⟩
noncomputable def c3:List Bd:=[.loc "cell" M3,.loc "red" MQ,.loc "green" Tm,.loc "blue" ME]
theorem CJ (P:PW W):ZB W c3 2 f3b (Yl 21):=
 @Xj _ _ _ _ _ _ _ _ (T6 dk dk dk dk dk dk (X2 (Xg (Xn YM (Xd dk dk) Xk) (Xg (Xn YM (Xn ZM (Xd dk dk) Xk) Xk) (Xg (Xn YM (Xn ZM (Xd dk dk) Xk) Xk) Xz))) (by decide)) (by intro env h h0 h1 h2;exact P4 h h0 h1 h2 dk rfl rfl rfl rfl rfl rfl))
 (@Xj _ _ _ _ _ _ _ _ (Yg (Tw (XE Yi (Xd dk dk) (Xd dk dk) rfl) (XE Yi (Xd dk dk) (Xd dk dk) rfl)) (@Xj _ _ _ _ _ _ _ _ (X9 (X2 (Xg (Xd dk dk) (Xg (Xd dk dk) (Xg (Xn YM (Xn XJ (Xd dk dk) Xk) Xk) Xz))) (by decide)))
 (Xw)) (Xw))
 (@Xj _ _ _ _ _ _ _ _ (X9 (X2 (Xg (Xd dk dk) (Xg (Xd dk dk) (Xg (Xd dk dk) Xz))) (by decide)))
 (Xw)))
theorem CB (P:PW W):JN W 3 f3 "_law_paint":=
 Y2 (ps:=[("cell",M3)]) (L:=2) (i:=21) 9 P (CJ P) (by kernel_rfl) dk (C8 λ__ __ __ __ __ __=>by kernel_rfl) ⟨by kernel_rfl,by kernel_rfl,by kernel_rfl⟩
noncomputable def c4:List Bd:=[.loc "word" Ju,.loc "cell" JF,.loc "gap" Y3,.loc "bare" Vj]
noncomputable def Qf:List Bd:=[.loc "sign" ZF]
noncomputable def OK:List Bd:=[.loc "sign" TH]
theorem CP (P:PW W):ZB W c4 2 f4b (Yl 20):=
 @Xj _ _ _ _ _ _ _ _ (XI (.inl dk) dk (XG (YV (Xg (XV dk) (Xg (XV dk) (Xg (XV dk) (Xg (XV dk) Xz)))) (by decide)) (Xn YM (Xn ZM (Xd dk dk) Xk) Xk)))
 (@Xj _ _ _ _ _ _ _ _ (@XI _ _ _ _ _ _ _ _ _ _ (.inl dk) dk (@Z4 _ _ _ _ _ _ _ _ _ _ _ _ _ Jk (XV dk) (Yd (ctx':=Qf) (Xd dk dk) (G9 (XE Yi (Xd dk dk) (XV dk) rfl) (Xd dk dk) (Xn XJ (XV dk) (Xd dk dk))) dk) (by intro _;rfl) (by rfl) (by intro _;rfl) (by intro _;rfl)) (by intro _;rfl))
 (@Xj _ _ _ _ _ _ _ _ (Yg (XE Yi (Xn YM (Xd dk dk) Xk) Xk rfl) (@Xj _ _ _ _ _ _ _ _ (X9 (Xn XJ (Xn XJ (Xn XJ (Xd dk dk) (Xd dk dk)) (Xd dk dk)) (XV dk)))
 (Xw)) (Xw))
 (@Xj _ _ _ _ _ _ _ _ (Yg (XE Yi (Xn YM (Xd dk dk) Xk) Xk rfl) (@Xj _ _ _ _ _ _ _ _ (X9 (Xn XJ (Xn XJ (Xn XJ (Xn XJ (Xn XJ (Xd dk dk) (XV dk)) (Xd dk dk)) (XV dk)) (Xd dk dk)) (XV dk)))
 (Xw)) (Xw))
 (@Xj _ _ _ _ _ _ _ _ (X9 (Xn XJ (Xn XJ (Xn XJ (Xn XJ (Xn XJ (Xd dk dk) (XV dk)) (@Z4 _ _ _ _ _ _ _ _ _ _ _ _ _ Jk (XV dk) (Yd (ctx':=OK) (Xd dk dk) (Xn XJ (XV dk) (Xd dk dk)) dk) (by intro _;rfl) (by rfl) (by intro _;rfl) (by intro _;rfl))) (XV dk)) (Xd dk dk)) (XV dk)))
 (Xw)))))
theorem CZ (P:PW W):JN W 3 f4 "_law_text":=
 Y2 (ps:=[("word",Ju),("cell",JF)]) (L:=3) (i:=20) 8 P (CP P) (by kernel_rfl) dk (CY λ__ __ __ __ __ __ __=>by kernel_rfl) ⟨by kernel_rfl,by kernel_rfl,by kernel_rfl⟩
end
end
section
set_option tactic.hygienic false
class OwnX where
 tR:Addr
 tI:Addr
 cL:Addr
 pL:Addr
variable [iO:Own] [iA:OwnA] [iL:OwnL] [iX:OwnX]
open Own OwnA OwnL
structure AllOk (W:Wd):Prop where
 acc:AccOk W
 accS:AccSh
 pop:AccPop W
 reset:AccReset W OwnX.tR
 init:AccInit W OwnX.tI
 new:AccNew W
 len:AccLen W OwnX.cL OwnX.pL
 lenT:TabSh 0 OwnX.pL
 lenF:findIn KK (.ref cAcc) "__len__" = some (some (.ref OwnA.fLen))
 lenF2:isFn KK (.ref OwnA.fLen)=true
 mCount:Meth cAcc "part_count" fPart
 mPop:Meth cAcc "pop" OwnA.fPop
 mReset:Meth cAcc "reset" OwnA.fReset
 lex:LexOk W
 lexS:LexSh
 lexGet:LexGet W
 lexPush:LexPush W
 lexNew:LexNew W
 str:StrOk W
 tabS:TabS pS
 txt:TxtSh
 mGet:Meth cLex "get_token" fGT
 mPush:Meth cLex "push_token" fPT
 disc:DiscLt W
 nf:notFirst KK cDisc (.type "str")=true
 mono:∀ i j,ord i<ord j↔i<j
end
section
set_option tactic.hygienic false
variable [iC:Cs]
theorem Wo {a i b j:Expr} {p q:Pos} {k:Nat} {tp vp:Pos} {v w:Expr} {k':Nat} {env:Env} (h:env.scope.kind=.function) (hst:([v,w].any fun | .Starred ..=>true | _=>false)=false) :
  swappedStores [.Tuple [.Subscript a i p,.Subscript b j q] k tp] (.Tuple [v,w] k' vp) env=pure none:=by
 have hbk:env.blockKind=.function:=by unfold Env.blockKind;rw [h];rfl
 unfold swappedStores
 dsimp only
 rw [if_neg (by rw [hbk];exact (by decide:¬ ((!((2:Nat)==2||(2:Nat)==3)||(2:Nat) != 2||ScopeKind.function != ScopeKind.function)=true)))]
 refine (if_neg λe=>absurd (hst.symm.trans e) (by decide)).trans ?_
 exact if_pos rfl
end
section
set_option tactic.hygienic false
set_option maxHeartbeats 4000000
variable [iC:Cs]
section
variable {W:Wd} {ctx ctx':List Bd} {b:Nat}
theorem CM {h h':Heap} {c:Addr} {v:Option Value} (x:h.IsCell c v) (k:∀ o,h.get? c=some o→h'.get? c=some o):h'.IsCell c v:=let ⟨o,e,d⟩:=x;⟨o,k o e,d⟩
theorem Cel.noVal {h:Heap} {c:Addr} {v:Option Value} (x:h.IsCell c v):Y9 h c:=by
 refine x.elim λo zz=>zz.elim λho hd=>?_
 intro o' ho'
 rw [ho] at ho';cases ho'
 exact ⟨λ__ __ q=>(by rw [hd] at q;cases q),λ__ q=>(by rw [hd] at q;cases q)⟩
theorem Uy:∀ {names:List (Str×NameKind)} {n:Nat} {acc:List (Str×Addr)} {h:Heap},names.filter (λn=>n.2==.cell)=[]→cellsFrom n names acc=acc∧pushCells h names=h
 | [],_,_,_,_=>⟨rfl,rfl⟩
 | (y,k) :: r,n,acc,h,e=>by
  rw [List.filter_cons] at e
  unfold cellsFrom pushCells
  by_cases hk:(k==NameKind.cell)=true
  ·rw [if_pos (show ((y,k).2==NameKind.cell)=true from hk)] at e;cases e
  ·rw [if_neg (show ¬ ((y,k).2==NameKind.cell)=true from hk)] at e
   rw [if_neg hk,if_neg hk]
   exact Uy e
theorem NG {x:Str}:∀ {names:List (Str×NameKind)} {n:Nat} {acc:List (Str×Addr)} {h:Heap},names.filter (λn=>n.2==.cell)=[(x,.cell)]→cellsFrom n names acc=(x,n) :: acc∧pushCells h names=h.push { cls:=.type "cell",data:=.cell none }
 | [],_,_,_,e=>by cases e
 | (y,k) :: r,n,acc,h,e=>by
  rw [List.filter_cons] at e
  unfold cellsFrom pushCells
  by_cases hk:(k==NameKind.cell)=true
  ·rw [if_pos (show ((y,k).2==NameKind.cell)=true from hk)] at e
   injection e with e1 e2
   cases e1
   rw [if_pos hk,if_pos hk]
   exact Uy e2
  ·rw [if_neg (show ¬ ((y,k).2==NameKind.cell)=true from hk)] at e
   rw [if_neg hk,if_neg hk]
   exact NG e
theorem Ki {M:Model} {A:Around} {E:Value→Shared→Prop} {s:Shared} {scope:Scope} {globals:Addr} {cl:List (Str×Addr)} {qual:Str} {env:Env} {x:Str} {Q:Env→Shared→Prop} (hcells:scope.names.filter (λn=>n.2==.cell)=[(x,.cell)])
  (q:Q { scope,locals:=s.heap.objs.size,globals,cells:=(x,s.heap.objs.size+1) :: cl,qual,func:=none,code:=env.code,frame:=env.frame,builtins:=env.builtins } { s with heap:=(s.heap.push { cls:=.type "dict",data:=.dict #[] }).push { cls:=.type "cell",data:=.cell none } }) :
  wpAny M A (newFunctionEnv scope globals cl [] qual none .none (some env)) Q E s:=by
 simp only [newFunctionEnv,Option.isSome_some,if_true]
 refine wpAny_bind (wpAny_alloc ?_)
 refine wpAny_bind (wpAny_layCells _ (λname kind cells=>by cases hkc:kind==NameKind.cell <;> simp [hkc]) _ _ _ _ ?_)
 obtain ⟨e1,e2⟩:=NG (n:=(s.heap.push { cls:=.type "dict",data:=.dict #[] }).objs.size) (acc:=cl) (h:=s.heap.push { cls:=.type "dict",data:=.dict #[] }) hcells
 dsimp only
 rw [e1,e2,Heap.size_push]
 rw [List.forIn_nil]
 exact wpAny_bind (wpAny_pure (wpAny_pure q))
noncomputable def Jw (ctx ctx':List Bd) (names:List (Str×NameKind)) (x:Str) (p:Pa):Bool:=
 (ctx'.all λb=>match b with
  | .loc _ _=>false
  | .cel y q o=>if y=x then o&&q==p else (!o&&names.lookup y==some .free&&names.contains (y,.free)&&q != p&&q.length==p.length&&ctx.any λb'=>match b' with | .cel y' q' _=>decide (y'=y)&&q'==q | _=>false)
  | .glo y=>names.lookup y==some .globalImplicit)&&
 (names.all λn=>(n.2 != .local||names.lookup n.1==some .local)&&(n.2 != .free||(n.1 != x&&ctx.any λb'=>match b' with | .cel y' _ _=>decide (y'=n.1) | _=>false)))&&
 names.lookup x==some .cell&&names.filter (λn=>n.2==.cell)==[(x,.cell)]
theorem Kb {env:Env} {scope:Scope} {cl:List (Str×Addr)} {x:Str} {p:Pa} {vs vs':Vs} {ρ:Rho} {h:Heap} {v:Value} {y:MV} {m:Str→Option Value} {C Z:Addr} (F:FR W ctx env vs ρ h) (ok:Jw ctx ctx' scope.names x p=true) (hkind:scope.kind=.function)
  (hcl:∀ y c,cl.lookup y=some c→env.cells.lookup y=some c) (hcl':∀ y,(y,NameKind.free)∈scope.names→cl.lookup y=env.cells.lookup y)
  (nC:¬ own ρ C) (nZ:¬ own ρ Z) (npZ:¬ ∃ z,env.cells.lookup z=some Z) (hab:W.h₀.objs.size≤C) (hns:h.Ns C m) (hcz:h.IsCell Z (some v)) (hv:VR ρ h v y) (hg:Yb vs' p=y) (hs:∀ q:Pa,q.length=p.length→q≠p→Yb vs' q=Yb vs q):FR W ctx' (compEnvC scope ((x,Z) :: cl) C env) vs' ρ h:=by
 unfold Jw at ok
 simp only [Bool.and_eq_true,List.all_eq_true,beq_iff_eq] at ok
 refine Xi λgk=>?_
 obtain ⟨⟨⟨c1,c2⟩,c3⟩,c4⟩:=ok
 refine gk ?_;clear gk
 have look:∀ z c,List.lookup z ((x,Z) :: cl)=some c→(z=x∧c=Z)∨(z≠x∧cl.lookup z=some c):=λz c e=>by
  by_cases hz:z=x
  ·clear c1 c2 c3 c4;subst hz
   have:List.lookup z ((z,Z) :: cl)=some Z:=by simp
   rw [this] at e;cases e;exact .inl ⟨rfl,rfl⟩
  ·have:(z==x)=false:=by simpa using hz
   rw [List.lookup_cons,this] at e
   exact .inr ⟨hz,e⟩
 have hk:∀ z,(compEnvC scope ((x,Z) :: cl) C env).kindOf z=(relabel scope env).names.lookup z:=λz=>rfl
 refine ⟨hkind,F.glob,F.blt,nC,λz c e=>?_,λz z' c e e'=>?_,⟨m,hns,λz q e=>?_⟩,λz q o e=>?_,λz e=>?_,hab⟩
 ·clear hk npZ;rcases look z c e with ⟨_,rfl⟩ | ⟨_,e⟩
  ·exact ⟨nZ,_,hcz⟩
  ·exact F.nc z c (hcl z c e)
 ·rcases look z c e with ⟨g1,g2⟩ | ⟨_,g1⟩
  ·rcases look z' c e' with ⟨g3,_⟩ | ⟨_,g3⟩
   ·rw [g1,g3]
   ·exact absurd ⟨z',by rw [← g2];exact hcl _ _ g3⟩ npZ
  ·rcases look z' c e' with ⟨_,g4⟩ | ⟨_,g3⟩
   ·exact absurd ⟨z,by rw [← g4];exact hcl _ _ g1⟩ npZ
   ·exact F.apart z z' c (hcl z c g1) (hcl z' c g3)
 ·have:=c1 _ e;cases this
 ·have:=c1 _ e
  dsimp only at this
  split at this
  ·rename_i hz
   clear c2 c4 look;subst hz
   simp only [Bool.and_eq_true,beq_iff_eq] at this
   clear c1 e hs;obtain ⟨rfl,rfl⟩:=this
   exact ⟨.inl (by rw [hk];exact YL (by decide) c3),Z,some v,by show List.lookup z ((z,Z) :: cl)=_;simp,hcz,.inr ⟨v,rfl,by rw [hg];exact hv⟩⟩
  ·rename_i hz
   simp only [Bool.and_eq_true,beq_iff_eq,bne_iff_ne,List.any_eq_true,Bool.not_eq_true'] at this
   refine Xi λgk=>?_
   obtain ⟨⟨⟨⟨⟨ho,h1⟩,h2⟩,h3⟩,h4⟩,d,hd,h5⟩:=this
   refine gk ?_;clear gk
   cases d with
   | loc=>cases h5
   | glo=>cases h5
   | cel z' q' o'=>
    simp only [Bool.and_eq_true,decide_eq_true_eq,beq_iff_eq] at h5
    refine Xi λgk=>?_
    clear e;obtain ⟨rfl,rfl⟩:=h5
    refine F.celE z' q' o' hd λ__ c u hc hu hr=>?_
    refine gk ?_;clear gk
    refine ⟨?_,c,u,?_,hu,by rw [hs q' h4 h3];exact hr⟩
    ·rcases Y4 F.kind h1 with h | h
     ·exact .inl (by rw [hk];exact h)
     ·exact .inr ⟨ho,by rw [hk];exact h⟩
    ·show List.lookup z' ((x,Z) :: cl)=_
     have:(z'==x)=false:=by simpa using hz
     rw [List.lookup_cons,this,hcl' z' (by simpa using h2)]
     exact hc
 ·have:=c1 _ e
  simp only [beq_iff_eq] at this
  rw [hk];exact YL (by decide) this
theorem KO {elt iter:Expr} {ifs:List Expr} {x:Str} {px:Pos} {p:Pa} {scope:Scope} {pos:Pos} {c:Vs→H→(Bool→H→Prop)→Prop} {m₁:Ev} {cl:List (Str×Addr)}
  (hc:JS W ctx' b c ifs) (he:XD W ctx' b m₁ elt) (ok:Jw ctx ctx' scope.names x p=true) (hkind:scope.kind=.function)
  {A:Around} {env:Env} (OA:OkA A b) {ρ:Rho} {σ:H} {vs:Vs} {s₂:Shared} {h₁:Heap} {I:Addr} {fp:List Addr} {xs:List MV} {P:Nat→Value→Prop} {St:Nat→Heap→Prop} {K:MV→H→Prop} {RR:Value→Addr→Result→Shared→Prop} {E:Value→Shared→Prop}
  (F:FR W ctx env vs ρ s₂.heap) (O:Ok W ρ σ s₂) (S:Src W ρ s₂.heap I fp xs P St) (n0:W.h₀.get? I=none) (hz:xs.length≤4096)
  (h12:∀ b o,h₁.get? b=some o→s₂.heap.get? b=some o) (hI:h₁.get? I=none)
  (hcl:∀ y c,cl.lookup y=some c→env.cells.lookup y=some c) (hcl':∀ y,(y,NameKind.free)∈scope.names→cl.lookup y=env.cells.lookup y)
  (m:ZC p c m₁ xs vs σ λys h2=>K (.seq true ys) h2)
  (hRR:∀ D C ρf σf s' ys,K (.seq true ys) σf→VR ρf s'.heap (.ref D) (.seq true ys)→Ok W ρf σf s'→Ext ρ ρf h₁ s'.heap→(∃ m,s'.heap.Ns C m)→¬ own ρf C→h₁.get? C=none→h₁.get? D=none→RR (.ref D) C (.ok .next) s') :
  wpAny (model W.prog W.w) A (newList []) (λacc s₃=>wpAny (model W.prog W.w) A (newFunctionEnv scope env.globals cl [] env.qual none .none (some env)) (λcenv s₄=>
   codeAny (model W.prog W.w) A (.compStart (.ListComp elt [⟨.Name x px,iter,ifs,0⟩] scope pos) 0 (.ref I) acc { cenv with scope:=relabel scope env }) (RR acc cenv.locals) s₄) E s₃) E s₂:=by
 have ok':=ok
 unfold Jw at ok'
 simp only [Bool.and_eq_true,beq_iff_eq,List.all_eq_true] at ok'
 refine Xi λgk=>?_
 refine ok'.elim λqa c4=>?_;obtain ⟨⟨_,c2⟩,c3⟩:=qa
 refine gk ?_;clear gk
 refine wpAny_newObj_type (Ki c4 ?_)
 dsimp only
 generalize hH2:s₂.heap.push { cls:=.type "list",dict:=none,data:=.seq ([]:List Value).toArray }=H2
 refine Xi λgk=>?_
 obtain ⟨D,hDe⟩:∃ D,D=s₂.heap.objs.size:=⟨_,rfl⟩
 obtain ⟨C,hCe⟩:∃ C,C=H2.objs.size:=⟨_,rfl⟩
 obtain ⟨Z,hZe⟩:∃ Z,Z=C+1:=⟨_,rfl⟩
 have hC1:C=s₂.heap.objs.size+1:=by rw [hCe,← hH2,Heap.size_push]
 rw [← hDe] at hC1
 have fresh:∀ a,s₂.heap.objs.size≤a→s₂.heap.get? a=none:=λa ha=>by
  exact Z5 (Nat.not_lt.mpr ha)
 have hD:s₂.heap.get? D=none:=fresh _ (by rw [hDe];exact Nat.le_refl _)
 have hC:s₂.heap.get? C=none:=fresh _ (by rw [hC1,hDe];exact Nat.le_succ _)
 have hZ:s₂.heap.get? Z=none:=fresh _ (by rw [hZe,hC1,hDe];exact Nat.le_succ_of_le (Nat.le_succ _))
 have h1D:h₁.get? D=none:=by
  exact Yc (λo' e=>h12 _ _ e) hD
 have hDC:D≠C:=by rw [hC1];exact Nat.ne_of_lt (Nat.lt_succ_self _)
 have hDZ:D≠Z:=by rw [hZe,hC1];exact Nat.ne_of_lt (Nat.lt_succ_of_lt (Nat.lt_succ_self _))
 have hCZ:C≠Z:=by rw [hZe];exact Nat.ne_of_lt (Nat.lt_succ_self _)
 obtain ⟨h₄,hh₄⟩:∃ h₄,h₄=(H2.push { cls:=.type "dict",data:=.dict #[] }).push { cls:=.type "cell",data:=.cell none }:=⟨_,rfl⟩
 refine gk ?_;clear gk
 rw [← hCe,← hZe,← hh₄]
 have up:∀ b o,H2.get? b=some o→h₄.get? b=some o:=λb o e=>by rw [hh₄];exact Heap.get?_push_of_some _ (Heap.get?_push_of_some _ e)
 have old:∀ b o,s₂.heap.get? b=some o→h₄.get? b=some o:=λb o e=>up b o (hH2▸Heap.get?_push_of_some _ e)
 have hacc:h₄.PlainList D #[]:=⟨_,up _ _ (by rw [← hH2,hDe];exact Heap.get?_push_size _ rfl)⟩
 have hnsC₄:h₄.Ns C (λ__=>none):=by
  rw [hh₄,hCe]
  exact (Heap.Ns.new H2 (.type "dict")).push _
 have hcz₄:h₄.IsCell Z none:=⟨_,by
  have:=Heap.get?_push_size (H2.push { cls:=.type "dict",data:=.dict #[] }) (o:={ cls:=.type "cell",data:=.cell none }) rfl
  rw [Heap.size_push,← hCe,← hZe,← hh₄] at this
  exact this,rfl⟩
 have hab:W.h₀.objs.size≤C:=by
  refine (F.alive env.locals (.inl rfl)).elim λo e=>?_
  have h1:=Heap.lt_size e
  have h2:=F.above
  rw [hC1,hDe]
  exact Nat.le_succ_of_le (Nat.le_of_lt (Nat.lt_of_le_of_lt h2 h1))
 have npZ:¬ plc env Z:=λz=>by refine (F.alive Z z).elim λo e=>?_;rw [hZ] at e;cases e
 have h1C:h₁.get? C=none:=Yc (λo' e=>h12 _ _ e) hC
 have loop:codeAny (model W.prog W.w) A (.compLoop (.ListComp elt [⟨.Name x px,iter,ifs,0⟩] scope pos) 0 (.ref I) (.ref D) (compEnvC scope ((x,Z) :: cl) C env)) (RR (.ref D) C) { s₂ with heap:=h₄,toks:=s₂.toks }:=by
  refine NC (Sl:=λb=>b=C∨b=Z) (Al:=λh=>(∃ m,h.IsCell Z m)∧h.Ns C (λ__=>none)) hc he OA F O S n0 hz h12 hI m (λb e=>e.elim (λe=>e▸hC) λe=>e▸hZ) (λe=>e.elim hDC hDZ) hD old hacc ⟨⟨_,hcz₄⟩,hnsC₄⟩
   (λh a b e=>e.elim (λe=>a.2.elim λo z=>z.elim λ__ z=>z.elim λ__ z=>⟨o,e▸z.1⟩) λe=>a.1.elim λm z=>z.elim λo z=>⟨o,e▸z.1⟩) (λh a b e=>e.elim (λe=>e▸Ns.noVal a.2) λe=>a.1.elim λm z=>e▸Cel.noVal z)
   (λh h' a k=>⟨a.1.elim λm z=>⟨m,CM z λo e=>k Z o (.inr rfl) e⟩,a.2.at' λo e=>k C o (.inl rfl) e⟩) (λs v Q E a q=>?_) λρf σf s' ys a1 a2 a3 a4 a5 a6=>hRR D C ρf σf s' ys a1 a2 a3 a4 ⟨_,a5.2⟩ (a6 C (.inl rfl)) h1C h1D
  have hkx:Env.kindOf (compEnvC scope ((x,Z) :: cl) C env) x=some .cell:=YL (by decide) c3
  refine a.elim λa a2=>a.elim λmm a=>wpAny_assign_Name (wpAny_storeName_cell (env:=compEnvC scope ((x,Z) :: cl) C env) hkind hkx (by show List.lookup x ((x,Z) :: cl)=_;simp) a λh'' hcz₆ hsb=>?_)
  have kZ:∀ b o,¬ (b=C∨b=Z)→s.heap.get? b=some o→h''.get? b=some o:=λb o n e=>(hsb.2 b λz=>n (.inr z)).trans e
  have hnsC₆:h''.Ns C (λ__=>none):=a2.at' λo e=>(hsb.2 C hCZ).trans e
  exact q h'' _ ⟨⟨_,hcz₆⟩,hnsC₆⟩ kZ λρ' vs' nS F₆ hv hs=>Kb F₆ ok hkind hcl hcl' (nS C (.inl rfl)) (nS Z (.inr rfl)) (λe=>npZ (.inr e)) hab hnsC₆ hcz₆ hv rfl hs
 have h:=codeAny_compStart_list loop ((S.walks A OA.1).self 0 _ _ _ ((S.walks A OA.1).frame _ _ _ S.start λb __ o e=>old b o e) loop)
 rw [hDe] at h
 exact h
end
end
section
set_option tactic.hygienic false
set_option maxHeartbeats 4000000
variable [iC:Cs]
section
variable {W:Wd} {ctx ctx':List Bd} {b:Nat}
theorem KM {env:Env} {vs:Vs} {ρ:Rho} {h:Heap} {scope:Scope} {x:Str} {p:Pa} (F:FR W ctx env vs ρ h) (ok:Jw ctx ctx' scope.names x p=true) :
  (∃ cl,closureFor scope env=pure cl∧(∀ y c,cl.lookup y=some c→env.cells.lookup y=some c)∧∀ y,(y,NameKind.free)∈scope.names→cl.lookup y=env.cells.lookup y)∧∀ y∈scope.names,y.2=.local→scope.names.lookup y.1=some .local:=by
 unfold Jw at ok
 simp only [Bool.and_eq_true,List.all_eq_true,beq_iff_eq] at ok
 refine Xi λgk=>?_
 obtain ⟨⟨⟨_,c2⟩,c3⟩,c4⟩:=ok
 refine gk ?_;clear gk
 refine ⟨Tq λy hy=>?_,λy hy e=>?_⟩
 ·have:=(c2 _ hy).2
  simp only [Bool.or_eq_true,bne_self_eq_false,Bool.false_eq_true,false_or,Bool.and_eq_true,List.any_eq_true] at this
  refine Xi λgk=>?_
  obtain ⟨_,d,hd,h5⟩:=this
  refine gk ?_;clear gk
  cases d with
  | loc=>cases h5
  | glo=>cases h5
  | cel z' q' o'=>
   have h5:z'=y:=by simpa using h5
   refine Xi λgk=>?_
   clear hy;subst h5
   obtain ⟨_,c,_,hc,_⟩:=F.cel z' q' o' hd
   refine gk ?_;clear gk
   exact ⟨c,hc⟩
 ·have:=(c2 _ hy).1
  rw [e] at this
  simpa using this
theorem Ro {elt iter:Expr} {x:Str} {px:Pos} {p:Pa} {scope:Scope} {pos:Pos} {mi m₁:Ev}
  (hi:XD W ctx b mi iter) (he:XD W ctx' b m₁ elt) (ok:Jw ctx ctx' scope.names x p=true) (hkind:scope.kind=.function:=by rfl)
  (hs:∀ env x,foldedSetIterable iter env x=pure x:=by intro _ _;rfl):XD W ctx b (Yo p mi m₁) (.ListComp elt [⟨.Name x px,iter,[],0⟩] scope pos):=λA env ρ σ vs s K Q E OA F O m q=>by
 refine Xi λgk=>?_
 obtain ⟨⟨cl,hclos,hcl,hcl'⟩,hnames⟩:=KM F ok
 refine gk ?_;clear gk
 rw [eval_ListComp]
 have m':mi vs σ λx h1=>XL h1 x λxs=>ifB (Yr xs) (ZC p (λ__ h k=>k true h) m₁ xs vs h1 λys h2=>K (.seq true ys) h2) False:=by
  have e:Yo p mi m₁ vs σ K=mi vs σ λx h1=>XL h1 x λxs=>ifB (Yr xs) (Br p m₁ xs vs h1 λys h2=>K (.seq true ys) h2) False:=rfl
  rw [e] at m
  have e2:(λ(x:MV) (h1:H)=>XL h1 x λxs=>ifB (Yr xs) (Br p m₁ xs vs h1 λys h2=>K (.seq true ys) h2) False)=λx h1=>XL h1 x λxs=>ifB (Yr xs) (ZC p (λ__ h k=>k true h) m₁ xs vs h1 λys h2=>K (.seq true ys) h2) False:=by
   funext x h1
   congr 1
  rw [e2] at m
  exact m
 refine wpAny_comprehension_free (use:=none) rfl (hs env) hclos hkind hnames (hi A env ρ σ vs s _ _ _ OA F O m' λu mu ρ₁ σ₁ s₁ k₁ v₁ O₁ X₁=>?_)
 refine JV v₁ O₁ k₁ λxs I fp P St o k₂ e₂ O₂ eI S=>?_
 refine Xi λgk=>?_;rcases Xo k₂ with ⟨hz,k₂⟩ | ⟨_,k₂⟩ <;> (refine gk ?_;clear gk)
 ·have n0:W.h₀.get? I=none:=by
   exact Yc (λo e=>O₁.base I o e) e₂
  refine KO (h₁:=s₁.heap) ZX he ok hkind OA ((F.ext X₁).ext (Ext.push ρ₁ s₁.heap o)) O₂ S n0 (Ye hz) (λ__ __ e=>Heap.get?_push_of_some o e) e₂ hcl hcl' k₂ λD C ρf σf s' ys kf vf Of Xf ⟨mf,hnf⟩ nCf h1C __=>?_
  refine ⟨mf,hnf,λh' hsb=>?_⟩
  have kC:∀ b o,b≠C→s'.heap.get? b=some o→h'.get? b=some o:=λb o n e=>(hsb.2 b n).trans e
  have h0C:W.h₀.get? C=none:=by
   exact Yc (λo e=>O₁.base C o e) h1C
  have XC:ExtP (λb=>b=C) ρf ρf s'.heap h':=⟨λ__ __=>rfl,λ__ x=>.inl x,λb o e __ hp=>kC b o hp e,λb __ o e hp=>kC b o hp e⟩
  refine q _ _ ρf σf _ kf (vf.extP (λb e=>e▸Ns.noVal hnf) XC) (Of.keepAt (t:=s'.toks) (Ns.noVal hnf) nCf h0C kC) (X₁.trans ?_)
  exact ⟨Xf.same,Xf.fresh,λb o e n=>kC b o (Mine.neA e h1C) (Xf.keep b o e n),λb hb o e=>kC b o (Mine.neA e h1C) (Xf.prv b hb o e)⟩
 ·exact k₂.elim
end
end
section
set_option tactic.hygienic false
section
noncomputable def Me (x:UInt64) (k:MV→Prop):Prop:=@Nat.rec (λ__=>Prop) (k (.flt (UInt64.ofNat 0))) (λn __=>k (.flt (UInt64.ofNat (Nat.succ n)))) x.toNat
noncomputable def VS (x:MV) (k:UInt64→Prop):Prop:=match x with
 | .flt a=>k a
 | .int i=>ifB (Jb i) (k (Float64.ofInt i)) False
 | _=>False
noncomputable def Cj (x:MV):Bool:=match x with | .int _=>true | _=>false
noncomputable def Jo (x:MV):Bool:=match x with | .flt _=>true | _=>false
noncomputable def fOp (f:UInt64→UInt64→UInt64):B2:=λa b k=>ifB (Jo a||Jo b) (VS a λx=>VS b λy=>Me (f x y) k) False
noncomputable def HT:B2:=λa b k=>ifB (Jo a&&Jo b) (VS a λx=>VS b λy=>ifB (Float64.isZero y) False (Me (Float64.div x y) k)) False
noncomputable def Fw:B2:=λa b k=>ifB (Jo a&&Jo b) (VS a λx=>VS b λy=>ifB (Float64.isZero y) False (Me (Float64.divmod x y).snd k)) False
noncomputable def Cy:B2:=λa b k=>XM a λx=>XM b λy=>ifB (eqI y 0) False (ifB (Float64.isInf (Float64.ofFrac (decide (x<0) != decide (y<0)) x.natAbs y.natAbs)) False (Me (Float64.ofFrac (decide (x<0) != decide (y<0)) x.natAbs y.natAbs) k))
noncomputable def VZ (x:MV) (k:KN):Prop:=match x with
 | .flt a=>fcN a.toNat k
 | .int i=>ifB (Jb i) (@Int.rec (λ__=>Prop) (λn=>frC false n 1 0 0 k) (λ__=>False) i) False
 | _=>False
noncomputable def HQ (k:MV→Prop):KN:=λz=>k (.flt (UInt64.ofNat z))
noncomputable def FS (g:Nat→Nat→KN→Prop):B2:=λa b k=>ifB (Jo a||Jo b) (VZ a λv=>VZ b λw=>g v w (HQ k)) False
noncomputable def Jn:B2:=FS Ih
noncomputable def YD:B2:=FS Pf
noncomputable def ZI:B2:=FS Ak
noncomputable def ZS:B2:=λa b k=>ifB (Jo a&&Jo b) (VZ a λv=>VZ b λw=>Se v w (HQ k)) False
noncomputable def ND:B2:=λa b k=>ifB (Jo a&&Jo b) (VZ a λv=>VZ b λw=>ifB (Nat.beq w 4607182418800017408) (P6 v (HQ k)) False) False
noncomputable def SN (i:Int) (k:KN):Prop:=@Int.rec (λ__=>Prop) k (λ__=>False) i
noncomputable def Vr:B2:=λa b k=>XM a λx=>XM b λy=>SN x λm=>SN y λn=>ifB (Nat.beq n 0) False (lgC n λb=>frC false m n b 0 (HQ k))
end
variable [iC:Cs]
section
variable {W:Wd} {ctx:List Bd} {b:Nat}
theorem Jd {x:UInt64} {k:MV→Prop} (h:Me x k):k (.flt x):=by
 unfold Me at h
 have e:∀ n,x.toNat=n→UInt64.ofNat n=x:=λn h=>by rw [← h];exact UInt64.ofNat_toNat
 cases q:x.toNat with
 | zero=>rw [q] at h;rw [← e _ q];exact h
 | succ n=>rw [q] at h;rw [← e _ q];exact h
theorem Uh {x:UInt64} {k:MV→Prop} (h:k (.flt x)):Me x k:=by
 unfold Me
 have e:∀ n,x.toNat=n→UInt64.ofNat n=x:=λn h=>by rw [← h];exact UInt64.ofNat_toNat
 cases q:x.toNat with
 | zero=>rw [← e _ q] at h;exact h
 | succ n=>rw [← e _ q] at h;exact h
theorem Dr {a:MV} {k:KN} (h:VZ a k):∃ x:UInt64,k x.toNat∧∀ K:UInt64→Prop,K x→VS a K:=by
 cases a with
 | flt a=>exact ⟨a,Eq.mp (Yy (n:=a.toNat) (k:=k)) h,λK hk=>hk⟩
 | int i=>
  rcases Xo h with ⟨hs,h⟩ | ⟨_,h⟩
  ·cases i with
   | ofNat n=>
    obtain ⟨x,e,h⟩:=Wc (show frC false n 1 0 0 k from h)
    refine ⟨x,h,λK hk=>?_⟩
    show ifB (Jb (.ofNat n)) (K (Float64.ofInt (.ofNat n))) False
    rw [hs]
    have:Float64.ofInt (.ofNat n)=x:=by
     rw [← e]
     unfold Float64.ofInt
     rw [show decide (Int.ofNat n<0)=false from decide_eq_false (Int.not_lt.mpr (Int.natCast_nonneg n))]
     rfl
    show K (Float64.ofInt (.ofNat n))
    rw [this];exact hk
   | negSucc n=>exact h.elim
  ·exact h.elim
 | _=>exact (show False from h).elim
theorem Zs {a:MV} {k:KN} (h:VZ a k) {C':Prop} (f':∀ (x:UInt64),k x.toNat→(∀ K:UInt64→Prop,K x→VS a K)→C'):C':=by refine (Dr h).elim λx zz=>zz.elim λq0 q1=>?_;exact f' x q0 q1
theorem TP {g:Nat→Nat→KN→Prop} {f:UInt64→UInt64→UInt64} (hg:∀ {x y:UInt64} {k:KN},g x.toNat y.toNat k→∃ z,f x y=z.toUInt64∧k z) {a b:MV} {k:MV→Prop} (h:FS g a b k):fOp f a b k:=by
 unfold FS at h
 unfold fOp
 rcases Xo h with ⟨e,h⟩ | ⟨_,h⟩
 ·rw [e]
  refine Xi λgk=>?_
  refine Zs h λx h q=>?_
  refine Zs h λy h q'=>?_
  refine (hg h).elim λz zz=>zz.elim λe h=>?_
  refine gk ?_;clear gk
  refine q _ (q' _ (Uh ?_))
  rw [e];exact h
 ·exact h.elim
theorem FA {a b:MV} {k:MV→Prop} (h:ZS a b k):HT a b k:=by
 unfold ZS at h
 unfold HT
 rcases Xo h with ⟨e,h⟩ | ⟨_,h⟩
 ·rw [e]
  refine Xi λgk=>?_
  refine Zs h λx h q=>?_
  refine Zs h λy h q'=>?_
  refine (F6 h).elim λhz zz=>zz.elim λz zz=>zz.elim λe h=>?_
  refine gk ?_;clear gk
  refine q _ (q' _ ?_)
  rw [hz]
  refine Uh ?_
  rw [e];exact h
 ·exact h.elim
theorem WU:(0x3ff0000000000000:UInt64).toNat=4607182418800017408:=by decide +kernel
theorem Ps:Float64.isZero 0x3ff0000000000000=false:=by decide +kernel
theorem FG {a b:MV} {k:MV→Prop} (h:ND a b k):Fw a b k:=by
 unfold ND at h
 unfold Fw
 refine Xi λgk=>?_;rcases Xo h with ⟨e,h⟩ | ⟨_,h⟩ <;> (refine gk ?_;clear gk)
 ·rw [e]
  refine Xi λgk=>?_
  refine Zs h λx h q=>?_
  refine Zs h λy h q'=>?_
  refine gk ?_;clear gk
  refine Xi λgk=>?_;rcases Xo h with ⟨hw,h3⟩ | ⟨_,h⟩ <;> (refine gk ?_;clear gk)
  ·clear h
   have hy:y=0x3ff0000000000000:=UInt64.toNat_inj.mp ((Nat.eq_of_beq_eq_true hw).trans WU.symm)
   refine Xi λgk=>?_
   clear hw;subst hy
   refine (FD h3).elim λz zz=>zz.elim λe h=>?_
   refine gk ?_;clear gk
   refine q _ (q' _ ?_)
   rw [Ps]
   refine Uh ?_
   rw [e];exact h
  ·exact h.elim
 ·exact h.elim
theorem Fq {a b:MV} {k:MV→Prop} (h:Vr a b k):Cy a b k:=by
 refine Xs h λi qa h'=>?_;subst qa
 clear h
 refine Xs h' λj qa h=>?_;subst qa
 clear h'
 cases i with
 | negSucc m=>exact (show False from h).elim
 | ofNat m=>
 cases j with
 | negSucc n=>exact (show False from h).elim
 | ofNat n=>
 rcases Xo (show ifB (Nat.beq n 0) False (lgC n λb=>frC false m n b 0 (HQ k)) from h) with ⟨_,h⟩ | ⟨hz,h⟩
 ·exact h.elim
 ·have hz:=Nat.ne_of_beq_eq_false hz
  refine (Bm h).elim λ__ h=>?_
  refine (Iq h).elim λhi zz=>zz.elim λh e=>?_
  show ifB (eqI (.ofNat n) 0) False (ifB (Float64.isInf (Float64.ofFrac (decide (Int.ofNat m<0) != decide (Int.ofNat n<0)) m n)) False (Me (Float64.ofFrac (decide (Int.ofNat m<0) != decide (Int.ofNat n<0)) m n) k))
  rw [show decide (Int.ofNat m<0)=false from decide_eq_false (Int.not_lt.mpr (Int.natCast_nonneg m)),show decide (Int.ofNat n<0)=false from decide_eq_false (Int.not_lt.mpr (Int.natCast_nonneg n))]
  rw [show (false != false)=false from rfl,hi,G1,show (Int.ofNat n==0)=false by simp;omega]
  refine Uh ?_
  rw [e];exact h
noncomputable def GO (W:Wd) (pre:Bool) (o:B2) (f:Value→Value→Sem Value):Prop:=
 ∀ (A:Around) (ρ:Rho) (σ:H) (s:Shared) (x y:MV) (u v:Value) (K:MV→Prop) (Q E:Value→Shared→Prop),
  OkA A 1→VR ρ s.heap u x→VR ρ s.heap v y→Ok W ρ σ s→(pre=true→0<s.toks)→o x y K→(∀ r mr s',K mr→VR ρ s'.heap r mr→Ok W ρ σ s'→Ext ρ ρ s.heap s'.heap→0<s'.toks→Q r s')→wpAny (model W.prog W.w) A (f u v) Q E s
theorem TV {pre:Bool} {o o':B2} {f:Value→Value→Sem Value} (h:∀ {a b k},o a b k→o' a b k) (g:GO W pre o' f):GO W pre o f:=λA ρ σ s x y u v K Q E OA hu hv O hp m q=>g A ρ σ s x y u v K Q E OA hu hv O hp (h m) q
theorem V3 {i:Int} (h:Jb i=true):i.natAbs<2 ^ 1023:=by
 have:=JJ h
 have h1:i.natAbs<2 ^ 63:=by omega
 exact Nat.lt_of_lt_of_le h1 (Nat.pow_le_pow_right (by decide) (by decide))
theorem Pr {f:UInt64→UInt64→UInt64} {g:Value→Value→Sem Value}
  (h1:∀ (A:Around) (E Q:Value→Shared→Prop) (s:Shared) (a b:UInt64) (t u:Tok),Q (.float (f a b) s.toks) { s with toks:=s.toks+1 }→wpAny (model W.prog W.w) A (g (.float a t) (.float b u)) Q E s)
  (h2:∀ (A:Around) (E Q:Value→Shared→Prop) (s:Shared) (a:UInt64) (n:Int) (t u:Tok),n.natAbs<2 ^ 1023→Q (.float (f a (Float64.ofInt n)) s.toks) { s with toks:=s.toks+1 }→wpAny (model W.prog W.w) A (g (.float a t) (.int n u)) Q E s)
  (h3:∀ (A:Around) (E Q:Value→Shared→Prop) (s:Shared) (a:UInt64) (n:Int) (t u:Tok),n.natAbs<2 ^ 1023→Q (.float (f (Float64.ofInt n) a) s.toks) { s with toks:=s.toks+1 }→wpAny (model W.prog W.w) A (g (.int n u) (.float a t)) Q E s) :
  GO W true (fOp f) g:=by
 intro A ρ σ s x y u v K Q E OA hu hv O hp m q
 have ht:s.toks≠0:=Nat.ne_of_gt (hp rfl)
 rcases Xo m with ⟨hf,m⟩ | ⟨_,m⟩
 ·cases x with
  | flt a=>
   refine hu.fltIE λt qa __=>?_;clear hu;subst qa
   cases y with
   | flt c=>
    refine hv.fltIE λt' qa __=>?_;clear hv;subst qa
    exact h1 A E Q s a c t t' (q _ _ _ (Jd m) (.flt _ _ ht) (O.tok _) (Ext.refl _ _) (Nat.succ_pos _))
   | int i=>
    refine hv.intIE λt' qa=>?_;clear hv;subst qa
    rcases Xo m with ⟨hs,m⟩ | ⟨_,m⟩
    ·exact h2 A E Q s a i t t' (V3 hs) (q _ _ _ (Jd m) (.flt _ _ ht) (O.tok _) (Ext.refl _ _) (Nat.succ_pos _))
    ·exact m.elim
   | _=>exact (show False from m).elim
  | int i=>
   refine hu.intIE λt qa=>?_;clear hu;subst qa
   rcases Xo m with ⟨hs,m⟩ | ⟨_,m⟩
   ·cases y with
    | flt c=>
     refine hv.fltIE λt' qa __=>?_;clear hv;subst qa
     exact h3 A E Q s c i t' t (V3 hs) (q _ _ _ (Jd m) (.flt _ _ ht) (O.tok _) (Ext.refl _ _) (Nat.succ_pos _))
    | _=>cases hf
   ·exact m.elim
  | _=>exact (show False from m).elim
 ·exact m.elim
theorem Zb:GO W true Jn (binaryOp .Add):=TV (TP UV) <| Pr (λ__ __ __ __ __ __ __ __ h=>add_float h) (λ__ __ __ __ __ __ __ __ hf h=>add_fi_fits hf h) (λ__ __ __ __ __ __ __ __ hf h=>add_if_fits hf h)
theorem X8:GO W true YD (binaryOp .Sub):=TV (TP FI) <| Pr (λ__ __ __ __ __ __ __ __ h=>sub_float h) (λ__ __ __ __ __ __ __ __ hf h=>sub_fi_fits hf h) (λ__ __ __ __ __ __ __ __ hf h=>sub_if_fits hf h)
theorem YO:GO W true ZI (binaryOp .Mult):=TV (TP F1) <| Pr (λ__ __ __ __ __ __ __ __ h=>mul_float h) (λ__ __ __ __ __ __ __ __ hf h=>mul_fi_fits hf h) (λ__ __ __ __ __ __ __ __ hf h=>mul_if_fits hf h)
theorem Zc:GO W true ZS (binaryOp .Div):=by
 refine TV FA ?_
 intro A ρ σ s x y u v K Q E OA hu hv O hp m q
 have ht:s.toks≠0:=Nat.ne_of_gt (hp rfl)
 refine Xi λgk=>?_;rcases Xo m with ⟨hf,m⟩ | ⟨_,m⟩ <;> (refine gk ?_;clear gk)
 ·cases x with
  | flt a=>
   cases y with
   | flt c=>
    refine hu.fltIE λt qa __=>?_;clear hu;subst qa;refine hv.fltIE λt' qb __=>?_;clear hv;subst qb
    refine Xi λgk=>?_;rcases Xo (show ifB (Float64.isZero c) False _ from m) with ⟨_,m⟩ | ⟨hz,m⟩ <;> (refine gk ?_;clear gk)
    ·exact m.elim
    ·exact truediv_float_or OA.1 (λe=>absurd (hz.symm.trans e) (by decide)) λ__=>q _ _ _ (Jd m) (.flt _ _ ht) (O.tok _) (Ext.refl _ _) (Nat.succ_pos _)
   | _=>cases hf
  | _=>cases hf
 ·exact m.elim
theorem JB:GO W true Vr (binaryOp .Div):=by
 refine TV Fq ?_
 intro A ρ σ s x y u v K Q E OA hu hv O hp m q
 have ht:s.toks≠0:=Nat.ne_of_gt (hp rfl)
 refine Xi λgk=>?_
 refine Xs m λi qa m'=>?_;subst qa
 clear m
 refine Xs m' λj qa m=>?_;subst qa
 clear m'
 refine hu.intIE λt qa=>?_;clear hu;subst qa;refine hv.intIE λt' qb=>?_;clear hv;subst qb
 refine gk ?_;clear gk
 refine Xi λgk=>?_;rcases Xo m with ⟨_,m⟩ | ⟨hz,m⟩ <;> (refine gk ?_;clear gk)
 ·exact m.elim
 ·refine Xi λgk=>?_;rcases Xo m with ⟨_,m⟩ | ⟨hi,m⟩ <;> (refine gk ?_;clear gk)
  ·exact m.elim
  ·refine AutoIntOps.truediv_2 (by rw [G1] at hz;rw [hz];decide) (by rw [hi];decide) (q _ _ _ (Jd m) (.flt _ _ ht) (O.tok _) (Ext.refl _ _) (Nat.succ_pos _))
theorem KI {o:B2} {f:Value→Value→Sem Value} (h:∀ (A:Around) (E Q:Value→Shared→Prop) (s:Shared) (i j:Int) (t u:Tok) (K:MV→Prop),o (.int i) (.int j) K→(∀ r,K (.int r)→Q (.int r s.toks) { s with toks:=s.toks+1 })→wpAny (model W.prog W.w) A (f (.int i t) (.int j u)) Q E s)
  (hi:∀ x y K,o x y K→Cj x=true∧Cj y=true):GO W false o f:=by
 intro A ρ σ s x y u v K Q E OA hu hv O hp m q
 refine (hi x y K m).elim λh1 h2=>?_
 cases x with
 | int i=>cases y with
  | int j=>
   refine hu.intIE λt qa=>?_;clear hu;subst qa;refine hv.intIE λt' qb=>?_;clear hv;subst qb
   exact h A E Q s i j t t' K m λr hk=>q _ _ _ hk (.int _ _) (O.tok _) (Ext.refl _ _) (Nat.succ_pos _)
  | _=>cases h2
 | _=>cases h1
end
end
section
set_option tactic.hygienic false
variable [iC:Cs]
section
variable {W:Wd} {ctx:List Bd} {b:Nat} {p q r:Bool}
theorem R1:GO W false ZG (binaryOp .Sub):=KI (λA E Q s i j t u K m q=>PySem.P.sub_int (q _ (YZ (show JZ (i-j) K from m)))) λx y K m=>by
 refine Xs m λi qa m'=>?_;clear m;subst qa;refine Xs m' λj qb __=>?_;clear m';subst qb;exact ⟨rfl,rfl⟩
theorem W6:GO W false TU (binaryOp .Add):=KI (λA E Q s i j t u K m q=>PySem.P.add_int (q _ (YZ (show JZ (i+j) K from m)))) λx y K m=>by
 refine Xs m λi qa m'=>?_;clear m;subst qa;refine Xs m' λj qb __=>?_;clear m';subst qb;exact ⟨rfl,rfl⟩
theorem Pk:GO W false Mt (binaryOp .Pow):=KI (λA E Q s i j t u K m q=>by
  refine Xi λgk=>?_;rcases Xo (show ifB (Jb i) (ifB (VO j) (JZ (i ^ j.toNat) K) False) False from m) with ⟨hs,m⟩ | ⟨_,m⟩ <;> (refine gk ?_;clear gk)
  ·refine Xi λgk=>?_;rcases Xo m with ⟨hn,m⟩ | ⟨_,m⟩ <;> (refine gk ?_;clear gk)
   ·have h1:=JJ hs
    have h2:=ZP hn
    refine pow_int (by omega) ?_ (q _ (YZ m))
    have hb:Builtin.Int.intBits i≤64:=intBits_le_64 (by omega) (by omega)
    have h3:(Builtin.Int.intBits i:Int)*j≤64*64:=Int.mul_le_mul (by omega) (by omega) (by omega) (by omega)
    omega
   ·exact m.elim
  ·exact m.elim) λx y K m=>by
 refine Xs m λi qa m'=>?_;clear m;subst qa;refine Xs m' λj qb __=>?_;clear m';subst qb;exact ⟨rfl,rfl⟩
noncomputable abbrev Tp (p:Bool) (s:Shared):Prop:=p=true→0<s.toks
noncomputable def Ah (W:Wd) (r:Bool) (ρ:Rho) (s:Shared) (K:MV→H→Prop) (Q:Value→Shared→Prop):Prop:=
 ∀ v mv ρ' σ' s',K mv σ'→VR ρ' s'.heap v mv→Ok W ρ' σ' s'→Ext ρ ρ' s.heap s'.heap→Tp r s'→Q v s'
noncomputable def GE (W:Wd) (ctx:List Bd) (b:Nat) (p r:Bool) (m:Ev) (e:Expr):Prop:=
 ∀ (A:Around) (env:Env) (ρ:Rho) (σ:H) (vs:Vs) (s:Shared) (K:MV→H→Prop) (Q E:Value→Shared→Prop),
  OkA A b→FR W ctx env vs ρ s.heap→Ok W ρ σ s→Tp p s→m vs σ K→Ah W r ρ s K Q→wpAny (model W.prog W.w) A (eval e env) Q E s
theorem Xr {m:Ev} {e:Expr} (h:XD W ctx b m e):GE W ctx b p p m e:=λA env ρ σ vs s K Q E OA F O hp hm q=>
 Lh (h A env ρ σ vs s K _ E OA F O hm λv mv ρ' σ' s' k v' O' X hl=>q v mv ρ' σ' s' k v' O' X λe=>Nat.lt_of_lt_of_le (hp e) hl)
theorem V2 {m:Ev} {e:Expr} (h:GE W ctx b false r m e):XD W ctx b m e:=λA env ρ σ vs s K Q E OA F O hm q=>
 h A env ρ σ vs s K Q E OA F O (λe=>by cases e) hm λv mv ρ' σ' s' k v' O' X __=>q v mv ρ' σ' s' k v' O' X
theorem ge_int {i:Int} {k pos}:GE W ctx b p true (Xl (.int i)) (.Constant (.int i) k pos):=λA env ρ σ vs s K Q E __ F O __ m q=>
 wpAny_Constant_int (q _ _ ρ σ _ m (.int i _) (O.tok _) (Ext.refl _ _) λ__=>Nat.succ_pos _)
theorem Yt {x:UInt64} {k pos}:GE W ctx b true true (Xl (.flt x)) (.Constant (.float x) k pos):=λA env ρ σ vs s K Q E __ F O hp m q=>
 AutoFloatOps.wpAny_Constant_float (q _ _ ρ σ _ m (.flt x _ (Nat.ne_of_gt (hp rfl))) (O.tok _) (Ext.refl _ _) λ__=>Nat.succ_pos _)
theorem XB {o:B2} {op:Operator} {m₁ m₂:Ev} {l e:Expr} {pos} {t:Bool} (ho:GO W t o (binaryOp op)) (h1:GE W ctx (b+1) p q m₁ l) (h2:GE W ctx (b+1) q r m₂ e) (ht:t=true→r=true:=by decide) :
  GE W ctx (b+1) p true (Xq o m₁ m₂) (.BinOp l op e pos):=
 λA env ρ σ vs s K Q E OA F O hp m qq=>by
 refine wpAny_BinOp (h1 A env ρ σ vs s _ _ _ OA F O hp m λu x ρ₁ σ₁ s₁ k₁ v₁ O₁ X₁ t₁=>?_)
 refine h2 A env ρ₁ σ₁ vs s₁ _ _ _ OA (F.ext X₁) O₁ t₁ k₁ λv y ρ₂ σ₂ s₂ k₂ v₂ O₂ X₂ t₂=>?_
 exact ho A ρ₂ σ₂ s₂ x y u v _ _ _ (OA.mono (by omega)) (v₁.ext X₂) v₂ O₂ (λe=>t₂ (ht e)) k₂ λr mr s₃ k₃ v₃ O₃ X₃ t₃=>qq _ _ ρ₂ σ₂ s₃ k₃ v₃ O₃ ((X₁.trans X₂).trans X₃) λ__=>t₃
noncomputable def GL (W:Wd) (ctx:List Bd) (b:Nat) (p r:Bool) (ms:List Ev) (es:List Expr):Prop:=
 ∀ (A:Around) (env:Env) (ρ:Rho) (σ:H) (vs:Vs) (s:Shared) (K:List MV→H→Prop) (Q:List Value→Shared→Prop) (E:Value→Shared→Prop) (pos:Pos),
  OkA A b→FR W ctx env vs ρ s.heap→Ok W ρ σ s→Tp p s→eE ms vs σ K→(∀ v mv ρ' σ' s',v.length=es.length→K mv σ'→VRs ρ' s'.heap v mv→Ok W ρ' σ' s'→Ext ρ ρ' s.heap s'.heap→Tp r s'→Q v s')→wpAny (model W.prog W.w) A (spliced (backTo pos (starEach es env))) Q E s
theorem Y5:GL W ctx b p p [] []:=λA env ρ σ vs s K Q E pos OA F O hp m q=>args_nil (q _ _ ρ σ s rfl m .nil O (Ext.refl _ _) hp)
theorem XF {m₁:Ev} {ms:List Ev} {e:Expr} {es:List Expr} (h1:GE W ctx b p q m₁ e) (h2:GL W ctx b q r ms es) (he:∀ env,starEach (e :: es) env=(false,eval e env) :: starEach es env:=by intro _;rfl):GL W ctx b p r (m₁ :: ms) (e :: es):=
 λA env ρ σ vs s K Q E pos OA F O hp m q=>by
 refine args_cons (h1 A env ρ σ vs s _ _ _ OA F O hp m λv x ρ₁ σ₁ s₁ k₁ v₁ O₁ X₁ t₁=>?_) (he env)
 exact h2 A env ρ₁ σ₁ vs s₁ _ _ _ pos OA (F.ext X₁) O₁ t₁ k₁ λvs xs ρ₂ σ₂ s₂ n₂ k₂ v₂ O₂ X₂ t₂=>q _ _ _ _ _ (by simp [n₂]) k₂ (.cons (v₁.ext X₂) v₂) O₂ (X₁.trans X₂) t₂
end
end
section
set_option tactic.hygienic false
section
noncomputable def WA (l e g:Bool):C2:=λ__ a b k=>match a with
 | .flt x=>match b with | .flt y=>fcN x.toNat λv=>fcN y.toNat λw=>HS v w (k l) (k e) (k g) | _=>False
 | _=>False
noncomputable def Fg:C2:=WA true false false
noncomputable def Il:C2:=WA true true false
noncomputable def UE:C2:=WA false true false
noncomputable def IU (o:B2) (m:Ev) (c:UInt64):Ev:=λvs h k=>m vs h λx h1=>o x (.flt c) λz=>k z h1
noncomputable def HU (o:C2) (m:Ev) (c:UInt64):Ev:=λvs h k=>m vs h λx h1=>o h1 x (.flt c) λz=>k (.bool z) h1
end
theorem TI {l e g:Bool} {h:H} {x y:UInt64} {k:Bool→Prop} (m:WA l e g h (.flt x) (.flt y) k):(Float64.cmp x y=some .lt∧k l)∨(Float64.cmp x y=some .eq∧k e)∨(Float64.cmp x y=some .gt∧k g):=by
 have m:fcN x.toNat λv=>fcN y.toNat λw=>HS v w (k l) (k e) (k g):=m
 rw [Yy,Yy] at m
 exact UR m
theorem WR {h:H} {x y:UInt64} {k:Bool→Prop} (m:Fg h (.flt x) (.flt y) k):k (Float64.cmp x y==some .lt):=by
 rcases TI m with ⟨e,m⟩ | ⟨e,m⟩ | ⟨e,m⟩ <;> rw [e] <;> exact m
theorem Wx {h:H} {x y:UInt64} {k:Bool→Prop} (m:Il h (.flt x) (.flt y) k):k (Float64.cmp x y==some .lt||Float64.cmp x y==some .eq):=by
 rcases TI m with ⟨e,m⟩ | ⟨e,m⟩ | ⟨e,m⟩ <;> rw [e] <;> exact m
theorem Be {h:H} {x y:UInt64} {k:Bool→Prop} (m:UE h (.flt x) (.flt y) k):k (Float64.cmp x y==some .eq):=by
 rcases TI m with ⟨e,m⟩ | ⟨e,m⟩ | ⟨e,m⟩ <;> rw [e] <;> exact m
variable [iC:Cs]
section
variable {W:Wd} {ctx:List Bd} {b:Nat} {p q r:Bool}
theorem Te:JQ W Fg (compareOp .Lt):=by
 intro A ρ σ s x y u v K Q E OA hu hv O m q
 cases x with
 | flt a=>
  refine hu.fltIE λt qa __=>?_;clear hu;subst qa;cases hv with
  | flt c t'=>exact AutoFloatOps.lt_0 (q _ _ (WR m) O (Ext.refl _ _))
  | _=>exact (show False from m).elim
 | _=>exact (show False from m).elim
theorem KC:JQ W Il (compareOp .LtE):=by
 intro A ρ σ s x y u v K Q E OA hu hv O m q
 cases x with
 | flt a=>
  refine hu.fltIE λt qa __=>?_;clear hu;subst qa;cases hv with
  | flt c t'=>exact AutoFloatOps.le_0 (q _ _ (Wx m) O (Ext.refl _ _))
  | _=>exact (show False from m).elim
 | _=>exact (show False from m).elim
theorem Jl:JQ W UE (compareOp .Eq):=by
 intro A ρ σ s x y u v K Q E OA hu hv O m q
 cases x with
 | flt a=>
  refine hu.fltIE λt qa __=>?_;clear hu;subst qa;cases hv with
  | flt c t'=>exact AutoFloatOps.eq_0 (q _ _ (Be m) O (Ext.refl _ _))
  | _=>exact (show False from m).elim
 | _=>exact (show False from m).elim
noncomputable def GT (W:Wd) (ctx:List Bd) (b:Nat) (p r:Bool) (m:Ev) (e:Expr):Prop:=
 ∀ (A:Around) (env:Env) (ρ:Rho) (σ:H) (vs:Vs) (s:Shared) (K:Bool→H→Prop) (Q:Bool→Shared→Prop) (E:Value→Shared→Prop),
  OkA A b→FR W ctx env vs ρ s.heap→Ok W ρ σ s→Tp p s→m vs σ (λx h=>YS x λc=>K c h)→(∀ c ρ' σ' s',K c σ'→Ok W ρ' σ' s'→Ext ρ ρ' s.heap s'.heap→Tp r s'→Q c s')→
   wpAny (model W.prog W.w) A (isTrue e env (eval e env)) Q E s
theorem NO {m:Ev} {e:Expr} (h:JO W ctx b m e):GT W ctx b p p m e:=λA env ρ σ vs s K Q E OA F O hp hm q=>
 Lh (h A env ρ σ vs s K _ E OA F O hm λc ρ' σ' s' k O' X hl=>q c ρ' σ' s' k O' X λe=>Nat.lt_of_lt_of_le (hp e) hl)
theorem ZY {o:C2} {op:CmpOp} {m₁ m₂:Ev} {l e:Expr} {pos} (ho:JQ W o (compareOp op)) (h1:GE W ctx (b+1) p q m₁ l) (h2:GE W ctx (b+1) q r m₂ e) (hb:behindInMarks op e=false):GT W ctx (b+1) p r (X4 o m₁ m₂) (.Compare l [op] [e] pos):=
 λA env ρ σ vs s K Q E OA F O hp m qq=>by
 refine wpAny_isTrue_Compare1 (h1 A env ρ σ vs s _ _ _ OA F O hp m λu x ρ₁ σ₁ s₁ k₁ v₁ O₁ X₁ t₁=>?_) hb
 refine h2 A env ρ₁ σ₁ vs s₁ _ _ _ OA (F.ext X₁) O₁ t₁ k₁ λv y ρ₂ σ₂ s₂ k₂ v₂ O₂ X₂ t₂=>?_
 exact Lh (ho A ρ₂ σ₂ s₂ x y u v _ _ _ (OA.mono (by omega)) (v₁.ext X₂) v₂ O₂ k₂ λr s₃ k₃ O₃ X₃ h₃=>wpAny_truthy_bool (qq _ ρ₂ σ₂ s₃ k₃ O₃ ((X₁.trans X₂).trans X₃) λe=>Nat.lt_of_lt_of_le (t₂ e) h₃))
theorem Bv {m₁:Ev} {l:Expr} {c:UInt64} {k cp pos} (h1:GE W ctx (b+1) p q m₁ l):GT W ctx (b+1) p true (HU UE m₁ c) (.Compare l [.Eq] [.Constant (.float c) k cp] pos):=
 λA env ρ σ vs s K Q E OA F O hp m qq=>by
 refine wpAny_isTrue_Compare1 (h1 A env ρ σ vs s _ _ _ OA F O hp m λu x ρ₁ σ₁ s₁ k₁ v₁ O₁ X₁ t₁=>?_) rfl
 refine AutoFloatOps.wpAny_Constant_float ?_
 cases x with
 | flt a=>
  refine v₁.fltIE λt qa __=>?_;clear v₁;subst qa;exact AutoFloatOps.eq_0 (wpAny_truthy_bool (qq _ ρ₁ σ₁ _ (Be k₁) (O₁.tok _) X₁ λ__=>Nat.succ_pos _))
 | _=>exact (show False from k₁).elim
theorem Mf {m₁:Ev} {l:Expr} {c:UInt64} {k cp pos} (h1:GE W ctx (b+1) p q m₁ l):GE W ctx (b+1) p true (IU ND m₁ c) (.BinOp l .Mod (.Constant (.float c) k cp) pos):=
 λA env ρ σ vs s K Q E OA F O hp m qq=>by
 refine wpAny_BinOp (h1 A env ρ σ vs s _ _ _ OA F O hp m λu x ρ₁ σ₁ s₁ k₁ v₁ O₁ X₁ t₁=>?_)
 refine AutoFloatOps.wpAny_Constant_float ?_
 rcases Xo (show ifB (Jo x&&true) _ False from FG k₁) with ⟨hf,k₁⟩ | ⟨_,k₁⟩
 ·cases x with
  | flt a=>
   refine v₁.fltIE λt qa __=>?_;clear v₁;subst qa
   rcases Xo (show ifB (Float64.isZero c) False _ from k₁) with ⟨_,m⟩ | ⟨hz,m⟩
   ·exact m.elim
   ·exact AutoFloatOps.mod_1 (by rw [hz];decide) (qq _ _ ρ₁ σ₁ _ (Jd m) (.flt _ _ (Nat.succ_ne_zero _)) (O₁.tok _) X₁ λ__=>Nat.succ_pos _)
  | _=>cases hf
 ·exact k₁.elim
theorem Zu {ms:List Ev} {es:List Expr} {k pos} (h:GL W ctx b p r ms es) (hz:es.length≤64):GE W ctx b p r (YI ms) (.Tuple es k pos):=λA env ρ σ vs s K Q E OA F O hp m q=>by
 refine wpAny_Tuple (h A env ρ σ vs s _ _ _ pos OA F O hp m λus xs ρ₁ σ₁ s₁ n₁ k₁ v₁ O₁ X₁ t₁=>⟨by rw [n₁,sizeLine_eq];omega,?_⟩)
 exact q _ _ ρ₁ σ₁ _ k₁ (.seq (O₁.hr.fresh (XZ _)) ⟨0,Heap.get?_push_size _ rfl⟩ (v₁.ext (Ext.push _ _ _))) (O₁.push _) (X₁.trans (Ext.push _ _ _)) t₁
theorem UJ {f:Fn} {ms:List Ev} {e:Expr} {es:List Expr} {y:Str} {pos' pos} {c:Nat} (G:Glb W) (hm:Bd.glo y∈ctx) (hN:JN W c f y) (h:GL W ctx b p r ms (e :: es)) (hcb:c≤b:=by decide) (hdb:(y==("__debug__":Str))=false:=by decide)
  (he:∀ env,starEach (e :: es) env=(false,eval e env) :: starEach es env:=by intro _;rfl)
  (hc:∀ env,eval (.Call (.Name y pos') (e :: es) [] pos) env=(do callWith pos (← eval (.Name y pos') env) [] (backTo pos (starEach (e :: es) env)) (backToKw pos (keywordEach [] env))):=by intro _;rfl) :
  GE W ctx b p r (YN f ms) (.Call (.Name y pos') (e :: es) [] pos):=λA env ρ σ vs s K Q E OA F O hp m q=>by
 refine Xi λgk=>?_
 refine hN.elim λa zz=>zz.elim λo zz=>zz.elim λfd zz=>zz.elim λhy zz=>zz.elim λho zz=>zz.elim λhd hf=>?_
 refine gk ?_;clear gk
 refine Call_ (ZN G F O hm hy hdb ?_) (hc env)
 refine callWith_def (o:=o) hd (h A env ρ σ vs s (λxs h1=>f xs h1 K) _ _ pos OA F O hp m λus xs ρ₁ σ₁ s₁ n₁ k₁ v₁ O₁ X₁ t₁=>⟨O₁.base _ _ ho,?_⟩) (he env)
 exact Lh (hf A ρ₁ σ₁ s₁ xs us K _ E (OA.mono hcb) v₁ O₁ k₁ λv mv ρ₂ σ₂ s₂ k₂ v₂ O₂ X₂ hl=>q _ _ _ _ _ k₂ v₂ O₂ (X₁.trans X₂) λe=>Nat.lt_of_lt_of_le (t₁ e) hl)
end
end
section
set_option tactic.hygienic false
variable [iC:Cs]
section
variable {W:Wd} {ctx:List Bd} {b:Nat} {p q r:Bool}
theorem Ka {A:Around} {env:Env} {ρ:Rho} {σ:H} {vs:Vs} {s:Shared} {u:Value} {x:MV} {y:Str} {p:Pa} {k:KS} {Q:Unit→Shared→Prop} {E:Value→Shared→Prop}
  (F:FR W ctx env vs ρ s.heap) (nb:NB W env) (O:Ok W ρ σ s) (hu:VR ρ s.heap u x) (hm:Bd.loc y p∈ctx) (hc:Y8 ctx y p=true) (m:Y7 x vs p λvs'=>k vs' σ)
  (q:∀ s' vs',Ok W ρ σ s'→ExtS env ρ ρ s.heap s'.heap→FR W ctx env vs' ρ s'.heap→k vs' σ→0<s'.toks→Q () s'):wpAny (model W.prog W.w) A (storeName env y u) Q E s:=by
 refine Xi λgk=>?_
 refine Zt m λvs' hk hg hs=>?_
 refine F.locE λmm hns hl=>?_
 refine gk ?_;clear gk
 have hpos:(env.scope.kind==.class||(env.scope.kind==.module&&env.locals != env.globals))=false:=by rw [F.kind];rfl
 refine wpAny_storeName_local (hl y p hm).1 hns (λh' hn' hsb=>?_) hpos
 have kk:∀ b o,s.heap.get? b=some o→¬ plc env b→h'.get? b=some o:=λb o e np=>(hsb.2 b λz=>np (.inl z)).trans e
 have X:ExtS env ρ ρ s.heap h':=⟨λ__ __=>rfl,λ__ x=>.inl x,λb o e __ np=>kk b o e np,λb __ o e np=>kk b o e np⟩
 exact q _ vs' (O.stored F nb kk) X (F.upd X hns hl hn' hsb hm hc (.inr (hg▸hu.extS F X)) hs) hk (Nat.succ_pos _)
noncomputable def Ra (W:Wd) (ctx:List Bd) (t:Bool) (env:Env) (ρ:Rho) (s:Shared) (n bk ct:KS) (r:K) (Q:Flow→Shared→Prop):Prop:=
 ∀ ρ' σ' s',Ok W ρ' σ' s'→ExtS env ρ ρ' s.heap s'.heap→∀ vs',FR W ctx env vs' ρ' s'.heap→
  (n vs' σ'→Tp t s'→Q .next s')∧(bk vs' σ'→Q .brk s')∧(ct vs' σ'→Q .cont s')∧∀ v mv,VR ρ' s'.heap v mv→r mv σ'→Q (.ret v) s'
noncomputable def GS (W:Wd) (ctx:List Bd) (b:Nat) (p t:Bool) (x:Ex) (st:Stmt):Prop:=
 ∀ (A:Around) (env:Env) (ρ:Rho) (σ:H) (vs:Vs) (s:Shared) (n bk ct:KS) (r:K) (Q:Flow→Shared→Prop) (E:Value→Shared→Prop),
  OkA A b→NB W env→FR W ctx env vs ρ s.heap→Ok W ρ σ s→Tp p s→x vs σ n bk ct r→Ra W ctx t env ρ s n bk ct r Q→wpAny (model W.prog W.w) A (exec st env) Q E s
noncomputable def GB (W:Wd) (ctx:List Bd) (b:Nat) (p t:Bool) (x:Ex) (st:List Stmt):Prop:=
 ∀ (A:Around) (env:Env) (ρ:Rho) (σ:H) (vs:Vs) (s:Shared) (n bk ct:KS) (r:K) (Q:Flow→Shared→Prop) (E:Value→Shared→Prop),
  OkA A b→NB W env→FR W ctx env vs ρ s.heap→Ok W ρ σ s→Tp p s→x vs σ n bk ct r→Ra W ctx t env ρ s n bk ct r Q→wpAny (model W.prog W.w) A (execs st env) Q E s
theorem LL {x:Ex} {l:List Stmt} (h:GB W ctx b false r x l):ZB W ctx b x l:=λA env ρ σ vs s n bk ct rr Q E OA nb F O m q=>
 h A env ρ σ vs s n bk ct rr Q E OA nb F O (λe=>by cases e) m λρ' σ' s' O' X vs' F'=>⟨λk __=>(q ρ' σ' s' O' X vs' F').1 k,(q ρ' σ' s' O' X vs' F').2⟩
theorem XS:GB W ctx b p p (sL []) []:=λA env ρ σ vs s n bk ct r Q E OA nb F O hp m q=>
 wpAny_execs_nil ((q ρ σ s O (ExtS.refl _ _ _) vs F).1 m hp)
theorem Xy {x:Ex} {l:List Ex} {st:Stmt} {rest:List Stmt} (h1:GS W ctx b p q x st) (h2:GB W ctx b q r (sL l) rest):GB W ctx b p r (sL (x :: l)) (st :: rest):=λA env ρ σ vs s n bk ct rr Q E OA nb F O hp m qq=>by
 refine wpAny_execs_cons (h1 A env ρ σ vs s (λvs' h'=>sL l vs' h' n bk ct rr) bk ct rr _ _ OA nb F O hp m λρ₁ σ₁ s₁ O₁ X₁ vs₁ F₁=>?_)
 have q1:=qq ρ₁ σ₁ s₁ O₁ X₁ vs₁ F₁
 refine ⟨λk₁ t₁=>?_,q1.2.1,q1.2.2.1,q1.2.2.2⟩
 exact h2 A env ρ₁ σ₁ vs₁ s₁ n bk ct rr Q E OA nb F₁ O₁ t₁ k₁ λρ₂ σ₂ s₂ O₂ X₂ vs₂ F₂=>qq ρ₂ σ₂ s₂ O₂ (X₁.trans X₂ F₁.alive) vs₂ F₂
theorem YY {m₁:Ev} {e:Expr} {pos} (h:GE W ctx b p q m₁ e):GS W ctx b p r (Yn m₁) (.Return (some e) pos):=λA env ρ σ vs s n bk ct rr Q E OA nb F O hp m qq=>
 wpAny_Return_some (h A env ρ σ vs s rr _ _ OA F O hp m λv mv ρ' σ' s' hk hv O' X __=>(qq ρ' σ' s' O' X.toS vs (F.ext X)).2.2.2 v mv hv hk)
theorem Zj {c:Ev} {x y:Ex} {t:Expr} {l e:List Stmt} {pos} (hc:GT W ctx b p q c t) (h1:GB W ctx b q r x l) (h2:GB W ctx b q r y e):GS W ctx b p r (sIf c x y) (.If t l e pos):=λA env ρ σ vs s n bk ct rr Q E OA nb F O hp m qq=>by
 refine wpAny_If (hc A env ρ σ vs s (λt h1=>ifB t (x vs h1 n bk ct rr) (y vs h1 n bk ct rr)) _ _ OA F O hp m λc ρ₁ σ₁ s₁ k₁ O₁ X₁ t₁=>?_)
 have q':Ra W ctx r env ρ₁ s₁ n bk ct rr Q:=λρ₂ σ₂ s₂ O₂ X₂ vs₂ F₂=>qq ρ₂ σ₂ s₂ O₂ (X₁.toS.trans X₂ (F.ext X₁).alive) vs₂ F₂
 rcases Xo k₁ with ⟨rfl,k₁⟩ | ⟨rfl,k₁⟩
 ·exact h1 A env ρ₁ σ₁ vs s₁ n bk ct rr Q E OA nb (F.ext X₁) O₁ t₁ k₁ q'
 ·exact h2 A env ρ₁ σ₁ vs s₁ n bk ct rr Q E OA nb (F.ext X₁) O₁ t₁ k₁ q'
theorem X7 {pp:Pa} {m₁:Ev} {y:Str} {e:Expr} {pos' pos} (hm:Bd.loc y pp∈ctx) (hc:Y8 ctx y pp=true) (h:GE W ctx b p q m₁ e)
  (hs:∀ env,swapsWith e (some (.Name y pos')) pos.line env=pure false:=by intro _;rfl):GS W ctx b p true (XO (tV pp) m₁) (.Assign [.Name y pos'] e pos):=λA env ρ σ vs s n bk ct rr Q E OA nb F O hp m qq=>by
 refine wpAny_Assign_Name (h A env ρ σ vs s (λx h1=>Y7 x vs pp λvs'=>n vs' h1) _ _ OA F O hp m λv mv ρ₁ σ₁ s₁ k₁ v₁ O₁ X₁ t₁=>?_) (hs env)
 exact Ka (F.ext X₁) nb O₁ v₁ hm hc k₁ λs₂ vs₂ O₂ X₂ F₂ k₂ t₂=>(qq ρ₁ σ₁ s₂ O₂ (X₁.toS.trans X₂ (F.ext X₁).alive) vs₂ F₂).1 k₂ λ__=>t₂
end
end
section
set_option tactic.hygienic false
section
noncomputable def NQ (x y:MV) (p:Prop):Prop:=match x with
 | .flt a=>match y with
  | .flt c=>ifB (Nat.beq a.toNat c.toNat) (ifB (fnB a.toNat) p False) False
  | _=>False
 | _=>False
noncomputable def CE:C2:=λ__ x y k=>VA x λxs=>VA y λys=>match xs with
 | [a,b]=>match ys with
  | [c,d]=>NQ a c (NQ b d (k false))
  | _=>False
 | _=>False
noncomputable def PD (m:Ev):Ev:=λvs h k=>m vs h λx h1=>YS x λc=>k (.bool (!c)) h1
noncomputable def HZ (m:Ev):Ev:=λvs h k=>m vs h λx h1=>match x with
 | .flt a=>Cp a.toNat (k (.bool true) h1)
 | _=>False
end
variable [iC:Cs]
section
variable {W:Wd} {ctx:List Bd} {b:Nat} {p q r:Bool}
theorem Dn {x y:MV} {p:Prop} (h:NQ x y p):∃ a,x=.flt a∧y=.flt a∧(Float64.cmp a a==some .eq)=true∧p:=by
 cases x with
 | flt a=>
  cases y with
  | flt c=>
   rcases Xo (show ifB (Nat.beq a.toNat c.toNat) (ifB (fnB a.toNat) p False) False from h) with ⟨e,h1⟩ | ⟨_,h1⟩
   ·rcases Xo h1 with ⟨e2,h2⟩ | ⟨_,h2⟩
    ·have e:=UInt64.toNat_inj.mp (Nat.eq_of_beq_eq_true e)
     clear h;subst e
     exact ⟨a,rfl,rfl,Wl e2,h2⟩
    ·exact h2.elim
   ·exact h1.elim
  | _=>exact (show False from h).elim
 | _=>exact (show False from h).elim
theorem U7 {x y:MV} {p:Prop} (h:NQ x y p) {C':Prop} (f':∀ a,x=.flt a→y=.flt a→(Float64.cmp a a==some .eq)=true→p→C'):C':=by refine (Dn h).elim λa zz=>zz.elim λq0 zz=>zz.elim λq1 zz=>zz.elim λq2 q3=>?_;exact f' a q0 q1 q2 q3
theorem Ry {M:Model} {A:Around} {E:Value→Shared→Prop} {s:Shared} {y z:UInt64} {u v:Tok} {Q:Bool→Shared→Prop}
  (h1:u≠0) (h2:v≠0) (hb:NoneBooked s.heap) (hq:∀ b,Q b s):wpAny M A (isSame (.float y u) (.float z v)) Q E s:=by
 have h0:(u==0||v==0)=false:=by simp [h1,h2]
 show wpAny M A (isSame.created (y==z&&!Float64.isNaN y) u v) Q E s
 unfold isSame.created
 refine wpAny_ite ?_
 split
 ·rename_i h;rw [h0] at h;exact absurd h Bool.false_ne_true
 refine wpAny_ite ?_
 split
 ·exact wpAny_pure (hq _)
 refine wpAny_ite ?_
 split
 ·exact wpAny_pure (hq _)
 refine wpAny_bind (wpAny_sharingNotTold_none hb ?_)
 simp only [Bool.false_eq_true,if_false]
 refine wpAny_bind (wpAny_sharingNotTold_none hb ?_)
 simp only [Bool.false_eq_true,if_false]
 exact wpAny_bind (wpAny_rule (wpAny_bind (wpAny_askSetting (wpAny_pure (hq _)))))
theorem Lc {A:Around} {s:Shared} {a:UInt64} {t u:Tok} (ht:t≠0) (hu:u≠0) (hb:NoneBooked s.heap) (he:(Float64.cmp a a==some .eq)=true):PySem.SeqAt.EqAt A s (.float a t) (.float a u) true:=λprog w E Q hq=>by
 unfold eqBool
 refine wpAny_holding ?_
 by_cases hab:(Value.float a t==Value.float a u)=true
 ·rw [if_pos hab];exact wpAny_bind (wpAny_rule (wpAny_pure hq))
 ·rw [if_neg hab]
  dsimp only
  have fin:wpAny (model prog w) A (do truthOfDropped (← richCompare .Eq (.float a t) (.float a u))) Q E s:=by
   refine wpAny_bind (AutoFloatOps.eq_0 (prog:=prog) (w:=w) ?_)
   rw [he]
   exact wpAny_truthy_bool hq
  refine wpAny_bind (Ry ht hu hb λb=>?_)
  cases b
  ·rw [if_neg (by decide)];exact fin
  ·rw [if_pos rfl];exact wpAny_pure hq
theorem Kn (hb:NoneBooked W.h₀):JQ W CE (compareOp .NotEq):=by
 intro A ρ σ s x y u v K Q E OA hu hv O m q
 refine Xi λgk=>?_
 have hb':NoneBooked s.heap:=by refine hb.elim λmc zz=>zz.elim λhn hk=>?_;exact ⟨mc,hn.at' λo e=>O.base _ _ e,hk⟩
 refine YQ m λxs qa m'=>?_;clear m;subst qa
 refine YQ m' λys qa m''=>?_;clear m';subst qa
 refine hu.seqIE λa1 us qa no hs hr=>?_;clear hu;subst qa
 refine hv.seqIE λa2 ws qa no' hs' hr'=>?_;clear hv;subst qa
 refine gk ?_;clear gk
 cases hr with
 | nil=>exact (show False from m'').elim
 | @cons u1 x1 us1 xs1 r1 rr=>
 cases rr with
 | nil=>exact (show False from m'').elim
 | @cons u2 x2 us2 xs2 r2 rr=>
 cases rr with
 | cons=>exact (show False from m'').elim
 | nil=>
 cases hr' with
 | nil=>exact (show False from m'').elim
 | @cons v1 y1 ws1 ys1 s1 ss=>
 cases ss with
 | nil=>exact (show False from m'').elim
 | @cons v2 y2 ws2 ys2 s2 ss=>
 cases ss with
 | cons=>exact (show False from m'').elim
 | nil=>
 refine Xi λgk=>?_
 refine U7 (show NQ x1 y1 (NQ x2 y2 (K false)) from m'') λa qa qb he m1=>?_;subst qa;subst qb
 refine U7 m1 λc qa qb he' m2=>?_;clear m1;subst qa;clear m'';subst qb
 refine r1.fltIE λt1 qa h1=>?_;clear r1;subst qa;refine r2.fltIE λt2 qb h2=>?_;clear r2;subst qb;refine s1.fltIE λt3 qc h3=>?_;clear s1;subst qc;refine s2.fltIE λt4 qd h4=>?_;clear s2;subst qd
 refine gk ?_;clear gk
 refine PySem.SeqAt.RcNeAt.tuples hs.tuple hs'.tuple (by have:=OA.2.2;omega) (e:=λ__=>true) (λj i1 i2=>?_) W.prog W.w E Q ?_
 ·have hj:j<2:=by simpa using i1
  match j,hj with
  | 0,_=>exact Lc h1 h3 hb' he
  | 1,_=>exact Lc h2 h4 hb' he'
 ·exact q false s m2 O (Ext.refl _ _)
theorem LB {m:Ev} {e:Expr} {pos} (h:JO W ctx b m e):JO W ctx b (PD m) (.UnaryOp .Not e pos):=λA env ρ σ vs s K Q E OA F O hm q=>
 wpAny_isTrue_Not (h A env ρ σ vs s (λc h=>K (!c) h) _ E OA F O hm λc ρ' σ' s' k O' X=>q (!c) ρ' σ' s' k O' X)
theorem No {m:Ev} {e:Expr} {k k' p1 p2 pos} (h:XD W ctx b m e)
  (hm:∀ (h:Unit),lastMarks [CmpOp.LtE,.Lt] [e,.Constant (.int 1) k' p2]=false:=by intro _;with_unfolding_all rfl) :
  JO W ctx b (HZ m) (.Compare (.Constant (.int 0) k p1) [.LtE,.Lt] [e,.Constant (.int 1) k' p2] pos):=λA env ρ σ vs s K Q E OA F O m' q=>by
 refine isTrue_chain (wpAny_Constant_int (test_link (h A env ρ σ vs { s with toks:=s.toks+1 } _ _ E OA F (O.tok _) m' λv mv ρ₁ σ₁ s₁ k₁ v₁ O₁ X₁=>?_))) (hm ())
 cases v₁ with
 | flt a t ht=>
  refine le_if (wpAny_truthy_bool ?_)
  refine Xi λgk=>?_
  refine (D4 k₁).elim λe zz=>zz.elim λe2 k₂=>?_
  refine gk ?_;clear gk
  rw [e,if_pos rfl]
  exact test_last (wpAny_Constant_int (lt_fi (wpAny_truthy_bool (q _ ρ₁ σ₁ _ (by rw [e2];exact k₂) (O₁.tok _) X₁))))
 | _=>exact (show False from k₁).elim
end
end
section
set_option tactic.hygienic false
section
noncomputable def gtF (x y:UInt64):Bool:=Float64.cmp x y==some Ordering.gt
noncomputable def ltF (x y:UInt64):Bool:=Float64.cmp x y==some Ordering.lt
noncomputable def G5 (x:MV) (k:UInt64→Prop):Prop:=match x with | .flt a=>k a | _=>False
noncomputable def Af (f:UInt64→UInt64→Bool) (x y z:MV) (h:H) (k:K):Prop:=G5 x λa=>G5 y λb=>G5 z λc=>ifB (f b a) (ifB (f c b) (k z h) (k y h)) (ifB (f c a) (k z h) (k x h))
noncomputable def KU (g:Nat→Nat→Prop→Prop→Prop) (x y z:MV) (h:H) (k:K):Prop:=G5 x λa=>G5 y λb=>G5 z λc=>g b.toNat a.toNat (g c.toNat b.toNat (k z h) (k y h)) (g c.toNat a.toNat (k z h) (k x h))
noncomputable def gtC (v w:Nat) (p q:Prop):Prop:=HS v w q q p
noncomputable def ltC (v w:Nat) (p q:Prop):Prop:=HS v w p q q
noncomputable def HB:MV→MV→MV→H→K→Prop:=KU gtC
noncomputable def FP:MV→MV→MV→H→K→Prop:=KU ltC
noncomputable def e3 (f:MV→MV→MV→H→K→Prop) (a b c:Ev):Ev:=λvs h k=>a vs h λx h1=>b vs h1 λy h2=>c vs h2 λz h3=>f x y z h3 k
noncomputable def Ck (f:Int→Int→Bool) (x:MV) (h:H) (k:K):Prop:=VA x λxs=>match xs with
 | [x,y,z]=>XM x λa=>XM y λb=>XM z λc=>ifB (f b a) (ifB (f c b) (k (.int c) h) (k (.int b) h)) (ifB (f c a) (k (.int c) h) (k (.int a) h))
 | _=>False
noncomputable def Cf:MV→H→K→Prop:=Ck λx y=>ltI y x
noncomputable def Cu:MV→H→K→Prop:=Ck λx y=>ltI x y
noncomputable def Hc (x:MV) (h:H) (k:K):Prop:=G5 x λa=>Ht a.toNat λn=>k (.int (.ofNat n)) h
end
theorem Dd {x:MV} {k:UInt64→Prop} (h:G5 x k):∃ c,x=.flt c∧k c:=by cases x <;> first | exact ⟨_,rfl,h⟩ | exact h.elim
theorem YE {x:MV} {k:UInt64→Prop} (h:G5 x k) {C':Prop} (f':∀ c,x=.flt c→k c→C'):C':=by refine (Dd h).elim λc zz=>zz.elim λq0 q1=>?_;exact f' c q0 q1
noncomputable def at3 (a b c:UInt64) (i:Nat):UInt64:=match i with | 0=>a | 1=>b | _=>c
theorem Iu {x y:UInt64} {p q:Prop} (h:gtC x.toNat y.toNat p q):ifB (gtF x y) p q:=by
 unfold gtF
 rcases UR h with ⟨e,h⟩ | ⟨e,h⟩ | ⟨e,h⟩ <;> rw [e] <;> exact h
theorem ID {x y:UInt64} {p q:Prop} (h:ltC x.toNat y.toNat p q):ifB (ltF x y) p q:=by
 unfold ltF
 rcases UR h with ⟨e,h⟩ | ⟨e,h⟩ | ⟨e,h⟩ <;> rw [e] <;> exact h
theorem F9 {b:Bool} {p q p' q':Prop} (h:ifB b p q) (h1:p→p') (h2:q→q'):ifB b p' q':=by
 cases b
 ·exact h2 h
 ·exact h1 h
theorem NE {g:Nat→Nat→Prop→Prop→Prop} {f:UInt64→UInt64→Bool} (hg:∀ {x y:UInt64} {p q:Prop},g x.toNat y.toNat p q→ifB (f x y) p q) {x y z:MV} {h:H} {k:K} (m:KU g x y z h k):Af f x y z h k:=by
 refine YE m λa qa m=>?_;subst qa
 refine YE m λb qa m=>?_;subst qa
 refine YE m λc qa m=>?_;clear m;subst qa
 exact F9 (hg m) hg hg
theorem Pz {a b c:UInt64} {t u x:Tok} {i:Nat} {v:Value} (h:(#[Value.float a t,.float b u,.float c x]:Array Value)[i]?=some v):∃ tok,v=.float (at3 a b c i) tok:=by
 match i,h with
 | 0,h=>exact ⟨t,by simpa [at3] using h.symm⟩
 | 1,h=>exact ⟨u,by simpa [at3] using h.symm⟩
 | 2,h=>exact ⟨x,by simpa [at3] using h.symm⟩
 | n+3,h=>simp at h
theorem Ul {a b c:UInt64} {t u x:Tok} {i:Nat} {v:Value} (h:(#[Value.float a t,.float b u,.float c x]:Array Value)[i]?=some v) {C':Prop} (f':∀ tok,v=.float (at3 a b c i) tok→C'):C':=by refine (Pz h).elim λtok q0=>?_;exact f' tok q0
section
variable {prog:Program} {w:World} {A:Around} {E:Value→Shared→Prop} {s:Shared}
theorem TK {a b c:UInt64} {t u x:Tok} {Q:Value→Shared→Prop} (hh:A.handled=none)
  (h:∀ h' tk,(∀ d o,s.heap.get? d=some o→h'.get? d=some o)→Q (if gtF b a=true then (if gtF c b=true then .float c x else .float b u) else (if gtF c a=true then .float c x else .float a t)) { s with heap:=h',toks:=tk }) :
  wpAny (model prog w) A (call (.builtin "max") [.float a t,.float b u,.float c x]) Q E s:=by
 have hT:(s.heap.push { cls:=.type "tuple",data:=.seq #[.float a t,.float b u,.float c x] }).IsTuple s.heap.objs.size #[.float a t,.float b u,.float c x]:=⟨_,Heap.get?_push_size _ rfl,rfl,0,rfl⟩
 refine call_max_three (wpAny_pyIter_tuple hT ?_)
 have hsz:(s.heap.push { cls:=.type "tuple",data:=.seq #[.float a t,.float b u,.float c x] }).objs.size=s.heap.objs.size+1:=Heap.size_push ..
 have hcmp:CmpOf prog w A.in1 .Gt (λi v=>(#[Value.float a t,.float b u,.float c x]:Array Value)[i]?=some v) λi j=>gtF (at3 a b c i) (at3 a b c j):=λi j vi vj s Q E hi hj hq=>by
  refine Ul hi λt1 qa=>?_;clear hi;subst qa
  refine Ul hj λt2 qa=>?_;clear hj;subst qa
  exact AutoFloatOps.gt_0 hq
 refine ex7 _ [_,s.heap.objs.size] [_] _ _ _ _ ⟨rfl,Walks.tuple (A:=A.in1) hh _ s.heap.objs.size (by rw [hsz];exact Nat.ne_of_lt (Nat.lt_succ_self _)) #[.float a t,.float b u,.float c x],
  ⟨⟨_,Heap.get?_push_size _ rfl,rfl,rfl⟩,hT.push _⟩,λd hd=>?_,by simp,hcmp,λv h' tk hP hk=>?_⟩
 ·show d<((s.heap.push _).push _).objs.size
  rw [Heap.size_push,hsz]
  rcases List.mem_cons.mp hd with rfl | hd
  ·rw [hsz];exact Nat.lt_succ_self _
  ·rcases List.mem_cons.mp hd with rfl | hd
   ·exact Nat.lt_succ_of_lt (Nat.lt_succ_self _)
   ·cases hd
 ·have hold:∀ d o,s.heap.get? d=some o→h'.get? d=some o:=λd o e=>by
   refine hk d o (λhm=>?_) (Heap.get?_push_of_some _ (Heap.get?_push_of_some _ e))
   rcases List.mem_cons.mp hm with e1 | hm
   ·have:=Heap.lt_size e;rw [e1,hsz] at this;exact Nat.lt_irrefl _ (Nat.lt_of_succ_lt this)
   ·cases hm
  have:=h h' tk hold
  have hP':(#[Value.float a t,.float b u,.float c x]:Array Value)[argBest (λi j=>gtF (at3 a b c i) (at3 a b c j)) 2]?=some v:=hP
  have hv:v=if gtF b a=true then (if gtF c b=true then Value.float c x else Value.float b u) else (if gtF c a=true then Value.float c x else Value.float a t):=by
   by_cases hba:gtF b a=true
   ·by_cases hc:gtF c b=true
    ·have e:argBest (λi j=>gtF (at3 a b c i) (at3 a b c j)) 2=2:=by simp [argBest,at3,hba,hc]
     rw [e] at hP'
     simpa [hba,hc] using hP'.symm
    ·have e:argBest (λi j=>gtF (at3 a b c i) (at3 a b c j)) 2=1:=by simp [argBest,at3,hba,hc]
     rw [e] at hP'
     simpa [hba,hc] using hP'.symm
   ·by_cases hc:gtF c a=true
    ·have e:argBest (λi j=>gtF (at3 a b c i) (at3 a b c j)) 2=2:=by simp [argBest,at3,hba,hc]
     rw [e] at hP'
     simpa [hba,hc] using hP'.symm
    ·have e:argBest (λi j=>gtF (at3 a b c i) (at3 a b c j)) 2=0:=by simp [argBest,at3,hba,hc]
     rw [e] at hP'
     simpa [hba,hc] using hP'.symm
  rw [hv];exact this
theorem UY {a b c:UInt64} {t u x:Tok} {Q:Value→Shared→Prop} (hh:A.handled=none)
  (h:∀ h' tk,(∀ d o,s.heap.get? d=some o→h'.get? d=some o)→Q (if ltF b a=true then (if ltF c b=true then .float c x else .float b u) else (if ltF c a=true then .float c x else .float a t)) { s with heap:=h',toks:=tk }) :
  wpAny (model prog w) A (call (.builtin "min") [.float a t,.float b u,.float c x]) Q E s:=by
 have hT:(s.heap.push { cls:=.type "tuple",data:=.seq #[.float a t,.float b u,.float c x] }).IsTuple s.heap.objs.size #[.float a t,.float b u,.float c x]:=⟨_,Heap.get?_push_size _ rfl,rfl,0,rfl⟩
 refine call_min_three (wpAny_pyIter_tuple hT ?_)
 have hsz:(s.heap.push { cls:=.type "tuple",data:=.seq #[.float a t,.float b u,.float c x] }).objs.size=s.heap.objs.size+1:=Heap.size_push ..
 have hcmp:CmpOf prog w A.in1 .Lt (λi v=>(#[Value.float a t,.float b u,.float c x]:Array Value)[i]?=some v) λi j=>ltF (at3 a b c i) (at3 a b c j):=λi j vi vj s Q E hi hj hq=>by
  refine Ul hi λt1 qa=>?_;clear hi;subst qa
  refine Ul hj λt2 qa=>?_;clear hj;subst qa
  exact AutoFloatOps.lt_0 hq
 refine ex7 _ [_,s.heap.objs.size] [_] _ _ _ _ ⟨rfl,Walks.tuple (A:=A.in1) hh _ s.heap.objs.size (by rw [hsz];exact Nat.ne_of_lt (Nat.lt_succ_self _)) #[.float a t,.float b u,.float c x],
  ⟨⟨_,Heap.get?_push_size _ rfl,rfl,rfl⟩,hT.push _⟩,λd hd=>?_,by simp,hcmp,λv h' tk hP hk=>?_⟩
 ·show d<((s.heap.push _).push _).objs.size
  rw [Heap.size_push,hsz]
  rcases List.mem_cons.mp hd with rfl | hd
  ·rw [hsz];exact Nat.lt_succ_self _
  ·rcases List.mem_cons.mp hd with rfl | hd
   ·exact Nat.lt_succ_of_lt (Nat.lt_succ_self _)
   ·cases hd
 ·have hold:∀ d o,s.heap.get? d=some o→h'.get? d=some o:=λd o e=>by
   refine hk d o (λhm=>?_) (Heap.get?_push_of_some _ (Heap.get?_push_of_some _ e))
   rcases List.mem_cons.mp hm with e1 | hm
   ·have:=Heap.lt_size e;rw [e1,hsz] at this;exact Nat.lt_irrefl _ (Nat.lt_of_succ_lt this)
   ·cases hm
  have:=h h' tk hold
  have hP':(#[Value.float a t,.float b u,.float c x]:Array Value)[argBest (λi j=>ltF (at3 a b c i) (at3 a b c j)) 2]?=some v:=hP
  have hv:v=if ltF b a=true then (if ltF c b=true then Value.float c x else Value.float b u) else (if ltF c a=true then Value.float c x else Value.float a t):=by
   by_cases hba:ltF b a=true
   ·by_cases hc:ltF c b=true
    ·have e:argBest (λi j=>ltF (at3 a b c i) (at3 a b c j)) 2=2:=by simp [argBest,at3,hba,hc]
     rw [e] at hP'
     simpa [hba,hc] using hP'.symm
    ·have e:argBest (λi j=>ltF (at3 a b c i) (at3 a b c j)) 2=1:=by simp [argBest,at3,hba,hc]
     rw [e] at hP'
     simpa [hba,hc] using hP'.symm
   ·by_cases hc:ltF c a=true
    ·have e:argBest (λi j=>ltF (at3 a b c i) (at3 a b c j)) 2=2:=by simp [argBest,at3,hba,hc]
     rw [e] at hP'
     simpa [hba,hc] using hP'.symm
    ·have e:argBest (λi j=>ltF (at3 a b c i) (at3 a b c j)) 2=0:=by simp [argBest,at3,hba,hc]
     rw [e] at hP'
     simpa [hba,hc] using hP'.symm
  rw [hv];exact this
end
variable [iC:Cs]
section
variable {W:Wd} {ctx:List Bd} {b:Nat} {p q r:Bool}
noncomputable def Fl (W:Wd) (f:MV→MV→MV→H→K→Prop) (g:Value):Prop:=
 ∀ (A:Around) (ρ:Rho) (σ:H) (s:Shared) (x y z:MV) (u v w:Value) (K:MV→H→Prop) (Q E:Value→Shared→Prop),OkA A 1→VR ρ s.heap u x→VR ρ s.heap v y→VR ρ s.heap w z→Ok W ρ σ s→f x y z σ K→Nc W ρ s K Q→wpAny (model W.prog W.w) A (call g [u,v,w]) Q E s
theorem Nu:Fl W HB (.builtin "max"):=λA ρ σ s x y z u v w K Q E OA hu hv hw O m q=>by
 refine Xi λgk=>?_
 refine YE (NE Iu m) λa qa m1=>?_;subst qa
 clear m
 refine YE m1 λc qa m2=>?_;clear m1;subst qa
 refine YE m2 λd qa m3=>?_;clear m2;subst qa
 refine hu.fltIE λt qa h1=>?_;clear hu;subst qa;refine hv.fltIE λt2 qb h2=>?_;clear hv;subst qb;refine hw.fltIE λt3 qc h3=>?_;clear hw;subst qc
 refine gk ?_;clear gk
 refine TK OA.1 λh' tk hk=>?_
 have fin:∀ v mv,K mv σ→VR ρ h' v mv→Q v { s with heap:=h',toks:=tk }:=λv mv k r=>q v mv ρ σ _ k r (O.keep hk) (.of_all hk)
 rcases Xo m3 with ⟨e1,m4⟩ | ⟨e1,m4⟩ <;> rcases Xo m4 with ⟨e2,m5⟩ | ⟨e2,m5⟩ <;> simp only [e1,e2,if_true,if_false,Bool.false_eq_true] <;> exact fin _ _ m5 (.flt _ _ ‹_›)
theorem NP:Fl W FP (.builtin "min"):=λA ρ σ s x y z u v w K Q E OA hu hv hw O m q=>by
 refine Xi λgk=>?_
 refine YE (NE ID m) λa qa m1=>?_;subst qa
 clear m
 refine YE m1 λc qa m2=>?_;clear m1;subst qa
 refine YE m2 λd qa m3=>?_;clear m2;subst qa
 refine hu.fltIE λt qa h1=>?_;clear hu;subst qa;refine hv.fltIE λt2 qb h2=>?_;clear hv;subst qb;refine hw.fltIE λt3 qc h3=>?_;clear hw;subst qc
 refine gk ?_;clear gk
 refine UY OA.1 λh' tk hk=>?_
 have fin:∀ v mv,K mv σ→VR ρ h' v mv→Q v { s with heap:=h',toks:=tk }:=λv mv k r=>q v mv ρ σ _ k r (O.keep hk) (.of_all hk)
 rcases Xo m3 with ⟨e1,m4⟩ | ⟨e1,m4⟩ <;> rcases Xo m4 with ⟨e2,m5⟩ | ⟨e2,m5⟩ <;> simp only [e1,e2,if_true,if_false,Bool.false_eq_true] <;> exact fin _ _ m5 (.flt _ _ ‹_›)
theorem Uo {f:MV→MV→MV→H→K→Prop} {g:Value} {y:Str} {m₁ m₂ m₃:Ev} {e e' e'':Expr} {pos' pos} (G:Glb W) (hm:Bd.glo y∈ctx) (hy:W.mg y=none) (hn:y≠("__name__":Str)) (hv:bootBuiltins y=some g) (hg:Lv g)
  (hf:Fl W f g) (h:XD W ctx (b+1) m₁ e) (h':XD W ctx (b+1) m₂ e') (h'':XD W ctx (b+1) m₃ e'') (hdb:(y==("__debug__":Str))=false:=by decide)
  (he:∀ env,starEach [e,e',e''] env=[(false,eval e env),(false,eval e' env),(false,eval e'' env)]:=by intro _;rfl) (he':∀ env,starEach [e',e''] env=[(false,eval e' env),(false,eval e'' env)]:=by intro _;rfl) (he'':∀ env,starEach [e''] env=[(false,eval e'' env)]:=by intro _;rfl)
  (hc:∀ env,eval (.Call (.Name y pos') [e,e',e''] [] pos) env=(do callWith pos (← eval (.Name y pos') env) [] (backTo pos (starEach [e,e',e''] env)) (backToKw pos (keywordEach [] env))):=by intro _;rfl) :
  XD W ctx (b+1) (e3 f m₁ m₂ m₃) (.Call (.Name y pos') [e,e',e''] [] pos):=λA env ρ σ vs s K Q E OA F O m q=>by
 refine Call_ (YP G F O hm hy hn hv hdb ?_) (hc env)
 refine Yx hg (args_cons (h A env ρ σ vs s (λx h1=>m₂ vs h1 λy h2=>m₃ vs h2 λz h3=>f x y z h3 K) _ _ OA F O m λu x ρ₁ σ₁ s₁ k₁ v₁ O₁ X₁=>?_) (by rw [he,he'])) (by rw [he,he']) (by rw [he'];rfl)
 refine args_cons (h' A env ρ₁ σ₁ vs s₁ _ _ _ OA (F.ext X₁) O₁ k₁ λv y ρ₂ σ₂ s₂ k₂ v₂ O₂ X₂=>?_) (by rw [he',he''])
 refine args_cons (h'' A env ρ₂ σ₂ vs s₂ _ _ _ OA ((F.ext X₁).ext X₂) O₂ k₂ λw z ρ₃ σ₃ s₃ k₃ v₃ O₃ X₃=>args_nil ?_) (he'' env)
 exact hf A ρ₃ σ₃ s₃ x y z u v w K Q E (OA.mono (by omega)) ((v₁.ext X₂).ext X₃) (v₂.ext X₃) v₃ O₃ k₃ λv mv ρ₄ σ₄ s₄ k₄ v₄ O₄ X₄=>q _ _ _ _ _ k₄ v₄ O₄ (((X₁.trans X₂).trans X₃).trans X₄)
theorem Di:JT W Cf (.builtin "max"):=λA ρ σ s x u K Q E OA hu O m q=>by
 refine Xi λgk=>?_
 refine YQ m λxs qa m'=>?_;clear m;subst qa
 refine hu.seqIE λl us qa no hs hr=>?_;clear hu;subst qa
 refine gk ?_;clear gk
 cases hr with
 | nil=>exact (show False from m').elim
 | @cons u1 x1 us1 xs1 r1 rr=>
 cases rr with
 | nil=>exact (show False from m').elim
 | @cons u2 x2 us2 xs2 r2 rr=>
 cases rr with
 | nil=>exact (show False from m').elim
 | @cons u3 x3 us3 xs3 r3 rr=>
 cases rr with
 | cons=>exact (show False from m').elim
 | nil=>
 refine Xi λgk=>?_
 refine Xs (show XM x1 _ from m') λa qa m1=>?_;clear m';subst qa
 refine Xs (show XM x2 _ from m1) λb qa m2=>?_;clear m1;subst qa
 refine Xs (show XM x3 _ from m2) λc qa m3=>?_;clear m2;subst qa
 refine r1.intIE λt qa=>?_;clear r1;subst qa;refine r2.intIE λu qb=>?_;clear r2;subst qb;refine r3.intIE λx qc=>?_;clear r3;subst qc
 have hT:s.heap.IsTuple l (intItems #[(a,t),(b,u),(c,x)]):=by
  have:=hs.tuple
  have e:([Value.int a t,.int b u,.int c x]:List Value).toArray=intItems #[(a,t),(b,u),(c,x)]:=by simp [intItems]
  rw [← e];exact this
 have hl:l<s.heap.objs.size:=by refine hs.elim λn e=>?_;exact Heap.lt_size e
 refine gk ?_;clear gk
 refine call_max_walk (wpAny_pyIter_tuple hT ?_)
 refine ex7 _ [_,l] [_] _ _ _ _ ⟨rfl,Walks.tuple (A:=A.in1) OA.1 _ l (Nat.ne_of_lt hl) (intItems #[(a,t),(b,u),(c,x)]),
  ⟨⟨_,Heap.get?_push_size _ rfl,rfl,rfl⟩,hT.push _⟩,λd hd=>?_,by simp [intItems],CmpOf.ints_gt (numAt #[(a,t),(b,u),(c,x)]) (λ__ __=>intItems_at),λv h' tk hP hk=>?_⟩
 ·show d<(s.heap.push _).objs.size
  rw [Heap.size_push]
  rcases List.mem_cons.mp hd with rfl | hd
  ·exact Nat.lt_succ_self _
  ·clear hT hs no;rcases List.mem_cons.mp hd with rfl | hd
   ·exact Nat.lt_succ_of_lt hl
   ·cases hd
 ·have hold:∀ d o,s.heap.get? d=some o→h'.get? d=some o:=λd o e=>by
   refine hk d o (λhm=>?_) (Heap.get?_push_of_some _ e)
   rcases List.mem_cons.mp hm with e1 | hm
   ·have:=Heap.lt_size e;rw [e1] at this;exact Nat.lt_irrefl _ this
   ·cases hm
  have hP':(intItems #[(a,t),(b,u),(c,x)])[argBest (λi j=>decide (numAt #[(a,t),(b,u),(c,x)] i>numAt #[(a,t),(b,u),(c,x)] j)) 2]?=some v:=by
   have hsz2:(intItems #[(a,t),(b,u),(c,x)]).size-1=2:=by simp [intItems]
   rw [← hsz2];exact hP
  have fin:∀ i t',v=.int i t'→K (.int i) σ→Q v { s with heap:=h',toks:=tk }:=λi t' e k=>by
   rw [e];exact q _ _ ρ σ _ k (.int _ _) (O.keep hold) (.of_all hold)
  have m4:ifB (ltI a b) (ifB (ltI b c) (K (.int c) σ) (K (.int b) σ)) (ifB (ltI a c) (K (.int c) σ) (K (.int a) σ)):=m3
  simp only [Gb] at m4
  by_cases hba:b>a
  ·by_cases hc:c>b
   ·have e:argBest (λi j=>decide (numAt #[(a,t),(b,u),(c,x)] i>numAt #[(a,t),(b,u),(c,x)] j)) 2=2:=by simp [argBest,numAt,hba,hc]
    rw [e] at hP'
    rw [decide_eq_true hba,decide_eq_true hc] at m4
    exact fin c x (by simpa [intItems] using hP'.symm) m4
   ·have e:argBest (λi j=>decide (numAt #[(a,t),(b,u),(c,x)] i>numAt #[(a,t),(b,u),(c,x)] j)) 2=1:=by simp [argBest,numAt,hba,hc]
    rw [e] at hP'
    rw [decide_eq_true hba,decide_eq_false hc] at m4
    exact fin b u (by simpa [intItems] using hP'.symm) m4
  ·by_cases hc:c>a
   ·have e:argBest (λi j=>decide (numAt #[(a,t),(b,u),(c,x)] i>numAt #[(a,t),(b,u),(c,x)] j)) 2=2:=by simp [argBest,numAt,hba,hc]
    rw [e] at hP'
    rw [decide_eq_false hba,decide_eq_true hc] at m4
    exact fin c x (by simpa [intItems] using hP'.symm) m4
   ·have e:argBest (λi j=>decide (numAt #[(a,t),(b,u),(c,x)] i>numAt #[(a,t),(b,u),(c,x)] j)) 2=0:=by simp [argBest,numAt,hba,hc]
    rw [e] at hP'
    rw [decide_eq_false hba,decide_eq_false hc] at m4
    exact fin a t (by simpa [intItems] using hP'.symm) m4
theorem DU:JT W Cu (.builtin "min"):=λA ρ σ s x u K Q E OA hu O m q=>by
 refine Xi λgk=>?_
 refine YQ m λxs qa m'=>?_;clear m;subst qa
 refine hu.seqIE λl us qa no hs hr=>?_;clear hu;subst qa
 refine gk ?_;clear gk
 cases hr with
 | nil=>exact (show False from m').elim
 | @cons u1 x1 us1 xs1 r1 rr=>
 cases rr with
 | nil=>exact (show False from m').elim
 | @cons u2 x2 us2 xs2 r2 rr=>
 cases rr with
 | nil=>exact (show False from m').elim
 | @cons u3 x3 us3 xs3 r3 rr=>
 cases rr with
 | cons=>exact (show False from m').elim
 | nil=>
 refine Xi λgk=>?_
 refine Xs (show XM x1 _ from m') λa qa m1=>?_;clear m';subst qa
 refine Xs (show XM x2 _ from m1) λb qa m2=>?_;clear m1;subst qa
 refine Xs (show XM x3 _ from m2) λc qa m3=>?_;clear m2;subst qa
 refine r1.intIE λt qa=>?_;clear r1;subst qa;refine r2.intIE λu qb=>?_;clear r2;subst qb;refine r3.intIE λx qc=>?_;clear r3;subst qc
 have hT:s.heap.IsTuple l (intItems #[(a,t),(b,u),(c,x)]):=by
  have:=hs.tuple
  have e:([Value.int a t,.int b u,.int c x]:List Value).toArray=intItems #[(a,t),(b,u),(c,x)]:=by simp [intItems]
  rw [← e];exact this
 have hl:l<s.heap.objs.size:=by refine hs.elim λn e=>?_;exact Heap.lt_size e
 refine gk ?_;clear gk
 refine call_min_walk (wpAny_pyIter_tuple hT ?_)
 refine ex7 _ [_,l] [_] _ _ _ _ ⟨rfl,Walks.tuple (A:=A.in1) OA.1 _ l (Nat.ne_of_lt hl) (intItems #[(a,t),(b,u),(c,x)]),
  ⟨⟨_,Heap.get?_push_size _ rfl,rfl,rfl⟩,hT.push _⟩,λd hd=>?_,by simp [intItems],CmpOf.ints_lt (numAt #[(a,t),(b,u),(c,x)]) (λ__ __=>intItems_at),λv h' tk hP hk=>?_⟩
 ·show d<(s.heap.push _).objs.size
  rw [Heap.size_push]
  rcases List.mem_cons.mp hd with rfl | hd
  ·exact Nat.lt_succ_self _
  ·clear hT hs no;rcases List.mem_cons.mp hd with rfl | hd
   ·exact Nat.lt_succ_of_lt hl
   ·cases hd
 ·have hold:∀ d o,s.heap.get? d=some o→h'.get? d=some o:=λd o e=>by
   refine hk d o (λhm=>?_) (Heap.get?_push_of_some _ e)
   rcases List.mem_cons.mp hm with e1 | hm
   ·have:=Heap.lt_size e;rw [e1] at this;exact Nat.lt_irrefl _ this
   ·cases hm
  have hP':(intItems #[(a,t),(b,u),(c,x)])[argBest (λi j=>decide (numAt #[(a,t),(b,u),(c,x)] i<numAt #[(a,t),(b,u),(c,x)] j)) 2]?=some v:=by
   have hsz2:(intItems #[(a,t),(b,u),(c,x)]).size-1=2:=by simp [intItems]
   rw [← hsz2];exact hP
  have fin:∀ i t',v=.int i t'→K (.int i) σ→Q v { s with heap:=h',toks:=tk }:=λi t' e k=>by
   rw [e];exact q _ _ ρ σ _ k (.int _ _) (O.keep hold) (.of_all hold)
  have m4:ifB (ltI b a) (ifB (ltI c b) (K (.int c) σ) (K (.int b) σ)) (ifB (ltI c a) (K (.int c) σ) (K (.int a) σ)):=m3
  simp only [Gb] at m4
  by_cases hba:b<a
  ·by_cases hc:c<b
   ·have e:argBest (λi j=>decide (numAt #[(a,t),(b,u),(c,x)] i<numAt #[(a,t),(b,u),(c,x)] j)) 2=2:=by simp [argBest,numAt,hba,hc]
    rw [e] at hP'
    rw [decide_eq_true hba,decide_eq_true hc] at m4
    exact fin c x (by simpa [intItems] using hP'.symm) m4
   ·have e:argBest (λi j=>decide (numAt #[(a,t),(b,u),(c,x)] i<numAt #[(a,t),(b,u),(c,x)] j)) 2=1:=by simp [argBest,numAt,hba,hc]
    rw [e] at hP'
    rw [decide_eq_true hba,decide_eq_false hc] at m4
    exact fin b u (by simpa [intItems] using hP'.symm) m4
  ·by_cases hc:c<a
   ·have e:argBest (λi j=>decide (numAt #[(a,t),(b,u),(c,x)] i<numAt #[(a,t),(b,u),(c,x)] j)) 2=2:=by simp [argBest,numAt,hba,hc]
    rw [e] at hP'
    rw [decide_eq_false hba,decide_eq_true hc] at m4
    exact fin c x (by simpa [intItems] using hP'.symm) m4
   ·have e:argBest (λi j=>decide (numAt #[(a,t),(b,u),(c,x)] i<numAt #[(a,t),(b,u),(c,x)] j)) 2=0:=by simp [argBest,numAt,hba,hc]
    rw [e] at hP'
    rw [decide_eq_false hba,decide_eq_false hc] at m4
    exact fin a t (by simpa [intItems] using hP'.symm) m4
theorem NX:JT W Hc (.type "int"):=λA ρ σ s x u K Q E OA hu O m q=>by
 refine Xi λgk=>?_
 refine YE m λa qa m1=>?_;clear m;subst qa
 refine hu.fltIE λt qa ht=>?_;clear hu;subst qa
 refine (KT m1).elim λsg zz=>zz.elim λmm zz=>zz.elim λe zz=>zz.elim λhd zz=>zz.elim λn zz=>zz.elim λhn m2=>?_
 refine gk ?_;clear gk
 exact call_int_float hd (q _ _ ρ σ _ m2 (by rw [hn];exact .int _ _) (O.tok _) (Ext.refl _ _))
theorem Ae {f:MV→H→K→Prop} {g:Value} {y:Str} {m₁:Ev} {e:Expr} {pos' pos} (G:Glb W) (hm:Bd.glo y∈ctx) (hy:W.mg y=none) (hn:y≠("__name__":Str)) (hv:bootBuiltins y=some g) (hg:Lv g)
  (hf:JT W f g) (h:GE W ctx (b+1) p r m₁ e) (hdb:(y==("__debug__":Str))=false:=by decide)
  (he:∀ env,starEach [e] env=[(false,eval e env)]:=by intro _;rfl)
  (hc:∀ env,eval (.Call (.Name y pos') [e] [] pos) env=(do callWith pos (← eval (.Name y pos') env) [] (backTo pos (starEach [e] env)) (backToKw pos (keywordEach [] env))):=by intro _;rfl) :
  GE W ctx (b+1) p r (e1 f m₁) (.Call (.Name y pos') [e] [] pos):=λA env ρ σ vs s K Q E OA F O hp m q=>by
 refine Call_ (YP G F O hm hy hn hv hdb ?_) (hc env)
 refine Yx hg (args_cons (h A env ρ σ vs s (λx h1=>f x h1 K) _ _ OA F O hp m λu x ρ₁ σ₁ s₁ k₁ v₁ O₁ X₁ t₁=>args_nil ?_) (he env)) (he env) rfl
 exact Lh (hf A ρ₁ σ₁ s₁ x u K _ E (OA.mono (by omega)) v₁ O₁ k₁ λv mv ρ₂ σ₂ s₂ k₂ v₂ O₂ X₂ hl=>q _ _ _ _ _ k₂ v₂ O₂ (X₁.trans X₂) λe=>Nat.lt_of_lt_of_le (t₁ e) hl)
theorem Je {y:Str} {c:UInt64} {pos:Pos} (G:Glb W) (hm:Bd.glo y∈ctx) (hy:∃ t,t≠0∧W.mg y=some (.float c t)) (hdb:(y==("__debug__":Str))=false:=by decide):XD W ctx b (Xl (.flt c)) (.Name y pos):=λA env ρ σ vs s K Q E OA F O m q=>by
 refine Xi λgk=>?_
 refine hy.elim λt zz=>zz.elim λht hy=>?_
 refine gk ?_;clear gk
 exact ZN G F O hm hy hdb (q _ _ ρ σ s m (.flt _ _ ht) O (Ext.refl _ _))
end
end
section
set_option tactic.hygienic false
section
noncomputable def W8 (n:Nat) (l:List Tg):Tg:=λx vs h k=>match x with
 | .seq true xs=>ifB (Nat.beq (len xs) n) (tTs l xs vs h k) False
 | _=>False
noncomputable def Wp (a e:Ev):Ev:=λvs h k=>a vs h λx h1=>YT x λi=>ZD h1 i λo=>VQ o λ__=>e vs h1 λy h2=>ZD h2 i λo=>VQ o λxs=>ifB (Yr xs) (Zo (xs++[y]) λys=>T5 (.list ys) h2 i λh3=>k .none h3) False
noncomputable def Cr (a i:Ev):Ev:=λvs h k=>a vs h λx h1=>YT x λj=>i vs h1 λy h2=>ZD h2 j λo=>VQ o λxs=>XM y λz=>Gv z (len xs) λn=>nth xs n λv=>k v h2
end
section
variable {prog:Program} {w:World} {A:Around} {E:Value→Shared→Prop} {s:Shared}
section
variable {l:Addr} {v:Value} {vs:List Value} {n:Nat}
theorem Mg {Q:Value→Shared→Prop} (hl:s.heap.get? l=some (XR vs n)) (hfit:vs.length≤4096)
  (q:∀ h' n',h'.get? l=some (XR (vs++[v]) n')→(∀ b,b≠l→h'.get? b=s.heap.get? b)→Q .none { s with heap:=h' }):wpAny (model prog w) A (call (.builtin "list.append") [.ref l,v]) Q E s:=by
 refine wpAny_call_entry slot_list_append (YJ hl).typeIs entry_list_append ?_ (by unfold argsOk;kernel_rfl)
 unfold Builtin.«list.append»
 refine wpAny_bind (wpAny_of_eq (a:=(.ref l,v)) (by kernel_rfl) ?_)
 dsimp only
 refine wpAny_bind (m:=Builtin.List.listUpdate (.ref l) _) ?_
 show wpAny _ _ (updateSeq l _) _ _ _
 have f4:vs.toArray.push v=(vs++[v]).toArray:=by simp
 refine wpAny_updateSeq hl rfl ?_ (by rw [List.size_toArray,sizeLine_eq];omega) (by rw [f4,List.size_toArray,List.length_append,sizeLine_eq];simp;omega)
 refine wpAny_pure ?_
 have f6:∃ n',Obj.mapSeq (λx=>x.push v) (XR vs n)=XR (vs++[v]) n':=by
  unfold Obj.mapSeq
  dsimp only
  rw [f4]
  exact ⟨_,rfl⟩
 obtain ⟨n',f6⟩:=f6
 exact ⟨_,rfl,q _ n' (by rw [Heap.get?_update_self _ hl (by rw [f6];rfl),f6]) λb hb=>Heap.get?_update_other _ _ (Ne.symm hb)⟩
end
theorem NZ {it t:Addr} {XL:Array Value} (hne:t≠it):∀ (n i:Nat) (s:Shared) (Q:List Value→Shared→Prop),s.heap.IsListIter it t i→s.heap.IsList t XL→i+n≤XL.size→
  (∀ h',h'.IsListIter it t (i+n)→Heap.SameBut it s.heap h'→Q ((XL.toList.drop i).take n) { s with heap:=h' })→wpAny (model prog w) A (draw (.ref it) n) Q E s
 | 0,i,s,Q,hit,_,_,hQ=>by
  show wpAny _ _ (pure []) Q E s
  exact wpAny_pure (by simpa using hQ s.heap hit (Heap.SameBut.refl ..))
 | n+1,i,s,Q,hit,ht,hle,hQ=>by
  have hlt:i<XL.size:=by omega
  show wpAny _ _ (pyNext (.ref it) >>= _) Q E s
  refine wpAny_bind (wpAny_pyNext_list_item hit ht (x:=XL[i]) (by simp [hlt]) λh₁ hit₁ hs₁=>?_)
  have ht1:h₁.IsList t XL:=by refine ht.elim λo zz=>zz.elim λho r=>?_;exact ⟨o,(hs₁.2 t hne).trans ho,r⟩
  refine wpAny_bind (wpAny_holding (NZ hne n (i+1) _ _ hit₁ ht1 (by omega) λh₂ hit₂ hs₂=>wpAny_pure ?_))
  have hd:XL.toList.drop i=XL[i] :: XL.toList.drop (i+1):=by simp [List.drop_eq_getElem_cons,hlt]
  have:=hQ h₂ (by rw [show i+(n+1)=i+1+n by omega];exact hit₂) (hs₁.trans hs₂)
  rw [hd,List.take_succ_cons] at this
  exact this
theorem VE {t:Addr} {XL:Array Value} {Q:List Value→Shared→Prop} (hh:A.handled=none) (ht:s.heap.IsList t XL)
  (hQ:∀ h',(∀ b o,s.heap.get? b=some o→h'.get? b=some o)→Q XL.toList { s with heap:=h' }):wpAny (model prog w) A (unpackItems (.ref t) XL.size none) Q E s:=by
 have hlt:t≠s.heap.objs.size:=by refine ht.elim λo zz=>zz.elim λho __=>?_;exact Nat.ne_of_lt (Heap.lt_size ho)
 unfold unpackItems
 refine wpAny_bind ?_
 ·unfold notIterableAtAll
  refine wpAny_bind (wpAny_specialOf ht.typeIs slot_list_iter.lookup ?_)
  refine wpAny_pure ?_
  simp only [Bool.false_eq_true,if_false]
  refine wpAny_bind (wpAny_holding (wpAny_pyIter_list ht ?_))
  have htp:∀ o,(s.heap.push o).IsList t XL:=λo=>by refine ht.elim λo' zz=>zz.elim λho r=>?_;exact ⟨o',Heap.get?_push_of_some _ ho,r⟩
  refine wpAny_bind (wpAny_holding (NZ hlt XL.size 0 _ _ ⟨_,Heap.get?_push_size _ rfl,rfl,rfl⟩ (htp _) (by omega) λh₁ hit₁ hs₁=>?_))
  have hall:List.take XL.size (List.drop 0 XL.toList)=XL.toList:=by
   rw [List.drop_zero];exact List.take_of_length_le (by simp)
  rw [hall]
  rw [if_neg (by simp)]
  have ht₁:h₁.IsList t XL:=by refine (htp { cls:=.type "list_iterator",data:=.fields #[.ref t,.int 0 0] }).elim λo zz=>zz.elim λho r=>?_;exact ⟨o,(hs₁.2 t hlt).trans ho,r⟩
  refine wpAny_bind (wpAny_holding (wpAny_pyNext_list_end hh hit₁ ht₁ (by simp) λh₂ he₂=>?_))
  simp only [Option.isSome_none,Bool.false_eq_true,if_false]
  refine wpAny_pure (hQ h₂ λb o e=>he₂ b o (λz=>by rw [z] at e;exact absurd (Heap.lt_size e) (Nat.lt_irrefl _)) ((hs₁.2 b (λz=>by rw [z] at e;exact absurd (Heap.lt_size e) (Nat.lt_irrefl _))).trans (Heap.get?_push_of_some _ e)))
theorem Vw {env:Env} {elts:List Expr} {x1} {pos:Pos} {t:Addr} {XL:Array Value} {Q:Unit→Shared→Prop} (hh:A.handled=none) (ht:s.heap.IsList t XL)
  (hn:(assignEach elts env).length=XL.size) (hstar:(assignEach elts env).findIdx? (·.1)=none)
  (h:∀ h',(∀ b o,s.heap.get? b=some o→h'.get? b=some o)→wpAny (model prog w) A (assignInOrder ((assignEach elts env).map (·.2)) XL.toList) Q E { s with heap:=h' }) :
  wpAny (model prog w) A (assign (.Tuple elts x1 pos) env (.ref t)) Q E s:=by
 rw [arm_assign_Tuple]
 refine wpAny_bind (wpAny_standAt ?_)
 unfold unpack
 rw [hn,hstar]
 exact wpAny_bind (wpAny_holding (VE hh ht h))
end
variable [iC:Cs]
section
variable {W:Wd} {ctx:List Bd} {b:Nat}
theorem Dz {l:List Tg} {n:Nat} {es:List Expr} {c pos} (h:Lj W ctx b l es) (hn:n=es.length) (hz:∀ env,(assignEach es env).length=es.length:=by intro _;rfl) (hst:∀ env,(assignEach es env).findIdx? (·.1)=none:=by intro _;rfl) :
  MJ W ctx b (W8 n l) (.Tuple es c pos):=λA env ρ σ vs s u x k Q E OA nb F O hu m q=>by
 subst hn
 cases x with
 | seq l' xs=>
  refine hu.seqIE λa us qa no hs hr=>?_;clear hu;subst qa
  cases l' with
  | false=>exact (show False from m).elim
  | true=>
   refine Xi λgk=>?_;rcases Xo m with ⟨e,m'⟩ | ⟨_,m'⟩ <;> (refine gk ?_;clear gk)
   ·have e:=Nat.eq_of_beq_eq_true e
    rw [Yh,← hr.length] at e
    refine Vw OA.1 hs.list (by rw [hz,← e];simp) (hst env) λh' k'=>?_
    have X:Ext ρ ρ s.heap h':=.of_all k'
    have:=h A env ρ σ vs { s with heap:=h' } us xs k Q E OA nb (F.ext X) (O.keep (t:=s.toks) k') (hr.ext X) m' λρ₂ σ₂ s₂ vs₂ O₂ X₂ F₂ k₂=>q ρ₂ σ₂ s₂ vs₂ O₂ (X.toS.trans X₂ (F.ext X).alive) F₂ k₂
    simpa using this
   ·exact m'.elim
 | _=>exact (show False from m).elim
theorem OR.list_iff {ρ:Rho} {h:Heap} {F:List Addr} {ys:List MV}:OR W.prog W.w ρ h F (.list ys)↔∃ a us n,F=[a]∧h.get? a=some (XR us n)∧VRs ρ h us ys:=by
 constructor
 ·intro hq;refine Xi λgk=>?_;obtain ⟨as,us,xs,e,n,g,r,rfl,a,n',rfl⟩:=hq;refine gk ?_;clear gk
  exact ⟨a,us,n',e,g _ (.head _),r⟩
 ·intro hq;refine Xi λgk=>?_;obtain ⟨a,us,n,rfl,g,r⟩:=hq;refine gk ?_;clear gk
  exact ⟨[(a,XR us n)],us,ys,rfl,by simp,by simpa using g,r,rfl,a,n,rfl⟩
theorem Bs {pos}:XD W ctx b eNl (.List [] pos):=λA env ρ σ vs s K Q E OA F O m q=>by
 cases σ with | mk n l=>
 refine wpAny_List (args_nil ⟨by rw [sizeLine_eq];simp,?_⟩)
 have m':K (.ref n) (.mk (n+1) (l++[(n,.list [])])):=by
  have:Zo (l++[(n,MO.list [])]) λl'=>K (.ref n) (.mk (Nat.succ n) l'):=m
  rw [Yw] at this;exact this
 obtain ⟨O',X'⟩:=O.newObj (t:=s.toks) (h':=s.heap.push { cls:=.type "list",data:=.seq ([]:List Value).toArray }) (o:=.list []) (F:=[s.heap.objs.size]) (by simp) (by intro a ha;rw [List.mem_singleton] at ha;subst ha;exact XZ _) (λ__ __ e=>Heap.get?_push_of_some _ e)
  (OR.list_iff.mpr ⟨_,[],0,rfl,Heap.get?_push_size _ rfl,.nil⟩)
 exact q _ _ _ _ _ m' (.ref (by rw [X5])) O' X'
theorem Wm {ρ:Rho} {s:Shared} {u:Value} {i n:Nat} {l:List (Nat×MO)} {xs:List MV} (O:Ok W ρ (.mk n l) s) (hl:lk l i=some (.list xs)) (hu:VR ρ s.heap u (.ref i)) :
  ∃ a us m,u=.ref a∧ρ (i+1)=[a]∧s.heap.get? a=some (XR us m)∧VRs ρ s.heap us xs:=by
 refine Xi λgk=>?_
 obtain ⟨a,F,qa,e⟩:=hu.refI;clear hu;subst qa
 refine gk ?_;clear gk
 refine Xi λgk=>?_
 refine Xi λgk=>?_
 obtain ⟨a',us,m,e',g,r⟩:=OR.list_iff.mp (O.hr.obj n l rfl i _ hl)
 refine gk ?_;clear gk
 refine gk ?_;clear gk
 rw [e] at e'
 injection e' with e1 e2
 subst e1 e2
 exact ⟨a,us,m,rfl,e,g,r⟩
theorem Vd {ρ:Rho} {s:Shared} {u:Value} {i n:Nat} {l:List (Nat×MO)} {xs:List MV} (O:Ok W ρ (.mk n l) s) (hl:lk l i=some (.list xs)) (hu:VR ρ s.heap u (.ref i)) {C':Prop} (f':∀ a us m,u=.ref a→ρ (i+1)=[a]→s.heap.get? a=some (XR us m)→VRs ρ s.heap us xs→C'):C':=by refine (Wm O hl hu).elim λa zz=>zz.elim λus zz=>zz.elim λm zz=>zz.elim λq0 zz=>zz.elim λq1 zz=>zz.elim λq2 q3=>?_;exact f' a us m q0 q1 q2 q3
theorem Ta {m₁ m₂:Ev} {o e:Expr} {apos pos} (h:XD W ctx (b+1) m₁ o) (h':XD W ctx (b+1) m₂ e)
  (hbase:∀ env,attributeBase o "append" env (eval o env)=eval o env:=by intro _;rfl) (hline:(apos.endLine==pos.line)=true:=by rfl) (he:∀ env,backTo pos (starEach [e] env)=[(false,eval e env)]:=by intro _;rfl) :
  XD W ctx (b+1) (Wp m₁ m₂) (.Call (.Attribute o "append" apos) [e] [] pos):=λA env ρ σ vs s K Q E OA F O m q=>by
 refine wpAny_Call_method1_late (hbase env) hline (he env) (h A env ρ σ vs s _ _ _ OA F O m λu x ρ₁ σ₁ s₁ k₁ v₁ O₁ X₁=>?_)
 refine Xi λgk=>?_
 refine XT k₁ λi qa m1=>?_;subst qa
 refine XU m1 λn l o qa hl m2=>?_;clear k₁ m1;subst qa
 refine Jv m2 λxs₀ qa m3=>?_;subst qa
 refine Vd O₁ hl v₁ λa us₀ n₀ qa ha hg₀ __=>?_;subst qa
 refine gk ?_;clear gk
 refine ⟨"list","list.append",PySem.F.plainAttrs_list,slot_list_append,type_list_append,(YJ hg₀).typeIs,λa' e=>(by cases e;exact ⟨_,hg₀,rfl⟩),?_⟩
 refine callWith_builtin rfl (evalArgs_plain (spliced_cons (h' A env ρ₁ (.mk n l) vs s₁ _ _ _ OA (F.ext X₁) O₁ m3 λv y ρ₂ σ₂ s₂ k₂ v₂ O₂ X₂=>spliced_nil ?_)))
 refine Xi λgk=>?_
 refine XU k₂ λn2 l2 o2 qa hl2 m4=>?_;clear k₂;subst qa
 refine Jv m4 λxs qa m5=>?_;clear m4;subst qa
 refine Vd O₂ hl2 (v₁.ext X₂) λa2 us n1 e1 ha2 hg hr=>?_
 refine gk ?_;clear gk
 cases e1
 rcases Xo m5 with ⟨hz,m6⟩ | ⟨_,m6⟩
 ·have hz:=Ye hz
  rw [Yw] at m6
  refine Xi λgk=>?_
  obtain ⟨l',m7,hs⟩:=ZQ (show setL (.list (xs++[y])) l2 i λl'=>K .none (.mk n2 l') from m6)
  refine gk ?_;clear gk
  refine Mg hg (by rw [hr.length];exact hz) λh' n' e₁ kk=>?_
  have k1:∀ b o,b ∉ ρ₂ (i+1)→s₂.heap.get? b=some o→h'.get? b=some o:=λb o hb e=>(kk b (λz=>hb (by rw [ha2,z];exact .head _))).trans e
  have X0:Ext ρ₂ ρ₂ s₂.heap h':=.of_keep (λb o e n=>k1 b o (λz=>n ⟨i+1,z⟩) e) λb hb o e=>k1 b o (λz=>by have:=O₂.hr.disj 0 (i+1) b hb z;omega) e
  obtain ⟨O',X'⟩:=O₂.setObj (t:=s₂.toks) (o:=.list (xs++[y])) hl2 hs k1 (by
   rw [ha2];exact OR.list_iff.mpr ⟨a,us++[v],n',rfl,e₁,(hr.ext X0).append (.cons (v₂.ext X0) .nil)⟩)
  exact q _ _ _ _ _ m7 .none O' ((X₁.trans X₂).trans X')
 ·exact m6.elim
theorem Dv {m₁ m₂:Ev} {l r:Expr} {pos} (h1:XD W ctx b m₁ l) (h2:XD W ctx b m₂ r) (hs:∀ o i,subscripted r false o i=operate [o,i] (PySem.getItem o i):=by intro _ _;rfl):XD W ctx b (Cr m₁ m₂) (.Subscript l r pos):=
 λA env ρ σ vs s K Q E OA F O m q=>by
 refine Subscript_ (h1 A env ρ σ vs s _ _ _ OA F O m λu x ρ₁ σ₁ s₁ k₁ v₁ O₁ X₁=>?_)
 refine Xi λgk=>?_
 refine XT k₁ λi qa m1=>?_;clear k₁;subst qa
 refine gk ?_;clear gk
 refine h2 A env ρ₁ σ₁ vs s₁ _ _ _ OA (F.ext X₁) O₁ m1 λv y ρ₂ σ₂ s₂ k₂ v₂ O₂ X₂=>?_
 refine Xi λgk=>?_
 refine XU k₂ λn ll o qa hl m2=>?_;clear k₂;subst qa
 refine Jv m2 λxs qa m3=>?_;clear m2;subst qa
 refine Xs m3 λj qa m4=>?_;clear m3;subst qa
 refine Vd O₂ hl (v₁.ext X₂) λa us nn qa ha hg hr=>?_;clear v₁;subst qa
 refine v₂.intIE λt qa=>?_;clear v₂;subst qa
 refine JI m4 λn3 m5 c=>?_
 refine LW m5 λz e m6=>?_
 obtain ⟨v',e',hv⟩:=hr.get e
 refine gk ?_;clear gk
 rw [Yh,← hr.length] at c
 have hL:s₂.heap.IsList a us.toArray:=YJ hg
 have fin:Q v' s₂:=q v' z ρ₂ _ s₂ m6 hv O₂ (X₁.trans X₂)
 have g:wpAny (model W.prog W.w) A (PySem.getItem (.ref a) (.int j t)) Q E s₂:=by
  clear e m5;rcases c with ⟨c1,c2,rfl⟩ | ⟨c1,c2,c3,rfl⟩
  ·exact wpAny_getItem_list hL c1 (by omega) (by simpa using e') fin
  ·exact wpAny_getItem_list_neg hL c1 (by simpa using c3) (by omega) (by simpa using e') fin
 unfold subscriptTail
 refine wpAny_bind ?_
 rw [getitemInPython_of_ne hL.typeIs.not_modules]
 refine wpAny_bind (wpAny_specialOf hL.typeIs slot_list_getitem.lookup ?_)
 have fin:wpAny (model W.prog W.w) A (subscripted r false (.ref a) (.int j t)) (λw s₃=>wpAny (model W.prog W.w) A (letTemporaryGo l (.ref a) w >>= λ__=>pure w) Q E s₃) E s₂:=by
  rw [hs]
  exact wpAny_operating (wpAny_mono g (λw s₃ h₃=>wpAny_bind (wpAny_letTemporaryGo (wpAny_pure h₃))) λ__ __ x=>x)
 first
  | exact wpAny_pure (wpAny_bind fin)
  | exact wpAny_bind (wpAny_pure (wpAny_bind fin))
  | exact wpAny_bind fin
end
end
section
set_option tactic.hygienic false
section
noncomputable def TQ (x:MV):Bool:=match x with
 | .unb=>true | .none=>true | .bool _=>true | .int _=>true | .flt _=>true | .str _=>true
 | _=>false
noncomputable def Vq (f:MV→Bool) (l:List MV):Bool:=@List.rec MV (λ__=>Bool) true (λx __ ih=>@Bool.rec (λ__=>Bool) false ih (f x)) l
noncomputable def R5 (x:MV):Bool:=match x with
 | .seq _ xs=>Vq TQ xs
 | x=>TQ x
noncomputable def Kh (x:MV):Bool:=match x with
 | .seq _ xs=>Vq R5 xs
 | x=>TQ x
noncomputable def Rs (vs:Vs) (ps:List Pa):Bool:=@List.rec Pa (λ__=>Bool) true (λp __ ih=>@Bool.rec (λ__=>Bool) false ih (Kh (Yb vs p))) ps
noncomputable def RC (x:MV):Bool:=match x with
 | .seq true xs=>Vq TQ xs
 | _=>false
noncomputable def eFz (t:Pa) (ps:List Pa) (q:Pa) (m:Ev):Ev:=λvs h k=>Xe t vs h λx h1=>YT x λi=>ZD h1 i λo=>VQ o λxs=>ifB (Yr xs) (Y7 (.seq true xs) vs t λvs0=>ifB (Rs vs0 ps) (Br q m xs vs0 (.mk 0 []) λys __=>ifB (RC (.seq true ys)) (k (.seq true ys) h) False) False) False
end
theorem Jp {f:MV→Bool}:∀ {l:List MV},Vq f l=true→∀ x∈l,f x=true
 | [],_,x,h=>by cases h
 | y :: l,e,x,h=>by
  have e:@Bool.rec (λ__=>Bool) false (Vq f l) (f y)=true:=e
  cases q:f y with
  | false=>rw [q] at e;cases e
  | true=>
   rw [q] at e
   rcases List.mem_cons.mp h with rfl | h
   ·exact q
   ·exact Jp e x h
theorem US {vs:Vs}:∀ {l:List Pa},Rs vs l=true→∀ p∈l,Kh (Yb vs p)=true
 | [],_,x,h=>by cases h
 | y :: l,e,x,h=>by
  have e:@Bool.rec (λ__=>Bool) false (Rs vs l) (Kh (Yb vs y))=true:=e
  cases q:Kh (Yb vs y) with
  | false=>rw [q] at e;cases e
  | true=>
   rw [q] at e
   rcases List.mem_cons.mp h with rfl | h
   ·exact q
   ·exact US e x h
noncomputable def SE (ctx ctx0:List Bd) (ps:List Pa):Bool:=ctx0.all λb=>ctx.contains b&&match b with
 | .loc _ q=>ps.contains q
 | .cel _ q _=>ps.contains q
 | .glo _=>true
variable [iC:Cs]
theorem vr0 {ρ ρ':Rho} {h:Heap} {v:Value} {x:MV} (e:TQ x=true) (r:VR ρ h v x):VR ρ' h v x:=by
 cases r with
 | none=>exact .none
 | bool=>exact .bool _
 | int=>exact .int _ _
 | flt _ _ ht=>exact .flt _ _ ht
 | str=>exact .str _ _
 | _=>cases e
theorem Mp {P:MV→Bool} {ρ ρ':Rho} {h:Heap} (H:∀ v x,P x=true→VR ρ h v x→VR ρ' h v x) {us:List Value} {xs:List MV} (e:∀ x∈xs,P x=true) (r:VRs ρ h us xs):VRs ρ' h us xs:=
 r.ind (P:=λus xs=>(∀ x∈xs,P x=true)→VRs ρ' h us xs) (λ__=>.nil) (λ__ __ __ __ a __ ih e=>.cons (H _ _ (e _ (.head _)) a) (ih λx hx=>e x (.tail _ hx))) e
theorem vr1 {ρ:Rho} {h:Heap} {v:Value} {x:MV} (e:R5 x=true) (r:VR ρ h v x):VR E0 h v x:=by
 cases r with
 | none=>exact .none
 | bool=>exact .bool _
 | int=>exact .int _ _
 | flt _ _ ht=>exact .flt _ _ ht
 | str=>exact .str _ _
 | seq no hs hr=>exact .seq Zp hs (Mp (λv x=>vr0) (Jp (show Vq TQ _=true from e)) hr)
 | _=>cases e
theorem vr2 {ρ:Rho} {h:Heap} {v:Value} {x:MV} (e:Kh x=true) (r:VR ρ h v x):VR E0 h v x:=by
 cases r with
 | none=>exact .none
 | bool=>exact .bool _
 | int=>exact .int _ _
 | flt _ _ ht=>exact .flt _ _ ht
 | str=>exact .str _ _
 | seq no hs hr=>exact .seq Zp hs (Mp (λv x=>vr1) (Jp (show Vq R5 _=true from e)) hr)
 | _=>cases e
section
variable {W:Wd} {ctx ctx0 ctx':List Bd} {b:Nat}
theorem Lf {elt:Expr} {x y:Str} {px py:Pos} {p t:Pa} {ps:List Pa} {scope:Scope} {pos:Pos} {m₁:Ev}
  (hm:Bd.loc y t∈ctx) (hm0:Bd.loc y t∈ctx0) (hy:(y==("__debug__":Str))=false) (hcx:Y8 ctx y t=true) (hz:SE ctx ctx0 ps=true)
  (he:XD W ctx' b m₁ elt) (ok:Ze ctx0 ctx' scope.names x p=true) (hkind:scope.kind=.function:=by rfl)
  (hs:∀ env z,foldedSetIterable (.Name y py) env z=pure z:=by intro _ _;rfl) :
  XD W ctx b (eFz t ps p m₁) (.ListComp elt [⟨.Name x px,.Name y py,[],0⟩] scope pos):=λA env ρ σ vs s K Q E OA F O m q=>by
 refine Xi λgk=>?_
 refine Go m λ__ m0=>?_
 refine XT m0 λi e0 m1=>?_
 refine XU m1 λn l o qa hl m2=>?_;clear m1;subst qa
 refine Jv m2 λxs qa m3=>?_;clear m2;subst qa
 refine gk ?_;clear gk
 refine Xi λgk=>?_;rcases Xo m3 with ⟨hfit,m3⟩ | ⟨_,m3⟩ <;> (refine gk ?_;clear gk)
 ·refine Zt m3 λvs0 m4 hg hss=>?_
  refine Xi λgk=>?_;rcases Xo m4 with ⟨hp,m5⟩ | ⟨_,m5⟩ <;> (refine gk ?_;clear gk)
  ·have hp:=US hp
   have hin:∀ b∈ctx0,b∈ctx∧match b with | .loc _ q=>q∈ps | .cel _ q _=>q∈ps | .glo _=>True:=λb hb=>by
    have:=List.all_eq_true.mp hz b hb
    clear hb;cases b <;> simpa using this
   refine Xi λgk=>?_
   refine F.locE λmm hns hloc=>?_
   refine gk ?_;clear gk
   have get:∀ z r v,(Bd.loc z r∈ctx0∨∃ o,Bd.cel z r o∈ctx0)→VR ρ s.heap v (Yb vs r)→VR E0 s.heap v (Yb vs0 r):=λz r v hz' hv=>by
    have hr:r∈ps∧(Bd.loc z r∈ctx∨∃ o,Bd.cel z r o∈ctx):=by
     refine Xi λgk=>?_;rcases hz' with h | ⟨o,h⟩ <;> (refine gk ?_;clear gk)
     ·exact ⟨(hin _ h).2,.inl (hin _ h).1⟩
     ·exact ⟨(hin _ h).2,.inr ⟨o,(hin _ h).1⟩⟩
    have hpu:=hp r hr.1
    clear hm hm0 hs hy m m0 m3;rcases Zg hcx hr.2 with ⟨rfl,rfl⟩ | ⟨h1,h2,h3⟩
    ·rw [hg] at hpu ⊢
     rw [e0] at hv
     refine Vd O hl hv λa us nn qa ha hga hra=>?_;clear hv;subst qa
     exact .seq Zp ⟨nn,hga⟩ (Mp (λv x=>vr1) (Jp (show Vq R5 _=true from hpu)) hra)
    ·rw [hss r h3 h2] at hpu ⊢
     exact vr2 hpu hv
   have unb:∀ z r,(Bd.loc z r∈ctx0∨∃ o,Bd.cel z r o∈ctx0)→Yb vs r=.unb→Yb vs0 r=.unb:=λz r hz' hv=>by
    have hr:(Bd.loc z r∈ctx∨∃ o,Bd.cel z r o∈ctx):=by
     refine Xi λgk=>?_;rcases hz' with h | ⟨o,h⟩ <;> (refine gk ?_;clear gk)
     ·exact .inl (hin _ h).1
     ·exact .inr ⟨o,(hin _ h).1⟩
    clear hg hm hm0 hs hy m m0 m3;rcases Zg hcx hr with ⟨rfl,rfl⟩ | ⟨h1,h2,h3⟩
    ·rw [e0] at hv;cases hv
    ·rw [hss r h3 h2];exact hv
   have F0:FR W ctx0 env vs0 E0 s.heap:=by
    refine ⟨F.kind,F.glob,F.blt,Zp,λz c e=>⟨Zp,(F.nc z c e).2⟩,F.apart,⟨mm,hns,λz r hzr=>?_⟩,λz r o hzr=>?_,λz hzr=>F.glo z (hin _ hzr).1,F.above⟩
    ·refine (hloc z r (hin _ hzr).1).elim λh1 h2=>?_
     exact ⟨h1,h2.imp (unb z r (.inl hzr)) λ⟨v,hv,hr⟩=>⟨v,hv,get z r v (.inl hzr) hr⟩⟩
    ·refine F.celE z r o (hin _ hzr).1 λh1 c v hc hv h2=>?_
     exact ⟨h1,c,v,hc,hv,h2.imp (unb z r (.inr ⟨o,hzr⟩)) λ⟨u,hu,hr⟩=>⟨u,hu,get z r u (.inr ⟨o,hzr⟩) hr⟩⟩
   have m6:Xe t vs0 (.mk 0 []) λx h1=>XL h1 x λxs=>ifB (Yr xs) (ZC p (λ__ h k=>k true h) m₁ xs vs0 h1 λys h2=>(λv __=>ifB (RC v) (K v (.mk n l)) False) (MV.seq true ys) h2) False:=by
    show (match Yb vs0 t with | .unb=>False | x=>XL (.mk 0 []) x _)
    rw [hg]
    show ifB (Yr xs) _ False
    rw [hfit]
    exact m5
   refine TZ (K:=λv __=>ifB (RC v) (K v (.mk n l)) False) (Xd hm0 hy) ZX he ok hkind hs OA F0 O.zero m6 λD mv ρ' σ' s' kk r' O' keep hD=>?_
   refine Xi λgk=>?_;rcases Xo kk with ⟨hi,kk⟩ | ⟨_,kk⟩ <;> (refine gk ?_;clear gk)
   ·cases r' with
    | @seq _ l' us ys no hsq hr=>
     cases l' with
     | false=>cases hi
     | true=>
      have Ok':=O.keep (h':=s'.heap) (t:=s'.toks) keep
      exact q _ _ ρ _ s' kk (.seq (O.hr.fresh hD) hsq (Mp (λv x=>vr0) (Jp (show Vq TQ _=true from hi)) hr)) ⟨Ok'.hr,Ok'.base,O'.gens,O'.os⟩ (.of_all keep)
    | _=>cases hi
   ·exact kk.elim
  ·exact m5.elim
 ·exact m3.elim
end
end
section
set_option tactic.hygienic false
section
noncomputable def RX:B2:=λa b k=>XM a λx=>XM b λy=>k (.int (x+y))
noncomputable def Fo:B2:=λa b k=>XM a λx=>XM b λy=>k (.int (x-y))
noncomputable def Cl:B2:=λa b k=>XM a λx=>XM b λy=>ifB (Jb x) (k (.int (x*y))) False
noncomputable def ZH:B2:=λa b k=>XM a λx=>XM b λy=>ifB (U8 y) (k (.int (Int.fdiv x y))) False
noncomputable def Za:B2:=λa b k=>XM a λx=>XM b λy=>ifB (U8 y) (k (.int (Int.fmod x y))) False
noncomputable def BJ (n:Nat) (l:List MV):List MV:=@Nat.rec (λ__=>List MV→List MV) (λ__=>[]) (λ__ ih l=>@List.rec MV (λ__=>List MV) [] (λx r __=>x :: ih r) l) n l
noncomputable def UK (n:Nat) (l:List MV):List MV:=@Nat.rec (λ__=>List MV→List MV) (λl=>l) (λ__ ih l=>@List.rec MV (λ__=>List MV) [] (λ__ r __=>ih r) l) n l
noncomputable def Rw (m:Ev):Ev:=λvs h k=>m vs h λx h1=>match x with
 | .seq true xs=>ifB (Yr xs) (k (.seq true (BJ 4 xs)) h1) False
 | _=>False
noncomputable def HN (m i:Ev):Ev:=λvs h k=>m vs h λx h1=>match x with
 | .seq true xs=>ifB (Yr xs) (i vs h1 λy h2=>match y with
  | .int (.ofNat n)=>k (.seq true (UK n xs)) h2
  | _=>False) False
 | _=>False
end
theorem Vv {i:Int} {k:MV→Prop}:JZ i k=k (.int i):=by cases i <;> rfl
theorem Ky:∀ (n:Nat) (l:List MV),BJ n l=l.take n
 | 0,_=>rfl
 | n+1,[]=>rfl
 | n+1,x :: r=>by show x :: BJ n r=_;rw [Ky n r];rfl
theorem U5:∀ (n:Nat) (l:List MV),UK n l=l.drop n
 | 0,_=>rfl
 | n+1,[]=>rfl
 | n+1,x :: r=>by show UK n r=_;rw [U5 n r];rfl
theorem U0:Za=Vh:=by funext a b k;cases a <;> cases b <;> first | rfl | (show ifB _ _ _=ifB _ (JZ _ _) _;rw [Vv])
theorem VL:ZH=U6:=by funext a b k;cases a <;> cases b <;> first | rfl | (show ifB _ _ _=ifB _ (JZ _ _) _;rw [Vv])
theorem HW:Fo=ZG:=by funext a b k;cases a <;> cases b <;> first | rfl | (show k _=JZ _ _;rw [Vv])
section
variable {prog:Program} {w:World} {A:Around} {E:Value→Shared→Prop} {s:Shared}
theorem JY {env:Env} {value:Expr} {lower upper:Option Expr} {p pos:Pos} {Q:Value→Shared→Prop}
  (h:wpAny (model prog w) A (eval value env) (λo s₁=>wpAny (model prog w) A (evalPart lower env) (λvl s₂=>wpAny (model prog w) A (evalPart upper env) (λvu s₃=>
   ∃ l XL lo hi,o=.ref l∧s₃.heap.IsList l XL∧XL.size≤sizeLine∧IsPart vl lo∧IsPart vu hi∧
    Q (.ref (s₃.heap.objs.size+1)) { s₃ with heap:=(s₃.heap.push { cls:=.type "slice",data:=.fields #[vl,vu,.none] }).push { cls:=.type "list",data:=.seq (slicePick XL lo hi none) } }) E s₂) E s₁) E s) :
  wpAny (model prog w) A (eval (.Subscript value (.Slice lower upper none p) pos) env) Q E s:=by
 refine Subscript_ (wpAny_mono h (λo s₁ h₁=>wpAny_Slice (wpAny_mono h₁ (λvl s₂ h₂=>wpAny_mono h₂ (λvu s₃ h₃=>?_) λ__ __ e=>e) λ__ __ e=>e)) λ__ __ e=>e)
 refine Xi λgk=>?_
 clear h₁ h₂;obtain ⟨l,XL,lo,hi,rfl,hl,hsz,pl,pu,hQ⟩:=h₃
 refine gk ?_;clear gk
 rw [evalPart_none]
 refine wpAny_pure ?_
 have hT:=(hl.push { cls:=.type "slice",data:=.fields #[vl,vu,.none] }).typeIs (s:={ s₃ with heap:=s₃.heap.push { cls:=.type "slice",data:=.fields #[vl,vu,.none] } })
 have g:=wpAny_getItem_list_slice (prog:=prog) (w:=w) (A:=A) (E:=E) (s:={ s₃ with heap:=s₃.heap.push { cls:=.type "slice",data:=.fields #[vl,vu,.none] } }) (Q:=Q) (hl.push _) (Heap.IsSliceOf.new ..) pl pu .none (by simp) (by rw [Heap.size_push];exact hQ) hsz
 have fin:wpAny (model prog w) A (subscripted (.Slice lower upper none p) false (.ref l) (.ref s₃.heap.objs.size)) (λw' s₄=>wpAny (model prog w) A (letTemporaryGo value (.ref l) w' >>= λ__=>pure w') Q E s₄) E { s₃ with heap:=s₃.heap.push { cls:=.type "slice",data:=.fields #[vl,vu,.none] } }:=by
  show wpAny _ _ (operate [.ref s₃.heap.objs.size,.ref l] (PySem.getItem (.ref l) (.ref s₃.heap.objs.size))) _ _ _
  exact wpAny_operating (wpAny_mono g (λw s₃ h₃=>wpAny_bind (wpAny_letTemporaryGo (wpAny_pure h₃))) λ__ __ x=>x)
 unfold subscriptTail
 refine wpAny_bind ?_
 rw [getitemInPython_of_ne hT.not_modules]
 refine wpAny_bind (wpAny_specialOf hT list_getitem_lookup ?_)
 first
  | exact wpAny_pure (wpAny_bind fin)
  | exact wpAny_bind (wpAny_pure (wpAny_bind fin))
  | exact wpAny_bind fin
end
variable [iC:Cs]
section
variable {W:Wd} {ctx:List Bd} {b:Nat}
theorem ZO:Gq W Za (binaryOp .Mod):=U0▸YM
theorem Js:Gq W ZH (binaryOp .FloorDiv):=VL▸ZM
theorem De:Gq W Fo (binaryOp .Sub):=HW▸Yk
theorem VN:Gq W RX (binaryOp .Add):=by
 intro A ρ σ s x y u v K Q E OA hu hv O m q
 refine Xi λgk=>?_
 refine Xs m λi qa m'=>?_;clear m;subst qa
 refine Xs m' λj qa m2=>?_;clear m';subst qa
 refine hu.intIE λt qa=>?_;clear hu;subst qa;refine hv.intIE λt' qb=>?_;clear hv;subst qb
 refine gk ?_;clear gk
 exact P.add_int (q _ _ _ m2 (.int _ _) (O.tok _) (Ext.refl _ _))
theorem DJ:Gq W Cl (binaryOp .Mult):=by
 intro A ρ σ s x y u v K Q E OA hu hv O m q
 refine Xi λgk=>?_
 refine Xs m λi qa m'=>?_;clear m;subst qa
 refine Xs m' λj qa m2=>?_;clear m';subst qa
 refine gk ?_;clear gk
 exact Zk A ρ σ s (.int i) (.int j) u v K Q E OA hu hv O (show ifB (Jb i) (JZ (i*j) K) False by rw [Vv];exact m2) q
theorem VRs.take {ρ:Rho} {h:Heap}:∀ {us xs} (n:Nat),VRs ρ h us xs→VRs ρ h (us.take n) (xs.take n)
 | _,_,0,_=>by simpa using .nil
 | _,_,n+1,.nil=>.nil
 | _,_,n+1,.cons a r=>.cons a (VRs.take n r)
theorem VRs.drop {ρ:Rho} {h:Heap}:∀ {us xs} (n:Nat),VRs ρ h us xs→VRs ρ h (us.drop n) (xs.drop n)
 | _,_,0,r=>r
 | _,_,n+1,.nil=>.nil
 | _,_,n+1,.cons a r=>VRs.drop n r
theorem KG {m:Ev} {e:Expr} {k p1 p2 pos} (h:XD W ctx b m e):XD W ctx b (Rw m) (.Subscript e (.Slice none (some (.Constant (.int 4) k p1)) none p2) pos):=λA env ρ σ vs s K Q E OA F O m' q=>by
 refine JY (h A env ρ σ vs s _ _ _ OA F O m' λu x ρ₁ σ₁ s₁ k₁ v₁ O₁ X₁=>?_)
 cases x with
 | seq l xs=>
  refine v₁.seqIE λa us qa no hs hr=>?_;clear v₁;subst qa
  cases l with
  | false=>exact (show False from k₁).elim
  | true=>
   refine Xi λgk=>?_;rcases Xo (show ifB (Yr xs) _ _ from k₁) with ⟨hz,k₂⟩ | ⟨_,k₂⟩ <;> (refine gk ?_;clear gk)
   ·have hz:=Ye hz
    refine wpAny_evalPart_none ?_
    show wpAny _ A (eval (.Constant (.int 4) k p1) env) _ _ _
    refine wpAny_Constant_int ?_
    refine ⟨a,us.toArray,none,some ((4:Nat):Int),rfl,hs.list,by rw [List.size_toArray,hr.length,sizeLine_eq];omega,.none,.int 4 _,?_⟩
    rw [slicePick_upto']
    have k':∀ o o' b ob,s₁.heap.get? b=some ob→((s₁.heap.push o).push o').get? b=some ob:=λo o' b ob e=>Heap.get?_push_of_some _ (Heap.get?_push_of_some _ e)
    refine q _ _ ρ₁ σ₁ _ k₂ (.seq (λz=>?_) ⟨0,by have:=Heap.get?_push_size (s₁.heap.push { cls:=.type "slice",data:=.fields #[.none,.int ((4:Nat):Int) s₁.toks,.none] }) (o:={ cls:=.type "list",data:=.seq (us.toArray.toList.take 4).toArray }) rfl;rw [Heap.size_push] at this;exact this⟩ ?_) (O₁.keep (t:=s₁.toks+1) (k' _ _)) (X₁.trans (.of_all (k' _ _)))
    ·refine (O₁.hr.alive z).elim λo e=>?_
     exact absurd (Heap.lt_size e) (Nat.not_lt.mpr (Nat.le_succ _))
    ·rw [Ky]
     exact (hr.take 4).ext (.of_all (k' _ _))
   ·exact k₂.elim
 | _=>exact (show False from k₁).elim
theorem BQ {m i:Ev} {e f:Expr} {p2 pos} (h:XD W ctx b m e) (hi:XD W ctx b i f):XD W ctx b (HN m i) (.Subscript e (.Slice (some f) none none p2) pos):=λA env ρ σ vs s K Q E OA F O m' q=>by
 refine JY (h A env ρ σ vs s _ _ _ OA F O m' λu x ρ₁ σ₁ s₁ k₁ v₁ O₁ X₁=>?_)
 cases x with
 | seq l xs=>
  cases l with
  | false=>exact (show False from k₁).elim
  | true=>
   refine Xi λgk=>?_;rcases Xo (show ifB (Yr xs) _ _ from k₁) with ⟨hz,k₂⟩ | ⟨_,k₂⟩ <;> (refine gk ?_;clear gk)
   ·have hz:=Ye hz
    show wpAny _ A (eval f env) _ _ _
    refine hi A env ρ₁ σ₁ vs s₁ _ _ _ OA (F.ext X₁) O₁ k₂ λv y ρ₂ σ₂ s₂ k₃ v₂ O₂ X₂=>?_
    cases y with
    | int j=>
     refine v₂.intIE λt qa=>?_;clear v₂;subst qa
     cases j with
     | ofNat n=>
      refine (v₁.ext X₂).seqIE λa us qa no hs hr=>?_;clear v₁;subst qa
      refine wpAny_evalPart_none ⟨a,us.toArray,some (n:Int),none,rfl,hs.list,by rw [List.size_toArray,hr.length,sizeLine_eq];omega,.int _ _,.none,?_⟩
      rw [slicePick_from']
      have k':∀ o o' b ob,s₂.heap.get? b=some ob→((s₂.heap.push o).push o').get? b=some ob:=λo o' b ob e=>Heap.get?_push_of_some _ (Heap.get?_push_of_some _ e)
      refine q _ _ ρ₂ σ₂ _ (show K (.seq true (UK n xs)) σ₂ from k₃) (.seq (λz=>?_) ⟨0,by have:=Heap.get?_push_size (s₂.heap.push { cls:=.type "slice",data:=.fields #[.int (Int.ofNat n) t,.none,.none] }) (o:={ cls:=.type "list",data:=.seq (us.toArray.toList.drop n).toArray }) rfl;rw [Heap.size_push] at this;exact this⟩ ?_) (O₂.keep (t:=s₂.toks) (k' _ _)) ((X₁.trans X₂).trans (.of_all (k' _ _)))
      ·refine (O₂.hr.alive z).elim λo e=>?_
       exact absurd (Heap.lt_size e) (Nat.not_lt.mpr (Nat.le_succ _))
      ·rw [U5]
       exact (hr.drop n).ext (.of_all (k' _ _))
     | negSucc n=>exact (show False from k₃).elim
    | _=>exact (show False from k₃).elim
   ·exact k₂.elim
 | _=>exact (show False from k₁).elim
end
end
section
set_option tactic.hygienic false
section
noncomputable def Hw (m:Ev):Ev:=λvs h k=>m vs h λx h1=>match x with
 | .txt _ n=>k (.int n) h1
 | _=>False
noncomputable def Cw (a b:List (List Nat×MV)) (p:Prop):Prop:=@List.rec (List Nat×MV) (λ__=>Prop) p (λe __ ih=>@Prod.rec _ _ (λ__=>Prop) (λq v=>look q b False λw=>XM v λi=>XM w λj=>ifB (eqI i j) ih False) e) a
noncomputable def WT (h:H) (a b:MV) (p:Prop):Prop:=YT a λi=>YT b λj=>ZD h i λo=>ZD h j λo'=>UP o λxs=>UP o' λys=>ifB (Nat.beq (len xs) (len ys)) (Cw xs ys p) False
noncomputable def unL {α:Type} (l:List α) (k:α→List α→Prop):Prop:=match l with
 | []=>False
 | a :: r=>k a r
noncomputable def noL {α:Type} (l:List α) (p:Prop):Prop:=match l with
 | []=>p
 | _ :: _=>False
noncomputable def un5 (l:List MV) (k:MV→MV→MV→MV→MV→Prop):Prop:=unL l λa l=>unL l λb l=>unL l λc l=>unL l λd l=>unL l λe l=>noL l (k a b c d e)
noncomputable def Su (w e l w2 e2 l2:MV) (p:Prop):Prop:=Jh w λw=>Jh w2 λw2=>ifB (eqN w w2) (Jh e λe=>Jh e2 λe2=>ifB (eqN e e2) (XM l λl=>XM l2 λl2=>l=l2∧p) False) False
noncomputable def Sp:C2:=λh a b k=>VA a λxs=>VA b λys=>un5 xs λf' m' w e l=>un5 ys λf m w2 e2 l2=>WT h f' f (WT h m' m (Su w e l w2 e2 l2 (k true)))
end
theorem Wz {α:Type} {l:List α} {k:α→List α→Prop} (h:unL l k):∃ a r,l=a :: r∧k a r:=by
 cases l with
 | nil=>exact h.elim
 | cons a r=>exact ⟨a,r,rfl,h⟩
theorem Yu {α:Type} {l:List α} {k:α→List α→Prop} (h:unL l k) {C':Prop} (f':∀ a r,l=a :: r→k a r→C'):C':=by refine (Wz h).elim λa zz=>zz.elim λr zz=>zz.elim λq0 q1=>?_;exact f' a r q0 q1
theorem IA {α:Type} {l:List α} {p:Prop} (h:noL l p):l=[]∧p:=by
 cases l with
 | nil=>exact ⟨rfl,h⟩
 | cons a r=>exact h.elim
theorem To {α:Type} {l:List α} {p:Prop} (h:noL l p) {C':Prop} (f':l=[]→p→C'):C':=by refine (IA h).elim λq0 q1=>?_;exact f' q0 q1
theorem W1 {l:List MV} {k:MV→MV→MV→MV→MV→Prop} (h:un5 l k):∃ a b c d e,l=[a,b,c,d,e]∧k a b c d e:=by
 refine Xi λgk=>?_
 refine Yu h λa l1 e1 h=>?_
 refine Yu h λb l2 e2 h=>?_
 refine Yu h λc l3 e3 h=>?_
 refine Yu h λd l4 e4 h=>?_
 refine Yu h λe l5 e5 h=>?_
 refine To h λe6 h=>?_
 refine gk ?_;clear gk
 exact ⟨a,b,c,d,e,by rw [e1,e2,e3,e4,e5,e6],h⟩
theorem L7 {l:List MV} {k:MV→MV→MV→MV→MV→Prop} (h:un5 l k) {C':Prop} (f':∀ a b c d e,l=[a,b,c,d,e]→k a b c d e→C'):C':=by refine (W1 h).elim λa zz=>zz.elim λb zz=>zz.elim λc zz=>zz.elim λd zz=>zz.elim λe zz=>zz.elim λq0 q1=>?_;exact f' a b c d e q0 q1
variable [iC:Cs]
theorem Ho {w e l w2 e2 l2:MV} {p:Prop} (h:Su w e l w2 e2 l2 p):∃ a b i,(w=.str a∧w2=.str a)∧(e=.str b∧e2=.str b)∧(l=.int i∧l2=.int i)∧p:=by
 refine Xi λgk=>?_
 refine YF h λa h1 h=>?_
 refine YF h λa' h2 h=>?_
 refine gk ?_;clear gk
 refine Xi λgk=>?_;rcases Xo h with ⟨c1,h⟩ | ⟨_,h⟩ <;> (refine gk ?_;clear gk)
 ·refine YF h λb h3 h=>?_
  refine Xi λgk=>?_
  refine YF h λb' h4 h=>?_
  refine gk ?_;clear gk
  refine Xi λgk=>?_;rcases Xo h with ⟨c2,h⟩ | ⟨_,h⟩ <;> (refine gk ?_;clear gk)
  ·refine Xs h λi h5 h=>?_
   refine Xi λgk=>?_
   refine Xs h λi' h6 qa=>?_;obtain ⟨h7,h⟩:=qa
   refine gk ?_;clear gk
   rw [Jz,beq_iff_eq] at c1 c2
   exact ⟨a,b,i,⟨h1,by rw [h2,c1]⟩,⟨h3,by rw [h4,c2]⟩,⟨h5,by rw [h6,h7]⟩,h⟩
  ·exact h.elim
 ·exact h.elim
theorem VRs.fiveI {ρ:Rho} {h:Heap} {us:List Value} {a b c d e:MV} (r:VRs ρ h us [a,b,c,d,e]):∃ v1 v2 v3 v4 v5,us=[v1,v2,v3,v4,v5]∧VR ρ h v1 a∧VR ρ h v2 b∧VR ρ h v3 c∧VR ρ h v4 d∧VR ρ h v5 e:=by
 refine Xi λgk=>?_
 refine r.consIE λv1 us1 e1 r1 r=>?_
 refine r.consIE λv2 us2 e2 r2 r=>?_
 refine r.consIE λv3 us3 e3 r3 r=>?_
 refine r.twoI.elim λv4 zz=>zz.elim λv5 zz=>zz.elim λe4 zz=>zz.elim λr4 r5=>?_
 refine gk ?_;clear gk
 exact ⟨v1,v2,v3,v4,v5,by rw [e1,e2,e3,e4],r1,r2,r3,r4,r5⟩
theorem VRs.fiveIE {ρ:Rho} {h:Heap} {us:List Value} {a b c d e:MV} (r:VRs ρ h us [a,b,c,d,e]) {C':Prop} (f':∀ v1 v2 v3 v4 v5,us=[v1,v2,v3,v4,v5]→VR ρ h v1 a→VR ρ h v2 b→VR ρ h v3 c→VR ρ h v4 d→VR ρ h v5 e→C'):C':=by refine (VRs.fiveI r).elim λv1 zz=>zz.elim λv2 zz=>zz.elim λv3 zz=>zz.elim λv4 zz=>zz.elim λv5 zz=>zz.elim λq0 zz=>zz.elim λq1 zz=>zz.elim λq2 zz=>zz.elim λq3 zz=>zz.elim λq4 q5=>?_;exact f' v1 v2 v3 v4 v5 q0 q1 q2 q3 q4 q5
section
variable {W:Wd} {ctx:List Bd} {b:Nat}
structure TxtCt:Prop where
 ct:∀ s w n,Cs.txt s w n→n=1+(Txt.count s (toS [10]):Int)
theorem K4 (TC:TxtCt) {m:Ev} {e:Expr} {k1 p1 k2 p2 apos cpos pos} (h:XD W ctx (b+1) m e)
  (hbase:∀ env,attributeBase e "count" env (eval e env)=eval e env:=by intro _;rfl) (hline:(apos.endLine==cpos.line)=true:=by rfl)
  (he:∀ env,backTo cpos (starEach [.Constant (.str "\n") k2 p2] env)=[(false,eval (.Constant (.str "\n") k2 p2) env)]:=by intro _;rfl) :
  XD W ctx (b+1) (Hw m) (.BinOp (.Constant (.int 1) k1 p1) .Add (.Call (.Attribute e "count" apos) [.Constant (.str "\n") k2 p2] [] cpos) pos):=λA env ρ σ vs s K Q E OA F O m' q=>by
 refine wpAny_BinOp (wpAny_Constant_int (wpAny_Call_method1_late (hbase env) hline (he env) (h A env ρ σ vs { s with toks:=s.toks+1 } _ _ _ OA F (O.tok _) m' λu x ρ₁ σ₁ s₁ k₁ v₁ O₁ X₁=>?_)))
 cases v₁ with
 | @txt sx tx w n hx=>
  refine ⟨"str","str.count",PySem.F.plainAttrs_str,PySem.F.slot_str_count,PySem.F.type_str_count,typeIs_str _ _ _,λa e=>(by cases e),?_⟩
  refine callWith_builtin rfl (evalArgs_plain (spliced_cons (wpAny_Constant_str (spliced_nil ?_))))
  refine SC.count ?_
  refine PySem.P.add_int ?_
  have e:(("\n":String):Str)=toS [10]:=by rfl
  have hn:=TC.ct _ _ _ hx
  rw [← e] at hn
  rw [← hn]
  exact q _ _ ρ₁ σ₁ _ k₁ (.int _ _) (((O₁.tok _).tok _).tok _) X₁
 | _=>exact (show False from k₁).elim
theorem LX {A:Around} {ρ:Rho} {s:Shared} {kb:List (Str×Value)} {es:List (List Nat×MV)} {p:Prop} (r:DRs ρ s.heap kb es):∀ {ka:List (Str×Value)} {fs:List (List Nat×MV)},DRs ρ s.heap ka fs→Cw fs es p→KeqHits A s kb ka true∧p
 | _,_,.nil,m=>⟨.nil,m⟩
 | (q,v) :: ka,(q',mv) :: fs,r',m=>by
  cases r' with | @cons q0 _ _ _ _ hv r'=>
  have m1:look q' es False λw=>XM mv λi=>XM w λj=>ifB (eqI i j) (Cw fs es p) False:=m
  refine Xi λgk=>?_;rcases U9 r m1 with ⟨_,f⟩ | ⟨y,x,hy,hx,m2⟩ <;> (refine gk ?_;clear gk)
  ·exact f.elim
  ·refine Xs m2 λi qa m3=>?_;clear m2;clear m m1;subst qa
   refine Xs m3 λj qa m4=>?_;clear m3;subst qa
   refine Xi λgk=>?_;rcases Xo m4 with ⟨e,m5⟩ | ⟨_,m5⟩ <;> (refine gk ?_;clear gk)
   ·obtain ⟨h1,h2⟩:=LX r r' m5
    refine hv.intIE λt qa=>?_;subst qa;refine hx.intIE λt' qb=>?_;subst qb
    rw [G1] at e
    have ea:PySem.SeqAt.EqAt A s (.int i t) (.int j t') true:=by
     have:=(MeetsSeq.EqGives.int i j t t').at A s
     rw [e] at this;exact this
    exact ⟨.hit (e:=true) (b:=true) hy ea h1,h2⟩
   ·exact m5.elim
theorem DQ {A:Around} {ρ:Rho} {σ:H} {s:Shared} {u v:Value} {x y:MV} {p:Prop} (hA:A.units<cLine) (O:Ok W ρ σ s) (hsys:∃ o,W.h₀.get? sysModules=some o) (hu:VR ρ s.heap u x) (hv:VR ρ s.heap v y) (m:WT σ x y p) :
  (∀ Q E,Q true s→wpAny (model W.prog W.w) A (eqBool u v) Q E s)∧p:=by
 refine Xi λgk=>?_
 refine XT m λi qa m1=>?_;clear m;subst qa
 refine XT m1 λj qa m2=>?_;clear m1;subst qa
 refine XU m2 λn l o qa hl m3=>?_;clear m2;subst qa
 refine XU m3 λn' l' o' e' hl' m4=>?_
 refine gk ?_;clear gk
 cases e'
 refine Xi λgk=>?_
 refine GJ m4 λxs qa m5=>?_;clear m4;clear m3;subst qa
 refine GJ m5 λys qa m6=>?_;clear m5;subst qa
 refine gk ?_;clear gk
 refine Xi λgk=>?_;rcases Xo m6 with ⟨hz,m7⟩ | ⟨_,m7⟩ <;> (refine gk ?_;clear gk)
 ·have hz:=Nat.eq_of_beq_eq_true hz
  rw [Yh,Yh] at hz
  refine Xi λgk=>?_
  obtain ⟨a,F,qa,e⟩:=hu.refI;clear hu;subst qa
  obtain ⟨a',F',qa,e'⟩:=hv.refI;clear hv;subst qa
  refine gk ?_;clear gk
  refine Xi λgk=>?_
  refine Xi λgk=>?_
  obtain ⟨c,ka,ec,da,ra⟩:=OR.dict_iff.mp (O.hr.obj n l rfl i _ hl)
  obtain ⟨c',kb,ec',db,rb⟩:=OR.dict_iff.mp (O.hr.obj n l rfl j _ hl')
  refine gk ?_;clear gk
  refine gk ?_;clear gk
  rw [e] at ec;cases ec
  rw [e'] at ec';cases ec'
  obtain ⟨hits,hp⟩:=LX (A:=A.in1) rb ra m7
  refine ⟨λQ E hq=>?_,hp⟩
  unfold eqBool
  refine wpAny_holding ?_
  by_cases hab:(Value.ref a==Value.ref a')=true
  ·rw [if_pos hab];exact wpAny_bind (wpAny_rule (wpAny_pure hq))
  ·rw [if_neg hab]
   dsimp only
   refine wpAny_bind (m:=richCompare .Eq (.ref a) (.ref a')) (keq_eq (r:=true) (K2 O hsys ⟨i+1,by rw [e];exact .head _⟩) (K2 O hsys ⟨j+1,by rw [e'];exact .head _⟩) da db hA (λ__=>hits) ?_)
   have hk:(ka.length==kb.length&&true)=true:=by
    rw [ra.length,rb.length,hz];simp
   rw [hk]
   exact wpAny_truthy_bool hq
 ·exact m7.elim
theorem UA {A:Around} {ρ:Rho} {σ:H} {s:Shared} {u v:Value} {x y:MV} {p:Prop} (hA:A.units<cLine) (O:Ok W ρ σ s) (hsys:∃ o,W.h₀.get? sysModules=some o) (hu:VR ρ s.heap u x) (hv:VR ρ s.heap v y) (m:WT σ x y p) {C':Prop} (f':(∀ Q E,Q true s→wpAny (model W.prog W.w) A (eqBool u v) Q E s)→p→C'):C':=by refine (DQ hA O hsys hu hv m).elim λq0 q1=>?_;exact f' q0 q1
theorem N7 {A:Around} {s:Shared} {q:List Nat} {t u:Tok}:PySem.SeqAt.EqAt A s (.str (toS q) t) (.str (toS q) u) true:=by
 have:=(SeqRoads2.EqGives.str (toS q) (toS q) t u).at A s
 simpa using this
section
variable {prog:Program} {w:World} {A:Around} {E:Value→Shared→Prop} {s:Shared}
theorem M8 {l b:Addr} {xs ys:Array Value} {Q:Value→Shared→Prop} (hl:s.heap.IsTuple l xs) (hb:s.heap.IsTuple b ys) (hu:A.units<cLine) (hz:xs.size=ys.size)
  (he:∀ j (h1:j<xs.size) (h2:j<ys.size),∀ (R:Bool→Shared→Prop) (E:Value→Shared→Prop),R true s→wpAny (model prog w) A.in1 (eqBool xs[j] ys[j]) R E s) (h:Q (.bool true) s) :
  wpAny (model prog w) A (compareOp .Eq (.ref l) (.ref b)) Q E s:=by
 refine wpAny_richCompare_same_room (op:=.Eq) hl.typeIs hb.typeIs PySem.F.slot_tuple_eq (wpAny_call_entry PySem.F.slot_tuple_eq hl.typeIs PySem.F.entry_tuple_eq ?_ (PySem.F.args_tuple_eq_2 _ _)) hu
 obtain ⟨⟨cl,d1,da1,sl1⟩,ho1,hc1,n1,hd1⟩:=id hl
 obtain ⟨⟨cl2,d2,da2,sl2⟩,ho2,hc2,n2,hd2⟩:=id hb
 simp only at hc1 hd1 hc2 hd2
 subst hc1 hd1 hc2 hd2
 have hlen:(xs.toList.zip ys.toList).length=xs.size:=by simp [hz]
 obtain ⟨hp,g,d,tk,os⟩:=s
 have f2:=AutoSeq1.sub_tuple_tuple
 wp_walk using wpAny_loadPart' ho1,wpAny_loadPart' ho2,wpAny_forIn_list _ (λrest b s'=>b.1=none∧s'=⟨hp,g,d,tk,os⟩∧∃ i,rest=(xs.toList.zip ys.toList).drop i) _
 case turn=>
  rintro ⟨y,x⟩ rest b s' ⟨hb',rfl,i,hq⟩
  have hlt:i<(xs.toList.zip ys.toList).length:=Nat.lt_of_not_le λhge=>by rw [List.drop_of_length_le hge] at hq;cases hq
  have h1:i<xs.size:=hlen▸hlt
  have h2:i<ys.size:=hz▸h1
  rw [List.drop_eq_getElem_cons hlt] at hq
  injection hq with hyx hrest
  obtain ⟨rfl,rfl⟩:y=xs[i]∧x=ys[i]:=by
   have e1:=congrArg Prod.fst hyx
   have e2:=congrArg Prod.snd hyx
   exact ⟨by simpa using e1,by simpa using e2⟩
  refine wpAny_bind (he i h1 h2 _ _ ?_)
  wp_walk
  exact ⟨rfl,rfl,i+1,hrest⟩
 case fin=>
  rintro ⟨b1,b2⟩ s' ⟨hb',rfl,i,hq⟩
  simp only at hb'
  subst hb'
  wp_walk
  exact ⟨_,rfl,(λx=>nomatch x),by simpa [Builtin.Tuple.tupleCompareSizes,hz] using h⟩
 case h=>exact ⟨rfl,rfl,0,rfl⟩
end
theorem Ix {prog:Program} {w:World} {A:Around} {E:Value→Shared→Prop} {s:Shared} {l b:Addr} {u1 u2 u3 u4 u5 v1 v2 v3 v4 v5:Value} {Q:Value→Shared→Prop} (hl:s.heap.IsTuple l [u1,u2,u3,u4,u5].toArray) (hb:s.heap.IsTuple b [v1,v2,v3,v4,v5].toArray) (hu:A.units<cLine)
  (e1:∀ (R:Bool→Shared→Prop) (E:Value→Shared→Prop),R true s→wpAny (model prog w) A.in1 (eqBool u1 v1) R E s) (e2:∀ (R:Bool→Shared→Prop) (E:Value→Shared→Prop),R true s→wpAny (model prog w) A.in1 (eqBool u2 v2) R E s)
  (e3:∀ (R:Bool→Shared→Prop) (E:Value→Shared→Prop),R true s→wpAny (model prog w) A.in1 (eqBool u3 v3) R E s) (e4:∀ (R:Bool→Shared→Prop) (E:Value→Shared→Prop),R true s→wpAny (model prog w) A.in1 (eqBool u4 v4) R E s)
  (e5:∀ (R:Bool→Shared→Prop) (E:Value→Shared→Prop),R true s→wpAny (model prog w) A.in1 (eqBool u5 v5) R E s) (h:Q (.bool true) s):wpAny (model prog w) A (compareOp .Eq (.ref l) (.ref b)) Q E s:=
 M8 hl hb hu rfl (λj h1 h2=>match j,h1,h2 with
  | 0,_,_=>e1
  | 1,_,_=>e2
  | 2,_,_=>e3
  | 3,_,_=>e4
  | 4,_,_=>e5) h
theorem Fj (hsys:∃ o,W.h₀.get? sysModules=some o):JQ W Sp (compareOp .Eq):=by
 intro A ρ σ s x y u v K Q E OA hu hv O m q
 refine Xi λgk=>?_
 refine YQ m λxs qa m1=>?_;subst qa
 clear m
 refine YQ m1 λys qa m2=>?_;subst qa
 clear m1
 refine L7 m2 λx1 x2 x3 x4 x5 qa m3=>?_;subst qa
 clear m2
 refine L7 m3 λy1 y2 y3 y4 y5 qa m4=>?_;subst qa
 clear m3
 refine hu.seqIE λa us qa __ hs hr=>?_;clear hu;subst qa
 refine hv.seqIE λb ws qa __ hs' hr'=>?_;clear hv;subst qa
 refine hr.fiveIE λu1 u2 u3 u4 u5 qa r1 r2 r3 r4 r5=>?_;clear hr;subst qa
 refine hr'.fiveIE λv1 v2 v3 v4 v5 qa q1 q2 q3 q4 q5=>?_;clear hr';subst qa
 have hA:A.in1.units<cLine:=by have:=OA.2.2;show A.units+1<_;omega
 refine UA (A:=A.in1) hA O hsys r1 q1 m4 λe1 m1=>?_
 refine UA (A:=A.in1) hA O hsys r2 q2 m1 λe2 m2=>?_
 clear m1 m4;obtain ⟨c,d,i,⟨rfl,rfl⟩,⟨rfl,rfl⟩,⟨rfl,rfl⟩,hk⟩:=Ho m2
 refine r3.strIE λt3 qa=>?_;clear r3;subst qa
 refine q3.strIE λt3' qa=>?_;clear q3;subst qa
 refine r4.strIE λt4 qa=>?_;clear r4;subst qa
 refine q4.strIE λt4' qa=>?_;clear q4;subst qa
 refine r5.intIE λt5 qa=>?_;clear r5;subst qa
 refine q5.intIE λt5' qa=>?_;clear q5;subst qa
 refine gk ?_;clear gk
 refine Ix hs.tuple hs'.tuple (by have:=OA.2.2;omega) e1 e2 (λR E hR=>N7 _ _ E R hR) (λR E hR=>N7 _ _ E R hR) (λR E hR=>?_) (q true s hk O (Ext.refl _ _))
 exact (by simpa using (MeetsSeq.EqGives.int i i t5 t5').at A.in1 s:PySem.SeqAt.EqAt A.in1 s (.int i t5) (.int i t5') true) _ _ E R hR
end
end
section
set_option tactic.hygienic false
noncomputable def TOk (l w:List Nat) (n:Int):Prop:=l.length≤4000∧GF [w,[46],[]] l∧n=1+((l.filter λc=>c==10).length:Nat)∧n=1+(Txt.count (toS l) (toS [10]):Int)
section
noncomputable def S8 (f:Fn) (l:List Ev):Ev:=λvs h k=>YN f l vs h λv h'=>∃ w n lst,v=.str lst∧TOk lst w n∧k (.txt w n) h'
noncomputable def Uc (N:KS) (x:Ex):Ex:=λvs h n b c r=>x vs h N b c r∧∀ vs' h',N vs' h'→n vs' h'
end
variable [iC:Cs]
section
variable {W:Wd} {ctx:List Bd} {b:Nat}
structure TxtMk:Prop where
 tx:∀ l w n,TOk l w n→Cs.txt (toS l) w n
theorem Fx (TM:TxtMk) {f:Fn} {l:List Ev} {e:Expr} (h:XD W ctx b (YN f l) e):XD W ctx b (S8 f l) e:=λA env ρ σ vs s K Q E OA F O m q=>
 h A env ρ σ vs s (λv h'=>∃ w n lst,v=.str lst∧TOk lst w n∧K (.txt w n) h') Q E OA F O m λv mv ρ' σ' s' hk hv O' X=>by
  obtain ⟨w,n,lst,rfl,ht,hk⟩:=hk
  refine hv.strIE λt qa=>?_;clear hv;subst qa
  exact q _ _ ρ' σ' s' hk (.txt (TM.tx _ _ _ ht)) O' X
theorem LP {N:KS} {x:Ex} {st:Stmt} (h:Z9 W ctx b x st):Z9 W ctx b (Uc N x) st:=λA env ρ σ vs s n bk ct r Q E OA nb F O m q=>
 h A env ρ σ vs s N bk ct r Q E OA nb F O m.1 λρ' σ' s' O' X vs' F'=>⟨λk=>(q ρ' σ' s' O' X vs' F').1 (m.2 _ _ k),(q ρ' σ' s' O' X vs' F').2⟩
theorem IF {env:Env} {x y:Str} {px py:Pos} {e:Expr} {k:Nat} {tpos:Pos} (h:env.kindOf x=some .cell):swappedStores [.Tuple [.Name x px,.Name y py] k tpos] e env=pure none:=by
 have hfm:((([.Name x px,.Name y py]:List Expr).filterMap λe=>match e with
  | .Name id pos=>if (env.kindOf id==some .local&&pos.line==((([.Name x px,.Name y py]:List Expr).head?.map (·.pos.line)).getD 0))=true then some id else none
  | _=>none).length != ([.Name x px,.Name y py]:List Expr).length)=true:=by
  rw [List.filterMap_cons]
  simp only [h]
  have:(some NameKind.cell==some NameKind.local)=false:=by decide
  simp only [this,Bool.false_and,Bool.false_eq_true,if_false]
  rw [List.filterMap_cons]
  split <;> simp
 unfold swappedStores
 cases e with
 | Tuple vs k' p'=>
  dsimp only
  by_cases c1:(!(([.Name x px,.Name y py]:List Expr).length==2||([.Name x px,.Name y py]:List Expr).length==3)||vs.length != ([.Name x px,.Name y py]:List Expr).length||env.blockKind != .function)=true
  ·exact if_pos c1
  ·refine (if_neg c1).trans ?_
   by_cases c2:(vs.any fun | .Starred ..=>true | _=>false)=true
   ·exact if_pos c2
   ·refine (if_neg c2).trans ?_
    refine if_pos ?_
    exact (Bool.or_eq_true _ _).mpr (.inl hfm)
 | _=>rfl
theorem MD {t:Tg} {m₁:Ev} {x y:Str} {p:Pa} {px py:Pos} {e:Expr} {k tpos pos} (hm:Bd.cel x p true∈ctx) (ht:MJ W ctx b t (.Tuple [.Name x px,.Name y py] k tpos)) (h:XD W ctx b m₁ e)
  (hs:∀ env,swapsWithSole [.Tuple [.Name x px,.Name y py] k tpos] e pos.line env=pure false:=by intro _;rfl):Z9 W ctx b (XO t m₁) (.Assign [.Tuple [.Name x px,.Name y py] k tpos] e pos):=λA env ρ σ vs s n bk ct r Q E OA nb F O m q=>by
 have hk:env.kindOf x=some .cell:=(F.cel x p true hm).1.resolve_right λh=>by cases h.1
 refine PyProof.Rows.Assign_Tuple (h A env ρ σ vs s (λx h1=>t x vs h1 n) _ _ OA F O m λv mv ρ₁ σ₁ s₁ k₁ v₁ O₁ X₁=>?_) (hs env) (IF hk)
 exact ht A env ρ₁ σ₁ vs s₁ v mv n _ _ OA nb (F.ext X₁) O₁ v₁ k₁ λρ₂ σ₂ s₂ vs₂ O₂ X₂ F₂ k₂=>(q ρ₂ σ₂ s₂ O₂ (X₁.toS.trans X₂ (F.ext X₁).alive) vs₂ F₂).1 k₂
end
end
section
set_option tactic.hygienic false
set_option maxHeartbeats 4000000
section
noncomputable abbrev Wv:Pa:=[false,false,false,false,false,false]
noncomputable abbrev Ue:Pa:=[false,false,false,false,false,true]
noncomputable abbrev WG:Pa:=[false,false,false,false,true,false]
noncomputable abbrev IT:Pa:=[false,false,false,false,true,true]
noncomputable abbrev DL:Pa:=[false,false,false,true,false,false]
noncomputable abbrev IW:Pa:=[false,false,false,true,false,true]
noncomputable abbrev DG:Pa:=[false,false,false,true,true,false]
noncomputable abbrev Nj:Pa:=[false,false,false,true,true,true]
noncomputable abbrev LE:Pa:=[false,false,true,false,false,false]
noncomputable abbrev Ud:Pa:=[false,false,true,false,false,true]
noncomputable abbrev VV:Pa:=[false,false,true,false,true,false]
noncomputable abbrev NJ:Pa:=[false,false,true,false,true,true]
noncomputable abbrev Co:Pa:=[false,false,true,true,false,false]
noncomputable abbrev UT:Pa:=[false,false,true,true,false,true]
noncomputable abbrev NV:Pa:=[false,false,true,true,true,false]
noncomputable abbrev Bh:Pa:=[false,false,true,true,true,true]
noncomputable abbrev Nq:Pa:=[false,true,false,false,false,false]
noncomputable abbrev Ma:Pa:=[false,true,false,false,false,true]
noncomputable abbrev Nr:Pa:=[false,true,false,false,true,false]
noncomputable abbrev RV:Pa:=[false,true,false,false,true,true]
noncomputable abbrev KA:Pa:=[false,true,false,true,false,false]
noncomputable abbrev FQ:Pa:=[false,true,false,true,false,true]
noncomputable abbrev V7:Pa:=[false,true,false,true,true,false]
noncomputable abbrev BL:Pa:=[false,true,false,true,true,true]
noncomputable abbrev Cq:Pa:=[false,true,true,false,false,false]
noncomputable abbrev Fv:Pa:=[false,true,true,false,false,true]
noncomputable abbrev Hu:Pa:=[false,true,true,false,true,false]
noncomputable abbrev BO:Pa:=[false,true,true,false,true,true]
noncomputable abbrev R9:Pa:=[false,true,true,true,false,false]
noncomputable abbrev Ba:Pa:=[false,true,true,true,false,true]
noncomputable abbrev Hh:Pa:=[false,true,true,true,true,false]
noncomputable abbrev FV:Pa:=[false,true,true,true,true,true]
noncomputable abbrev R8:Pa:=[true,false,false,false,false,false]
noncomputable abbrev D8:Pa:=[true,false,false,false,false,true]
noncomputable abbrev Fc:Pa:=[true,false,false,false,true,false]
noncomputable abbrev D5:Pa:=[true,false,false,false,true,true]
noncomputable def f5t:Vs:=(.nd (.nd (.nd (.nd (.nd (.nd (.lf .unb) (.lf .unb)) (.nd (.lf .unb) (.lf .unb))) (.nd (.nd (.lf .unb) (.lf .unb)) (.nd (.lf .unb) (.lf .unb)))) (.nd (.nd (.nd (.lf .unb) (.lf .unb)) (.nd (.lf .unb) (.lf .unb))) (.nd (.nd (.lf .unb) (.lf .unb)) (.nd (.lf .unb) (.lf .unb))))) (.nd (.nd (.nd (.nd (.lf .unb) (.lf .unb)) (.nd (.lf .unb) (.lf .unb))) (.nd (.nd (.lf .unb) (.lf .unb)) (.nd (.lf .unb) (.lf .unb)))) (.nd (.nd (.nd (.lf .unb) (.lf .unb)) (.nd (.lf .unb) (.lf .unb))) (.nd (.nd (.lf .unb) (.lf .unb)) (.nd (.lf .unb) (.lf .unb)))))) (.nd (.nd (.nd (.nd (.nd (.lf .unb) (.lf .unb)) (.nd (.lf .unb) (.lf .unb))) (.nd (.nd (.lf .unb) (.lf .unb)) (.nd (.lf .unb) (.lf .unb)))) (.nd (.nd (.nd (.lf .unb) (.lf .unb)) (.nd (.lf .unb) (.lf .unb))) (.nd (.nd (.lf .unb) (.lf .unb)) (.nd (.lf .unb) (.lf .unb))))) (.nd (.nd (.nd (.nd (.lf .unb) (.lf .unb)) (.nd (.lf .unb) (.lf .unb))) (.nd (.nd (.lf .unb) (.lf .unb)) (.nd (.lf .unb) (.lf .unb)))) (.nd (.nd (.nd (.lf .unb) (.lf .unb)) (.nd (.lf .unb) (.lf .unb))) (.nd (.nd (.lf .unb) (.lf .unb)) (.nd (.lf .unb) (.lf .unb)))))))
noncomputable def f5b:Ex:=sL [XO (tV DL) (Xl (.str [34,92,35])),
 XO (tV IW) (Xq XN (Xe WG) (JM [Xl (.str [])])),
 XO (tV DG) (Yo BL (Mk (Xq ZG (Xe Ue) (Xl (.int 1))) (Xl (.int (-1))) (Xl (.int (-1)))) (YI [Xq M7 (Xl (.str [32])) (Xe BL),Xq M7 (Xl (.str [124])) (Xe BL)])),
 XO (tV Nj) (Yo Cq (e1 Zl (Xl (.int 3))) (e1 R3 (Xe Ue))),
 sIf (X4 cNe (Yo Fv (Xe Nj) (e1 TG (Xe Fv))) (Xq M7 (JM [Xe Ue]) (Xl (.int 3)))) (sL [Yn (Xl .none)]) (sL []),
 XO (tV LE) (e1 Tn (Xe Wv)),
 XO (tV Ud) (e1 J2 (Xe LE)),
 XO (JX 2 [tV NJ,tV VV]) (YI [PF (Xe Ud) (Xl (.int 0)),PF (Xe Ud) (Xl (.int 1))]),
 sEx (FE Ml (Xe LE) (Xe Ud)),
 Ku (tV Co) (e1 Zl (Xl (.int 28))) (sL [XO (tV Ud) (e1 J2 (Xe LE)),
 sIf (X4 cEq (Xe Ud) (Xl (.str [46]))) (sL [S7]) (sL []),
 XO (tV UT) (Yo Hu (Xe Ud) (eM IG Ms (Xe DL) (Xe Hu))),
 Ku (tV NV) (e1 Zl (Xl (.int 3))) (sL [XO (tV Bh) (Vb BO (Mk (Xq ZG (Xe Ue) (Xl (.int 1))) (Xl (.int (-1))) (Xl (.int (-1)))) (X4 cEq (YB (Xe UT) (Xe BO)) (Xe NV)) (YB (Xe DG) (Xe BO))),
 sIf (X4 GK (T7 (X4 cNe (Xe Bh) (JM [])) (Cg Ty (YB (Xe Nj) (Xe NV)) (Xe Bh)) (e1 UU (YB (Xe Nj) (Xe NV)))) (Xl .none)) (sL [Yn (Xl .none)]) (sL [])]),
 XO (tV Nq) (Yo R9 (e1 Zl (Xl (.int 3))) (e1 fLen (Vb Ba (Xe UT) (X4 cEq (Xe Ba) (Xe R9)) (Xe Ba)))),
 sIf (eOr (X4 cNe (Yo Hh (Xe Nj) (e1 M4 (Xe Hh))) (Xe Nq)) (X4 cNe (e1 S5 (Yo FV (Xe Nj) (e1 TG (Xe FV)))) (Xq M7 (Xe Ue) (Xq ZG (Xe Ue) (Xl (.int 1)))))) (sL [Yn (Xl .none)]) (sL []),
 XO (tV Ma) (Yo R8 (e1 Zl (Xl (.int 3))) (Xq ZG (eM IG Ms (Xe DG) (e1 HF (YB (Xe Nj) (Xe R8)))) (T7 (X4 cGt (YB (Xe Nq) (Xe R8)) (Xl (.int 0))) (Xl (.int 0)) (Xe Ue)))),
 sIf (X4 cNe (Yo D8 (Xe Nj) (e1 M4 (Xe D8))) (Yo Fc (Xe Nq) (e2 Ai (Xq ZG (Xe Fc) (Xl (.int 1))) (Xl (.int 0))))) (sL [Yn (Xl .none)]) (sL []),
 Ku (tV Nr) (e1 Zl (Xl (.int 3))) (sL [Ku (tV RV) (Cr (Xe IT) (Xe Nr)) (sL [XO (tV KA) (Rm (X4 cGe (YB (Xe Ma) (Xe Nr)) (Xl (.int 0))) (X4 cLt (YB (Xe IW) (YB (Xe Ma) (Xe Nr))) (YB (Xe IW) (YB (Xe Ma) (Xe RV))))),
 sIf (Rm (X4 Un (Xe KA) (Xl (.bool true))) (X4 Un (Xe KA) (Xl (.bool false)))) (sL [Yn (Xl .none)]) (sL []),
 sIf (Xe KA) (sL [UL FQ (Xe UT) (YB (Xe Ma) (Xe Nr)) (Xe RV),
 XO (tV V7) (eM isStr ZR (Xl (.str [])) (Yo D5 (Xe FQ) (YB (Xe DL) (Xe D5)))),
 sIf (X4 Hd (Xe V7) (Xe VV)) (sL [XO (MH 2 [Fz (Xe VV) (Xe V7),Fz (Xe NJ) (Xe V7)]) (YI [Xq XN (YB (Xe VV) (Xe Ud)) (Xl (.int 1)),Xl (.int 0)]),
 sIf (X4 GK (FE Ml (Xe LE) (Xe V7)) (Xl .none)) (sL [Yn (Xl .none)]) (sL [])]) (sL []),
 sIf (X4 cEq (YB (Xe VV) (Xe V7)) (Xq XN (YB (Xe VV) (Xe Ud)) (Xl (.int 1)))) (sL [BA (Xe NJ) (Xe V7) TU (YB (Xe NJ) (Xe Ud))]) (sL [])]) (sL [])])])]),
 Yn (YI [Xe VV,Xe NJ,Xe Ud,e1 J2 (Xe LE),e1 Fk (Xe LE)])]
noncomputable def f5:Fn:=Ji [Wv,Ue,WG,IT] f5t f5b
end
section
variable [iO:Own] [iA:OwnA] [iL:OwnL] [iX:OwnX] {W:Wd}
noncomputable def c5:List Bd:=[.loc "text" Wv,.cel "size" Ue true,.loc "discs" WG,.loc "turns" IT,.cel "signs" DL true,.loc "things" IW,.cel "kinds" DG true,.cel "pegs" Nj true,.loc "line" LE,.loc "word" Ud,.loc "far" VV,.loc "many" NJ,.loc "_" Co,.cel "places" UT true,.cel "peg" NV true,.loc "lay" Bh,.cel "held" Nq true,.loc "tops" Ma,.loc "here" Nr,.loc "there" RV,.loc "told" KA,.loc "gone" FQ,.loc "new" V7,.glo "_law_stream",.glo "_netrclex",.glo "list",.glo "range",.glo "sum"]
noncomputable def As:List Bd:=[.loc "k" BL]
noncomputable def OQ:List Bd:=[.loc "_" Cq,.glo "_Accumulator",.cel "size" Ue false]
noncomputable def Qg:List Bd:=[.loc "peg" Fv,.glo "len"]
noncomputable def Qd:List Bd:=[.loc "sign" Hu,.cel "signs" DL false]
noncomputable def AU:List Bd:=[.loc "k" BO,.cel "kinds" DG false,.cel "peg" NV false,.cel "places" UT false]
noncomputable def OB:List Bd:=[.cel "peg" R9 true,.glo "len",.cel "places" UT false]
noncomputable def OX:List Bd:=[.loc "place" Ba,.cel "peg" R9 false]
noncomputable def Qm:List Bd:=[.loc "peg" Hh]
noncomputable def Ql:List Bd:=[.loc "peg" FV,.glo "len"]
noncomputable def OE:List Bd:=[.loc "peg" R8,.cel "held" Nq false,.cel "kinds" DG false,.cel "pegs" Nj false,.cel "size" Ue false]
noncomputable def SD:List Bd:=[.loc "peg" D8]
noncomputable def S6:List Bd:=[.loc "count" Fc,.glo "max"]
noncomputable def SW:List Bd:=[.loc "peg" D5,.cel "signs" DL false]
theorem Pn (P:PW W) (B:AllOk W):ZB W c5 7 f5b (Yl 23):=
 @Xj _ _ _ _ _ _ _ _ (XI (.inr dk) dk (XV dk))
 (@Xj _ _ _ _ _ _ _ _ (XI (.inl dk) dk (Xn XJ (Xd dk dk) (YV (Xg (XV dk) Xz) (by decide))))
 (@Xj _ _ _ _ _ _ _ _ (Zy dk dk (Yd (ctx':=As) (J3 P.glb dk (P.nob _ dk) rfl (Xn Yk (XH (o:=true) dk dk dk) Xk) Jg Jg) (X2 (Xg (Xn Zk (XV dk) (Xd dk dk)) (Xg (Xn Zk (XV dk) (Xd dk dk)) Xz)) (by decide)) dk))
 (@Xj _ _ _ _ _ _ _ _ (Zy dk dk (Yd (ctx':=OQ) (YA P.glb dk (P.nob _ dk) dk boot_range (.inl ⟨_,rfl⟩) Yv Xk) (LR P B.acc B.reset B.init B.new B.accS dk (by decide) (XH (o:=false) dk dk dk)) dk))
 (@Xj _ _ _ _ _ _ _ _ (Yg (XE Zx (Yd (ctx':=Qg) (XH (o:=true) dk dk dk) (NS P B.acc B.len B.accS B.lenT B.lenF B.lenF2 dk (by decide) (Xd dk dk)) dk) (Xn Zk (YV (Xg (XH (o:=true) dk dk dk) Xz) (by decide)) Xk) rfl) (@Xj _ _ _ _ _ _ _ _ (X9 YK)
 (Xw)) (Xw))
 (@Xj _ _ _ _ _ _ _ _ (XI (.inl dk) dk (Ke P B.lex B.lexNew B.str B.lexS B.tabS B.txt dk dk (by decide) (Xd dk dk)))
 (@Xj _ _ _ _ _ _ _ _ (XI (.inl dk) dk (Ge P B.lex B.lexGet B.lexS B.mGet (by decide) (Xd dk dk)))
 (@Xj _ _ _ _ _ _ _ _ (Y6 dk dk dk dk (X2 (Xg (Lx (Xd dk dk) Xk) (Xg (Lx (Xd dk dk) Xk) Xz)) (by decide)) (by intro env h h0 h1;exact LG h h0 h1 dk rfl rfl rfl rfl rfl))
 (@Xj _ _ _ _ _ _ _ _ (Uk (NM P B.lex B.lexPush B.lexS B.mPush (by decide) (Xd dk dk) (Xd dk dk)))
 (@Xj _ _ _ _ _ _ _ _ (ZU (XW (.inl dk) dk) (YA P.glb dk (P.nob _ dk) dk boot_range (.inl ⟨_,rfl⟩) Yv Xk) (@Xj _ _ _ _ _ _ _ _ (XI (.inl dk) dk (Ge P B.lex B.lexGet B.lexS B.mGet (by decide) (Xd dk dk)))
 (@Xj _ _ _ _ _ _ _ _ (Yg (XE Yi (Xd dk dk) (XV dk) rfl) (Xj Fh
 (Xw)) (Xw))
 (@Xj _ _ _ _ _ _ _ _ (Zy dk dk (Yd (ctx':=Qd) (Xd dk dk) (@Z4 _ _ _ _ _ _ _ _ _ _ _ _ _ GG (XH (o:=false) dk dk dk) (Xd dk dk) (by intro _;rfl) (by rfl) (by intro _;rfl) (by intro _;rfl)) dk))
 (@Xj _ _ _ _ _ _ _ _ (ZU (XW (.inr dk) dk) (YA P.glb dk (P.nob _ dk) dk boot_range (.inl ⟨_,rfl⟩) Yv Xk) (@Xj _ _ _ _ _ _ _ _ (UC dk dk (ctx':=AU) (J3 P.glb dk (P.nob _ dk) rfl (Xn Yk (XH (o:=true) dk dk dk) Xk) Jg Jg) (XE Yi (XG (XH (o:=false) dk dk dk) (Xd dk dk)) (XH (o:=false) dk dk dk) rfl) (XG (XH (o:=false) dk dk dk) (Xd dk dk)) dk)
 (@Xj _ _ _ _ _ _ _ _ (Yg (XE Gf (G9 (XE Zx (Xd dk dk) (YV Xz (by decide)) rfl) (LM P B.acc B.reset B.accS B.mReset (by decide) (XG (XH (o:=true) dk dk dk) (XH (o:=true) dk dk dk)) (Xd dk dk)) (Kd P B.acc B.reset B.accS B.mReset (by decide) (XG (XH (o:=true) dk dk dk) (XH (o:=true) dk dk dk)))) YK rfl) (@Xj _ _ _ _ _ _ _ _ (X9 YK)
 (Xw)) (Xw))
 (Xw))))
 (@Xj _ _ _ _ _ _ _ _ (Zy dk dk (Ro (ctx':=OB) (YA P.glb dk (P.nob _ dk) dk boot_range (.inl ⟨_,rfl⟩) Yv Xk) (YA P.glb dk (P.nob _ dk) dk boot_len (.inr ⟨_,rfl⟩) LS (VX (ctx':=OX) (XH (o:=false) dk dk dk) (XE Yi (Xd dk dk) (XH (o:=false) dk dk dk) rfl) (Xd dk dk) dk)) dk))
 (@Xj _ _ _ _ _ _ _ _ (Yg (Us (XE Zx (Yd (ctx':=Qm) (XH (o:=true) dk dk dk) (UI P B.acc B.accS B.mCount (Xd dk dk)) dk) (XH (o:=true) dk dk dk) rfl) (XE Zx (YA P.glb dk (P.nob _ dk) dk boot_sum (.inr ⟨_,rfl⟩) Hb (Yd (ctx':=Ql) (XH (o:=true) dk dk dk) (NS P B.acc B.len B.accS B.lenT B.lenF B.lenF2 dk (by decide) (Xd dk dk)) dk)) (Xn Zk (XH (o:=true) dk dk dk) (Xn Yk (XH (o:=true) dk dk dk) Xk)) rfl)) (@Xj _ _ _ _ _ _ _ _ (X9 YK)
 (Xw)) (Xw))
 (@Xj _ _ _ _ _ _ _ _ (ZJ dk dk (ctx':=OE) (YA P.glb dk (P.nob _ dk) dk boot_range (.inl ⟨_,rfl⟩) Yv Xk) (Xn Yk (@Z4 _ _ _ _ _ _ _ _ _ _ _ _ _ GG (XH (o:=false) dk dk dk) (Ia P B.acc B.pop B.accS B.mCount B.mPop (by decide) (XG (XH (o:=false) dk dk dk) (Xd dk dk))) (by intro _;rfl) (by rfl) (by intro _;rfl) (by intro _;rfl)) (G9 (XE Bw (XG (XH (o:=false) dk dk dk) (Xd dk dk)) Xk rfl) Xk (XH (o:=false) dk dk dk))) dk)
 (@Xj _ _ _ _ _ _ _ _ (Yg (XE Zx (Yd (ctx':=SD) (XH (o:=true) dk dk dk) (UI P B.acc B.accS B.mCount (Xd dk dk)) dk) (Yd (ctx':=S6) (XH (o:=true) dk dk dk) (Mm P.glb dk (P.nob _ dk) dk boot_max (.inr ⟨_,rfl⟩) HA (Xn Yk (Xd dk dk) Xk) Xk) dk) rfl) (@Xj _ _ _ _ _ _ _ _ (X9 YK)
 (Xw)) (Xw))
 (@Xj _ _ _ _ _ _ _ _ (ZU (XW (.inl dk) dk) (YA P.glb dk (P.nob _ dk) dk boot_range (.inl ⟨_,rfl⟩) Yv Xk) (@Xj _ _ _ _ _ _ _ _ (ZU (XW (.inl dk) dk) (Dv (Xd dk dk) (Xd dk dk)) (@Xj _ _ _ _ _ _ _ _ (XI (.inl dk) dk (FJ (G4 Ii (XG (Xd dk dk) (Xd dk dk)) Xk rfl) (G4 (NL P B.disc B.nf B.mono) (XG (Xd dk dk) (XG (Xd dk dk) (Xd dk dk))) (XG (Xd dk dk) (XG (Xd dk dk) (Xd dk dk))) rfl)))
 (@Xj _ _ _ _ _ _ _ _ (Yg (Tw (XE J4 (Xd dk dk) Gl rfl) (XE J4 (Xd dk dk) Gl rfl)) (@Xj _ _ _ _ _ _ _ _ (X9 YK)
 (Xw)) (Xw))
 (@Xj _ _ _ _ _ _ _ _ (Yg (D9 (Xd dk dk)) (MC P.glb (P.nob _ dk) dk dk dk dk (XH (o:=true) dk dk dk) (Xd dk dk) (XG (Xd dk dk) (Xd dk dk))
 (@Xj _ _ _ _ _ _ _ _ (@XI _ _ _ _ _ _ _ _ _ _ (.inl dk) dk (@Z4 _ _ _ _ _ _ _ _ _ _ _ _ _ Jk (XV dk) (Yd (ctx':=SW) (Xd dk dk) (XG (XH (o:=false) dk dk dk) (Xd dk dk)) dk) (by intro _;rfl) (by rfl) (by intro _;rfl) (by intro _;rfl)) (by intro _;rfl))
 (@Xj _ _ _ _ _ _ _ _ (Yg (XE (RO P.sys) (Xd dk dk) (Xd dk dk) rfl) (@Xj _ _ _ _ _ _ _ _ (YW (ZT (XX (G2 (Xd dk dk) (Xd dk dk)) (XX (G2 (Xd dk dk) (Xd dk dk)) Zf)) rfl) (X2 (Xg (Xn XJ (XG (Xd dk dk) (Xd dk dk)) Xk) (Xg Xk Xz)) (by decide)) (hw:=by intro _ h;exact Wo h rfl))
 (@Xj _ _ _ _ _ _ _ _ (Yg (XE Gf (NM P B.lex B.lexPush B.lexS B.mPush (by decide) (Xd dk dk) (Xd dk dk)) YK rfl) (@Xj _ _ _ _ _ _ _ _ (X9 YK)
 (Xw)) (Xw))
 (Xw))) (Xw))
 (@Xj _ _ _ _ _ _ _ _ (Yg (XE Yi (XG (Xd dk dk) (Xd dk dk)) (Xn XJ (XG (Xd dk dk) (Xd dk dk)) Xk) rfl) (@Xj _ _ _ _ _ _ _ _ (Kc Gp (Xd dk dk) (Xd dk dk) (XG (Xd dk dk) (Xd dk dk)))
 (Xw)) (Xw))
 (Xw))))) (Xw))
 (Xw)))))
 (Xw)))
 (Xw)))))))))))
 (@Xj _ _ _ _ _ _ _ _ (X9 (X2 (Xg (Xd dk dk) (Xg (Xd dk dk) (Xg (Xd dk dk) (Xg (Ge P B.lex B.lexGet B.lexS B.mGet (by decide) (Xd dk dk)) (Xg (Dy P B.lex B.lexS (Xd dk dk)) Xz))))) (by decide)))
 (Xw)))))))))))
theorem CH (P:PW W) (B:AllOk W):JN W 8 f5 "_law_walk":=
 Y2 (ps:=[("text",Wv),("size",Ue),("discs",WG),("turns",IT)]) (L:=6) (i:=23) 11 P (Pn P B) (by kernel_rfl) dk (Po λ__ __ __ __ __ __ __ __ __=>by kernel_rfl) ⟨by kernel_rfl,by kernel_rfl,by kernel_rfl⟩
end
end
section
set_option tactic.hygienic false
set_option maxHeartbeats 4000000
section
noncomputable abbrev V4:Pa:=[false,false]
noncomputable abbrev N0:Pa:=[false,true]
noncomputable abbrev GA:Pa:=[true,false]
noncomputable def OV:Vs:=(.nd (.nd (.lf .unb) (.lf .unb)) (.nd (.lf .unb) (.lf .unb)))
noncomputable def Sq:Ex:=sL [XO (tV GA) (IU ND (Xe GA) 0x3ff0000000000000),
 sIf (X4 Fg (Xe GA) (Xl (.flt 0x3fc5555555555555))) (sL [Yn (Xq Jn (Xe V4) (Xq ZI (Xq ZI (Xq YD (Xe N0) (Xe V4)) (Xe GA)) (Xl (.flt 0x4018000000000000))))]) (sL []),
 sIf (X4 Fg (Xe GA) (Xl (.flt 0x3fe0000000000000))) (sL [Yn (Xe N0)]) (sL []),
 sIf (X4 Fg (Xe GA) (Xl (.flt 0x3fe5555555555555))) (sL [Yn (Xq Jn (Xe V4) (Xq ZI (Xq ZI (Xq YD (Xe N0) (Xe V4)) (Xq YD (Xl (.flt 0x3fe5555555555555)) (Xe GA))) (Xl (.flt 0x4018000000000000))))]) (sL []),
 Yn (Xe V4)]
noncomputable def f10:Fn:=Ji [V4,N0,GA] OV Sq
noncomputable abbrev UB:Pa:=[false,false,false,false]
noncomputable abbrev T0:Pa:=[false,false,false,true]
noncomputable abbrev N5:Pa:=[false,false,true,false]
noncomputable abbrev J8:Pa:=[false,false,true,true]
noncomputable abbrev Nv:Pa:=[false,true,false,false]
noncomputable abbrev Bk:Pa:=[false,true,false,true]
noncomputable abbrev UN:Pa:=[false,true,true,false]
noncomputable abbrev Kz:Pa:=[false,true,true,true]
noncomputable abbrev R4:Pa:=[true,false,false,false]
noncomputable abbrev Bp:Pa:=[true,false,false,true]
noncomputable abbrev MU:Pa:=[true,false,true,false]
noncomputable abbrev M0:Pa:=[true,false,true,true]
noncomputable abbrev GN:Pa:=[true,true,false,false]
noncomputable def Qk:Vs:=(.nd (.nd (.nd (.nd (.lf .unb) (.lf .unb)) (.nd (.lf .unb) (.lf .unb))) (.nd (.nd (.lf .unb) (.lf .unb)) (.nd (.lf .unb) (.lf .unb)))) (.nd (.nd (.nd (.lf .unb) (.lf .unb)) (.nd (.lf .unb) (.lf .unb))) (.nd (.nd (.lf .unb) (.lf .unb)) (.nd (.lf .unb) (.lf .unb)))))
noncomputable def Sn:Ex:=sL [XO (tV J8) (e3 HB (Xe UB) (Xe T0) (Xe N5)),
 XO (tV Nv) (e3 FP (Xe UB) (Xe T0) (Xe N5)),
 XO (tV Bk) (Xq Jn (Xe J8) (Xe Nv)),
 XO (tV UN) (Xq YD (Xe J8) (Xe Nv)),
 XO (tV Kz) (Xq ZS (Xe Bk) (Xl (.flt 0x4000000000000000))),
 sIf (X4 UE (Xe Nv) (Xe J8)) (sL [Yn (YI [Xl (.flt 0x0000000000000000),Xe Kz,Xl (.flt 0x0000000000000000)])]) (sL []),
 sIf (X4 Il (Xe Kz) (Xl (.flt 0x3fe0000000000000))) (sL [XO (tV R4) (Xq ZS (Xe UN) (Xe Bk))]) (sL [XO (tV R4) (Xq ZS (Xe UN) (Xq YD (Xq YD (Xl (.flt 0x4000000000000000)) (Xe J8)) (Xe Nv)))]),
 XO (tV Bp) (Xq ZS (Xq YD (Xe J8) (Xe UB)) (Xe UN)),
 XO (tV MU) (Xq ZS (Xq YD (Xe J8) (Xe T0)) (Xe UN)),
 XO (tV M0) (Xq ZS (Xq YD (Xe J8) (Xe N5)) (Xe UN)),
 sIf (X4 UE (Xe UB) (Xe J8)) (sL [XO (tV GN) (Xq YD (Xe M0) (Xe MU))]) (sL [sIf (X4 UE (Xe T0) (Xe J8)) (sL [XO (tV GN) (Xq YD (Xq Jn (Xl (.flt 0x4000000000000000)) (Xe Bp)) (Xe M0))]) (sL [XO (tV GN) (Xq YD (Xq Jn (Xl (.flt 0x4010000000000000)) (Xe MU)) (Xe Bp))])]),
 XO (tV GN) (IU ND (Xq ZS (Xe GN) (Xl (.flt 0x4018000000000000))) 0x3ff0000000000000),
 Yn (YI [Xe GN,Xe Kz,Xe R4])]
noncomputable def f11:Fn:=Ji [UB,T0,N5] Qk Sn
noncomputable abbrev NA:Pa:=[false,false,false]
noncomputable abbrev Gg:Pa:=[false,false,true]
noncomputable abbrev Tf:Pa:=[false,true,false]
noncomputable abbrev TR:Pa:=[false,true,true]
noncomputable abbrev LH:Pa:=[true,false,false]
noncomputable def Oj:Vs:=(.nd (.nd (.nd (.lf .unb) (.lf .unb)) (.nd (.lf .unb) (.lf .unb))) (.nd (.nd (.lf .unb) (.lf .unb)) (.nd (.lf .unb) (.lf .unb))))
noncomputable def Ao:Ex:=sL [sIf (HU UE (Xe Tf) 0x0000000000000000) (sL [Yn (YI [Xe Gg,Xe Gg,Xe Gg])]) (sL []),
 sIf (X4 Il (Xe Gg) (Xl (.flt 0x3fe0000000000000))) (sL [XO (tV TR) (Xq ZI (Xe Gg) (Xq Jn (Xl (.flt 0x3ff0000000000000)) (Xe Tf)))]) (sL [XO (tV TR) (Xq YD (Xq Jn (Xe Gg) (Xe Tf)) (Xq ZI (Xe Gg) (Xe Tf)))]),
 XO (tV LH) (Xq YD (Xq ZI (Xl (.flt 0x4000000000000000)) (Xe Gg)) (Xe TR)),
 Yn (YI [YN f10 [Xe LH,Xe TR,Xq Jn (Xe NA) (Xl (.flt 0x3fd5555555555555))],YN f10 [Xe LH,Xe TR,Xe NA],YN f10 [Xe LH,Xe TR,Xq YD (Xe NA) (Xl (.flt 0x3fd5555555555555))]])]
noncomputable def f12:Fn:=Ji [NA,Gg,Tf] Oj Ao
noncomputable abbrev Tr:Pa:=[false,false,false,false]
noncomputable abbrev Tb:Pa:=[false,false,false,true]
noncomputable abbrev Ny:Pa:=[false,false,true,false]
noncomputable abbrev J9:Pa:=[false,false,true,true]
noncomputable abbrev BI:Pa:=[false,true,false,false]
noncomputable abbrev NI:Pa:=[false,true,false,true]
noncomputable abbrev BE:Pa:=[false,true,true,false]
noncomputable abbrev F7:Pa:=[false,true,true,true]
noncomputable abbrev BG:Pa:=[true,false,false,false]
noncomputable abbrev Bn:Pa:=[true,false,false,true]
noncomputable abbrev Mo:Pa:=[true,false,true,false]
noncomputable abbrev GU:Pa:=[true,false,true,true]
noncomputable def OG:Vs:=(.nd (.nd (.nd (.nd (.lf .unb) (.lf .unb)) (.nd (.lf .unb) (.lf .unb))) (.nd (.nd (.lf .unb) (.lf .unb)) (.nd (.lf .unb) (.lf .unb)))) (.nd (.nd (.nd (.lf .unb) (.lf .unb)) (.nd (.lf .unb) (.lf .unb))) (.nd (.nd (.lf .unb) (.lf .unb)) (.nd (.lf .unb) (.lf .unb)))))
noncomputable def Aj:Ex:=sL [XO (tV J9) (e3 HB (Xe Tr) (Xe Tb) (Xe Ny)),
 XO (tV BI) (e3 FP (Xe Tr) (Xe Tb) (Xe Ny)),
 XO (tV NI) (Xq YD (Xe J9) (Xe BI)),
 XO (tV BE) (Xe J9),
 sIf (X4 UE (Xe BI) (Xe J9)) (sL [Yn (YI [Xl (.flt 0x0000000000000000),Xl (.flt 0x0000000000000000),Xe BE])]) (sL []),
 XO (tV F7) (Xq ZS (Xe NI) (Xe J9)),
 XO (tV BG) (Xq ZS (Xq YD (Xe J9) (Xe Tr)) (Xe NI)),
 XO (tV Bn) (Xq ZS (Xq YD (Xe J9) (Xe Tb)) (Xe NI)),
 XO (tV Mo) (Xq ZS (Xq YD (Xe J9) (Xe Ny)) (Xe NI)),
 sIf (X4 UE (Xe Tr) (Xe J9)) (sL [XO (tV GU) (Xq YD (Xe Mo) (Xe Bn))]) (sL [sIf (X4 UE (Xe Tb) (Xe J9)) (sL [XO (tV GU) (Xq YD (Xq Jn (Xl (.flt 0x4000000000000000)) (Xe BG)) (Xe Mo))]) (sL [XO (tV GU) (Xq YD (Xq Jn (Xl (.flt 0x4010000000000000)) (Xe Bn)) (Xe BG))])]),
 XO (tV GU) (IU ND (Xq ZS (Xe GU) (Xl (.flt 0x4018000000000000))) 0x3ff0000000000000),
 Yn (YI [Xe GU,Xe F7,Xe BE])]
noncomputable def f13:Fn:=Ji [Tr,Tb,Ny] OG Aj
noncomputable abbrev Ly:Pa:=[false,false,false]
noncomputable abbrev UF:Pa:=[false,false,true]
noncomputable abbrev ZV:Pa:=[false,true,false]
noncomputable abbrev J6:Pa:=[false,true,true]
noncomputable abbrev RU:Pa:=[true,false,false]
noncomputable abbrev Ua:Pa:=[true,false,true]
noncomputable abbrev LJ:Pa:=[true,true,false]
noncomputable abbrev KD:Pa:=[true,true,true]
noncomputable def Qh:Vs:=(.nd (.nd (.nd (.lf .unb) (.lf .unb)) (.nd (.lf .unb) (.lf .unb))) (.nd (.nd (.lf .unb) (.lf .unb)) (.nd (.lf .unb) (.lf .unb))))
noncomputable def SG:Ex:=sL [sIf (HU UE (Xe UF) 0x0000000000000000) (sL [Yn (YI [Xe ZV,Xe ZV,Xe ZV])]) (sL []),
 XO (tV J6) (e1 Hc (Xq ZI (Xe Ly) (Xl (.flt 0x4018000000000000)))),
 XO (tV RU) (Xq YD (Xq ZI (Xe Ly) (Xl (.flt 0x4018000000000000))) (Xe J6)),
 XO (tV Ua) (Xq ZI (Xe ZV) (Xq YD (Xl (.flt 0x3ff0000000000000)) (Xe UF))),
 XO (tV LJ) (Xq ZI (Xe ZV) (Xq YD (Xl (.flt 0x3ff0000000000000)) (Xq ZI (Xe UF) (Xe RU)))),
 XO (tV KD) (Xq ZI (Xe ZV) (Xq YD (Xl (.flt 0x3ff0000000000000)) (Xq ZI (Xe UF) (Xq YD (Xl (.flt 0x3ff0000000000000)) (Xe RU))))),
 XO (tV J6) (Xq Vh (Xe J6) (Xl (.int 6))),
 sIf (X4 cEq (Xe J6) (Xl (.int 0))) (sL [Yn (YI [Xe ZV,Xe KD,Xe Ua])]) (sL []),
 sIf (X4 cEq (Xe J6) (Xl (.int 1))) (sL [Yn (YI [Xe LJ,Xe ZV,Xe Ua])]) (sL []),
 sIf (X4 cEq (Xe J6) (Xl (.int 2))) (sL [Yn (YI [Xe Ua,Xe ZV,Xe KD])]) (sL []),
 sIf (X4 cEq (Xe J6) (Xl (.int 3))) (sL [Yn (YI [Xe Ua,Xe LJ,Xe ZV])]) (sL []),
 sIf (X4 cEq (Xe J6) (Xl (.int 4))) (sL [Yn (YI [Xe KD,Xe Ua,Xe ZV])]) (sL []),
 sIf (X4 cEq (Xe J6) (Xl (.int 5))) (sL [Yn (YI [Xe ZV,Xe Ua,Xe LJ])]) (sL [])]
noncomputable def f14:Fn:=Ji [Ly,UF,ZV] Qh SG
noncomputable abbrev Kl:Pa:=[false,false,false,false,false]
noncomputable abbrev Kw:Pa:=[false,false,false,false,true]
noncomputable abbrev R6:Pa:=[false,false,false,true,false]
noncomputable abbrev Nw:Pa:=[false,false,false,true,true]
noncomputable abbrev LU:Pa:=[false,false,true,false,false]
noncomputable abbrev Va:Pa:=[false,false,true,false,true]
noncomputable abbrev Uu:Pa:=[false,false,true,true,false]
noncomputable abbrev RP:Pa:=[false,false,true,true,true]
noncomputable abbrev Bo:Pa:=[false,true,false,false,false]
noncomputable abbrev BH:Pa:=[false,true,false,false,true]
noncomputable abbrev GY:Pa:=[false,true,false,true,false]
noncomputable abbrev G0:Pa:=[false,true,false,true,true]
noncomputable abbrev GW:Pa:=[false,true,true,false,false]
noncomputable abbrev Mv:Pa:=[false,true,true,false,true]
noncomputable abbrev MN:Pa:=[false,true,true,true,false]
noncomputable abbrev K1:Pa:=[false,true,true,true,true]
noncomputable abbrev RM:Pa:=[true,false,false,false,false]
noncomputable abbrev Rh:Pa:=[true,false,false,false,true]
noncomputable abbrev Ri:Pa:=[true,false,false,true,false]
noncomputable abbrev KJ:Pa:=[true,false,false,true,true]
noncomputable def O5:Vs:=(.nd (.nd (.nd (.nd (.nd (.lf .unb) (.lf .unb)) (.nd (.lf .unb) (.lf .unb))) (.nd (.nd (.lf .unb) (.lf .unb)) (.nd (.lf .unb) (.lf .unb)))) (.nd (.nd (.nd (.lf .unb) (.lf .unb)) (.nd (.lf .unb) (.lf .unb))) (.nd (.nd (.lf .unb) (.lf .unb)) (.nd (.lf .unb) (.lf .unb))))) (.nd (.nd (.nd (.nd (.lf .unb) (.lf .unb)) (.nd (.lf .unb) (.lf .unb))) (.nd (.nd (.lf .unb) (.lf .unb)) (.nd (.lf .unb) (.lf .unb)))) (.nd (.nd (.nd (.lf .unb) (.lf .unb)) (.nd (.lf .unb) (.lf .unb))) (.nd (.nd (.lf .unb) (.lf .unb)) (.nd (.lf .unb) (.lf .unb))))))
noncomputable def S2:Ex:=sL [XO (tV R6) eNl,
 XO (tV Nw) (Yo K1 (Xe Kl) (e1 KH (Yo RM (Xe K1) (Xq M7 (Xe RM) (Xq Mt (Xl (.int 2)) (Xl (.int 30))))))),
 Ku (tV LU) (Xe Kl) (sL [XO (JX 2 [tV Uu,tV Va]) (YI [e1 Cf (Xe LU),e1 Cu (Xe LU)]),
 XO (W8 3 [tV RP,tV Bo,tV BH]) (Yo Rh (Xe LU) (Xq Vr (Xe Rh) (Xl (.int 8)))),
 XO (tV GY) eNl,
 sIf (X4 cNe (Xe Kw) (Xl (.int 2))) (sL [XO (MH 3 [tV G0,tV GW,tV Mv]) (YN f13 [Xe RP,Xe Bo,Xe BH]),
 sIf (eOr (PD (HZ (Xe G0))) (X4 CE (YI [Xe GW,Xe Mv]) (YI [Xq Vr (Xq ZG (Xe Va) (Xe Uu)) (Xe Va),Xq Vr (Xe Va) (Xl (.int 8))]))) (sL [Yn (Xl .none)]) (sL []),
 sEx (Wp (Xe GY) (YN f14 [Xq Jn (Xe G0) (Xq Vr (Xl (.int 1)) (Xl (.int 3))),Xe GW,Xe Mv]))]) (sL []),
 sIf (X4 cNe (Xe Kw) (Xl (.int 1))) (sL [XO (MH 3 [tV G0,tV MN,tV GW]) (YN f11 [Xe RP,Xe Bo,Xe BH]),
 sIf (eOr (PD (HZ (Xe G0))) (X4 CE (YI [Xe MN,Xe GW]) (YI [Xq Vr (Xq TU (Xe Va) (Xe Uu)) (Xl (.int 16)),Xq Vr (Xq ZG (Xe Va) (Xe Uu)) (e2 Pu (Xq XN (Xe Va) (Xe Uu)) (Xq ZG (Xq ZG (Xl (.int 16)) (Xe Va)) (Xe Uu)))]))) (sL [Yn (Xl .none)]) (sL []),
 sEx (Wp (Xe GY) (YN f12 [Xq YD (Xe G0) (Xq Vr (Xl (.int 1)) (Xl (.int 3))),Xe MN,Xe GW]))]) (sL []),
 sEx (Wp (Xe R6) (eFz GY [GY,Nw] Ri (eM IG Ms (Xe Nw) (e1 KH (Yo KJ (Xe Ri) (Xq U6 (e1 Hc (Xq Jn (Xq ZI (Xe KJ) (Xq Mt (Xl (.int 2)) (Xl (.int 34)))) (Xl (.int 1)))) (Xl (.int 2))))))))]),
 Yn (Xe R6)]
noncomputable def f15:Fn:=Ji [Kl,Kw] O5 S2
end
section
variable [iC:Cs] {W:Wd}
structure Flts (W:Wd):Prop where
 third:∃ t,t≠0∧W.mg "ONE_THIRD" = some (.float 0x3fd5555555555555 t)
 sixth:∃ t,t≠0∧W.mg "ONE_SIXTH" = some (.float 0x3fc5555555555555 t)
 two:∃ t,t≠0∧W.mg "TWO_THIRD" = some (.float 0x3fe5555555555555 t)
 booked:NoneBooked W.h₀
noncomputable def c10:List Bd:=[.loc "m1" V4,.loc "m2" N0,.loc "hue" GA,.glo "ONE_SIXTH",.glo "TWO_THIRD"]
theorem WK (P:PW W) (FL:Flts W):ZB W c10 2 Sq (Yl 10):=
 LL (r:=true) (@Xy _ _ _ _ _ _ _ _ _ _ _ (X7 dk dk (Mf (Xr (Xd dk dk))))
 (@Xy _ _ _ _ _ _ _ _ _ _ _ (Zj (ZY Te (Xr (Xd dk dk)) (Xr (Je P.glb dk FL.sixth)) rfl) (@Xy _ _ _ _ _ _ _ _ _ _ _ (YY (XB Zb (Xr (Xd dk dk)) (XB YO (XB YO (XB X8 (Xr (Xd dk dk)) (Xr (Xd dk dk))) (Xr (Xd dk dk))) Yt)))
 (XS)) (XS))
 (@Xy _ _ _ _ _ _ _ _ _ _ _ (Zj (ZY Te (Xr (Xd dk dk)) Yt rfl) (@Xy _ _ _ _ _ _ _ _ _ _ _ (YY (Xr (Xd dk dk)))
 (XS)) (XS))
 (@Xy _ _ _ _ _ _ _ _ _ _ _ (Zj (ZY Te (Xr (Xd dk dk)) (Xr (Je P.glb dk FL.two)) rfl) (@Xy _ _ _ _ _ _ _ _ _ _ _ (YY (XB Zb (Xr (Xd dk dk)) (XB YO (XB YO (XB X8 (Xr (Xd dk dk)) (Xr (Xd dk dk))) (XB X8 (Xr (Je P.glb dk FL.two)) (Xr (Xd dk dk)))) Yt)))
 (XS)) (XS))
 (@Xy _ _ _ _ _ _ _ _ _ _ _ (YY (Xr (Xd dk dk)))
 (XS))))))
theorem Mc (P:PW W) (FL:Flts W):JN W 3 f10 "_v":=
 Y2 (ps:=[("m1",V4),("m2",N0),("hue",GA)]) (L:=2) (i:=10) 3 P (WK P FL) (by kernel_rfl) dk (Rt λ__ __ __ __ __ __ __ __=>by kernel_rfl) ⟨by kernel_rfl,by kernel_rfl,by kernel_rfl⟩
noncomputable def c11:List Bd:=[.loc "r" UB,.loc "g" T0,.loc "b" N5,.loc "maxc" J8,.loc "minc" Nv,.loc "sumc" Bk,.loc "rangec" UN,.loc "l" Kz,.loc "s" R4,.loc "rc" Bp,.loc "gc" MU,.loc "bc" M0,.loc "h" GN,.glo "max",.glo "min"]
theorem IX (P:PW W) (FL:Flts W):ZB W c11 2 Sn (Yl 8):=
 LL (r:=true) (@Xy _ _ _ _ _ _ _ _ _ _ _ (X7 dk dk (Xr (Uo P.glb dk (P.nob _ dk) dk boot_max (.inr ⟨_,rfl⟩) Nu (Xd dk dk) (Xd dk dk) (Xd dk dk))))
 (@Xy _ _ _ _ _ _ _ _ _ _ _ (X7 dk dk (Xr (Uo P.glb dk (P.nob _ dk) dk boot_min (.inr ⟨_,rfl⟩) NP (Xd dk dk) (Xd dk dk) (Xd dk dk))))
 (@Xy _ _ _ _ _ _ _ _ _ _ _ (X7 dk dk (XB Zb (Xr (Xd dk dk)) (Xr (Xd dk dk))))
 (@Xy _ _ _ _ _ _ _ _ _ _ _ (X7 dk dk (XB X8 (Xr (Xd dk dk)) (Xr (Xd dk dk))))
 (@Xy _ _ _ _ _ _ _ _ _ _ _ (X7 dk dk (XB Zc (Xr (Xd dk dk)) Yt))
 (@Xy _ _ _ _ _ _ _ _ _ _ _ (Zj (ZY Jl (Xr (Xd dk dk)) (Xr (Xd dk dk)) rfl) (@Xy _ _ _ _ _ _ _ _ _ _ _ (YY (Zu (XF Yt (XF (Xr (Xd dk dk)) (XF Yt Y5))) (by decide)))
 (XS)) (XS))
 (@Xy _ _ _ _ _ _ _ _ _ _ _ (Zj (ZY KC (Xr (Xd dk dk)) Yt rfl) (@Xy _ _ _ _ _ _ _ _ _ _ _ (X7 dk dk (XB Zc (Xr (Xd dk dk)) (Xr (Xd dk dk))))
 (XS)) (@Xy _ _ _ _ _ _ _ _ _ _ _ (X7 dk dk (XB Zc (Xr (Xd dk dk)) (XB X8 (XB X8 Yt (Xr (Xd dk dk))) (Xr (Xd dk dk)))))
 (XS)))
 (@Xy _ _ _ _ _ _ _ _ _ _ _ (X7 dk dk (XB Zc (XB X8 (Xr (Xd dk dk)) (Xr (Xd dk dk))) (Xr (Xd dk dk))))
 (@Xy _ _ _ _ _ _ _ _ _ _ _ (X7 dk dk (XB Zc (XB X8 (Xr (Xd dk dk)) (Xr (Xd dk dk))) (Xr (Xd dk dk))))
 (@Xy _ _ _ _ _ _ _ _ _ _ _ (X7 dk dk (XB Zc (XB X8 (Xr (Xd dk dk)) (Xr (Xd dk dk))) (Xr (Xd dk dk))))
 (@Xy _ _ _ _ _ _ _ _ _ _ _ (Zj (ZY Jl (Xr (Xd dk dk)) (Xr (Xd dk dk)) rfl) (@Xy _ _ _ _ _ _ _ _ _ _ _ (X7 dk dk (XB X8 (Xr (Xd dk dk)) (Xr (Xd dk dk))))
 (XS)) (@Xy _ _ _ _ _ _ _ _ _ _ _ (Zj (ZY Jl (Xr (Xd dk dk)) (Xr (Xd dk dk)) rfl) (@Xy _ _ _ _ _ _ _ _ _ _ _ (X7 dk dk (XB X8 (XB Zb Yt (Xr (Xd dk dk))) (Xr (Xd dk dk))))
 (XS)) (@Xy _ _ _ _ _ _ _ _ _ _ _ (X7 dk dk (XB X8 (XB Zb Yt (Xr (Xd dk dk))) (Xr (Xd dk dk))))
 (XS)))
 (XS)))
 (@Xy _ _ _ _ _ _ _ _ _ _ _ (X7 dk dk (Mf (XB Zc (Xr (Xd dk dk)) Yt)))
 (@Xy _ _ _ _ _ _ _ _ _ _ _ (YY (Zu (XF (Xr (Xd dk dk)) (XF (Xr (Xd dk dk)) (XF (Xr (Xd dk dk)) Y5))) (by decide)))
 (XS))))))))))))))
theorem Wy (P:PW W) (FL:Flts W):JN W 3 f11 "rgb_to_hls":=
 Y2 (ps:=[("r",UB),("g",T0),("b",N5)]) (L:=4) (i:=8) 1 P (IX P FL) (by kernel_rfl) dk (Rt λ__ __ __ __ __ __ __ __=>by kernel_rfl) ⟨by kernel_rfl,by kernel_rfl,by kernel_rfl⟩
noncomputable def c12:List Bd:=[.loc "h" NA,.loc "l" Gg,.loc "s" Tf,.loc "m2" TR,.loc "m1" LH,.glo "ONE_THIRD",.glo "_v"]
theorem IM (P:PW W) (FL:Flts W):ZB W c12 3 Ao (Yl 9):=
 LL (r:=true) (@Xy _ _ _ _ _ _ _ _ _ _ _ (Zj (Bv (Xr (Xd dk dk))) (@Xy _ _ _ _ _ _ _ _ _ _ _ (YY (Zu (XF (Xr (Xd dk dk)) (XF (Xr (Xd dk dk)) (XF (Xr (Xd dk dk)) Y5))) (by decide)))
 (XS)) (XS))
 (@Xy _ _ _ _ _ _ _ _ _ _ _ (Zj (ZY KC (Xr (Xd dk dk)) Yt rfl) (@Xy _ _ _ _ _ _ _ _ _ _ _ (X7 dk dk (XB YO (Xr (Xd dk dk)) (XB Zb Yt (Xr (Xd dk dk)))))
 (XS)) (@Xy _ _ _ _ _ _ _ _ _ _ _ (X7 dk dk (XB X8 (XB Zb (Xr (Xd dk dk)) (Xr (Xd dk dk))) (XB YO (Xr (Xd dk dk)) (Xr (Xd dk dk)))))
 (XS)))
 (@Xy _ _ _ _ _ _ _ _ _ _ _ (X7 dk dk (XB X8 (XB YO Yt (Xr (Xd dk dk))) (Xr (Xd dk dk))))
 (@Xy _ _ _ _ _ _ _ _ _ _ _ (YY (Zu (XF (UJ P.glb dk (Mc P FL) (XF (Xr (Xd dk dk)) (XF (Xr (Xd dk dk)) (XF (XB Zb (Xr (Xd dk dk)) (Xr (Je P.glb dk FL.third))) Y5)))) (XF (UJ P.glb dk (Mc P FL) (XF (Xr (Xd dk dk)) (XF (Xr (Xd dk dk)) (XF (Xr (Xd dk dk)) Y5)))) (XF (UJ P.glb dk (Mc P FL) (XF (Xr (Xd dk dk)) (XF (Xr (Xd dk dk)) (XF (XB X8 (Xr (Xd dk dk)) (Xr (Je P.glb dk FL.third))) Y5)))) Y5))) (by decide)))
 (XS)))))
theorem I6 (P:PW W) (FL:Flts W):JN W 4 f12 "hls_to_rgb":=
 Y2 (ps:=[("h",NA),("l",Gg),("s",Tf)]) (L:=3) (i:=9) 2 P (IM P FL) (by kernel_rfl) dk (Rt λ__ __ __ __ __ __ __ __=>by kernel_rfl) ⟨by kernel_rfl,by kernel_rfl,by kernel_rfl⟩
noncomputable def c13:List Bd:=[.loc "r" Tr,.loc "g" Tb,.loc "b" Ny,.loc "maxc" J9,.loc "minc" BI,.loc "rangec" NI,.loc "v" BE,.loc "s" F7,.loc "rc" BG,.loc "gc" Bn,.loc "bc" Mo,.loc "h" GU,.glo "max",.glo "min"]
theorem Ws (P:PW W) (FL:Flts W):ZB W c13 2 Aj (Yl 11):=
 LL (r:=true) (@Xy _ _ _ _ _ _ _ _ _ _ _ (X7 dk dk (Xr (Uo P.glb dk (P.nob _ dk) dk boot_max (.inr ⟨_,rfl⟩) Nu (Xd dk dk) (Xd dk dk) (Xd dk dk))))
 (@Xy _ _ _ _ _ _ _ _ _ _ _ (X7 dk dk (Xr (Uo P.glb dk (P.nob _ dk) dk boot_min (.inr ⟨_,rfl⟩) NP (Xd dk dk) (Xd dk dk) (Xd dk dk))))
 (@Xy _ _ _ _ _ _ _ _ _ _ _ (X7 dk dk (XB X8 (Xr (Xd dk dk)) (Xr (Xd dk dk))))
 (@Xy _ _ _ _ _ _ _ _ _ _ _ (X7 dk dk (Xr (Xd dk dk)))
 (@Xy _ _ _ _ _ _ _ _ _ _ _ (Zj (ZY Jl (Xr (Xd dk dk)) (Xr (Xd dk dk)) rfl) (@Xy _ _ _ _ _ _ _ _ _ _ _ (YY (Zu (XF Yt (XF Yt (XF (Xr (Xd dk dk)) Y5))) (by decide)))
 (XS)) (XS))
 (@Xy _ _ _ _ _ _ _ _ _ _ _ (X7 dk dk (XB Zc (Xr (Xd dk dk)) (Xr (Xd dk dk))))
 (@Xy _ _ _ _ _ _ _ _ _ _ _ (X7 dk dk (XB Zc (XB X8 (Xr (Xd dk dk)) (Xr (Xd dk dk))) (Xr (Xd dk dk))))
 (@Xy _ _ _ _ _ _ _ _ _ _ _ (X7 dk dk (XB Zc (XB X8 (Xr (Xd dk dk)) (Xr (Xd dk dk))) (Xr (Xd dk dk))))
 (@Xy _ _ _ _ _ _ _ _ _ _ _ (X7 dk dk (XB Zc (XB X8 (Xr (Xd dk dk)) (Xr (Xd dk dk))) (Xr (Xd dk dk))))
 (@Xy _ _ _ _ _ _ _ _ _ _ _ (Zj (ZY Jl (Xr (Xd dk dk)) (Xr (Xd dk dk)) rfl) (@Xy _ _ _ _ _ _ _ _ _ _ _ (X7 dk dk (XB X8 (Xr (Xd dk dk)) (Xr (Xd dk dk))))
 (XS)) (@Xy _ _ _ _ _ _ _ _ _ _ _ (Zj (ZY Jl (Xr (Xd dk dk)) (Xr (Xd dk dk)) rfl) (@Xy _ _ _ _ _ _ _ _ _ _ _ (X7 dk dk (XB X8 (XB Zb Yt (Xr (Xd dk dk))) (Xr (Xd dk dk))))
 (XS)) (@Xy _ _ _ _ _ _ _ _ _ _ _ (X7 dk dk (XB X8 (XB Zb Yt (Xr (Xd dk dk))) (Xr (Xd dk dk))))
 (XS)))
 (XS)))
 (@Xy _ _ _ _ _ _ _ _ _ _ _ (X7 dk dk (Mf (XB Zc (Xr (Xd dk dk)) Yt)))
 (@Xy _ _ _ _ _ _ _ _ _ _ _ (YY (Zu (XF (Xr (Xd dk dk)) (XF (Xr (Xd dk dk)) (XF (Xr (Xd dk dk)) Y5))) (by decide)))
 (XS)))))))))))))
theorem WO (P:PW W) (FL:Flts W):JN W 3 f13 "rgb_to_hsv":=
 Y2 (ps:=[("r",Tr),("g",Tb),("b",Ny)]) (L:=4) (i:=11) 4 P (Ws P FL) (by kernel_rfl) dk (Rt λ__ __ __ __ __ __ __ __=>by kernel_rfl) ⟨by kernel_rfl,by kernel_rfl,by kernel_rfl⟩
noncomputable def c14:List Bd:=[.loc "h" Ly,.loc "s" UF,.loc "v" ZV,.loc "i" J6,.loc "f" RU,.loc "p" Ua,.loc "q" LJ,.loc "t" KD,.glo "int"]
theorem Wa (P:PW W) (FL:Flts W):ZB W c14 2 SG (Yl 12):=
 LL (r:=true) (@Xy _ _ _ _ _ _ _ _ _ _ _ (Zj (Bv (Xr (Xd dk dk))) (@Xy _ _ _ _ _ _ _ _ _ _ _ (YY (Zu (XF (Xr (Xd dk dk)) (XF (Xr (Xd dk dk)) (XF (Xr (Xd dk dk)) Y5))) (by decide)))
 (XS)) (XS))
 (@Xy _ _ _ _ _ _ _ _ _ _ _ (X7 dk dk (Ae P.glb dk (P.nob _ dk) dk boot_int (.inl ⟨_,rfl⟩) NX (XB YO (Xr (Xd dk dk)) Yt)))
 (@Xy _ _ _ _ _ _ _ _ _ _ _ (X7 dk dk (XB X8 (XB YO (Xr (Xd dk dk)) Yt) (Xr (Xd dk dk))))
 (@Xy _ _ _ _ _ _ _ _ _ _ _ (X7 dk dk (XB YO (Xr (Xd dk dk)) (XB X8 Yt (Xr (Xd dk dk)))))
 (@Xy _ _ _ _ _ _ _ _ _ _ _ (X7 dk dk (XB YO (Xr (Xd dk dk)) (XB X8 Yt (XB YO (Xr (Xd dk dk)) (Xr (Xd dk dk))))))
 (@Xy _ _ _ _ _ _ _ _ _ _ _ (X7 dk dk (XB YO (Xr (Xd dk dk)) (XB X8 Yt (XB YO (Xr (Xd dk dk)) (XB X8 Yt (Xr (Xd dk dk)))))))
 (@Xy _ _ _ _ _ _ _ _ _ _ _ (X7 dk dk (Xr (Xn YM (Xd dk dk) Xk)))
 (@Xy _ _ _ _ _ _ _ _ _ _ _ (Zj (NO (XE Yi (Xd dk dk) Xk rfl)) (@Xy _ _ _ _ _ _ _ _ _ _ _ (YY (Zu (XF (Xr (Xd dk dk)) (XF (Xr (Xd dk dk)) (XF (Xr (Xd dk dk)) Y5))) (by decide)))
 (XS)) (XS))
 (@Xy _ _ _ _ _ _ _ _ _ _ _ (Zj (NO (XE Yi (Xd dk dk) Xk rfl)) (@Xy _ _ _ _ _ _ _ _ _ _ _ (YY (Zu (XF (Xr (Xd dk dk)) (XF (Xr (Xd dk dk)) (XF (Xr (Xd dk dk)) Y5))) (by decide)))
 (XS)) (XS))
 (@Xy _ _ _ _ _ _ _ _ _ _ _ (Zj (NO (XE Yi (Xd dk dk) Xk rfl)) (@Xy _ _ _ _ _ _ _ _ _ _ _ (YY (Zu (XF (Xr (Xd dk dk)) (XF (Xr (Xd dk dk)) (XF (Xr (Xd dk dk)) Y5))) (by decide)))
 (XS)) (XS))
 (@Xy _ _ _ _ _ _ _ _ _ _ _ (Zj (NO (XE Yi (Xd dk dk) Xk rfl)) (@Xy _ _ _ _ _ _ _ _ _ _ _ (YY (Zu (XF (Xr (Xd dk dk)) (XF (Xr (Xd dk dk)) (XF (Xr (Xd dk dk)) Y5))) (by decide)))
 (XS)) (XS))
 (@Xy _ _ _ _ _ _ _ _ _ _ _ (Zj (NO (XE Yi (Xd dk dk) Xk rfl)) (@Xy _ _ _ _ _ _ _ _ _ _ _ (YY (Zu (XF (Xr (Xd dk dk)) (XF (Xr (Xd dk dk)) (XF (Xr (Xd dk dk)) Y5))) (by decide)))
 (XS)) (XS))
 (@Xy _ _ _ _ _ _ _ _ _ _ _ (Zj (NO (XE Yi (Xd dk dk) Xk rfl)) (@Xy _ _ _ _ _ _ _ _ _ _ _ (YY (Zu (XF (Xr (Xd dk dk)) (XF (Xr (Xd dk dk)) (XF (Xr (Xd dk dk)) Y5))) (by decide)))
 (XS)) (XS))
 (XS))))))))))))))
theorem IC (P:PW W) (FL:Flts W):JN W 3 f14 "hsv_to_rgb":=
 Y2 (ps:=[("h",Ly),("s",UF),("v",ZV)]) (L:=3) (i:=12) 5 P (Wa P FL) (by kernel_rfl) dk (Rt λ__ __ __ __ __ __ __ __=>by kernel_rfl) ⟨by kernel_rfl,by kernel_rfl,by kernel_rfl⟩
noncomputable def AS:List Bd:=[.loc "told" GY,.cel "wide" Nw true]
noncomputable def c15:List Bd:=[.loc "paints" Kl,.loc "mode" Kw,.loc "turns" R6,.cel "wide" Nw true,.loc "paint" LU,.loc "high" Va,.loc "low" Uu,.loc "red" RP,.loc "green" Bo,.loc "blue" BH,.loc "told" GY,.loc "hue" G0,.loc "share" GW,.loc "level" Mv,.loc "light" MN,.glo "hls_to_rgb",.glo "hsv_to_rgb",.glo "max",.glo "min",.glo "rgb_to_hls",.glo "rgb_to_hsv"]
noncomputable def Sw:List Bd:=[.loc "paint" K1,.glo "tuple"]
noncomputable def S4:List Bd:=[.loc "part" RM]
noncomputable def SU:List Bd:=[.loc "part" Rh]
noncomputable def PY:List Bd:=[.loc "colour" Ri,.glo "tuple",.cel "wide" Nw false]
noncomputable def S0:List Bd:=[.loc "part" KJ,.glo "int"]
theorem W5 (P:PW W) (FL:Flts W):ZB W c15 6 S2 (Yl 22):=
 @Xj _ _ _ _ _ _ _ _ (XI (.inl dk) dk Bs)
 (@Xj _ _ _ _ _ _ _ _ (Zy dk dk (Yd (ctx':=Sw) (Xd dk dk) (YA P.glb dk (P.nob _ dk) dk boot_tuple (.inl ⟨_,rfl⟩) T2 (Yd (ctx':=S4) (Xd dk dk) (Xn Zk (Xd dk dk) (Xn Jc Xk Xk)) dk)) dk))
 (@Xj _ _ _ _ _ _ _ _ (ZU (XW (.inl dk) dk) (Xd dk dk) (@Xj _ _ _ _ _ _ _ _ (Y6 dk dk dk dk (X2 (Xg (YA P.glb dk (P.nob _ dk) dk boot_max (.inr ⟨_,rfl⟩) Di (Xd dk dk)) (Xg (YA P.glb dk (P.nob _ dk) dk boot_min (.inr ⟨_,rfl⟩) DU (Xd dk dk)) Xz)) (by decide)) (by intro env h h0 h1;exact LG h h0 h1 dk rfl rfl rfl rfl rfl))
 (@Xj _ _ _ _ _ _ _ _ (YW (Dz (XX (XW (.inl dk) dk) (XX (XW (.inl dk) dk) (XX (XW (.inl dk) dk) Zf))) rfl) (Yd (ctx':=SU) (Xd dk dk) (V2 (XB JB (Xr (Xd dk dk)) ge_int)) dk) (hw:=by intro _ _;rfl))
 (@Xj _ _ _ _ _ _ _ _ (XI (.inl dk) dk Bs)
 (@Xj _ _ _ _ _ _ _ _ (Yg (XE Zx (Xd dk dk) Xk rfl) (@Xj _ _ _ _ _ _ _ _ (YW (ZT (XX (XW (.inl dk) dk) (XX (XW (.inl dk) dk) (XX (XW (.inl dk) dk) Zf))) rfl) (XY P.glb dk (WO P FL) (Xg (Xd dk dk) (Xg (Xd dk dk) (Xg (Xd dk dk) Xz)))) (hw:=by intro _ _;rfl))
 (@Xj _ _ _ _ _ _ _ _ (Yg (Us (LB (No (Xd dk dk))) (XE (Kn FL.booked) (X2 (Xg (Xd dk dk) (Xg (Xd dk dk) Xz)) (by decide)) (X2 (Xg (V2 (XB JB (XB R1 (Xr (Xd dk dk)) (Xr (Xd dk dk))) (Xr (Xd dk dk)))) (Xg (V2 (XB JB (Xr (Xd dk dk)) ge_int)) Xz)) (by decide)) rfl)) (@Xj _ _ _ _ _ _ _ _ (X9 YK)
 (Xw)) (Xw))
 (@Xj _ _ _ _ _ _ _ _ (Uk (Ta (Xd dk dk) (XY P.glb dk (IC P FL) (Xg (V2 (XB Zb (Xr (Xd dk dk)) (XB JB ge_int ge_int))) (Xg (Xd dk dk) (Xg (Xd dk dk) Xz))))))
 (Xw)))) (Xw))
 (@Xj _ _ _ _ _ _ _ _ (Yg (XE Zx (Xd dk dk) Xk rfl) (@Xj _ _ _ _ _ _ _ _ (YW (ZT (XX (XW (.inl dk) dk) (XX (XW (.inl dk) dk) (XX (XW (.inl dk) dk) Zf))) rfl) (XY P.glb dk (Wy P FL) (Xg (Xd dk dk) (Xg (Xd dk dk) (Xg (Xd dk dk) Xz)))) (hw:=by intro _ _;rfl))
 (@Xj _ _ _ _ _ _ _ _ (Yg (Us (LB (No (Xd dk dk))) (XE (Kn FL.booked) (X2 (Xg (Xd dk dk) (Xg (Xd dk dk) Xz)) (by decide)) (X2 (Xg (V2 (XB JB (XB W6 (Xr (Xd dk dk)) (Xr (Xd dk dk))) ge_int)) (Xg (V2 (XB JB (XB R1 (Xr (Xd dk dk)) (Xr (Xd dk dk))) (Xr (Mm P.glb dk (P.nob _ dk) dk boot_min (.inr ⟨_,rfl⟩) Kf (Xn XJ (Xd dk dk) (Xd dk dk)) (Xn Yk (Xn Yk Xk (Xd dk dk)) (Xd dk dk)))))) Xz)) (by decide)) rfl)) (@Xj _ _ _ _ _ _ _ _ (X9 YK)
 (Xw)) (Xw))
 (@Xj _ _ _ _ _ _ _ _ (Uk (Ta (Xd dk dk) (XY P.glb dk (I6 P FL) (Xg (V2 (XB X8 (Xr (Xd dk dk)) (XB JB ge_int ge_int))) (Xg (Xd dk dk) (Xg (Xd dk dk) Xz))))))
 (Xw)))) (Xw))
 (@Xj _ _ _ _ _ _ _ _ (Uk (Ta (Xd dk dk) (Lf (ctx0:=AS) (ctx':=PY) dk dk dk dk dk (@Z4 _ _ _ _ _ _ _ _ _ _ _ _ _ GG (XH (o:=false) dk dk dk) (YA P.glb dk (P.nob _ dk) dk boot_tuple (.inl ⟨_,rfl⟩) T2 (Yd (ctx':=S0) (Xd dk dk) (Xn ZM (YA P.glb dk (P.nob _ dk) dk boot_int (.inl ⟨_,rfl⟩) NX (V2 (XB Zb (XB YO (Xr (Xd dk dk)) (XB Pk ge_int ge_int)) ge_int))) Xk) dk)) (by intro _;rfl) (by rfl) (by intro _;rfl) (by intro _;rfl)) dk)))
 (Xw))))))))
 (@Xj _ _ _ _ _ _ _ _ (X9 (Xd dk dk))
 (Xw))))
theorem Iw (P:PW W) (FL:Flts W):JN W 7 f15 "_law_turns":=
 Y2 (ps:=[("paints",Kl),("mode",Kw)]) (L:=5) (i:=22) 10 P (W5 P FL) (by kernel_rfl) dk (CY λ__ __ __ __ __ __ __=>by kernel_rfl) ⟨by kernel_rfl,by kernel_rfl,by kernel_rfl⟩
end
end
section
set_option tactic.hygienic false
set_option maxHeartbeats 4000000
section
variable [iO:Own]
noncomputable abbrev N4:Pa:=[false,false,false,false,false]
noncomputable abbrev Gz:Pa:=[false,false,false,false,true]
noncomputable abbrev UZ:Pa:=[false,false,false,true,false]
noncomputable abbrev Bi:Pa:=[false,false,false,true,true]
noncomputable abbrev BK:Pa:=[false,false,true,false,false]
noncomputable abbrev NN:Pa:=[false,false,true,false,true]
noncomputable abbrev N6:Pa:=[false,false,true,true,false]
noncomputable abbrev Nm:Pa:=[false,false,true,true,true]
noncomputable abbrev Nz:Pa:=[false,true,false,false,false]
noncomputable abbrev LC:Pa:=[false,true,false,false,true]
noncomputable abbrev MY:Pa:=[false,true,false,true,false]
noncomputable abbrev Mn:Pa:=[false,true,false,true,true]
noncomputable abbrev GM:Pa:=[false,true,true,false,false]
noncomputable abbrev GI:Pa:=[false,true,true,false,true]
noncomputable abbrev MF:Pa:=[false,true,true,true,false]
noncomputable abbrev Rv:Pa:=[false,true,true,true,true]
noncomputable abbrev K6:Pa:=[true,false,false,false,false]
noncomputable abbrev RK:Pa:=[true,false,false,false,true]
noncomputable abbrev Td:Pa:=[true,false,false,true,false]
noncomputable abbrev K0:Pa:=[true,false,false,true,true]
noncomputable def O9:Vs:=(.nd (.nd (.nd (.nd (.nd (.lf .unb) (.lf .unb)) (.nd (.lf .unb) (.lf .unb))) (.nd (.nd (.lf .unb) (.lf .unb)) (.nd (.lf .unb) (.lf .unb)))) (.nd (.nd (.nd (.lf .unb) (.lf .unb)) (.nd (.lf .unb) (.lf .unb))) (.nd (.nd (.lf .unb) (.lf .unb)) (.nd (.lf .unb) (.lf .unb))))) (.nd (.nd (.nd (.nd (.lf .unb) (.lf .unb)) (.nd (.lf .unb) (.lf .unb))) (.nd (.nd (.lf .unb) (.lf .unb)) (.nd (.lf .unb) (.lf .unb)))) (.nd (.nd (.nd (.lf .unb) (.lf .unb)) (.nd (.lf .unb) (.lf .unb))) (.nd (.nd (.lf .unb) (.lf .unb)) (.nd (.lf .unb) (.lf .unb))))))
noncomputable def lw0:Ex:=XO (tV Gz) (Xq XN (Yo Rv (Rw (Xe N4)) (Xq Za (Xe Rv) (Xl (.int 1000000)))) (HN (JM [Xl (.int 2),Xl (.int 26),Xl (.int 0),Xl (.int 7)]) (e1 fLen (Xe N4))))
noncomputable def lw1:Ex:=XO (JX 2 [tV Bi,tV UZ]) (YI [Xq RX (Xl (.int 2)) (Xq Za (YB (Xe Gz) (Xl (.int 0))) (Xl (.int 2))),Xq Za (YB (Xe Gz) (Xl (.int 2))) (Xl (.int 3))])
noncomputable def lw2:Ex:=XO (tV BK) (Yo K6 (e1 Zl (Xe UZ)) (Xq Za (Xq ZH (Xq ZH (YB (Xe Gz) (Xl (.int 0))) (Xl (.int 2))) (Xq Mt (Xl (.int 3)) (Xe K6))) (Xl (.int 3))))
noncomputable def lw3:Ex:=XO (MH 3 [tV NN,tV N6,tV Nm]) (YN f3 [YB (Xe Gz) (Xl (.int 1))])
noncomputable def lw4:Ex:=XO (tV Nz) (YN f15 [JM [YI [Xe NN,Xe N6,Xe Nm],YI [Xe Nm,Xe NN,Xe N6],YI [Xe N6,Xe Nm,Xe NN]],Xe Bi])
noncomputable def lw5:Ex:=XO (MH 2 [tV LC,tV MY]) (YI [Xq Za (Xq ZH (YB (Xe Gz) (Xl (.int 2))) (Xl (.int 3))) (Xe UZ),Xq RX (Xl (.int 1)) (Xq Za (Xq ZH (YB (Xe Gz) (Xl (.int 2))) (Xl (.int 9))) (Xl (.int 600)))])
noncomputable def lw6:Ex:=XO (tV Mn) (Yo RK (e1 Zl (Xe UZ)) (YN RY [Xq RX (Xl (.int 500)) (Xq Cl (Xq Fo (Xe RK) (Xe LC)) (Xe MY))]))
noncomputable def lw7:Ex:=sIf (eOr (X4 Bb (Xe Nz) (Xl .none)) (X4 cNe (Vb Td (Xe Mn) (X4 Un (X4 cLt (Xe Td) (Xe Td)) (Xl (.bool false))) (Xe Td)) (JM []))) (sL [Yn (Xl (.bool false))]) (sL [])
noncomputable def lw8:Ex:=XO (MH 2 [tV GM,tV GI]) (YN f2 [Xe BK,Xe UZ,Xe Bi])
noncomputable def lw9:Ex:=XO (tV MF) (S8 f4 [eM isStr ZR (Xl (.str [])) (Yo K0 (Xe BK) (YB (Xl (.str [34,92,35])) (Xe K0))),YB (Xe Gz) (Xl (.int 3))])
noncomputable def Vo:Ex:=Yn (X4 Sp (YN f5 [Xe MF,Xe UZ,Xe Mn,Xe Nz]) (YI [Xe GM,Xe GI,Xl (.str [46]),Xl (.str []),Hw (Xe MF)]))
noncomputable def SJ (N1 N2:KS):Ex:=sL [lw0,lw1,lw2,lw3,Uc N1 lw4,lw5,lw6,lw7,Uc N2 lw8,lw9,Vo]
noncomputable def f16 (N1 N2:KS):Fn:=Ji [N4] O9 (SJ N1 N2)
end
section
variable [iO:Own] [iA:OwnA] [iL:OwnL] [iX:OwnX] {W:Wd}
noncomputable def c16:List Bd:=[.loc "script" N4,.cel "cells" Gz true,.loc "size" UZ,.loc "mode" Bi,.loc "start" BK,.loc "red" NN,.loc "green" N6,.loc "blue" Nm,.loc "turns" Nz,.cel "own" LC true,.cel "step" MY true,.loc "discs" Mn,.loc "far" GM,.loc "many" GI,.loc "text" MF,.glo "_law_paint",.glo "_law_text",.glo "_law_told",.glo "_law_turns",.glo "_law_walk",.glo "len",.glo "range"]
noncomputable def SI:List Bd:=[.loc "x" Rv]
noncomputable def SO:List Bd:=[.loc "k" K6,.cel "cells" Gz false]
noncomputable def P7:List Bd:=[.loc "k" RK,.glo "_law_disc",.cel "own" LC false,.cel "step" MY false]
noncomputable def SP:List Bd:=[.loc "disc" Td]
noncomputable def S3:List Bd:=[.loc "peg" K0]
structure LawOk (W:Wd):Prop where
 disc:JN W 3 RY "_law_disc"
 ct:TxtCt
 tx:TxtMk
theorem Wk (P:PW W) (B:AllOk W) (FL:Flts W) (BB:LawOk W) (N1 N2:KS):ZB W c16 9 (SJ N1 N2) (Yl 27):=
 @Xj _ _ _ _ _ _ _ _ (XI (.inr dk) dk (Xn XJ (Yd (ctx':=SI) (KG (Xd dk dk)) (Xn ZO (Xd dk dk) Xk) dk) (BQ (YV (Xg Xk (Xg Xk (Xg Xk (Xg Xk Xz)))) (by decide)) (YA P.glb dk (P.nob _ dk) dk boot_len (.inr ⟨_,rfl⟩) LS (Xd dk dk)))))
 (@Xj _ _ _ _ _ _ _ _ (Y6 dk dk dk dk (X2 (Xg (Xn VN Xk (Xn ZO (XG (XH (o:=true) dk dk dk) Xk) Xk)) (Xg (Xn ZO (XG (XH (o:=true) dk dk dk) Xk) Xk) Xz)) (by decide)) (by intro env h h0 h1;exact LG h h0 h1 dk rfl rfl rfl rfl rfl))
 (@Xj _ _ _ _ _ _ _ _ (ZJ dk dk (ctx':=SO) (YA P.glb dk (P.nob _ dk) dk boot_range (.inl ⟨_,rfl⟩) Yv (Xd dk dk)) (Xn ZO (Xn Js (Xn Js (XG (XH (o:=false) dk dk dk) Xk) Xk) (Xn Jc Xk (Xd dk dk))) Xk) dk)
 (@Xj _ _ _ _ _ _ _ _ (YW (ZT (XX (XW (.inl dk) dk) (XX (XW (.inl dk) dk) (XX (XW (.inl dk) dk) Zf))) rfl) (XY P.glb dk (CB P) (Xg (XG (XH (o:=true) dk dk dk) Xk) Xz)) (hw:=by intro _ _;rfl))
 (@Xj _ _ _ _ _ _ _ _ (LP (XI (.inl dk) dk (XY P.glb dk (Iw P FL) (Xg (YV (Xg (X2 (Xg (Xd dk dk) (Xg (Xd dk dk) (Xg (Xd dk dk) Xz))) (by decide)) (Xg (X2 (Xg (Xd dk dk) (Xg (Xd dk dk) (Xg (Xd dk dk) Xz))) (by decide)) (Xg (X2 (Xg (Xd dk dk) (Xg (Xd dk dk) (Xg (Xd dk dk) Xz))) (by decide)) Xz))) (by decide)) (Xg (Xd dk dk) Xz)))))
 (@Xj _ _ _ _ _ _ _ _ (MD (p:=LC) dk (ZT (XX (XW (.inr dk) dk) (XX (XW (.inr dk) dk) Zf)) rfl) (X2 (Xg (Xn ZO (Xn Js (XG (XH (o:=true) dk dk dk) Xk) Xk) (Xd dk dk)) (Xg (Xn VN Xk (Xn ZO (Xn Js (XG (XH (o:=true) dk dk dk) Xk) Xk) Xk)) Xz)) (by decide)))
 (@Xj _ _ _ _ _ _ _ _ (ZJ dk dk (ctx':=P7) (YA P.glb dk (P.nob _ dk) dk boot_range (.inl ⟨_,rfl⟩) Yv (Xd dk dk)) (XY P.glb dk BB.disc (Xg (Xn VN Xk (Xn DJ (Xn De (Xd dk dk) (XH (o:=false) dk dk dk)) (XH (o:=false) dk dk dk))) Xz)) dk)
 (@Xj _ _ _ _ _ _ _ _ (Yg (Us (XE Lz (Xd dk dk) YK rfl) (XE Zx (VX (ctx':=SP) (Xd dk dk) (XE J4 (G4 (NL P B.disc B.nf B.mono) (Xd dk dk) (Xd dk dk) rfl) Gl rfl) (Xd dk dk) dk) (YV Xz (by decide)) rfl)) (@Xj _ _ _ _ _ _ _ _ (X9 Gl)
 (Xw)) (Xw))
 (@Xj _ _ _ _ _ _ _ _ (LP (YW (ZT (XX (XW (.inl dk) dk) (XX (XW (.inl dk) dk) Zf)) rfl) (XY P.glb dk (PJ P) (Xg (Xd dk dk) (Xg (Xd dk dk) (Xg (Xd dk dk) Xz)))) (hw:=by intro _ _;rfl)))
 (@Xj _ _ _ _ _ _ _ _ (XI (.inl dk) dk (Fx BB.tx (XY P.glb dk (CZ P) (Xg (@Z4 _ _ _ _ _ _ _ _ _ _ _ _ _ Jk (XV dk) (Yd (ctx':=S3) (Xd dk dk) (XG (XV dk) (Xd dk dk)) dk) (by intro _;rfl) (by rfl) (by intro _;rfl) (by intro _;rfl)) (Xg (XG (XH (o:=true) dk dk dk) Xk) Xz)))))
 (@Xj _ _ _ _ _ _ _ _ (X9 (G4 (Fj P.sys) (XY P.glb dk (CH P B) (Xg (Xd dk dk) (Xg (Xd dk dk) (Xg (Xd dk dk) (Xg (Xd dk dk) Xz))))) (X2 (Xg (Xd dk dk) (Xg (Xd dk dk) (Xg (XV dk) (Xg (XV dk) (Xg (K4 BB.ct (Xd dk dk)) Xz))))) (by decide)) rfl))
 (Xw)))))))))))
theorem WJ (P:PW W) (B:AllOk W) (FL:Flts W) (BB:LawOk W) (N1 N2:KS):JN W 10 (f16 N1 N2) "law":=
 Y2 (ps:=[("script",N4)]) (L:=5) (i:=27) 15 P (Wk P B FL BB N1 N2) (by kernel_rfl) dk (C8 λ__ __ __ __ __ __=>by kernel_rfl) ⟨by kernel_rfl,by kernel_rfl,by kernel_rfl⟩
end
end
section
set_option tactic.hygienic false
set_option maxHeartbeats 4000000
noncomputable def TT (a0 a1 a2 a3 a4 a5 a6 a7 a8 a9 a10 a11 a12 a13 a14:MV):Vs:=
 .nd (.nd (.nd (.nd (.nd (.lf a0) (.lf a1)) (.nd (.lf a2) (.lf a3))) (.nd (.nd (.lf a4) (.lf a5)) (.nd (.lf a6) (.lf a7))))
  (.nd (.nd (.nd (.lf a8) (.lf a9)) (.nd (.lf a10) (.lf a11))) (.nd (.nd (.lf a12) (.lf a13)) (.nd (.lf a14) (.lf .unb)))))
  (.nd (.nd (.nd (.nd (.lf .unb) (.lf .unb)) (.nd (.lf .unb) (.lf .unb))) (.nd (.nd (.lf .unb) (.lf .unb)) (.nd (.lf .unb) (.lf .unb))))
  (.nd (.nd (.nd (.lf .unb) (.lf .unb)) (.nd (.lf .unb) (.lf .unb))) (.nd (.nd (.lf .unb) (.lf .unb)) (.nd (.lf .unb) (.lf .unb)))))
noncomputable def md (x:Int):MV:=.int (Int.fmod x 1000000)
section
variable [iO:Own] {h:H} {n b c:KS} {r:K}
noncomputable abbrev u:MV:=.unb
theorem Pp:lw0 (TT (.seq true []) u u u u u u u u u u u u u u) h n b c r=n (TT (.seq true []) (.seq true [.int 2,.int 26,.int 0,.int 7]) u u u u u u u u u u u u u) h:=by kernel_rfl
theorem Py (x:Int):lw0 (TT (.seq true [.int x]) u u u u u u u u u u u u u u) h n b c r=n (TT (.seq true [.int x]) (.seq true [md x,.int 26,.int 0,.int 7]) u u u u u u u u u u u u u) h:=by kernel_rfl
theorem Pv (x y:Int):lw0 (TT (.seq true [.int x,.int y]) u u u u u u u u u u u u u u) h n b c r=n (TT (.seq true [.int x,.int y]) (.seq true [md x,md y,.int 0,.int 7]) u u u u u u u u u u u u u) h:=by kernel_rfl
theorem CR (x y z:Int):lw0 (TT (.seq true [.int x,.int y,.int z]) u u u u u u u u u u u u u u) h n b c r=n (TT (.seq true [.int x,.int y,.int z]) (.seq true [md x,md y,md z,.int 7]) u u u u u u u u u u u u u) h:=by kernel_rfl
theorem HL {m:Ev} {xs:List MV} (hf:Yr xs=true) {k:K} {vs:Vs} (hm:∀ k,m vs h k=k (.seq true xs) h):Rw m vs h k=k (.seq true (BJ 4 xs)) h:=by
 show m vs h _=_
 rw [hm]
 show ifB (Yr xs) _ _=_
 rw [hf];rfl
theorem IB {xs:List MV} (hf:Yr xs=true) {k:K}:fLen (.seq true xs) h k=k (.int (.ofNat (len xs))) h:=by
 show ifB (Yr xs) _ _=_
 rw [hf];rfl
theorem FX {xs:List MV} {p:Pa} {vs:Vs} (hf:Yr xs=true) (hg:Yb vs p=.seq true xs) {h:H} {k:K} :
  HN (JM [Xl (.int 2),Xl (.int 26),Xl (.int 0),Xl (.int 7)]) (e1 fLen (Xe p)) vs h k=k (.seq true (UK (len xs) [.int 2,.int 26,.int 0,.int 7])) h:=by
 show Xe p vs h (λx h1=>fLen x h1 λy h2=>match y with | .int (.ofNat n)=>k (.seq true (UK n [.int 2,.int 26,.int 0,.int 7])) h2 | _=>False)=_
 unfold Xe
 rw [hg]
 exact IB hf
theorem PV (x y z w:Int) (l:List MV) (hf:Yr (.int x :: .int y :: .int z :: .int w :: l)=true):lw0 (TT (.seq true (.int x :: .int y :: .int z :: .int w :: l)) u u u u u u u u u u u u u u) h n b c r=n (TT (.seq true (.int x :: .int y :: .int z :: .int w :: l)) (.seq true [md x,md y,md z,md w]) u u u u u u u u u u u u u) h:=by
 unfold lw0 XO
 simp only [Xq,Yo]
 rw [HL hf (λk=>rfl)]
 simp only [FX (p:=N4) (vs:=TT (.seq true (.int x :: .int y :: .int z :: .int w :: l)) u u u u u u u u u u u u u u) hf rfl]
 have e:UK (len (MV.int x :: MV.int y :: MV.int z :: MV.int w :: l)) [.int 2,.int 26,.int 0,.int 7]=[]:=by
  rw [U5,Yh]
  exact List.drop_eq_nil_of_le (by simp)
 rw [e]
 kernel_rfl
end
end
section
set_option tactic.hygienic false
set_option maxHeartbeats 4000000
section
noncomputable def SX:Ex:=sL [XO (JX 3 [tV ME,tV Tm,tV MQ]) (YI [Xq Za (Xe M3) (Xl (.int 9)),Xq Za (Xq ZH (Xe M3) (Xl (.int 9))) (Xl (.int 9)),Xq Za (Xq ZH (Xe M3) (Xl (.int 81))) (Xl (.int 9))]),
 sIf (Rm (X4 cEq (Xe MQ) (Xe Tm)) (X4 cEq (Xe Tm) (Xe ME))) (sL [Yn (YI [Xe MQ,Xe Tm,Xq Za (Xq XN (Xe ME) (Xl (.int 1))) (Xl (.int 9))])]) (sL []),
 Yn (YI [Xe MQ,Xe Tm,Xe ME])]
noncomputable def pe (a b d:Int):Int:=@Bool.rec (λ__=>Int) d (Int.fmod (d+1) 9) (eqI a b&&eqI b d)
end
section
variable [iO:Own] {h:H} {n b c:KS} {r:K} {xs c0 c1 c2 c3:Int} {s:MV}
noncomputable abbrev CC (c0 c1 c2 c3:Int):MV:=.seq true [.int c0,.int c1,.int c2,.int c3]
theorem Sj:lw1 (TT s (CC c0 c1 c2 c3) u u u u u u u u u u u u u) h n b c r=n (TT s (CC c0 c1 c2 c3) (.int (2+Int.fmod c0 2)) (.int (Int.fmod c2 3)) u u u u u u u u u u u) h:=by kernel_rfl
noncomputable abbrev dg (c0:Int) (k:Nat):Int:=Int.fmod (Int.fdiv (Int.fdiv c0 2) (3 ^ k)) 3
theorem Pq {m:MV}:lw2 (TT s (CC c0 c1 c2 c3) (.int 2) m u u u u u u u u u u u) h n b c r=n (TT s (CC c0 c1 c2 c3) (.int 2) m (.seq true [.int (dg c0 0),.int (dg c0 1)]) u u u u u u u u u u) h:=by kernel_rfl
theorem CU {m:MV}:lw2 (TT s (CC c0 c1 c2 c3) (.int 3) m u u u u u u u u u u u) h n b c r=n (TT s (CC c0 c1 c2 c3) (.int 3) m (.seq true [.int (dg c0 0),.int (dg c0 1),.int (dg c0 2)]) u u u u u u u u u u) h:=by kernel_rfl
theorem PB {m st r0 g0 b0 t:MV}:lw5 (TT s (CC c0 c1 c2 c3) (.int 2) m st r0 g0 b0 t u u u u u u) h n b c r=n (TT s (CC c0 c1 c2 c3) (.int 2) m st r0 g0 b0 t (.int (Int.fmod (Int.fdiv c2 3) 2)) (.int (1+Int.fmod (Int.fdiv c2 9) 600)) u u u u) h:=by kernel_rfl
theorem Pb {m st r0 g0 b0 t:MV}:lw5 (TT s (CC c0 c1 c2 c3) (.int 3) m st r0 g0 b0 t u u u u u u) h n b c r=n (TT s (CC c0 c1 c2 c3) (.int 3) m st r0 g0 b0 t (.int (Int.fmod (Int.fdiv c2 3) 3)) (.int (1+Int.fmod (Int.fdiv c2 9) 600)) u u u u) h:=by kernel_rfl
noncomputable abbrev H2:H:=.mk 2 [(0,.tab 0),(1,.tab 1)]
noncomputable abbrev H6 (t:List MV) (t0 t1 t2:MO):H:=.mk 6 [(0,.tab 0),(1,.tab 1),(2,.list t),(3,t0),(4,t1),(5,t2)]
noncomputable abbrev H8 (t:List MV) (t0 t1 t2:MO):H:=.mk 8 [(0,.tab 0),(1,.tab 1),(2,.list t),(3,t0),(4,t1),(5,t2),(6,.disc 0),(7,.disc 1)]
noncomputable abbrev H9 (t:List MV) (t0 t1 t2:MO):H:=.mk 9 [(0,.tab 0),(1,.tab 1),(2,.list t),(3,t0),(4,t1),(5,t2),(6,.disc 0),(7,.disc 1),(8,.disc 2)]
noncomputable abbrev d2:MV:=.seq true [.ref 6,.ref 7]
noncomputable abbrev d3:MV:=.seq true [.ref 6,.ref 7,.ref 8]
theorem C9 {cl m st r0 g0 b0 ow sp:MV} {t:List MV} {t0 t1 t2:MO}:lw7 (TT s cl (.int 2) m st r0 g0 b0 (.ref 2) ow sp d2 u u u) (H8 t t0 t1 t2) n b c r=n (TT s cl (.int 2) m st r0 g0 b0 (.ref 2) ow sp d2 u u u) (H8 t t0 t1 t2):=by kernel_rfl
theorem Cx {cl m st r0 g0 b0 ow sp:MV} {t:List MV} {t0 t1 t2:MO}:lw7 (TT s cl (.int 3) m st r0 g0 b0 (.ref 2) ow sp d3 u u u) (H9 t t0 t1 t2) n b c r=n (TT s cl (.int 3) m st r0 g0 b0 (.ref 2) ow sp d3 u u u) (H9 t t0 t1 t2):=by kernel_rfl
theorem Gc {i:Int} {k:Nat} {K:K} {h:H} (e:i=Own.ord k) (m:RE (.disc k) h K):RY [.int i] h K:=⟨k,by rw [e],m⟩
theorem PM {cl m st r0 g0 b0:MV} {ow sp:Int} {t:List MV} {t0 t1 t2:MO} (ho:ow=0∨ow=1) (hord:∀ k,Own.ord k=500+((k:Int)-ow)*sp)
  (q:n (TT s cl (.int 2) m st r0 g0 b0 (.ref 2) (.int ow) (.int sp) d2 u u u) (H8 t t0 t1 t2)):lw6 (TT s cl (.int 2) m st r0 g0 b0 (.ref 2) (.int ow) (.int sp) u u u u) (H6 t t0 t1 t2) n b c r:=by
 rcases ho with rfl | rfl
 all_goals
  refine Gc (k:=0) (hord 0).symm ?_
  refine Gc (k:=1) (hord 1).symm ?_
  exact q
theorem PL {cl m st r0 g0 b0:MV} {ow sp:Int} {t:List MV} {t0 t1 t2:MO} (ho:ow=0∨ow=1∨ow=2) (hord:∀ k,Own.ord k=500+((k:Int)-ow)*sp)
  (q:n (TT s cl (.int 3) m st r0 g0 b0 (.ref 2) (.int ow) (.int sp) d3 u u u) (H9 t t0 t1 t2)):lw6 (TT s cl (.int 3) m st r0 g0 b0 (.ref 2) (.int ow) (.int sp) u u u u) (H6 t t0 t1 t2) n b c r:=by
 rcases ho with rfl | rfl | rfl
 all_goals
  refine Gc (k:=0) (hord 0).symm ?_
  refine Gc (k:=1) (hord 1).symm ?_
  refine Gc (k:=2) (hord 2).symm ?_
  exact q
end
end
section
set_option tactic.hygienic false
set_option maxHeartbeats 4000000
theorem PG:f3b=SX:=by unfold f3b SX;rw [U0,VL]
theorem Ac {c:Int} {h:H} {k:K}:f3 [.int c] h k=ifB (eqI (Int.fmod c 9) (Int.fmod (Int.fdiv c 9) 9)) (ifB (eqI (Int.fmod (Int.fdiv c 9) 9) (Int.fmod (Int.fdiv c 81) 9))
  (JZ (Int.fmod (Int.fdiv c 81) 9+1) λz=>Za z (.int 9) λw=>k (.seq false [.int (Int.fmod c 9),.int (Int.fmod (Int.fdiv c 9) 9),w]) h)
  (k (.seq false [.int (Int.fmod c 9),.int (Int.fmod (Int.fdiv c 9) 9),.int (Int.fmod (Int.fdiv c 81) 9)]) h))
  (k (.seq false [.int (Int.fmod c 9),.int (Int.fmod (Int.fdiv c 9) 9),.int (Int.fmod (Int.fdiv c 81) 9)]) h):=by
 unfold f3
 rw [PG]
 kernel_rfl
theorem P2 {c:Int} {h:H} {k:K}:f3 [.int c] h k=k (.seq false [.int (Int.fmod c 9),.int (Int.fmod (Int.fdiv c 9) 9),.int (pe (Int.fmod c 9) (Int.fmod (Int.fdiv c 9) 9) (Int.fmod (Int.fdiv c 81) 9))]) h:=by
 rw [Ac,Vv]
 unfold pe
 cases eqI (Int.fmod c 9) (Int.fmod (Int.fdiv c 9) 9) <;> cases eqI (Int.fmod (Int.fdiv c 9) 9) (Int.fmod (Int.fdiv c 81) 9) <;> rfl
section
variable [iO:Own] {h:H} {n b c:KS} {r:K} {c0 c1 c2 c3:Int} {s sz m st:MV}
theorem Sv:lw3 (TT s (CC c0 c1 c2 c3) sz m st u u u u u u u u u u) h n b c r=n (TT s (CC c0 c1 c2 c3) sz m st (.int (Int.fmod c1 9)) (.int (Int.fmod (Int.fdiv c1 9) 9)) (.int (pe (Int.fmod c1 9) (Int.fmod (Int.fdiv c1 9) 9) (Int.fmod (Int.fdiv c1 81) 9))) u u u u u u u) h:=by
 have e:lw3 (TT s (CC c0 c1 c2 c3) sz m st u u u u u u u u u u) h n b c r=f3 [.int c1] h λv h'=>MH 3 [tV NN,tV N6,tV Nm] v (TT s (CC c0 c1 c2 c3) sz m st u u u u u u u u u u) h' n:=by kernel_rfl
 rw [e,P2]
 kernel_rfl
section
noncomputable def Lo (a b:MV) (p:Prop):Prop:=Jm (.mk 0 []) a λxs=>Jm (.mk 0 []) b λys=>ifB (Nat.beq (len xs) (len ys)) (Jj xs ys λr=>ifB r p False) False
noncomputable def is2 (n m:Nat) (p:Prop):Prop:=ifB (Nat.beq n m) p False
noncomputable def unP (x:Nat×MO) (i:Nat) (k:MO→Prop):Prop:=is2 x.1 i (k x.2)
noncomputable def P9 (rows turns:List MV) (p:Prop):Prop:=unL rows λa r=>unL turns λx t=>Lo a x <| unL r λb r=>unL t λy t=>Lo b y <| unL r λc r=>unL t λz t=>Lo c z <| noL r <| noL t p
noncomputable def IH (v:MV) (h:H) (turns:List MV) (p:Prop):Prop:=YT v λi=>is2 i 2 <| onH h λn l=>is2 n 6 <|
 unL l λa l=>unP a 0 λo0=>T4 o0 0 <| unL l λb l=>unP b 1 λo1=>T4 o1 1 <| unL l λc l=>unP c 2 λo2=>VQ o2 λrows=>
 unL l λd l=>unP d 3 λ__=>unL l λe l=>unP e 4 λ__=>unL l λf l=>unP f 5 λ__=>noL l <| P9 rows turns p
noncomputable def tn0:List MV:=[.seq true [.int 1,.int 2],.seq true [.int 2,.int 0],.seq true [.int 0,.int 1]]
noncomputable def tn1:List MV:=[.seq true [.int 1],.seq true [.int 2],.seq true [.int 0]]
noncomputable def tn2:List MV:=[.seq true [.int 2],.seq true [.int 0],.seq true [.int 1]]
noncomputable def N1 (t:List MV) (s cl sz m st r g e:MV):KS:=λvs h=>IH (Yb vs Nz) h t (vs=TT s cl sz m st r g e (Yb vs Nz) u u u u u u)
end
noncomputable def LT (t:List MV) (m a g d:Int):MV→MV→MV→MV→KS→KS→K→Prop:=λs cl sz st b c r=>lw4 (TT s cl sz (.int m) st (.int a) (.int g) (.int (pe a g d)) u u u u u u u) H2 (N1 t s cl sz (.int m) st (.int a) (.int g) (.int (pe a g d))) b c r
noncomputable def RT (m a g d:Int):MV→MV→MV→MV→KS→KS→K→Prop:=λs cl sz st b c r=>(TT s cl sz (.int m) st (.int a) (.int g) (.int (pe a g d)) (.ref 2) u u u u u u=TT s cl sz (.int m) st (.int a) (.int g) (.int (pe a g d)) (.ref 2) u u u u u u)
noncomputable def LK (t:List MV) (m a g d:Int):Prop:=LT t m a g d=RT m a g d
theorem BD {t:List MV} {m a g d:Int} (h:LK t m a g d) {s cl sz st:MV} {b c:KS} {r:K}:LT t m a g d s cl sz st b c r=RT m a g d s cl sz st b c r:=by
 rw [show LT t m a g d=RT m a g d from h]
end
end
section
set_option tactic.hygienic false
set_option maxHeartbeats 4000000
section
variable [iO:Own]
section
noncomputable def sg (i:Int):Nat:=@Int.rec (λ__=>Nat) (λn=>@Nat.rec (λ__=>Nat) 34 (λn __=>@Nat.rec (λ__=>Nat) 92 (λ__ __=>35) n) n) (λ__=>0) i
noncomputable def okH (h:H) (p:Prop):Prop:=onH h λ__ l=>unL l λa l=>unP a 0 λo0=>T4 o0 0 <| unL l λb l=>unP b 1 λo1=>T4 o1 2 p
noncomputable def Rx:K:=λv h=>okH h (v=.bool true)
noncomputable def N2 (w:List Nat) (s cl sz m st r g e ow sp ds:MV):KS:=λvs h=>vs=TT s cl sz m st r g e (.ref 2) ow sp ds (Yb vs GM) (Yb vs GI) u∧
 ∀ nn:Int,Vo (TT s cl sz m st r g e (.ref 2) ow sp ds (Yb vs GM) (Yb vs GI) (.txt w nn)) h (λ__ __=>False) (λ__ __=>False) (λ__ __=>False) Rx
end
noncomputable def LW2 (t:List MV) (m a b:Int):MV→MV→MV→MV→MV→MV→MV→MO→MO→MO→KS→KS→K→Prop:=λs cl r g e ow sp t0 t1 t2 bk ct rr=>
 lw8 (TT s cl (.int 2) (.int m) (.seq true [.int a,.int b]) r g e (.ref 2) ow sp d2 u u u) (H8 t t0 t1 t2) (N2 [sg a,sg b] s cl (.int 2) (.int m) (.seq true [.int a,.int b]) r g e ow sp d2) bk ct rr
noncomputable def EW2 (m a b:Int):MV→MV→MV→MV→MV→MV→MV→MO→MO→MO→KS→KS→K→Prop:=λs cl r g e ow sp t0 t1 t2 bk ct rr=>
 (TT s cl (.int 2) (.int m) (.seq true [.int a,.int b]) r g e (.ref 2) ow sp d2 (.ref 8) (.ref 9) u=TT s cl (.int 2) (.int m) (.seq true [.int a,.int b]) r g e (.ref 2) ow sp d2 (.ref 8) (.ref 9) u∧∀ nn:Int,nn=nn∧MV.bool true=MV.bool true)
noncomputable def NW (t:List MV) (m a b:Int):Prop:=LW2 t m a b=EW2 m a b
noncomputable def LW3 (t:List MV) (m a b c:Int):MV→MV→MV→MV→MV→MV→MV→MO→MO→MO→KS→KS→K→Prop:=λs cl r g e ow sp t0 t1 t2 bk ct rr=>
 lw8 (TT s cl (.int 3) (.int m) (.seq true [.int a,.int b,.int c]) r g e (.ref 2) ow sp d3 u u u) (H9 t t0 t1 t2) (N2 [sg a,sg b,sg c] s cl (.int 3) (.int m) (.seq true [.int a,.int b,.int c]) r g e ow sp d3) bk ct rr
noncomputable def EW3 (m a b c:Int):MV→MV→MV→MV→MV→MV→MV→MO→MO→MO→KS→KS→K→Prop:=λs cl r g e ow sp t0 t1 t2 bk ct rr=>
 (TT s cl (.int 3) (.int m) (.seq true [.int a,.int b,.int c]) r g e (.ref 2) ow sp d3 (.ref 9) (.ref 10) u=TT s cl (.int 3) (.int m) (.seq true [.int a,.int b,.int c]) r g e (.ref 2) ow sp d3 (.ref 9) (.ref 10) u∧∀ nn:Int,nn=nn∧MV.bool true=MV.bool true)
noncomputable def JL (t:List MV) (m a b c:Int):Prop:=LW3 t m a b c=EW3 m a b c
theorem Hv {t:List MV} {m a b:Int} (h:NW t m a b) {s cl r g e ow sp:MV} {t0 t1 t2:MO} {bk ct:KS} {rr:K}:LW2 t m a b s cl r g e ow sp t0 t1 t2 bk ct rr:=by
 rw [show LW2 t m a b=EW2 m a b from h]
 exact ⟨rfl,λ__=>⟨rfl,rfl⟩⟩
theorem Hp {t:List MV} {m a b c:Int} (h:JL t m a b c) {s cl r g e ow sp:MV} {t0 t1 t2:MO} {bk ct:KS} {rr:K}:LW3 t m a b c s cl r g e ow sp t0 t1 t2 bk ct rr:=by
 rw [show LW3 t m a b c=EW3 m a b c from h]
 exact ⟨rfl,λ__=>⟨rfl,rfl⟩⟩
end
end
section
set_option tactic.hygienic false
set_option maxHeartbeats 4000000
section
noncomputable def f4g (i j:Int):Ex:=sL [XO (tV Y3) (YB (JM [Xl (.str []),Xl (.str [32]),Xl (.str [9,10]),Xl (.str [13,10,32,10])]) (Xl (.int i))),
 XO (tV Vj) (eM isStr ZR (Xl (.str [])) (Yo ZF (Xe Ju) (T7 (X4 cEq (Xe ZF) (Xl (.str [35]))) (Xe ZF) (Xq XN (Xl (.str [92])) (Xe ZF))))),
 sIf (X4 cEq (Xl (.int j)) (Xl (.int 0))) (sL [Yn (Xq XN (Xq XN (Xq XN (Xe Y3) (Xe Vj)) (Xe Y3)) (Xl (.str [32,46])))]) (sL []),
 sIf (X4 cEq (Xl (.int j)) (Xl (.int 1))) (sL [Yn (Xq XN (Xq XN (Xq XN (Xq XN (Xq XN (Xe Y3) (Xl (.str [34]))) (Xe Vj)) (Xl (.str [34]))) (Xe Y3)) (Xl (.str [32,46])))]) (sL []),
 Yn (Xq XN (Xq XN (Xq XN (Xq XN (Xq XN (Xe Y3) (Xl (.str [34]))) (eM isStr ZR (Xl (.str [])) (Yo TH (Xe Ju) (Xq XN (Xl (.str [92])) (Xe TH))))) (Xl (.str [34]))) (Xe Y3)) (Xl (.str [32,46])))]
noncomputable def CO:Ex:=sL [XO (tV Y3) (YB (JM [Xl (.str []),Xl (.str [32]),Xl (.str [9,10]),Xl (.str [13,10,32,10])]) (Xq Za (Xq ZH (Xe JF) (Xl (.int 3))) (Xl (.int 4)))),
 XO (tV Vj) (eM isStr ZR (Xl (.str [])) (Yo ZF (Xe Ju) (T7 (X4 cEq (Xe ZF) (Xl (.str [35]))) (Xe ZF) (Xq XN (Xl (.str [92])) (Xe ZF))))),
 sIf (X4 cEq (Xq Za (Xe JF) (Xl (.int 3))) (Xl (.int 0))) (sL [Yn (Xq XN (Xq XN (Xq XN (Xe Y3) (Xe Vj)) (Xe Y3)) (Xl (.str [32,46])))]) (sL []),
 sIf (X4 cEq (Xq Za (Xe JF) (Xl (.int 3))) (Xl (.int 1))) (sL [Yn (Xq XN (Xq XN (Xq XN (Xq XN (Xq XN (Xe Y3) (Xl (.str [34]))) (Xe Vj)) (Xl (.str [34]))) (Xe Y3)) (Xl (.str [32,46])))]) (sL []),
 Yn (Xq XN (Xq XN (Xq XN (Xq XN (Xq XN (Xe Y3) (Xl (.str [34]))) (eM isStr ZR (Xl (.str [])) (Yo TH (Xe Ju) (Xq XN (Xl (.str [92])) (Xe TH))))) (Xl (.str [34]))) (Xe Y3)) (Xl (.str [32,46])))]
end
theorem PC:f4b=CO:=by unfold f4b CO;rw [U0,VL]
noncomputable def v4 (a b x y:MV):Vs:=.nd (.nd (.nd (.lf a) (.lf b)) (.nd (.lf x) (.lf y))) (.nd (.nd (.lf .unb) (.lf .unb)) (.nd (.lf .unb) (.lf .unb)))
noncomputable def Cb:List Ex:=[sIf (X4 cEq (Xq Za (Xe JF) (Xl (.int 3))) (Xl (.int 0))) (sL [Yn (Xq XN (Xq XN (Xq XN (Xe Y3) (Xe Vj)) (Xe Y3)) (Xl (.str [32,46])))]) (sL []),
 sIf (X4 cEq (Xq Za (Xe JF) (Xl (.int 3))) (Xl (.int 1))) (sL [Yn (Xq XN (Xq XN (Xq XN (Xq XN (Xq XN (Xe Y3) (Xl (.str [34]))) (Xe Vj)) (Xl (.str [34]))) (Xe Y3)) (Xl (.str [32,46])))]) (sL []),
 Yn (Xq XN (Xq XN (Xq XN (Xq XN (Xq XN (Xe Y3) (Xl (.str [34]))) (eM isStr ZR (Xl (.str [])) (Yo TH (Xe Ju) (Xq XN (Xl (.str [92])) (Xe TH))))) (Xl (.str [34]))) (Xe Y3)) (Xl (.str [32,46])))]
noncomputable def Aa (j:Int):List Ex:=[sIf (X4 cEq (Xl (.int j)) (Xl (.int 0))) (sL [Yn (Xq XN (Xq XN (Xq XN (Xe Y3) (Xe Vj)) (Xe Y3)) (Xl (.str [32,46])))]) (sL []),
 sIf (X4 cEq (Xl (.int j)) (Xl (.int 1))) (sL [Yn (Xq XN (Xq XN (Xq XN (Xq XN (Xq XN (Xe Y3) (Xl (.str [34]))) (Xe Vj)) (Xl (.str [34]))) (Xe Y3)) (Xl (.str [32,46])))]) (sL []),
 Yn (Xq XN (Xq XN (Xq XN (Xq XN (Xq XN (Xe Y3) (Xl (.str [34]))) (eM isStr ZR (Xl (.str [])) (Yo TH (Xe Ju) (Xq XN (Xl (.str [92])) (Xe TH))))) (Xl (.str [34]))) (Xe Y3)) (Xl (.str [32,46])))]
theorem W9 {w:List Nat} {c:Int} {h:H} {K:K}:f4 [.str w,.int c] h K=Ji [Ju,JF] f4t (f4g (Int.fmod (Int.fdiv c 3) 4) (Int.fmod c 3)) [.str w,.int c] h K:=by
 unfold f4
 rw [PC]
 have c2:∀ (x y:MV) (h:H) (n b d:KS) (r:_),sL Cb (v4 (.str w) (.int c) x y) h n b d r=sL (Aa (Int.fmod c 3)) (v4 (.str w) (.int c) x y) h n b d r:=λx y h n b d r=>by kernel_rfl
 have e1:Ji [Ju,JF] f4t CO [.str w,.int c] h K=YB (JM [Xl (.str []),Xl (.str [32]),Xl (.str [9,10]),Xl (.str [13,10,32,10])]) (Xq Za (Xq ZH (Xe JF) (Xl (.int 3))) (Xl (.int 4))) (v4 (.str w) (.int c) .unb .unb) h λx h1=>(eM isStr ZR (Xl (.str [])) (Yo ZF (Xe Ju) (T7 (X4 cEq (Xe ZF) (Xl (.str [35]))) (Xe ZF) (Xq XN (Xl (.str [92])) (Xe ZF))))) (v4 (.str w) (.int c) x .unb) h1 λy h2=>sL Cb (v4 (.str w) (.int c) x y) h2 (λ__ h1=>K .none h1) (λ__ __=>False) (λ__ __=>False) K:=by kernel_rfl
 have e2:(YB (JM [Xl (.str []),Xl (.str [32]),Xl (.str [9,10]),Xl (.str [13,10,32,10])]) (Xq Za (Xq ZH (Xe JF) (Xl (.int 3))) (Xl (.int 4))) (v4 (.str w) (.int c) .unb .unb) h λx h1=>(eM isStr ZR (Xl (.str [])) (Yo ZF (Xe Ju) (T7 (X4 cEq (Xe ZF) (Xl (.str [35]))) (Xe ZF) (Xq XN (Xl (.str [92])) (Xe ZF))))) (v4 (.str w) (.int c) x .unb) h1 λy h2=>sL (Aa (Int.fmod c 3)) (v4 (.str w) (.int c) x y) h2 (λ__ h1=>K .none h1) (λ__ __=>False) (λ__ __=>False) K)=Ji [Ju,JF] f4t (f4g (Int.fmod (Int.fdiv c 3) 4) (Int.fmod c 3)) [.str w,.int c] h K:=by kernel_rfl
 refine e1.trans (Eq.trans (congrArg (YB (JM [Xl (.str []),Xl (.str [32]),Xl (.str [9,10]),Xl (.str [13,10,32,10])]) (Xq Za (Xq ZH (Xe JF) (Xl (.int 3))) (Xl (.int 4))) (v4 (.str w) (.int c) .unb .unb) h) (funext λx=>funext λh1=>congrArg ((eM isStr ZR (Xl (.str [])) (Yo ZF (Xe Ju) (T7 (X4 cEq (Xe ZF) (Xl (.str [35]))) (Xe ZF) (Xq XN (Xl (.str [92])) (Xe ZF))))) (v4 (.str w) (.int c) x .unb) h1) (funext λy=>funext λh2=>c2 x y h2 _ _ _ _))) e2)
end
section
set_option maxHeartbeats 4000000
theorem YR {p:Int→Prop} (h0:p 0) (h1:p 1) (h2:p 2) (i:Int) (a:0≤i) (b:i<3):p i:=by
 have:i=0∨i=1∨i=2:=by omega
 clear a b;rcases this with rfl | rfl | rfl <;> assumption
theorem PX {p:Int→Prop} (h0:p 0) (h1:p 1) (h2:p 2) (h3:p 3) (i:Int) (a:0≤i) (b:i<4):p i:=by
 have:i=0∨i=1∨i=2∨i=3:=by omega
 clear a b;rcases this with rfl | rfl | rfl | rfl <;> assumption
section
noncomputable def gp (i:Int):List Nat:=if i=0 then [] else if i=1 then [32] else if i=2 then [9,10] else [13,10,32,10]
noncomputable def IV:List Nat→List Nat
 | []=>[]
 | c :: r=>if c=35 then 35 :: IV r else 92 :: c :: IV r
noncomputable def HD:List Nat→List Nat
 | []=>[]
 | c :: r=>92 :: c :: HD r
noncomputable def LZ (i j:Int) (w:List Nat):List Nat:=gp i++(if j=0 then IV w else if j=1 then 34 :: IV w++[34] else 34 :: HD w++[34])++gp i++[32,46]
noncomputable def Sx (i:Int):Int:=if i=2 then 3 else if i=3 then 5 else 1
noncomputable def KB:List (List Nat)→List Nat→Bool
 | [],L=>L.isEmpty
 | t :: ts,L=>match VG L with
  | some (t',R)=>t==t'&&KB ts R
  | none=>false
end
theorem V9:∀ {ts:List (List Nat)} {L:List Nat},KB ts L=true→GF ts L
 | [],L,h=>by simpa [KB,GF] using h
 | t :: ts,L,h=>by
  unfold KB at h
  split at h
  ·rename_i t' R e
   simp only [Bool.and_eq_true,beq_iff_eq] at h
   obtain ⟨rfl,h⟩:=h
   exact ⟨R,e,V9 h⟩
  ·cases h
noncomputable def TX (i j:Int) (w:List Nat):Prop:=∃ l n,(∀ (c:Int) (h:H) (K:K),Ji [Ju,JF] f4t (f4g i j) [.str w,.int c] h K=K (.str l) h)∧TOk l w n
noncomputable def TXl (i j:Int) (w:List Nat):Int→H→K→Prop:=λc h K=>Ji [Ju,JF] f4t (f4g i j) [.str w,.int c] h K
noncomputable def TXr (i j:Int) (w:List Nat):Int→H→K→Prop:=λ__ h K=>K (.str (LZ i j w)) h
noncomputable def TXb (i j:Int) (w:List Nat):Bool:=Nat.ble (LZ i j w).length 4000&&(KB [w,[46],[]] (LZ i j w)&&(decide (Sx i=1+(((LZ i j w).filter λc=>c==10).length:Nat))&&decide (Sx i=1+(Txt.count (toS (LZ i j w)) (toS [10]):Int))))
theorem P8 {i j:Int} {w:List Nat} (h:TXl i j w=TXr i j w) (hb:TXb i j w=true):TX i j w:=by
 refine (Bool.and_eq_true_iff.mp hb).elim λh1 hb=>?_
 refine (Bool.and_eq_true_iff.mp hb).elim λh2 hb=>?_
 refine (Bool.and_eq_true_iff.mp hb).elim λh3 h4=>?_
 refine ⟨_,_,λc g K=>?_,Nat.le_of_ble_eq_true h1,V9 h2,of_decide_eq_true h3,of_decide_eq_true h4⟩
 exact congrFun (congrFun (congrFun h c) g) K
theorem Md {A X:Type _} {f g:A→X} {l:List A} (h:(@List.rec A (λ__=>List X) [] (λa __ ih=>f a :: ih) l)=@List.rec A (λ__=>List X) [] (λa __ ih=>g a :: ih) l):∀ a∈l,f a=g a:=by
 induction l with
 | nil=>exact λ__ h=>nomatch h
 | cons a l ih=>
  intro b hb
  have h1:=List.cons.inj h
  rcases List.mem_cons.mp hb with e | hb
  ·rw [e];exact h1.1
  ·exact ih h1.2 b hb
theorem FU {i j:Int} {l:List (List Nat)} (h:(@List.rec (List Nat) (λ__=>List (Int→H→K→Prop)) [] (λa __ ih=>TXl i j a :: ih) l)=@List.rec (List Nat) (λ__=>List (Int→H→K→Prop)) [] (λa __ ih=>TXr i j a :: ih) l) (hb:l.all (TXb i j)=true):∀ w∈l,TX i j w:=
 λw hw=>P8 (Md h w hw) (List.all_eq_true.mp hb w hw)
noncomputable def sgs:List Nat:=[sg 0,sg 1,sg 2]
noncomputable def ws2:List (List Nat):=sgs.flatMap λa=>sgs.map λb=>[a,b]
noncomputable def ws3:List (List Nat):=sgs.flatMap λa=>sgs.flatMap λb=>sgs.map λc=>[a,b,c]
theorem TJ {a:Int} (h0:0≤a) (h1:a<3):sg a∈sgs:=YR (p:=λa=>sg a∈sgs) (.head _) (.tail _ (.head _)) (.tail _ (.tail _ (.head _))) a h0 h1
theorem WH {P:List Nat→Prop} (h:∀ w∈ws2,P w):∀ a,0≤a→a<3→∀ b,0≤b→b<3→P [sg a,sg b]:=
 λa a0 a1 b b0 b1=>h _ (List.mem_flatMap.mpr ⟨_,TJ a0 a1,List.mem_map.mpr ⟨_,TJ b0 b1,rfl⟩⟩)
theorem I4 {P:List Nat→Prop} (h:∀ w∈ws3,P w):∀ a,0≤a→a<3→∀ b,0≤b→b<3→∀ c,0≤c→c<3→P [sg a,sg b,sg c]:=
 λa a0 a1 b b0 b1 c c0 c1=>h _ (List.mem_flatMap.mpr ⟨_,TJ a0 a1,List.mem_flatMap.mpr ⟨_,TJ b0 b1,List.mem_map.mpr ⟨_,TJ c0 c1,rfl⟩⟩⟩)
theorem tx2:∀ i,0≤i→i<4→∀ j,0≤j→j<3→∀ a,0≤a→a<3→∀ b,0≤b→b<3→TX i j [sg a,sg b]:=by
 refine PX ?_ ?_ ?_ ?_ <;> refine YR ?_ ?_ ?_ <;> exact WH (FU (by kernel_rfl) (by kernel_rfl))
theorem tx3:∀ i,0≤i→i<4→∀ j,0≤j→j<3→∀ a,0≤a→a<3→∀ b,0≤b→b<3→∀ c,0≤c→c<3→TX i j [sg a,sg b,sg c]:=by
 refine PX ?_ ?_ ?_ ?_ <;> refine YR ?_ ?_ ?_ <;> exact I4 (FU (by kernel_rfl) (by kernel_rfl))
end
section
set_option tactic.hygienic false
set_option maxHeartbeats 4000000
section
variable [iO:Own]
theorem Ym {x:Ex} {l:List Ex} {vs:Vs} {h:H} {n b c:KS} {r:K}:sL (x :: l) vs h n b c r=x vs h (λvs' h'=>sL l vs' h' n b c r) b c r:=rfl
theorem Ui {N:KS} {x:Ex} {vs:Vs} {h:H} {n b c:KS} {r:K}:Uc N x vs h n b c r=(x vs h N b c r∧∀ vs' h',N vs' h'→n vs' h'):=rfl
noncomputable def Z8 (xs:List Int):List MV:=xs.map .int
noncomputable def cel (xs:List Int) (i:Nat) (d:Int):Int:=match xs[i]? with
 | some x=>Int.fmod x 1000000
 | none=>d
noncomputable abbrev C0 (xs:List Int):Int:=cel xs 0 2
noncomputable abbrev C1 (xs:List Int):Int:=cel xs 1 26
noncomputable abbrev C2' (xs:List Int):Int:=cel xs 2 0
noncomputable abbrev C3 (xs:List Int):Int:=cel xs 3 7
theorem Qt {h:H} {n b c:KS} {r:K} (xs:List Int) (hf:Yr (Z8 xs)=true):lw0 (TT (.seq true (Z8 xs)) u u u u u u u u u u u u u u) h n b c r=n (TT (.seq true (Z8 xs)) (CC (C0 xs) (C1 xs) (C2' xs) (C3 xs)) u u u u u u u u u u u u u) h:=by
 match xs,hf with
 | [],_=>exact Pp
 | [x],_=>exact Py x
 | [x,y],_=>exact Pv x y
 | [x,y,z],_=>exact CR x y z
 | x :: y :: z :: w :: l,hf=>exact PV x y z w (Z8 l) hf
theorem WI {a j:Int} {r:Bool} (h:EqA (.int a) (.int j) r) (hr:r=true):a=j:=by
 cases h with | int _ _=>exact beq_iff_eq.mp hr
theorem RI {p:Prop}:∀ {ys xs:List MV} {k:Bool→Prop},(∀ y∈ys,∃ i,y=.int i)→len xs=len ys→Jj xs ys k→∃ r,k r∧(r=true→xs=ys)
 | ys,xs,k,hy,hl,m=>by
  refine Xi λgk=>?_
  refine GP m λe he hk=>?_
  refine gk ?_;clear gk
  refine ⟨_,hk,λha=>?_⟩
  rw [Yh,Yh] at hl
  refine List.ext_getElem hl λi h1 h2=>?_
  have hi:=he i _ _ (List.getElem?_eq_getElem h1) (List.getElem?_eq_getElem h2)
  have hei:e i=true:=List.all_eq_true.mp ha i (List.mem_range.mpr h1)
  obtain ⟨j,hj⟩:=hy _ (List.getElem_mem h2)
  rw [hei] at hi
  rw [hj] at hi ⊢
  generalize xs[i]=q at hi ⊢
  cases q with
  | int a=>
   rw [WI hi rfl]
  | _=>cases hi
theorem WC {n m:Nat} {p:Prop} (h:is2 n m p):n=m∧p:=by
 rcases Xo h with ⟨e,h⟩ | ⟨_,h⟩
 ·exact ⟨Nat.eq_of_beq_eq_true e,h⟩
 ·exact h.elim
theorem Vy {n m:Nat} {p:Prop} (h:is2 n m p) {C':Prop} (f':n=m→p→C'):C':=by refine (WC h).elim λq0 q1=>?_;exact f' q0 q1
theorem IQ {x:Nat×MO} {i:Nat} {k:MO→Prop} (h:unP x i k):∃ o,x=(i,o)∧k o:=by
 refine Vy h λe h=>?_
 obtain ⟨a,o⟩:=x
 exact ⟨o,by rw [show a=i from e],h⟩
theorem ZE {x:Nat×MO} {i:Nat} {k:MO→Prop} (h:unP x i k) {C':Prop} (f':∀ o,x=(i,o)→k o→C'):C':=by refine (IQ h).elim λo zz=>zz.elim λq0 q1=>?_;exact f' o q0 q1
theorem Si {o:MO} {i:Nat} {p:Prop} (h:T4 o i p):o=.tab i∧p:=by
 cases o with
 | tab k=>
  refine Vy (show is2 k i p from h) λe h=>?_
  exact ⟨by rw [e],h⟩
 | _=>exact (show False from h).elim
theorem Mz {o:MO} {i:Nat} {p:Prop} (h:T4 o i p) {C':Prop} (f':o=.tab i→p→C'):C':=by refine (Si h).elim λq0 q1=>?_;exact f' q0 q1
theorem Pj {o:MO} {k:List MV→Prop} (h:VQ o k):∃ l,o=.list l∧k l:=by cases o <;> first | exact ⟨_,rfl,h⟩ | exact (show False from h).elim
theorem DB {a:MV} {ys:List MV} {p:Prop} (hy:∀ y∈ys,∃ i,y=.int i) (m:Lo a (.seq true ys) p):a=.seq true ys∧p:=by
 refine Zw m λxs e m=>?_
 have m:ifB (Nat.beq (len xs) (len ys)) (Jj xs ys λr=>ifB r p False) False:=m
 rcases Xo m with ⟨hl,m⟩ | ⟨_,m⟩
 ·refine (RI (p:=p) hy (Nat.eq_of_beq_eq_true hl) m).elim λr zz=>zz.elim λhk hr=>?_
  rcases Xo hk with ⟨e',hp⟩ | ⟨_,hp⟩
  ·exact ⟨by rw [e,hr e'],hp⟩
  ·exact hp.elim
 ·exact m.elim
theorem GH {a:MV} {ys:List MV} {p:Prop} (hy:∀ y∈ys,∃ i,y=.int i) (m:Lo a (.seq true ys) p) {C':Prop} (f':a=.seq true ys→p→C'):C':=by refine (DB hy m).elim λq0 q1=>?_;exact f' q0 q1
theorem F5 {rows x y z:List MV} {p:Prop} (hx:∀ q∈x,∃ i,q=.int i) (hy:∀ q∈y,∃ i,q=.int i) (hz:∀ q∈z,∃ i,q=.int i) (m:P9 rows [.seq true x,.seq true y,.seq true z] p):rows=[.seq true x,.seq true y,.seq true z]∧p:=by
 refine Xi λgk=>?_
 refine Yu m λa r e m=>?_
 refine GH hx m λe1 m=>?_
 refine Yu m λb r2 e2 m=>?_
 refine GH hy m λe3 m=>?_
 refine Yu m λc r3 e4 m=>?_
 refine GH hz m λe5 m=>?_
 refine To m λe6 m=>?_
 refine gk ?_;clear gk
 exact ⟨by rw [e,e2,e4,e6,e1,e3,e5],m⟩
theorem TN {v:MV} {h:H} {x y z:List MV} {p:Prop} (hx:∀ q∈x,∃ i,q=.int i) (hy:∀ q∈y,∃ i,q=.int i) (hz:∀ q∈z,∃ i,q=.int i) (m:IH v h [.seq true x,.seq true y,.seq true z] p) :
  v=.ref 2∧(∃ t0 t1 t2,h=H6 [.seq true x,.seq true y,.seq true z] t0 t1 t2)∧p:=by
 refine Xi λgk=>?_
 refine XT m λi ev m=>?_
 refine Vy m λei m=>?_
 refine gk ?_;clear gk
 cases h with | mk n l=>
 refine Xi λgk=>?_
 refine Vy m λen m=>?_
 refine Yu m λa0 l0 e0 m=>?_
 refine ZE m λo0 f0 m=>?_
 refine Mz m λg0 m=>?_
 refine Yu m λa1 l1 e1 m=>?_
 refine ZE m λo1 f1 m=>?_
 refine Mz m λg1 m=>?_
 refine Yu m λa2 l2 e2 m=>?_
 refine ZE m λo2 f2 m=>?_
 refine (Pj m).elim λrows zz=>zz.elim λg2 m=>?_
 refine Yu m λa3 l3 e3 m=>?_
 refine ZE m λo3 f3 m=>?_
 refine Yu m λa4 l4 e4 m=>?_
 refine ZE m λo4 f4 m=>?_
 refine Yu m λa5 l5 e5 m=>?_
 refine ZE m λo5 f5 m=>?_
 refine To m λe6 m=>?_
 refine (F5 hx hy hz m).elim λer m=>?_
 refine gk ?_;clear gk
 exact ⟨by rw [ev,ei],⟨o3,o4,o5,by rw [en,e0,e1,e2,e3,e4,e5,e6,f0,f1,f2,f3,f4,f5,g0,g1,g2,er]⟩,m⟩
noncomputable def tn (m:Int):List MV:=if m=0 then tn0 else if m=1 then tn1 else tn2
theorem ZK {l:List Int}:∀ q∈l.map MV.int,∃ i,q=.int i:=λq hq=>by
 obtain ⟨i,_,rfl⟩:=List.mem_map.mp hq;exact ⟨i,rfl⟩
theorem WM {v:MV} {h:H} {m:Int} {p:Prop} (mm:IH v h (tn m) p):v=.ref 2∧(∃ t0 t1 t2,h=H6 (tn m) t0 t1 t2)∧p:=by
 unfold tn at mm ⊢
 by_cases h0:m=0
 ·rw [if_pos h0] at mm ⊢
  exact TN (x:=[1,2].map MV.int) (y:=[2,0].map MV.int) (z:=[0,1].map MV.int) ZK ZK ZK mm
 ·rw [if_neg h0] at mm ⊢
  by_cases h1:m=1
  ·rw [if_pos h1] at mm ⊢
   exact TN (x:=[1].map MV.int) (y:=[2].map MV.int) (z:=[0].map MV.int) ZK ZK ZK mm
  ·rw [if_neg h1] at mm ⊢
   exact TN (x:=[2].map MV.int) (y:=[0].map MV.int) (z:=[1].map MV.int) ZK ZK ZK mm
theorem Kv {v:MV} {h:H} {m:Int} {p:Prop} (mm:IH v h (tn m) p) {C':Prop} (f':v=.ref 2→(∃ t0 t1 t2,h=H6 (tn m) t0 t1 t2)→p→C'):C':=by refine (WM mm).elim λq0 zz=>zz.elim λq1 q2=>?_;exact f' q0 q1 q2
structure Tabs:Prop where
 t:∀ m,0≤m→m<3→∀ a,0≤a→a<9→∀ g,0≤g→g<9→∀ d,0≤d→d<9→LK (tn m) m a g d
 w2:∀ m,0≤m→m<3→∀ a,0≤a→a<3→∀ b,0≤b→b<3→NW (tn m) m a b
 w3:∀ m,0≤m→m<3→∀ a,0≤a→a<3→∀ b,0≤b→b<3→∀ c,0≤c→c<3→JL (tn m) m a b c
theorem fm (x:Int) {k:Int} (hk:0<k):0≤Int.fmod x k∧Int.fmod x k<k:=⟨Int.fmod_nonneg_of_pos _ hk,Int.fmod_lt_of_pos _ hk⟩
noncomputable def Mi (xs:List Int):Int:=2+Int.fmod (C0 xs) 2
noncomputable def ownOf (xs:List Int):Int:=Int.fmod (Int.fdiv (C2' xs) 3) (Mi xs)
noncomputable def JW (xs:List Int):Int:=1+Int.fmod (Int.fdiv (C2' xs) 9) 600
theorem Fa {M1 M2:KS} {x:MV} {h:H} {k:K}:f16 M1 M2 [x] h k=sL [lw0,lw1,lw2,lw3,Uc M1 lw4,lw5,lw6,lw7,Uc M2 lw8,lw9,Vo] (TT x u u u u u u u u u u u u u u) h (λ__ h1=>k .none h1) (λ__ __=>False) (λ__ __=>False) k:=by kernel_rfl
noncomputable def CT (a b:Int):Prop:=∀ {s m r g e t ow sp ds F M:MV} {c0 c1 c2 c3:Int} {h:H} {n bk c:KS} {rr:K},lw9 (TT s (CC c0 c1 c2 c3) (.int 2) m (.seq true [.int a,.int b]) r g e t ow sp ds F M u) h n bk c rr =
 f4 [.str [sg a,sg b],.int c3] h λv h'=>∃ w nn lst,v=.str lst∧TOk lst w nn∧n (TT s (CC c0 c1 c2 c3) (.int 2) m (.seq true [.int a,.int b]) r g e t ow sp ds F M (.txt w nn)) h'
noncomputable def CN (a b d:Int):Prop:=∀ {s m r g e t ow sp ds F M:MV} {c0 c1 c2 c3:Int} {h:H} {n bk c:KS} {rr:K},lw9 (TT s (CC c0 c1 c2 c3) (.int 3) m (.seq true [.int a,.int b,.int d]) r g e t ow sp ds F M u) h n bk c rr =
 f4 [.str [sg a,sg b,sg d],.int c3] h λv h'=>∃ w nn lst,v=.str lst∧TOk lst w nn∧n (TT s (CC c0 c1 c2 c3) (.int 3) m (.seq true [.int a,.int b,.int d]) r g e t ow sp ds F M (.txt w nn)) h'
noncomputable def L92 (a b:Int):MV→MV→MV→MV→MV→MV→MV→MV→MV→MV→MV→Int→Int→Int→Int→H→KS→KS→KS→K→Prop:=λs m r g e t ow sp ds F M c0 c1 c2 c3 h n bk c rr=>lw9 (TT s (CC c0 c1 c2 c3) (.int 2) m (.seq true [.int a,.int b]) r g e t ow sp ds F M u) h n bk c rr
noncomputable def R92 (a b:Int):MV→MV→MV→MV→MV→MV→MV→MV→MV→MV→MV→Int→Int→Int→Int→H→KS→KS→KS→K→Prop:=λs m r g e t ow sp ds F M c0 c1 c2 c3 h n bk c rr=>f4 [.str [sg a,sg b],.int c3] h λv h'=>∃ w nn lst,v=.str lst∧TOk lst w nn∧n (TT s (CC c0 c1 c2 c3) (.int 2) m (.seq true [.int a,.int b]) r g e t ow sp ds F M (.txt w nn)) h'
noncomputable def L93 (a b d:Int):MV→MV→MV→MV→MV→MV→MV→MV→MV→MV→MV→Int→Int→Int→Int→H→KS→KS→KS→K→Prop:=λs m r g e t ow sp ds F M c0 c1 c2 c3 h n bk c rr=>lw9 (TT s (CC c0 c1 c2 c3) (.int 3) m (.seq true [.int a,.int b,.int d]) r g e t ow sp ds F M u) h n bk c rr
noncomputable def R93 (a b d:Int):MV→MV→MV→MV→MV→MV→MV→MV→MV→MV→MV→Int→Int→Int→Int→H→KS→KS→KS→K→Prop:=λs m r g e t ow sp ds F M c0 c1 c2 c3 h n bk c rr=>f4 [.str [sg a,sg b,sg d],.int c3] h λv h'=>∃ w nn lst,v=.str lst∧TOk lst w nn∧n (TT s (CC c0 c1 c2 c3) (.int 3) m (.seq true [.int a,.int b,.int d]) r g e t ow sp ds F M (.txt w nn)) h'
theorem q92:∀ a,0≤a→a<3→∀ b,0≤b→b<3→L92 a b=R92 a b:=by
 refine YR ?_ ?_ ?_ <;> refine YR ?_ ?_ ?_ <;> kernel_rfl
theorem q93:∀ a,0≤a→a<3→∀ b,0≤b→b<3→∀ d,0≤d→d<3→L93 a b d=R93 a b d:=by
 refine YR ?_ ?_ ?_ <;> refine YR ?_ ?_ ?_ <;> refine YR ?_ ?_ ?_ <;> kernel_rfl
theorem PT:∀ a,0≤a→a<3→∀ b,0≤b→b<3→CT a b:=by
 intro a a0 a1 b b0 b1 s m r g e t ow sp ds F M c0 c1 c2 c3 h n bk c rr
 show L92 a b s m r g e t ow sp ds F M c0 c1 c2 c3 h n bk c rr=R92 a b s m r g e t ow sp ds F M c0 c1 c2 c3 h n bk c rr
 rw [q92 a a0 a1 b b0 b1]
theorem Pt:∀ a,0≤a→a<3→∀ b,0≤b→b<3→∀ d,0≤d→d<3→CN a b d:=by
 intro a a0 a1 b b0 b1 d d0 d1 s m r g e t ow sp ds F M c0 c1 c2 c3 h n bk c rr
 show L93 a b d s m r g e t ow sp ds F M c0 c1 c2 c3 h n bk c rr=R93 a b d s m r g e t ow sp ds F M c0 c1 c2 c3 h n bk c rr
 rw [q93 a a0 a1 b b0 b1 d d0 d1]
theorem LN {vs:Vs} {h:H} {n b c n' b' c':KS} {r:K}:Vo vs h n b c r=Vo vs h n' b' c' r:=by unfold Vo;rfl
theorem Sz {s m r g e t ow sp ds F M:MV} {c0 c1 c2 c3 a b:Int} {h:H} {n bk c:KS} {rr:K} (ha:0≤a∧a<3) (hb:0≤b∧b<3)
  (q:∀ nn:Int,Vo (TT s (CC c0 c1 c2 c3) (.int 2) m (.seq true [.int a,.int b]) r g e t ow sp ds F M (.txt [sg a,sg b] nn)) h (λ__ __=>False) (λ__ __=>False) (λ__ __=>False) rr) :
  sL [lw9,Vo] (TT s (CC c0 c1 c2 c3) (.int 2) m (.seq true [.int a,.int b]) r g e t ow sp ds F M u) h n bk c rr:=by
 rw [Ym,PT a ha.1 ha.2 b hb.1 hb.2,W9]
 have hi:=fm (Int.fdiv c3 3) (k:=4) (by decide)
 have hj:=fm c3 (k:=3) (by decide)
 refine Xi λgk=>?_
 refine (tx2 _ hi.1 hi.2 _ hj.1 hj.2 a ha.1 ha.2 b hb.1 hb.2).elim λl zz=>zz.elim λnn zz=>zz.elim λhrun htok=>?_
 refine gk ?_;clear gk
 rw [hrun]
 refine ⟨_,nn,l,rfl,htok,?_⟩
 rw [Ym,LN]
 exact q nn
theorem So {s m r g e t ow sp ds F M:MV} {c0 c1 c2 c3 a b d:Int} {h:H} {n bk c:KS} {rr:K} (ha:0≤a∧a<3) (hb:0≤b∧b<3) (hd:0≤d∧d<3)
  (q:∀ nn:Int,Vo (TT s (CC c0 c1 c2 c3) (.int 3) m (.seq true [.int a,.int b,.int d]) r g e t ow sp ds F M (.txt [sg a,sg b,sg d] nn)) h (λ__ __=>False) (λ__ __=>False) (λ__ __=>False) rr) :
  sL [lw9,Vo] (TT s (CC c0 c1 c2 c3) (.int 3) m (.seq true [.int a,.int b,.int d]) r g e t ow sp ds F M u) h n bk c rr:=by
 rw [Ym,Pt a ha.1 ha.2 b hb.1 hb.2 d hd.1 hd.2,W9]
 have hi:=fm (Int.fdiv c3 3) (k:=4) (by decide)
 have hj:=fm c3 (k:=3) (by decide)
 refine Xi λgk=>?_
 refine (tx3 _ hi.1 hi.2 _ hj.1 hj.2 a ha.1 ha.2 b hb.1 hb.2 d hd.1 hd.2).elim λl zz=>zz.elim λnn zz=>zz.elim λhrun htok=>?_
 refine gk ?_;clear gk
 rw [hrun]
 refine ⟨_,nn,l,rfl,htok,?_⟩
 rw [Ym,LN]
 exact q nn
end
end
section
set_option tactic.hygienic false
set_option maxHeartbeats 4000000
section
variable [iO:Own]
theorem PK (T:Tabs) {s r g e ow sp:MV} {c0 c1 c2 c3 m a b:Int} {t0 t1 t2:MO} {n bk c:KS} (hm:0≤m∧m<3) (ha:0≤a∧a<3) (hb:0≤b∧b<3) :
  sL [Uc (N2 [sg a,sg b] s (CC c0 c1 c2 c3) (.int 2) (.int m) (.seq true [.int a,.int b]) r g e ow sp d2) lw8,lw9,Vo] (TT s (CC c0 c1 c2 c3) (.int 2) (.int m) (.seq true [.int a,.int b]) r g e (.ref 2) ow sp d2 u u u) (H8 (tn m) t0 t1 t2) n bk c Rx:=by
 rw [Ym,Ui]
 refine ⟨?_,λvs' h' hN=>?_⟩
 ·exact Hv (T.w2 m hm.1 hm.2 a ha.1 ha.2 b hb.1 hb.2)
 ·obtain ⟨hvs,hnn⟩:=hN
  generalize Yb vs' GM=F at hvs hnn
  generalize Yb vs' GI=M at hvs hnn
  subst hvs
  exact Sz ha hb hnn
theorem PQ (T:Tabs) {s r g e ow sp:MV} {c0 c1 c2 c3 m a b d:Int} {t0 t1 t2:MO} {n bk c:KS} (hm:0≤m∧m<3) (ha:0≤a∧a<3) (hb:0≤b∧b<3) (hd:0≤d∧d<3) :
  sL [Uc (N2 [sg a,sg b,sg d] s (CC c0 c1 c2 c3) (.int 3) (.int m) (.seq true [.int a,.int b,.int d]) r g e ow sp d3) lw8,lw9,Vo] (TT s (CC c0 c1 c2 c3) (.int 3) (.int m) (.seq true [.int a,.int b,.int d]) r g e (.ref 2) ow sp d3 u u u) (H9 (tn m) t0 t1 t2) n bk c Rx:=by
 rw [Ym,Ui]
 refine ⟨?_,λvs' h' hN=>?_⟩
 ·exact Hp (T.w3 m hm.1 hm.2 a ha.1 ha.2 b hb.1 hb.2 d hd.1 hd.2)
 ·obtain ⟨hvs,hnn⟩:=hN
  generalize Yb vs' GM=F at hvs hnn
  generalize Yb vs' GI=M at hvs hnn
  subst hvs
  exact So ha hb hd hnn
end
end
section
set_option tactic.hygienic false
set_option maxHeartbeats 4000000
section
variable [iO:Own]
theorem Pm (T:Tabs) {s:MV} {c0 c1 c2 c3 m a g d p q:Int} {n bk c:KS} (hm:0≤m∧m<3) (ha:0≤a∧a<9) (hg:0≤g∧g<9) (hd:0≤d∧d<9) (hp:0≤p∧p<3) (hq:0≤q∧q<3)
  (hord:∀ k,Own.ord k=500+((k:Int)-Int.fmod (Int.fdiv c2 3) 2)*(1+Int.fmod (Int.fdiv c2 9) 600)) :
  sL [Uc (N1 (tn m) s (CC c0 c1 c2 c3) (.int 2) (.int m) (.seq true [.int p,.int q]) (.int a) (.int g) (.int (pe a g d))) lw4,lw5,lw6,lw7,
   Uc (N2 [sg p,sg q] s (CC c0 c1 c2 c3) (.int 2) (.int m) (.seq true [.int p,.int q]) (.int a) (.int g) (.int (pe a g d)) (.int (Int.fmod (Int.fdiv c2 3) 2)) (.int (1+Int.fmod (Int.fdiv c2 9) 600)) d2) lw8,lw9,Vo]
   (TT s (CC c0 c1 c2 c3) (.int 2) (.int m) (.seq true [.int p,.int q]) (.int a) (.int g) (.int (pe a g d)) u u u u u u u) H2 n bk c Rx:=by
 rw [Ym,Ui]
 refine ⟨?_,λvs' h' hN=>?_⟩
 ·exact Eq.mpr (BD (T.t m hm.1 hm.2 a ha.1 ha.2 g hg.1 hg.2 d hd.1 hd.2)) rfl
 ·refine Kv hN λhv qa hvs=>?_;obtain ⟨t0,t1,t2,rfl⟩:=qa
  rw [hv] at hvs
  clear hN hv;subst hvs
  rw [Ym,PB,Ym]
  refine PM (by have:=fm (Int.fdiv c2 3) (k:=2) (by decide);omega) hord ?_
  rw [Ym,C9]
  exact PK T hm hp hq
theorem Pe (T:Tabs) {s:MV} {c0 c1 c2 c3 m a g d p q w:Int} {n bk c:KS} (hm:0≤m∧m<3) (ha:0≤a∧a<9) (hg:0≤g∧g<9) (hd:0≤d∧d<9) (hp:0≤p∧p<3) (hq:0≤q∧q<3) (hw:0≤w∧w<3)
  (hord:∀ k,Own.ord k=500+((k:Int)-Int.fmod (Int.fdiv c2 3) 3)*(1+Int.fmod (Int.fdiv c2 9) 600)) :
  sL [Uc (N1 (tn m) s (CC c0 c1 c2 c3) (.int 3) (.int m) (.seq true [.int p,.int q,.int w]) (.int a) (.int g) (.int (pe a g d))) lw4,lw5,lw6,lw7,
   Uc (N2 [sg p,sg q,sg w] s (CC c0 c1 c2 c3) (.int 3) (.int m) (.seq true [.int p,.int q,.int w]) (.int a) (.int g) (.int (pe a g d)) (.int (Int.fmod (Int.fdiv c2 3) 3)) (.int (1+Int.fmod (Int.fdiv c2 9) 600)) d3) lw8,lw9,Vo]
   (TT s (CC c0 c1 c2 c3) (.int 3) (.int m) (.seq true [.int p,.int q,.int w]) (.int a) (.int g) (.int (pe a g d)) u u u u u u u) H2 n bk c Rx:=by
 rw [Ym,Ui]
 refine ⟨?_,λvs' h' hN=>?_⟩
 ·exact Eq.mpr (BD (T.t m hm.1 hm.2 a ha.1 ha.2 g hg.1 hg.2 d hd.1 hd.2)) rfl
 ·refine Kv hN λhv qa hvs=>?_;obtain ⟨t0,t1,t2,rfl⟩:=qa
  rw [hv] at hvs
  clear hN hv;subst hvs
  rw [Ym,Pb,Ym]
  refine PL (by have:=fm (Int.fdiv c2 3) (k:=3) (by decide);omega) hord ?_
  rw [Ym,Cx]
  exact PQ T hm hp hq hw
theorem II (T:Tabs) (xs:List Int) (hf:Yr (Z8 xs)=true) (hord:∀ k,Own.ord k=500+((k:Int)-ownOf xs)*JW xs) :
  ∃ M1 M2,f16 M1 M2 [.seq true (Z8 xs)] H2 Rx:=by
 generalize e0:C0 xs=c0
 generalize e1:C1 xs=c1
 generalize e2:C2' xs=c2
 generalize e3:C3 xs=c3
 have hm:=fm c2 (k:=3) (by decide)
 have ha:=fm c1 (k:=9) (by decide)
 have hg:=fm (Int.fdiv c1 9) (k:=9) (by decide)
 have hd:=fm (Int.fdiv c1 81) (k:=9) (by decide)
 have r0:=λh n b c r=>Qt (h:=h) (n:=n) (b:=b) (c:=c) (r:=r) xs hf
 rw [e0,e1,e2,e3] at r0
 have z0:=fm c0 (k:=2) (by decide)
 have cs:Int.fmod c0 2=0∨Int.fmod c0 2=1:=by omega
 refine Xi λgk=>?_;rcases cs with hs | hs <;> (refine gk ?_;clear gk)
 ·refine ⟨N1 (tn (Int.fmod c2 3)) (.seq true (Z8 xs)) (CC c0 c1 c2 c3) (.int 2) (.int (Int.fmod c2 3)) (.seq true [.int (dg c0 0),.int (dg c0 1)]) (.int (Int.fmod c1 9)) (.int (Int.fmod (Int.fdiv c1 9) 9)) (.int (pe (Int.fmod c1 9) (Int.fmod (Int.fdiv c1 9) 9) (Int.fmod (Int.fdiv c1 81) 9))),
   N2 [sg (dg c0 0),sg (dg c0 1)] (.seq true (Z8 xs)) (CC c0 c1 c2 c3) (.int 2) (.int (Int.fmod c2 3)) (.seq true [.int (dg c0 0),.int (dg c0 1)]) (.int (Int.fmod c1 9)) (.int (Int.fmod (Int.fdiv c1 9) 9)) (.int (pe (Int.fmod c1 9) (Int.fmod (Int.fdiv c1 9) 9) (Int.fmod (Int.fdiv c1 81) 9))) (.int (Int.fmod (Int.fdiv c2 3) 2)) (.int (1+Int.fmod (Int.fdiv c2 9) 600)) d2,?_⟩
  rw [Fa,Ym,r0,Ym,Sj,show 2+Int.fmod c0 2=2 by rw [hs];rfl,Ym,Pq,Ym,Sv]
  refine Pm T hm ha hg hd (fm (Int.fdiv (Int.fdiv c0 2) (3 ^ 0)) (k:=3) (by decide)) (fm (Int.fdiv (Int.fdiv c0 2) (3 ^ 1)) (k:=3) (by decide)) λk=>?_
  have:=hord k
  unfold ownOf JW Mi at this
  rw [e0,e2,hs] at this
  exact this
 ·refine ⟨N1 (tn (Int.fmod c2 3)) (.seq true (Z8 xs)) (CC c0 c1 c2 c3) (.int 3) (.int (Int.fmod c2 3)) (.seq true [.int (dg c0 0),.int (dg c0 1),.int (dg c0 2)]) (.int (Int.fmod c1 9)) (.int (Int.fmod (Int.fdiv c1 9) 9)) (.int (pe (Int.fmod c1 9) (Int.fmod (Int.fdiv c1 9) 9) (Int.fmod (Int.fdiv c1 81) 9))),
   N2 [sg (dg c0 0),sg (dg c0 1),sg (dg c0 2)] (.seq true (Z8 xs)) (CC c0 c1 c2 c3) (.int 3) (.int (Int.fmod c2 3)) (.seq true [.int (dg c0 0),.int (dg c0 1),.int (dg c0 2)]) (.int (Int.fmod c1 9)) (.int (Int.fmod (Int.fdiv c1 9) 9)) (.int (pe (Int.fmod c1 9) (Int.fmod (Int.fdiv c1 9) 9) (Int.fmod (Int.fdiv c1 81) 9))) (.int (Int.fmod (Int.fdiv c2 3) 3)) (.int (1+Int.fmod (Int.fdiv c2 9) 600)) d3,?_⟩
  rw [Fa,Ym,r0,Ym,Sj,show 2+Int.fmod c0 2=3 by rw [hs];rfl,Ym,CU,Ym,Sv]
  refine Pe T hm ha hg hd (fm (Int.fdiv (Int.fdiv c0 2) (3 ^ 0)) (k:=3) (by decide)) (fm (Int.fdiv (Int.fdiv c0 2) (3 ^ 1)) (k:=3) (by decide)) (fm (Int.fdiv (Int.fdiv c0 2) (3 ^ 2)) (k:=3) (by decide)) λk=>?_
  have:=hord k
  unfold ownOf JW Mi at this
  rw [e0,e2,hs] at this
  exact this
end
end
section
set_option tactic.hygienic false
set_option maxHeartbeats 0
section
variable [iO:Own]
theorem AL:∀ a,0≤a→a<3→∀ b,0≤b→b<3→NW (tn 0) 0 a b:=by
 refine YR ?_ ?_ ?_ <;> refine YR ?_ ?_ ?_ <;> (refine (?_:LW2 _ _ _ _=EW2 _ _ _);kernel_rfl)
theorem Ou:∀ a,0≤a→a<3→∀ b,0≤b→b<3→NW (tn 1) 1 a b:=by
 refine YR ?_ ?_ ?_ <;> refine YR ?_ ?_ ?_ <;> (refine (?_:LW2 _ _ _ _=EW2 _ _ _);kernel_rfl)
theorem Oz:∀ a,0≤a→a<3→∀ b,0≤b→b<3→NW (tn 2) 2 a b:=by
 refine YR ?_ ?_ ?_ <;> refine YR ?_ ?_ ?_ <;> (refine (?_:LW2 _ _ _ _=EW2 _ _ _);kernel_rfl)
theorem ST:∀ b,0≤b→b<3→∀ c,0≤c→c<3→JL (tn 0) 0 0 b c:=by
 refine YR ?_ ?_ ?_ <;> refine YR ?_ ?_ ?_ <;> (refine (?_:LW3 _ _ _ _ _=EW3 _ _ _ _);kernel_rfl)
theorem SQ:∀ b,0≤b→b<3→∀ c,0≤c→c<3→JL (tn 0) 0 1 b c:=by
 refine YR ?_ ?_ ?_ <;> refine YR ?_ ?_ ?_ <;> (refine (?_:LW3 _ _ _ _ _=EW3 _ _ _ _);kernel_rfl)
theorem Sa:∀ b,0≤b→b<3→∀ c,0≤c→c<3→JL (tn 0) 0 2 b c:=by
 refine YR ?_ ?_ ?_ <;> refine YR ?_ ?_ ?_ <;> (refine (?_:LW3 _ _ _ _ _=EW3 _ _ _ _);kernel_rfl)
theorem SZ:∀ b,0≤b→b<3→∀ c,0≤c→c<3→JL (tn 1) 1 0 b c:=by
 refine YR ?_ ?_ ?_ <;> refine YR ?_ ?_ ?_ <;> (refine (?_:LW3 _ _ _ _ _=EW3 _ _ _ _);kernel_rfl)
theorem SS:∀ b,0≤b→b<3→∀ c,0≤c→c<3→JL (tn 1) 1 1 b c:=by
 refine YR ?_ ?_ ?_ <;> refine YR ?_ ?_ ?_ <;> (refine (?_:LW3 _ _ _ _ _=EW3 _ _ _ _);kernel_rfl)
theorem Am:∀ b,0≤b→b<3→∀ c,0≤c→c<3→JL (tn 1) 1 2 b c:=by
 refine YR ?_ ?_ ?_ <;> refine YR ?_ ?_ ?_ <;> (refine (?_:LW3 _ _ _ _ _=EW3 _ _ _ _);kernel_rfl)
theorem SY:∀ b,0≤b→b<3→∀ c,0≤c→c<3→JL (tn 2) 2 0 b c:=by
 refine YR ?_ ?_ ?_ <;> refine YR ?_ ?_ ?_ <;> (refine (?_:LW3 _ _ _ _ _=EW3 _ _ _ _);kernel_rfl)
theorem Sc:∀ b,0≤b→b<3→∀ c,0≤c→c<3→JL (tn 2) 2 1 b c:=by
 refine YR ?_ ?_ ?_ <;> refine YR ?_ ?_ ?_ <;> (refine (?_:LW3 _ _ _ _ _=EW3 _ _ _ _);kernel_rfl)
theorem Ss:∀ b,0≤b→b<3→∀ c,0≤c→c<3→JL (tn 2) 2 2 b c:=by
 refine YR ?_ ?_ ?_ <;> refine YR ?_ ?_ ?_ <;> (refine (?_:LW3 _ _ _ _ _=EW3 _ _ _ _);kernel_rfl)
theorem tw2:∀ m,0≤m→m<3→∀ a,0≤a→a<3→∀ b,0≤b→b<3→NW (tn m) m a b:=YR AL Ou Oz
theorem tw3:∀ m,0≤m→m<3→∀ a,0≤a→a<3→∀ b,0≤b→b<3→∀ c,0≤c→c<3→JL (tn m) m a b c:=
 YR (YR ST SQ Sa) (YR SZ SS Am) (YR SY Sc Ss)
end
end
section
set_option tactic.hygienic false
set_option maxHeartbeats 0
theorem CQ {p:Int→Prop} (h:∀ a∈([0,1,2,3,4,5,6,7,8]:List Int),p a) (i:Int) (a:0≤i) (b:i<9):p i:=by
 have:i=0∨i=1∨i=2∨i=3∨i=4∨i=5∨i=6∨i=7∨i=8:=by omega
 exact h i (by simp only [List.mem_cons];simpa using this)
noncomputable def bq0:List Int:=[0,1,2]
noncomputable def bq1:List Int:=[3,4,5]
noncomputable def bq2:List Int:=[6,7,8]
noncomputable def p9:List Int:=[0,1,2,3,4,5,6,7,8]
noncomputable def box {X:Type _} (l:List Int) (f:Int→Int→X):List (List X):=@List.rec Int (λ__=>List (List X)) [] (λa __ ih=>(@List.rec Int (λ__=>List X) [] (λc __ ih2=>f a c :: ih2) p9) :: ih) l
@[reducible] noncomputable def VB [Own] (m a:Int) (l:List Int):Prop:=box l (LT (tn m) m a)=box l (RT m a)
theorem Xv [Own] {m a:Int} {l:List Int} (h:VB m a l):∀ b∈l,∀ c,0≤c→c<9→LK (tn m) m a b c:=λb hb=>
 CQ (p:=λc=>LK (tn m) m a b c) (Md (f:=LT (tn m) m a b) (g:=RT m a b) (Md (f:=λa'=>@List.rec Int (λ__=>List _) [] (λc __ ih2=>LT (tn m) m a a' c :: ih2) p9) (g:=λa'=>@List.rec Int (λ__=>List _) [] (λc __ ih2=>RT m a a' c :: ih2) p9) h b hb))
theorem b3 {p:Int→Prop} (h0:∀ b∈bq0,p b) (h1:∀ b∈bq1,p b) (h2:∀ b∈bq2,p b):∀ b,0≤b→b<9→p b:=
 CQ (p:=p) λb hb=>(List.mem_append.mp (show b∈bq0++(bq1++bq2) from hb)).elim (h0 b) λhb=>(List.mem_append.mp hb).elim (h1 b) (h2 b)
theorem i9 {p:Int→Prop} (h0:p 0) (h1:p 1) (h2:p 2) (h3:p 3) (h4:p 4) (h5:p 5) (h6:p 6) (h7:p 7) (h8:p 8):∀ i,0≤i→i<9→p i:=
 CQ (fc h0 (fc h1 (fc h2 (fc h3 (fc h4 (fc h5 (fc h6 (fc h7 (fc h8 λ__ h=>nomatch h)))))))))
section
variable [iO:Own]
theorem Os:VB 0 0 bq0:=by kernel_rfl
theorem OD:VB 0 0 bq1:=by kernel_rfl
theorem OT:VB 0 0 bq2:=by kernel_rfl
theorem AF:VB 0 1 bq0:=by kernel_rfl
theorem At:VB 0 1 bq1:=by kernel_rfl
theorem Qw:VB 0 1 bq2:=by kernel_rfl
theorem Qb:VB 0 2 bq0:=by kernel_rfl
theorem Qe:VB 0 2 bq1:=by kernel_rfl
theorem O8:VB 0 2 bq2:=by kernel_rfl
theorem O4:VB 0 3 bq0:=by kernel_rfl
theorem Qq:VB 0 3 bq1:=by kernel_rfl
theorem Qx:VB 0 3 bq2:=by kernel_rfl
theorem AY:VB 0 4 bq0:=by kernel_rfl
theorem Av:VB 0 4 bq1:=by kernel_rfl
theorem OU:VB 0 4 bq2:=by kernel_rfl
theorem Ot:VB 0 5 bq0:=by kernel_rfl
theorem AP:VB 0 5 bq1:=by kernel_rfl
theorem AJ:VB 0 5 bq2:=by kernel_rfl
theorem Qr:VB 0 6 bq0:=by kernel_rfl
theorem Ox:VB 0 6 bq1:=by kernel_rfl
theorem Oq:VB 0 6 bq2:=by kernel_rfl
theorem Qi:VB 0 7 bq0:=by kernel_rfl
theorem O3:VB 0 7 bq1:=by kernel_rfl
theorem AB:VB 0 7 bq2:=by kernel_rfl
theorem AG:VB 0 8 bq0:=by kernel_rfl
theorem Qy:VB 0 8 bq1:=by kernel_rfl
theorem OJ:VB 0 8 bq2:=by kernel_rfl
theorem tt0:∀ a,0≤a→a<9→∀ b,0≤b→b<9→∀ c,0≤c→c<9→LK (tn 0) 0 a b c:=i9 (b3 (Xv Os) (Xv OD) (Xv OT)) (b3 (Xv AF) (Xv At) (Xv Qw)) (b3 (Xv Qb) (Xv Qe) (Xv O8)) (b3 (Xv O4) (Xv Qq) (Xv Qx)) (b3 (Xv AY) (Xv Av) (Xv OU)) (b3 (Xv Ot) (Xv AP) (Xv AJ)) (b3 (Xv Qr) (Xv Ox) (Xv Oq)) (b3 (Xv Qi) (Xv O3) (Xv AB)) (b3 (Xv AG) (Xv Qy) (Xv OJ))
end
end
section
set_option tactic.hygienic false
set_option maxHeartbeats 0
section
variable [iO:Own]
theorem OL:VB 1 0 bq0:=by kernel_rfl
theorem OC:VB 1 0 bq1:=by kernel_rfl
theorem Qs:VB 1 0 bq2:=by kernel_rfl
theorem AC:VB 1 1 bq0:=by kernel_rfl
theorem OF:VB 1 1 bq1:=by kernel_rfl
theorem Oc:VB 1 1 bq2:=by kernel_rfl
theorem Qp:VB 1 2 bq0:=by kernel_rfl
theorem Aq:VB 1 2 bq1:=by kernel_rfl
theorem OZ:VB 1 2 bq2:=by kernel_rfl
theorem Qo:VB 1 3 bq0:=by kernel_rfl
theorem OW:VB 1 3 bq1:=by kernel_rfl
theorem Oh:VB 1 3 bq2:=by kernel_rfl
theorem Ax:VB 1 4 bq0:=by kernel_rfl
theorem AX:VB 1 4 bq1:=by kernel_rfl
theorem AZ:VB 1 4 bq2:=by kernel_rfl
theorem Qc:VB 1 5 bq0:=by kernel_rfl
theorem Om:VB 1 5 bq1:=by kernel_rfl
theorem Oe:VB 1 5 bq2:=by kernel_rfl
theorem OH:VB 1 6 bq0:=by kernel_rfl
theorem AO:VB 1 6 bq1:=by kernel_rfl
theorem O7:VB 1 6 bq2:=by kernel_rfl
theorem AE:VB 1 7 bq0:=by kernel_rfl
theorem Ap:VB 1 7 bq1:=by kernel_rfl
theorem Ow:VB 1 7 bq2:=by kernel_rfl
theorem Oy:VB 1 8 bq0:=by kernel_rfl
theorem Qn:VB 1 8 bq1:=by kernel_rfl
theorem AV:VB 1 8 bq2:=by kernel_rfl
theorem tt1:∀ a,0≤a→a<9→∀ b,0≤b→b<9→∀ c,0≤c→c<9→LK (tn 1) 1 a b c:=i9 (b3 (Xv OL) (Xv OC) (Xv Qs)) (b3 (Xv AC) (Xv OF) (Xv Oc)) (b3 (Xv Qp) (Xv Aq) (Xv OZ)) (b3 (Xv Qo) (Xv OW) (Xv Oh)) (b3 (Xv Ax) (Xv AX) (Xv AZ)) (b3 (Xv Qc) (Xv Om) (Xv Oe)) (b3 (Xv OH) (Xv AO) (Xv O7)) (b3 (Xv AE) (Xv Ap) (Xv Ow)) (b3 (Xv Oy) (Xv Qn) (Xv AV))
end
end
section
set_option tactic.hygienic false
set_option maxHeartbeats 0
section
variable [iO:Own]
theorem AN:VB 2 0 bq0:=by kernel_rfl
theorem AK:VB 2 0 bq1:=by kernel_rfl
theorem AA:VB 2 0 bq2:=by kernel_rfl
theorem AQ:VB 2 1 bq0:=by kernel_rfl
theorem Qu:VB 2 1 bq1:=by kernel_rfl
theorem Az:VB 2 1 bq2:=by kernel_rfl
theorem On:VB 2 2 bq0:=by kernel_rfl
theorem AR:VB 2 2 bq1:=by kernel_rfl
theorem Qv:VB 2 2 bq2:=by kernel_rfl
theorem OM:VB 2 3 bq0:=by kernel_rfl
theorem OP:VB 2 3 bq1:=by kernel_rfl
theorem AH:VB 2 3 bq2:=by kernel_rfl
theorem Oi:VB 2 4 bq0:=by kernel_rfl
theorem Og:VB 2 4 bq1:=by kernel_rfl
theorem AI:VB 2 4 bq2:=by kernel_rfl
theorem Oo:VB 2 5 bq0:=by kernel_rfl
theorem ON:VB 2 5 bq1:=by kernel_rfl
theorem AT:VB 2 5 bq2:=by kernel_rfl
theorem AW:VB 2 6 bq0:=by kernel_rfl
theorem Aw:VB 2 6 bq1:=by kernel_rfl
theorem AM:VB 2 6 bq2:=by kernel_rfl
theorem AD:VB 2 7 bq0:=by kernel_rfl
theorem Qa:VB 2 7 bq1:=by kernel_rfl
theorem Qj:VB 2 7 bq2:=by kernel_rfl
theorem Ay:VB 2 8 bq0:=by kernel_rfl
theorem Ol:VB 2 8 bq1:=by kernel_rfl
theorem OS:VB 2 8 bq2:=by kernel_rfl
theorem tt2:∀ a,0≤a→a<9→∀ b,0≤b→b<9→∀ c,0≤c→c<9→LK (tn 2) 2 a b c:=i9 (b3 (Xv AN) (Xv AK) (Xv AA)) (b3 (Xv AQ) (Xv Qu) (Xv Az)) (b3 (Xv On) (Xv AR) (Xv Qv)) (b3 (Xv OM) (Xv OP) (Xv AH)) (b3 (Xv Oi) (Xv Og) (Xv AI)) (b3 (Xv Oo) (Xv ON) (Xv AT)) (b3 (Xv AW) (Xv Aw) (Xv AM)) (b3 (Xv AD) (Xv Qa) (Xv Qj)) (b3 (Xv Ay) (Xv Ol) (Xv OS))
end
end
section
set_option tactic.hygienic false
noncomputable def frd:Obj:={ cls:=.none,data:=.freed }
noncomputable def Gh (h:Heap) (p q:Addr):Heap:=⟨(h.objs.setIfInBounds p frd).setIfInBounds q frd,h.life⟩
theorem GR {h:Heap} {p q:Addr}:(Gh h p q).objs.size=h.objs.size:=by simp [Gh]
theorem Tl {h:Heap} {p q a:Addr} (hp:a≠p) (hq:a≠q):(Gh h p q).get? a=h.get? a:=by
 unfold Heap.get? Gh
 rw [Array.getElem?_setIfInBounds_ne (Ne.symm hq),Array.getElem?_setIfInBounds_ne (Ne.symm hp)]
theorem Bt {h:Heap} {a:Addr} (e:h.objs[a]?=some frd):h.get? a=none:=by
 unfold Heap.get?;rw [e];rfl
theorem R0 {h:Heap} {a:Addr} (e:h.objs[a]?=none):h.get? a=none:=by
 unfold Heap.get?;rw [e]
theorem MG {h:Heap} {p q:Addr}:(Gh h p q).get? q=none:=by
 by_cases hl:q<h.objs.size
 ·refine Bt ?_
  show ((h.objs.setIfInBounds p frd).setIfInBounds q frd)[q]?=_
  rw [Array.getElem?_setIfInBounds_self_of_lt (by simpa using hl)]
 ·exact R0 (Array.getElem?_eq_none (by rw [GR];exact Nat.le_of_not_lt hl))
theorem RS {h:Heap} {p q:Addr}:(Gh h p q).get? p=none:=by
 by_cases e:p=q
 ·subst e;exact MG
 by_cases hl:p<h.objs.size
 ·refine Bt ?_
  show ((h.objs.setIfInBounds p frd).setIfInBounds q frd)[p]?=_
  rw [Array.getElem?_setIfInBounds_ne (Ne.symm e),Array.getElem?_setIfInBounds_self_of_lt hl]
 ·exact R0 (Array.getElem?_eq_none (by rw [GR];exact Nat.le_of_not_lt hl))
theorem HJ {h:Heap} {p q a:Addr} {o:Obj} (e:(Gh h p q).get? a=some o):h.get? a=some o∧a≠p∧a≠q:=by
 by_cases hp:a=p
 ·subst hp;rw [RS] at e;cases e
 by_cases hq:a=q
 ·subst hq;rw [MG] at e;cases e
 exact ⟨by rw [← Tl hp hq];exact e,hp,hq⟩
structure TwoTabs (h:Heap) (p q:Addr):Prop where
 p:h.get? p=some (Yz #[])
 q:h.get? q=some (Yz #[])
theorem TwoTabs.at_ {h:Heap} {p q a:Addr} {o:Obj} (T:TwoTabs h p q) (e:h.get? a=some o) (hd:o.data≠.fields #[]):(Gh h p q).get? a=some o:=by
 rw [Tl]
 ·exact e
 ·rintro rfl;rw [T.p] at e;cases e;exact hd rfl
 ·rintro rfl;rw [T.q] at e;cases e;exact hd rfl
theorem TwoTabs.ns {h:Heap} {p q a:Addr} {m:Str→Option Value} (T:TwoTabs h p q) (n:h.Ns a m):(Gh h p q).Ns a m:=by
 refine Xi λgk=>?_
 refine n.elim λo zz=>zz.elim λes zz=>zz.elim λep zz=>zz.elim λe zz=>zz.elim λhd r=>?_
 refine gk ?_;clear gk
 exact ⟨o,es,ep,T.at_ e (by rw [hd];intro z;cases z),hd,r⟩
theorem TwoTabs.code {h:Heap} {p q:Addr} {c:Value} {n:Str} (T:TwoTabs h p q) (x:h.CodeRec c n):(Gh h p q).CodeRec c n:=by
 refine Xi λgk=>?_
 obtain ⟨c,o,vs,t,rfl,e,hd,hv⟩:=x
 refine gk ?_;clear gk
 refine ⟨c,o,vs,t,rfl,T.at_ e ?_,hd,hv⟩
 rw [hd]
 intro z
 clear hd;cases z
 cases hv
end
section
noncomputable def Ld (K:Frag) (f:Addr):Option FuncData:=match K.lookup f with
 | some ⟨_,_,.func fd,_⟩=>some fd
 | _=>none
theorem FO {K:Frag} {f:Addr} {fd:FuncData} (e:Ld K f=some fd):∃ oc od sl,K.lookup f=some ⟨oc,od,.func fd,sl⟩:=by
 unfold Ld at e
 split at e
 ·rename_i h;cases e;exact ⟨_,_,_,h⟩
 ·cases e
noncomputable def GZ (K:Frag) (c:Addr):Option (Array Value):=match K.lookup c with
 | some ⟨_,_,.fields vs,_⟩=>some vs
 | _=>none
theorem Ft {K:Frag} {f:Addr} {vs:Array Value} (e:GZ K f=some vs):∃ oc od sl,K.lookup f=some ⟨oc,od,.fields vs,sl⟩:=by
 unfold GZ at e
 split at e
 ·rename_i h;cases e;exact ⟨_,_,_,h⟩
 ·cases e
theorem NH {K:Frag} {f:Addr} {vs:Array Value} (e:GZ K f=some vs) {C':Prop} (f':∀ oc od sl,K.lookup f=some ⟨oc,od,.fields vs,sl⟩→C'):C':=by refine (Ft e).elim λoc zz=>zz.elim λod zz=>zz.elim λsl q0=>?_;exact f' oc od sl q0
noncomputable abbrev Sig:=Str×Str×Arguments×FuncBody×Scope×Addr×List (Str×Addr)×Value×Value×Addr
noncomputable def Ch (fd:FuncData):Sig:=(fd.name,fd.qualname,fd.params,fd.body,fd.scope,fd.globals,fd.closure,fd.defaults,fd.kwdefaults,fd.builtins)
noncomputable def Zz (K:Frag) (f:Addr):Option Sig:=(Ld K f).map Ch
noncomputable def JP (K:Frag) (f:Addr):Option Value:=(Ld K f).map (·.code)
noncomputable def VP (name qual:Str) (i j:Nat) (cl:List (Str×Addr)) (dV:Value):Option Sig:=some (name,qual,Bg i j,.stmts (V0 i j),X6 i j,mainGlobals,cl,dV,.none,builtinsNs)
noncomputable def FZ:Option Sig:=some ("_law_stream","_law_stream",ZZ 18,.stmts (Yl 18),Yj 18,mainGlobals,[],.none,.none,builtinsNs)
theorem Wn {K:Frag} {f:Addr} {name qual:Str} {params:Arguments} {body:List Stmt} {scope:Scope} {cl:List (Str×Addr)} {dV kV:Value} (h:Zz K f=some (name,qual,params,.stmts body,scope,mainGlobals,cl,dV,kV,builtinsNs)) :
  ∃ oc od sl doc pm an cdv ct,K.lookup f=some ⟨oc,od,.func { name:=name,qualname:=qual,params:=params,body:=.stmts body,scope:=scope,globals:=mainGlobals,closure:=cl,defaults:=dV,kwdefaults:=kV,doc:=doc,pyModule:=pm,annotations:=an,code:=cdv,closureTuple:=ct,builtins:=builtinsNs },sl⟩∧JP K f=some cdv∧(Ld K f).map (λfd=>(fd.annotations,fd.closureTuple))=some (an,ct):=by
 obtain ⟨fd,hf,e⟩:=Option.map_eq_some_iff.mp h
 obtain ⟨oc,od,sl,hl⟩:=FO hf
 unfold JP
 rw [hf]
 obtain ⟨a1,a2,a3,a4,a5,a6,a7,a8,a9,a10,a11,a12,a13,a14,a15⟩:=fd
 simp only [Ch,Prod.mk.injEq] at e
 clear h hf;obtain ⟨rfl,rfl,rfl,rfl,rfl,rfl,rfl,rfl,rfl,rfl⟩:=e
 exact ⟨oc,od,sl,_,_,_,_,_,hl,rfl,rfl⟩
theorem G8 {K:Frag} {f:Addr} {name qual:Str} {params:Arguments} {body:List Stmt} {scope:Scope} {cl:List (Str×Addr)} {dV kV:Value} (h:Zz K f=some (name,qual,params,.stmts body,scope,mainGlobals,cl,dV,kV,builtinsNs)) {C':Prop} (f':∀ oc od sl doc pm an cdv ct,K.lookup f=some ⟨oc,od,.func { name:=name,qualname:=qual,params:=params,body:=.stmts body,scope:=scope,globals:=mainGlobals,closure:=cl,defaults:=dV,kwdefaults:=kV,doc:=doc,pyModule:=pm,annotations:=an,code:=cdv,closureTuple:=ct,builtins:=builtinsNs },sl⟩→JP K f=some cdv→((Ld K f).map (λfd=>(fd.annotations,fd.closureTuple))=some (an,ct))→C'):C':=by refine (Wn h).elim λoc zz=>zz.elim λod zz=>zz.elim λsl zz=>zz.elim λdoc zz=>zz.elim λpm zz=>zz.elim λan zz=>zz.elim λcdv zz=>zz.elim λct zz=>zz.elim λq0 zz=>zz.elim λq1 q2=>?_;exact f' oc od sl doc pm an cdv ct q0 q1 q2
structure MOk (K:Frag) (f c:Addr) (name qual:Str) (i j:Nat) (cl:List (Str×Addr)) (dV:Value) (t:Tok):Prop where
 d:Zz K f=VP name qual i j cl dV
 e:JP K f=some (.ref c)
 q:codeIn K (.ref c) qual=true
 f:(GZ K c).bind (·[2]?)=some (.str pw.main.file t)
theorem WF:(pw.main.file==pw.main.file)=true:=by decide +kernel
theorem MOk.mfn [Own] {f c:Addr} {name qual:Str} {i j:Nat} {cl:List (Str×Addr)} {dV:Value} {t:Tok} (h:MOk Own.KK f c name qual i j cl dV t):MFn f name qual i j cl dV:=by
 refine Xi λgk=>?_
 refine G8 h.d λoc od sl doc pm an cdv ct hl e __=>?_
 have e:cdv=.ref c:=Option.some.inj (e.symm.trans h.e)
 refine (Option.bind_eq_some_iff.mp h.f).elim λvs zz=>zz.elim λhv hf=>?_
 refine NH hv λcc cd cs hc=>?_
 refine gk ?_;clear gk
 exact ⟨oc,od,sl,doc,pm,an,c,ct,vs,pw.main.file,t,cc,cd,cs,e▸hl,h.q,hc,hf,WF⟩
noncomputable def V1 (K:Frag) (a:Addr):Option Data:=(K.lookup a).map (·.data)
theorem Nn {K:Frag} {a:Addr} {d:Data} (e:V1 K a=some d):∃ oc od sl,K.lookup a=some ⟨oc,od,d,sl⟩:=by
 refine Xi λgk=>?_
 obtain ⟨⟨oc,od,d',sl⟩,h,rfl⟩:=Option.map_eq_some_iff.mp e
 refine gk ?_;clear gk
 exact ⟨_,_,_,h⟩
theorem Ti {K:Frag} {a:Addr} {d:Data} (e:V1 K a=some d) {C':Prop} (f':∀ oc od sl,K.lookup a=some ⟨oc,od,d,sl⟩→C'):C':=by refine (Nn e).elim λoc zz=>zz.elim λod zz=>zz.elim λsl q0=>?_;exact f' oc od sl q0
theorem Bz {α β:Type} {f:α→β} {x:Option α} {y:β} (e:x.map f=some y):∃ a,x=some a∧f a=y:=Option.map_eq_some_iff.mp e
theorem Vl {α β:Type} {f:α→β} {x:Option α} {y:β} (e:x.map f=some y) {C':Prop} (f':∀ a,x=some a→f a=y→C'):C':=by refine (Bz e).elim λa zz=>zz.elim λq0 q1=>?_;exact f' a q0 q1
noncomputable def UQ (vs:Array Value):Option Value×Value×Value×Value×Value×Value:=(vs[11]?,vs.getD 11 .none,vs.getD 18 .none,vs.getD 7 .none,vs.getD 9 .none,vs.getD 10 .none)
noncomputable def Uw (K:Frag) (a:Addr):Option Value:=(K.lookup a).map (·.cls)
structure COk (K:Frag) (c p:Addr) (t:Tok):Prop where
 r:(GZ K c).map UQ=some (some (.ref p),.ref p,.str pw.main.file t,.int 3 0,.bool true,.int 181 0)
 c:Uw K c=some (.type "code")
theorem COk.inv {K:Frag} {c p:Addr} {t:Tok} (h:COk K c p t):∃ od sl vs,K.lookup c=some ⟨.type "code",od,.fields vs,sl⟩∧UQ vs=(some (.ref p),.ref p,.str pw.main.file t,.int 3 0,.bool true,.int 181 0):=by
 refine Xi λgk=>?_
 refine Vl h.r λvs hv e=>?_
 refine NH hv λoc od sl hl=>?_
 refine gk ?_;clear gk
 have:oc=.type "code":=by have:=h.c;unfold Uw at this;rw [hl] at this;exact Option.some.inj this
 exact ⟨od,sl,vs,this▸hl,e⟩
theorem COk.invE {K:Frag} {c p:Addr} {t:Tok} (h:COk K c p t) {C':Prop} (f':∀ od sl vs,K.lookup c=some ⟨.type "code",od,.fields vs,sl⟩→UQ vs=(some (.ref p),.ref p,.str pw.main.file t,.int 3 0,.bool true,.int 181 0)→C'):C':=by refine (COk.inv h).elim λod zz=>zz.elim λsl zz=>zz.elim λvs zz=>zz.elim λq0 q1=>?_;exact f' od sl vs q0 q1
theorem W7 {K:Frag} {h:Heap} {a:Addr} {mg:Str→Option Value} {n:Str} (X:K.In h) (G:h.Ns a mg) (e:nsIn K a n=some none):mg n=none:=by
 refine Xi λgk=>?_
 obtain ⟨o,es,ep,ho,hd,_,hf⟩:=G
 refine gk ?_;clear gk
 unfold nsIn at e
 split at e
 ·rename_i c d es' n' sl q
  have:=X _ _ q
  rw [ho] at this
  cases this
  clear ho q;cases hd
  split at e
  ·cases e
  ·rename_i he
   rw [← hf]
   unfold nsFind findBy
   rw [← Array.find?_toList,he]
   rfl
 ·cases e
end
section
set_option tactic.hygienic false
@[reducible] noncomputable def hdA:OwnA:={ cAcc:=101,cc:=25,fInit:=38,fLen:=68,fPop:=61,fReset:=83,fPart:=98 }
@[reducible] noncomputable def hdL:OwnL:={ cLex:=178,fLI:=154,fRC:=161,fGT:=168,fPT:=175,cS:=221,pS:=219 }
@[reducible] noncomputable def hdX:OwnX:={ tR:=76,tI:=30,cL:=67,pL:=63 }
noncomputable def Ar (o:MO) (as:List (Addr×Obj)) (us:List Value) (xs:List MV):Prop:=match o with
 | .acc ys n=>xs=ys∧@Ct hdA n as us
 | .lex t p l=>xs=p∧@Cn hdL t l us as
 | .tab 0=>us=[]∧xs=[]∧Cm 63 as
 | .tab 1=>us=[]∧xs=[]∧∃ op,as=[(219,op)]∧op.data=.fields #[]∧op=Yz #[]
 | .tab 2=>us=[]∧xs=[]∧∃ op,as=[(219,op)]∧∃ ps,op=Yz ps
 | _=>False
@[reducible] noncomputable def hdO (K:Frag) (ord:Nat→Int):Own:={ KK:=K,cDisc:=213,fLt:=210,tDisc:=452,ord:=ord,shx:=Ar,txt:=λs w n=>∃ l,s=toS l∧TOk l w n }
structure MethK (K:Frag) (C:Addr) (name:Str) (f:Addr):Prop where
 hf:findIn K (.ref C) name=some (some (.ref f))
 ht:typeIn K (.ref f)=some (.type "function")
 kp:keepIn K (.ref f)=true
noncomputable def Ur:List Str:=["range","len","max","min","sum","tuple","int","list","hasattr","iter","super"]
section
noncomputable def Sb (K:Frag):List (Option (Option Value)):=[nsIn K mainGlobals "_Accumulator",nsIn K mainGlobals "BaseHandler",nsIn K mainGlobals "_netrclex",nsIn K mainGlobals "_law_stream",nsIn K mainGlobals "ONE_THIRD",nsIn K mainGlobals "ONE_SIXTH",nsIn K mainGlobals "TWO_THIRD",nsIn K cStatics sharingNotToldKey,nsIn K cStatics "thirdparty.any",findIn K (.ref 213) "__init__",findIn K (.ref 213) "__setattr__",takerIn K 213 "handler_order",findIn K (.ref 213) "handler_order",specialIn K (.int 500 452) "__get__",findIn K (.ref 213) "__lt__",findIn K (.ref 213) "__getattribute__",alongIn K "__len__" [.type "list",.type "object"],alongIn K "pop" [.type "list",.type "object"],findIn K (.ref 101) "__setitem__",findIn K (.ref 101) "__setattr__",findIn K (.ref 101) "_initial_size",alongIn K "__init__" [.type "list",.type "object"],findIn K (.ref 101) "__init__",findIn K (.ref 101) "__iter__",findIn K (.ref 101) "__getattribute__",findIn K (.ref 101) "__getattr__",findIn K (.ref 101) "__len__",findIn K (.ref 101) "part_count",findIn K (.ref 101) "pop",findIn K (.ref 101) "reset",findIn K (.ref 178) "__getattribute__",findIn K (.ref 178) "__getattr__",findIn K (.ref 178) "__setattr__",findIn K (.ref 178) "lineno",findIn K (.ref 178) "instream",findIn K (.ref 178) "whitespace",findIn K (.ref 178) "pushback",findIn K (.ref 178) "_read_char",specialIn K (.ref 161) "__get__",findIn K (.ref 178) "__init__",findIn K (.ref 178) "get_token",findIn K (.ref 178) "push_token"]
noncomputable def Ad:List (Option (Option Value)):=[some (some (.ref 101)),some (some (.ref 213)),some (some (.ref 178)),some (some (.ref 222)),some (some (.float 0x3fd5555555555555 297)),some (some (.float 0x3fc5555555555555 301)),some (some (.float 0x3fe5555555555555 305)),some none,some none,some (some (.builtin "object.__init__")),some (some (.builtin "object.__setattr__")),some none,some (some (.int 500 452)),some none,some (some (.ref 210)),some (some (.builtin "object.__getattribute__")),some (some (.builtin "list.__len__")),some (some (.builtin "list.pop")),some (some (.builtin "list.__setitem__")),some (some (.builtin "object.__setattr__")),some none,some (some (.builtin "list.__init__")),some (some (.ref 38)),some (some (.builtin "list.__iter__")),some (some (.builtin "list.__getattribute__")),some none,some (some (.ref 68)),some (some (.ref 98)),some (some (.ref 61)),some (some (.ref 83)),some (some (.builtin "object.__getattribute__")),some none,some (some (.builtin "object.__setattr__")),some none,some none,some none,some none,some (some (.ref 161)),some (some (.builtin "function.__get__")),some (some (.ref 154)),some (some (.ref 168)),some (some (.ref 175))]
noncomputable def S9 (K:Frag):List (Bool):=[(K.lookup sysModules).isSome,keepIn K (.ref 213),makesIn K 213,plainOver K 213,hasDictIn K 213,plainGet K 213 "handler_order",isFn K (.ref 210),codeIn K (.ref 209) "BaseHandler.__lt__",notFirst K 213 (.type "str"),keepIn K (.ref 101),JU K 101,codeIn K (.ref 97) "_Accumulator.part_count",codeIn K (.ref 60) "_Accumulator.pop",codeIn K (.ref 82) "_Accumulator.reset",noSeq K 101,codeIn K (.ref 37) "_Accumulator.__init__",codeIn K (.ref 67) "_Accumulator.__len__",hasDictIn K 101,isFn K (.ref 68),keepIn K (.ref 98),keepIn K (.ref 61),keepIn K (.ref 83),keepIn K (.ref 178),hasDictIn K 178,codeIn K (.ref 160) "_netrclex._read_char",keepIn K (.ref 161),codeIn K (.ref 167) "_netrclex.get_token",codeIn K (.ref 174) "_netrclex.push_token",codeIn K (.ref 153) "_netrclex.__init__",makesIn K 178,keepIn K (.ref 168),keepIn K (.ref 175),codeIn K (.ref 221) "_law_stream"]
noncomputable def P1:List (Bool):=List.replicate 33 true
noncomputable def P0 (K:Frag):List (Option Value):=[JP K 210,JP K 98,(GZ K 97).bind (·[2]?),JP K 61,(GZ K 60).bind (·[2]?),typeIn K (.ref 101),JP K 83,(GZ K 82).bind (·[2]?),JP K 38,(GZ K 37).bind (·[2]?),typeIn K (.ref 38),JP K 68,Uw K 67,typeIn K (.ref 98),typeIn K (.ref 61),typeIn K (.ref 83),JP K 161,(GZ K 160).bind (·[2]?),typeIn K (.ref 161),JP K 168,(GZ K 167).bind (·[2]?),JP K 175,(GZ K 174).bind (·[2]?),JP K 154,(GZ K 153).bind (·[2]?),typeIn K (.ref 154),typeIn K (.ref 168),typeIn K (.ref 175),JP K 222,Uw K 222,Uw K 221]
noncomputable def SV:List (Option Value):=[some (.ref 209),some (.ref 97),some (.str pw.main.file 277),some (.ref 60),some (.str pw.main.file 240),some (.type "type"),some (.ref 82),some (.str pw.main.file 262),some (.ref 37),some (.str pw.main.file 213),some (.type "function"),some (.ref 67),some (.type "code"),some (.type "function"),some (.type "function"),some (.type "function"),some (.ref 160),some (.str pw.main.file 402),some (.type "function"),some (.ref 167),some (.str pw.main.file 410),some (.ref 174),some (.str pw.main.file 420),some (.ref 153),some (.str pw.main.file 394),some (.type "function"),some (.type "function"),some (.type "function"),some (.ref 221),some (.type "function"),some (.type "code")]
noncomputable def Sg (K:Frag):List (Option Bool):=[subIn K (.ref 213) (.type "module"),mroIn K 101 (.ref 101),mroIn K 101 (.type "list"),subIn K (.ref 101) (.type "module"),takesIn K (.ref 161)]
noncomputable def Ab:List (Option Bool):=[some false,some true,some true,some false,some false]
noncomputable def Sm (K:Frag):List (Option Sig):=[Zz K 210,Zz K 98,Zz K 61,Zz K 83,Zz K 38,Zz K 68,Zz K 161,Zz K 168,Zz K 175,Zz K 154,Zz K 222]
noncomputable def SA:List (Option Sig):=[VP "__lt__" "BaseHandler.__lt__" 16 3 [] .none,VP "part_count" "_Accumulator.part_count" 3 8 [("__class__",25)] .none,VP "pop" "_Accumulator.pop" 3 3 [("__class__",25)] .none,VP "reset" "_Accumulator.reset" 3 6 [] (.ref 76),VP "__init__" "_Accumulator.__init__" 3 0 [("__class__",25)] (.ref 30),VP "__len__" "_Accumulator.__len__" 3 4 [] .none,VP "_read_char" "_netrclex._read_char" 14 1 [] .none,VP "get_token" "_netrclex.get_token" 14 2 [] .none,VP "push_token" "_netrclex.push_token" 14 3 [] .none,VP "__init__" "_netrclex.__init__" 14 0 [] .none,FZ]
noncomputable def Ag (K:Frag):List (Option Data):=[V1 K 25,V1 K 76,V1 K 30]
noncomputable def An:List (Option Data):=[some (.cell (some (.ref 101))),some (.seq #[.none]),some (.seq #[.int 0 210])]
noncomputable def Sy (K:Frag):List (Option (Option Value×Value×Value×Value×Value×Value)):=[(GZ K 67).map UQ,(GZ K 221).map UQ]
noncomputable def SR:List (Option (Option Value×Value×Value×Value×Value×Value)):=[some (some (.ref 63),.ref 63,.str pw.main.file 251,.int 3 0,.bool true,.int 181 0),some (some (.ref 219),.ref 219,.str pw.main.file 491,.int 3 0,.bool true,.int 181 0)]
structure SeeT where
 v:List (Option (Option Value))
 b:List (Bool)
 t:List (Option Value)
 o:List (Option Bool)
 s:List (Option Sig)
 d:List (Option Data)
 f:List (Option (Option Value×Value×Value×Value×Value×Value))
 no:List (Option (Option Value))
 an:Option (Option Addr×Value)
 c0:Option (List Value)
 c1:Option (List Value×Bool)
 c2:Option Str
 c3:Option (List Value×Bool)
 ts:List (Option Obj)
noncomputable def KP (K:Frag) (ts:List (Option Obj)):SeeT:=⟨Sb K,S9 K,P0 K,Sg K,Sm K,Ag K,Sy K,Ur.map (nsIn K mainGlobals),(Ld K 222).map (λfd=>(fd.annotations,fd.closureTuple)),(clsIn K 101).map (λcd=>(cd.mro.dropWhile (· != Value.ref 101)).drop 1),(clsIn K 101).map (λcd=>(cd.mro,cd.hasDict)),(clsIn K 101).map (λcd=>cd.qualname),(clsIn K 178).map (λcd=>(cd.mro,cd.hasDict)),ts⟩
noncomputable def Tk:SeeT:=⟨Ad,P1,SV,Ab,SA,An,SR,Ur.map (λ__=>some none),some (none,Value.none),some [Value.type "list",Value.type "object"],some ([Value.ref 101,Value.type "list",Value.type "object"],true),some ("_Accumulator":Str),some ([Value.ref 178,Value.type "object"],true),[some (Yz #[]),some (Yz #[])]⟩
noncomputable def We {α:Type} (d:α):List α→Nat→α
 | [],_=>d
 | x :: _,0=>x
 | _ :: r,n+1=>We d r n
end
theorem N {α:Type} [Inhabited α] {l r:List α} (e:l=r) (i:Nat):We default l i=We default r i:=congrArg (We default · i) e
noncomputable def tsW:List (Option Obj):=[some (Yz #[]),some (Yz #[])]
noncomputable def Xm (K:Frag):Prop:=KP K tsW=Tk
variable {K:Frag}
theorem FM {ts:List (Option Obj)} (e:KP K ts=Tk):Xm K∧ts=tsW:=by
 have h:ts=tsW:=congrArg SeeT.ts e
 subst h
 exact ⟨e,rfl⟩
theorem Xm.eV (h:Xm K):Sb K=Ad:=congrArg SeeT.v h
theorem Xm.eB (h:Xm K):S9 K=P1:=congrArg SeeT.b h
theorem Xm.eT (h:Xm K):P0 K=SV:=congrArg SeeT.t h
theorem Xm.eO (h:Xm K):Sg K=Ab:=congrArg SeeT.o h
theorem Xm.eS (h:Xm K):Sm K=SA:=congrArg SeeT.s h
theorem Xm.eD (h:Xm K):Ag K=An:=congrArg SeeT.d h
theorem Xm.eF (h:Xm K):Sy K=SR:=congrArg SeeT.f h
theorem Xm.gAcc (h:Xm K):nsIn K mainGlobals "_Accumulator" = some (some (.ref 101)):=N h.eV 0
theorem Xm.gDisc (h:Xm K):nsIn K mainGlobals "BaseHandler" = some (some (.ref 213)):=N h.eV 1
theorem Xm.gLex (h:Xm K):nsIn K mainGlobals "_netrclex" = some (some (.ref 178)):=N h.eV 2
theorem Xm.gStr (h:Xm K):nsIn K mainGlobals "_law_stream" = some (some (.ref 222)):=N h.eV 3
theorem Xm.f1 (h:Xm K):nsIn K mainGlobals "ONE_THIRD" = some (some (.float 0x3fd5555555555555 297)):=N h.eV 4
theorem Xm.f2 (h:Xm K):nsIn K mainGlobals "ONE_SIXTH" = some (some (.float 0x3fc5555555555555 301)):=N h.eV 5
theorem Xm.f3 (h:Xm K):nsIn K mainGlobals "TWO_THIRD" = some (some (.float 0x3fe5555555555555 305)):=N h.eV 6
theorem Xm.gNo (h:Xm K):Ur.map (nsIn K mainGlobals)=Ur.map λ__=>some none:=congrArg SeeT.no h
theorem Xm.sys (h:Xm K):(K.lookup sysModules).isSome=true:=N h.eB 0
theorem Xm.bk (h:Xm K):nsIn K cStatics sharingNotToldKey=some none:=N h.eV 7
theorem Xm.opq (h:Xm K):nsIn K cStatics "thirdparty.any" = some none:=N h.eV 8
theorem Xm.dKeep (h:Xm K):keepIn K (.ref 213)=true:=N h.eB 1
theorem Xm.dMakes (h:Xm K):makesIn K 213=true:=N h.eB 2
theorem Xm.dInit (h:Xm K):findIn K (.ref 213) "__init__" = some (some (.builtin "object.__init__")):=N h.eV 9
theorem Xm.dSet (h:Xm K):findIn K (.ref 213) "__setattr__" = some (some (.builtin "object.__setattr__")):=N h.eV 10
theorem Xm.dPlain (h:Xm K):plainOver K 213=true:=N h.eB 3
theorem Xm.dTaker (h:Xm K):takerIn K 213 "handler_order" = some none:=N h.eV 11
theorem Xm.dHas (h:Xm K):hasDictIn K 213=true:=N h.eB 4
theorem Xm.dGet (h:Xm K):plainGet K 213 "handler_order" = true:=N h.eB 5
theorem Xm.dHo (h:Xm K):findIn K (.ref 213) "handler_order" = some (some (.int 500 452)):=N h.eV 12
theorem Xm.dNoG (h:Xm K):specialIn K (.int 500 452) "__get__" = some none:=N h.eV 13
theorem Xm.dLt (h:Xm K):findIn K (.ref 213) "__lt__" = some (some (.ref 210)):=N h.eV 14
theorem Xm.dLtF (h:Xm K):isFn K (.ref 210)=true:=N h.eB 6
theorem Xm.dMod (h:Xm K):subIn K (.ref 213) (.type "module")=some false:=N h.eO 0
theorem Xm.dGa (h:Xm K):findIn K (.ref 213) "__getattribute__" = some (some (.builtin "object.__getattribute__")):=N h.eV 15
theorem Xm.dObj (h:Xm K):Zz K 210=VP "__lt__" "BaseHandler.__lt__" 16 3 [] .none:=N h.eS 0
theorem Xm.dCode (h:Xm K):JP K 210=some (.ref 209):=N h.eT 0
theorem Xm.dCode2 (h:Xm K):codeIn K (.ref 209) "BaseHandler.__lt__" = true:=N h.eB 7
theorem Xm.dNf (h:Xm K):notFirst K 213 (.type "str")=true:=N h.eB 8
theorem Xm.aKeep (h:Xm K):keepIn K (.ref 101)=true:=N h.eB 9
theorem Xm.aMakes (h:Xm K):JU K 101=true:=N h.eB 10
theorem Xm.aCd (h:Xm K):(clsIn K 101).map (λcd=>(cd.mro.dropWhile (· != Value.ref 101)).drop 1)=some [Value.type "list",Value.type "object"]:=congrArg SeeT.c0 h
theorem Xm.aCd2 (h:Xm K):(clsIn K 101).map (λcd=>(cd.mro,cd.hasDict))=some ([Value.ref 101,Value.type "list",Value.type "object"],true):=congrArg SeeT.c1 h
theorem Xm.aCd3 (h:Xm K):(clsIn K 101).map (λcd=>cd.qualname)=some ("_Accumulator":Str):=congrArg SeeT.c2 h
theorem Xm.aSub (h:Xm K):mroIn K 101 (.ref 101)=some true:=N h.eO 1
theorem Xm.aSubL (h:Xm K):mroIn K 101 (.type "list")=some true:=N h.eO 2
theorem Xm.aCell (h:Xm K):V1 K 25=some (.cell (some (.ref 101))):=N h.eD 0
theorem Xm.aPart (h:Xm K):MOk K 98 97 "part_count" "_Accumulator.part_count" 3 8 [("__class__",25)] .none 277:=⟨N h.eS 1,N h.eT 1,N h.eB 11,N h.eT 2⟩
theorem Xm.aLen (h:Xm K):alongIn K "__len__" [.type "list",.type "object"]=some (some (.builtin "list.__len__")):=N h.eV 16
theorem Xm.aPop (h:Xm K):MOk K 61 60 "pop" "_Accumulator.pop" 3 3 [("__class__",25)] .none 240:=⟨N h.eS 2,N h.eT 3,N h.eB 12,N h.eT 4⟩
theorem Xm.aPopL (h:Xm K):alongIn K "pop" [.type "list",.type "object"]=some (some (.builtin "list.pop")):=N h.eV 17
theorem Xm.aMod (h:Xm K):subIn K (.ref 101) (.type "module")=some false:=N h.eO 3
theorem Xm.aTyp (h:Xm K):typeIn K (.ref 101)=some (.type "type"):=N h.eT 5
theorem Xm.aReset (h:Xm K):MOk K 83 82 "reset" "_Accumulator.reset" 3 6 [] (.ref 76) 262:=⟨N h.eS 3,N h.eT 6,N h.eB 13,N h.eT 7⟩
theorem Xm.aResetD (h:Xm K):V1 K 76=some (.seq #[.none]):=N h.eD 1
theorem Xm.aSeq (h:Xm K):noSeq K 101=true:=N h.eB 14
theorem Xm.aSi (h:Xm K):findIn K (.ref 101) "__setitem__" = some (some (.builtin "list.__setitem__")):=N h.eV 18
theorem Xm.aSa (h:Xm K):findIn K (.ref 101) "__setattr__" = some (some (.builtin "object.__setattr__")):=N h.eV 19
theorem Xm.aAt (h:Xm K):findIn K (.ref 101) "_initial_size" = some none:=N h.eV 20
theorem Xm.aInit (h:Xm K):MOk K 38 37 "__init__" "_Accumulator.__init__" 3 0 [("__class__",25)] (.ref 30) 213:=⟨N h.eS 4,N h.eT 8,N h.eB 15,N h.eT 9⟩
theorem Xm.aInitD (h:Xm K):V1 K 30=some (.seq #[.int 0 210]):=N h.eD 2
theorem Xm.aInitL (h:Xm K):alongIn K "__init__" [.type "list",.type "object"]=some (some (.builtin "list.__init__")):=N h.eV 21
theorem Xm.aFI (h:Xm K):findIn K (.ref 101) "__init__" = some (some (.ref 38)):=N h.eV 22
theorem Xm.aFIt (h:Xm K):typeIn K (.ref 38)=some (.type "function"):=N h.eT 10
theorem Xm.aLenO (h:Xm K):Zz K 68=VP "__len__" "_Accumulator.__len__" 3 4 [] .none:=N h.eS 5
theorem Xm.aLenO2 (h:Xm K):JP K 68=some (.ref 67):=N h.eT 11
theorem Xm.aLenC (h:Xm K):codeIn K (.ref 67) "_Accumulator.__len__" = true:=N h.eB 16
theorem Xm.aLenT (h:Xm K):COk K 67 63 251:=⟨N h.eF 0,N h.eT 12⟩
theorem Xm.aIter (h:Xm K):findIn K (.ref 101) "__iter__" = some (some (.builtin "list.__iter__")):=N h.eV 23
theorem Xm.aGa (h:Xm K):findIn K (.ref 101) "__getattribute__" = some (some (.builtin "list.__getattribute__")):=N h.eV 24
theorem Xm.aGt (h:Xm K):findIn K (.ref 101) "__getattr__" = some none:=N h.eV 25
theorem Xm.aHas (h:Xm K):hasDictIn K 101=true:=N h.eB 17
theorem Xm.aLenF (h:Xm K):findIn K (.ref 101) "__len__" = some (some (.ref 68)):=N h.eV 26
theorem Xm.aLenF2 (h:Xm K):isFn K (.ref 68)=true:=N h.eB 18
theorem Xm.mCount (h:Xm K):MethK K 101 "part_count" 98:=⟨N h.eV 27,N h.eT 13,N h.eB 19⟩
theorem Xm.mPop (h:Xm K):MethK K 101 "pop" 61:=⟨N h.eV 28,N h.eT 14,N h.eB 20⟩
theorem Xm.mReset (h:Xm K):MethK K 101 "reset" 83:=⟨N h.eV 29,N h.eT 15,N h.eB 21⟩
theorem Xm.lKeep (h:Xm K):keepIn K (.ref 178)=true:=N h.eB 22
theorem Xm.lGa (h:Xm K):findIn K (.ref 178) "__getattribute__" = some (some (.builtin "object.__getattribute__")):=N h.eV 30
theorem Xm.lGt (h:Xm K):findIn K (.ref 178) "__getattr__" = some none:=N h.eV 31
theorem Xm.lSa (h:Xm K):findIn K (.ref 178) "__setattr__" = some (some (.builtin "object.__setattr__")):=N h.eV 32
theorem Xm.lHas (h:Xm K):hasDictIn K 178=true:=N h.eB 23
theorem Xm.lCd (h:Xm K):(clsIn K 178).map (λcd=>(cd.mro,cd.hasDict))=some ([Value.ref 178,Value.type "object"],true):=congrArg SeeT.c3 h
theorem Xm.lAt1 (h:Xm K):findIn K (.ref 178) "lineno" = some none:=N h.eV 33
theorem Xm.lAt2 (h:Xm K):findIn K (.ref 178) "instream" = some none:=N h.eV 34
theorem Xm.lAt3 (h:Xm K):findIn K (.ref 178) "whitespace" = some none:=N h.eV 35
theorem Xm.lAt4 (h:Xm K):findIn K (.ref 178) "pushback" = some none:=N h.eV 36
theorem Xm.lRc (h:Xm K):MOk K 161 160 "_read_char" "_netrclex._read_char" 14 1 [] .none 402:=⟨N h.eS 6,N h.eT 16,N h.eB 24,N h.eT 17⟩
theorem Xm.mRc (h:Xm K):MethK K 178 "_read_char" 161:=⟨N h.eV 37,N h.eT 18,N h.eB 25⟩
theorem Xm.lGet (h:Xm K):MOk K 168 167 "get_token" "_netrclex.get_token" 14 2 [] .none 410:=⟨N h.eS 7,N h.eT 19,N h.eB 26,N h.eT 20⟩
theorem Xm.lRcG (h:Xm K):specialIn K (.ref 161) "__get__" = some (some (.builtin "function.__get__")):=N h.eV 38
theorem Xm.lRcT (h:Xm K):takesIn K (.ref 161)=some false:=N h.eO 4
theorem Xm.lPush (h:Xm K):MOk K 175 174 "push_token" "_netrclex.push_token" 14 3 [] .none 420:=⟨N h.eS 8,N h.eT 21,N h.eB 27,N h.eT 22⟩
theorem Xm.lInit (h:Xm K):MOk K 154 153 "__init__" "_netrclex.__init__" 14 0 [] .none 394:=⟨N h.eS 9,N h.eT 23,N h.eB 28,N h.eT 24⟩
theorem Xm.lMakes (h:Xm K):makesIn K 178=true:=N h.eB 29
theorem Xm.lFI (h:Xm K):findIn K (.ref 178) "__init__" = some (some (.ref 154)):=N h.eV 39
theorem Xm.lFIt (h:Xm K):typeIn K (.ref 154)=some (.type "function"):=N h.eT 25
theorem Xm.mGet (h:Xm K):MethK K 178 "get_token" 168:=⟨N h.eV 40,N h.eT 26,N h.eB 30⟩
theorem Xm.mPush (h:Xm K):MethK K 178 "push_token" 175:=⟨N h.eV 41,N h.eT 27,N h.eB 31⟩
theorem Xm.sObj (h:Xm K):Zz K 222=FZ:=N h.eS 10
theorem Xm.sObj2 (h:Xm K):JP K 222=some (.ref 221):=N h.eT 28
theorem Xm.sObj3 (h:Xm K):(Ld K 222).map (λfd=>(fd.annotations,fd.closureTuple))=some (none,Value.none):=congrArg SeeT.an h
theorem Xm.sCls (h:Xm K):Uw K 222=some (.type "function"):=N h.eT 29
theorem Xm.sCode (h:Xm K):codeIn K (.ref 221) "_law_stream" = true:=N h.eB 32
theorem Xm.sTab (h:Xm K):COk K 221 219 491:=⟨N h.eF 1,N h.eT 30⟩
noncomputable def CG (h:Heap) (as:List Addr):Frag:=as.filterMap λa=>(h.get? a).map λo=>(a,o)
theorem Bl {h:Heap} {as:List Addr} {a:Addr} {o:Obj} (e:(CG h as).lookup a=some o):h.get? a=some o∧a∈as:=by
 induction as with
 | nil=>cases e
 | cons b r ih=>
  unfold CG at e ih
  rw [List.filterMap_cons] at e
  cases hb:h.get? b with
  | none=>rw [hb] at e;exact ⟨(ih e).1,.tail _ (ih e).2⟩
  | some ob=>
   rw [hb] at e
   by_cases hab:a=b
   ·subst hab
    simp only [Option.map_some,List.lookup,beq_self_eq_true,Option.some.injEq] at e
    exact ⟨by rw [hb,e],.head _⟩
   ·have:(a==b)=false:=by simpa using hab
    simp only [Option.map_some,List.lookup,this] at e
    exact ⟨(ih e).1,.tail _ (ih e).2⟩
noncomputable def OI:List Addr:=[3,2,1,101,100,178,177,213,212,38,61,68,83,98,154,161,168,175,210,222,37,60,67,82,97,153,160,167,174,209,221,25,30,76]
noncomputable def Pd (s:Shared):SeeT:=KP (CG s.heap OI) ([63,219].map s.heap.get?)
end
section
set_option tactic.hygienic false
theorem OY:Tabs:=
 let _:Own:=hdO [] λ__=>0
 ⟨λm h0 h1=>YR (p:=λm=>∀ a,0≤a→a<9→∀ g,0≤g→g<9→∀ d,0≤d→d<9→LK (tn m) m a g d) tt0 tt1 tt2 m h0 h1,tw2,tw3⟩
end
section
set_option tactic.hygienic false
set_option maxHeartbeats 4000000
section
variable {K:Frag} {ord:Nat→Int} {W:Wd}
theorem Gm {C f:Addr} {name:Str} (o:Own) (e:o.KK=K) (h:MethK K C name f) {gid:String} (ga:findIn K (.ref C) "__getattribute__" = some (some (.builtin gid))) (hc:(Manifest.canonical gid != "object.__getattribute__")=false)
  (gt:findIn K (.ref C) "__getattr__" = some none):@Meth o C name f:=by
 subst e
 exact @Meth.mk o C name f ⟨gid,ga,hc⟩ gt h.hf h.ht h.kp
theorem Tz:(Manifest.canonical "list.__getattribute__" != "object.__getattribute__")=false:=by decide +kernel
theorem Mw:(Manifest.canonical "object.__getattribute__" != "object.__getattribute__")=false:=by decide +kernel
theorem RQ (hK:Xm K) (X:K.In W.h₀) (G:W.h₀.Ns mainGlobals W.mg):@DiscLt (hdO K ord) W:=by
 letI:Own:=hdO K ord
 have D:DiscOk W:=⟨X,mg_of X G hK.gDisc,hK.dKeep,hK.dMakes,hK.dInit,hK.dSet,hK.dPlain,hK.dTaker,hK.dHas,hK.dGet,hK.dHo,hK.dNoG,hK.dLt,hK.dLtF⟩
 refine { D with noMod:=hK.dMod,ga:=hK.dGa,ltObj:=?_ }
 refine Xi λgk=>?_
 refine G8 hK.dObj λoc od sl doc pm an cdv ct hl e __=>?_
 refine gk ?_;clear gk
 have e:cdv=.ref 209:=Option.some.inj (e.symm.trans hK.dCode)
 exact ⟨oc,od,sl,doc,pm,an,cdv,ct,hl,e▸hK.dCode2⟩
theorem Ph (hK:Xm K) (X:K.In W.h₀) (G:W.h₀.Ns mainGlobals W.mg):@AccOk (hdO K ord) hdA W:=by
 letI:Own:=hdO K ord
 letI:=hdA
 refine ⟨X,mg_of X G hK.gAcc,hK.aKeep,hK.aMakes,.inr trivial,λh X'=>looks_opaque X' hK.opq,Bz hK.aCd,hK.aSub,hK.aSubL,?_,hK.aPart.mfn,hK.aLen⟩
 exact Nn hK.aCell
theorem N3 {M:Model} {h:Heap} {a d:Addr} {us:List Value} {n:Nat} (e:h.get? a=some (Xu 101 d us n)):Looks M h (typeOf (.ref a)) (.ref 101):=(Looks.ld e).andThen .now
theorem C4 (hK:Xm K):@AccPop (hdO K ord) hdA W:=by
 letI:Own:=hdO K ord
 letI:=hdA
 refine ⟨hK.aPop.mfn,hK.aPopL,λh a d us n X' e=>⟨?_,?_,N3 e⟩,λh X'=>?_⟩
 ·exact (N3 e).andThen (looks_subIn X' hK.aMod)
 ·exact (Looks.ld (part:=none) e).andThen .now
 ·refine Vl hK.aCd3 λcd hc hq=>?_
  exact ⟨cd,by rw [hq];decide +kernel,looks_clsIn X' hc,looks_typeIn X' hK.aTyp⟩
theorem FH (hK:Xm K):@AccReset (hdO K ord) hdA W 76:=by
 letI:Own:=hdO K ord
 letI:=hdA
 refine ⟨hK.aReset.mfn,?_,hK.aSeq,hK.aSi,hK.aSa,hK.aAt,?_⟩
 ·refine Ti hK.aResetD λ__ __ __ h=>?_
  exact ⟨_,_,h,rfl⟩
 ·refine Vl hK.aCd2 λcd h e=>?_
  exact ⟨cd,h,congrArg Prod.fst e,congrArg Prod.snd e⟩
theorem IN (hK:Xm K):@AccInit (hdO K ord) hdA W 30:=by
 letI:Own:=hdO K ord
 letI:=hdA
 refine ⟨hK.aInit.mfn,?_,hK.aInitL⟩
 refine Xi λgk=>?_
 refine Ti hK.aInitD λ__ __ __ h=>?_
 refine gk ?_;clear gk
 exact ⟨_,_,_,h,rfl⟩
theorem PU (hK:Xm K) (bm:∃ bm ob,BMod W.h₀ mainGlobals W.mg bm ob):@AccLen (hdO K ord) hdA W 67 63:=by
 letI:Own:=hdO K ord
 letI:=hdA
 refine Xi λgk=>?_
 refine hK.aLenT.invE λod' sl' vs hc hv=>?_
 refine gk ?_;clear gk
 simp only [UQ,Prod.mk.injEq] at hv
 refine ⟨⟨?_,hK.aLenC,⟨_,vs,hc,rfl,rfl,hv.1⟩,⟨_,vs,_,_,_,_,_,_,_,hc,rfl,hv.2⟩⟩,hK.aIter,hK.aGa,hK.aGt,hK.aHas,hK.aAt,bm⟩
 refine Xi λgk=>?_
 refine G8 hK.aLenO λoc od sl doc pm an cdv ct hl e __=>?_
 refine gk ?_;clear gk
 have e:cdv=.ref 67:=Option.some.inj (e.symm.trans hK.aLenO2)
 exact ⟨oc,od,sl,doc,pm,an,ct,e▸hl⟩
theorem CX (hK:Xm K) (X:K.In W.h₀) (G:W.h₀.Ns mainGlobals W.mg):@LexOk (hdO K ord) hdL W:=by
 letI:Own:=hdO K ord
 letI:=hdL
 refine ⟨X,mg_of X G hK.gLex,hK.lKeep,hK.lGa,hK.lSa,hK.lHas,?_,hK.lAt1,hK.lAt2,hK.lAt3,hK.lAt4,hK.lRc.mfn,Gm _ rfl hK.mRc hK.lGa Mw hK.lGt⟩
 refine Vl hK.lCd λcd h e=>?_
 exact ⟨cd,h,congrArg Prod.fst e,congrArg Prod.snd e⟩
theorem C6 (hK:Xm K) (X:K.In W.h₀) (G:W.h₀.Ns mainGlobals W.mg) (bm:∃ bm ob,BMod W.h₀ mainGlobals W.mg bm ob):@StrOk hdL W:=by
 letI:=hdL
 refine Xi λgk=>?_
 refine hK.sTab.invE λod' sl' vs hc hv=>?_
 refine gk ?_;clear gk
 simp only [UQ,Prod.mk.injEq] at hv
 refine ⟨?_,codeRec_of X hK.sCode,⟨_,vs,X _ _ hc,rfl,rfl,hv.1⟩,⟨_,vs,_,_,_,_,_,_,_,X _ _ hc,rfl,hv.2⟩,bm⟩
 refine Xi λgk=>?_
 refine G8 hK.sObj λoc od sl doc pm an cdv ct hl e ea=>?_
 refine gk ?_;clear gk
 have e:cdv=.ref 221:=Option.some.inj (e.symm.trans hK.sObj2)
 have ea:(an,ct)=(none,Value.none):=Option.some.inj (ea.symm.trans hK.sObj3)
 have e3:oc=.type "function":=by have:=hK.sCls;unfold Uw at this;rw [hl] at this;exact Option.some.inj this
 cases ea
 subst e e3
 exact ⟨222,od,sl,pm,doc,mg_of X G hK.gStr,X _ _ hl⟩
theorem CV (hK:Xm K) (X:K.In W.h₀) (G:W.h₀.Ns mainGlobals W.mg) (bm:∃ bm ob,BMod W.h₀ mainGlobals W.mg bm ob) (mono:∀ i j,ord i<ord j↔i<j):@AllOk (hdO K ord) hdA hdL hdX W:=by
 letI:Own:=hdO K ord
 letI:=hdA
 letI:=hdL
 letI:=hdX
 exact {
  acc:=Ph hK X G
  accS:=⟨λys n as us xs=>Iff.rfl⟩
  pop:=C4 hK
  reset:=FH hK
  init:=IN hK
  new:=⟨hK.aFI,hK.aFIt⟩
  len:=PU hK bm
  lenT:=⟨λas us xs=>Iff.rfl⟩
  lenF:=hK.aLenF
  lenF2:=hK.aLenF2
  mCount:=Gm _ rfl hK.mCount hK.aGa Tz hK.aGt
  mPop:=Gm _ rfl hK.mPop hK.aGa Tz hK.aGt
  mReset:=Gm _ rfl hK.mReset hK.aGa Tz hK.aGt
  lex:=CX hK X G
  lexS:=⟨λt p l as us xs=>Iff.rfl⟩
  lexGet:=⟨hK.lGet.mfn,hK.lRcG,hK.lRcT,hK.lGt⟩
  lexPush:=⟨hK.lPush.mfn⟩
  lexNew:=⟨hK.lInit.mfn,hK.lMakes,hK.lFI,hK.lFIt⟩
  str:=C6 hK X G bm
  tabS:=⟨λas us xs=>Iff.rfl,λas us xs=>Iff.rfl⟩
  txt:=⟨λs w n h=>by refine h.elim λl zz=>zz.elim λe zz=>zz.elim λh1 zz=>zz.elim λh2 zz=>zz.elim λh3 h4=>?_;exact ⟨l,e,h1,h2,h3⟩⟩
  mGet:=Gm _ rfl hK.mGet hK.lGa Mw hK.lGt
  mPush:=Gm _ rfl hK.mPush hK.lGa Mw hK.lGt
  disc:=RQ hK X G
  nf:=hK.dNf
  mono:=mono }
theorem WV (hK:Xm K) (X:K.In W.h₀) (G:W.h₀.Ns mainGlobals W.mg) (hb:NoneBooked W.h₀):Flts W:=⟨⟨297,by decide,mg_of X G hK.f1⟩,⟨301,by decide,mg_of X G hK.f2⟩,⟨305,by decide,mg_of X G hK.f3⟩,hb⟩
theorem PR (hK:Xm K) (P:PW W) (X:K.In W.h₀) (hm:(recsOf pw)[7]?=some ⟨"_law_disc",ZZ Ys,Yl Ys,Yj Ys,U3 Ys⟩):@LawOk (hdO K ord) W:=by
 letI:Own:=hdO K ord
 refine ⟨D6 P (RQ hK X P.glb.g).toDiscOk hm,⟨λs w n h=>?_⟩,⟨λl w n h=>⟨l,rfl,h⟩⟩⟩
 obtain ⟨l,rfl,h1,h2,h3,h4⟩:=h
 exact h4
end
end
section
set_option tactic.hygienic false
set_option maxHeartbeats 4000000
noncomputable def WQ:Rho:=λi=>match i with
 | 1=>[63]
 | 2=>[219]
 | _=>[]
theorem Vf {b:Addr} (h:own WQ b):b=63∨b=219:=by
 refine h.elim λi hi=>?_
 match i,hi with
 | 0,hi=>cases hi
 | 1,hi=>exact .inl (List.mem_singleton.mp hi)
 | 2,hi=>exact .inr (List.mem_singleton.mp hi)
 | n+3,hi=>cases hi
theorem WN [Own] {h:H} {p:Prop} (e:okH h p):(∃ n l,h=.mk n ((0,.tab 0) :: (1,.tab 2) :: l))∧p:=by
 cases h with | mk n l=>
 refine Xi λgk=>?_
 refine Yu e λa0 l0 e0 e=>?_
 refine ZE e λo0 f0 e=>?_
 refine Mz e λg0 e=>?_
 refine Yu e λa1 l1 e1 e=>?_
 refine ZE e λo1 f1 e=>?_
 refine Mz e λg1 e=>?_
 refine gk ?_;clear gk
 exact ⟨⟨n,l1,by rw [e0,e1,f0,f1,g0,g1]⟩,e⟩
theorem Kt {ρ:Rho} {h:Heap} [Cs]:∀ {vs:List Value} {ns:List Int},IntsAre vs ns→VRs ρ h vs (Z8 ns)
 | _,_,.nil=>.nil
 | _,_,.cons n t r=>.cons (.int n t) (Kt r)
theorem HH {K:Frag} {w:World} {s₁:Shared} {p:Program} {loose:List Str} {mean:ExcName→Option Value} {mg mb:Str→Option Value} {fa a:Addr} {vs:List Value} {ns:List Int}
  (hK:Xm K) (X:K.In s₁.heap) (hin:∀ a o,K.lookup a=some o→a≠63∧a≠219) (h63:s₁.heap.get? 63=some (Yz #[])) (h219:s₁.heap.get? 219=some (Yz #[])) (T:Top p loose mean mg mb s₁.heap) (hrec:recsOf p=recsOf pw)
  (hmg:mg "law" = some (.ref fa)) (hg:s₁.gens=#[]) (hsz:s₁.heap.objs.size=a+1) (hobj:s₁.heap.get? a=some { cls:=.type "list",data:=.seq vs.toArray }) (hI:IntsAre vs ns) (hlen:ns.length≤63)
  (TB:Tabs) (hm:(recsOf pw)[7]?=some ⟨"_law_disc",ZZ Ys,Yl Ys,Yj Ys,U3 Ys⟩) :
  wpAny (model pw w) callerA (call (.ref fa) [.ref a]) (λv s'=>v=.bool true∧OldK s₁.heap s'.heap∧s'.os=s₁.os∧AllBare s'.gens) (λ__ __=>False) s₁:=by
 have TT:TwoTabs s₁.heap 63 219:=⟨h63,h219⟩
 refine Xi λgk=>?_
 obtain ⟨ord,hord⟩:∃ ord:Nat→Int,∀ k:Nat,ord k=500+((k:Int)-ownOf ns)*JW ns:=⟨_,λ__=>rfl⟩
 refine gk ?_;clear gk
 have hst:0<JW ns:=by
  unfold JW
  have:=@fm (hdO K λ__=>0) (Int.fdiv (C2' ns) 9) 600 (by decide)
  omega
 have mono:∀ i j,ord i<ord j↔i<j:=λi j=>by
  rw [hord,hord]
  constructor
  ·intro h
   have h1:((i:Int)-ownOf ns)*JW ns<((j:Int)-ownOf ns)*JW ns:=by omega
   have:=Int.lt_of_mul_lt_mul_right h1 (Int.le_of_lt hst)
   omega
  ·intro h
   have h1:((i:Int)-ownOf ns)<((j:Int)-ownOf ns):=by omega
   have:=Int.mul_lt_mul_of_pos_right h1 hst
   omega
 letI:Own:=hdO K ord
 letI:=hdA
 letI:=hdL
 letI:=hdX
 refine Xi λgk=>?_
 obtain ⟨W,hW⟩:∃ W:Wd,W=⟨pw,w,Gh s₁.heap 63 219,s₁.os,mg,mb⟩:=⟨_,rfl⟩
 have X':K.In W.h₀:=λb o e=>by rw [hW];exact (Tl (hin b o e).1 (hin b o e).2).trans (X b o e)
 have G:Glb W:=by
  rw [hW]
  obtain ⟨mc,n1,n2⟩:=T.nolimit
  exact ⟨TT.ns T.g,TT.ns T.b,⟨mc,TT.ns n1,n2⟩,T.builtins,⟨a,_,TT.at_ hobj (λz=>by cases z),by rw [GR];exact hsz⟩⟩
 have P:PW W:=by
  refine ⟨by rw [hW],G,?_,λx hx=>?_,λd hd=>?_⟩
  ·obtain ⟨o,e⟩:=Option.isSome_iff_exists.mp hK.sys
   exact ⟨o,X' _ _ e⟩
  ·exact W7 X' G.g (List.map_inj_left.mp hK.gNo x hx)
  ·rw [← hrec] at hd
   obtain ⟨f,o,pm,code,doc,e1,e2,e3,e4⟩:=T.fn d hd
   rw [hW]
   exact ⟨f,o,pm,code,doc,e1,TT.at_ e2 (by rw [e3];intro z;cases z),e3,TT.code e4⟩
 have bm:∃ bm ob,BMod W.h₀ mainGlobals W.mg bm ob:=by
  obtain ⟨bm,ob,b1,b2,b3,b4,b5,b6⟩:=T.bmain
  refine ⟨bm,ob,G.g,?_,b2,?_,b4,b5,b6⟩
  ·rw [hW];exact b1
  ·rw [hW];exact TT.at_ b3 (by rw [b6];intro z;cases z)
 have hb:NoneBooked W.h₀:=by
  obtain ⟨mc,n1,n2⟩:=G.nl
  exact ⟨mc,n1,W7 X' n1 hK.bk⟩
 have O:Ok W WQ H2 s₁:=by
  refine ⟨⟨λn l e i hi=>?_,λn l e i hi=>?_,λn l e i o hl=>?_,λb hb=>(by cases hb),λi j b hi hj=>?_,λb hb=>?_⟩,λb o e=>?_,λy hy=>(by rw [hg] at hy;simp at hy),by rw [hW]⟩
  ·cases e
   match i,hi with
   | n+2,_=>rfl
  ·cases e
   match i,hi with
   | 0,_=>exact ⟨_,rfl⟩
   | 1,_=>exact ⟨_,rfl⟩
   | n+2,hi=>exact absurd rfl hi
  ·cases e
   match i,hl with
   | 0,hl=>
    cases hl
    exact ⟨[(63,Yz #[])],[],[],rfl,by simp,λq hq=>by rw [List.mem_singleton] at hq;subst hq;exact TT.p,.nil,rfl,rfl,_,_,rfl,rfl,trivial,rfl⟩
   | 1,hl=>
    cases hl
    exact ⟨[(219,Yz #[])],[],[],rfl,by simp,λq hq=>by rw [List.mem_singleton] at hq;subst hq;exact TT.q,.nil,rfl,rfl,_,rfl,rfl,rfl⟩
   | n+2,hl=>cases hl
  ·match i,j,hi,hj with
   | 0,_,hi,_=>cases hi
   | 1,1,_,_=>rfl
   | 2,2,_,_=>rfl
   | 1,2,hi,hj=>rw [List.mem_singleton.mp hi] at hj;cases List.mem_singleton.mp hj
   | 2,1,hi,hj=>rw [List.mem_singleton.mp hi] at hj;cases List.mem_singleton.mp hj
   | n+3,_,hi,_=>cases hi
   | 1,0,_,hj=>cases hj
   | 2,0,_,hj=>cases hj
   | 1,n+3,_,hj=>cases hj
   | 2,n+3,_,hj=>cases hj
  ·rw [hW]
   rcases Vf hb with rfl | rfl
   ·exact RS
   ·exact MG
  ·rw [hW] at e
   exact (HJ e).1
 have hfit:Yr (Z8 ns)=true:=by
  unfold Yr
  rw [Yh]
  unfold Z8
  rw [List.length_map]
  exact Nat.ble_eq.mpr (by omega)
 obtain ⟨M1,M2,hrun⟩:=II TB ns hfit hord
 obtain ⟨a',o,fd,e1,e2,e3,SF⟩:=WJ P (CV hK X' G.g bm mono) (WV hK X' G.g hb) (PR hK P X' hm) M1 M2
 have ea:a'=fa:=by
  rw [hW] at e1
  have:mg "law" = some (.ref a'):=e1
  rw [hmg] at this
  injection this with this
  injection this with this
  exact this.symm
 clear hmg;subst ea
 refine gk ?_;clear gk
 have ha:¬ own WQ a:=λh=>by
  clear hsz;rcases Vf h with rfl | rfl
  ·have:=TT.p;rw [hobj] at this;cases this
  ·have:=TT.q;rw [hobj] at this;cases this
 have SF':=SF callerA WQ H2 s₁ [.seq true (Z8 ns)] [.ref a] Rx (λv s'=>v=.bool true∧OldK s₁.heap s'.heap∧s'.os=s₁.os∧AllBare s'.gens) (λ__ __=>False)
  ⟨rfl,by decide +kernel,by decide +kernel⟩ (.cons (.seq ha ⟨_,hobj⟩ (Kt hI)) .nil) O hrun λv mv ρ' σ' s' hk hv O' X''=>?_
 ·rw [hW] at SF';exact SF'
 refine Xi λgk=>?_
 obtain ⟨⟨n,l,rfl⟩,rfl⟩:=WN (show okH σ' (mv=.bool true) from hk)
 refine gk ?_;clear gk
 cases hv
 have g63:∃ ps,s'.heap.get? 63=some (Yz ps):=by
  obtain ⟨as,us,xs,q1,q2,q3,q4,q5⟩:=O'.hr.obj _ _ rfl 0 (.tab 0) rfl
  clear q1 q2;obtain ⟨_,_,op,ps,rfl,_,_,rfl⟩:=q5
  exact ⟨ps,q3 _ (.head _)⟩
 have g219:∃ ps,s'.heap.get? 219=some (Yz ps):=by
  obtain ⟨as,us,xs,q1,q2,q3,q4,q5⟩:=O'.hr.obj _ _ rfl 1 (.tab 2) rfl
  clear q1 q2;obtain ⟨_,_,op,rfl,ps,rfl⟩:=q5
  exact ⟨ps,q3 _ (.head _)⟩
 have ct:∀ c q t,COk K c q t→isCodeTable s₁.heap q:=λc q t h1=>by
  refine h1.invE λod sl vs hl hv=>?_
  exact ⟨c,_,vs,X _ _ hl,rfl,rfl,congrArg Prod.fst hv⟩
 refine ⟨rfl,⟨λb o e=>?_,λb o e=>?_⟩,by rw [O'.os,hW],O'.gens⟩
 ·by_cases h1:b=63
  ·subst h1
   rw [TT.p] at e;cases e
   obtain ⟨ps,g⟩:=g63
   exact .inr (.inl ⟨ct _ _ _ hK.aLenT,rfl,#[],ps,rfl,by rw [Array.empty_append];exact g⟩)
  by_cases h2:b=219
  ·clear h1;subst h2
   rw [TT.q] at e;cases e
   obtain ⟨ps,g⟩:=g219
   exact .inr (.inl ⟨ct _ _ _ hK.sTab,rfl,#[],ps,rfl,by rw [Array.empty_append];exact g⟩)
  exact .inl (X''.keep b o e λh=>by rcases Vf h with h | h <;> first | exact h1 h | exact h2 h)
 ·by_cases h1:b=63
  ·clear e;subst h1;obtain ⟨ps,g⟩:=g63;exact ⟨_,g⟩
  by_cases h2:b=219
  ·clear e h1;subst h2;obtain ⟨ps,g⟩:=g219;exact ⟨_,g⟩
  exact ⟨o,X''.keep b o e λh=>by rcases Vf h with h | h <;> first | exact h1 h | exact h2 h⟩
theorem Dp {w:World} {s₀ s₁:Shared} {p:Program} {loose:List Str} {mean:ExcName→Option Value} {mg mb:Str→Option Value} {fa a:Addr} {vs:List Value} {ns:List Int}
  (Y:Pd s₀=Tk) (k:∀ b o,s₀.heap.get? b=some o→s₁.heap.get? b=some o) (T:Top p loose mean mg mb s₁.heap) (hrec:recsOf p=recsOf pw)
  (hmg:mg "law" = some (.ref fa)) (hg:s₁.gens=#[]) (hsz:s₁.heap.objs.size=a+1) (hobj:s₁.heap.get? a=some { cls:=.type "list",data:=.seq vs.toArray }) (hI:IntsAre vs ns) (hlen:ns.length≤63)
  (TB:Tabs) (hm:(recsOf pw)[7]?=some ⟨"_law_disc",ZZ Ys,Yl Ys,Yj Ys,U3 Ys⟩) :
  wpAny (model pw w) callerA (call (.ref fa) [.ref a]) (λv s'=>v=.bool true∧OldK s₁.heap s'.heap∧s'.os=s₁.os∧AllBare s'.gens) (λ__ __=>False) s₁:=by
 refine Xi λgk=>?_
 refine (FM Y).elim λhK ht=>?_
 refine gk ?_;clear gk
 simp only [tsW,List.map_cons,List.map_nil,List.cons.injEq,and_true] at ht
 refine HH hK (λb o e=>k _ _ (Bl e).1) (λb o e=>?_) (k _ _ ht.1) (k _ _ ht.2) T hrec hmg hg hsz hobj hI hlen TB hm
 have:=(Bl e).2
 refine ⟨?_,?_⟩ <;> rintro rfl <;> exact absurd this (by decide)
end
end Mine
open PySem PySem.W PySem.W.X PyProof.Rows PySem.Calls
namespace Mine
noncomputable def H4:Program:={ pw with main:={ pw.main with body:=([0,1,2,4,8,9,10,11,12,13,14,15,17,18,19,20,21,22,23,24,25,26,27]:List Nat).filterMap λi=>pw.main.body[i]? } }
noncomputable def Hj:List Str:=["_Accumulator","ONE_THIRD","ONE_SIXTH","TWO_THIRD","BaseHandler"]
theorem BV:LeftO pw H4 Hj (λs=>recOk [] s) Pd (λ__=>Tk) 4000:=λw=>by kernel_rfl
theorem F3:PySem.Challenge.rw_wv0017_01.wellSaid=true:=by kernel_rfl
theorem P3:(recsOf pw)[7]?=some ⟨"_law_disc",ZZ Ys,Yl Ys,Yj Ys,U3 Ys⟩:=by kernel_rfl
theorem BR:recsOf H4=recsOf pw:=by kernel_rfl
end Mine
set_option Elab.async false
set_option maxRecDepth 100000 in
set_option maxHeartbeats 4000000 in
theorem PySem.Challenge.cw_wv0017_01_holds : PySem.Challenge.rw_wv0017_01.Holds := by
 w_on
 refine holds_law Mine.F3 λsaid=>?_
 refine holds_openX (d:=⟨"law",Mine.ZZ 27,Mine.Yl 27,Mine.Yj 27,Mine.U3 27⟩) (kwd:=[]) (q:=Mine.H4) (loose:=Mine.Hj) (Xt:=λs=>recOk [] s) (XP:=λ__ __=>True) (Yf:=Mine.Pd) (Ya:=λ__=>Mine.Tk) (N:=4000) Mine.BV (λ__ __=>trivial) (λ__ __ __ __ __=>trivial) (by kernel_rfl) (by kernel_rfl) (by kernel_rfl) (λs e=>recFacts_of e) (by kernel_rfl) (by first | assumption | decide +kernel) (by decide +kernel) ⟨rfl,rfl,rfl,rfl,rfl,by decide +kernel⟩ ?hw ?hc
 (case hw=>w_witness2)
 k_fill
 intro w s₀ s₁ mg mb G y fa o pm cd doc dV kV ho hd hcd hD hmg hg args vals as L hpre hlay hrd hwl hlo
 refine Ground.open G ?_
 intro T B D TE TW
 wrow_args hpre hlay hrd hwl hlo
 rename_i ns hs1 hlay0 hL1 hr1 hl2 as1 as2 a vs0 as3 hL ra w1 r0 hI hr hcond hcond2
 obtain ⟨hat,hsz⟩:=script_at L
 have hsz1:s₁.heap.objs.size=a+1:=by rw [hat];exact hsz
 refine wpAny_mono (Mine.Dp (a:=a) (vs:=vs0) (ns:=ns) y L.keeps T Mine.BR hmg hg hsz1 (script_obj L hL) hI (by omega) Mine.OY Mine.P3) (λv s' z=>?_) (λ__ __ z=>z.elim)
 obtain ⟨rfl,z1,z2,z3⟩:=z
 exact ⟨.inl ⟨_,_,[],rfl,λ__=>rfl,ReadsW.bool true,by kernel_rfl,λ__=>⟨List.nodup_nil,λ__ h=>nomatch h⟩⟩,z1,z2,z3⟩
